import JvmDerived
import JvmDerived.Pilot.@@N@@Statement
import JvmDerived.Pilot.@@N@@Code
set_option linter.unusedVariables false
set_option linter.unusedSimpArgs false
namespace Jvm.RoadKit
open Sem ClassFile Op Lib Jvm.Stand Jvm.Free Jvm.LawKit
section New
variable {p : Program} {l : Launch} {e : Env} {R : Room} {s : State} {m : MethodId} {args : Array Value} {below : List Frame} {meth : Method} {c : Code} {T : State} {locs : List Loc} {cells slots : Nat}
theorem retI (X : Stand p l e R s m args below meth c T locs cells slots) (hx : p.tables.exec = Jvm.exec) {pc : Nat} {Ls : Array Slot} {z : Int32} {rest : List Value} (hret : meth.sig.returnType = some .int) (hd : decode c.code pc = .ok (.ireturn, 1)) {fs : List Frame}
    (hl : ∀ (f : JFrame) (acts : List Action), f.method = m → f.locked = none → f.entered = [] → (doReturn e (T.setTop f) acts (some (.int z))).1 = T.setFrames fs) : Steps p.tables e below (T.setTop (mkF m pc Ls (.int z :: rest))) (T.setFrames fs) := by
  have hm' : T.vm.method? m = some meth := X.method'
  have hn : narrow .int (.int z) = .int z := rfl
  show Steps p.tables e below (T.setTop { method := m, pc := pc, locals := Ls, stack := _ :: rest, locked := none }) _
  jvm_step X.here [X.here.top, hx, hd, hm', hret, hn]
  first | (intro acts; rw [hl _ acts rfl rfl rfl]) | rw [hl _ _ rfl rfl rfl]
  exact Steps.refl _
end New
end Jvm.RoadKit
namespace Jvm.Pilot.@@N@@
open Jvm Jvm.ClassFile Sem Op Lib Jvm.Free Jvm.Stand Jvm.LawKit Jvm.RoadKit Bundle Jvm.Pilot.@@N@@.Jvm.D
def QP (r : Option Value) (h0 : Heap) (n0 : Nat) (v : Option Value) (h : Heap) (L : List Loc) : Prop := v = r ∧ Fr n0 L ∧ h = h0
def QW (P : Option Value → Heap → Prop) (n0 : Nat) (v : Option Value) (h : Heap) (L : List Loc) : Prop := Fr n0 L ∧ P v h
def Q0 (n0 : Nat) (v : Option Value) (h : Heap) (L : List Loc) : Prop := v = some (.int 1) ∧ Fr n0 L
theorem own_selP {Z s : State} {a0 args : Array Value} {C : String} {y z w : MethodName} (hZ : Z.Warmed39 s.vm) (hs : (Jvm.Cond.selects C z w).before a0 Z = true) (he : w.cls = y.cls) (hp : (Jvm.Cond.privateMethod y).before a0 Z = true) (hi : (Jvm.Cond.instanceMethod y).before a0 Z = true) (hy : y.cls ≠ "java/lang/invoke/MethodHandle" ∧ y.cls ≠ "java/lang/invoke/VarHandle") : (Jvm.Cond.selects y.cls y y).before args s = true := by
  obtain ⟨c, r, m, -, -, k2, -, k, hk, hki⟩ := Cond.selects_spec (mvT hZ hs (args := args))
  have hc := findClass_of_methodNamed k2
  rw [he] at hc
  exact Jvm.Stand.selects_self_of_private hc hk hki (Cond.privateMethod_at (mvP hZ hp (args := #[]))) (mvT hZ hi) hy
theorem own_byte (x : Int32) : x.toInt8.toInt32.toInt8.toInt32 = x.toInt8.toInt32 := by simp
theorem own_len {s : State} {args : Array Value} {t : Term} {a : Addr} {cl : Cell} {ty : FieldType} {n : Int32} (ev : t.eval args s none [] s = some (.ref a)) (A : Arr s s.heap a cl ty) (h : (Jvm.Cond.eq (Term.length t) (Term.int n)).value args s none s [] = some true) : cl.slots.size < 2 ^ 31 ∧ cl.slots.size.toInt32 = n := by
  have e := eqv_i (Term.int_eval _) h
  have ha := A.fin (Vm.Alike.refl _)
  by_cases q : cl.slots.size < 2 ^ 31
  · refine ⟨q, ?_⟩
    rw [len_f ev ha q] at e
    cases e; rfl
  · simp [Term.eval, ev, ha, q] at e
theorem own_eqr {s : State} {args : Array Value} {t u : Term} {y : Addr} (hu : u.eval args s none [] s = some (.ref y)) (h : (Jvm.Cond.eq t u).value args s none s [] = some true) : t.eval args s none [] s = some (.ref y) := by
  obtain ⟨x, y', e1, e2, k1, k2⟩ := cmp_v (Or.inl h)
  cases hu.symm.trans e2
  have hx : x.isRef = true := k2.2
  exact e1.trans (congrArg some (gotT (eq_R e1 hu hx rfl) h))
theorem own_sta_idx {s : State} {args : Array Value} {C n d : String} {v : Value} (h : (Term.static C n d).eval args s none [] s = some v) {idx : List Nat} : (Term.static C n d).eval args s none idx s = some v := h
theorem own_idx {s : State} {args : Array Value} {j : Int32} (hj : ¬ j < 0) : (Term.sub (Term.index 0) (Term.int 128)).eval args s none [j.toNatClampNeg] s = some (.int (j - (128 : Int32))) := by
  have e := idx_at (args := args) (s := s) (first := s) (o := none) hj
  show (do let x ← (Term.index 0).eval args s none [j.toNatClampNeg] s; let y ← (Term.int 128).eval args s none [j.toNatClampNeg] s; _) = _
  rw [e]; rfl
theorem own_plus1 {s : State} {args : Array Value} {t : Term} {a : Addr} {cl : Cell} {n : Int32} (hf : Fit s) (et : ∀ idx, t.eval args s none idx s = some (.ref a)) (A : Arr s s.heap a cl .int) (sz : cl.slots.size < 2 ^ 31) (z : cl.slots.size.toInt32 = n)
    (h : (Jvm.Cond.all t (.eq (.op1 .i2l (.elem t (.index 0))) (.op2 .ladd (.op1 .i2l (.index 0)) (.long 1)))).value args s none s [] = some true) (i : Nat) (k : Int32) (hi : i < n.toNatClampNeg) (hk : k.toInt64 = i.toInt32.toInt64 + 1) : cl.slots[i]? = some (.int k) := by
  have S : cl.slots.size = n.toNatClampNeg := by rw [← z]; simp only [Int32.toNatClampNeg, len_toInt sz]; rfl
  have hi' : i < cl.slots.size := S ▸ hi
  have e1 : (Nat.toInt32 i).toNatClampNeg = i := by simp only [Int32.toNatClampNeg, len_toInt (Nat.lt_trans hi' sz)]; rfl
  have hin : ¬ (i.toInt32 < 0 ∨ cl.slots.size ≤ i.toInt32.toNatClampNeg) := idx_in hi' sz
  have nn : ¬ i.toInt32 < 0 := fun q => hin (Or.inl q)
  have u := Cond.all_elim (et []) (A.fin (Vm.Alike.refl _)) h i hi'
  obtain ⟨v, hv, hfv⟩ := elem_fit hf A hin
  obtain ⟨x, rfl⟩ := fit_I hfv (Or.inl rfl)
  have ix : (Term.index 0).eval args s none [i] s = some (.int i.toInt32) := by
    have := idx_at (args := args) (s := s) (first := s) (o := none) nn
    rwa [e1] at this
  have el : (Term.elem t (.index 0)).eval args s none [i] s = some (.int x) := (elem_f (et _) ix (A.fin (Vm.Alike.refl _)) nn).trans hv
  have l1 := i2l_at el
  have l2 : (Term.op2 .ladd (.op1 .i2l (.index 0)) (.long 1)).eval args s none [i] s = some (.long (i.toInt32.toInt64 + 1)) := by
    rw [op2_f (i2l_at ix) (long_at 1)]; rfl
  have e := gotT (eq_L l1 l2) u
  have ex : x = k := by
    apply Int32.toInt_inj.mp
    have q := congrArg Int64.toInt (e.trans hk.symm)
    rwa [Int32.toInt_toInt64, Int32.toInt_toInt64] at q
  rw [e1] at hv
  rw [hv, ex]
def Wd (Z : State) (w_n1 : Addr) (w_n0 : Addr) (k_n0 : ClassId) : Prop := Sta Z Z.heap "com/example/keyfold/keyfold/core/ValueType" "BINARY" "Lcom/example/keyfold/keyfold/core/ValueType;" (.ref w_n1) ∧ Exa Z Z.heap w_n1 "com/example/keyfold/keyfold/core/ValueType" ∧ Sta Z Z.heap "com/example/keyfold/keyfold/core/Value$1" "$SwitchMap$com$example$keyfold$keyfold$core$ValueType" "[I" (.ref w_n0) ∧ Fld Z Z.heap w_n1 "java/lang/Enum" "ordinal" "I" (.int (4 : Int32)) ∧ Arv Z Z.heap w_n0 k_n0 .int (5 : Int32) [(.int (1 : Int32)), (.int (2 : Int32)), (.int (3 : Int32)), (.int (4 : Int32)), (.int (5 : Int32))] (.int (0 : Int32))
set_option maxRecDepth 65536 in
set_option maxHeartbeats 4000000 in
theorem wd_start {s : State} {a0 : Array Value} (hfit : Fit s) (hw : ∀ d ∈ tables_1, d.before a0 s = true) (hn : narrow_1.value a0 s none s [] = some true) : ∃ (w_n1 : Addr) (w_n0 : Addr) (k_n0 : ClassId), Wd s w_n1 w_n0 k_n0 := by
  obtain ⟨q0, hn0⟩ := and_e hn
  obtain ⟨q1, hn1⟩ := and_e hn0
  obtain ⟨q2, hn2⟩ := and_e hn1
  obtain ⟨q3, hn3⟩ := and_e hn2
  have q4 := hn3
  obtain ⟨w_n1, ew_n1⟩ := exa_v q0
  have S_n1 := Sta.start ew_n1 (Or.inr ⟨(hw _ (List.mem_of_getElem? (i := 9) rfl)), (hw _ (List.mem_of_getElem? (i := 10) rfl))⟩)
  have E_n1 := Exa.start ew_n1 q0
  obtain ⟨w_n0, ew_n0⟩ := arr_v q1
  have S_n0 := Sta.start ew_n0 (Or.inr ⟨(hw _ (List.mem_of_getElem? (i := 40) rfl)), (hw _ (List.mem_of_getElem? (i := 41) rfl))⟩)
  obtain ⟨cl_n0, A_n0⟩ := Arr.start ew_n0 q1
  have F_n1_ordinal := Fld.start ((fld_at ew_n1).symm.trans (eqv_i (Term.int_eval _) q3))
  obtain ⟨sz_n0, z_n0⟩ := own_len ew_n0 A_n0 q2
  obtain ⟨k_n0, k_n0_e⟩ : ∃ z, z = cl_n0.cls := ⟨_, rfl⟩
  have el_n0_0 := own_plus1 hfit (fun idx => own_sta_idx ew_n0) A_n0 sz_n0 z_n0 q4 0 (1 : Int32) (by decide) (by decide)
  have el_n0_1 := own_plus1 hfit (fun idx => own_sta_idx ew_n0) A_n0 sz_n0 z_n0 q4 1 (2 : Int32) (by decide) (by decide)
  have el_n0_2 := own_plus1 hfit (fun idx => own_sta_idx ew_n0) A_n0 sz_n0 z_n0 q4 2 (3 : Int32) (by decide) (by decide)
  have el_n0_3 := own_plus1 hfit (fun idx => own_sta_idx ew_n0) A_n0 sz_n0 z_n0 q4 3 (4 : Int32) (by decide) (by decide)
  have el_n0_4 := own_plus1 hfit (fun idx => own_sta_idx ew_n0) A_n0 sz_n0 z_n0 q4 4 (5 : Int32) (by decide) (by decide)
  have V_n0 : Arv s s.heap w_n0 k_n0 .int (5 : Int32) [(.int (1 : Int32)), (.int (2 : Int32)), (.int (3 : Int32)), (.int (4 : Int32)), (.int (5 : Int32))] (.int (0 : Int32)) := by rw [k_n0_e]; exact Arv.start hfit A_n0 sz_n0 z_n0 (by decide) rfl (by simp only [HasL]; exact ⟨el_n0_0, el_n0_1, el_n0_2, el_n0_3, el_n0_4, trivial⟩)
  exact ⟨w_n1, w_n0, k_n0, S_n1, E_n1, S_n0, F_n1_ordinal, V_n0⟩
theorem d2_0 : decode prog_50_method_1_code 0 = .ok (.aload_n 0, 1) := by decide +kernel
theorem d2_1 : decode prog_50_method_1_code 1 = .ok (.invokespecial 1, 3) := by decide +kernel
theorem d2_4 : decode prog_50_method_1_code 4 = .ok (.aload_n 0, 1) := by decide +kernel
theorem d2_5 : decode prog_50_method_1_code 5 = .ok (.aload_n 1, 1) := by decide +kernel
theorem d2_6 : decode prog_50_method_1_code 6 = .ok (.putfield 7, 3) := by decide +kernel
theorem d2_9 : decode prog_50_method_1_code 9 = .ok (.aload_n 0, 1) := by decide +kernel
theorem d2_10 : decode prog_50_method_1_code 10 = .ok (.aload_n 2, 1) := by decide +kernel
theorem d2_11 : decode prog_50_method_1_code 11 = .ok (.putfield 13, 3) := by decide +kernel
theorem d2_14 : decode prog_50_method_1_code 14 = .ok (.return_, 1) := by decide +kernel
theorem ef_2_0 (m : MethodId) (x0 : Addr) (x1 : Addr) (x2 : Addr) : entryFrame m #[(.ref x0), (.ref x1), (.ref x2)] 3 = mkF m 0 #[.val (.ref x0), .val (.ref x1), .val (.ref x2)] [] := by first | (simp [entryFrame, mkF, argsToLocals, Value.category]; done) | rfl
theorem pn_2 : plainName "com/example/keyfold/keyfold/core/Value" = true := by first | (simp [plainName, overriddenIn]; done) | decide +kernel
set_option maxRecDepth 65536 in
set_option maxHeartbeats 40000000 in
theorem rm2 (l : Launch) (Z : State) (a0 : Array Value) (hw : ∀ d ∈ tables_1, d.before a0 Z = true) (ws : List Jvm.Cond) {w_n1 : Addr} {w_n0 : Addr} {k_n0 : ClassId} (W : Wd Z w_n1 w_n0 k_n0) (a1 : Addr) (a3 : Addr) (h0 : Heap) (n0 : Nat) (O0 : Old Z n0 h0) (g_a1 : n0 ≤ a1) (hf0 : Exa Z h0 a1 "com/example/keyfold/keyfold/core/Value") (hf1 : Fld Z h0 a1 "com/example/keyfold/keyfold/core/Value" "type" "Lcom/example/keyfold/keyfold/core/ValueType;" .null) (hf2 : Fld Z h0 a1 "com/example/keyfold/keyfold/core/Value" "content" "Ljava/lang/Object;" .null) :
    MetFree l (⟨"com/example/keyfold/keyfold/core/Value", "<init>", "(Lcom/example/keyfold/keyfold/core/ValueType;Ljava/lang/Object;)V"⟩ : MethodName) (head1 (Jvm.Cond.code (⟨"com/example/keyfold/keyfold/core/Value", "<init>", "(Lcom/example/keyfold/keyfold/core/ValueType;Ljava/lang/Object;)V"⟩ : MethodName) prog_50_method_1_code 3 none :: ws) ({ frames := 1, cells := 0, slots := 0, locals := 12 } : Room)) (fun a U => a = #[(.ref a1), (.ref w_n1), (.ref a3)] ∧ Z.Warmed39 U.vm ∧ U.heap = h0) (fun _ _ _ _ _ => True) (fun _ U o U' => ∃ v L, o = .returned v ∧ QW (fun v h => v = none ∧ Keep h0 h [a1] ∧ Exa Z h a1 "com/example/keyfold/keyfold/core/Value" ∧ Fld Z h a1 "com/example/keyfold/keyfold/core/Value" "type" "Lcom/example/keyfold/keyfold/core/ValueType;" (.ref w_n1) ∧ Fld Z h a1 "com/example/keyfold/keyfold/core/Value" "content" "Ljava/lang/Object;" (.ref a3)) n0 v U'.heap L ∧ FrameEnd U o U' L ({ frames := 1, cells := 0, slots := 0, locals := 12 } : Room).cells ({ frames := 1, cells := 0, slots := 0, locals := 12 } : Room).slots) := by
  have W' := W; obtain ⟨S_n1, E_n1, S_n0, F_n1_ordinal, V_n0⟩ := W'
  refine MetFree.of_bodySF (plainFor_of_name pn_2) hisR ?_
  intro p e s m args below meth c s₁ Bd hml0 hP hK
  obtain ⟨rfl, hZ, hh⟩ := hP
  have hx := Bd.exec
  have hby := Bd.bytes
  have hml : c.maxLocals = 3 := hml0
  have hown : s.vm.findClass "com/example/keyfold/keyfold/core/Value" = some m.cls := findClass_of_methodNamed Bd.named
  have hnm := (name_of_methodNamed Bd.named Bd.method).1
  have X0 : Stand p l e ({ frames := 1, cells := 0, slots := 0, locals := 12 } : Room) s m #[(.ref a1), (.ref w_n1), (.ref a3)] below meth c s₁ [] 0 0 := Stand.of_body Bd
  have e0 : s₁.heap = h0 := by rw [← hh, Bd.state]; rfl
  have N0 := Fr.nil n0
  have pre0 : ∀ t, Steps p.tables e below (s₁.setTop (mkF m 0 #[.val (.ref a1), .val (.ref w_n1), .val (.ref a3)] [])) t → Steps p.tables e below (s₁.setTop (entryFrame m #[(.ref a1), (.ref w_n1), (.ref a3)] 3)) t := fun t k => castTop (ef_2_0 m a1 w_n1 a3) k
  obtain ⟨T1, X1, e1, st1⟩ := initO X0 hx hZ hown (hw _ (List.mem_of_getElem? (i := 21) rfl)) (hw _ (List.mem_of_getElem? (i := 22) rfl)) (hw _ (List.mem_of_getElem? (i := 23) rfl)) e0 (g := (mkF m 1 #[.val (.ref a1), .val (.ref w_n1), .val (.ref a3)] [(.ref a1)])) rfl (by rw [hml]; rfl) rfl (hb hby d2_1) (by decide) (W := 0) (by show 2 * 0 + _ ≤ _; exact Nat.le_of_eq rfl) (by decide)
  obtain ⟨T2, h2, X2, e2, W2, st2⟩ := putF X1 hx hZ hown (host := "") (Or.inl (hw _ (List.mem_of_getElem? (i := 24) rfl))) Via.refl e1 hf1 hf0 (Or.inr ⟨(hw _ (List.mem_of_getElem? (i := 25) rfl)), rfl, hnm⟩) (hw _ (List.mem_of_getElem? (i := 7) rfl)) (ty := (.object "com/example/keyfold/keyfold/core/ValueType")) (by decide) rfl rfl (g := (mkF m 6 #[.val (.ref a1), .val (.ref w_n1), .val (.ref a3)] [(.ref w_n1), (.ref a1)])) rfl rfl (hb hby d2_6)
  have fw2 : Fld Z h2 a1 "com/example/keyfold/keyfold/core/Value" "type" "Lcom/example/keyfold/keyfold/core/ValueType;" (.ref w_n1) := (hf1).same W2
  have f2_0 : Exa Z h2 a1 "com/example/keyfold/keyfold/core/Value" := (hf0).wr W2
  have f2_1 : Fld Z h2 a1 "com/example/keyfold/keyfold/core/Value" "content" "Ljava/lang/Object;" .null := (hf2).other W2 (Or.inr (slot_ne (Or.inr (hw _ (List.mem_of_getElem? (i := 27) rfl))) (Or.inr (hw _ (List.mem_of_getElem? (i := 25) rfl))) (by decide) (t := (.object "java/lang/Object")) (t' := (.object "com/example/keyfold/keyfold/core/ValueType")) (by decide) (by decide)))
  have O2 := O0.wr W2 g_a1
  have N2 := Fr.snoc X2 N0 g_a1
  have K2 : Keep h0 h2 [a1] := (Keep.refl h0 [a1]).wr W2 (Or.inl (List.mem_of_getElem? (i := 0) rfl))
  obtain ⟨T3, h3, X3, e3, W3, st3⟩ := putF X2 hx hZ hown (host := "") (Or.inl (hw _ (List.mem_of_getElem? (i := 26) rfl))) Via.refl e2 f2_1 f2_0 (Or.inr ⟨(hw _ (List.mem_of_getElem? (i := 27) rfl)), rfl, hnm⟩) (hw _ (List.mem_of_getElem? (i := 7) rfl)) (ty := (.object "java/lang/Object")) (by decide) rfl rfl (g := (mkF m 11 #[.val (.ref a1), .val (.ref w_n1), .val (.ref a3)] [(.ref a3), (.ref a1)])) rfl rfl (hb hby d2_11)
  have fw3 : Fld Z h3 a1 "com/example/keyfold/keyfold/core/Value" "content" "Ljava/lang/Object;" (.ref a3) := (f2_1).same W3
  have f3_0 : Exa Z h3 a1 "com/example/keyfold/keyfold/core/Value" := (f2_0).wr W3
  have f3_1 : Fld Z h3 a1 "com/example/keyfold/keyfold/core/Value" "type" "Lcom/example/keyfold/keyfold/core/ValueType;" (.ref w_n1) := (fw2).other W3 (Or.inr (slot_ne (Or.inr (hw _ (List.mem_of_getElem? (i := 25) rfl))) (Or.inr (hw _ (List.mem_of_getElem? (i := 27) rfl))) (by decide) (t := (.object "com/example/keyfold/keyfold/core/ValueType")) (t' := (.object "java/lang/Object")) (by decide) (by decide)))
  have O3 := O2.wr W3 g_a1
  have N3 := Fr.snoc X3 N2 g_a1
  have K3 : Keep h0 h3 [a1] := K2.wr W3 (Or.inl (List.mem_of_getElem? (i := 0) rfl))
  obtain ⟨fs, hr, hrun, hended, hW, hsame⟩ := X3.leave (v := none) (fun _ => rfl)
  refine ⟨_, _, pre0 _ ?_, hrun, hended, _, _, rfl, ?_, ⟨_, rfl⟩, hW, hsame.mono (by decide) (by decide)⟩
  · show Steps p.tables e below (s₁.setTop (mkF m 0 #[.val (.ref a1), .val (.ref w_n1), .val (.ref a3)] [])) _
    refine XS.aloadN X0.here hx rfl (hb hby d2_0) rfl rfl ?_
    show Steps p.tables e below (s₁.setTop (mkF m 1 #[.val (.ref a1), .val (.ref w_n1), .val (.ref a3)] [(.ref a1)])) _
    refine st1 _ ?_
    show Steps p.tables e below (T1.setTop (mkF m 4 #[.val (.ref a1), .val (.ref w_n1), .val (.ref a3)] [])) _
    refine XS.aloadN X1.here hx rfl (hb hby d2_4) rfl rfl ?_
    show Steps p.tables e below (T1.setTop (mkF m 5 #[.val (.ref a1), .val (.ref w_n1), .val (.ref a3)] [(.ref a1)])) _
    refine XS.aloadN X1.here hx rfl (hb hby d2_5) rfl rfl ?_
    show Steps p.tables e below (T1.setTop (mkF m 6 #[.val (.ref a1), .val (.ref w_n1), .val (.ref a3)] [(.ref w_n1), (.ref a1)])) _
    refine st2 _ ?_
    show Steps p.tables e below (T2.setTop (mkF m 9 #[.val (.ref a1), .val (.ref w_n1), .val (.ref a3)] [])) _
    refine XS.aloadN X2.here hx rfl (hb hby d2_9) rfl rfl ?_
    show Steps p.tables e below (T2.setTop (mkF m 10 #[.val (.ref a1), .val (.ref w_n1), .val (.ref a3)] [(.ref a1)])) _
    refine XS.aloadN X2.here hx rfl (hb hby d2_10) rfl rfl ?_
    show Steps p.tables e below (T2.setTop (mkF m 11 #[.val (.ref a1), .val (.ref w_n1), .val (.ref a3)] [(.ref a3), (.ref a1)])) _
    refine st3 _ ?_
    show Steps p.tables e below (T3.setTop (mkF m 14 #[.val (.ref a1), .val (.ref w_n1), .val (.ref a3)] [])) _
    exact X3.returnOut hx Bd.returns (hb hby d2_14) hr
  · show QW (fun v h => v = none ∧ Keep h0 h [a1] ∧ Exa Z h a1 "com/example/keyfold/keyfold/core/Value" ∧ Fld Z h a1 "com/example/keyfold/keyfold/core/Value" "type" "Lcom/example/keyfold/keyfold/core/ValueType;" (.ref w_n1) ∧ Fld Z h a1 "com/example/keyfold/keyfold/core/Value" "content" "Ljava/lang/Object;" (.ref a3)) n0 _ T3.heap _
    rw [e3]
    exact ⟨N3, ⟨rfl, K3, f3_0, f3_1, fw3⟩⟩
theorem d4_0 : decode prog_50_method_7_code 0 = .ok (.aload_n 0, 1) := by decide +kernel
theorem d4_1 : decode prog_50_method_7_code 1 = .ok (.getfield 7, 3) := by decide +kernel
theorem d4_4 : decode prog_50_method_7_code 4 = .ok (.areturn, 1) := by decide +kernel
theorem ef_4_1 (m : MethodId) (x0 : Addr) : entryFrame m #[(.ref x0)] 1 = mkF m 0 #[.val (.ref x0)] [] := by first | (simp [entryFrame, mkF, argsToLocals, Value.category]; done) | rfl
theorem pn_4 : plainName "com/example/keyfold/keyfold/core/Value" = true := by first | (simp [plainName, overriddenIn]; done) | decide +kernel
set_option maxRecDepth 65536 in
set_option maxHeartbeats 40000000 in
theorem rm4 (l : Launch) (Z : State) (a0 : Array Value) (hw : ∀ d ∈ tables_1, d.before a0 Z = true) (ws : List Jvm.Cond) {w_n1 : Addr} {w_n0 : Addr} {k_n0 : ClassId} (W : Wd Z w_n1 w_n0 k_n0) (a1 : Addr) (h0 : Heap) (n0 : Nat) (O0 : Old Z n0 h0) (hf0 : Fld Z h0 a1 "com/example/keyfold/keyfold/core/Value" "type" "Lcom/example/keyfold/keyfold/core/ValueType;" (.ref w_n1)) :
    MetFree l (⟨"com/example/keyfold/keyfold/core/Value", "type", "()Lcom/example/keyfold/keyfold/core/ValueType;"⟩ : MethodName) (head1 (Jvm.Cond.code (⟨"com/example/keyfold/keyfold/core/Value", "type", "()Lcom/example/keyfold/keyfold/core/ValueType;"⟩ : MethodName) prog_50_method_7_code 1 (some (.object "com/example/keyfold/keyfold/core/ValueType")) :: ws) ({ frames := 0, cells := 0, slots := 0, locals := 0 } : Room)) (fun a U => a = #[(.ref a1)] ∧ Z.Warmed39 U.vm ∧ U.heap = h0) (fun _ _ _ _ _ => True) (fun _ U o U' => ∃ v L, o = .returned v ∧ QP (some (.ref w_n1)) h0 n0 v U'.heap L ∧ FrameEnd U o U' L ({ frames := 0, cells := 0, slots := 0, locals := 0 } : Room).cells ({ frames := 0, cells := 0, slots := 0, locals := 0 } : Room).slots) := by
  have W' := W; obtain ⟨S_n1, E_n1, S_n0, F_n1_ordinal, V_n0⟩ := W'
  refine MetFree.of_bodySF (plainFor_of_name pn_4) hisR ?_
  intro p e s m args below meth c s₁ Bd hml0 hP hK
  obtain ⟨rfl, hZ, hh⟩ := hP
  have hx := Bd.exec
  have hby := Bd.bytes
  have hml : c.maxLocals = 1 := hml0
  have hown : s.vm.findClass "com/example/keyfold/keyfold/core/Value" = some m.cls := findClass_of_methodNamed Bd.named
  have hnm := (name_of_methodNamed Bd.named Bd.method).1
  have X0 : Stand p l e ({ frames := 0, cells := 0, slots := 0, locals := 0 } : Room) s m #[(.ref a1)] below meth c s₁ [] 0 0 := Stand.of_body Bd
  have e0 : s₁.heap = h0 := by rw [← hh, Bd.state]; rfl
  have N0 := Fr.nil n0
  have pre0 : ∀ t, Steps p.tables e below (s₁.setTop (mkF m 0 #[.val (.ref a1)] [])) t → Steps p.tables e below (s₁.setTop (entryFrame m #[(.ref a1)] 1)) t := fun t k => castTop (ef_4_1 m a1) k
  obtain ⟨T1, X1, e1, st1⟩ := getF X0 hx hZ hown (host := "") (Or.inl (hw _ (List.mem_of_getElem? (i := 24) rfl))) Via.refl e0 hf0 (g := (mkF m 1 #[.val (.ref a1)] [(.ref a1)])) rfl rfl (hb hby d4_1)
  obtain ⟨fs, hr, hrun, hended, hW, hsame⟩ := X1.leave (v := some (.ref w_n1)) (fun h => by rw [Bd.returns] at h; cases h)
  refine ⟨_, _, pre0 _ ?_, hrun, hended, _, _, rfl, ?_, ⟨_, rfl⟩, hW, hsame.mono (by decide) (by decide)⟩
  · show Steps p.tables e below (s₁.setTop (mkF m 0 #[.val (.ref a1)] [])) _
    refine XS.aloadN X0.here hx rfl (hb hby d4_0) rfl rfl ?_
    show Steps p.tables e below (s₁.setTop (mkF m 1 #[.val (.ref a1)] [(.ref a1)])) _
    refine st1 _ ?_
    show Steps p.tables e below (T1.setTop (mkF m 4 #[.val (.ref a1)] [(.ref w_n1)])) _
    jvm_step X1.here [X1.here.top, hx, (hb hby d4_4), X1.method', Bd.returns, Value.isRef, FieldType.isReference]
    first | (intro acts; rw [hr _ acts rfl rfl rfl]) | rw [hr _ _ rfl rfl rfl]
    exact Steps.refl _
  · show QP (some (.ref w_n1)) h0 n0 _ T1.heap _
    rw [e1]
    exact ⟨rfl, N0, rfl⟩
theorem d8_0 : decode prog_50_method_14_code 0 = .ok (.aload_n 0, 1) := by decide +kernel
theorem d8_1 : decode prog_50_method_14_code 1 = .ok (.getfield 7, 3) := by decide +kernel
theorem d8_4 : decode prog_50_method_14_code 4 = .ok (.aload_n 1, 1) := by decide +kernel
theorem d8_5 : decode prog_50_method_14_code 5 = .ok (.if_acmp .eq 27, 3) := by decide +kernel
theorem d8_32 : decode prog_50_method_14_code 32 = .ok (.aload_n 0, 1) := by decide +kernel
theorem d8_33 : decode prog_50_method_14_code 33 = .ok (.getfield 13, 3) := by decide +kernel
theorem d8_36 : decode prog_50_method_14_code 36 = .ok (.areturn, 1) := by decide +kernel
theorem ef_8_2 (m : MethodId) (x0 : Addr) (x1 : Addr) : entryFrame m #[(.ref x0), (.ref x1)] 2 = mkF m 0 #[.val (.ref x0), .val (.ref x1)] [] := by first | (simp [entryFrame, mkF, argsToLocals, Value.category]; done) | rfl
theorem pn_8 : plainName "com/example/keyfold/keyfold/core/Value" = true := by first | (simp [plainName, overriddenIn]; done) | decide +kernel
set_option maxRecDepth 65536 in
set_option maxHeartbeats 40000000 in
theorem rm6 (l : Launch) (Z : State) (a0 : Array Value) (hw : ∀ d ∈ tables_1, d.before a0 Z = true) (ws : List Jvm.Cond) {w_n1 : Addr} {w_n0 : Addr} {k_n0 : ClassId} (W : Wd Z w_n1 w_n0 k_n0) (a1 : Addr) (a3 : Addr) (h0 : Heap) (n0 : Nat) (O0 : Old Z n0 h0) (hf0 : Fld Z h0 a1 "com/example/keyfold/keyfold/core/Value" "type" "Lcom/example/keyfold/keyfold/core/ValueType;" (.ref w_n1)) (hf1 : Fld Z h0 a1 "com/example/keyfold/keyfold/core/Value" "content" "Ljava/lang/Object;" (.ref a3)) :
    MetFree l (⟨"com/example/keyfold/keyfold/core/Value", "contentOf", "(Lcom/example/keyfold/keyfold/core/ValueType;)Ljava/lang/Object;"⟩ : MethodName) (head1 (Jvm.Cond.code (⟨"com/example/keyfold/keyfold/core/Value", "contentOf", "(Lcom/example/keyfold/keyfold/core/ValueType;)Ljava/lang/Object;"⟩ : MethodName) prog_50_method_14_code 2 (some (.object "java/lang/Object")) :: ws) ({ frames := 0, cells := 0, slots := 0, locals := 0 } : Room)) (fun a U => a = #[(.ref a1), (.ref w_n1)] ∧ Z.Warmed39 U.vm ∧ U.heap = h0) (fun _ _ _ _ _ => True) (fun _ U o U' => ∃ v L, o = .returned v ∧ QP (some (.ref a3)) h0 n0 v U'.heap L ∧ FrameEnd U o U' L ({ frames := 0, cells := 0, slots := 0, locals := 0 } : Room).cells ({ frames := 0, cells := 0, slots := 0, locals := 0 } : Room).slots) := by
  have W' := W; obtain ⟨S_n1, E_n1, S_n0, F_n1_ordinal, V_n0⟩ := W'
  refine MetFree.of_bodySF (plainFor_of_name pn_8) hisR ?_
  intro p e s m args below meth c s₁ Bd hml0 hP hK
  obtain ⟨rfl, hZ, hh⟩ := hP
  have hx := Bd.exec
  have hby := Bd.bytes
  have hml : c.maxLocals = 2 := hml0
  have hown : s.vm.findClass "com/example/keyfold/keyfold/core/Value" = some m.cls := findClass_of_methodNamed Bd.named
  have hnm := (name_of_methodNamed Bd.named Bd.method).1
  have X0 : Stand p l e ({ frames := 0, cells := 0, slots := 0, locals := 0 } : Room) s m #[(.ref a1), (.ref w_n1)] below meth c s₁ [] 0 0 := Stand.of_body Bd
  have e0 : s₁.heap = h0 := by rw [← hh, Bd.state]; rfl
  have N0 := Fr.nil n0
  have pre0 : ∀ t, Steps p.tables e below (s₁.setTop (mkF m 0 #[.val (.ref a1), .val (.ref w_n1)] [])) t → Steps p.tables e below (s₁.setTop (entryFrame m #[(.ref a1), (.ref w_n1)] 2)) t := fun t k => castTop (ef_8_2 m a1 w_n1) k
  obtain ⟨T1, X1, e1, st1⟩ := getF X0 hx hZ hown (host := "") (Or.inl (hw _ (List.mem_of_getElem? (i := 24) rfl))) Via.refl e0 hf0 (g := (mkF m 1 #[.val (.ref a1), .val (.ref w_n1)] [(.ref a1)])) rfl rfl (hb hby d8_1)
  obtain ⟨T2, X2, e2, st2⟩ := getF X1 hx hZ hown (host := "") (Or.inl (hw _ (List.mem_of_getElem? (i := 26) rfl))) Via.refl e1 hf1 (g := (mkF m 33 #[.val (.ref a1), .val (.ref w_n1)] [(.ref a1)])) rfl rfl (hb hby d8_33)
  obtain ⟨fs, hr, hrun, hended, hW, hsame⟩ := X2.leave (v := some (.ref a3)) (fun h => by rw [Bd.returns] at h; cases h)
  refine ⟨_, _, pre0 _ ?_, hrun, hended, _, _, rfl, ?_, ⟨_, rfl⟩, hW, hsame.mono (by decide) (by decide)⟩
  · show Steps p.tables e below (s₁.setTop (mkF m 0 #[.val (.ref a1), .val (.ref w_n1)] [])) _
    refine XS.aloadN X0.here hx rfl (hb hby d8_0) rfl rfl ?_
    show Steps p.tables e below (s₁.setTop (mkF m 1 #[.val (.ref a1), .val (.ref w_n1)] [(.ref a1)])) _
    refine st1 _ ?_
    show Steps p.tables e below (T1.setTop (mkF m 4 #[.val (.ref a1), .val (.ref w_n1)] [(.ref w_n1)])) _
    refine XS.aloadN X1.here hx rfl (hb hby d8_4) rfl rfl ?_
    show Steps p.tables e below (T1.setTop (mkF m 5 #[.val (.ref a1), .val (.ref w_n1)] [(.ref w_n1), (.ref w_n1)])) _
    refine Jvm.RoadKit.acmp (g := (mkF m 5 #[.val (.ref a1), .val (.ref w_n1)] [(.ref w_n1), (.ref w_n1)])) X1 hx rfl rfl rfl (pc0 := 5) (pc' := 32) (same := true) rfl (hb hby d8_5) rfl (decide_eq_true rfl) (by decide) (by decide) ?_
    show Steps p.tables e below (T1.setTop (mkF m 32 #[.val (.ref a1), .val (.ref w_n1)] [])) _
    refine XS.aloadN X1.here hx rfl (hb hby d8_32) rfl rfl ?_
    show Steps p.tables e below (T1.setTop (mkF m 33 #[.val (.ref a1), .val (.ref w_n1)] [(.ref a1)])) _
    refine st2 _ ?_
    show Steps p.tables e below (T2.setTop (mkF m 36 #[.val (.ref a1), .val (.ref w_n1)] [(.ref a3)])) _
    jvm_step X2.here [X2.here.top, hx, (hb hby d8_36), X2.method', Bd.returns, Value.isRef, FieldType.isReference]
    first | (intro acts; rw [hr _ acts rfl rfl rfl]) | rw [hr _ _ rfl rfl rfl]
    exact Steps.refl _
  · show QP (some (.ref a3)) h0 n0 _ T2.heap _
    rw [e2]
    exact ⟨rfl, N0, rfl⟩
theorem d6_0 : decode jdk_37_method_2_code 0 = .ok (.aload_n 0, 1) := by decide +kernel
theorem d6_1 : decode jdk_37_method_2_code 1 = .ok (.getfield 7, 3) := by decide +kernel
theorem d6_4 : decode jdk_37_method_2_code 4 = .ok (.ireturn, 1) := by decide +kernel
theorem ef_6_3 (m : MethodId) (x0 : Addr) : entryFrame m #[(.ref x0)] 1 = mkF m 0 #[.val (.ref x0)] [] := by first | (simp [entryFrame, mkF, argsToLocals, Value.category]; done) | rfl
theorem pn_6 : plainName "java/lang/Enum" = true := by first | (simp [plainName, overriddenIn]; done) | decide +kernel
set_option maxRecDepth 65536 in
set_option maxHeartbeats 40000000 in
theorem rm8 (l : Launch) (Z : State) (a0 : Array Value) (hw : ∀ d ∈ tables_1, d.before a0 Z = true) (ws : List Jvm.Cond) {w_n1 : Addr} {w_n0 : Addr} {k_n0 : ClassId} (W : Wd Z w_n1 w_n0 k_n0) (h0 : Heap) (n0 : Nat) (O0 : Old Z n0 h0) :
    MetFree l (⟨"java/lang/Enum", "ordinal", "()I"⟩ : MethodName) (head1 (Jvm.Cond.code (⟨"java/lang/Enum", "ordinal", "()I"⟩ : MethodName) jdk_37_method_2_code 1 (some .int) :: ws) ({ frames := 0, cells := 0, slots := 0, locals := 0 } : Room)) (fun a U => a = #[(.ref w_n1)] ∧ Z.Warmed39 U.vm ∧ U.heap = h0) (fun _ _ _ _ _ => True) (fun _ U o U' => ∃ v L, o = .returned v ∧ QP (some (.int (4 : Int32))) h0 n0 v U'.heap L ∧ FrameEnd U o U' L ({ frames := 0, cells := 0, slots := 0, locals := 0 } : Room).cells ({ frames := 0, cells := 0, slots := 0, locals := 0 } : Room).slots) := by
  have W' := W; obtain ⟨S_n1, E_n1, S_n0, F_n1_ordinal, V_n0⟩ := W'
  refine MetFree.of_bodySF (plainFor_of_name pn_6) hisR ?_
  intro p e s m args below meth c s₁ Bd hml0 hP hK
  obtain ⟨rfl, hZ, hh⟩ := hP
  have hx := Bd.exec
  have hby := Bd.bytes
  have hml : c.maxLocals = 1 := hml0
  have hown : s.vm.findClass "java/lang/Enum" = some m.cls := findClass_of_methodNamed Bd.named
  have hnm := (name_of_methodNamed Bd.named Bd.method).1
  have X0 : Stand p l e ({ frames := 0, cells := 0, slots := 0, locals := 0 } : Room) s m #[(.ref w_n1)] below meth c s₁ [] 0 0 := Stand.of_body Bd
  have e0 : s₁.heap = h0 := by rw [← hh, Bd.state]; rfl
  have N0 := Fr.nil n0
  have pre0 : ∀ t, Steps p.tables e below (s₁.setTop (mkF m 0 #[.val (.ref w_n1)] [])) t → Steps p.tables e below (s₁.setTop (entryFrame m #[(.ref w_n1)] 1)) t := fun t k => castTop (ef_6_3 m w_n1) k
  obtain ⟨T1, X1, e1, st1⟩ := getF X0 hx hZ hown (host := "") (Or.inl (hw _ (List.mem_of_getElem? (i := 49) rfl))) Via.refl e0 (F_n1_ordinal.ext O0.2) (g := (mkF m 1 #[.val (.ref w_n1)] [(.ref w_n1)])) rfl rfl (hb hby d6_1)
  obtain ⟨fs, hr, hrun, hended, hW, hsame⟩ := X1.leave (v := some (.int (4 : Int32))) (fun h => by rw [Bd.returns] at h; cases h)
  refine ⟨_, _, pre0 _ ?_, hrun, hended, _, _, rfl, ?_, ⟨_, rfl⟩, hW, hsame.mono (by decide) (by decide)⟩
  · show Steps p.tables e below (s₁.setTop (mkF m 0 #[.val (.ref w_n1)] [])) _
    refine XS.aloadN X0.here hx rfl (hb hby d6_0) rfl rfl ?_
    show Steps p.tables e below (s₁.setTop (mkF m 1 #[.val (.ref w_n1)] [(.ref w_n1)])) _
    refine st1 _ ?_
    show Steps p.tables e below (T1.setTop (mkF m 4 #[.val (.ref w_n1)] [(.int (4 : Int32))])) _
    exact retI X1 hx Bd.returns (hb hby d6_4) hr
  · show QP (some (.int (4 : Int32))) h0 n0 _ T1.heap _
    rw [e1]
    exact ⟨rfl, N0, rfl⟩
theorem d1_0 : decode prog_50_method_6_code 0 = .ok (.new 8, 3) := by decide +kernel
theorem d1_3 : decode prog_50_method_6_code 3 = .ok (.dup, 1) := by decide +kernel
theorem d1_4 : decode prog_50_method_6_code 4 = .ok (.getstatic 77, 3) := by decide +kernel
theorem d1_7 : decode prog_50_method_6_code 7 = .ok (.aload_n 0, 1) := by decide +kernel
theorem d1_8 : decode prog_50_method_6_code 8 = .ok (.invokevirtual 80, 3) := by decide +kernel
theorem d1_11 : decode prog_50_method_6_code 11 = .ok (.invokespecial 30, 3) := by decide +kernel
theorem d1_14 : decode prog_50_method_6_code 14 = .ok (.areturn, 1) := by decide +kernel
theorem pd_0 : parseMethodDescriptor "(Lcom/example/keyfold/keyfold/core/ValueType;Ljava/lang/Object;)V" = some ⟨[(.object "com/example/keyfold/keyfold/core/ValueType"), (.object "java/lang/Object")], none⟩ := by decide +kernel
theorem ef_1_4 (m : MethodId) (x0 : Addr) : entryFrame m #[(.ref x0)] 1 = mkF m 0 #[.val (.ref x0)] [] := by first | (simp [entryFrame, mkF, argsToLocals, Value.category]; done) | rfl
theorem pn_1 : plainName "com/example/keyfold/keyfold/core/Value" = true := by first | (simp [plainName, overriddenIn]; done) | decide +kernel
set_option maxRecDepth 65536 in
set_option maxHeartbeats 40000000 in
theorem rm1_0 (l : Launch) (Z : State) (a0 : Array Value) (hw : ∀ d ∈ tables_1, d.before a0 Z = true) (ws : List Jvm.Cond) {w_n1 : Addr} {w_n0 : Addr} {k_n0 : ClassId} (W : Wd Z w_n1 w_n0 k_n0) (a1 : Addr) (kk : ClassId) (h0 : Heap) (n0 : Nat) (O0 : Old Z n0 h0) (g_a1 : n0 ≤ a1) (hf0 : Exa Z h0 a1 "[B") (hf1 : Arv Z h0 a1 kk .byte (0 : Int32) [] (.int (0 : Int32))) :
    MetFree l (⟨"com/example/keyfold/keyfold/core/Value", "ofBinary", "([B)Lcom/example/keyfold/keyfold/core/Value;"⟩ : MethodName) (head1 (Jvm.Cond.code (⟨"com/example/keyfold/keyfold/core/Value", "ofBinary", "([B)Lcom/example/keyfold/keyfold/core/Value;"⟩ : MethodName) prog_50_method_6_code 1 (some (.object "com/example/keyfold/keyfold/core/Value")) :: ws) ({ frames := 2, cells := 2, slots := 2, locals := 27 } : Room)) (fun a U => a = #[(.ref a1)] ∧ Z.Warmed39 U.vm ∧ U.heap = h0) (fun _ _ _ _ _ => True) (fun _ U o U' => ∃ v L, o = .returned v ∧ QW (fun v h => ∃ b1 : Addr, ∃ b3 : Addr, v = some (.ref b1) ∧ Keep h0 h [] ∧ n0 ≤ b1 ∧ h0.size ≤ b1 ∧ n0 ≤ b3 ∧ h0.size ≤ b3 ∧ Exa Z h b1 "com/example/keyfold/keyfold/core/Value" ∧ Fld Z h b1 "com/example/keyfold/keyfold/core/Value" "type" "Lcom/example/keyfold/keyfold/core/ValueType;" (.ref w_n1) ∧ Fld Z h b1 "com/example/keyfold/keyfold/core/Value" "content" "Ljava/lang/Object;" (.ref b3) ∧ Exa Z h b3 "[B" ∧ Arv Z h b3 kk .byte (0 : Int32) [] (.int (0 : Int32))) n0 v U'.heap L ∧ FrameEnd U o U' L ({ frames := 2, cells := 2, slots := 2, locals := 27 } : Room).cells ({ frames := 2, cells := 2, slots := 2, locals := 27 } : Room).slots) := by
  have W' := W; obtain ⟨S_n1, E_n1, S_n0, F_n1_ordinal, V_n0⟩ := W'
  refine MetFree.of_bodySF (plainFor_of_name pn_1) hisR ?_
  intro p e s m args below meth c s₁ Bd hml0 hP hK
  obtain ⟨rfl, hZ, hh⟩ := hP
  have hx := Bd.exec
  have hby := Bd.bytes
  have hml : c.maxLocals = 1 := hml0
  have hown : s.vm.findClass "com/example/keyfold/keyfold/core/Value" = some m.cls := findClass_of_methodNamed Bd.named
  have hnm := (name_of_methodNamed Bd.named Bd.method).1
  have X0 : Stand p l e ({ frames := 2, cells := 2, slots := 2, locals := 27 } : Room) s m #[(.ref a1)] below meth c s₁ [] 0 0 := Stand.of_body Bd
  have e0 : s₁.heap = h0 := by rw [← hh, Bd.state]; rfl
  have N0 := Fr.nil n0
  have pre0 : ∀ t, Steps p.tables e below (s₁.setTop (mkF m 0 #[.val (.ref a1)] [])) t → Steps p.tables e below (s₁.setTop (entryFrame m #[(.ref a1)] 1)) t := fun t k => castTop (ef_1_4 m a1) k
  obtain ⟨T1, h1, X1, e1, E1, A1, D1, U1, st1⟩ := newO X0 hx hZ hown (hw _ (List.mem_of_getElem? (i := 6) rfl)) (hw _ (List.mem_of_getElem? (i := 7) rfl)) (hw _ (List.mem_of_getElem? (i := 4) rfl)) e0 (g := (mkF m 0 #[.val (.ref a1)] [])) rfl (hb hby d1_0) (by decide) (by decide)
  obtain ⟨b1, g1⟩ : ∃ z, z = h0.size := ⟨_, rfl⟩
  rw [← g1] at A1 D1 U1 st1
  have lt_a1_b1 : a1 < h0.size := (hf0).lt
  have g_b1 : n0 ≤ b1 := by rw [g1]; exact O0.1 ▸ O0.2.1
  have sz_b1 : h0.size ≤ b1 := by rw [g1]; exact (Keep.refl h0 []).1
  have f1_0 : Exa Z h1 a1 "[B" := (hf0).ext E1
  have f1_1 : Arv Z h1 a1 kk .byte (0 : Int32) [] (.int (0 : Int32)) := (hf1).ext E1
  have O1 := O0.ext E1
  have K1 : Keep h0 h1 [] := (Keep.refl h0 []).ext E1
  have f1_type : Fld Z h1 b1 "com/example/keyfold/keyfold/core/Value" "type" "Lcom/example/keyfold/keyfold/core/ValueType;" .null := D1 (Or.inr (hw _ (List.mem_of_getElem? (i := 25) rfl))) (ty := (.object "com/example/keyfold/keyfold/core/ValueType")) (by decide)
  have f1_content : Fld Z h1 b1 "com/example/keyfold/keyfold/core/Value" "content" "Ljava/lang/Object;" .null := D1 (Or.inr (hw _ (List.mem_of_getElem? (i := 27) rfl))) (ty := (.object "java/lang/Object")) (by decide)
  obtain ⟨T2, X2, e2, st2⟩ := getS2 X1 hx hZ hown (host := "") (Or.inl (hw _ (List.mem_of_getElem? (i := 8) rfl))) Via.refl e1 (S_n1.ext O1.2) (g := (mkF m 4 #[.val (.ref a1)] [(.ref b1), (.ref b1)])) rfl (hb hby d1_4)
  obtain ⟨T3, h3, X3, e3, E3, A3, B3, st3⟩ := cloneH X2 hx hZ hown (hw _ (List.mem_of_getElem? (i := 11) rfl)) (hw _ (List.mem_of_getElem? (i := 12) rfl)) (hw _ (List.mem_of_getElem? (i := 16) rfl)) (hw _ (List.mem_of_getElem? (i := 14) rfl)) (hw _ (List.mem_of_getElem? (i := 15) rfl)) (hw _ (List.mem_of_getElem? (i := 17) rfl)) e2 (f1_1).arh f1_0 (g := (mkF m 8 #[.val (.ref a1)] [(.ref a1), (.ref w_n1), (.ref b1), (.ref b1)])) rfl (by rw [hml]; rfl) rfl (hb hby d1_8) (by decide) (W := 3) (cap := 0) (by show 2 * 0 + _ ≤ _; exact Nat.le_of_eq rfl) (by decide) (by decide) (by decide) (by decide)
  obtain ⟨b3, g3⟩ : ∃ z, z = h1.size := ⟨_, rfl⟩
  rw [← g3] at A3 B3 st3
  have lt_a1_b3 : a1 < h1.size := (f1_0).lt
  have lt_b1_b3 : b1 < h1.size := (A1).lt
  have g_b3 : n0 ≤ b3 := by rw [g3]; exact O1.1 ▸ O1.2.1
  have sz_b3 : h0.size ≤ b3 := by rw [g3]; exact K1.1
  have f3_0 : Exa Z h3 a1 "[B" := (f1_0).ext E3
  have f3_1 : Arv Z h3 a1 kk .byte (0 : Int32) [] (.int (0 : Int32)) := (f1_1).ext E3
  have f3_2 : Exa Z h3 b1 "com/example/keyfold/keyfold/core/Value" := (A1).ext E3
  have f3_3 : Fld Z h3 b1 "com/example/keyfold/keyfold/core/Value" "type" "Lcom/example/keyfold/keyfold/core/ValueType;" .null := (f1_type).ext E3
  have f3_4 : Fld Z h3 b1 "com/example/keyfold/keyfold/core/Value" "content" "Ljava/lang/Object;" .null := (f1_content).ext E3
  have O3 := O1.ext E3
  have K3 : Keep h0 h3 [] := K1.ext E3
  have fv3 : Arv Z h3 b3 kk .byte (0 : Int32) [] (.int (0 : Int32)) := A3
  obtain ⟨_, _, ⟨T4, L4, k4, n4⟩, -, X4, ⟨Lc4, hQ4, l4, y4, z4⟩, st4⟩ := X3.specialBack hx (y := (⟨"com/example/keyfold/keyfold/core/Value", "<init>", "(Lcom/example/keyfold/keyfold/core/ValueType;Ljava/lang/Object;)V"⟩ : MethodName)) rfl hown (mvT hZ (hw _ (List.mem_of_getElem? (i := 18) rfl))) (mvT hZ (hw _ (List.mem_of_getElem? (i := 19) rfl))) (mvT hZ (hw _ (List.mem_of_getElem? (i := 20) rfl))) (by decide) (backOf (W := 1) (rm2 l Z a0 hw [] W b1 b3 h3 n0 O3 g_b1 f3_2 f3_3 f3_4) hZ (hw _ (List.mem_of_getElem? (i := 20) rfl)) (hw _ (List.mem_of_getElem? (i := 4) rfl)) (by decide) (by decide)) (g := (mkF m 11 #[.val (.ref a1)] [(.ref b3), (.ref w_n1), (.ref b1), (.ref b1)])) rfl (by rw [hml]; rfl) (Steps.refl _) (a := b1) (argsL := [(.ref w_n1), (.ref b3)]) (rest := [(.ref b1)]) (lenOf pd_0 rfl) rfl (by show 2 * 0 + _ ≤ _; exact Nat.le_of_eq rfl) (hb hby d1_11) (fun _ _ => ⟨rfl, e3, (by decide : 2 + 0 ≤ _), (by decide : 2 + 0 ≤ _)⟩)
  dsimp only [Pt.U, Pt.locs, Pt.cells, Pt.slots] at X4 l4 y4 z4 st4 hQ4
  subst l4 y4 z4
  obtain ⟨N4q, hP4⟩ := hQ4
  have N4 := Fr.app N0 N4q
  obtain ⟨rfl, Kp4, fp4_0, fp4_1, fp4_2⟩ := hP4
  have f4_0 : Exa Z T4.heap a1 "[B" := (f3_0).keep Kp4
  have f4_1 : Arv Z T4.heap a1 kk .byte (0 : Int32) [] (.int (0 : Int32)) := (f3_1).keep Kp4 (ninS (ne_exa f3_0 f3_2 (by decide)) nin0)
  have f4_2 : Exa Z T4.heap b1 "com/example/keyfold/keyfold/core/Value" := (f3_2).keep Kp4
  have f4_3 : Arv Z T4.heap b3 kk .byte (0 : Int32) [] (.int (0 : Int32)) := (fv3).keep Kp4 (ninS (ne_exa B3 f3_2 (by decide)) nin0)
  have f4_4 : Exa Z T4.heap b3 "[B" := (B3).keep Kp4
  have O4 := O3.keep Kp4 (allS g_b1 all0)
  have K4 : Keep h0 T4.heap [] := K3.trans Kp4 (allS (Or.inr sz_b1) all0)
  obtain ⟨fs, hr, hrun, hended, hW, hsame⟩ := X4.leave (v := some (.ref b1)) (fun h => by rw [Bd.returns] at h; cases h)
  refine ⟨_, _, pre0 _ ?_, hrun, hended, _, _, rfl, ?_, ⟨_, rfl⟩, hW, hsame.mono (by decide) (by decide)⟩
  · show Steps p.tables e below (s₁.setTop (mkF m 0 #[.val (.ref a1)] [])) _
    refine st1 _ ?_
    show Steps p.tables e below (T1.setTop (mkF m 3 #[.val (.ref a1)] [(.ref b1)])) _
    refine XS.dup X1.here hx rfl (hb hby d1_3) rfl rfl ?_
    show Steps p.tables e below (T1.setTop (mkF m 4 #[.val (.ref a1)] [(.ref b1), (.ref b1)])) _
    refine st2 _ ?_
    show Steps p.tables e below (T2.setTop (mkF m 7 #[.val (.ref a1)] [(.ref w_n1), (.ref b1), (.ref b1)])) _
    refine XS.aloadN X2.here hx rfl (hb hby d1_7) rfl rfl ?_
    show Steps p.tables e below (T2.setTop (mkF m 8 #[.val (.ref a1)] [(.ref a1), (.ref w_n1), (.ref b1), (.ref b1)])) _
    refine st3 _ ?_
    show Steps p.tables e below (T3.setTop (mkF m 11 #[.val (.ref a1)] [(.ref b3), (.ref w_n1), (.ref b1), (.ref b1)])) _
    refine st4.trans ?_
    show Steps p.tables e below (T4.setTop (mkF m 14 #[.val (.ref a1)] [(.ref b1)])) _
    jvm_step X4.here [X4.here.top, hx, (hb hby d1_14), X4.method', Bd.returns, Value.isRef, FieldType.isReference]
    first | (intro acts; rw [hr _ acts rfl rfl rfl]) | rw [hr _ _ rfl rfl rfl]
    exact Steps.refl _
  · show QW (fun v h => ∃ b1 : Addr, ∃ b3 : Addr, v = some (.ref b1) ∧ Keep h0 h [] ∧ n0 ≤ b1 ∧ h0.size ≤ b1 ∧ n0 ≤ b3 ∧ h0.size ≤ b3 ∧ Exa Z h b1 "com/example/keyfold/keyfold/core/Value" ∧ Fld Z h b1 "com/example/keyfold/keyfold/core/Value" "type" "Lcom/example/keyfold/keyfold/core/ValueType;" (.ref w_n1) ∧ Fld Z h b1 "com/example/keyfold/keyfold/core/Value" "content" "Ljava/lang/Object;" (.ref b3) ∧ Exa Z h b3 "[B" ∧ Arv Z h b3 kk .byte (0 : Int32) [] (.int (0 : Int32))) n0 _ T4.heap _
    exact ⟨N4, ⟨b1, b3, rfl, K4, g_b1, sz_b1, g_b3, sz_b3, fp4_0, fp4_1, fp4_2, f4_4, f4_3⟩⟩
theorem d5_0 : decode prog_50_method_13_code 0 = .ok (.getstatic 104, 3) := by decide +kernel
theorem d5_3 : decode prog_50_method_13_code 3 = .ok (.aload_n 0, 1) := by decide +kernel
theorem d5_4 : decode prog_50_method_13_code 4 = .ok (.getfield 7, 3) := by decide +kernel
theorem d5_7 : decode prog_50_method_13_code 7 = .ok (.invokevirtual 110, 3) := by decide +kernel
theorem d5_10 : decode prog_50_method_13_code 10 = .ok (.iaload, 1) := by decide +kernel
theorem d5_11 : decode prog_50_method_13_code 11 = .ok (.tableswitch 33 1 5 #[43, 56, 56, 61, 65], 33) := by decide +kernel
theorem d5_76 : decode prog_50_method_13_code 76 = .ok (.aload_n 0, 1) := by decide +kernel
theorem d5_77 : decode prog_50_method_13_code 77 = .ok (.getfield 13, 3) := by decide +kernel
theorem d5_80 : decode prog_50_method_13_code 80 = .ok (.checkcast 81, 3) := by decide +kernel
theorem d5_83 : decode prog_50_method_13_code 83 = .ok (.arraylength, 1) := by decide +kernel
theorem d5_84 : decode prog_50_method_13_code 84 = .ok (.ireturn, 1) := by decide +kernel
theorem pd_1 : parseMethodDescriptor "()I" = some ⟨[], some .int⟩ := by decide +kernel
theorem ef_5_5 (m : MethodId) (x0 : Addr) : entryFrame m #[(.ref x0)] 1 = mkF m 0 #[.val (.ref x0)] [] := by first | (simp [entryFrame, mkF, argsToLocals, Value.category]; done) | rfl
theorem pn_5 : plainName "com/example/keyfold/keyfold/core/Value" = true := by first | (simp [plainName, overriddenIn]; done) | decide +kernel
set_option maxRecDepth 65536 in
set_option maxHeartbeats 40000000 in
theorem rm7_0 (l : Launch) (Z : State) (a0 : Array Value) (hw : ∀ d ∈ tables_1, d.before a0 Z = true) (ws : List Jvm.Cond) {w_n1 : Addr} {w_n0 : Addr} {k_n0 : ClassId} (W : Wd Z w_n1 w_n0 k_n0) (a1 : Addr) (a3 : Addr) (kk : ClassId) (h0 : Heap) (n0 : Nat) (O0 : Old Z n0 h0) (g_a1 : n0 ≤ a1) (hf0 : Exa Z h0 a1 "com/example/keyfold/keyfold/core/Value") (hf1 : Fld Z h0 a1 "com/example/keyfold/keyfold/core/Value" "type" "Lcom/example/keyfold/keyfold/core/ValueType;" (.ref w_n1)) (hf2 : Fld Z h0 a1 "com/example/keyfold/keyfold/core/Value" "content" "Ljava/lang/Object;" (.ref a3)) (g_a3 : n0 ≤ a3) (hf3 : Exa Z h0 a3 "[B") (hf4 : Arv Z h0 a3 kk .byte (0 : Int32) [] (.int (0 : Int32))) :
    MetFree l (⟨"com/example/keyfold/keyfold/core/Value", "size", "()I"⟩ : MethodName) (head1 (Jvm.Cond.code (⟨"com/example/keyfold/keyfold/core/Value", "size", "()I"⟩ : MethodName) prog_50_method_13_code 1 (some .int) :: ws) ({ frames := 1, cells := 0, slots := 0, locals := 13 } : Room)) (fun a U => a = #[(.ref a1)] ∧ Z.Warmed39 U.vm ∧ U.heap = h0) (fun _ _ _ _ _ => True) (fun _ U o U' => ∃ v L, o = .returned v ∧ QP (some (.int (0 : Int32))) h0 n0 v U'.heap L ∧ FrameEnd U o U' L ({ frames := 1, cells := 0, slots := 0, locals := 13 } : Room).cells ({ frames := 1, cells := 0, slots := 0, locals := 13 } : Room).slots) := by
  have W' := W; obtain ⟨S_n1, E_n1, S_n0, F_n1_ordinal, V_n0⟩ := W'
  refine MetFree.of_bodySF (plainFor_of_name pn_5) hisR ?_
  intro p e s m args below meth c s₁ Bd hml0 hP hK
  obtain ⟨rfl, hZ, hh⟩ := hP
  have hx := Bd.exec
  have hby := Bd.bytes
  have hml : c.maxLocals = 1 := hml0
  have hown : s.vm.findClass "com/example/keyfold/keyfold/core/Value" = some m.cls := findClass_of_methodNamed Bd.named
  have hnm := (name_of_methodNamed Bd.named Bd.method).1
  have X0 : Stand p l e ({ frames := 1, cells := 0, slots := 0, locals := 13 } : Room) s m #[(.ref a1)] below meth c s₁ [] 0 0 := Stand.of_body Bd
  have e0 : s₁.heap = h0 := by rw [← hh, Bd.state]; rfl
  have N0 := Fr.nil n0
  have pre0 : ∀ t, Steps p.tables e below (s₁.setTop (mkF m 0 #[.val (.ref a1)] [])) t → Steps p.tables e below (s₁.setTop (entryFrame m #[(.ref a1)] 1)) t := fun t k => castTop (ef_5_5 m a1) k
  obtain ⟨T1, X1, e1, st1⟩ := getS2 X0 hx hZ hown (host := "") (Or.inl (hw _ (List.mem_of_getElem? (i := 39) rfl))) Via.refl e0 (S_n0.ext O0.2) (g := (mkF m 0 #[.val (.ref a1)] [])) rfl (hb hby d5_0)
  obtain ⟨T2, X2, e2, st2⟩ := getF X1 hx hZ hown (host := "") (Or.inl (hw _ (List.mem_of_getElem? (i := 24) rfl))) Via.refl e1 hf1 (g := (mkF m 4 #[.val (.ref a1)] [(.ref a1), (.ref w_n0)])) rfl rfl (hb hby d5_4)
  obtain ⟨cq3, kq3, q3a, q3b, q3c⟩ := isOf hZ e2 (E_n1.ext O0.2)
  obtain ⟨_, _, ⟨T3, L3, k3, n3⟩, -, X3, ⟨Lc3, hQ3, l3, y3, z3⟩, st3⟩ := X2.virtualBackUp hx (x := (⟨"com/example/keyfold/keyfold/core/ValueType", "ordinal", "()I"⟩ : MethodName)) (y := (⟨"java/lang/Enum", "ordinal", "()I"⟩ : MethodName)) (owner := "java/lang/Enum") hown (mvT hZ (hw _ (List.mem_of_getElem? (i := 42) rfl))) (mvT hZ (hw _ (List.mem_of_getElem? (i := 43) rfl))) (mvT hZ (hw _ (List.mem_of_getElem? (i := 44) rfl))) (by decide) (mvT hZ (hw _ (List.mem_of_getElem? (i := 46) rfl))) (mvT hZ (hw _ (List.mem_of_getElem? (i := 45) rfl))) (backOf (W := 1) (rm8 l Z a0 hw [] W  h0 n0 O0 ) hZ (hw _ (List.mem_of_getElem? (i := 48) rfl)) (hw _ (List.mem_of_getElem? (i := 47) rfl)) (by decide) (by decide)) q3a q3c (g := (mkF m 7 #[.val (.ref a1)] [(.ref w_n1), (.ref w_n0)])) rfl (by rw [hml]; rfl) (Steps.refl _) (argsL := []) (rest := [(.ref w_n0)]) (lenOf pd_1 rfl) rfl (by show 2 * 0 + _ ≤ _; exact Nat.le_of_eq rfl) (hb hby d5_7) (fun _ _ => ⟨rfl, e2, (by decide : 0 + 0 ≤ _), (by decide : 0 + 0 ≤ _)⟩)
  dsimp only [Pt.U, Pt.locs, Pt.cells, Pt.slots] at X3 l3 y3 z3 st3 hQ3
  subst l3 y3 z3
  obtain ⟨rfl, N3q, e3⟩ := hQ3
  have N3 := Fr.app N0 N3q
  obtain ⟨cl4, Ar4, qk4, Sz4, Nz4, Hs4, Gs4⟩ := id (V_n0.ext O0.2)
  have hin4 : ¬ ((4 : Int32) < 0 ∨ cl4.slots.size ≤ ((4 : Int32)).toNatClampNeg) := inb_of Sz4 ⟨by decide, by decide⟩
  have hat4 : cl4.slots[((4 : Int32)).toNatClampNeg]? = some (.int (5 : Int32)) := Has.at Hs4 hin4 rfl
  obtain ⟨T5, X5, e5, st5⟩ := getF X3 hx hZ hown (host := "") (Or.inl (hw _ (List.mem_of_getElem? (i := 26) rfl))) Via.refl e3 hf2 (g := (mkF m 77 #[.val (.ref a1)] [(.ref a1)])) rfl rfl (hb hby d5_77)
  obtain ⟨T6, X6, e6, st6⟩ := castY X5 hx hZ hown (hw _ (List.mem_of_getElem? (i := 51) rfl)) e5 (Ins.self hf3) (g := (mkF m 80 #[.val (.ref a1)] [(.ref a3)])) rfl rfl (hb hby d5_80)
  obtain ⟨cl7, Ar7, qk7, Sz7, Nz7, Hs7, Gs7⟩ := id hf4
  obtain ⟨fs, hr, hrun, hended, hW, hsame⟩ := X6.leave (v := some (.int (0 : Int32))) (fun h => by rw [Bd.returns] at h; cases h)
  refine ⟨_, _, pre0 _ ?_, hrun, hended, _, _, rfl, ?_, ⟨_, rfl⟩, hW, hsame.mono (by decide) (by decide)⟩
  · show Steps p.tables e below (s₁.setTop (mkF m 0 #[.val (.ref a1)] [])) _
    refine st1 _ ?_
    show Steps p.tables e below (T1.setTop (mkF m 3 #[.val (.ref a1)] [(.ref w_n0)])) _
    refine XS.aloadN X1.here hx rfl (hb hby d5_3) rfl rfl ?_
    show Steps p.tables e below (T1.setTop (mkF m 4 #[.val (.ref a1)] [(.ref a1), (.ref w_n0)])) _
    refine st2 _ ?_
    show Steps p.tables e below (T2.setTop (mkF m 7 #[.val (.ref a1)] [(.ref w_n1), (.ref w_n0)])) _
    refine st3.trans ?_
    show Steps p.tables e below (T3.setTop (mkF m 10 #[.val (.ref a1)] [(.int (4 : Int32)), (.ref w_n0)])) _
    refine X3.iaload hx (j := (4 : Int32)) (v := (.int (5 : Int32))) (by rw [e3]; exact Ar4.1) (State.isArrayOf_alike hZ.alike Ar4.2.1) Ar4.2.2 hin4 hat4 (g := (mkF m 10 #[.val (.ref a1)] [(.int (4 : Int32)), (.ref w_n0)])) rfl rfl (hb hby d5_10) _ ?_
    show Steps p.tables e below (T3.setTop (mkF m 11 #[.val (.ref a1)] [(.int (5 : Int32))])) _
    refine XS.tswIn X3.here hx rfl (o := 65) (pc0 := 11) (pc' := 76) rfl (hb hby d5_11) rfl (by decide) (by decide) (by decide) (by decide) ?_
    show Steps p.tables e below (T3.setTop (mkF m 76 #[.val (.ref a1)] [])) _
    refine XS.aloadN X3.here hx rfl (hb hby d5_76) rfl rfl ?_
    show Steps p.tables e below (T3.setTop (mkF m 77 #[.val (.ref a1)] [(.ref a1)])) _
    refine st5 _ ?_
    show Steps p.tables e below (T5.setTop (mkF m 80 #[.val (.ref a1)] [(.ref a3)])) _
    refine st6 _ ?_
    show Steps p.tables e below (T6.setTop (mkF m 83 #[.val (.ref a1)] [(.ref a3)])) _
    refine X6.arraylength hx (by rw [e6]; exact Ar7.1) (State.isArrayOf_alike hZ.alike Ar7.2.1) (g := (mkF m 83 #[.val (.ref a1)] [(.ref a3)])) rfl rfl (hb hby d5_83) _ ?_
    rw [len_of Sz7 Nz7]
    show Steps p.tables e below (T6.setTop (mkF m 84 #[.val (.ref a1)] [(.int (0 : Int32))])) _
    exact retI X6 hx Bd.returns (hb hby d5_84) hr
  · show QP (some (.int (0 : Int32))) h0 n0 _ T6.heap _
    rw [e6]
    exact ⟨rfl, N3, rfl⟩
theorem d7_0 : decode prog_50_method_12_code 0 = .ok (.aload_n 0, 1) := by decide +kernel
theorem d7_1 : decode prog_50_method_12_code 1 = .ok (.getstatic 77, 3) := by decide +kernel
theorem d7_4 : decode prog_50_method_12_code 4 = .ok (.invokevirtual 86, 3) := by decide +kernel
theorem d7_7 : decode prog_50_method_12_code 7 = .ok (.checkcast 81, 3) := by decide +kernel
theorem d7_10 : decode prog_50_method_12_code 10 = .ok (.invokevirtual 80, 3) := by decide +kernel
theorem d7_13 : decode prog_50_method_12_code 13 = .ok (.checkcast 81, 3) := by decide +kernel
theorem d7_16 : decode prog_50_method_12_code 16 = .ok (.areturn, 1) := by decide +kernel
theorem pd_2 : parseMethodDescriptor "(Lcom/example/keyfold/keyfold/core/ValueType;)Ljava/lang/Object;" = some ⟨[(.object "com/example/keyfold/keyfold/core/ValueType")], some (.object "java/lang/Object")⟩ := by decide +kernel
theorem ef_7_6 (m : MethodId) (x0 : Addr) : entryFrame m #[(.ref x0)] 1 = mkF m 0 #[.val (.ref x0)] [] := by first | (simp [entryFrame, mkF, argsToLocals, Value.category]; done) | rfl
theorem pn_7 : plainName "com/example/keyfold/keyfold/core/Value" = true := by first | (simp [plainName, overriddenIn]; done) | decide +kernel
set_option maxRecDepth 65536 in
set_option maxHeartbeats 40000000 in
theorem rm5_0 (l : Launch) (Z : State) (a0 : Array Value) (hw : ∀ d ∈ tables_1, d.before a0 Z = true) (ws : List Jvm.Cond) {w_n1 : Addr} {w_n0 : Addr} {k_n0 : ClassId} (W : Wd Z w_n1 w_n0 k_n0) (a1 : Addr) (a3 : Addr) (kk : ClassId) (h0 : Heap) (n0 : Nat) (O0 : Old Z n0 h0) (g_a1 : n0 ≤ a1) (hf0 : Exa Z h0 a1 "com/example/keyfold/keyfold/core/Value") (hf1 : Fld Z h0 a1 "com/example/keyfold/keyfold/core/Value" "type" "Lcom/example/keyfold/keyfold/core/ValueType;" (.ref w_n1)) (hf2 : Fld Z h0 a1 "com/example/keyfold/keyfold/core/Value" "content" "Ljava/lang/Object;" (.ref a3)) (g_a3 : n0 ≤ a3) (hf3 : Exa Z h0 a3 "[B") (hf4 : Arv Z h0 a3 kk .byte (0 : Int32) [] (.int (0 : Int32))) :
    MetFree l (⟨"com/example/keyfold/keyfold/core/Value", "asBinary", "()[B"⟩ : MethodName) (head1 (Jvm.Cond.code (⟨"com/example/keyfold/keyfold/core/Value", "asBinary", "()[B"⟩ : MethodName) prog_50_method_12_code 1 (some (.array .byte)) :: ws) ({ frames := 1, cells := 1, slots := 0, locals := 14 } : Room)) (fun a U => a = #[(.ref a1)] ∧ Z.Warmed39 U.vm ∧ U.heap = h0) (fun _ _ _ _ _ => True) (fun _ U o U' => ∃ v L, o = .returned v ∧ QW (fun v h => ∃ b4 : Addr, v = some (.ref b4) ∧ Keep h0 h [] ∧ n0 ≤ b4 ∧ h0.size ≤ b4 ∧ Exa Z h b4 "[B" ∧ Arv Z h b4 kk .byte (0 : Int32) [] (.int (0 : Int32))) n0 v U'.heap L ∧ FrameEnd U o U' L ({ frames := 1, cells := 1, slots := 0, locals := 14 } : Room).cells ({ frames := 1, cells := 1, slots := 0, locals := 14 } : Room).slots) := by
  have W' := W; obtain ⟨S_n1, E_n1, S_n0, F_n1_ordinal, V_n0⟩ := W'
  refine MetFree.of_bodySF (plainFor_of_name pn_7) hisR ?_
  intro p e s m args below meth c s₁ Bd hml0 hP hK
  obtain ⟨rfl, hZ, hh⟩ := hP
  have hx := Bd.exec
  have hby := Bd.bytes
  have hml : c.maxLocals = 1 := hml0
  have hown : s.vm.findClass "com/example/keyfold/keyfold/core/Value" = some m.cls := findClass_of_methodNamed Bd.named
  have hnm := (name_of_methodNamed Bd.named Bd.method).1
  have X0 : Stand p l e ({ frames := 1, cells := 1, slots := 0, locals := 14 } : Room) s m #[(.ref a1)] below meth c s₁ [] 0 0 := Stand.of_body Bd
  have e0 : s₁.heap = h0 := by rw [← hh, Bd.state]; rfl
  have N0 := Fr.nil n0
  have pre0 : ∀ t, Steps p.tables e below (s₁.setTop (mkF m 0 #[.val (.ref a1)] [])) t → Steps p.tables e below (s₁.setTop (entryFrame m #[(.ref a1)] 1)) t := fun t k => castTop (ef_7_6 m a1) k
  obtain ⟨T1, X1, e1, st1⟩ := getS2 X0 hx hZ hown (host := "") (Or.inl (hw _ (List.mem_of_getElem? (i := 8) rfl))) Via.refl e0 (S_n1.ext O0.2) (g := (mkF m 1 #[.val (.ref a1)] [(.ref a1)])) rfl (hb hby d7_1)
  obtain ⟨cq2, q2, q2'⟩ := (hf0).cell
  obtain ⟨_, _, ⟨T2, L2, k2, n2⟩, -, X2, ⟨Lc2, hQ2, l2, y2, z2⟩, st2⟩ := X1.privateBack hx (y := (⟨"com/example/keyfold/keyfold/core/Value", "contentOf", "(Lcom/example/keyfold/keyfold/core/ValueType;)Ljava/lang/Object;"⟩ : MethodName)) hown (mvT hZ (hw _ (List.mem_of_getElem? (i := 58) rfl))) (mvT hZ (hw _ (List.mem_of_getElem? (i := 59) rfl))) (own_selP hZ (hw _ (List.mem_of_getElem? (i := 31) rfl)) rfl (hw _ (List.mem_of_getElem? (i := 60) rfl)) (hw _ (List.mem_of_getElem? (i := 59) rfl)) (by decide)) (Cond.privateMethod_at (mvP hZ (hw _ (List.mem_of_getElem? (i := 60) rfl)) (args := #[]))) (mvT hZ (hw _ (List.mem_of_getElem? (i := 61) rfl))) (by decide) (backOf (W := 0) (rm6 l Z a0 hw [] W a1 a3 h0 n0 O0 hf1 hf2) hZ (hw _ (List.mem_of_getElem? (i := 61) rfl)) (hw _ (List.mem_of_getElem? (i := 4) rfl)) (by decide) (by decide)) (g := (mkF m 4 #[.val (.ref a1)] [(.ref w_n1), (.ref a1)])) rfl (by rw [hml]; rfl) (Steps.refl _) (a := a1) (by rw [e1]; exact q2) q2' (argsL := [(.ref w_n1)]) (rest := []) (lenOf pd_2 rfl) rfl (by show 2 * 0 + _ ≤ _; exact Nat.le_of_eq rfl) (hb hby d7_4) (fun _ _ => ⟨rfl, e1, (by decide : 0 + 0 ≤ _), (by decide : 0 + 0 ≤ _)⟩)
  dsimp only [Pt.U, Pt.locs, Pt.cells, Pt.slots] at X2 l2 y2 z2 st2 hQ2
  subst l2 y2 z2
  obtain ⟨rfl, N2q, e2⟩ := hQ2
  have N2 := Fr.app N0 N2q
  obtain ⟨T3, X3, e3, st3⟩ := castY X2 hx hZ hown (hw _ (List.mem_of_getElem? (i := 51) rfl)) e2 (Ins.self hf3) (g := (mkF m 7 #[.val (.ref a1)] [(.ref a3)])) rfl rfl (hb hby d7_7)
  obtain ⟨T4, h4, X4, e4, E4, A4, B4, st4⟩ := cloneH X3 hx hZ hown (hw _ (List.mem_of_getElem? (i := 11) rfl)) (hw _ (List.mem_of_getElem? (i := 12) rfl)) (hw _ (List.mem_of_getElem? (i := 16) rfl)) (hw _ (List.mem_of_getElem? (i := 14) rfl)) (hw _ (List.mem_of_getElem? (i := 15) rfl)) (hw _ (List.mem_of_getElem? (i := 17) rfl)) e3 (hf4).arh hf3 (g := (mkF m 10 #[.val (.ref a1)] [(.ref a3)])) rfl (by rw [hml]; rfl) rfl (hb hby d7_10) (by decide) (W := 0) (cap := 0) (by show 2 * 0 + _ ≤ _; exact Nat.le_of_eq rfl) (by decide) (by decide) (by decide) (by decide)
  obtain ⟨b4, g4⟩ : ∃ z, z = h0.size := ⟨_, rfl⟩
  rw [← g4] at A4 B4 st4
  have lt_a1_b4 : a1 < h0.size := (hf0).lt
  have lt_a3_b4 : a3 < h0.size := (hf3).lt
  have g_b4 : n0 ≤ b4 := by rw [g4]; exact O0.1 ▸ O0.2.1
  have sz_b4 : h0.size ≤ b4 := by rw [g4]; exact (Keep.refl h0 []).1
  have f4_0 : Exa Z h4 a1 "com/example/keyfold/keyfold/core/Value" := (hf0).ext E4
  have f4_1 : Fld Z h4 a1 "com/example/keyfold/keyfold/core/Value" "type" "Lcom/example/keyfold/keyfold/core/ValueType;" (.ref w_n1) := (hf1).ext E4
  have f4_2 : Fld Z h4 a1 "com/example/keyfold/keyfold/core/Value" "content" "Ljava/lang/Object;" (.ref a3) := (hf2).ext E4
  have f4_3 : Exa Z h4 a3 "[B" := (hf3).ext E4
  have f4_4 : Arv Z h4 a3 kk .byte (0 : Int32) [] (.int (0 : Int32)) := (hf4).ext E4
  have O4 := O0.ext E4
  have K4 : Keep h0 h4 [] := (Keep.refl h0 []).ext E4
  have fv4 : Arv Z h4 b4 kk .byte (0 : Int32) [] (.int (0 : Int32)) := A4
  obtain ⟨T5, X5, e5, st5⟩ := castY X4 hx hZ hown (hw _ (List.mem_of_getElem? (i := 51) rfl)) e4 (Ins.self B4) (g := (mkF m 13 #[.val (.ref a1)] [(.ref b4)])) rfl rfl (hb hby d7_13)
  obtain ⟨fs, hr, hrun, hended, hW, hsame⟩ := X5.leave (v := some (.ref b4)) (fun h => by rw [Bd.returns] at h; cases h)
  refine ⟨_, _, pre0 _ ?_, hrun, hended, _, _, rfl, ?_, ⟨_, rfl⟩, hW, hsame.mono (by decide) (by decide)⟩
  · show Steps p.tables e below (s₁.setTop (mkF m 0 #[.val (.ref a1)] [])) _
    refine XS.aloadN X0.here hx rfl (hb hby d7_0) rfl rfl ?_
    show Steps p.tables e below (s₁.setTop (mkF m 1 #[.val (.ref a1)] [(.ref a1)])) _
    refine st1 _ ?_
    show Steps p.tables e below (T1.setTop (mkF m 4 #[.val (.ref a1)] [(.ref w_n1), (.ref a1)])) _
    refine st2.trans ?_
    show Steps p.tables e below (T2.setTop (mkF m 7 #[.val (.ref a1)] [(.ref a3)])) _
    refine st3 _ ?_
    show Steps p.tables e below (T3.setTop (mkF m 10 #[.val (.ref a1)] [(.ref a3)])) _
    refine st4 _ ?_
    show Steps p.tables e below (T4.setTop (mkF m 13 #[.val (.ref a1)] [(.ref b4)])) _
    refine st5 _ ?_
    show Steps p.tables e below (T5.setTop (mkF m 16 #[.val (.ref a1)] [(.ref b4)])) _
    jvm_step X5.here [X5.here.top, hx, (hb hby d7_16), X5.method', Bd.returns, Value.isRef, FieldType.isReference]
    first | (intro acts; rw [hr _ acts rfl rfl rfl]) | rw [hr _ _ rfl rfl rfl]
    exact Steps.refl _
  · show QW (fun v h => ∃ b4 : Addr, v = some (.ref b4) ∧ Keep h0 h [] ∧ n0 ≤ b4 ∧ h0.size ≤ b4 ∧ Exa Z h b4 "[B" ∧ Arv Z h b4 kk .byte (0 : Int32) [] (.int (0 : Int32))) n0 _ T5.heap _
    rw [e5]
    exact ⟨N2, ⟨b4, rfl, K4, g_b4, sz_b4, B4, fv4⟩⟩
set_option maxRecDepth 65536 in
set_option maxHeartbeats 40000000 in
theorem rm1_1 (l : Launch) (Z : State) (a0 : Array Value) (hw : ∀ d ∈ tables_1, d.before a0 Z = true) (ws : List Jvm.Cond) {w_n1 : Addr} {w_n0 : Addr} {k_n0 : ClassId} (W : Wd Z w_n1 w_n0 k_n0) (a1 : Addr) (kk : ClassId) (x0 : Int32) (h0 : Heap) (n0 : Nat) (O0 : Old Z n0 h0) (g_a1 : n0 ≤ a1) (hf0 : Exa Z h0 a1 "[B") (hf1 : Arv Z h0 a1 kk .byte (1 : Int32) [(.int x0)] (.int (0 : Int32))) :
    MetFree l (⟨"com/example/keyfold/keyfold/core/Value", "ofBinary", "([B)Lcom/example/keyfold/keyfold/core/Value;"⟩ : MethodName) (head1 (Jvm.Cond.code (⟨"com/example/keyfold/keyfold/core/Value", "ofBinary", "([B)Lcom/example/keyfold/keyfold/core/Value;"⟩ : MethodName) prog_50_method_6_code 1 (some (.object "com/example/keyfold/keyfold/core/Value")) :: ws) ({ frames := 2, cells := 2, slots := 3, locals := 27 } : Room)) (fun a U => a = #[(.ref a1)] ∧ Z.Warmed39 U.vm ∧ U.heap = h0) (fun _ _ _ _ _ => True) (fun _ U o U' => ∃ v L, o = .returned v ∧ QW (fun v h => ∃ b1 : Addr, ∃ b3 : Addr, v = some (.ref b1) ∧ Keep h0 h [] ∧ n0 ≤ b1 ∧ h0.size ≤ b1 ∧ n0 ≤ b3 ∧ h0.size ≤ b3 ∧ Exa Z h b1 "com/example/keyfold/keyfold/core/Value" ∧ Fld Z h b1 "com/example/keyfold/keyfold/core/Value" "type" "Lcom/example/keyfold/keyfold/core/ValueType;" (.ref w_n1) ∧ Fld Z h b1 "com/example/keyfold/keyfold/core/Value" "content" "Ljava/lang/Object;" (.ref b3) ∧ Exa Z h b3 "[B" ∧ Arv Z h b3 kk .byte (1 : Int32) [(.int x0)] (.int (0 : Int32))) n0 v U'.heap L ∧ FrameEnd U o U' L ({ frames := 2, cells := 2, slots := 3, locals := 27 } : Room).cells ({ frames := 2, cells := 2, slots := 3, locals := 27 } : Room).slots) := by
  have W' := W; obtain ⟨S_n1, E_n1, S_n0, F_n1_ordinal, V_n0⟩ := W'
  refine MetFree.of_bodySF (plainFor_of_name pn_1) hisR ?_
  intro p e s m args below meth c s₁ Bd hml0 hP hK
  obtain ⟨rfl, hZ, hh⟩ := hP
  have hx := Bd.exec
  have hby := Bd.bytes
  have hml : c.maxLocals = 1 := hml0
  have hown : s.vm.findClass "com/example/keyfold/keyfold/core/Value" = some m.cls := findClass_of_methodNamed Bd.named
  have hnm := (name_of_methodNamed Bd.named Bd.method).1
  have X0 : Stand p l e ({ frames := 2, cells := 2, slots := 3, locals := 27 } : Room) s m #[(.ref a1)] below meth c s₁ [] 0 0 := Stand.of_body Bd
  have e0 : s₁.heap = h0 := by rw [← hh, Bd.state]; rfl
  have N0 := Fr.nil n0
  have pre0 : ∀ t, Steps p.tables e below (s₁.setTop (mkF m 0 #[.val (.ref a1)] [])) t → Steps p.tables e below (s₁.setTop (entryFrame m #[(.ref a1)] 1)) t := fun t k => castTop (ef_1_4 m a1) k
  obtain ⟨T1, h1, X1, e1, E1, A1, D1, U1, st1⟩ := newO X0 hx hZ hown (hw _ (List.mem_of_getElem? (i := 6) rfl)) (hw _ (List.mem_of_getElem? (i := 7) rfl)) (hw _ (List.mem_of_getElem? (i := 4) rfl)) e0 (g := (mkF m 0 #[.val (.ref a1)] [])) rfl (hb hby d1_0) (by decide) (by decide)
  obtain ⟨b1, g1⟩ : ∃ z, z = h0.size := ⟨_, rfl⟩
  rw [← g1] at A1 D1 U1 st1
  have lt_a1_b1 : a1 < h0.size := (hf0).lt
  have g_b1 : n0 ≤ b1 := by rw [g1]; exact O0.1 ▸ O0.2.1
  have sz_b1 : h0.size ≤ b1 := by rw [g1]; exact (Keep.refl h0 []).1
  have f1_0 : Exa Z h1 a1 "[B" := (hf0).ext E1
  have f1_1 : Arv Z h1 a1 kk .byte (1 : Int32) [(.int x0)] (.int (0 : Int32)) := (hf1).ext E1
  have O1 := O0.ext E1
  have K1 : Keep h0 h1 [] := (Keep.refl h0 []).ext E1
  have f1_type : Fld Z h1 b1 "com/example/keyfold/keyfold/core/Value" "type" "Lcom/example/keyfold/keyfold/core/ValueType;" .null := D1 (Or.inr (hw _ (List.mem_of_getElem? (i := 25) rfl))) (ty := (.object "com/example/keyfold/keyfold/core/ValueType")) (by decide)
  have f1_content : Fld Z h1 b1 "com/example/keyfold/keyfold/core/Value" "content" "Ljava/lang/Object;" .null := D1 (Or.inr (hw _ (List.mem_of_getElem? (i := 27) rfl))) (ty := (.object "java/lang/Object")) (by decide)
  obtain ⟨T2, X2, e2, st2⟩ := getS2 X1 hx hZ hown (host := "") (Or.inl (hw _ (List.mem_of_getElem? (i := 8) rfl))) Via.refl e1 (S_n1.ext O1.2) (g := (mkF m 4 #[.val (.ref a1)] [(.ref b1), (.ref b1)])) rfl (hb hby d1_4)
  obtain ⟨T3, h3, X3, e3, E3, A3, B3, st3⟩ := cloneH X2 hx hZ hown (hw _ (List.mem_of_getElem? (i := 11) rfl)) (hw _ (List.mem_of_getElem? (i := 12) rfl)) (hw _ (List.mem_of_getElem? (i := 16) rfl)) (hw _ (List.mem_of_getElem? (i := 14) rfl)) (hw _ (List.mem_of_getElem? (i := 15) rfl)) (hw _ (List.mem_of_getElem? (i := 17) rfl)) e2 (f1_1).arh f1_0 (g := (mkF m 8 #[.val (.ref a1)] [(.ref a1), (.ref w_n1), (.ref b1), (.ref b1)])) rfl (by rw [hml]; rfl) rfl (hb hby d1_8) (by decide) (W := 3) (cap := 1) (by show 2 * 0 + _ ≤ _; exact Nat.le_of_eq rfl) (by decide) (by decide) (by decide) (by decide)
  obtain ⟨b3, g3⟩ : ∃ z, z = h1.size := ⟨_, rfl⟩
  rw [← g3] at A3 B3 st3
  have lt_a1_b3 : a1 < h1.size := (f1_0).lt
  have lt_b1_b3 : b1 < h1.size := (A1).lt
  have g_b3 : n0 ≤ b3 := by rw [g3]; exact O1.1 ▸ O1.2.1
  have sz_b3 : h0.size ≤ b3 := by rw [g3]; exact K1.1
  have f3_0 : Exa Z h3 a1 "[B" := (f1_0).ext E3
  have f3_1 : Arv Z h3 a1 kk .byte (1 : Int32) [(.int x0)] (.int (0 : Int32)) := (f1_1).ext E3
  have f3_2 : Exa Z h3 b1 "com/example/keyfold/keyfold/core/Value" := (A1).ext E3
  have f3_3 : Fld Z h3 b1 "com/example/keyfold/keyfold/core/Value" "type" "Lcom/example/keyfold/keyfold/core/ValueType;" .null := (f1_type).ext E3
  have f3_4 : Fld Z h3 b1 "com/example/keyfold/keyfold/core/Value" "content" "Ljava/lang/Object;" .null := (f1_content).ext E3
  have O3 := O1.ext E3
  have K3 : Keep h0 h3 [] := K1.ext E3
  have fv3 : Arv Z h3 b3 kk .byte (1 : Int32) [(.int x0)] (.int (0 : Int32)) := A3
  obtain ⟨_, _, ⟨T4, L4, k4, n4⟩, -, X4, ⟨Lc4, hQ4, l4, y4, z4⟩, st4⟩ := X3.specialBack hx (y := (⟨"com/example/keyfold/keyfold/core/Value", "<init>", "(Lcom/example/keyfold/keyfold/core/ValueType;Ljava/lang/Object;)V"⟩ : MethodName)) rfl hown (mvT hZ (hw _ (List.mem_of_getElem? (i := 18) rfl))) (mvT hZ (hw _ (List.mem_of_getElem? (i := 19) rfl))) (mvT hZ (hw _ (List.mem_of_getElem? (i := 20) rfl))) (by decide) (backOf (W := 1) (rm2 l Z a0 hw [] W b1 b3 h3 n0 O3 g_b1 f3_2 f3_3 f3_4) hZ (hw _ (List.mem_of_getElem? (i := 20) rfl)) (hw _ (List.mem_of_getElem? (i := 4) rfl)) (by decide) (by decide)) (g := (mkF m 11 #[.val (.ref a1)] [(.ref b3), (.ref w_n1), (.ref b1), (.ref b1)])) rfl (by rw [hml]; rfl) (Steps.refl _) (a := b1) (argsL := [(.ref w_n1), (.ref b3)]) (rest := [(.ref b1)]) (lenOf pd_0 rfl) rfl (by show 2 * 0 + _ ≤ _; exact Nat.le_of_eq rfl) (hb hby d1_11) (fun _ _ => ⟨rfl, e3, (by decide : 2 + 0 ≤ _), (by decide : 3 + 0 ≤ _)⟩)
  dsimp only [Pt.U, Pt.locs, Pt.cells, Pt.slots] at X4 l4 y4 z4 st4 hQ4
  subst l4 y4 z4
  obtain ⟨N4q, hP4⟩ := hQ4
  have N4 := Fr.app N0 N4q
  obtain ⟨rfl, Kp4, fp4_0, fp4_1, fp4_2⟩ := hP4
  have f4_0 : Exa Z T4.heap a1 "[B" := (f3_0).keep Kp4
  have f4_1 : Arv Z T4.heap a1 kk .byte (1 : Int32) [(.int x0)] (.int (0 : Int32)) := (f3_1).keep Kp4 (ninS (ne_exa f3_0 f3_2 (by decide)) nin0)
  have f4_2 : Exa Z T4.heap b1 "com/example/keyfold/keyfold/core/Value" := (f3_2).keep Kp4
  have f4_3 : Arv Z T4.heap b3 kk .byte (1 : Int32) [(.int x0)] (.int (0 : Int32)) := (fv3).keep Kp4 (ninS (ne_exa B3 f3_2 (by decide)) nin0)
  have f4_4 : Exa Z T4.heap b3 "[B" := (B3).keep Kp4
  have O4 := O3.keep Kp4 (allS g_b1 all0)
  have K4 : Keep h0 T4.heap [] := K3.trans Kp4 (allS (Or.inr sz_b1) all0)
  obtain ⟨fs, hr, hrun, hended, hW, hsame⟩ := X4.leave (v := some (.ref b1)) (fun h => by rw [Bd.returns] at h; cases h)
  refine ⟨_, _, pre0 _ ?_, hrun, hended, _, _, rfl, ?_, ⟨_, rfl⟩, hW, hsame.mono (by decide) (by decide)⟩
  · show Steps p.tables e below (s₁.setTop (mkF m 0 #[.val (.ref a1)] [])) _
    refine st1 _ ?_
    show Steps p.tables e below (T1.setTop (mkF m 3 #[.val (.ref a1)] [(.ref b1)])) _
    refine XS.dup X1.here hx rfl (hb hby d1_3) rfl rfl ?_
    show Steps p.tables e below (T1.setTop (mkF m 4 #[.val (.ref a1)] [(.ref b1), (.ref b1)])) _
    refine st2 _ ?_
    show Steps p.tables e below (T2.setTop (mkF m 7 #[.val (.ref a1)] [(.ref w_n1), (.ref b1), (.ref b1)])) _
    refine XS.aloadN X2.here hx rfl (hb hby d1_7) rfl rfl ?_
    show Steps p.tables e below (T2.setTop (mkF m 8 #[.val (.ref a1)] [(.ref a1), (.ref w_n1), (.ref b1), (.ref b1)])) _
    refine st3 _ ?_
    show Steps p.tables e below (T3.setTop (mkF m 11 #[.val (.ref a1)] [(.ref b3), (.ref w_n1), (.ref b1), (.ref b1)])) _
    refine st4.trans ?_
    show Steps p.tables e below (T4.setTop (mkF m 14 #[.val (.ref a1)] [(.ref b1)])) _
    jvm_step X4.here [X4.here.top, hx, (hb hby d1_14), X4.method', Bd.returns, Value.isRef, FieldType.isReference]
    first | (intro acts; rw [hr _ acts rfl rfl rfl]) | rw [hr _ _ rfl rfl rfl]
    exact Steps.refl _
  · show QW (fun v h => ∃ b1 : Addr, ∃ b3 : Addr, v = some (.ref b1) ∧ Keep h0 h [] ∧ n0 ≤ b1 ∧ h0.size ≤ b1 ∧ n0 ≤ b3 ∧ h0.size ≤ b3 ∧ Exa Z h b1 "com/example/keyfold/keyfold/core/Value" ∧ Fld Z h b1 "com/example/keyfold/keyfold/core/Value" "type" "Lcom/example/keyfold/keyfold/core/ValueType;" (.ref w_n1) ∧ Fld Z h b1 "com/example/keyfold/keyfold/core/Value" "content" "Ljava/lang/Object;" (.ref b3) ∧ Exa Z h b3 "[B" ∧ Arv Z h b3 kk .byte (1 : Int32) [(.int x0)] (.int (0 : Int32))) n0 _ T4.heap _
    exact ⟨N4, ⟨b1, b3, rfl, K4, g_b1, sz_b1, g_b3, sz_b3, fp4_0, fp4_1, fp4_2, f4_4, f4_3⟩⟩
set_option maxRecDepth 65536 in
set_option maxHeartbeats 40000000 in
theorem rm7_1 (l : Launch) (Z : State) (a0 : Array Value) (hw : ∀ d ∈ tables_1, d.before a0 Z = true) (ws : List Jvm.Cond) {w_n1 : Addr} {w_n0 : Addr} {k_n0 : ClassId} (W : Wd Z w_n1 w_n0 k_n0) (a1 : Addr) (a3 : Addr) (kk : ClassId) (x0 : Int32) (h0 : Heap) (n0 : Nat) (O0 : Old Z n0 h0) (g_a1 : n0 ≤ a1) (hf0 : Exa Z h0 a1 "com/example/keyfold/keyfold/core/Value") (hf1 : Fld Z h0 a1 "com/example/keyfold/keyfold/core/Value" "type" "Lcom/example/keyfold/keyfold/core/ValueType;" (.ref w_n1)) (hf2 : Fld Z h0 a1 "com/example/keyfold/keyfold/core/Value" "content" "Ljava/lang/Object;" (.ref a3)) (g_a3 : n0 ≤ a3) (hf3 : Exa Z h0 a3 "[B") (hf4 : Arv Z h0 a3 kk .byte (1 : Int32) [(.int x0)] (.int (0 : Int32))) :
    MetFree l (⟨"com/example/keyfold/keyfold/core/Value", "size", "()I"⟩ : MethodName) (head1 (Jvm.Cond.code (⟨"com/example/keyfold/keyfold/core/Value", "size", "()I"⟩ : MethodName) prog_50_method_13_code 1 (some .int) :: ws) ({ frames := 1, cells := 0, slots := 0, locals := 13 } : Room)) (fun a U => a = #[(.ref a1)] ∧ Z.Warmed39 U.vm ∧ U.heap = h0) (fun _ _ _ _ _ => True) (fun _ U o U' => ∃ v L, o = .returned v ∧ QP (some (.int (1 : Int32))) h0 n0 v U'.heap L ∧ FrameEnd U o U' L ({ frames := 1, cells := 0, slots := 0, locals := 13 } : Room).cells ({ frames := 1, cells := 0, slots := 0, locals := 13 } : Room).slots) := by
  have W' := W; obtain ⟨S_n1, E_n1, S_n0, F_n1_ordinal, V_n0⟩ := W'
  refine MetFree.of_bodySF (plainFor_of_name pn_5) hisR ?_
  intro p e s m args below meth c s₁ Bd hml0 hP hK
  obtain ⟨rfl, hZ, hh⟩ := hP
  have hx := Bd.exec
  have hby := Bd.bytes
  have hml : c.maxLocals = 1 := hml0
  have hown : s.vm.findClass "com/example/keyfold/keyfold/core/Value" = some m.cls := findClass_of_methodNamed Bd.named
  have hnm := (name_of_methodNamed Bd.named Bd.method).1
  have X0 : Stand p l e ({ frames := 1, cells := 0, slots := 0, locals := 13 } : Room) s m #[(.ref a1)] below meth c s₁ [] 0 0 := Stand.of_body Bd
  have e0 : s₁.heap = h0 := by rw [← hh, Bd.state]; rfl
  have N0 := Fr.nil n0
  have pre0 : ∀ t, Steps p.tables e below (s₁.setTop (mkF m 0 #[.val (.ref a1)] [])) t → Steps p.tables e below (s₁.setTop (entryFrame m #[(.ref a1)] 1)) t := fun t k => castTop (ef_5_5 m a1) k
  obtain ⟨T1, X1, e1, st1⟩ := getS2 X0 hx hZ hown (host := "") (Or.inl (hw _ (List.mem_of_getElem? (i := 39) rfl))) Via.refl e0 (S_n0.ext O0.2) (g := (mkF m 0 #[.val (.ref a1)] [])) rfl (hb hby d5_0)
  obtain ⟨T2, X2, e2, st2⟩ := getF X1 hx hZ hown (host := "") (Or.inl (hw _ (List.mem_of_getElem? (i := 24) rfl))) Via.refl e1 hf1 (g := (mkF m 4 #[.val (.ref a1)] [(.ref a1), (.ref w_n0)])) rfl rfl (hb hby d5_4)
  obtain ⟨cq3, kq3, q3a, q3b, q3c⟩ := isOf hZ e2 (E_n1.ext O0.2)
  obtain ⟨_, _, ⟨T3, L3, k3, n3⟩, -, X3, ⟨Lc3, hQ3, l3, y3, z3⟩, st3⟩ := X2.virtualBackUp hx (x := (⟨"com/example/keyfold/keyfold/core/ValueType", "ordinal", "()I"⟩ : MethodName)) (y := (⟨"java/lang/Enum", "ordinal", "()I"⟩ : MethodName)) (owner := "java/lang/Enum") hown (mvT hZ (hw _ (List.mem_of_getElem? (i := 42) rfl))) (mvT hZ (hw _ (List.mem_of_getElem? (i := 43) rfl))) (mvT hZ (hw _ (List.mem_of_getElem? (i := 44) rfl))) (by decide) (mvT hZ (hw _ (List.mem_of_getElem? (i := 46) rfl))) (mvT hZ (hw _ (List.mem_of_getElem? (i := 45) rfl))) (backOf (W := 1) (rm8 l Z a0 hw [] W  h0 n0 O0 ) hZ (hw _ (List.mem_of_getElem? (i := 48) rfl)) (hw _ (List.mem_of_getElem? (i := 47) rfl)) (by decide) (by decide)) q3a q3c (g := (mkF m 7 #[.val (.ref a1)] [(.ref w_n1), (.ref w_n0)])) rfl (by rw [hml]; rfl) (Steps.refl _) (argsL := []) (rest := [(.ref w_n0)]) (lenOf pd_1 rfl) rfl (by show 2 * 0 + _ ≤ _; exact Nat.le_of_eq rfl) (hb hby d5_7) (fun _ _ => ⟨rfl, e2, (by decide : 0 + 0 ≤ _), (by decide : 0 + 0 ≤ _)⟩)
  dsimp only [Pt.U, Pt.locs, Pt.cells, Pt.slots] at X3 l3 y3 z3 st3 hQ3
  subst l3 y3 z3
  obtain ⟨rfl, N3q, e3⟩ := hQ3
  have N3 := Fr.app N0 N3q
  obtain ⟨cl4, Ar4, qk4, Sz4, Nz4, Hs4, Gs4⟩ := id (V_n0.ext O0.2)
  have hin4 : ¬ ((4 : Int32) < 0 ∨ cl4.slots.size ≤ ((4 : Int32)).toNatClampNeg) := inb_of Sz4 ⟨by decide, by decide⟩
  have hat4 : cl4.slots[((4 : Int32)).toNatClampNeg]? = some (.int (5 : Int32)) := Has.at Hs4 hin4 rfl
  obtain ⟨T5, X5, e5, st5⟩ := getF X3 hx hZ hown (host := "") (Or.inl (hw _ (List.mem_of_getElem? (i := 26) rfl))) Via.refl e3 hf2 (g := (mkF m 77 #[.val (.ref a1)] [(.ref a1)])) rfl rfl (hb hby d5_77)
  obtain ⟨T6, X6, e6, st6⟩ := castY X5 hx hZ hown (hw _ (List.mem_of_getElem? (i := 51) rfl)) e5 (Ins.self hf3) (g := (mkF m 80 #[.val (.ref a1)] [(.ref a3)])) rfl rfl (hb hby d5_80)
  obtain ⟨cl7, Ar7, qk7, Sz7, Nz7, Hs7, Gs7⟩ := id hf4
  obtain ⟨fs, hr, hrun, hended, hW, hsame⟩ := X6.leave (v := some (.int (1 : Int32))) (fun h => by rw [Bd.returns] at h; cases h)
  refine ⟨_, _, pre0 _ ?_, hrun, hended, _, _, rfl, ?_, ⟨_, rfl⟩, hW, hsame.mono (by decide) (by decide)⟩
  · show Steps p.tables e below (s₁.setTop (mkF m 0 #[.val (.ref a1)] [])) _
    refine st1 _ ?_
    show Steps p.tables e below (T1.setTop (mkF m 3 #[.val (.ref a1)] [(.ref w_n0)])) _
    refine XS.aloadN X1.here hx rfl (hb hby d5_3) rfl rfl ?_
    show Steps p.tables e below (T1.setTop (mkF m 4 #[.val (.ref a1)] [(.ref a1), (.ref w_n0)])) _
    refine st2 _ ?_
    show Steps p.tables e below (T2.setTop (mkF m 7 #[.val (.ref a1)] [(.ref w_n1), (.ref w_n0)])) _
    refine st3.trans ?_
    show Steps p.tables e below (T3.setTop (mkF m 10 #[.val (.ref a1)] [(.int (4 : Int32)), (.ref w_n0)])) _
    refine X3.iaload hx (j := (4 : Int32)) (v := (.int (5 : Int32))) (by rw [e3]; exact Ar4.1) (State.isArrayOf_alike hZ.alike Ar4.2.1) Ar4.2.2 hin4 hat4 (g := (mkF m 10 #[.val (.ref a1)] [(.int (4 : Int32)), (.ref w_n0)])) rfl rfl (hb hby d5_10) _ ?_
    show Steps p.tables e below (T3.setTop (mkF m 11 #[.val (.ref a1)] [(.int (5 : Int32))])) _
    refine XS.tswIn X3.here hx rfl (o := 65) (pc0 := 11) (pc' := 76) rfl (hb hby d5_11) rfl (by decide) (by decide) (by decide) (by decide) ?_
    show Steps p.tables e below (T3.setTop (mkF m 76 #[.val (.ref a1)] [])) _
    refine XS.aloadN X3.here hx rfl (hb hby d5_76) rfl rfl ?_
    show Steps p.tables e below (T3.setTop (mkF m 77 #[.val (.ref a1)] [(.ref a1)])) _
    refine st5 _ ?_
    show Steps p.tables e below (T5.setTop (mkF m 80 #[.val (.ref a1)] [(.ref a3)])) _
    refine st6 _ ?_
    show Steps p.tables e below (T6.setTop (mkF m 83 #[.val (.ref a1)] [(.ref a3)])) _
    refine X6.arraylength hx (by rw [e6]; exact Ar7.1) (State.isArrayOf_alike hZ.alike Ar7.2.1) (g := (mkF m 83 #[.val (.ref a1)] [(.ref a3)])) rfl rfl (hb hby d5_83) _ ?_
    rw [len_of Sz7 Nz7]
    show Steps p.tables e below (T6.setTop (mkF m 84 #[.val (.ref a1)] [(.int (1 : Int32))])) _
    exact retI X6 hx Bd.returns (hb hby d5_84) hr
  · show QP (some (.int (1 : Int32))) h0 n0 _ T6.heap _
    rw [e6]
    exact ⟨rfl, N3, rfl⟩
set_option maxRecDepth 65536 in
set_option maxHeartbeats 40000000 in
theorem rm5_1 (l : Launch) (Z : State) (a0 : Array Value) (hw : ∀ d ∈ tables_1, d.before a0 Z = true) (ws : List Jvm.Cond) {w_n1 : Addr} {w_n0 : Addr} {k_n0 : ClassId} (W : Wd Z w_n1 w_n0 k_n0) (a1 : Addr) (a3 : Addr) (kk : ClassId) (x0 : Int32) (h0 : Heap) (n0 : Nat) (O0 : Old Z n0 h0) (g_a1 : n0 ≤ a1) (hf0 : Exa Z h0 a1 "com/example/keyfold/keyfold/core/Value") (hf1 : Fld Z h0 a1 "com/example/keyfold/keyfold/core/Value" "type" "Lcom/example/keyfold/keyfold/core/ValueType;" (.ref w_n1)) (hf2 : Fld Z h0 a1 "com/example/keyfold/keyfold/core/Value" "content" "Ljava/lang/Object;" (.ref a3)) (g_a3 : n0 ≤ a3) (hf3 : Exa Z h0 a3 "[B") (hf4 : Arv Z h0 a3 kk .byte (1 : Int32) [(.int x0)] (.int (0 : Int32))) :
    MetFree l (⟨"com/example/keyfold/keyfold/core/Value", "asBinary", "()[B"⟩ : MethodName) (head1 (Jvm.Cond.code (⟨"com/example/keyfold/keyfold/core/Value", "asBinary", "()[B"⟩ : MethodName) prog_50_method_12_code 1 (some (.array .byte)) :: ws) ({ frames := 1, cells := 1, slots := 1, locals := 14 } : Room)) (fun a U => a = #[(.ref a1)] ∧ Z.Warmed39 U.vm ∧ U.heap = h0) (fun _ _ _ _ _ => True) (fun _ U o U' => ∃ v L, o = .returned v ∧ QW (fun v h => ∃ b4 : Addr, v = some (.ref b4) ∧ Keep h0 h [] ∧ n0 ≤ b4 ∧ h0.size ≤ b4 ∧ Exa Z h b4 "[B" ∧ Arv Z h b4 kk .byte (1 : Int32) [(.int x0)] (.int (0 : Int32))) n0 v U'.heap L ∧ FrameEnd U o U' L ({ frames := 1, cells := 1, slots := 1, locals := 14 } : Room).cells ({ frames := 1, cells := 1, slots := 1, locals := 14 } : Room).slots) := by
  have W' := W; obtain ⟨S_n1, E_n1, S_n0, F_n1_ordinal, V_n0⟩ := W'
  refine MetFree.of_bodySF (plainFor_of_name pn_7) hisR ?_
  intro p e s m args below meth c s₁ Bd hml0 hP hK
  obtain ⟨rfl, hZ, hh⟩ := hP
  have hx := Bd.exec
  have hby := Bd.bytes
  have hml : c.maxLocals = 1 := hml0
  have hown : s.vm.findClass "com/example/keyfold/keyfold/core/Value" = some m.cls := findClass_of_methodNamed Bd.named
  have hnm := (name_of_methodNamed Bd.named Bd.method).1
  have X0 : Stand p l e ({ frames := 1, cells := 1, slots := 1, locals := 14 } : Room) s m #[(.ref a1)] below meth c s₁ [] 0 0 := Stand.of_body Bd
  have e0 : s₁.heap = h0 := by rw [← hh, Bd.state]; rfl
  have N0 := Fr.nil n0
  have pre0 : ∀ t, Steps p.tables e below (s₁.setTop (mkF m 0 #[.val (.ref a1)] [])) t → Steps p.tables e below (s₁.setTop (entryFrame m #[(.ref a1)] 1)) t := fun t k => castTop (ef_7_6 m a1) k
  obtain ⟨T1, X1, e1, st1⟩ := getS2 X0 hx hZ hown (host := "") (Or.inl (hw _ (List.mem_of_getElem? (i := 8) rfl))) Via.refl e0 (S_n1.ext O0.2) (g := (mkF m 1 #[.val (.ref a1)] [(.ref a1)])) rfl (hb hby d7_1)
  obtain ⟨cq2, q2, q2'⟩ := (hf0).cell
  obtain ⟨_, _, ⟨T2, L2, k2, n2⟩, -, X2, ⟨Lc2, hQ2, l2, y2, z2⟩, st2⟩ := X1.privateBack hx (y := (⟨"com/example/keyfold/keyfold/core/Value", "contentOf", "(Lcom/example/keyfold/keyfold/core/ValueType;)Ljava/lang/Object;"⟩ : MethodName)) hown (mvT hZ (hw _ (List.mem_of_getElem? (i := 58) rfl))) (mvT hZ (hw _ (List.mem_of_getElem? (i := 59) rfl))) (own_selP hZ (hw _ (List.mem_of_getElem? (i := 31) rfl)) rfl (hw _ (List.mem_of_getElem? (i := 60) rfl)) (hw _ (List.mem_of_getElem? (i := 59) rfl)) (by decide)) (Cond.privateMethod_at (mvP hZ (hw _ (List.mem_of_getElem? (i := 60) rfl)) (args := #[]))) (mvT hZ (hw _ (List.mem_of_getElem? (i := 61) rfl))) (by decide) (backOf (W := 0) (rm6 l Z a0 hw [] W a1 a3 h0 n0 O0 hf1 hf2) hZ (hw _ (List.mem_of_getElem? (i := 61) rfl)) (hw _ (List.mem_of_getElem? (i := 4) rfl)) (by decide) (by decide)) (g := (mkF m 4 #[.val (.ref a1)] [(.ref w_n1), (.ref a1)])) rfl (by rw [hml]; rfl) (Steps.refl _) (a := a1) (by rw [e1]; exact q2) q2' (argsL := [(.ref w_n1)]) (rest := []) (lenOf pd_2 rfl) rfl (by show 2 * 0 + _ ≤ _; exact Nat.le_of_eq rfl) (hb hby d7_4) (fun _ _ => ⟨rfl, e1, (by decide : 0 + 0 ≤ _), (by decide : 0 + 0 ≤ _)⟩)
  dsimp only [Pt.U, Pt.locs, Pt.cells, Pt.slots] at X2 l2 y2 z2 st2 hQ2
  subst l2 y2 z2
  obtain ⟨rfl, N2q, e2⟩ := hQ2
  have N2 := Fr.app N0 N2q
  obtain ⟨T3, X3, e3, st3⟩ := castY X2 hx hZ hown (hw _ (List.mem_of_getElem? (i := 51) rfl)) e2 (Ins.self hf3) (g := (mkF m 7 #[.val (.ref a1)] [(.ref a3)])) rfl rfl (hb hby d7_7)
  obtain ⟨T4, h4, X4, e4, E4, A4, B4, st4⟩ := cloneH X3 hx hZ hown (hw _ (List.mem_of_getElem? (i := 11) rfl)) (hw _ (List.mem_of_getElem? (i := 12) rfl)) (hw _ (List.mem_of_getElem? (i := 16) rfl)) (hw _ (List.mem_of_getElem? (i := 14) rfl)) (hw _ (List.mem_of_getElem? (i := 15) rfl)) (hw _ (List.mem_of_getElem? (i := 17) rfl)) e3 (hf4).arh hf3 (g := (mkF m 10 #[.val (.ref a1)] [(.ref a3)])) rfl (by rw [hml]; rfl) rfl (hb hby d7_10) (by decide) (W := 0) (cap := 1) (by show 2 * 0 + _ ≤ _; exact Nat.le_of_eq rfl) (by decide) (by decide) (by decide) (by decide)
  obtain ⟨b4, g4⟩ : ∃ z, z = h0.size := ⟨_, rfl⟩
  rw [← g4] at A4 B4 st4
  have lt_a1_b4 : a1 < h0.size := (hf0).lt
  have lt_a3_b4 : a3 < h0.size := (hf3).lt
  have g_b4 : n0 ≤ b4 := by rw [g4]; exact O0.1 ▸ O0.2.1
  have sz_b4 : h0.size ≤ b4 := by rw [g4]; exact (Keep.refl h0 []).1
  have f4_0 : Exa Z h4 a1 "com/example/keyfold/keyfold/core/Value" := (hf0).ext E4
  have f4_1 : Fld Z h4 a1 "com/example/keyfold/keyfold/core/Value" "type" "Lcom/example/keyfold/keyfold/core/ValueType;" (.ref w_n1) := (hf1).ext E4
  have f4_2 : Fld Z h4 a1 "com/example/keyfold/keyfold/core/Value" "content" "Ljava/lang/Object;" (.ref a3) := (hf2).ext E4
  have f4_3 : Exa Z h4 a3 "[B" := (hf3).ext E4
  have f4_4 : Arv Z h4 a3 kk .byte (1 : Int32) [(.int x0)] (.int (0 : Int32)) := (hf4).ext E4
  have O4 := O0.ext E4
  have K4 : Keep h0 h4 [] := (Keep.refl h0 []).ext E4
  have fv4 : Arv Z h4 b4 kk .byte (1 : Int32) [(.int x0)] (.int (0 : Int32)) := A4
  obtain ⟨T5, X5, e5, st5⟩ := castY X4 hx hZ hown (hw _ (List.mem_of_getElem? (i := 51) rfl)) e4 (Ins.self B4) (g := (mkF m 13 #[.val (.ref a1)] [(.ref b4)])) rfl rfl (hb hby d7_13)
  obtain ⟨fs, hr, hrun, hended, hW, hsame⟩ := X5.leave (v := some (.ref b4)) (fun h => by rw [Bd.returns] at h; cases h)
  refine ⟨_, _, pre0 _ ?_, hrun, hended, _, _, rfl, ?_, ⟨_, rfl⟩, hW, hsame.mono (by decide) (by decide)⟩
  · show Steps p.tables e below (s₁.setTop (mkF m 0 #[.val (.ref a1)] [])) _
    refine XS.aloadN X0.here hx rfl (hb hby d7_0) rfl rfl ?_
    show Steps p.tables e below (s₁.setTop (mkF m 1 #[.val (.ref a1)] [(.ref a1)])) _
    refine st1 _ ?_
    show Steps p.tables e below (T1.setTop (mkF m 4 #[.val (.ref a1)] [(.ref w_n1), (.ref a1)])) _
    refine st2.trans ?_
    show Steps p.tables e below (T2.setTop (mkF m 7 #[.val (.ref a1)] [(.ref a3)])) _
    refine st3 _ ?_
    show Steps p.tables e below (T3.setTop (mkF m 10 #[.val (.ref a1)] [(.ref a3)])) _
    refine st4 _ ?_
    show Steps p.tables e below (T4.setTop (mkF m 13 #[.val (.ref a1)] [(.ref b4)])) _
    refine st5 _ ?_
    show Steps p.tables e below (T5.setTop (mkF m 16 #[.val (.ref a1)] [(.ref b4)])) _
    jvm_step X5.here [X5.here.top, hx, (hb hby d7_16), X5.method', Bd.returns, Value.isRef, FieldType.isReference]
    first | (intro acts; rw [hr _ acts rfl rfl rfl]) | rw [hr _ _ rfl rfl rfl]
    exact Steps.refl _
  · show QW (fun v h => ∃ b4 : Addr, v = some (.ref b4) ∧ Keep h0 h [] ∧ n0 ≤ b4 ∧ h0.size ≤ b4 ∧ Exa Z h b4 "[B" ∧ Arv Z h b4 kk .byte (1 : Int32) [(.int x0)] (.int (0 : Int32))) n0 _ T5.heap _
    rw [e5]
    exact ⟨N2, ⟨b4, rfl, K4, g_b4, sz_b4, B4, fv4⟩⟩
set_option maxRecDepth 65536 in
set_option maxHeartbeats 40000000 in
theorem rm1_2 (l : Launch) (Z : State) (a0 : Array Value) (hw : ∀ d ∈ tables_1, d.before a0 Z = true) (ws : List Jvm.Cond) {w_n1 : Addr} {w_n0 : Addr} {k_n0 : ClassId} (W : Wd Z w_n1 w_n0 k_n0) (a1 : Addr) (kk : ClassId) (x0 : Int32) (x1 : Int32) (h0 : Heap) (n0 : Nat) (O0 : Old Z n0 h0) (g_a1 : n0 ≤ a1) (hf0 : Exa Z h0 a1 "[B") (hf1 : Arv Z h0 a1 kk .byte (2 : Int32) [(.int x0), (.int x1)] (.int (0 : Int32))) :
    MetFree l (⟨"com/example/keyfold/keyfold/core/Value", "ofBinary", "([B)Lcom/example/keyfold/keyfold/core/Value;"⟩ : MethodName) (head1 (Jvm.Cond.code (⟨"com/example/keyfold/keyfold/core/Value", "ofBinary", "([B)Lcom/example/keyfold/keyfold/core/Value;"⟩ : MethodName) prog_50_method_6_code 1 (some (.object "com/example/keyfold/keyfold/core/Value")) :: ws) ({ frames := 2, cells := 2, slots := 4, locals := 27 } : Room)) (fun a U => a = #[(.ref a1)] ∧ Z.Warmed39 U.vm ∧ U.heap = h0) (fun _ _ _ _ _ => True) (fun _ U o U' => ∃ v L, o = .returned v ∧ QW (fun v h => ∃ b1 : Addr, ∃ b3 : Addr, v = some (.ref b1) ∧ Keep h0 h [] ∧ n0 ≤ b1 ∧ h0.size ≤ b1 ∧ n0 ≤ b3 ∧ h0.size ≤ b3 ∧ Exa Z h b1 "com/example/keyfold/keyfold/core/Value" ∧ Fld Z h b1 "com/example/keyfold/keyfold/core/Value" "type" "Lcom/example/keyfold/keyfold/core/ValueType;" (.ref w_n1) ∧ Fld Z h b1 "com/example/keyfold/keyfold/core/Value" "content" "Ljava/lang/Object;" (.ref b3) ∧ Exa Z h b3 "[B" ∧ Arv Z h b3 kk .byte (2 : Int32) [(.int x0), (.int x1)] (.int (0 : Int32))) n0 v U'.heap L ∧ FrameEnd U o U' L ({ frames := 2, cells := 2, slots := 4, locals := 27 } : Room).cells ({ frames := 2, cells := 2, slots := 4, locals := 27 } : Room).slots) := by
  have W' := W; obtain ⟨S_n1, E_n1, S_n0, F_n1_ordinal, V_n0⟩ := W'
  refine MetFree.of_bodySF (plainFor_of_name pn_1) hisR ?_
  intro p e s m args below meth c s₁ Bd hml0 hP hK
  obtain ⟨rfl, hZ, hh⟩ := hP
  have hx := Bd.exec
  have hby := Bd.bytes
  have hml : c.maxLocals = 1 := hml0
  have hown : s.vm.findClass "com/example/keyfold/keyfold/core/Value" = some m.cls := findClass_of_methodNamed Bd.named
  have hnm := (name_of_methodNamed Bd.named Bd.method).1
  have X0 : Stand p l e ({ frames := 2, cells := 2, slots := 4, locals := 27 } : Room) s m #[(.ref a1)] below meth c s₁ [] 0 0 := Stand.of_body Bd
  have e0 : s₁.heap = h0 := by rw [← hh, Bd.state]; rfl
  have N0 := Fr.nil n0
  have pre0 : ∀ t, Steps p.tables e below (s₁.setTop (mkF m 0 #[.val (.ref a1)] [])) t → Steps p.tables e below (s₁.setTop (entryFrame m #[(.ref a1)] 1)) t := fun t k => castTop (ef_1_4 m a1) k
  obtain ⟨T1, h1, X1, e1, E1, A1, D1, U1, st1⟩ := newO X0 hx hZ hown (hw _ (List.mem_of_getElem? (i := 6) rfl)) (hw _ (List.mem_of_getElem? (i := 7) rfl)) (hw _ (List.mem_of_getElem? (i := 4) rfl)) e0 (g := (mkF m 0 #[.val (.ref a1)] [])) rfl (hb hby d1_0) (by decide) (by decide)
  obtain ⟨b1, g1⟩ : ∃ z, z = h0.size := ⟨_, rfl⟩
  rw [← g1] at A1 D1 U1 st1
  have lt_a1_b1 : a1 < h0.size := (hf0).lt
  have g_b1 : n0 ≤ b1 := by rw [g1]; exact O0.1 ▸ O0.2.1
  have sz_b1 : h0.size ≤ b1 := by rw [g1]; exact (Keep.refl h0 []).1
  have f1_0 : Exa Z h1 a1 "[B" := (hf0).ext E1
  have f1_1 : Arv Z h1 a1 kk .byte (2 : Int32) [(.int x0), (.int x1)] (.int (0 : Int32)) := (hf1).ext E1
  have O1 := O0.ext E1
  have K1 : Keep h0 h1 [] := (Keep.refl h0 []).ext E1
  have f1_type : Fld Z h1 b1 "com/example/keyfold/keyfold/core/Value" "type" "Lcom/example/keyfold/keyfold/core/ValueType;" .null := D1 (Or.inr (hw _ (List.mem_of_getElem? (i := 25) rfl))) (ty := (.object "com/example/keyfold/keyfold/core/ValueType")) (by decide)
  have f1_content : Fld Z h1 b1 "com/example/keyfold/keyfold/core/Value" "content" "Ljava/lang/Object;" .null := D1 (Or.inr (hw _ (List.mem_of_getElem? (i := 27) rfl))) (ty := (.object "java/lang/Object")) (by decide)
  obtain ⟨T2, X2, e2, st2⟩ := getS2 X1 hx hZ hown (host := "") (Or.inl (hw _ (List.mem_of_getElem? (i := 8) rfl))) Via.refl e1 (S_n1.ext O1.2) (g := (mkF m 4 #[.val (.ref a1)] [(.ref b1), (.ref b1)])) rfl (hb hby d1_4)
  obtain ⟨T3, h3, X3, e3, E3, A3, B3, st3⟩ := cloneH X2 hx hZ hown (hw _ (List.mem_of_getElem? (i := 11) rfl)) (hw _ (List.mem_of_getElem? (i := 12) rfl)) (hw _ (List.mem_of_getElem? (i := 16) rfl)) (hw _ (List.mem_of_getElem? (i := 14) rfl)) (hw _ (List.mem_of_getElem? (i := 15) rfl)) (hw _ (List.mem_of_getElem? (i := 17) rfl)) e2 (f1_1).arh f1_0 (g := (mkF m 8 #[.val (.ref a1)] [(.ref a1), (.ref w_n1), (.ref b1), (.ref b1)])) rfl (by rw [hml]; rfl) rfl (hb hby d1_8) (by decide) (W := 3) (cap := 2) (by show 2 * 0 + _ ≤ _; exact Nat.le_of_eq rfl) (by decide) (by decide) (by decide) (by decide)
  obtain ⟨b3, g3⟩ : ∃ z, z = h1.size := ⟨_, rfl⟩
  rw [← g3] at A3 B3 st3
  have lt_a1_b3 : a1 < h1.size := (f1_0).lt
  have lt_b1_b3 : b1 < h1.size := (A1).lt
  have g_b3 : n0 ≤ b3 := by rw [g3]; exact O1.1 ▸ O1.2.1
  have sz_b3 : h0.size ≤ b3 := by rw [g3]; exact K1.1
  have f3_0 : Exa Z h3 a1 "[B" := (f1_0).ext E3
  have f3_1 : Arv Z h3 a1 kk .byte (2 : Int32) [(.int x0), (.int x1)] (.int (0 : Int32)) := (f1_1).ext E3
  have f3_2 : Exa Z h3 b1 "com/example/keyfold/keyfold/core/Value" := (A1).ext E3
  have f3_3 : Fld Z h3 b1 "com/example/keyfold/keyfold/core/Value" "type" "Lcom/example/keyfold/keyfold/core/ValueType;" .null := (f1_type).ext E3
  have f3_4 : Fld Z h3 b1 "com/example/keyfold/keyfold/core/Value" "content" "Ljava/lang/Object;" .null := (f1_content).ext E3
  have O3 := O1.ext E3
  have K3 : Keep h0 h3 [] := K1.ext E3
  have fv3 : Arv Z h3 b3 kk .byte (2 : Int32) [(.int x0), (.int x1)] (.int (0 : Int32)) := A3
  obtain ⟨_, _, ⟨T4, L4, k4, n4⟩, -, X4, ⟨Lc4, hQ4, l4, y4, z4⟩, st4⟩ := X3.specialBack hx (y := (⟨"com/example/keyfold/keyfold/core/Value", "<init>", "(Lcom/example/keyfold/keyfold/core/ValueType;Ljava/lang/Object;)V"⟩ : MethodName)) rfl hown (mvT hZ (hw _ (List.mem_of_getElem? (i := 18) rfl))) (mvT hZ (hw _ (List.mem_of_getElem? (i := 19) rfl))) (mvT hZ (hw _ (List.mem_of_getElem? (i := 20) rfl))) (by decide) (backOf (W := 1) (rm2 l Z a0 hw [] W b1 b3 h3 n0 O3 g_b1 f3_2 f3_3 f3_4) hZ (hw _ (List.mem_of_getElem? (i := 20) rfl)) (hw _ (List.mem_of_getElem? (i := 4) rfl)) (by decide) (by decide)) (g := (mkF m 11 #[.val (.ref a1)] [(.ref b3), (.ref w_n1), (.ref b1), (.ref b1)])) rfl (by rw [hml]; rfl) (Steps.refl _) (a := b1) (argsL := [(.ref w_n1), (.ref b3)]) (rest := [(.ref b1)]) (lenOf pd_0 rfl) rfl (by show 2 * 0 + _ ≤ _; exact Nat.le_of_eq rfl) (hb hby d1_11) (fun _ _ => ⟨rfl, e3, (by decide : 2 + 0 ≤ _), (by decide : 4 + 0 ≤ _)⟩)
  dsimp only [Pt.U, Pt.locs, Pt.cells, Pt.slots] at X4 l4 y4 z4 st4 hQ4
  subst l4 y4 z4
  obtain ⟨N4q, hP4⟩ := hQ4
  have N4 := Fr.app N0 N4q
  obtain ⟨rfl, Kp4, fp4_0, fp4_1, fp4_2⟩ := hP4
  have f4_0 : Exa Z T4.heap a1 "[B" := (f3_0).keep Kp4
  have f4_1 : Arv Z T4.heap a1 kk .byte (2 : Int32) [(.int x0), (.int x1)] (.int (0 : Int32)) := (f3_1).keep Kp4 (ninS (ne_exa f3_0 f3_2 (by decide)) nin0)
  have f4_2 : Exa Z T4.heap b1 "com/example/keyfold/keyfold/core/Value" := (f3_2).keep Kp4
  have f4_3 : Arv Z T4.heap b3 kk .byte (2 : Int32) [(.int x0), (.int x1)] (.int (0 : Int32)) := (fv3).keep Kp4 (ninS (ne_exa B3 f3_2 (by decide)) nin0)
  have f4_4 : Exa Z T4.heap b3 "[B" := (B3).keep Kp4
  have O4 := O3.keep Kp4 (allS g_b1 all0)
  have K4 : Keep h0 T4.heap [] := K3.trans Kp4 (allS (Or.inr sz_b1) all0)
  obtain ⟨fs, hr, hrun, hended, hW, hsame⟩ := X4.leave (v := some (.ref b1)) (fun h => by rw [Bd.returns] at h; cases h)
  refine ⟨_, _, pre0 _ ?_, hrun, hended, _, _, rfl, ?_, ⟨_, rfl⟩, hW, hsame.mono (by decide) (by decide)⟩
  · show Steps p.tables e below (s₁.setTop (mkF m 0 #[.val (.ref a1)] [])) _
    refine st1 _ ?_
    show Steps p.tables e below (T1.setTop (mkF m 3 #[.val (.ref a1)] [(.ref b1)])) _
    refine XS.dup X1.here hx rfl (hb hby d1_3) rfl rfl ?_
    show Steps p.tables e below (T1.setTop (mkF m 4 #[.val (.ref a1)] [(.ref b1), (.ref b1)])) _
    refine st2 _ ?_
    show Steps p.tables e below (T2.setTop (mkF m 7 #[.val (.ref a1)] [(.ref w_n1), (.ref b1), (.ref b1)])) _
    refine XS.aloadN X2.here hx rfl (hb hby d1_7) rfl rfl ?_
    show Steps p.tables e below (T2.setTop (mkF m 8 #[.val (.ref a1)] [(.ref a1), (.ref w_n1), (.ref b1), (.ref b1)])) _
    refine st3 _ ?_
    show Steps p.tables e below (T3.setTop (mkF m 11 #[.val (.ref a1)] [(.ref b3), (.ref w_n1), (.ref b1), (.ref b1)])) _
    refine st4.trans ?_
    show Steps p.tables e below (T4.setTop (mkF m 14 #[.val (.ref a1)] [(.ref b1)])) _
    jvm_step X4.here [X4.here.top, hx, (hb hby d1_14), X4.method', Bd.returns, Value.isRef, FieldType.isReference]
    first | (intro acts; rw [hr _ acts rfl rfl rfl]) | rw [hr _ _ rfl rfl rfl]
    exact Steps.refl _
  · show QW (fun v h => ∃ b1 : Addr, ∃ b3 : Addr, v = some (.ref b1) ∧ Keep h0 h [] ∧ n0 ≤ b1 ∧ h0.size ≤ b1 ∧ n0 ≤ b3 ∧ h0.size ≤ b3 ∧ Exa Z h b1 "com/example/keyfold/keyfold/core/Value" ∧ Fld Z h b1 "com/example/keyfold/keyfold/core/Value" "type" "Lcom/example/keyfold/keyfold/core/ValueType;" (.ref w_n1) ∧ Fld Z h b1 "com/example/keyfold/keyfold/core/Value" "content" "Ljava/lang/Object;" (.ref b3) ∧ Exa Z h b3 "[B" ∧ Arv Z h b3 kk .byte (2 : Int32) [(.int x0), (.int x1)] (.int (0 : Int32))) n0 _ T4.heap _
    exact ⟨N4, ⟨b1, b3, rfl, K4, g_b1, sz_b1, g_b3, sz_b3, fp4_0, fp4_1, fp4_2, f4_4, f4_3⟩⟩
set_option maxRecDepth 65536 in
set_option maxHeartbeats 40000000 in
theorem rm7_2 (l : Launch) (Z : State) (a0 : Array Value) (hw : ∀ d ∈ tables_1, d.before a0 Z = true) (ws : List Jvm.Cond) {w_n1 : Addr} {w_n0 : Addr} {k_n0 : ClassId} (W : Wd Z w_n1 w_n0 k_n0) (a1 : Addr) (a3 : Addr) (kk : ClassId) (x0 : Int32) (x1 : Int32) (h0 : Heap) (n0 : Nat) (O0 : Old Z n0 h0) (g_a1 : n0 ≤ a1) (hf0 : Exa Z h0 a1 "com/example/keyfold/keyfold/core/Value") (hf1 : Fld Z h0 a1 "com/example/keyfold/keyfold/core/Value" "type" "Lcom/example/keyfold/keyfold/core/ValueType;" (.ref w_n1)) (hf2 : Fld Z h0 a1 "com/example/keyfold/keyfold/core/Value" "content" "Ljava/lang/Object;" (.ref a3)) (g_a3 : n0 ≤ a3) (hf3 : Exa Z h0 a3 "[B") (hf4 : Arv Z h0 a3 kk .byte (2 : Int32) [(.int x0), (.int x1)] (.int (0 : Int32))) :
    MetFree l (⟨"com/example/keyfold/keyfold/core/Value", "size", "()I"⟩ : MethodName) (head1 (Jvm.Cond.code (⟨"com/example/keyfold/keyfold/core/Value", "size", "()I"⟩ : MethodName) prog_50_method_13_code 1 (some .int) :: ws) ({ frames := 1, cells := 0, slots := 0, locals := 13 } : Room)) (fun a U => a = #[(.ref a1)] ∧ Z.Warmed39 U.vm ∧ U.heap = h0) (fun _ _ _ _ _ => True) (fun _ U o U' => ∃ v L, o = .returned v ∧ QP (some (.int (2 : Int32))) h0 n0 v U'.heap L ∧ FrameEnd U o U' L ({ frames := 1, cells := 0, slots := 0, locals := 13 } : Room).cells ({ frames := 1, cells := 0, slots := 0, locals := 13 } : Room).slots) := by
  have W' := W; obtain ⟨S_n1, E_n1, S_n0, F_n1_ordinal, V_n0⟩ := W'
  refine MetFree.of_bodySF (plainFor_of_name pn_5) hisR ?_
  intro p e s m args below meth c s₁ Bd hml0 hP hK
  obtain ⟨rfl, hZ, hh⟩ := hP
  have hx := Bd.exec
  have hby := Bd.bytes
  have hml : c.maxLocals = 1 := hml0
  have hown : s.vm.findClass "com/example/keyfold/keyfold/core/Value" = some m.cls := findClass_of_methodNamed Bd.named
  have hnm := (name_of_methodNamed Bd.named Bd.method).1
  have X0 : Stand p l e ({ frames := 1, cells := 0, slots := 0, locals := 13 } : Room) s m #[(.ref a1)] below meth c s₁ [] 0 0 := Stand.of_body Bd
  have e0 : s₁.heap = h0 := by rw [← hh, Bd.state]; rfl
  have N0 := Fr.nil n0
  have pre0 : ∀ t, Steps p.tables e below (s₁.setTop (mkF m 0 #[.val (.ref a1)] [])) t → Steps p.tables e below (s₁.setTop (entryFrame m #[(.ref a1)] 1)) t := fun t k => castTop (ef_5_5 m a1) k
  obtain ⟨T1, X1, e1, st1⟩ := getS2 X0 hx hZ hown (host := "") (Or.inl (hw _ (List.mem_of_getElem? (i := 39) rfl))) Via.refl e0 (S_n0.ext O0.2) (g := (mkF m 0 #[.val (.ref a1)] [])) rfl (hb hby d5_0)
  obtain ⟨T2, X2, e2, st2⟩ := getF X1 hx hZ hown (host := "") (Or.inl (hw _ (List.mem_of_getElem? (i := 24) rfl))) Via.refl e1 hf1 (g := (mkF m 4 #[.val (.ref a1)] [(.ref a1), (.ref w_n0)])) rfl rfl (hb hby d5_4)
  obtain ⟨cq3, kq3, q3a, q3b, q3c⟩ := isOf hZ e2 (E_n1.ext O0.2)
  obtain ⟨_, _, ⟨T3, L3, k3, n3⟩, -, X3, ⟨Lc3, hQ3, l3, y3, z3⟩, st3⟩ := X2.virtualBackUp hx (x := (⟨"com/example/keyfold/keyfold/core/ValueType", "ordinal", "()I"⟩ : MethodName)) (y := (⟨"java/lang/Enum", "ordinal", "()I"⟩ : MethodName)) (owner := "java/lang/Enum") hown (mvT hZ (hw _ (List.mem_of_getElem? (i := 42) rfl))) (mvT hZ (hw _ (List.mem_of_getElem? (i := 43) rfl))) (mvT hZ (hw _ (List.mem_of_getElem? (i := 44) rfl))) (by decide) (mvT hZ (hw _ (List.mem_of_getElem? (i := 46) rfl))) (mvT hZ (hw _ (List.mem_of_getElem? (i := 45) rfl))) (backOf (W := 1) (rm8 l Z a0 hw [] W  h0 n0 O0 ) hZ (hw _ (List.mem_of_getElem? (i := 48) rfl)) (hw _ (List.mem_of_getElem? (i := 47) rfl)) (by decide) (by decide)) q3a q3c (g := (mkF m 7 #[.val (.ref a1)] [(.ref w_n1), (.ref w_n0)])) rfl (by rw [hml]; rfl) (Steps.refl _) (argsL := []) (rest := [(.ref w_n0)]) (lenOf pd_1 rfl) rfl (by show 2 * 0 + _ ≤ _; exact Nat.le_of_eq rfl) (hb hby d5_7) (fun _ _ => ⟨rfl, e2, (by decide : 0 + 0 ≤ _), (by decide : 0 + 0 ≤ _)⟩)
  dsimp only [Pt.U, Pt.locs, Pt.cells, Pt.slots] at X3 l3 y3 z3 st3 hQ3
  subst l3 y3 z3
  obtain ⟨rfl, N3q, e3⟩ := hQ3
  have N3 := Fr.app N0 N3q
  obtain ⟨cl4, Ar4, qk4, Sz4, Nz4, Hs4, Gs4⟩ := id (V_n0.ext O0.2)
  have hin4 : ¬ ((4 : Int32) < 0 ∨ cl4.slots.size ≤ ((4 : Int32)).toNatClampNeg) := inb_of Sz4 ⟨by decide, by decide⟩
  have hat4 : cl4.slots[((4 : Int32)).toNatClampNeg]? = some (.int (5 : Int32)) := Has.at Hs4 hin4 rfl
  obtain ⟨T5, X5, e5, st5⟩ := getF X3 hx hZ hown (host := "") (Or.inl (hw _ (List.mem_of_getElem? (i := 26) rfl))) Via.refl e3 hf2 (g := (mkF m 77 #[.val (.ref a1)] [(.ref a1)])) rfl rfl (hb hby d5_77)
  obtain ⟨T6, X6, e6, st6⟩ := castY X5 hx hZ hown (hw _ (List.mem_of_getElem? (i := 51) rfl)) e5 (Ins.self hf3) (g := (mkF m 80 #[.val (.ref a1)] [(.ref a3)])) rfl rfl (hb hby d5_80)
  obtain ⟨cl7, Ar7, qk7, Sz7, Nz7, Hs7, Gs7⟩ := id hf4
  obtain ⟨fs, hr, hrun, hended, hW, hsame⟩ := X6.leave (v := some (.int (2 : Int32))) (fun h => by rw [Bd.returns] at h; cases h)
  refine ⟨_, _, pre0 _ ?_, hrun, hended, _, _, rfl, ?_, ⟨_, rfl⟩, hW, hsame.mono (by decide) (by decide)⟩
  · show Steps p.tables e below (s₁.setTop (mkF m 0 #[.val (.ref a1)] [])) _
    refine st1 _ ?_
    show Steps p.tables e below (T1.setTop (mkF m 3 #[.val (.ref a1)] [(.ref w_n0)])) _
    refine XS.aloadN X1.here hx rfl (hb hby d5_3) rfl rfl ?_
    show Steps p.tables e below (T1.setTop (mkF m 4 #[.val (.ref a1)] [(.ref a1), (.ref w_n0)])) _
    refine st2 _ ?_
    show Steps p.tables e below (T2.setTop (mkF m 7 #[.val (.ref a1)] [(.ref w_n1), (.ref w_n0)])) _
    refine st3.trans ?_
    show Steps p.tables e below (T3.setTop (mkF m 10 #[.val (.ref a1)] [(.int (4 : Int32)), (.ref w_n0)])) _
    refine X3.iaload hx (j := (4 : Int32)) (v := (.int (5 : Int32))) (by rw [e3]; exact Ar4.1) (State.isArrayOf_alike hZ.alike Ar4.2.1) Ar4.2.2 hin4 hat4 (g := (mkF m 10 #[.val (.ref a1)] [(.int (4 : Int32)), (.ref w_n0)])) rfl rfl (hb hby d5_10) _ ?_
    show Steps p.tables e below (T3.setTop (mkF m 11 #[.val (.ref a1)] [(.int (5 : Int32))])) _
    refine XS.tswIn X3.here hx rfl (o := 65) (pc0 := 11) (pc' := 76) rfl (hb hby d5_11) rfl (by decide) (by decide) (by decide) (by decide) ?_
    show Steps p.tables e below (T3.setTop (mkF m 76 #[.val (.ref a1)] [])) _
    refine XS.aloadN X3.here hx rfl (hb hby d5_76) rfl rfl ?_
    show Steps p.tables e below (T3.setTop (mkF m 77 #[.val (.ref a1)] [(.ref a1)])) _
    refine st5 _ ?_
    show Steps p.tables e below (T5.setTop (mkF m 80 #[.val (.ref a1)] [(.ref a3)])) _
    refine st6 _ ?_
    show Steps p.tables e below (T6.setTop (mkF m 83 #[.val (.ref a1)] [(.ref a3)])) _
    refine X6.arraylength hx (by rw [e6]; exact Ar7.1) (State.isArrayOf_alike hZ.alike Ar7.2.1) (g := (mkF m 83 #[.val (.ref a1)] [(.ref a3)])) rfl rfl (hb hby d5_83) _ ?_
    rw [len_of Sz7 Nz7]
    show Steps p.tables e below (T6.setTop (mkF m 84 #[.val (.ref a1)] [(.int (2 : Int32))])) _
    exact retI X6 hx Bd.returns (hb hby d5_84) hr
  · show QP (some (.int (2 : Int32))) h0 n0 _ T6.heap _
    rw [e6]
    exact ⟨rfl, N3, rfl⟩
set_option maxRecDepth 65536 in
set_option maxHeartbeats 40000000 in
theorem rm5_2 (l : Launch) (Z : State) (a0 : Array Value) (hw : ∀ d ∈ tables_1, d.before a0 Z = true) (ws : List Jvm.Cond) {w_n1 : Addr} {w_n0 : Addr} {k_n0 : ClassId} (W : Wd Z w_n1 w_n0 k_n0) (a1 : Addr) (a3 : Addr) (kk : ClassId) (x0 : Int32) (x1 : Int32) (h0 : Heap) (n0 : Nat) (O0 : Old Z n0 h0) (g_a1 : n0 ≤ a1) (hf0 : Exa Z h0 a1 "com/example/keyfold/keyfold/core/Value") (hf1 : Fld Z h0 a1 "com/example/keyfold/keyfold/core/Value" "type" "Lcom/example/keyfold/keyfold/core/ValueType;" (.ref w_n1)) (hf2 : Fld Z h0 a1 "com/example/keyfold/keyfold/core/Value" "content" "Ljava/lang/Object;" (.ref a3)) (g_a3 : n0 ≤ a3) (hf3 : Exa Z h0 a3 "[B") (hf4 : Arv Z h0 a3 kk .byte (2 : Int32) [(.int x0), (.int x1)] (.int (0 : Int32))) :
    MetFree l (⟨"com/example/keyfold/keyfold/core/Value", "asBinary", "()[B"⟩ : MethodName) (head1 (Jvm.Cond.code (⟨"com/example/keyfold/keyfold/core/Value", "asBinary", "()[B"⟩ : MethodName) prog_50_method_12_code 1 (some (.array .byte)) :: ws) ({ frames := 1, cells := 1, slots := 2, locals := 14 } : Room)) (fun a U => a = #[(.ref a1)] ∧ Z.Warmed39 U.vm ∧ U.heap = h0) (fun _ _ _ _ _ => True) (fun _ U o U' => ∃ v L, o = .returned v ∧ QW (fun v h => ∃ b4 : Addr, v = some (.ref b4) ∧ Keep h0 h [] ∧ n0 ≤ b4 ∧ h0.size ≤ b4 ∧ Exa Z h b4 "[B" ∧ Arv Z h b4 kk .byte (2 : Int32) [(.int x0), (.int x1)] (.int (0 : Int32))) n0 v U'.heap L ∧ FrameEnd U o U' L ({ frames := 1, cells := 1, slots := 2, locals := 14 } : Room).cells ({ frames := 1, cells := 1, slots := 2, locals := 14 } : Room).slots) := by
  have W' := W; obtain ⟨S_n1, E_n1, S_n0, F_n1_ordinal, V_n0⟩ := W'
  refine MetFree.of_bodySF (plainFor_of_name pn_7) hisR ?_
  intro p e s m args below meth c s₁ Bd hml0 hP hK
  obtain ⟨rfl, hZ, hh⟩ := hP
  have hx := Bd.exec
  have hby := Bd.bytes
  have hml : c.maxLocals = 1 := hml0
  have hown : s.vm.findClass "com/example/keyfold/keyfold/core/Value" = some m.cls := findClass_of_methodNamed Bd.named
  have hnm := (name_of_methodNamed Bd.named Bd.method).1
  have X0 : Stand p l e ({ frames := 1, cells := 1, slots := 2, locals := 14 } : Room) s m #[(.ref a1)] below meth c s₁ [] 0 0 := Stand.of_body Bd
  have e0 : s₁.heap = h0 := by rw [← hh, Bd.state]; rfl
  have N0 := Fr.nil n0
  have pre0 : ∀ t, Steps p.tables e below (s₁.setTop (mkF m 0 #[.val (.ref a1)] [])) t → Steps p.tables e below (s₁.setTop (entryFrame m #[(.ref a1)] 1)) t := fun t k => castTop (ef_7_6 m a1) k
  obtain ⟨T1, X1, e1, st1⟩ := getS2 X0 hx hZ hown (host := "") (Or.inl (hw _ (List.mem_of_getElem? (i := 8) rfl))) Via.refl e0 (S_n1.ext O0.2) (g := (mkF m 1 #[.val (.ref a1)] [(.ref a1)])) rfl (hb hby d7_1)
  obtain ⟨cq2, q2, q2'⟩ := (hf0).cell
  obtain ⟨_, _, ⟨T2, L2, k2, n2⟩, -, X2, ⟨Lc2, hQ2, l2, y2, z2⟩, st2⟩ := X1.privateBack hx (y := (⟨"com/example/keyfold/keyfold/core/Value", "contentOf", "(Lcom/example/keyfold/keyfold/core/ValueType;)Ljava/lang/Object;"⟩ : MethodName)) hown (mvT hZ (hw _ (List.mem_of_getElem? (i := 58) rfl))) (mvT hZ (hw _ (List.mem_of_getElem? (i := 59) rfl))) (own_selP hZ (hw _ (List.mem_of_getElem? (i := 31) rfl)) rfl (hw _ (List.mem_of_getElem? (i := 60) rfl)) (hw _ (List.mem_of_getElem? (i := 59) rfl)) (by decide)) (Cond.privateMethod_at (mvP hZ (hw _ (List.mem_of_getElem? (i := 60) rfl)) (args := #[]))) (mvT hZ (hw _ (List.mem_of_getElem? (i := 61) rfl))) (by decide) (backOf (W := 0) (rm6 l Z a0 hw [] W a1 a3 h0 n0 O0 hf1 hf2) hZ (hw _ (List.mem_of_getElem? (i := 61) rfl)) (hw _ (List.mem_of_getElem? (i := 4) rfl)) (by decide) (by decide)) (g := (mkF m 4 #[.val (.ref a1)] [(.ref w_n1), (.ref a1)])) rfl (by rw [hml]; rfl) (Steps.refl _) (a := a1) (by rw [e1]; exact q2) q2' (argsL := [(.ref w_n1)]) (rest := []) (lenOf pd_2 rfl) rfl (by show 2 * 0 + _ ≤ _; exact Nat.le_of_eq rfl) (hb hby d7_4) (fun _ _ => ⟨rfl, e1, (by decide : 0 + 0 ≤ _), (by decide : 0 + 0 ≤ _)⟩)
  dsimp only [Pt.U, Pt.locs, Pt.cells, Pt.slots] at X2 l2 y2 z2 st2 hQ2
  subst l2 y2 z2
  obtain ⟨rfl, N2q, e2⟩ := hQ2
  have N2 := Fr.app N0 N2q
  obtain ⟨T3, X3, e3, st3⟩ := castY X2 hx hZ hown (hw _ (List.mem_of_getElem? (i := 51) rfl)) e2 (Ins.self hf3) (g := (mkF m 7 #[.val (.ref a1)] [(.ref a3)])) rfl rfl (hb hby d7_7)
  obtain ⟨T4, h4, X4, e4, E4, A4, B4, st4⟩ := cloneH X3 hx hZ hown (hw _ (List.mem_of_getElem? (i := 11) rfl)) (hw _ (List.mem_of_getElem? (i := 12) rfl)) (hw _ (List.mem_of_getElem? (i := 16) rfl)) (hw _ (List.mem_of_getElem? (i := 14) rfl)) (hw _ (List.mem_of_getElem? (i := 15) rfl)) (hw _ (List.mem_of_getElem? (i := 17) rfl)) e3 (hf4).arh hf3 (g := (mkF m 10 #[.val (.ref a1)] [(.ref a3)])) rfl (by rw [hml]; rfl) rfl (hb hby d7_10) (by decide) (W := 0) (cap := 2) (by show 2 * 0 + _ ≤ _; exact Nat.le_of_eq rfl) (by decide) (by decide) (by decide) (by decide)
  obtain ⟨b4, g4⟩ : ∃ z, z = h0.size := ⟨_, rfl⟩
  rw [← g4] at A4 B4 st4
  have lt_a1_b4 : a1 < h0.size := (hf0).lt
  have lt_a3_b4 : a3 < h0.size := (hf3).lt
  have g_b4 : n0 ≤ b4 := by rw [g4]; exact O0.1 ▸ O0.2.1
  have sz_b4 : h0.size ≤ b4 := by rw [g4]; exact (Keep.refl h0 []).1
  have f4_0 : Exa Z h4 a1 "com/example/keyfold/keyfold/core/Value" := (hf0).ext E4
  have f4_1 : Fld Z h4 a1 "com/example/keyfold/keyfold/core/Value" "type" "Lcom/example/keyfold/keyfold/core/ValueType;" (.ref w_n1) := (hf1).ext E4
  have f4_2 : Fld Z h4 a1 "com/example/keyfold/keyfold/core/Value" "content" "Ljava/lang/Object;" (.ref a3) := (hf2).ext E4
  have f4_3 : Exa Z h4 a3 "[B" := (hf3).ext E4
  have f4_4 : Arv Z h4 a3 kk .byte (2 : Int32) [(.int x0), (.int x1)] (.int (0 : Int32)) := (hf4).ext E4
  have O4 := O0.ext E4
  have K4 : Keep h0 h4 [] := (Keep.refl h0 []).ext E4
  have fv4 : Arv Z h4 b4 kk .byte (2 : Int32) [(.int x0), (.int x1)] (.int (0 : Int32)) := A4
  obtain ⟨T5, X5, e5, st5⟩ := castY X4 hx hZ hown (hw _ (List.mem_of_getElem? (i := 51) rfl)) e4 (Ins.self B4) (g := (mkF m 13 #[.val (.ref a1)] [(.ref b4)])) rfl rfl (hb hby d7_13)
  obtain ⟨fs, hr, hrun, hended, hW, hsame⟩ := X5.leave (v := some (.ref b4)) (fun h => by rw [Bd.returns] at h; cases h)
  refine ⟨_, _, pre0 _ ?_, hrun, hended, _, _, rfl, ?_, ⟨_, rfl⟩, hW, hsame.mono (by decide) (by decide)⟩
  · show Steps p.tables e below (s₁.setTop (mkF m 0 #[.val (.ref a1)] [])) _
    refine XS.aloadN X0.here hx rfl (hb hby d7_0) rfl rfl ?_
    show Steps p.tables e below (s₁.setTop (mkF m 1 #[.val (.ref a1)] [(.ref a1)])) _
    refine st1 _ ?_
    show Steps p.tables e below (T1.setTop (mkF m 4 #[.val (.ref a1)] [(.ref w_n1), (.ref a1)])) _
    refine st2.trans ?_
    show Steps p.tables e below (T2.setTop (mkF m 7 #[.val (.ref a1)] [(.ref a3)])) _
    refine st3 _ ?_
    show Steps p.tables e below (T3.setTop (mkF m 10 #[.val (.ref a1)] [(.ref a3)])) _
    refine st4 _ ?_
    show Steps p.tables e below (T4.setTop (mkF m 13 #[.val (.ref a1)] [(.ref b4)])) _
    refine st5 _ ?_
    show Steps p.tables e below (T5.setTop (mkF m 16 #[.val (.ref a1)] [(.ref b4)])) _
    jvm_step X5.here [X5.here.top, hx, (hb hby d7_16), X5.method', Bd.returns, Value.isRef, FieldType.isReference]
    first | (intro acts; rw [hr _ acts rfl rfl rfl]) | rw [hr _ _ rfl rfl rfl]
    exact Steps.refl _
  · show QW (fun v h => ∃ b4 : Addr, v = some (.ref b4) ∧ Keep h0 h [] ∧ n0 ≤ b4 ∧ h0.size ≤ b4 ∧ Exa Z h b4 "[B" ∧ Arv Z h b4 kk .byte (2 : Int32) [(.int x0), (.int x1)] (.int (0 : Int32))) n0 _ T5.heap _
    rw [e5]
    exact ⟨N2, ⟨b4, rfl, K4, g_b4, sz_b4, B4, fv4⟩⟩
set_option maxRecDepth 65536 in
set_option maxHeartbeats 40000000 in
theorem rm1_3 (l : Launch) (Z : State) (a0 : Array Value) (hw : ∀ d ∈ tables_1, d.before a0 Z = true) (ws : List Jvm.Cond) {w_n1 : Addr} {w_n0 : Addr} {k_n0 : ClassId} (W : Wd Z w_n1 w_n0 k_n0) (a1 : Addr) (kk : ClassId) (x0 : Int32) (x1 : Int32) (x2 : Int32) (h0 : Heap) (n0 : Nat) (O0 : Old Z n0 h0) (g_a1 : n0 ≤ a1) (hf0 : Exa Z h0 a1 "[B") (hf1 : Arv Z h0 a1 kk .byte (3 : Int32) [(.int x0), (.int x1), (.int x2)] (.int (0 : Int32))) :
    MetFree l (⟨"com/example/keyfold/keyfold/core/Value", "ofBinary", "([B)Lcom/example/keyfold/keyfold/core/Value;"⟩ : MethodName) (head1 (Jvm.Cond.code (⟨"com/example/keyfold/keyfold/core/Value", "ofBinary", "([B)Lcom/example/keyfold/keyfold/core/Value;"⟩ : MethodName) prog_50_method_6_code 1 (some (.object "com/example/keyfold/keyfold/core/Value")) :: ws) ({ frames := 2, cells := 2, slots := 5, locals := 27 } : Room)) (fun a U => a = #[(.ref a1)] ∧ Z.Warmed39 U.vm ∧ U.heap = h0) (fun _ _ _ _ _ => True) (fun _ U o U' => ∃ v L, o = .returned v ∧ QW (fun v h => ∃ b1 : Addr, ∃ b3 : Addr, v = some (.ref b1) ∧ Keep h0 h [] ∧ n0 ≤ b1 ∧ h0.size ≤ b1 ∧ n0 ≤ b3 ∧ h0.size ≤ b3 ∧ Exa Z h b1 "com/example/keyfold/keyfold/core/Value" ∧ Fld Z h b1 "com/example/keyfold/keyfold/core/Value" "type" "Lcom/example/keyfold/keyfold/core/ValueType;" (.ref w_n1) ∧ Fld Z h b1 "com/example/keyfold/keyfold/core/Value" "content" "Ljava/lang/Object;" (.ref b3) ∧ Exa Z h b3 "[B" ∧ Arv Z h b3 kk .byte (3 : Int32) [(.int x0), (.int x1), (.int x2)] (.int (0 : Int32))) n0 v U'.heap L ∧ FrameEnd U o U' L ({ frames := 2, cells := 2, slots := 5, locals := 27 } : Room).cells ({ frames := 2, cells := 2, slots := 5, locals := 27 } : Room).slots) := by
  have W' := W; obtain ⟨S_n1, E_n1, S_n0, F_n1_ordinal, V_n0⟩ := W'
  refine MetFree.of_bodySF (plainFor_of_name pn_1) hisR ?_
  intro p e s m args below meth c s₁ Bd hml0 hP hK
  obtain ⟨rfl, hZ, hh⟩ := hP
  have hx := Bd.exec
  have hby := Bd.bytes
  have hml : c.maxLocals = 1 := hml0
  have hown : s.vm.findClass "com/example/keyfold/keyfold/core/Value" = some m.cls := findClass_of_methodNamed Bd.named
  have hnm := (name_of_methodNamed Bd.named Bd.method).1
  have X0 : Stand p l e ({ frames := 2, cells := 2, slots := 5, locals := 27 } : Room) s m #[(.ref a1)] below meth c s₁ [] 0 0 := Stand.of_body Bd
  have e0 : s₁.heap = h0 := by rw [← hh, Bd.state]; rfl
  have N0 := Fr.nil n0
  have pre0 : ∀ t, Steps p.tables e below (s₁.setTop (mkF m 0 #[.val (.ref a1)] [])) t → Steps p.tables e below (s₁.setTop (entryFrame m #[(.ref a1)] 1)) t := fun t k => castTop (ef_1_4 m a1) k
  obtain ⟨T1, h1, X1, e1, E1, A1, D1, U1, st1⟩ := newO X0 hx hZ hown (hw _ (List.mem_of_getElem? (i := 6) rfl)) (hw _ (List.mem_of_getElem? (i := 7) rfl)) (hw _ (List.mem_of_getElem? (i := 4) rfl)) e0 (g := (mkF m 0 #[.val (.ref a1)] [])) rfl (hb hby d1_0) (by decide) (by decide)
  obtain ⟨b1, g1⟩ : ∃ z, z = h0.size := ⟨_, rfl⟩
  rw [← g1] at A1 D1 U1 st1
  have lt_a1_b1 : a1 < h0.size := (hf0).lt
  have g_b1 : n0 ≤ b1 := by rw [g1]; exact O0.1 ▸ O0.2.1
  have sz_b1 : h0.size ≤ b1 := by rw [g1]; exact (Keep.refl h0 []).1
  have f1_0 : Exa Z h1 a1 "[B" := (hf0).ext E1
  have f1_1 : Arv Z h1 a1 kk .byte (3 : Int32) [(.int x0), (.int x1), (.int x2)] (.int (0 : Int32)) := (hf1).ext E1
  have O1 := O0.ext E1
  have K1 : Keep h0 h1 [] := (Keep.refl h0 []).ext E1
  have f1_type : Fld Z h1 b1 "com/example/keyfold/keyfold/core/Value" "type" "Lcom/example/keyfold/keyfold/core/ValueType;" .null := D1 (Or.inr (hw _ (List.mem_of_getElem? (i := 25) rfl))) (ty := (.object "com/example/keyfold/keyfold/core/ValueType")) (by decide)
  have f1_content : Fld Z h1 b1 "com/example/keyfold/keyfold/core/Value" "content" "Ljava/lang/Object;" .null := D1 (Or.inr (hw _ (List.mem_of_getElem? (i := 27) rfl))) (ty := (.object "java/lang/Object")) (by decide)
  obtain ⟨T2, X2, e2, st2⟩ := getS2 X1 hx hZ hown (host := "") (Or.inl (hw _ (List.mem_of_getElem? (i := 8) rfl))) Via.refl e1 (S_n1.ext O1.2) (g := (mkF m 4 #[.val (.ref a1)] [(.ref b1), (.ref b1)])) rfl (hb hby d1_4)
  obtain ⟨T3, h3, X3, e3, E3, A3, B3, st3⟩ := cloneH X2 hx hZ hown (hw _ (List.mem_of_getElem? (i := 11) rfl)) (hw _ (List.mem_of_getElem? (i := 12) rfl)) (hw _ (List.mem_of_getElem? (i := 16) rfl)) (hw _ (List.mem_of_getElem? (i := 14) rfl)) (hw _ (List.mem_of_getElem? (i := 15) rfl)) (hw _ (List.mem_of_getElem? (i := 17) rfl)) e2 (f1_1).arh f1_0 (g := (mkF m 8 #[.val (.ref a1)] [(.ref a1), (.ref w_n1), (.ref b1), (.ref b1)])) rfl (by rw [hml]; rfl) rfl (hb hby d1_8) (by decide) (W := 3) (cap := 3) (by show 2 * 0 + _ ≤ _; exact Nat.le_of_eq rfl) (by decide) (by decide) (by decide) (by decide)
  obtain ⟨b3, g3⟩ : ∃ z, z = h1.size := ⟨_, rfl⟩
  rw [← g3] at A3 B3 st3
  have lt_a1_b3 : a1 < h1.size := (f1_0).lt
  have lt_b1_b3 : b1 < h1.size := (A1).lt
  have g_b3 : n0 ≤ b3 := by rw [g3]; exact O1.1 ▸ O1.2.1
  have sz_b3 : h0.size ≤ b3 := by rw [g3]; exact K1.1
  have f3_0 : Exa Z h3 a1 "[B" := (f1_0).ext E3
  have f3_1 : Arv Z h3 a1 kk .byte (3 : Int32) [(.int x0), (.int x1), (.int x2)] (.int (0 : Int32)) := (f1_1).ext E3
  have f3_2 : Exa Z h3 b1 "com/example/keyfold/keyfold/core/Value" := (A1).ext E3
  have f3_3 : Fld Z h3 b1 "com/example/keyfold/keyfold/core/Value" "type" "Lcom/example/keyfold/keyfold/core/ValueType;" .null := (f1_type).ext E3
  have f3_4 : Fld Z h3 b1 "com/example/keyfold/keyfold/core/Value" "content" "Ljava/lang/Object;" .null := (f1_content).ext E3
  have O3 := O1.ext E3
  have K3 : Keep h0 h3 [] := K1.ext E3
  have fv3 : Arv Z h3 b3 kk .byte (3 : Int32) [(.int x0), (.int x1), (.int x2)] (.int (0 : Int32)) := A3
  obtain ⟨_, _, ⟨T4, L4, k4, n4⟩, -, X4, ⟨Lc4, hQ4, l4, y4, z4⟩, st4⟩ := X3.specialBack hx (y := (⟨"com/example/keyfold/keyfold/core/Value", "<init>", "(Lcom/example/keyfold/keyfold/core/ValueType;Ljava/lang/Object;)V"⟩ : MethodName)) rfl hown (mvT hZ (hw _ (List.mem_of_getElem? (i := 18) rfl))) (mvT hZ (hw _ (List.mem_of_getElem? (i := 19) rfl))) (mvT hZ (hw _ (List.mem_of_getElem? (i := 20) rfl))) (by decide) (backOf (W := 1) (rm2 l Z a0 hw [] W b1 b3 h3 n0 O3 g_b1 f3_2 f3_3 f3_4) hZ (hw _ (List.mem_of_getElem? (i := 20) rfl)) (hw _ (List.mem_of_getElem? (i := 4) rfl)) (by decide) (by decide)) (g := (mkF m 11 #[.val (.ref a1)] [(.ref b3), (.ref w_n1), (.ref b1), (.ref b1)])) rfl (by rw [hml]; rfl) (Steps.refl _) (a := b1) (argsL := [(.ref w_n1), (.ref b3)]) (rest := [(.ref b1)]) (lenOf pd_0 rfl) rfl (by show 2 * 0 + _ ≤ _; exact Nat.le_of_eq rfl) (hb hby d1_11) (fun _ _ => ⟨rfl, e3, (by decide : 2 + 0 ≤ _), (by decide : 5 + 0 ≤ _)⟩)
  dsimp only [Pt.U, Pt.locs, Pt.cells, Pt.slots] at X4 l4 y4 z4 st4 hQ4
  subst l4 y4 z4
  obtain ⟨N4q, hP4⟩ := hQ4
  have N4 := Fr.app N0 N4q
  obtain ⟨rfl, Kp4, fp4_0, fp4_1, fp4_2⟩ := hP4
  have f4_0 : Exa Z T4.heap a1 "[B" := (f3_0).keep Kp4
  have f4_1 : Arv Z T4.heap a1 kk .byte (3 : Int32) [(.int x0), (.int x1), (.int x2)] (.int (0 : Int32)) := (f3_1).keep Kp4 (ninS (ne_exa f3_0 f3_2 (by decide)) nin0)
  have f4_2 : Exa Z T4.heap b1 "com/example/keyfold/keyfold/core/Value" := (f3_2).keep Kp4
  have f4_3 : Arv Z T4.heap b3 kk .byte (3 : Int32) [(.int x0), (.int x1), (.int x2)] (.int (0 : Int32)) := (fv3).keep Kp4 (ninS (ne_exa B3 f3_2 (by decide)) nin0)
  have f4_4 : Exa Z T4.heap b3 "[B" := (B3).keep Kp4
  have O4 := O3.keep Kp4 (allS g_b1 all0)
  have K4 : Keep h0 T4.heap [] := K3.trans Kp4 (allS (Or.inr sz_b1) all0)
  obtain ⟨fs, hr, hrun, hended, hW, hsame⟩ := X4.leave (v := some (.ref b1)) (fun h => by rw [Bd.returns] at h; cases h)
  refine ⟨_, _, pre0 _ ?_, hrun, hended, _, _, rfl, ?_, ⟨_, rfl⟩, hW, hsame.mono (by decide) (by decide)⟩
  · show Steps p.tables e below (s₁.setTop (mkF m 0 #[.val (.ref a1)] [])) _
    refine st1 _ ?_
    show Steps p.tables e below (T1.setTop (mkF m 3 #[.val (.ref a1)] [(.ref b1)])) _
    refine XS.dup X1.here hx rfl (hb hby d1_3) rfl rfl ?_
    show Steps p.tables e below (T1.setTop (mkF m 4 #[.val (.ref a1)] [(.ref b1), (.ref b1)])) _
    refine st2 _ ?_
    show Steps p.tables e below (T2.setTop (mkF m 7 #[.val (.ref a1)] [(.ref w_n1), (.ref b1), (.ref b1)])) _
    refine XS.aloadN X2.here hx rfl (hb hby d1_7) rfl rfl ?_
    show Steps p.tables e below (T2.setTop (mkF m 8 #[.val (.ref a1)] [(.ref a1), (.ref w_n1), (.ref b1), (.ref b1)])) _
    refine st3 _ ?_
    show Steps p.tables e below (T3.setTop (mkF m 11 #[.val (.ref a1)] [(.ref b3), (.ref w_n1), (.ref b1), (.ref b1)])) _
    refine st4.trans ?_
    show Steps p.tables e below (T4.setTop (mkF m 14 #[.val (.ref a1)] [(.ref b1)])) _
    jvm_step X4.here [X4.here.top, hx, (hb hby d1_14), X4.method', Bd.returns, Value.isRef, FieldType.isReference]
    first | (intro acts; rw [hr _ acts rfl rfl rfl]) | rw [hr _ _ rfl rfl rfl]
    exact Steps.refl _
  · show QW (fun v h => ∃ b1 : Addr, ∃ b3 : Addr, v = some (.ref b1) ∧ Keep h0 h [] ∧ n0 ≤ b1 ∧ h0.size ≤ b1 ∧ n0 ≤ b3 ∧ h0.size ≤ b3 ∧ Exa Z h b1 "com/example/keyfold/keyfold/core/Value" ∧ Fld Z h b1 "com/example/keyfold/keyfold/core/Value" "type" "Lcom/example/keyfold/keyfold/core/ValueType;" (.ref w_n1) ∧ Fld Z h b1 "com/example/keyfold/keyfold/core/Value" "content" "Ljava/lang/Object;" (.ref b3) ∧ Exa Z h b3 "[B" ∧ Arv Z h b3 kk .byte (3 : Int32) [(.int x0), (.int x1), (.int x2)] (.int (0 : Int32))) n0 _ T4.heap _
    exact ⟨N4, ⟨b1, b3, rfl, K4, g_b1, sz_b1, g_b3, sz_b3, fp4_0, fp4_1, fp4_2, f4_4, f4_3⟩⟩
set_option maxRecDepth 65536 in
set_option maxHeartbeats 40000000 in
theorem rm7_3 (l : Launch) (Z : State) (a0 : Array Value) (hw : ∀ d ∈ tables_1, d.before a0 Z = true) (ws : List Jvm.Cond) {w_n1 : Addr} {w_n0 : Addr} {k_n0 : ClassId} (W : Wd Z w_n1 w_n0 k_n0) (a1 : Addr) (a3 : Addr) (kk : ClassId) (x0 : Int32) (x1 : Int32) (x2 : Int32) (h0 : Heap) (n0 : Nat) (O0 : Old Z n0 h0) (g_a1 : n0 ≤ a1) (hf0 : Exa Z h0 a1 "com/example/keyfold/keyfold/core/Value") (hf1 : Fld Z h0 a1 "com/example/keyfold/keyfold/core/Value" "type" "Lcom/example/keyfold/keyfold/core/ValueType;" (.ref w_n1)) (hf2 : Fld Z h0 a1 "com/example/keyfold/keyfold/core/Value" "content" "Ljava/lang/Object;" (.ref a3)) (g_a3 : n0 ≤ a3) (hf3 : Exa Z h0 a3 "[B") (hf4 : Arv Z h0 a3 kk .byte (3 : Int32) [(.int x0), (.int x1), (.int x2)] (.int (0 : Int32))) :
    MetFree l (⟨"com/example/keyfold/keyfold/core/Value", "size", "()I"⟩ : MethodName) (head1 (Jvm.Cond.code (⟨"com/example/keyfold/keyfold/core/Value", "size", "()I"⟩ : MethodName) prog_50_method_13_code 1 (some .int) :: ws) ({ frames := 1, cells := 0, slots := 0, locals := 13 } : Room)) (fun a U => a = #[(.ref a1)] ∧ Z.Warmed39 U.vm ∧ U.heap = h0) (fun _ _ _ _ _ => True) (fun _ U o U' => ∃ v L, o = .returned v ∧ QP (some (.int (3 : Int32))) h0 n0 v U'.heap L ∧ FrameEnd U o U' L ({ frames := 1, cells := 0, slots := 0, locals := 13 } : Room).cells ({ frames := 1, cells := 0, slots := 0, locals := 13 } : Room).slots) := by
  have W' := W; obtain ⟨S_n1, E_n1, S_n0, F_n1_ordinal, V_n0⟩ := W'
  refine MetFree.of_bodySF (plainFor_of_name pn_5) hisR ?_
  intro p e s m args below meth c s₁ Bd hml0 hP hK
  obtain ⟨rfl, hZ, hh⟩ := hP
  have hx := Bd.exec
  have hby := Bd.bytes
  have hml : c.maxLocals = 1 := hml0
  have hown : s.vm.findClass "com/example/keyfold/keyfold/core/Value" = some m.cls := findClass_of_methodNamed Bd.named
  have hnm := (name_of_methodNamed Bd.named Bd.method).1
  have X0 : Stand p l e ({ frames := 1, cells := 0, slots := 0, locals := 13 } : Room) s m #[(.ref a1)] below meth c s₁ [] 0 0 := Stand.of_body Bd
  have e0 : s₁.heap = h0 := by rw [← hh, Bd.state]; rfl
  have N0 := Fr.nil n0
  have pre0 : ∀ t, Steps p.tables e below (s₁.setTop (mkF m 0 #[.val (.ref a1)] [])) t → Steps p.tables e below (s₁.setTop (entryFrame m #[(.ref a1)] 1)) t := fun t k => castTop (ef_5_5 m a1) k
  obtain ⟨T1, X1, e1, st1⟩ := getS2 X0 hx hZ hown (host := "") (Or.inl (hw _ (List.mem_of_getElem? (i := 39) rfl))) Via.refl e0 (S_n0.ext O0.2) (g := (mkF m 0 #[.val (.ref a1)] [])) rfl (hb hby d5_0)
  obtain ⟨T2, X2, e2, st2⟩ := getF X1 hx hZ hown (host := "") (Or.inl (hw _ (List.mem_of_getElem? (i := 24) rfl))) Via.refl e1 hf1 (g := (mkF m 4 #[.val (.ref a1)] [(.ref a1), (.ref w_n0)])) rfl rfl (hb hby d5_4)
  obtain ⟨cq3, kq3, q3a, q3b, q3c⟩ := isOf hZ e2 (E_n1.ext O0.2)
  obtain ⟨_, _, ⟨T3, L3, k3, n3⟩, -, X3, ⟨Lc3, hQ3, l3, y3, z3⟩, st3⟩ := X2.virtualBackUp hx (x := (⟨"com/example/keyfold/keyfold/core/ValueType", "ordinal", "()I"⟩ : MethodName)) (y := (⟨"java/lang/Enum", "ordinal", "()I"⟩ : MethodName)) (owner := "java/lang/Enum") hown (mvT hZ (hw _ (List.mem_of_getElem? (i := 42) rfl))) (mvT hZ (hw _ (List.mem_of_getElem? (i := 43) rfl))) (mvT hZ (hw _ (List.mem_of_getElem? (i := 44) rfl))) (by decide) (mvT hZ (hw _ (List.mem_of_getElem? (i := 46) rfl))) (mvT hZ (hw _ (List.mem_of_getElem? (i := 45) rfl))) (backOf (W := 1) (rm8 l Z a0 hw [] W  h0 n0 O0 ) hZ (hw _ (List.mem_of_getElem? (i := 48) rfl)) (hw _ (List.mem_of_getElem? (i := 47) rfl)) (by decide) (by decide)) q3a q3c (g := (mkF m 7 #[.val (.ref a1)] [(.ref w_n1), (.ref w_n0)])) rfl (by rw [hml]; rfl) (Steps.refl _) (argsL := []) (rest := [(.ref w_n0)]) (lenOf pd_1 rfl) rfl (by show 2 * 0 + _ ≤ _; exact Nat.le_of_eq rfl) (hb hby d5_7) (fun _ _ => ⟨rfl, e2, (by decide : 0 + 0 ≤ _), (by decide : 0 + 0 ≤ _)⟩)
  dsimp only [Pt.U, Pt.locs, Pt.cells, Pt.slots] at X3 l3 y3 z3 st3 hQ3
  subst l3 y3 z3
  obtain ⟨rfl, N3q, e3⟩ := hQ3
  have N3 := Fr.app N0 N3q
  obtain ⟨cl4, Ar4, qk4, Sz4, Nz4, Hs4, Gs4⟩ := id (V_n0.ext O0.2)
  have hin4 : ¬ ((4 : Int32) < 0 ∨ cl4.slots.size ≤ ((4 : Int32)).toNatClampNeg) := inb_of Sz4 ⟨by decide, by decide⟩
  have hat4 : cl4.slots[((4 : Int32)).toNatClampNeg]? = some (.int (5 : Int32)) := Has.at Hs4 hin4 rfl
  obtain ⟨T5, X5, e5, st5⟩ := getF X3 hx hZ hown (host := "") (Or.inl (hw _ (List.mem_of_getElem? (i := 26) rfl))) Via.refl e3 hf2 (g := (mkF m 77 #[.val (.ref a1)] [(.ref a1)])) rfl rfl (hb hby d5_77)
  obtain ⟨T6, X6, e6, st6⟩ := castY X5 hx hZ hown (hw _ (List.mem_of_getElem? (i := 51) rfl)) e5 (Ins.self hf3) (g := (mkF m 80 #[.val (.ref a1)] [(.ref a3)])) rfl rfl (hb hby d5_80)
  obtain ⟨cl7, Ar7, qk7, Sz7, Nz7, Hs7, Gs7⟩ := id hf4
  obtain ⟨fs, hr, hrun, hended, hW, hsame⟩ := X6.leave (v := some (.int (3 : Int32))) (fun h => by rw [Bd.returns] at h; cases h)
  refine ⟨_, _, pre0 _ ?_, hrun, hended, _, _, rfl, ?_, ⟨_, rfl⟩, hW, hsame.mono (by decide) (by decide)⟩
  · show Steps p.tables e below (s₁.setTop (mkF m 0 #[.val (.ref a1)] [])) _
    refine st1 _ ?_
    show Steps p.tables e below (T1.setTop (mkF m 3 #[.val (.ref a1)] [(.ref w_n0)])) _
    refine XS.aloadN X1.here hx rfl (hb hby d5_3) rfl rfl ?_
    show Steps p.tables e below (T1.setTop (mkF m 4 #[.val (.ref a1)] [(.ref a1), (.ref w_n0)])) _
    refine st2 _ ?_
    show Steps p.tables e below (T2.setTop (mkF m 7 #[.val (.ref a1)] [(.ref w_n1), (.ref w_n0)])) _
    refine st3.trans ?_
    show Steps p.tables e below (T3.setTop (mkF m 10 #[.val (.ref a1)] [(.int (4 : Int32)), (.ref w_n0)])) _
    refine X3.iaload hx (j := (4 : Int32)) (v := (.int (5 : Int32))) (by rw [e3]; exact Ar4.1) (State.isArrayOf_alike hZ.alike Ar4.2.1) Ar4.2.2 hin4 hat4 (g := (mkF m 10 #[.val (.ref a1)] [(.int (4 : Int32)), (.ref w_n0)])) rfl rfl (hb hby d5_10) _ ?_
    show Steps p.tables e below (T3.setTop (mkF m 11 #[.val (.ref a1)] [(.int (5 : Int32))])) _
    refine XS.tswIn X3.here hx rfl (o := 65) (pc0 := 11) (pc' := 76) rfl (hb hby d5_11) rfl (by decide) (by decide) (by decide) (by decide) ?_
    show Steps p.tables e below (T3.setTop (mkF m 76 #[.val (.ref a1)] [])) _
    refine XS.aloadN X3.here hx rfl (hb hby d5_76) rfl rfl ?_
    show Steps p.tables e below (T3.setTop (mkF m 77 #[.val (.ref a1)] [(.ref a1)])) _
    refine st5 _ ?_
    show Steps p.tables e below (T5.setTop (mkF m 80 #[.val (.ref a1)] [(.ref a3)])) _
    refine st6 _ ?_
    show Steps p.tables e below (T6.setTop (mkF m 83 #[.val (.ref a1)] [(.ref a3)])) _
    refine X6.arraylength hx (by rw [e6]; exact Ar7.1) (State.isArrayOf_alike hZ.alike Ar7.2.1) (g := (mkF m 83 #[.val (.ref a1)] [(.ref a3)])) rfl rfl (hb hby d5_83) _ ?_
    rw [len_of Sz7 Nz7]
    show Steps p.tables e below (T6.setTop (mkF m 84 #[.val (.ref a1)] [(.int (3 : Int32))])) _
    exact retI X6 hx Bd.returns (hb hby d5_84) hr
  · show QP (some (.int (3 : Int32))) h0 n0 _ T6.heap _
    rw [e6]
    exact ⟨rfl, N3, rfl⟩
set_option maxRecDepth 65536 in
set_option maxHeartbeats 40000000 in
theorem rm5_3 (l : Launch) (Z : State) (a0 : Array Value) (hw : ∀ d ∈ tables_1, d.before a0 Z = true) (ws : List Jvm.Cond) {w_n1 : Addr} {w_n0 : Addr} {k_n0 : ClassId} (W : Wd Z w_n1 w_n0 k_n0) (a1 : Addr) (a3 : Addr) (kk : ClassId) (x0 : Int32) (x1 : Int32) (x2 : Int32) (h0 : Heap) (n0 : Nat) (O0 : Old Z n0 h0) (g_a1 : n0 ≤ a1) (hf0 : Exa Z h0 a1 "com/example/keyfold/keyfold/core/Value") (hf1 : Fld Z h0 a1 "com/example/keyfold/keyfold/core/Value" "type" "Lcom/example/keyfold/keyfold/core/ValueType;" (.ref w_n1)) (hf2 : Fld Z h0 a1 "com/example/keyfold/keyfold/core/Value" "content" "Ljava/lang/Object;" (.ref a3)) (g_a3 : n0 ≤ a3) (hf3 : Exa Z h0 a3 "[B") (hf4 : Arv Z h0 a3 kk .byte (3 : Int32) [(.int x0), (.int x1), (.int x2)] (.int (0 : Int32))) :
    MetFree l (⟨"com/example/keyfold/keyfold/core/Value", "asBinary", "()[B"⟩ : MethodName) (head1 (Jvm.Cond.code (⟨"com/example/keyfold/keyfold/core/Value", "asBinary", "()[B"⟩ : MethodName) prog_50_method_12_code 1 (some (.array .byte)) :: ws) ({ frames := 1, cells := 1, slots := 3, locals := 14 } : Room)) (fun a U => a = #[(.ref a1)] ∧ Z.Warmed39 U.vm ∧ U.heap = h0) (fun _ _ _ _ _ => True) (fun _ U o U' => ∃ v L, o = .returned v ∧ QW (fun v h => ∃ b4 : Addr, v = some (.ref b4) ∧ Keep h0 h [] ∧ n0 ≤ b4 ∧ h0.size ≤ b4 ∧ Exa Z h b4 "[B" ∧ Arv Z h b4 kk .byte (3 : Int32) [(.int x0), (.int x1), (.int x2)] (.int (0 : Int32))) n0 v U'.heap L ∧ FrameEnd U o U' L ({ frames := 1, cells := 1, slots := 3, locals := 14 } : Room).cells ({ frames := 1, cells := 1, slots := 3, locals := 14 } : Room).slots) := by
  have W' := W; obtain ⟨S_n1, E_n1, S_n0, F_n1_ordinal, V_n0⟩ := W'
  refine MetFree.of_bodySF (plainFor_of_name pn_7) hisR ?_
  intro p e s m args below meth c s₁ Bd hml0 hP hK
  obtain ⟨rfl, hZ, hh⟩ := hP
  have hx := Bd.exec
  have hby := Bd.bytes
  have hml : c.maxLocals = 1 := hml0
  have hown : s.vm.findClass "com/example/keyfold/keyfold/core/Value" = some m.cls := findClass_of_methodNamed Bd.named
  have hnm := (name_of_methodNamed Bd.named Bd.method).1
  have X0 : Stand p l e ({ frames := 1, cells := 1, slots := 3, locals := 14 } : Room) s m #[(.ref a1)] below meth c s₁ [] 0 0 := Stand.of_body Bd
  have e0 : s₁.heap = h0 := by rw [← hh, Bd.state]; rfl
  have N0 := Fr.nil n0
  have pre0 : ∀ t, Steps p.tables e below (s₁.setTop (mkF m 0 #[.val (.ref a1)] [])) t → Steps p.tables e below (s₁.setTop (entryFrame m #[(.ref a1)] 1)) t := fun t k => castTop (ef_7_6 m a1) k
  obtain ⟨T1, X1, e1, st1⟩ := getS2 X0 hx hZ hown (host := "") (Or.inl (hw _ (List.mem_of_getElem? (i := 8) rfl))) Via.refl e0 (S_n1.ext O0.2) (g := (mkF m 1 #[.val (.ref a1)] [(.ref a1)])) rfl (hb hby d7_1)
  obtain ⟨cq2, q2, q2'⟩ := (hf0).cell
  obtain ⟨_, _, ⟨T2, L2, k2, n2⟩, -, X2, ⟨Lc2, hQ2, l2, y2, z2⟩, st2⟩ := X1.privateBack hx (y := (⟨"com/example/keyfold/keyfold/core/Value", "contentOf", "(Lcom/example/keyfold/keyfold/core/ValueType;)Ljava/lang/Object;"⟩ : MethodName)) hown (mvT hZ (hw _ (List.mem_of_getElem? (i := 58) rfl))) (mvT hZ (hw _ (List.mem_of_getElem? (i := 59) rfl))) (own_selP hZ (hw _ (List.mem_of_getElem? (i := 31) rfl)) rfl (hw _ (List.mem_of_getElem? (i := 60) rfl)) (hw _ (List.mem_of_getElem? (i := 59) rfl)) (by decide)) (Cond.privateMethod_at (mvP hZ (hw _ (List.mem_of_getElem? (i := 60) rfl)) (args := #[]))) (mvT hZ (hw _ (List.mem_of_getElem? (i := 61) rfl))) (by decide) (backOf (W := 0) (rm6 l Z a0 hw [] W a1 a3 h0 n0 O0 hf1 hf2) hZ (hw _ (List.mem_of_getElem? (i := 61) rfl)) (hw _ (List.mem_of_getElem? (i := 4) rfl)) (by decide) (by decide)) (g := (mkF m 4 #[.val (.ref a1)] [(.ref w_n1), (.ref a1)])) rfl (by rw [hml]; rfl) (Steps.refl _) (a := a1) (by rw [e1]; exact q2) q2' (argsL := [(.ref w_n1)]) (rest := []) (lenOf pd_2 rfl) rfl (by show 2 * 0 + _ ≤ _; exact Nat.le_of_eq rfl) (hb hby d7_4) (fun _ _ => ⟨rfl, e1, (by decide : 0 + 0 ≤ _), (by decide : 0 + 0 ≤ _)⟩)
  dsimp only [Pt.U, Pt.locs, Pt.cells, Pt.slots] at X2 l2 y2 z2 st2 hQ2
  subst l2 y2 z2
  obtain ⟨rfl, N2q, e2⟩ := hQ2
  have N2 := Fr.app N0 N2q
  obtain ⟨T3, X3, e3, st3⟩ := castY X2 hx hZ hown (hw _ (List.mem_of_getElem? (i := 51) rfl)) e2 (Ins.self hf3) (g := (mkF m 7 #[.val (.ref a1)] [(.ref a3)])) rfl rfl (hb hby d7_7)
  obtain ⟨T4, h4, X4, e4, E4, A4, B4, st4⟩ := cloneH X3 hx hZ hown (hw _ (List.mem_of_getElem? (i := 11) rfl)) (hw _ (List.mem_of_getElem? (i := 12) rfl)) (hw _ (List.mem_of_getElem? (i := 16) rfl)) (hw _ (List.mem_of_getElem? (i := 14) rfl)) (hw _ (List.mem_of_getElem? (i := 15) rfl)) (hw _ (List.mem_of_getElem? (i := 17) rfl)) e3 (hf4).arh hf3 (g := (mkF m 10 #[.val (.ref a1)] [(.ref a3)])) rfl (by rw [hml]; rfl) rfl (hb hby d7_10) (by decide) (W := 0) (cap := 3) (by show 2 * 0 + _ ≤ _; exact Nat.le_of_eq rfl) (by decide) (by decide) (by decide) (by decide)
  obtain ⟨b4, g4⟩ : ∃ z, z = h0.size := ⟨_, rfl⟩
  rw [← g4] at A4 B4 st4
  have lt_a1_b4 : a1 < h0.size := (hf0).lt
  have lt_a3_b4 : a3 < h0.size := (hf3).lt
  have g_b4 : n0 ≤ b4 := by rw [g4]; exact O0.1 ▸ O0.2.1
  have sz_b4 : h0.size ≤ b4 := by rw [g4]; exact (Keep.refl h0 []).1
  have f4_0 : Exa Z h4 a1 "com/example/keyfold/keyfold/core/Value" := (hf0).ext E4
  have f4_1 : Fld Z h4 a1 "com/example/keyfold/keyfold/core/Value" "type" "Lcom/example/keyfold/keyfold/core/ValueType;" (.ref w_n1) := (hf1).ext E4
  have f4_2 : Fld Z h4 a1 "com/example/keyfold/keyfold/core/Value" "content" "Ljava/lang/Object;" (.ref a3) := (hf2).ext E4
  have f4_3 : Exa Z h4 a3 "[B" := (hf3).ext E4
  have f4_4 : Arv Z h4 a3 kk .byte (3 : Int32) [(.int x0), (.int x1), (.int x2)] (.int (0 : Int32)) := (hf4).ext E4
  have O4 := O0.ext E4
  have K4 : Keep h0 h4 [] := (Keep.refl h0 []).ext E4
  have fv4 : Arv Z h4 b4 kk .byte (3 : Int32) [(.int x0), (.int x1), (.int x2)] (.int (0 : Int32)) := A4
  obtain ⟨T5, X5, e5, st5⟩ := castY X4 hx hZ hown (hw _ (List.mem_of_getElem? (i := 51) rfl)) e4 (Ins.self B4) (g := (mkF m 13 #[.val (.ref a1)] [(.ref b4)])) rfl rfl (hb hby d7_13)
  obtain ⟨fs, hr, hrun, hended, hW, hsame⟩ := X5.leave (v := some (.ref b4)) (fun h => by rw [Bd.returns] at h; cases h)
  refine ⟨_, _, pre0 _ ?_, hrun, hended, _, _, rfl, ?_, ⟨_, rfl⟩, hW, hsame.mono (by decide) (by decide)⟩
  · show Steps p.tables e below (s₁.setTop (mkF m 0 #[.val (.ref a1)] [])) _
    refine XS.aloadN X0.here hx rfl (hb hby d7_0) rfl rfl ?_
    show Steps p.tables e below (s₁.setTop (mkF m 1 #[.val (.ref a1)] [(.ref a1)])) _
    refine st1 _ ?_
    show Steps p.tables e below (T1.setTop (mkF m 4 #[.val (.ref a1)] [(.ref w_n1), (.ref a1)])) _
    refine st2.trans ?_
    show Steps p.tables e below (T2.setTop (mkF m 7 #[.val (.ref a1)] [(.ref a3)])) _
    refine st3 _ ?_
    show Steps p.tables e below (T3.setTop (mkF m 10 #[.val (.ref a1)] [(.ref a3)])) _
    refine st4 _ ?_
    show Steps p.tables e below (T4.setTop (mkF m 13 #[.val (.ref a1)] [(.ref b4)])) _
    refine st5 _ ?_
    show Steps p.tables e below (T5.setTop (mkF m 16 #[.val (.ref a1)] [(.ref b4)])) _
    jvm_step X5.here [X5.here.top, hx, (hb hby d7_16), X5.method', Bd.returns, Value.isRef, FieldType.isReference]
    first | (intro acts; rw [hr _ acts rfl rfl rfl]) | rw [hr _ _ rfl rfl rfl]
    exact Steps.refl _
  · show QW (fun v h => ∃ b4 : Addr, v = some (.ref b4) ∧ Keep h0 h [] ∧ n0 ≤ b4 ∧ h0.size ≤ b4 ∧ Exa Z h b4 "[B" ∧ Arv Z h b4 kk .byte (3 : Int32) [(.int x0), (.int x1), (.int x2)] (.int (0 : Int32))) n0 _ T5.heap _
    rw [e5]
    exact ⟨N2, ⟨b4, rfl, K4, g_b4, sz_b4, B4, fv4⟩⟩
set_option maxRecDepth 65536 in
set_option maxHeartbeats 40000000 in
theorem rm1_4 (l : Launch) (Z : State) (a0 : Array Value) (hw : ∀ d ∈ tables_1, d.before a0 Z = true) (ws : List Jvm.Cond) {w_n1 : Addr} {w_n0 : Addr} {k_n0 : ClassId} (W : Wd Z w_n1 w_n0 k_n0) (a1 : Addr) (kk : ClassId) (x0 : Int32) (x1 : Int32) (x2 : Int32) (x3 : Int32) (h0 : Heap) (n0 : Nat) (O0 : Old Z n0 h0) (g_a1 : n0 ≤ a1) (hf0 : Exa Z h0 a1 "[B") (hf1 : Arv Z h0 a1 kk .byte (4 : Int32) [(.int x0), (.int x1), (.int x2), (.int x3)] (.int (0 : Int32))) :
    MetFree l (⟨"com/example/keyfold/keyfold/core/Value", "ofBinary", "([B)Lcom/example/keyfold/keyfold/core/Value;"⟩ : MethodName) (head1 (Jvm.Cond.code (⟨"com/example/keyfold/keyfold/core/Value", "ofBinary", "([B)Lcom/example/keyfold/keyfold/core/Value;"⟩ : MethodName) prog_50_method_6_code 1 (some (.object "com/example/keyfold/keyfold/core/Value")) :: ws) ({ frames := 2, cells := 2, slots := 6, locals := 27 } : Room)) (fun a U => a = #[(.ref a1)] ∧ Z.Warmed39 U.vm ∧ U.heap = h0) (fun _ _ _ _ _ => True) (fun _ U o U' => ∃ v L, o = .returned v ∧ QW (fun v h => ∃ b1 : Addr, ∃ b3 : Addr, v = some (.ref b1) ∧ Keep h0 h [] ∧ n0 ≤ b1 ∧ h0.size ≤ b1 ∧ n0 ≤ b3 ∧ h0.size ≤ b3 ∧ Exa Z h b1 "com/example/keyfold/keyfold/core/Value" ∧ Fld Z h b1 "com/example/keyfold/keyfold/core/Value" "type" "Lcom/example/keyfold/keyfold/core/ValueType;" (.ref w_n1) ∧ Fld Z h b1 "com/example/keyfold/keyfold/core/Value" "content" "Ljava/lang/Object;" (.ref b3) ∧ Exa Z h b3 "[B" ∧ Arv Z h b3 kk .byte (4 : Int32) [(.int x0), (.int x1), (.int x2), (.int x3)] (.int (0 : Int32))) n0 v U'.heap L ∧ FrameEnd U o U' L ({ frames := 2, cells := 2, slots := 6, locals := 27 } : Room).cells ({ frames := 2, cells := 2, slots := 6, locals := 27 } : Room).slots) := by
  have W' := W; obtain ⟨S_n1, E_n1, S_n0, F_n1_ordinal, V_n0⟩ := W'
  refine MetFree.of_bodySF (plainFor_of_name pn_1) hisR ?_
  intro p e s m args below meth c s₁ Bd hml0 hP hK
  obtain ⟨rfl, hZ, hh⟩ := hP
  have hx := Bd.exec
  have hby := Bd.bytes
  have hml : c.maxLocals = 1 := hml0
  have hown : s.vm.findClass "com/example/keyfold/keyfold/core/Value" = some m.cls := findClass_of_methodNamed Bd.named
  have hnm := (name_of_methodNamed Bd.named Bd.method).1
  have X0 : Stand p l e ({ frames := 2, cells := 2, slots := 6, locals := 27 } : Room) s m #[(.ref a1)] below meth c s₁ [] 0 0 := Stand.of_body Bd
  have e0 : s₁.heap = h0 := by rw [← hh, Bd.state]; rfl
  have N0 := Fr.nil n0
  have pre0 : ∀ t, Steps p.tables e below (s₁.setTop (mkF m 0 #[.val (.ref a1)] [])) t → Steps p.tables e below (s₁.setTop (entryFrame m #[(.ref a1)] 1)) t := fun t k => castTop (ef_1_4 m a1) k
  obtain ⟨T1, h1, X1, e1, E1, A1, D1, U1, st1⟩ := newO X0 hx hZ hown (hw _ (List.mem_of_getElem? (i := 6) rfl)) (hw _ (List.mem_of_getElem? (i := 7) rfl)) (hw _ (List.mem_of_getElem? (i := 4) rfl)) e0 (g := (mkF m 0 #[.val (.ref a1)] [])) rfl (hb hby d1_0) (by decide) (by decide)
  obtain ⟨b1, g1⟩ : ∃ z, z = h0.size := ⟨_, rfl⟩
  rw [← g1] at A1 D1 U1 st1
  have lt_a1_b1 : a1 < h0.size := (hf0).lt
  have g_b1 : n0 ≤ b1 := by rw [g1]; exact O0.1 ▸ O0.2.1
  have sz_b1 : h0.size ≤ b1 := by rw [g1]; exact (Keep.refl h0 []).1
  have f1_0 : Exa Z h1 a1 "[B" := (hf0).ext E1
  have f1_1 : Arv Z h1 a1 kk .byte (4 : Int32) [(.int x0), (.int x1), (.int x2), (.int x3)] (.int (0 : Int32)) := (hf1).ext E1
  have O1 := O0.ext E1
  have K1 : Keep h0 h1 [] := (Keep.refl h0 []).ext E1
  have f1_type : Fld Z h1 b1 "com/example/keyfold/keyfold/core/Value" "type" "Lcom/example/keyfold/keyfold/core/ValueType;" .null := D1 (Or.inr (hw _ (List.mem_of_getElem? (i := 25) rfl))) (ty := (.object "com/example/keyfold/keyfold/core/ValueType")) (by decide)
  have f1_content : Fld Z h1 b1 "com/example/keyfold/keyfold/core/Value" "content" "Ljava/lang/Object;" .null := D1 (Or.inr (hw _ (List.mem_of_getElem? (i := 27) rfl))) (ty := (.object "java/lang/Object")) (by decide)
  obtain ⟨T2, X2, e2, st2⟩ := getS2 X1 hx hZ hown (host := "") (Or.inl (hw _ (List.mem_of_getElem? (i := 8) rfl))) Via.refl e1 (S_n1.ext O1.2) (g := (mkF m 4 #[.val (.ref a1)] [(.ref b1), (.ref b1)])) rfl (hb hby d1_4)
  obtain ⟨T3, h3, X3, e3, E3, A3, B3, st3⟩ := cloneH X2 hx hZ hown (hw _ (List.mem_of_getElem? (i := 11) rfl)) (hw _ (List.mem_of_getElem? (i := 12) rfl)) (hw _ (List.mem_of_getElem? (i := 16) rfl)) (hw _ (List.mem_of_getElem? (i := 14) rfl)) (hw _ (List.mem_of_getElem? (i := 15) rfl)) (hw _ (List.mem_of_getElem? (i := 17) rfl)) e2 (f1_1).arh f1_0 (g := (mkF m 8 #[.val (.ref a1)] [(.ref a1), (.ref w_n1), (.ref b1), (.ref b1)])) rfl (by rw [hml]; rfl) rfl (hb hby d1_8) (by decide) (W := 3) (cap := 4) (by show 2 * 0 + _ ≤ _; exact Nat.le_of_eq rfl) (by decide) (by decide) (by decide) (by decide)
  obtain ⟨b3, g3⟩ : ∃ z, z = h1.size := ⟨_, rfl⟩
  rw [← g3] at A3 B3 st3
  have lt_a1_b3 : a1 < h1.size := (f1_0).lt
  have lt_b1_b3 : b1 < h1.size := (A1).lt
  have g_b3 : n0 ≤ b3 := by rw [g3]; exact O1.1 ▸ O1.2.1
  have sz_b3 : h0.size ≤ b3 := by rw [g3]; exact K1.1
  have f3_0 : Exa Z h3 a1 "[B" := (f1_0).ext E3
  have f3_1 : Arv Z h3 a1 kk .byte (4 : Int32) [(.int x0), (.int x1), (.int x2), (.int x3)] (.int (0 : Int32)) := (f1_1).ext E3
  have f3_2 : Exa Z h3 b1 "com/example/keyfold/keyfold/core/Value" := (A1).ext E3
  have f3_3 : Fld Z h3 b1 "com/example/keyfold/keyfold/core/Value" "type" "Lcom/example/keyfold/keyfold/core/ValueType;" .null := (f1_type).ext E3
  have f3_4 : Fld Z h3 b1 "com/example/keyfold/keyfold/core/Value" "content" "Ljava/lang/Object;" .null := (f1_content).ext E3
  have O3 := O1.ext E3
  have K3 : Keep h0 h3 [] := K1.ext E3
  have fv3 : Arv Z h3 b3 kk .byte (4 : Int32) [(.int x0), (.int x1), (.int x2), (.int x3)] (.int (0 : Int32)) := A3
  obtain ⟨_, _, ⟨T4, L4, k4, n4⟩, -, X4, ⟨Lc4, hQ4, l4, y4, z4⟩, st4⟩ := X3.specialBack hx (y := (⟨"com/example/keyfold/keyfold/core/Value", "<init>", "(Lcom/example/keyfold/keyfold/core/ValueType;Ljava/lang/Object;)V"⟩ : MethodName)) rfl hown (mvT hZ (hw _ (List.mem_of_getElem? (i := 18) rfl))) (mvT hZ (hw _ (List.mem_of_getElem? (i := 19) rfl))) (mvT hZ (hw _ (List.mem_of_getElem? (i := 20) rfl))) (by decide) (backOf (W := 1) (rm2 l Z a0 hw [] W b1 b3 h3 n0 O3 g_b1 f3_2 f3_3 f3_4) hZ (hw _ (List.mem_of_getElem? (i := 20) rfl)) (hw _ (List.mem_of_getElem? (i := 4) rfl)) (by decide) (by decide)) (g := (mkF m 11 #[.val (.ref a1)] [(.ref b3), (.ref w_n1), (.ref b1), (.ref b1)])) rfl (by rw [hml]; rfl) (Steps.refl _) (a := b1) (argsL := [(.ref w_n1), (.ref b3)]) (rest := [(.ref b1)]) (lenOf pd_0 rfl) rfl (by show 2 * 0 + _ ≤ _; exact Nat.le_of_eq rfl) (hb hby d1_11) (fun _ _ => ⟨rfl, e3, (by decide : 2 + 0 ≤ _), (by decide : 6 + 0 ≤ _)⟩)
  dsimp only [Pt.U, Pt.locs, Pt.cells, Pt.slots] at X4 l4 y4 z4 st4 hQ4
  subst l4 y4 z4
  obtain ⟨N4q, hP4⟩ := hQ4
  have N4 := Fr.app N0 N4q
  obtain ⟨rfl, Kp4, fp4_0, fp4_1, fp4_2⟩ := hP4
  have f4_0 : Exa Z T4.heap a1 "[B" := (f3_0).keep Kp4
  have f4_1 : Arv Z T4.heap a1 kk .byte (4 : Int32) [(.int x0), (.int x1), (.int x2), (.int x3)] (.int (0 : Int32)) := (f3_1).keep Kp4 (ninS (ne_exa f3_0 f3_2 (by decide)) nin0)
  have f4_2 : Exa Z T4.heap b1 "com/example/keyfold/keyfold/core/Value" := (f3_2).keep Kp4
  have f4_3 : Arv Z T4.heap b3 kk .byte (4 : Int32) [(.int x0), (.int x1), (.int x2), (.int x3)] (.int (0 : Int32)) := (fv3).keep Kp4 (ninS (ne_exa B3 f3_2 (by decide)) nin0)
  have f4_4 : Exa Z T4.heap b3 "[B" := (B3).keep Kp4
  have O4 := O3.keep Kp4 (allS g_b1 all0)
  have K4 : Keep h0 T4.heap [] := K3.trans Kp4 (allS (Or.inr sz_b1) all0)
  obtain ⟨fs, hr, hrun, hended, hW, hsame⟩ := X4.leave (v := some (.ref b1)) (fun h => by rw [Bd.returns] at h; cases h)
  refine ⟨_, _, pre0 _ ?_, hrun, hended, _, _, rfl, ?_, ⟨_, rfl⟩, hW, hsame.mono (by decide) (by decide)⟩
  · show Steps p.tables e below (s₁.setTop (mkF m 0 #[.val (.ref a1)] [])) _
    refine st1 _ ?_
    show Steps p.tables e below (T1.setTop (mkF m 3 #[.val (.ref a1)] [(.ref b1)])) _
    refine XS.dup X1.here hx rfl (hb hby d1_3) rfl rfl ?_
    show Steps p.tables e below (T1.setTop (mkF m 4 #[.val (.ref a1)] [(.ref b1), (.ref b1)])) _
    refine st2 _ ?_
    show Steps p.tables e below (T2.setTop (mkF m 7 #[.val (.ref a1)] [(.ref w_n1), (.ref b1), (.ref b1)])) _
    refine XS.aloadN X2.here hx rfl (hb hby d1_7) rfl rfl ?_
    show Steps p.tables e below (T2.setTop (mkF m 8 #[.val (.ref a1)] [(.ref a1), (.ref w_n1), (.ref b1), (.ref b1)])) _
    refine st3 _ ?_
    show Steps p.tables e below (T3.setTop (mkF m 11 #[.val (.ref a1)] [(.ref b3), (.ref w_n1), (.ref b1), (.ref b1)])) _
    refine st4.trans ?_
    show Steps p.tables e below (T4.setTop (mkF m 14 #[.val (.ref a1)] [(.ref b1)])) _
    jvm_step X4.here [X4.here.top, hx, (hb hby d1_14), X4.method', Bd.returns, Value.isRef, FieldType.isReference]
    first | (intro acts; rw [hr _ acts rfl rfl rfl]) | rw [hr _ _ rfl rfl rfl]
    exact Steps.refl _
  · show QW (fun v h => ∃ b1 : Addr, ∃ b3 : Addr, v = some (.ref b1) ∧ Keep h0 h [] ∧ n0 ≤ b1 ∧ h0.size ≤ b1 ∧ n0 ≤ b3 ∧ h0.size ≤ b3 ∧ Exa Z h b1 "com/example/keyfold/keyfold/core/Value" ∧ Fld Z h b1 "com/example/keyfold/keyfold/core/Value" "type" "Lcom/example/keyfold/keyfold/core/ValueType;" (.ref w_n1) ∧ Fld Z h b1 "com/example/keyfold/keyfold/core/Value" "content" "Ljava/lang/Object;" (.ref b3) ∧ Exa Z h b3 "[B" ∧ Arv Z h b3 kk .byte (4 : Int32) [(.int x0), (.int x1), (.int x2), (.int x3)] (.int (0 : Int32))) n0 _ T4.heap _
    exact ⟨N4, ⟨b1, b3, rfl, K4, g_b1, sz_b1, g_b3, sz_b3, fp4_0, fp4_1, fp4_2, f4_4, f4_3⟩⟩
set_option maxRecDepth 65536 in
set_option maxHeartbeats 40000000 in
theorem rm7_4 (l : Launch) (Z : State) (a0 : Array Value) (hw : ∀ d ∈ tables_1, d.before a0 Z = true) (ws : List Jvm.Cond) {w_n1 : Addr} {w_n0 : Addr} {k_n0 : ClassId} (W : Wd Z w_n1 w_n0 k_n0) (a1 : Addr) (a3 : Addr) (kk : ClassId) (x0 : Int32) (x1 : Int32) (x2 : Int32) (x3 : Int32) (h0 : Heap) (n0 : Nat) (O0 : Old Z n0 h0) (g_a1 : n0 ≤ a1) (hf0 : Exa Z h0 a1 "com/example/keyfold/keyfold/core/Value") (hf1 : Fld Z h0 a1 "com/example/keyfold/keyfold/core/Value" "type" "Lcom/example/keyfold/keyfold/core/ValueType;" (.ref w_n1)) (hf2 : Fld Z h0 a1 "com/example/keyfold/keyfold/core/Value" "content" "Ljava/lang/Object;" (.ref a3)) (g_a3 : n0 ≤ a3) (hf3 : Exa Z h0 a3 "[B") (hf4 : Arv Z h0 a3 kk .byte (4 : Int32) [(.int x0), (.int x1), (.int x2), (.int x3)] (.int (0 : Int32))) :
    MetFree l (⟨"com/example/keyfold/keyfold/core/Value", "size", "()I"⟩ : MethodName) (head1 (Jvm.Cond.code (⟨"com/example/keyfold/keyfold/core/Value", "size", "()I"⟩ : MethodName) prog_50_method_13_code 1 (some .int) :: ws) ({ frames := 1, cells := 0, slots := 0, locals := 13 } : Room)) (fun a U => a = #[(.ref a1)] ∧ Z.Warmed39 U.vm ∧ U.heap = h0) (fun _ _ _ _ _ => True) (fun _ U o U' => ∃ v L, o = .returned v ∧ QP (some (.int (4 : Int32))) h0 n0 v U'.heap L ∧ FrameEnd U o U' L ({ frames := 1, cells := 0, slots := 0, locals := 13 } : Room).cells ({ frames := 1, cells := 0, slots := 0, locals := 13 } : Room).slots) := by
  have W' := W; obtain ⟨S_n1, E_n1, S_n0, F_n1_ordinal, V_n0⟩ := W'
  refine MetFree.of_bodySF (plainFor_of_name pn_5) hisR ?_
  intro p e s m args below meth c s₁ Bd hml0 hP hK
  obtain ⟨rfl, hZ, hh⟩ := hP
  have hx := Bd.exec
  have hby := Bd.bytes
  have hml : c.maxLocals = 1 := hml0
  have hown : s.vm.findClass "com/example/keyfold/keyfold/core/Value" = some m.cls := findClass_of_methodNamed Bd.named
  have hnm := (name_of_methodNamed Bd.named Bd.method).1
  have X0 : Stand p l e ({ frames := 1, cells := 0, slots := 0, locals := 13 } : Room) s m #[(.ref a1)] below meth c s₁ [] 0 0 := Stand.of_body Bd
  have e0 : s₁.heap = h0 := by rw [← hh, Bd.state]; rfl
  have N0 := Fr.nil n0
  have pre0 : ∀ t, Steps p.tables e below (s₁.setTop (mkF m 0 #[.val (.ref a1)] [])) t → Steps p.tables e below (s₁.setTop (entryFrame m #[(.ref a1)] 1)) t := fun t k => castTop (ef_5_5 m a1) k
  obtain ⟨T1, X1, e1, st1⟩ := getS2 X0 hx hZ hown (host := "") (Or.inl (hw _ (List.mem_of_getElem? (i := 39) rfl))) Via.refl e0 (S_n0.ext O0.2) (g := (mkF m 0 #[.val (.ref a1)] [])) rfl (hb hby d5_0)
  obtain ⟨T2, X2, e2, st2⟩ := getF X1 hx hZ hown (host := "") (Or.inl (hw _ (List.mem_of_getElem? (i := 24) rfl))) Via.refl e1 hf1 (g := (mkF m 4 #[.val (.ref a1)] [(.ref a1), (.ref w_n0)])) rfl rfl (hb hby d5_4)
  obtain ⟨cq3, kq3, q3a, q3b, q3c⟩ := isOf hZ e2 (E_n1.ext O0.2)
  obtain ⟨_, _, ⟨T3, L3, k3, n3⟩, -, X3, ⟨Lc3, hQ3, l3, y3, z3⟩, st3⟩ := X2.virtualBackUp hx (x := (⟨"com/example/keyfold/keyfold/core/ValueType", "ordinal", "()I"⟩ : MethodName)) (y := (⟨"java/lang/Enum", "ordinal", "()I"⟩ : MethodName)) (owner := "java/lang/Enum") hown (mvT hZ (hw _ (List.mem_of_getElem? (i := 42) rfl))) (mvT hZ (hw _ (List.mem_of_getElem? (i := 43) rfl))) (mvT hZ (hw _ (List.mem_of_getElem? (i := 44) rfl))) (by decide) (mvT hZ (hw _ (List.mem_of_getElem? (i := 46) rfl))) (mvT hZ (hw _ (List.mem_of_getElem? (i := 45) rfl))) (backOf (W := 1) (rm8 l Z a0 hw [] W  h0 n0 O0 ) hZ (hw _ (List.mem_of_getElem? (i := 48) rfl)) (hw _ (List.mem_of_getElem? (i := 47) rfl)) (by decide) (by decide)) q3a q3c (g := (mkF m 7 #[.val (.ref a1)] [(.ref w_n1), (.ref w_n0)])) rfl (by rw [hml]; rfl) (Steps.refl _) (argsL := []) (rest := [(.ref w_n0)]) (lenOf pd_1 rfl) rfl (by show 2 * 0 + _ ≤ _; exact Nat.le_of_eq rfl) (hb hby d5_7) (fun _ _ => ⟨rfl, e2, (by decide : 0 + 0 ≤ _), (by decide : 0 + 0 ≤ _)⟩)
  dsimp only [Pt.U, Pt.locs, Pt.cells, Pt.slots] at X3 l3 y3 z3 st3 hQ3
  subst l3 y3 z3
  obtain ⟨rfl, N3q, e3⟩ := hQ3
  have N3 := Fr.app N0 N3q
  obtain ⟨cl4, Ar4, qk4, Sz4, Nz4, Hs4, Gs4⟩ := id (V_n0.ext O0.2)
  have hin4 : ¬ ((4 : Int32) < 0 ∨ cl4.slots.size ≤ ((4 : Int32)).toNatClampNeg) := inb_of Sz4 ⟨by decide, by decide⟩
  have hat4 : cl4.slots[((4 : Int32)).toNatClampNeg]? = some (.int (5 : Int32)) := Has.at Hs4 hin4 rfl
  obtain ⟨T5, X5, e5, st5⟩ := getF X3 hx hZ hown (host := "") (Or.inl (hw _ (List.mem_of_getElem? (i := 26) rfl))) Via.refl e3 hf2 (g := (mkF m 77 #[.val (.ref a1)] [(.ref a1)])) rfl rfl (hb hby d5_77)
  obtain ⟨T6, X6, e6, st6⟩ := castY X5 hx hZ hown (hw _ (List.mem_of_getElem? (i := 51) rfl)) e5 (Ins.self hf3) (g := (mkF m 80 #[.val (.ref a1)] [(.ref a3)])) rfl rfl (hb hby d5_80)
  obtain ⟨cl7, Ar7, qk7, Sz7, Nz7, Hs7, Gs7⟩ := id hf4
  obtain ⟨fs, hr, hrun, hended, hW, hsame⟩ := X6.leave (v := some (.int (4 : Int32))) (fun h => by rw [Bd.returns] at h; cases h)
  refine ⟨_, _, pre0 _ ?_, hrun, hended, _, _, rfl, ?_, ⟨_, rfl⟩, hW, hsame.mono (by decide) (by decide)⟩
  · show Steps p.tables e below (s₁.setTop (mkF m 0 #[.val (.ref a1)] [])) _
    refine st1 _ ?_
    show Steps p.tables e below (T1.setTop (mkF m 3 #[.val (.ref a1)] [(.ref w_n0)])) _
    refine XS.aloadN X1.here hx rfl (hb hby d5_3) rfl rfl ?_
    show Steps p.tables e below (T1.setTop (mkF m 4 #[.val (.ref a1)] [(.ref a1), (.ref w_n0)])) _
    refine st2 _ ?_
    show Steps p.tables e below (T2.setTop (mkF m 7 #[.val (.ref a1)] [(.ref w_n1), (.ref w_n0)])) _
    refine st3.trans ?_
    show Steps p.tables e below (T3.setTop (mkF m 10 #[.val (.ref a1)] [(.int (4 : Int32)), (.ref w_n0)])) _
    refine X3.iaload hx (j := (4 : Int32)) (v := (.int (5 : Int32))) (by rw [e3]; exact Ar4.1) (State.isArrayOf_alike hZ.alike Ar4.2.1) Ar4.2.2 hin4 hat4 (g := (mkF m 10 #[.val (.ref a1)] [(.int (4 : Int32)), (.ref w_n0)])) rfl rfl (hb hby d5_10) _ ?_
    show Steps p.tables e below (T3.setTop (mkF m 11 #[.val (.ref a1)] [(.int (5 : Int32))])) _
    refine XS.tswIn X3.here hx rfl (o := 65) (pc0 := 11) (pc' := 76) rfl (hb hby d5_11) rfl (by decide) (by decide) (by decide) (by decide) ?_
    show Steps p.tables e below (T3.setTop (mkF m 76 #[.val (.ref a1)] [])) _
    refine XS.aloadN X3.here hx rfl (hb hby d5_76) rfl rfl ?_
    show Steps p.tables e below (T3.setTop (mkF m 77 #[.val (.ref a1)] [(.ref a1)])) _
    refine st5 _ ?_
    show Steps p.tables e below (T5.setTop (mkF m 80 #[.val (.ref a1)] [(.ref a3)])) _
    refine st6 _ ?_
    show Steps p.tables e below (T6.setTop (mkF m 83 #[.val (.ref a1)] [(.ref a3)])) _
    refine X6.arraylength hx (by rw [e6]; exact Ar7.1) (State.isArrayOf_alike hZ.alike Ar7.2.1) (g := (mkF m 83 #[.val (.ref a1)] [(.ref a3)])) rfl rfl (hb hby d5_83) _ ?_
    rw [len_of Sz7 Nz7]
    show Steps p.tables e below (T6.setTop (mkF m 84 #[.val (.ref a1)] [(.int (4 : Int32))])) _
    exact retI X6 hx Bd.returns (hb hby d5_84) hr
  · show QP (some (.int (4 : Int32))) h0 n0 _ T6.heap _
    rw [e6]
    exact ⟨rfl, N3, rfl⟩
set_option maxRecDepth 65536 in
set_option maxHeartbeats 40000000 in
theorem rm5_4 (l : Launch) (Z : State) (a0 : Array Value) (hw : ∀ d ∈ tables_1, d.before a0 Z = true) (ws : List Jvm.Cond) {w_n1 : Addr} {w_n0 : Addr} {k_n0 : ClassId} (W : Wd Z w_n1 w_n0 k_n0) (a1 : Addr) (a3 : Addr) (kk : ClassId) (x0 : Int32) (x1 : Int32) (x2 : Int32) (x3 : Int32) (h0 : Heap) (n0 : Nat) (O0 : Old Z n0 h0) (g_a1 : n0 ≤ a1) (hf0 : Exa Z h0 a1 "com/example/keyfold/keyfold/core/Value") (hf1 : Fld Z h0 a1 "com/example/keyfold/keyfold/core/Value" "type" "Lcom/example/keyfold/keyfold/core/ValueType;" (.ref w_n1)) (hf2 : Fld Z h0 a1 "com/example/keyfold/keyfold/core/Value" "content" "Ljava/lang/Object;" (.ref a3)) (g_a3 : n0 ≤ a3) (hf3 : Exa Z h0 a3 "[B") (hf4 : Arv Z h0 a3 kk .byte (4 : Int32) [(.int x0), (.int x1), (.int x2), (.int x3)] (.int (0 : Int32))) :
    MetFree l (⟨"com/example/keyfold/keyfold/core/Value", "asBinary", "()[B"⟩ : MethodName) (head1 (Jvm.Cond.code (⟨"com/example/keyfold/keyfold/core/Value", "asBinary", "()[B"⟩ : MethodName) prog_50_method_12_code 1 (some (.array .byte)) :: ws) ({ frames := 1, cells := 1, slots := 4, locals := 14 } : Room)) (fun a U => a = #[(.ref a1)] ∧ Z.Warmed39 U.vm ∧ U.heap = h0) (fun _ _ _ _ _ => True) (fun _ U o U' => ∃ v L, o = .returned v ∧ QW (fun v h => ∃ b4 : Addr, v = some (.ref b4) ∧ Keep h0 h [] ∧ n0 ≤ b4 ∧ h0.size ≤ b4 ∧ Exa Z h b4 "[B" ∧ Arv Z h b4 kk .byte (4 : Int32) [(.int x0), (.int x1), (.int x2), (.int x3)] (.int (0 : Int32))) n0 v U'.heap L ∧ FrameEnd U o U' L ({ frames := 1, cells := 1, slots := 4, locals := 14 } : Room).cells ({ frames := 1, cells := 1, slots := 4, locals := 14 } : Room).slots) := by
  have W' := W; obtain ⟨S_n1, E_n1, S_n0, F_n1_ordinal, V_n0⟩ := W'
  refine MetFree.of_bodySF (plainFor_of_name pn_7) hisR ?_
  intro p e s m args below meth c s₁ Bd hml0 hP hK
  obtain ⟨rfl, hZ, hh⟩ := hP
  have hx := Bd.exec
  have hby := Bd.bytes
  have hml : c.maxLocals = 1 := hml0
  have hown : s.vm.findClass "com/example/keyfold/keyfold/core/Value" = some m.cls := findClass_of_methodNamed Bd.named
  have hnm := (name_of_methodNamed Bd.named Bd.method).1
  have X0 : Stand p l e ({ frames := 1, cells := 1, slots := 4, locals := 14 } : Room) s m #[(.ref a1)] below meth c s₁ [] 0 0 := Stand.of_body Bd
  have e0 : s₁.heap = h0 := by rw [← hh, Bd.state]; rfl
  have N0 := Fr.nil n0
  have pre0 : ∀ t, Steps p.tables e below (s₁.setTop (mkF m 0 #[.val (.ref a1)] [])) t → Steps p.tables e below (s₁.setTop (entryFrame m #[(.ref a1)] 1)) t := fun t k => castTop (ef_7_6 m a1) k
  obtain ⟨T1, X1, e1, st1⟩ := getS2 X0 hx hZ hown (host := "") (Or.inl (hw _ (List.mem_of_getElem? (i := 8) rfl))) Via.refl e0 (S_n1.ext O0.2) (g := (mkF m 1 #[.val (.ref a1)] [(.ref a1)])) rfl (hb hby d7_1)
  obtain ⟨cq2, q2, q2'⟩ := (hf0).cell
  obtain ⟨_, _, ⟨T2, L2, k2, n2⟩, -, X2, ⟨Lc2, hQ2, l2, y2, z2⟩, st2⟩ := X1.privateBack hx (y := (⟨"com/example/keyfold/keyfold/core/Value", "contentOf", "(Lcom/example/keyfold/keyfold/core/ValueType;)Ljava/lang/Object;"⟩ : MethodName)) hown (mvT hZ (hw _ (List.mem_of_getElem? (i := 58) rfl))) (mvT hZ (hw _ (List.mem_of_getElem? (i := 59) rfl))) (own_selP hZ (hw _ (List.mem_of_getElem? (i := 31) rfl)) rfl (hw _ (List.mem_of_getElem? (i := 60) rfl)) (hw _ (List.mem_of_getElem? (i := 59) rfl)) (by decide)) (Cond.privateMethod_at (mvP hZ (hw _ (List.mem_of_getElem? (i := 60) rfl)) (args := #[]))) (mvT hZ (hw _ (List.mem_of_getElem? (i := 61) rfl))) (by decide) (backOf (W := 0) (rm6 l Z a0 hw [] W a1 a3 h0 n0 O0 hf1 hf2) hZ (hw _ (List.mem_of_getElem? (i := 61) rfl)) (hw _ (List.mem_of_getElem? (i := 4) rfl)) (by decide) (by decide)) (g := (mkF m 4 #[.val (.ref a1)] [(.ref w_n1), (.ref a1)])) rfl (by rw [hml]; rfl) (Steps.refl _) (a := a1) (by rw [e1]; exact q2) q2' (argsL := [(.ref w_n1)]) (rest := []) (lenOf pd_2 rfl) rfl (by show 2 * 0 + _ ≤ _; exact Nat.le_of_eq rfl) (hb hby d7_4) (fun _ _ => ⟨rfl, e1, (by decide : 0 + 0 ≤ _), (by decide : 0 + 0 ≤ _)⟩)
  dsimp only [Pt.U, Pt.locs, Pt.cells, Pt.slots] at X2 l2 y2 z2 st2 hQ2
  subst l2 y2 z2
  obtain ⟨rfl, N2q, e2⟩ := hQ2
  have N2 := Fr.app N0 N2q
  obtain ⟨T3, X3, e3, st3⟩ := castY X2 hx hZ hown (hw _ (List.mem_of_getElem? (i := 51) rfl)) e2 (Ins.self hf3) (g := (mkF m 7 #[.val (.ref a1)] [(.ref a3)])) rfl rfl (hb hby d7_7)
  obtain ⟨T4, h4, X4, e4, E4, A4, B4, st4⟩ := cloneH X3 hx hZ hown (hw _ (List.mem_of_getElem? (i := 11) rfl)) (hw _ (List.mem_of_getElem? (i := 12) rfl)) (hw _ (List.mem_of_getElem? (i := 16) rfl)) (hw _ (List.mem_of_getElem? (i := 14) rfl)) (hw _ (List.mem_of_getElem? (i := 15) rfl)) (hw _ (List.mem_of_getElem? (i := 17) rfl)) e3 (hf4).arh hf3 (g := (mkF m 10 #[.val (.ref a1)] [(.ref a3)])) rfl (by rw [hml]; rfl) rfl (hb hby d7_10) (by decide) (W := 0) (cap := 4) (by show 2 * 0 + _ ≤ _; exact Nat.le_of_eq rfl) (by decide) (by decide) (by decide) (by decide)
  obtain ⟨b4, g4⟩ : ∃ z, z = h0.size := ⟨_, rfl⟩
  rw [← g4] at A4 B4 st4
  have lt_a1_b4 : a1 < h0.size := (hf0).lt
  have lt_a3_b4 : a3 < h0.size := (hf3).lt
  have g_b4 : n0 ≤ b4 := by rw [g4]; exact O0.1 ▸ O0.2.1
  have sz_b4 : h0.size ≤ b4 := by rw [g4]; exact (Keep.refl h0 []).1
  have f4_0 : Exa Z h4 a1 "com/example/keyfold/keyfold/core/Value" := (hf0).ext E4
  have f4_1 : Fld Z h4 a1 "com/example/keyfold/keyfold/core/Value" "type" "Lcom/example/keyfold/keyfold/core/ValueType;" (.ref w_n1) := (hf1).ext E4
  have f4_2 : Fld Z h4 a1 "com/example/keyfold/keyfold/core/Value" "content" "Ljava/lang/Object;" (.ref a3) := (hf2).ext E4
  have f4_3 : Exa Z h4 a3 "[B" := (hf3).ext E4
  have f4_4 : Arv Z h4 a3 kk .byte (4 : Int32) [(.int x0), (.int x1), (.int x2), (.int x3)] (.int (0 : Int32)) := (hf4).ext E4
  have O4 := O0.ext E4
  have K4 : Keep h0 h4 [] := (Keep.refl h0 []).ext E4
  have fv4 : Arv Z h4 b4 kk .byte (4 : Int32) [(.int x0), (.int x1), (.int x2), (.int x3)] (.int (0 : Int32)) := A4
  obtain ⟨T5, X5, e5, st5⟩ := castY X4 hx hZ hown (hw _ (List.mem_of_getElem? (i := 51) rfl)) e4 (Ins.self B4) (g := (mkF m 13 #[.val (.ref a1)] [(.ref b4)])) rfl rfl (hb hby d7_13)
  obtain ⟨fs, hr, hrun, hended, hW, hsame⟩ := X5.leave (v := some (.ref b4)) (fun h => by rw [Bd.returns] at h; cases h)
  refine ⟨_, _, pre0 _ ?_, hrun, hended, _, _, rfl, ?_, ⟨_, rfl⟩, hW, hsame.mono (by decide) (by decide)⟩
  · show Steps p.tables e below (s₁.setTop (mkF m 0 #[.val (.ref a1)] [])) _
    refine XS.aloadN X0.here hx rfl (hb hby d7_0) rfl rfl ?_
    show Steps p.tables e below (s₁.setTop (mkF m 1 #[.val (.ref a1)] [(.ref a1)])) _
    refine st1 _ ?_
    show Steps p.tables e below (T1.setTop (mkF m 4 #[.val (.ref a1)] [(.ref w_n1), (.ref a1)])) _
    refine st2.trans ?_
    show Steps p.tables e below (T2.setTop (mkF m 7 #[.val (.ref a1)] [(.ref a3)])) _
    refine st3 _ ?_
    show Steps p.tables e below (T3.setTop (mkF m 10 #[.val (.ref a1)] [(.ref a3)])) _
    refine st4 _ ?_
    show Steps p.tables e below (T4.setTop (mkF m 13 #[.val (.ref a1)] [(.ref b4)])) _
    refine st5 _ ?_
    show Steps p.tables e below (T5.setTop (mkF m 16 #[.val (.ref a1)] [(.ref b4)])) _
    jvm_step X5.here [X5.here.top, hx, (hb hby d7_16), X5.method', Bd.returns, Value.isRef, FieldType.isReference]
    first | (intro acts; rw [hr _ acts rfl rfl rfl]) | rw [hr _ _ rfl rfl rfl]
    exact Steps.refl _
  · show QW (fun v h => ∃ b4 : Addr, v = some (.ref b4) ∧ Keep h0 h [] ∧ n0 ≤ b4 ∧ h0.size ≤ b4 ∧ Exa Z h b4 "[B" ∧ Arv Z h b4 kk .byte (4 : Int32) [(.int x0), (.int x1), (.int x2), (.int x3)] (.int (0 : Int32))) n0 _ T5.heap _
    rw [e5]
    exact ⟨N2, ⟨b4, rfl, K4, g_b4, sz_b4, B4, fv4⟩⟩
theorem pd_3 : parseMethodDescriptor "([B)Lcom/example/keyfold/keyfold/core/Value;" = some ⟨[(.array .byte)], some (.object "com/example/keyfold/keyfold/core/Value")⟩ := by decide +kernel
theorem pd_4 : parseMethodDescriptor "()Lcom/example/keyfold/keyfold/core/ValueType;" = some ⟨[], some (.object "com/example/keyfold/keyfold/core/ValueType")⟩ := by decide +kernel
theorem pd_5 : parseMethodDescriptor "()[B" = some ⟨[], some (.array .byte)⟩ := by decide +kernel
theorem ef_0_7 (m : MethodId) (x0 : Int32) (x1 : Int32) (x2 : Int32) (x3 : Int32) (x4 : Int32) (x5 : Int32) : entryFrame m #[(.int x0), (.int x1), (.int x2), (.int x3), (.int x4), (.int x5)] maxLocals = mkF m 0 #[.val (.int x0), .val (.int x1), .val (.int x2), .val (.int x3), .val (.int x4), .val (.int x5), .unset, .unset, .unset, .unset] [] := by first | (simp [entryFrame, mkF, argsToLocals, Value.category, maxLocals]; done) | rfl
theorem pn_0 : plainName "com/example/keyfold/keyfold/core/ValueOfBinary193PinLaw" = true := by first | (simp [plainName, overriddenIn]; done) | decide +kernel
set_option maxRecDepth 65536 in
set_option maxHeartbeats 40000000 in
theorem rm0_00 (l : Launch) (Z : State) (a0 : Array Value) (hw : ∀ d ∈ tables_1, d.before a0 Z = true) (ws : List Jvm.Cond) {w_n1 : Addr} {w_n0 : Addr} {k_n0 : ClassId} (W : Wd Z w_n1 w_n0 k_n0) (p1 : Int32) (p2 : Int32) (p3 : Int32) (p4 : Int32) (p5 : Int32) (p6 : Int32) (h0 : Heap) (n0 : Nat) (O0 : Old Z n0 h0) (hk : ((p1 &&& (2147483647 : Int32)) % (5 : Int32)) = (0 : Int32)) :
    MetFree l x (head1 (Jvm.Cond.code x code maxLocals ret :: ws) room_1) (fun a U => a = #[(.int p1), (.int p2), (.int p3), (.int p4), (.int p5), (.int p6)] ∧ Z.Warmed39 U.vm ∧ U.heap = h0) (fun _ _ _ _ _ => True) (fun _ U o U' => ∃ v L, o = .returned v ∧ Q0 n0 v U'.heap L ∧ FrameEnd U o U' L room_1.cells room_1.slots) := by
  have W' := W; obtain ⟨S_n1, E_n1, S_n0, F_n1_ordinal, V_n0⟩ := W'
  refine MetFree.of_bodySF (plainFor_of_name pn_0) hisR ?_
  intro p e s m args below meth c s₁ Bd hml0 hP hK
  obtain ⟨rfl, hZ, hh⟩ := hP
  have hx := Bd.exec
  have hby := Bd.bytes
  have hml : c.maxLocals = 10 := hml0
  have hown : s.vm.findClass "com/example/keyfold/keyfold/core/ValueOfBinary193PinLaw" = some m.cls := findClass_of_methodNamed Bd.named
  have hnm := (name_of_methodNamed Bd.named Bd.method).1
  have X0 : Stand p l e room_1 s m #[(.int p1), (.int p2), (.int p3), (.int p4), (.int p5), (.int p6)] below meth c s₁ [] 0 0 := Stand.of_body Bd
  have e0 : s₁.heap = h0 := by rw [← hh, Bd.state]; rfl
  have N0 := Fr.nil n0
  have pre0 : ∀ t, Steps p.tables e below (s₁.setTop (mkF m 0 #[.val (.int p1), .val (.int p2), .val (.int p3), .val (.int p4), .val (.int p5), .val (.int p6), .unset, .unset, .unset, .unset] [])) t → Steps p.tables e below (s₁.setTop (entryFrame m #[(.int p1), (.int p2), (.int p3), (.int p4), (.int p5), (.int p6)] maxLocals)) t := fun t k => castTop (ef_0_7 m p1 p2 p3 p4 p5 p6) k
  obtain ⟨T1, h1, k1, X1, e1, E1, A1, B1, st1⟩ := newPE X0 hx hZ (hw _ (List.mem_of_getElem? (i := 1) rfl)) e0 (g := (mkF m 10 #[.val (.int p1), .val (.int p2), .val (.int p3), .val (.int p4), .val (.int p5), .val (.int p6), .val (.int (0 : Int32)), .unset, .unset, .unset] [(.int (0 : Int32))])) rfl (hb hby at_10) rfl (by decide) (cap := 0) (by decide) (by decide) (by decide) (by decide) (ad := "[B") (by decide)
  obtain ⟨b1, g1⟩ : ∃ z, z = h0.size := ⟨_, rfl⟩
  rw [← g1] at A1 B1 st1
  have g_b1 : n0 ≤ b1 := by rw [g1]; exact O0.1 ▸ O0.2.1
  have O1 := O0.ext E1
  have fv1 : Arv Z h1 b1 k1 .byte (0 : Int32) [] (.int (0 : Int32)) := (Arv.new A1 (by decide)).pad (pad_rep [] (.int (0 : Int32)) 0)
  obtain ⟨_, _, ⟨T2, L2, k2, n2⟩, -, X2, ⟨Lc2, hQ2, l2, y2, z2⟩, st2⟩ := Jvm.LawKit.callS X1 hx (y := (⟨"com/example/keyfold/keyfold/core/Value", "ofBinary", "([B)Lcom/example/keyfold/keyfold/core/Value;"⟩ : MethodName)) hown (mvT hZ (hw _ (List.mem_of_getElem? (i := 2) rfl))) (mvT hZ (hw _ (List.mem_of_getElem? (i := 3) rfl))) (mvT hZ (hw _ (List.mem_of_getElem? (i := 4) rfl))) (mvT hZ (hw _ (List.mem_of_getElem? (i := 5) rfl))) (by decide) (backOf (W := 0) (rm1_0 l Z a0 hw [] W b1 k1 h1 n0 O1 g_b1 B1 fv1) hZ (hw _ (List.mem_of_getElem? (i := 5) rfl)) (hw _ (List.mem_of_getElem? (i := 4) rfl)) (by decide) (by decide)) (g := (mkF m 64 #[.val (.int p1), .val (.int p2), .val (.int p3), .val (.int p4), .val (.int p5), .val (.int p6), .val (.int (0 : Int32)), .val (.ref b1), .unset, .unset] [(.ref b1)])) rfl (by rw [hml]; rfl) (argsL := [(.ref b1)]) (rest := []) (lenOf pd_3 rfl) rfl (by show 2 * 0 + _ ≤ _; exact Nat.le_of_eq rfl) (hb hby at_64) (fun _ _ => ⟨rfl, e1, (by decide : 1 + 2 ≤ _), (by decide : 0 + 2 ≤ _)⟩)
  dsimp only [Pt.U, Pt.locs, Pt.cells, Pt.slots] at X2 l2 y2 z2 st2 hQ2
  subst l2 y2 z2
  obtain ⟨N2q, hP2⟩ := hQ2
  have N2 := Fr.app N0 N2q
  obtain ⟨b2_b1, b2_b3, rfl, Kp2, g_b2_b1, si_b2_b1, g_b2_b3, si_b2_b3, fp2_0, fp2_1, fp2_2, fp2_3, fp2_4⟩ := hP2
  have f2_0 : Arv Z T2.heap b1 k1 .byte (0 : Int32) [] (.int (0 : Int32)) := (fv1).keep Kp2 nin0
  have f2_1 : Exa Z T2.heap b1 "[B" := (B1).keep Kp2
  have O2 := O1.keep Kp2 all0
  obtain ⟨cq3, kq3, q3a, q3b, q3c⟩ := isOf hZ rfl fp2_0
  obtain ⟨_, _, ⟨T3, L3, k3, n3⟩, -, X3, ⟨Lc3, hQ3, l3, y3, z3⟩, st3⟩ := X2.virtualBack hx (y := (⟨"com/example/keyfold/keyfold/core/Value", "type", "()Lcom/example/keyfold/keyfold/core/ValueType;"⟩ : MethodName)) (z := (⟨"com/example/keyfold/keyfold/core/Value", "type", "()Lcom/example/keyfold/keyfold/core/ValueType;"⟩ : MethodName)) hown (mvT hZ (hw _ (List.mem_of_getElem? (i := 28) rfl))) (mvT hZ (hw _ (List.mem_of_getElem? (i := 29) rfl))) (notFace_of_selects (args := #[]) (mvT hZ (hw _ (List.mem_of_getElem? (i := 31) rfl)))) (mvT hZ (hw _ (List.mem_of_getElem? (i := 31) rfl))) (mvT hZ (hw _ (List.mem_of_getElem? (i := 30) rfl))) (by decide) (backOf (W := 0) (rm4 l Z a0 hw [] W b2_b1 T2.heap n0 O2 fp2_1) hZ (hw _ (List.mem_of_getElem? (i := 32) rfl)) (hw _ (List.mem_of_getElem? (i := 4) rfl)) (by decide) (by decide)) q3a q3c (g := (mkF m 99 #[.val (.int p1), .val (.int p2), .val (.int p3), .val (.int p4), .val (.int p5), .val (.int p6), .val (.int (0 : Int32)), .val (.ref b1), .val (.ref b2_b1), .unset] [(.ref b2_b1)])) rfl (by rw [hml]; rfl) (Steps.refl _) (argsL := []) (rest := []) (lenOf pd_4 rfl) rfl (by show 2 * 0 + _ ≤ _; exact Nat.le_of_eq rfl) (hb hby at_99) (fun _ _ => ⟨rfl, rfl, (by decide : 3 + 0 ≤ _), (by decide : 2 + 0 ≤ _)⟩)
  dsimp only [Pt.U, Pt.locs, Pt.cells, Pt.slots] at X3 l3 y3 z3 st3 hQ3
  subst l3 y3 z3
  obtain ⟨rfl, N3q, e3⟩ := hQ3
  have N3 := Fr.app N2 N3q
  obtain ⟨T4, X4, e4, st4⟩ := getS2 X3 hx hZ hown (host := "") (Or.inl (hw _ (List.mem_of_getElem? (i := 33) rfl))) Via.refl e3 (S_n1.ext O2.2) (g := (mkF m 102 #[.val (.int p1), .val (.int p2), .val (.int p3), .val (.int p4), .val (.int p5), .val (.int p6), .val (.int (0 : Int32)), .val (.ref b1), .val (.ref b2_b1), .unset] [(.ref w_n1)])) rfl (hb hby at_102)
  obtain ⟨cq5, kq5, q5a, q5b, q5c⟩ := isOf hZ e4 fp2_0
  obtain ⟨_, _, ⟨T5, L5, k5, n5⟩, -, X5, ⟨Lc5, hQ5, l5, y5, z5⟩, st5⟩ := X4.virtualBack hx (y := (⟨"com/example/keyfold/keyfold/core/Value", "size", "()I"⟩ : MethodName)) (z := (⟨"com/example/keyfold/keyfold/core/Value", "size", "()I"⟩ : MethodName)) hown (mvT hZ (hw _ (List.mem_of_getElem? (i := 34) rfl))) (mvT hZ (hw _ (List.mem_of_getElem? (i := 35) rfl))) (notFace_of_selects (args := #[]) (mvT hZ (hw _ (List.mem_of_getElem? (i := 37) rfl)))) (mvT hZ (hw _ (List.mem_of_getElem? (i := 37) rfl))) (mvT hZ (hw _ (List.mem_of_getElem? (i := 36) rfl))) (by decide) (backOf (W := 0) (rm7_0 l Z a0 hw [] W b2_b1 b2_b3 k1 T2.heap n0 O2 g_b2_b1 fp2_0 fp2_1 fp2_2 g_b2_b3 fp2_3 fp2_4) hZ (hw _ (List.mem_of_getElem? (i := 38) rfl)) (hw _ (List.mem_of_getElem? (i := 4) rfl)) (by decide) (by decide)) q5a q5c (g := (mkF m 112 #[.val (.int p1), .val (.int p2), .val (.int p3), .val (.int p4), .val (.int p5), .val (.int p6), .val (.int (0 : Int32)), .val (.ref b1), .val (.ref b2_b1), .unset] [(.ref b2_b1)])) rfl (by rw [hml]; rfl) (Steps.refl _) (argsL := []) (rest := []) (lenOf pd_1 rfl) rfl (by show 2 * 0 + _ ≤ _; exact Nat.le_of_eq rfl) (hb hby at_112) (fun _ _ => ⟨rfl, e4, (by decide : 3 + 0 ≤ _), (by decide : 2 + 0 ≤ _)⟩)
  dsimp only [Pt.U, Pt.locs, Pt.cells, Pt.slots] at X5 l5 y5 z5 st5 hQ5
  subst l5 y5 z5
  obtain ⟨rfl, N5q, e5⟩ := hQ5
  have N5 := Fr.app N3 N5q
  obtain ⟨cq6, kq6, q6a, q6b, q6c⟩ := isOf hZ e5 fp2_0
  obtain ⟨_, _, ⟨T6, L6, k6, n6⟩, -, X6, ⟨Lc6, hQ6, l6, y6, z6⟩, st6⟩ := X5.virtualBack hx (y := (⟨"com/example/keyfold/keyfold/core/Value", "asBinary", "()[B"⟩ : MethodName)) (z := (⟨"com/example/keyfold/keyfold/core/Value", "asBinary", "()[B"⟩ : MethodName)) hown (mvT hZ (hw _ (List.mem_of_getElem? (i := 53) rfl))) (mvT hZ (hw _ (List.mem_of_getElem? (i := 54) rfl))) (notFace_of_selects (args := #[]) (mvT hZ (hw _ (List.mem_of_getElem? (i := 56) rfl)))) (mvT hZ (hw _ (List.mem_of_getElem? (i := 56) rfl))) (mvT hZ (hw _ (List.mem_of_getElem? (i := 55) rfl))) (by decide) (backOf (W := 0) (rm5_0 l Z a0 hw [] W b2_b1 b2_b3 k1 T2.heap n0 O2 g_b2_b1 fp2_0 fp2_1 fp2_2 g_b2_b3 fp2_3 fp2_4) hZ (hw _ (List.mem_of_getElem? (i := 57) rfl)) (hw _ (List.mem_of_getElem? (i := 4) rfl)) (by decide) (by decide)) q6a q6c (g := (mkF m 124 #[.val (.int p1), .val (.int p2), .val (.int p3), .val (.int p4), .val (.int p5), .val (.int p6), .val (.int (0 : Int32)), .val (.ref b1), .val (.ref b2_b1), .unset] [(.ref b2_b1)])) rfl (by rw [hml]; rfl) (Steps.refl _) (argsL := []) (rest := []) (lenOf pd_5 rfl) rfl (by show 2 * 0 + _ ≤ _; exact Nat.le_of_eq rfl) (hb hby at_124) (fun _ _ => ⟨rfl, e5, (by decide : 3 + 1 ≤ _), (by decide : 2 + 0 ≤ _)⟩)
  dsimp only [Pt.U, Pt.locs, Pt.cells, Pt.slots] at X6 l6 y6 z6 st6 hQ6
  subst l6 y6 z6
  obtain ⟨N6q, hP6⟩ := hQ6
  have N6 := Fr.app N5 N6q
  obtain ⟨b6_b4, rfl, Kp6, g_b6_b4, si_b6_b4, fp6_0, fp6_1⟩ := hP6
  have f6_0 : Arv Z T6.heap b1 k1 .byte (0 : Int32) [] (.int (0 : Int32)) := (f2_0).keep Kp6 nin0
  have f6_1 : Exa Z T6.heap b1 "[B" := (f2_1).keep Kp6
  have f6_2 : Exa Z T6.heap b2_b1 "com/example/keyfold/keyfold/core/Value" := (fp2_0).keep Kp6
  have f6_3 : Fld Z T6.heap b2_b1 "com/example/keyfold/keyfold/core/Value" "type" "Lcom/example/keyfold/keyfold/core/ValueType;" (.ref w_n1) := (fp2_1).keep Kp6 nin0
  have f6_4 : Fld Z T6.heap b2_b1 "com/example/keyfold/keyfold/core/Value" "content" "Ljava/lang/Object;" (.ref b2_b3) := (fp2_2).keep Kp6 nin0
  have f6_5 : Exa Z T6.heap b2_b3 "[B" := (fp2_3).keep Kp6
  have f6_6 : Arv Z T6.heap b2_b3 k1 .byte (0 : Int32) [] (.int (0 : Int32)) := (fp2_4).keep Kp6 nin0
  have O6 := O2.keep Kp6 all0
  obtain ⟨cl7, Ar7, qk7, Sz7, Nz7, Hs7, Gs7⟩ := id fp6_1
  obtain ⟨fs, hr, hrun, hended, hW, hsame⟩ := X6.leave (v := some (.int (1 : Int32))) (fun h => by rw [Bd.returns] at h; cases h)
  refine ⟨_, _, pre0 _ ?_, hrun, hended, _, _, rfl, ?_, ⟨_, rfl⟩, hW, hsame.mono (by decide) (by decide)⟩
  · show Steps p.tables e below (s₁.setTop (mkF m 0 #[.val (.int p1), .val (.int p2), .val (.int p3), .val (.int p4), .val (.int p5), .val (.int p6), .unset, .unset, .unset, .unset] [])) _
    refine XS.iloadN X0.here hx rfl (hb hby at_0) rfl ?_
    show Steps p.tables e below (s₁.setTop (mkF m 1 #[.val (.int p1), .val (.int p2), .val (.int p3), .val (.int p4), .val (.int p5), .val (.int p6), .unset, .unset, .unset, .unset] [(.int p1)])) _
    refine X0.ldcInt hx hown (mvT hZ (hw _ (List.mem_of_getElem? (i := 0) rfl))) (g := (mkF m 1 #[.val (.int p1), .val (.int p2), .val (.int p3), .val (.int p4), .val (.int p5), .val (.int p6), .unset, .unset, .unset, .unset] [(.int p1)])) rfl (hb hby at_1) _ ?_
    show Steps p.tables e below (s₁.setTop (mkF m 3 #[.val (.int p1), .val (.int p2), .val (.int p3), .val (.int p4), .val (.int p5), .val (.int p6), .unset, .unset, .unset, .unset] [(.int (2147483647 : Int32)), (.int p1)])) _
    refine XS.iand X0.here hx rfl (hb hby at_3) rfl ?_
    show Steps p.tables e below (s₁.setTop (mkF m 4 #[.val (.int p1), .val (.int p2), .val (.int p3), .val (.int p4), .val (.int p5), .val (.int p6), .unset, .unset, .unset, .unset] [(.int (p1 &&& (2147483647 : Int32)))])) _
    refine XS.iconst X0.here hx rfl (hb hby at_4) ?_
    show Steps p.tables e below (s₁.setTop (mkF m 5 #[.val (.int p1), .val (.int p2), .val (.int p3), .val (.int p4), .val (.int p5), .val (.int p6), .unset, .unset, .unset, .unset] [(.int (5 : Int32)), (.int (p1 &&& (2147483647 : Int32)))])) _
    refine iremM X0 hx rfl (hb hby at_5) rfl (by decide) ?_
    show Steps p.tables e below (s₁.setTop (mkF m 6 #[.val (.int p1), .val (.int p2), .val (.int p3), .val (.int p4), .val (.int p5), .val (.int p6), .unset, .unset, .unset, .unset] [(.int ((p1 &&& (2147483647 : Int32)) % (5 : Int32)))])) _
    rw [hk]
    show Steps p.tables e below (s₁.setTop (mkF m 6 #[.val (.int p1), .val (.int p2), .val (.int p3), .val (.int p4), .val (.int p5), .val (.int p6), .unset, .unset, .unset, .unset] [(.int (0 : Int32))])) _
    refine XS.istore X0.here hx rfl (hb hby at_6) rfl (l' := #[.val (.int p1), .val (.int p2), .val (.int p3), .val (.int p4), .val (.int p5), .val (.int p6), .val (.int (0 : Int32)), .unset, .unset, .unset]) rfl ?_
    show Steps p.tables e below (s₁.setTop (mkF m 8 #[.val (.int p1), .val (.int p2), .val (.int p3), .val (.int p4), .val (.int p5), .val (.int p6), .val (.int (0 : Int32)), .unset, .unset, .unset] [])) _
    refine XS.iload X0.here hx rfl (hb hby at_8) rfl ?_
    show Steps p.tables e below (s₁.setTop (mkF m 10 #[.val (.int p1), .val (.int p2), .val (.int p3), .val (.int p4), .val (.int p5), .val (.int p6), .val (.int (0 : Int32)), .unset, .unset, .unset] [(.int (0 : Int32))])) _
    refine st1 _ ?_
    show Steps p.tables e below (T1.setTop (mkF m 12 #[.val (.int p1), .val (.int p2), .val (.int p3), .val (.int p4), .val (.int p5), .val (.int p6), .val (.int (0 : Int32)), .unset, .unset, .unset] [(.ref b1)])) _
    refine XS.astore X1.here hx rfl (hb hby at_12) rfl rfl (l' := #[.val (.int p1), .val (.int p2), .val (.int p3), .val (.int p4), .val (.int p5), .val (.int p6), .val (.int (0 : Int32)), .val (.ref b1), .unset, .unset]) rfl ?_
    show Steps p.tables e below (T1.setTop (mkF m 14 #[.val (.int p1), .val (.int p2), .val (.int p3), .val (.int p4), .val (.int p5), .val (.int p6), .val (.int (0 : Int32)), .val (.ref b1), .unset, .unset] [])) _
    refine XS.iload X1.here hx rfl (hb hby at_14) rfl ?_
    show Steps p.tables e below (T1.setTop (mkF m 16 #[.val (.int p1), .val (.int p2), .val (.int p3), .val (.int p4), .val (.int p5), .val (.int p6), .val (.int (0 : Int32)), .val (.ref b1), .unset, .unset] [(.int (0 : Int32))])) _
    refine XS.ifYes X1.here hx rfl (pc0 := 16) (pc' := 25) rfl (hb hby at_16) rfl ((if0 _ _).trans (flt ((by decide) : ¬ ((0 : Int32) < (0 : Int32)))).2.2.2) (by decide) (by decide) ?_
    show Steps p.tables e below (T1.setTop (mkF m 25 #[.val (.int p1), .val (.int p2), .val (.int p3), .val (.int p4), .val (.int p5), .val (.int p6), .val (.int (0 : Int32)), .val (.ref b1), .unset, .unset] [])) _
    refine XS.iload X1.here hx rfl (hb hby at_25) rfl ?_
    show Steps p.tables e below (T1.setTop (mkF m 27 #[.val (.int p1), .val (.int p2), .val (.int p3), .val (.int p4), .val (.int p5), .val (.int p6), .val (.int (0 : Int32)), .val (.ref b1), .unset, .unset] [(.int (0 : Int32))])) _
    refine XS.iconst X1.here hx rfl (hb hby at_27) ?_
    show Steps p.tables e below (T1.setTop (mkF m 28 #[.val (.int p1), .val (.int p2), .val (.int p3), .val (.int p4), .val (.int p5), .val (.int p6), .val (.int (0 : Int32)), .val (.ref b1), .unset, .unset] [(.int (1 : Int32)), (.int (0 : Int32))])) _
    refine XS.icmpYes X1.here hx rfl (pc0 := 28) (pc' := 37) rfl (hb hby at_28) rfl (flt ((by decide) : ¬ ((1 : Int32) < (0 : Int32)))).2.2.2 (by decide) (by decide) ?_
    show Steps p.tables e below (T1.setTop (mkF m 37 #[.val (.int p1), .val (.int p2), .val (.int p3), .val (.int p4), .val (.int p5), .val (.int p6), .val (.int (0 : Int32)), .val (.ref b1), .unset, .unset] [])) _
    refine XS.iload X1.here hx rfl (hb hby at_37) rfl ?_
    show Steps p.tables e below (T1.setTop (mkF m 39 #[.val (.int p1), .val (.int p2), .val (.int p3), .val (.int p4), .val (.int p5), .val (.int p6), .val (.int (0 : Int32)), .val (.ref b1), .unset, .unset] [(.int (0 : Int32))])) _
    refine XS.iconst X1.here hx rfl (hb hby at_39) ?_
    show Steps p.tables e below (T1.setTop (mkF m 40 #[.val (.int p1), .val (.int p2), .val (.int p3), .val (.int p4), .val (.int p5), .val (.int p6), .val (.int (0 : Int32)), .val (.ref b1), .unset, .unset] [(.int (2 : Int32)), (.int (0 : Int32))])) _
    refine XS.icmpYes X1.here hx rfl (pc0 := 40) (pc' := 49) rfl (hb hby at_40) rfl (flt ((by decide) : ¬ ((2 : Int32) < (0 : Int32)))).2.2.2 (by decide) (by decide) ?_
    show Steps p.tables e below (T1.setTop (mkF m 49 #[.val (.int p1), .val (.int p2), .val (.int p3), .val (.int p4), .val (.int p5), .val (.int p6), .val (.int (0 : Int32)), .val (.ref b1), .unset, .unset] [])) _
    refine XS.iload X1.here hx rfl (hb hby at_49) rfl ?_
    show Steps p.tables e below (T1.setTop (mkF m 51 #[.val (.int p1), .val (.int p2), .val (.int p3), .val (.int p4), .val (.int p5), .val (.int p6), .val (.int (0 : Int32)), .val (.ref b1), .unset, .unset] [(.int (0 : Int32))])) _
    refine XS.iconst X1.here hx rfl (hb hby at_51) ?_
    show Steps p.tables e below (T1.setTop (mkF m 52 #[.val (.int p1), .val (.int p2), .val (.int p3), .val (.int p4), .val (.int p5), .val (.int p6), .val (.int (0 : Int32)), .val (.ref b1), .unset, .unset] [(.int (3 : Int32)), (.int (0 : Int32))])) _
    refine XS.icmpYes X1.here hx rfl (pc0 := 52) (pc' := 62) rfl (hb hby at_52) rfl (flt ((by decide) : ¬ ((3 : Int32) < (0 : Int32)))).2.2.2 (by decide) (by decide) ?_
    show Steps p.tables e below (T1.setTop (mkF m 62 #[.val (.int p1), .val (.int p2), .val (.int p3), .val (.int p4), .val (.int p5), .val (.int p6), .val (.int (0 : Int32)), .val (.ref b1), .unset, .unset] [])) _
    refine XS.aload X1.here hx rfl (hb hby at_62) rfl rfl ?_
    show Steps p.tables e below (T1.setTop (mkF m 64 #[.val (.int p1), .val (.int p2), .val (.int p3), .val (.int p4), .val (.int p5), .val (.int p6), .val (.int (0 : Int32)), .val (.ref b1), .unset, .unset] [(.ref b1)])) _
    refine st2 _ ?_
    show Steps p.tables e below (T2.setTop (mkF m 67 #[.val (.int p1), .val (.int p2), .val (.int p3), .val (.int p4), .val (.int p5), .val (.int p6), .val (.int (0 : Int32)), .val (.ref b1), .unset, .unset] [(.ref b2_b1)])) _
    refine XS.astore X2.here hx rfl (hb hby at_67) rfl rfl (l' := #[.val (.int p1), .val (.int p2), .val (.int p3), .val (.int p4), .val (.int p5), .val (.int p6), .val (.int (0 : Int32)), .val (.ref b1), .val (.ref b2_b1), .unset]) rfl ?_
    show Steps p.tables e below (T2.setTop (mkF m 69 #[.val (.int p1), .val (.int p2), .val (.int p3), .val (.int p4), .val (.int p5), .val (.int p6), .val (.int (0 : Int32)), .val (.ref b1), .val (.ref b2_b1), .unset] [])) _
    refine XS.iload X2.here hx rfl (hb hby at_69) rfl ?_
    show Steps p.tables e below (T2.setTop (mkF m 71 #[.val (.int p1), .val (.int p2), .val (.int p3), .val (.int p4), .val (.int p5), .val (.int p6), .val (.int (0 : Int32)), .val (.ref b1), .val (.ref b2_b1), .unset] [(.int (0 : Int32))])) _
    refine XS.ifYes X2.here hx rfl (pc0 := 71) (pc' := 97) rfl (hb hby at_71) rfl ((if0 _ _).trans (flt ((by decide) : ¬ ((0 : Int32) < (0 : Int32)))).2.2.2) (by decide) (by decide) ?_
    show Steps p.tables e below (T2.setTop (mkF m 97 #[.val (.int p1), .val (.int p2), .val (.int p3), .val (.int p4), .val (.int p5), .val (.int p6), .val (.int (0 : Int32)), .val (.ref b1), .val (.ref b2_b1), .unset] [])) _
    refine XS.aload X2.here hx rfl (hb hby at_97) rfl rfl ?_
    show Steps p.tables e below (T2.setTop (mkF m 99 #[.val (.int p1), .val (.int p2), .val (.int p3), .val (.int p4), .val (.int p5), .val (.int p6), .val (.int (0 : Int32)), .val (.ref b1), .val (.ref b2_b1), .unset] [(.ref b2_b1)])) _
    refine st3.trans ?_
    show Steps p.tables e below (T3.setTop (mkF m 102 #[.val (.int p1), .val (.int p2), .val (.int p3), .val (.int p4), .val (.int p5), .val (.int p6), .val (.int (0 : Int32)), .val (.ref b1), .val (.ref b2_b1), .unset] [(.ref w_n1)])) _
    refine st4 _ ?_
    show Steps p.tables e below (T4.setTop (mkF m 105 #[.val (.int p1), .val (.int p2), .val (.int p3), .val (.int p4), .val (.int p5), .val (.int p6), .val (.int (0 : Int32)), .val (.ref b1), .val (.ref b2_b1), .unset] [(.ref w_n1), (.ref w_n1)])) _
    refine Jvm.RoadKit.acmp (g := (mkF m 105 #[.val (.int p1), .val (.int p2), .val (.int p3), .val (.int p4), .val (.int p5), .val (.int p6), .val (.int (0 : Int32)), .val (.ref b1), .val (.ref b2_b1), .unset] [(.ref w_n1), (.ref w_n1)])) X4 hx rfl rfl rfl (pc0 := 105) (pc' := 110) (same := true) rfl (hb hby at_105) rfl (decide_eq_true rfl) (by decide) (by decide) ?_
    show Steps p.tables e below (T4.setTop (mkF m 110 #[.val (.int p1), .val (.int p2), .val (.int p3), .val (.int p4), .val (.int p5), .val (.int p6), .val (.int (0 : Int32)), .val (.ref b1), .val (.ref b2_b1), .unset] [])) _
    refine XS.aload X4.here hx rfl (hb hby at_110) rfl rfl ?_
    show Steps p.tables e below (T4.setTop (mkF m 112 #[.val (.int p1), .val (.int p2), .val (.int p3), .val (.int p4), .val (.int p5), .val (.int p6), .val (.int (0 : Int32)), .val (.ref b1), .val (.ref b2_b1), .unset] [(.ref b2_b1)])) _
    refine st5.trans ?_
    show Steps p.tables e below (T5.setTop (mkF m 115 #[.val (.int p1), .val (.int p2), .val (.int p3), .val (.int p4), .val (.int p5), .val (.int p6), .val (.int (0 : Int32)), .val (.ref b1), .val (.ref b2_b1), .unset] [(.int (0 : Int32))])) _
    refine XS.iload X5.here hx rfl (hb hby at_115) rfl ?_
    show Steps p.tables e below (T5.setTop (mkF m 117 #[.val (.int p1), .val (.int p2), .val (.int p3), .val (.int p4), .val (.int p5), .val (.int p6), .val (.int (0 : Int32)), .val (.ref b1), .val (.ref b2_b1), .unset] [(.int (0 : Int32)), (.int (0 : Int32))])) _
    refine XS.icmpYes X5.here hx rfl (pc0 := 117) (pc' := 122) rfl (hb hby at_117) rfl (teq ((by decide) : (0 : Int32) = (0 : Int32))).1 (by decide) (by decide) ?_
    show Steps p.tables e below (T5.setTop (mkF m 122 #[.val (.int p1), .val (.int p2), .val (.int p3), .val (.int p4), .val (.int p5), .val (.int p6), .val (.int (0 : Int32)), .val (.ref b1), .val (.ref b2_b1), .unset] [])) _
    refine XS.aload X5.here hx rfl (hb hby at_122) rfl rfl ?_
    show Steps p.tables e below (T5.setTop (mkF m 124 #[.val (.int p1), .val (.int p2), .val (.int p3), .val (.int p4), .val (.int p5), .val (.int p6), .val (.int (0 : Int32)), .val (.ref b1), .val (.ref b2_b1), .unset] [(.ref b2_b1)])) _
    refine st6.trans ?_
    show Steps p.tables e below (T6.setTop (mkF m 127 #[.val (.int p1), .val (.int p2), .val (.int p3), .val (.int p4), .val (.int p5), .val (.int p6), .val (.int (0 : Int32)), .val (.ref b1), .val (.ref b2_b1), .unset] [(.ref b6_b4)])) _
    refine XS.astore X6.here hx rfl (hb hby at_127) rfl rfl (l' := #[.val (.int p1), .val (.int p2), .val (.int p3), .val (.int p4), .val (.int p5), .val (.int p6), .val (.int (0 : Int32)), .val (.ref b1), .val (.ref b2_b1), .val (.ref b6_b4)]) rfl ?_
    show Steps p.tables e below (T6.setTop (mkF m 129 #[.val (.int p1), .val (.int p2), .val (.int p3), .val (.int p4), .val (.int p5), .val (.int p6), .val (.int (0 : Int32)), .val (.ref b1), .val (.ref b2_b1), .val (.ref b6_b4)] [])) _
    refine XS.aload X6.here hx rfl (hb hby at_129) rfl rfl ?_
    show Steps p.tables e below (T6.setTop (mkF m 131 #[.val (.int p1), .val (.int p2), .val (.int p3), .val (.int p4), .val (.int p5), .val (.int p6), .val (.int (0 : Int32)), .val (.ref b1), .val (.ref b2_b1), .val (.ref b6_b4)] [(.ref b6_b4)])) _
    refine X6.arraylength hx Ar7.1 (State.isArrayOf_alike hZ.alike Ar7.2.1) (g := (mkF m 131 #[.val (.int p1), .val (.int p2), .val (.int p3), .val (.int p4), .val (.int p5), .val (.int p6), .val (.int (0 : Int32)), .val (.ref b1), .val (.ref b2_b1), .val (.ref b6_b4)] [(.ref b6_b4)])) rfl rfl (hb hby at_131) _ ?_
    rw [len_of Sz7 Nz7]
    show Steps p.tables e below (T6.setTop (mkF m 132 #[.val (.int p1), .val (.int p2), .val (.int p3), .val (.int p4), .val (.int p5), .val (.int p6), .val (.int (0 : Int32)), .val (.ref b1), .val (.ref b2_b1), .val (.ref b6_b4)] [(.int (0 : Int32))])) _
    refine XS.iload X6.here hx rfl (hb hby at_132) rfl ?_
    show Steps p.tables e below (T6.setTop (mkF m 134 #[.val (.int p1), .val (.int p2), .val (.int p3), .val (.int p4), .val (.int p5), .val (.int p6), .val (.int (0 : Int32)), .val (.ref b1), .val (.ref b2_b1), .val (.ref b6_b4)] [(.int (0 : Int32)), (.int (0 : Int32))])) _
    refine XS.icmpYes X6.here hx rfl (pc0 := 134) (pc' := 139) rfl (hb hby at_134) rfl (teq ((by decide) : (0 : Int32) = (0 : Int32))).1 (by decide) (by decide) ?_
    show Steps p.tables e below (T6.setTop (mkF m 139 #[.val (.int p1), .val (.int p2), .val (.int p3), .val (.int p4), .val (.int p5), .val (.int p6), .val (.int (0 : Int32)), .val (.ref b1), .val (.ref b2_b1), .val (.ref b6_b4)] [])) _
    refine XS.iload X6.here hx rfl (hb hby at_139) rfl ?_
    show Steps p.tables e below (T6.setTop (mkF m 141 #[.val (.int p1), .val (.int p2), .val (.int p3), .val (.int p4), .val (.int p5), .val (.int p6), .val (.int (0 : Int32)), .val (.ref b1), .val (.ref b2_b1), .val (.ref b6_b4)] [(.int (0 : Int32))])) _
    refine XS.ifYes X6.here hx rfl (pc0 := 141) (pc' := 155) rfl (hb hby at_141) rfl ((if0 _ _).trans (flt ((by decide) : ¬ ((0 : Int32) < (0 : Int32)))).2.2.2) (by decide) (by decide) ?_
    show Steps p.tables e below (T6.setTop (mkF m 155 #[.val (.int p1), .val (.int p2), .val (.int p3), .val (.int p4), .val (.int p5), .val (.int p6), .val (.int (0 : Int32)), .val (.ref b1), .val (.ref b2_b1), .val (.ref b6_b4)] [])) _
    refine XS.iload X6.here hx rfl (hb hby at_155) rfl ?_
    show Steps p.tables e below (T6.setTop (mkF m 157 #[.val (.int p1), .val (.int p2), .val (.int p3), .val (.int p4), .val (.int p5), .val (.int p6), .val (.int (0 : Int32)), .val (.ref b1), .val (.ref b2_b1), .val (.ref b6_b4)] [(.int (0 : Int32))])) _
    refine XS.iconst X6.here hx rfl (hb hby at_157) ?_
    show Steps p.tables e below (T6.setTop (mkF m 158 #[.val (.int p1), .val (.int p2), .val (.int p3), .val (.int p4), .val (.int p5), .val (.int p6), .val (.int (0 : Int32)), .val (.ref b1), .val (.ref b2_b1), .val (.ref b6_b4)] [(.int (1 : Int32)), (.int (0 : Int32))])) _
    refine XS.icmpYes X6.here hx rfl (pc0 := 158) (pc' := 172) rfl (hb hby at_158) rfl (flt ((by decide) : ¬ ((1 : Int32) < (0 : Int32)))).2.2.2 (by decide) (by decide) ?_
    show Steps p.tables e below (T6.setTop (mkF m 172 #[.val (.int p1), .val (.int p2), .val (.int p3), .val (.int p4), .val (.int p5), .val (.int p6), .val (.int (0 : Int32)), .val (.ref b1), .val (.ref b2_b1), .val (.ref b6_b4)] [])) _
    refine XS.iload X6.here hx rfl (hb hby at_172) rfl ?_
    show Steps p.tables e below (T6.setTop (mkF m 174 #[.val (.int p1), .val (.int p2), .val (.int p3), .val (.int p4), .val (.int p5), .val (.int p6), .val (.int (0 : Int32)), .val (.ref b1), .val (.ref b2_b1), .val (.ref b6_b4)] [(.int (0 : Int32))])) _
    refine XS.iconst X6.here hx rfl (hb hby at_174) ?_
    show Steps p.tables e below (T6.setTop (mkF m 175 #[.val (.int p1), .val (.int p2), .val (.int p3), .val (.int p4), .val (.int p5), .val (.int p6), .val (.int (0 : Int32)), .val (.ref b1), .val (.ref b2_b1), .val (.ref b6_b4)] [(.int (2 : Int32)), (.int (0 : Int32))])) _
    refine XS.icmpYes X6.here hx rfl (pc0 := 175) (pc' := 189) rfl (hb hby at_175) rfl (flt ((by decide) : ¬ ((2 : Int32) < (0 : Int32)))).2.2.2 (by decide) (by decide) ?_
    show Steps p.tables e below (T6.setTop (mkF m 189 #[.val (.int p1), .val (.int p2), .val (.int p3), .val (.int p4), .val (.int p5), .val (.int p6), .val (.int (0 : Int32)), .val (.ref b1), .val (.ref b2_b1), .val (.ref b6_b4)] [])) _
    refine XS.iload X6.here hx rfl (hb hby at_189) rfl ?_
    show Steps p.tables e below (T6.setTop (mkF m 191 #[.val (.int p1), .val (.int p2), .val (.int p3), .val (.int p4), .val (.int p5), .val (.int p6), .val (.int (0 : Int32)), .val (.ref b1), .val (.ref b2_b1), .val (.ref b6_b4)] [(.int (0 : Int32))])) _
    refine XS.iconst X6.here hx rfl (hb hby at_191) ?_
    show Steps p.tables e below (T6.setTop (mkF m 192 #[.val (.int p1), .val (.int p2), .val (.int p3), .val (.int p4), .val (.int p5), .val (.int p6), .val (.int (0 : Int32)), .val (.ref b1), .val (.ref b2_b1), .val (.ref b6_b4)] [(.int (3 : Int32)), (.int (0 : Int32))])) _
    refine XS.icmpYes X6.here hx rfl (pc0 := 192) (pc' := 207) rfl (hb hby at_192) rfl (flt ((by decide) : ¬ ((3 : Int32) < (0 : Int32)))).2.2.2 (by decide) (by decide) ?_
    show Steps p.tables e below (T6.setTop (mkF m 207 #[.val (.int p1), .val (.int p2), .val (.int p3), .val (.int p4), .val (.int p5), .val (.int p6), .val (.int (0 : Int32)), .val (.ref b1), .val (.ref b2_b1), .val (.ref b6_b4)] [])) _
    refine XS.iconst X6.here hx rfl (hb hby at_207) ?_
    show Steps p.tables e below (T6.setTop (mkF m 208 #[.val (.int p1), .val (.int p2), .val (.int p3), .val (.int p4), .val (.int p5), .val (.int p6), .val (.int (0 : Int32)), .val (.ref b1), .val (.ref b2_b1), .val (.ref b6_b4)] [(.int (1 : Int32))])) _
    exact retN X6 hx (t := .boolean) Bd.returns (by simp) (hb hby at_208) hr
  · show Q0 n0 _ T6.heap _
    exact ⟨rfl, N6⟩
set_option maxRecDepth 65536 in
set_option maxHeartbeats 40000000 in
theorem rm0_10 (l : Launch) (Z : State) (a0 : Array Value) (hw : ∀ d ∈ tables_1, d.before a0 Z = true) (ws : List Jvm.Cond) {w_n1 : Addr} {w_n0 : Addr} {k_n0 : ClassId} (W : Wd Z w_n1 w_n0 k_n0) (p1 : Int32) (p2 : Int32) (p3 : Int32) (p4 : Int32) (p5 : Int32) (p6 : Int32) (h0 : Heap) (n0 : Nat) (O0 : Old Z n0 h0) (hk : ((p1 &&& (2147483647 : Int32)) % (5 : Int32)) = (1 : Int32)) (hi : ((p6 &&& (2147483647 : Int32)) % (1 : Int32)) = (0 : Int32)) :
    MetFree l x (head1 (Jvm.Cond.code x code maxLocals ret :: ws) room_1) (fun a U => a = #[(.int p1), (.int p2), (.int p3), (.int p4), (.int p5), (.int p6)] ∧ Z.Warmed39 U.vm ∧ U.heap = h0) (fun _ _ _ _ _ => True) (fun _ U o U' => ∃ v L, o = .returned v ∧ Q0 n0 v U'.heap L ∧ FrameEnd U o U' L room_1.cells room_1.slots) := by
  have W' := W; obtain ⟨S_n1, E_n1, S_n0, F_n1_ordinal, V_n0⟩ := W'
  refine MetFree.of_bodySF (plainFor_of_name pn_0) hisR ?_
  intro p e s m args below meth c s₁ Bd hml0 hP hK
  obtain ⟨rfl, hZ, hh⟩ := hP
  have hx := Bd.exec
  have hby := Bd.bytes
  have hml : c.maxLocals = 10 := hml0
  have hown : s.vm.findClass "com/example/keyfold/keyfold/core/ValueOfBinary193PinLaw" = some m.cls := findClass_of_methodNamed Bd.named
  have hnm := (name_of_methodNamed Bd.named Bd.method).1
  have X0 : Stand p l e room_1 s m #[(.int p1), (.int p2), (.int p3), (.int p4), (.int p5), (.int p6)] below meth c s₁ [] 0 0 := Stand.of_body Bd
  have e0 : s₁.heap = h0 := by rw [← hh, Bd.state]; rfl
  have N0 := Fr.nil n0
  have pre0 : ∀ t, Steps p.tables e below (s₁.setTop (mkF m 0 #[.val (.int p1), .val (.int p2), .val (.int p3), .val (.int p4), .val (.int p5), .val (.int p6), .unset, .unset, .unset, .unset] [])) t → Steps p.tables e below (s₁.setTop (entryFrame m #[(.int p1), (.int p2), (.int p3), (.int p4), (.int p5), (.int p6)] maxLocals)) t := fun t k => castTop (ef_0_7 m p1 p2 p3 p4 p5 p6) k
  obtain ⟨T1, h1, k1, X1, e1, E1, A1, B1, st1⟩ := newPE X0 hx hZ (hw _ (List.mem_of_getElem? (i := 1) rfl)) e0 (g := (mkF m 10 #[.val (.int p1), .val (.int p2), .val (.int p3), .val (.int p4), .val (.int p5), .val (.int p6), .val (.int (1 : Int32)), .unset, .unset, .unset] [(.int (1 : Int32))])) rfl (hb hby at_10) rfl (by decide) (cap := 1) (by decide) (by decide) (by decide) (by decide) (ad := "[B") (by decide)
  obtain ⟨b1, g1⟩ : ∃ z, z = h0.size := ⟨_, rfl⟩
  rw [← g1] at A1 B1 st1
  have g_b1 : n0 ≤ b1 := by rw [g1]; exact O0.1 ▸ O0.2.1
  have O1 := O0.ext E1
  have fv1 : Arv Z h1 b1 k1 .byte (1 : Int32) [(.int (0 : Int32))] (.int (0 : Int32)) := (Arv.new A1 (by decide)).pad (pad_rep [] (.int (0 : Int32)) 1)
  obtain ⟨cl2, Ar2, qk2, Sz2, Nz2, Hs2, Gs2⟩ := id fv1
  have hin2 : ¬ ((0 : Int32) < 0 ∨ cl2.slots.size ≤ ((0 : Int32)).toNatClampNeg) := inb_of Sz2 ⟨by decide, by decide⟩
  obtain ⟨T3, h3, X3, e3, W3, st3⟩ := stB X1 hx hZ e1 Ar2 (j := (0 : Int32)) hin2  (g := (mkF m 24 #[.val (.int p1), .val (.int p2), .val (.int p3), .val (.int p4), .val (.int p5), .val (.int p6), .val (.int (1 : Int32)), .val (.ref b1), .unset, .unset] [(.int (p2.toInt8.toInt32)), (.int (0 : Int32)), (.ref b1)])) rfl rfl (hb hby at_24)
  rw [show nar .byte (p2.toInt8.toInt32) = (p2.toInt8.toInt32) from own_byte _] at W3
  have fw3 : Arv Z h3 b1 k1 .byte (1 : Int32) [(.int (p2.toInt8.toInt32))] (.int (0 : Int32)) := Arv.set Ar2 qk2 Sz2 Nz2 Hs2 Gs2 (fits_nar_byte _) W3 0 rfl (Nat.le_of_ble_eq_true rfl)
  have f3_0 : Exa Z h3 b1 "[B" := (B1).wr W3
  have O3 := O1.wr W3 g_b1
  have N3 := Fr.snoc X3 N0 g_b1
  obtain ⟨_, _, ⟨T4, L4, k4, n4⟩, -, X4, ⟨Lc4, hQ4, l4, y4, z4⟩, st4⟩ := Jvm.LawKit.callS X3 hx (y := (⟨"com/example/keyfold/keyfold/core/Value", "ofBinary", "([B)Lcom/example/keyfold/keyfold/core/Value;"⟩ : MethodName)) hown (mvT hZ (hw _ (List.mem_of_getElem? (i := 2) rfl))) (mvT hZ (hw _ (List.mem_of_getElem? (i := 3) rfl))) (mvT hZ (hw _ (List.mem_of_getElem? (i := 4) rfl))) (mvT hZ (hw _ (List.mem_of_getElem? (i := 5) rfl))) (by decide) (backOf (W := 0) (rm1_1 l Z a0 hw [] W b1 k1 (p2.toInt8.toInt32) h3 n0 O3 g_b1 f3_0 fw3) hZ (hw _ (List.mem_of_getElem? (i := 5) rfl)) (hw _ (List.mem_of_getElem? (i := 4) rfl)) (by decide) (by decide)) (g := (mkF m 64 #[.val (.int p1), .val (.int p2), .val (.int p3), .val (.int p4), .val (.int p5), .val (.int p6), .val (.int (1 : Int32)), .val (.ref b1), .unset, .unset] [(.ref b1)])) rfl (by rw [hml]; rfl) (argsL := [(.ref b1)]) (rest := []) (lenOf pd_3 rfl) rfl (by show 2 * 0 + _ ≤ _; exact Nat.le_of_eq rfl) (hb hby at_64) (fun _ _ => ⟨rfl, e3, (by decide : 1 + 2 ≤ _), (by decide : 1 + 3 ≤ _)⟩)
  dsimp only [Pt.U, Pt.locs, Pt.cells, Pt.slots] at X4 l4 y4 z4 st4 hQ4
  subst l4 y4 z4
  obtain ⟨N4q, hP4⟩ := hQ4
  have N4 := Fr.app N3 N4q
  obtain ⟨b4_b1, b4_b3, rfl, Kp4, g_b4_b1, si_b4_b1, g_b4_b3, si_b4_b3, fp4_0, fp4_1, fp4_2, fp4_3, fp4_4⟩ := hP4
  have f4_0 : Exa Z T4.heap b1 "[B" := (f3_0).keep Kp4
  have f4_1 : Arv Z T4.heap b1 k1 .byte (1 : Int32) [(.int (p2.toInt8.toInt32))] (.int (0 : Int32)) := (fw3).keep Kp4 nin0
  have O4 := O3.keep Kp4 all0
  obtain ⟨cl5, Ar5, qk5, Sz5, Nz5, Hs5, Gs5⟩ := id f4_1
  have hin5 : ¬ ((0 : Int32) < 0 ∨ cl5.slots.size ≤ ((0 : Int32)).toNatClampNeg) := inb_of Sz5 ⟨by decide, by decide⟩
  have hat5 : cl5.slots[((0 : Int32)).toNatClampNeg]? = some (.int (p2.toInt8.toInt32)) := Has.at Hs5 hin5 rfl
  obtain ⟨cl6, Ar6, qk6, Sz6, Nz6, Hs6, Gs6⟩ := id f4_1
  have hin6 : ¬ ((0 : Int32) < 0 ∨ cl6.slots.size ≤ ((0 : Int32)).toNatClampNeg) := inb_of Sz6 ⟨by decide, by decide⟩
  obtain ⟨T7, h7, X7, e7, W7, st7⟩ := stB X4 hx hZ rfl Ar6 (j := (0 : Int32)) hin6  (g := (mkF m 96 #[.val (.int p1), .val (.int p2), .val (.int p3), .val (.int p4), .val (.int p5), .val (.int p6), .val (.int (1 : Int32)), .val (.ref b1), .val (.ref b4_b1), .val (.int (0 : Int32))] [(.int (((p2.toInt8.toInt32) ^^^ (-1 : Int32)).toInt8.toInt32)), (.int (0 : Int32)), (.ref b1)])) rfl rfl (hb hby at_96)
  rw [show nar .byte (((p2.toInt8.toInt32) ^^^ (-1 : Int32)).toInt8.toInt32) = (((p2.toInt8.toInt32) ^^^ (-1 : Int32)).toInt8.toInt32) from own_byte _] at W7
  have fw7 : Arv Z h7 b1 k1 .byte (1 : Int32) [(.int (((p2.toInt8.toInt32) ^^^ (-1 : Int32)).toInt8.toInt32))] (.int (0 : Int32)) := Arv.set Ar6 qk6 Sz6 Nz6 Hs6 Gs6 (fits_nar_byte _) W7 0 rfl (Nat.le_of_ble_eq_true rfl)
  have f7_0 : Exa Z h7 b1 "[B" := (f4_0).wr W7
  have f7_1 : Exa Z h7 b4_b1 "com/example/keyfold/keyfold/core/Value" := (fp4_0).wr W7
  have f7_2 : Fld Z h7 b4_b1 "com/example/keyfold/keyfold/core/Value" "type" "Lcom/example/keyfold/keyfold/core/ValueType;" (.ref w_n1) := (fp4_1).other W7 (Or.inl (ne_exa fp4_0 f4_0 (by decide)))
  have f7_3 : Fld Z h7 b4_b1 "com/example/keyfold/keyfold/core/Value" "content" "Ljava/lang/Object;" (.ref b4_b3) := (fp4_2).other W7 (Or.inl (ne_exa fp4_0 f4_0 (by decide)))
  have f7_4 : Exa Z h7 b4_b3 "[B" := (fp4_3).wr W7
  have f7_5 : Arv Z h7 b4_b3 k1 .byte (1 : Int32) [(.int (p2.toInt8.toInt32))] (.int (0 : Int32)) := (fp4_4).other W7 (Ne.symm (Nat.ne_of_lt (Nat.lt_of_lt_of_le (f3_0).lt si_b4_b3)))
  have O7 := O4.wr W7 g_b1
  have N7 := Fr.snoc X7 N4 g_b1
  obtain ⟨cq8, kq8, q8a, q8b, q8c⟩ := isOf hZ e7 f7_1
  obtain ⟨_, _, ⟨T8, L8, k8, n8⟩, -, X8, ⟨Lc8, hQ8, l8, y8, z8⟩, st8⟩ := X7.virtualBack hx (y := (⟨"com/example/keyfold/keyfold/core/Value", "type", "()Lcom/example/keyfold/keyfold/core/ValueType;"⟩ : MethodName)) (z := (⟨"com/example/keyfold/keyfold/core/Value", "type", "()Lcom/example/keyfold/keyfold/core/ValueType;"⟩ : MethodName)) hown (mvT hZ (hw _ (List.mem_of_getElem? (i := 28) rfl))) (mvT hZ (hw _ (List.mem_of_getElem? (i := 29) rfl))) (notFace_of_selects (args := #[]) (mvT hZ (hw _ (List.mem_of_getElem? (i := 31) rfl)))) (mvT hZ (hw _ (List.mem_of_getElem? (i := 31) rfl))) (mvT hZ (hw _ (List.mem_of_getElem? (i := 30) rfl))) (by decide) (backOf (W := 0) (rm4 l Z a0 hw [] W b4_b1 h7 n0 O7 f7_2) hZ (hw _ (List.mem_of_getElem? (i := 32) rfl)) (hw _ (List.mem_of_getElem? (i := 4) rfl)) (by decide) (by decide)) q8a q8c (g := (mkF m 99 #[.val (.int p1), .val (.int p2), .val (.int p3), .val (.int p4), .val (.int p5), .val (.int p6), .val (.int (1 : Int32)), .val (.ref b1), .val (.ref b4_b1), .val (.int (0 : Int32))] [(.ref b4_b1)])) rfl (by rw [hml]; rfl) (Steps.refl _) (argsL := []) (rest := []) (lenOf pd_4 rfl) rfl (by show 2 * 0 + _ ≤ _; exact Nat.le_of_eq rfl) (hb hby at_99) (fun _ _ => ⟨rfl, e7, (by decide : 3 + 0 ≤ _), (by decide : 4 + 0 ≤ _)⟩)
  dsimp only [Pt.U, Pt.locs, Pt.cells, Pt.slots] at X8 l8 y8 z8 st8 hQ8
  subst l8 y8 z8
  obtain ⟨rfl, N8q, e8⟩ := hQ8
  have N8 := Fr.app N7 N8q
  obtain ⟨T9, X9, e9, st9⟩ := getS2 X8 hx hZ hown (host := "") (Or.inl (hw _ (List.mem_of_getElem? (i := 33) rfl))) Via.refl e8 (S_n1.ext O7.2) (g := (mkF m 102 #[.val (.int p1), .val (.int p2), .val (.int p3), .val (.int p4), .val (.int p5), .val (.int p6), .val (.int (1 : Int32)), .val (.ref b1), .val (.ref b4_b1), .val (.int (0 : Int32))] [(.ref w_n1)])) rfl (hb hby at_102)
  obtain ⟨cq10, kq10, q10a, q10b, q10c⟩ := isOf hZ e9 f7_1
  obtain ⟨_, _, ⟨T10, L10, k10, n10⟩, -, X10, ⟨Lc10, hQ10, l10, y10, z10⟩, st10⟩ := X9.virtualBack hx (y := (⟨"com/example/keyfold/keyfold/core/Value", "size", "()I"⟩ : MethodName)) (z := (⟨"com/example/keyfold/keyfold/core/Value", "size", "()I"⟩ : MethodName)) hown (mvT hZ (hw _ (List.mem_of_getElem? (i := 34) rfl))) (mvT hZ (hw _ (List.mem_of_getElem? (i := 35) rfl))) (notFace_of_selects (args := #[]) (mvT hZ (hw _ (List.mem_of_getElem? (i := 37) rfl)))) (mvT hZ (hw _ (List.mem_of_getElem? (i := 37) rfl))) (mvT hZ (hw _ (List.mem_of_getElem? (i := 36) rfl))) (by decide) (backOf (W := 0) (rm7_1 l Z a0 hw [] W b4_b1 b4_b3 k1 (p2.toInt8.toInt32) h7 n0 O7 g_b4_b1 f7_1 f7_2 f7_3 g_b4_b3 f7_4 f7_5) hZ (hw _ (List.mem_of_getElem? (i := 38) rfl)) (hw _ (List.mem_of_getElem? (i := 4) rfl)) (by decide) (by decide)) q10a q10c (g := (mkF m 112 #[.val (.int p1), .val (.int p2), .val (.int p3), .val (.int p4), .val (.int p5), .val (.int p6), .val (.int (1 : Int32)), .val (.ref b1), .val (.ref b4_b1), .val (.int (0 : Int32))] [(.ref b4_b1)])) rfl (by rw [hml]; rfl) (Steps.refl _) (argsL := []) (rest := []) (lenOf pd_1 rfl) rfl (by show 2 * 0 + _ ≤ _; exact Nat.le_of_eq rfl) (hb hby at_112) (fun _ _ => ⟨rfl, e9, (by decide : 3 + 0 ≤ _), (by decide : 4 + 0 ≤ _)⟩)
  dsimp only [Pt.U, Pt.locs, Pt.cells, Pt.slots] at X10 l10 y10 z10 st10 hQ10
  subst l10 y10 z10
  obtain ⟨rfl, N10q, e10⟩ := hQ10
  have N10 := Fr.app N8 N10q
  obtain ⟨cq11, kq11, q11a, q11b, q11c⟩ := isOf hZ e10 f7_1
  obtain ⟨_, _, ⟨T11, L11, k11, n11⟩, -, X11, ⟨Lc11, hQ11, l11, y11, z11⟩, st11⟩ := X10.virtualBack hx (y := (⟨"com/example/keyfold/keyfold/core/Value", "asBinary", "()[B"⟩ : MethodName)) (z := (⟨"com/example/keyfold/keyfold/core/Value", "asBinary", "()[B"⟩ : MethodName)) hown (mvT hZ (hw _ (List.mem_of_getElem? (i := 53) rfl))) (mvT hZ (hw _ (List.mem_of_getElem? (i := 54) rfl))) (notFace_of_selects (args := #[]) (mvT hZ (hw _ (List.mem_of_getElem? (i := 56) rfl)))) (mvT hZ (hw _ (List.mem_of_getElem? (i := 56) rfl))) (mvT hZ (hw _ (List.mem_of_getElem? (i := 55) rfl))) (by decide) (backOf (W := 0) (rm5_1 l Z a0 hw [] W b4_b1 b4_b3 k1 (p2.toInt8.toInt32) h7 n0 O7 g_b4_b1 f7_1 f7_2 f7_3 g_b4_b3 f7_4 f7_5) hZ (hw _ (List.mem_of_getElem? (i := 57) rfl)) (hw _ (List.mem_of_getElem? (i := 4) rfl)) (by decide) (by decide)) q11a q11c (g := (mkF m 124 #[.val (.int p1), .val (.int p2), .val (.int p3), .val (.int p4), .val (.int p5), .val (.int p6), .val (.int (1 : Int32)), .val (.ref b1), .val (.ref b4_b1), .val (.int (0 : Int32))] [(.ref b4_b1)])) rfl (by rw [hml]; rfl) (Steps.refl _) (argsL := []) (rest := []) (lenOf pd_5 rfl) rfl (by show 2 * 0 + _ ≤ _; exact Nat.le_of_eq rfl) (hb hby at_124) (fun _ _ => ⟨rfl, e10, (by decide : 3 + 1 ≤ _), (by decide : 4 + 1 ≤ _)⟩)
  dsimp only [Pt.U, Pt.locs, Pt.cells, Pt.slots] at X11 l11 y11 z11 st11 hQ11
  subst l11 y11 z11
  obtain ⟨N11q, hP11⟩ := hQ11
  have N11 := Fr.app N10 N11q
  obtain ⟨b11_b4, rfl, Kp11, g_b11_b4, si_b11_b4, fp11_0, fp11_1⟩ := hP11
  have f11_0 : Exa Z T11.heap b1 "[B" := (f7_0).keep Kp11
  have f11_1 : Exa Z T11.heap b4_b1 "com/example/keyfold/keyfold/core/Value" := (f7_1).keep Kp11
  have f11_2 : Fld Z T11.heap b4_b1 "com/example/keyfold/keyfold/core/Value" "type" "Lcom/example/keyfold/keyfold/core/ValueType;" (.ref w_n1) := (f7_2).keep Kp11 nin0
  have f11_3 : Fld Z T11.heap b4_b1 "com/example/keyfold/keyfold/core/Value" "content" "Ljava/lang/Object;" (.ref b4_b3) := (f7_3).keep Kp11 nin0
  have f11_4 : Exa Z T11.heap b4_b3 "[B" := (f7_4).keep Kp11
  have f11_5 : Arv Z T11.heap b4_b3 k1 .byte (1 : Int32) [(.int (p2.toInt8.toInt32))] (.int (0 : Int32)) := (f7_5).keep Kp11 nin0
  have f11_6 : Arv Z T11.heap b1 k1 .byte (1 : Int32) [(.int (((p2.toInt8.toInt32) ^^^ (-1 : Int32)).toInt8.toInt32))] (.int (0 : Int32)) := (fw7).keep Kp11 nin0
  have O11 := O7.keep Kp11 all0
  obtain ⟨cl12, Ar12, qk12, Sz12, Nz12, Hs12, Gs12⟩ := id fp11_1
  obtain ⟨cl13, Ar13, qk13, Sz13, Nz13, Hs13, Gs13⟩ := id fp11_1
  have hin13 : ¬ ((0 : Int32) < 0 ∨ cl13.slots.size ≤ ((0 : Int32)).toNatClampNeg) := inb_of Sz13 ⟨by decide, by decide⟩
  have hat13 : cl13.slots[((0 : Int32)).toNatClampNeg]? = some (.int (p2.toInt8.toInt32)) := Has.at Hs13 hin13 rfl
  obtain ⟨fs, hr, hrun, hended, hW, hsame⟩ := X11.leave (v := some (.int (1 : Int32))) (fun h => by rw [Bd.returns] at h; cases h)
  refine ⟨_, _, pre0 _ ?_, hrun, hended, _, _, rfl, ?_, ⟨_, rfl⟩, hW, hsame.mono (by decide) (by decide)⟩
  · show Steps p.tables e below (s₁.setTop (mkF m 0 #[.val (.int p1), .val (.int p2), .val (.int p3), .val (.int p4), .val (.int p5), .val (.int p6), .unset, .unset, .unset, .unset] [])) _
    refine XS.iloadN X0.here hx rfl (hb hby at_0) rfl ?_
    show Steps p.tables e below (s₁.setTop (mkF m 1 #[.val (.int p1), .val (.int p2), .val (.int p3), .val (.int p4), .val (.int p5), .val (.int p6), .unset, .unset, .unset, .unset] [(.int p1)])) _
    refine X0.ldcInt hx hown (mvT hZ (hw _ (List.mem_of_getElem? (i := 0) rfl))) (g := (mkF m 1 #[.val (.int p1), .val (.int p2), .val (.int p3), .val (.int p4), .val (.int p5), .val (.int p6), .unset, .unset, .unset, .unset] [(.int p1)])) rfl (hb hby at_1) _ ?_
    show Steps p.tables e below (s₁.setTop (mkF m 3 #[.val (.int p1), .val (.int p2), .val (.int p3), .val (.int p4), .val (.int p5), .val (.int p6), .unset, .unset, .unset, .unset] [(.int (2147483647 : Int32)), (.int p1)])) _
    refine XS.iand X0.here hx rfl (hb hby at_3) rfl ?_
    show Steps p.tables e below (s₁.setTop (mkF m 4 #[.val (.int p1), .val (.int p2), .val (.int p3), .val (.int p4), .val (.int p5), .val (.int p6), .unset, .unset, .unset, .unset] [(.int (p1 &&& (2147483647 : Int32)))])) _
    refine XS.iconst X0.here hx rfl (hb hby at_4) ?_
    show Steps p.tables e below (s₁.setTop (mkF m 5 #[.val (.int p1), .val (.int p2), .val (.int p3), .val (.int p4), .val (.int p5), .val (.int p6), .unset, .unset, .unset, .unset] [(.int (5 : Int32)), (.int (p1 &&& (2147483647 : Int32)))])) _
    refine iremM X0 hx rfl (hb hby at_5) rfl (by decide) ?_
    show Steps p.tables e below (s₁.setTop (mkF m 6 #[.val (.int p1), .val (.int p2), .val (.int p3), .val (.int p4), .val (.int p5), .val (.int p6), .unset, .unset, .unset, .unset] [(.int ((p1 &&& (2147483647 : Int32)) % (5 : Int32)))])) _
    rw [hk]
    show Steps p.tables e below (s₁.setTop (mkF m 6 #[.val (.int p1), .val (.int p2), .val (.int p3), .val (.int p4), .val (.int p5), .val (.int p6), .unset, .unset, .unset, .unset] [(.int (1 : Int32))])) _
    refine XS.istore X0.here hx rfl (hb hby at_6) rfl (l' := #[.val (.int p1), .val (.int p2), .val (.int p3), .val (.int p4), .val (.int p5), .val (.int p6), .val (.int (1 : Int32)), .unset, .unset, .unset]) rfl ?_
    show Steps p.tables e below (s₁.setTop (mkF m 8 #[.val (.int p1), .val (.int p2), .val (.int p3), .val (.int p4), .val (.int p5), .val (.int p6), .val (.int (1 : Int32)), .unset, .unset, .unset] [])) _
    refine XS.iload X0.here hx rfl (hb hby at_8) rfl ?_
    show Steps p.tables e below (s₁.setTop (mkF m 10 #[.val (.int p1), .val (.int p2), .val (.int p3), .val (.int p4), .val (.int p5), .val (.int p6), .val (.int (1 : Int32)), .unset, .unset, .unset] [(.int (1 : Int32))])) _
    refine st1 _ ?_
    show Steps p.tables e below (T1.setTop (mkF m 12 #[.val (.int p1), .val (.int p2), .val (.int p3), .val (.int p4), .val (.int p5), .val (.int p6), .val (.int (1 : Int32)), .unset, .unset, .unset] [(.ref b1)])) _
    refine XS.astore X1.here hx rfl (hb hby at_12) rfl rfl (l' := #[.val (.int p1), .val (.int p2), .val (.int p3), .val (.int p4), .val (.int p5), .val (.int p6), .val (.int (1 : Int32)), .val (.ref b1), .unset, .unset]) rfl ?_
    show Steps p.tables e below (T1.setTop (mkF m 14 #[.val (.int p1), .val (.int p2), .val (.int p3), .val (.int p4), .val (.int p5), .val (.int p6), .val (.int (1 : Int32)), .val (.ref b1), .unset, .unset] [])) _
    refine XS.iload X1.here hx rfl (hb hby at_14) rfl ?_
    show Steps p.tables e below (T1.setTop (mkF m 16 #[.val (.int p1), .val (.int p2), .val (.int p3), .val (.int p4), .val (.int p5), .val (.int p6), .val (.int (1 : Int32)), .val (.ref b1), .unset, .unset] [(.int (1 : Int32))])) _
    refine XS.ifNo X1.here hx rfl (hb hby at_16) rfl ((if0 _ _).trans (tlt ((by decide) : (0 : Int32) < (1 : Int32))).2.2.2) ?_
    show Steps p.tables e below (T1.setTop (mkF m 19 #[.val (.int p1), .val (.int p2), .val (.int p3), .val (.int p4), .val (.int p5), .val (.int p6), .val (.int (1 : Int32)), .val (.ref b1), .unset, .unset] [])) _
    refine XS.aload X1.here hx rfl (hb hby at_19) rfl rfl ?_
    show Steps p.tables e below (T1.setTop (mkF m 21 #[.val (.int p1), .val (.int p2), .val (.int p3), .val (.int p4), .val (.int p5), .val (.int p6), .val (.int (1 : Int32)), .val (.ref b1), .unset, .unset] [(.ref b1)])) _
    refine XS.iconst X1.here hx rfl (hb hby at_21) ?_
    show Steps p.tables e below (T1.setTop (mkF m 22 #[.val (.int p1), .val (.int p2), .val (.int p3), .val (.int p4), .val (.int p5), .val (.int p6), .val (.int (1 : Int32)), .val (.ref b1), .unset, .unset] [(.int (0 : Int32)), (.ref b1)])) _
    refine XS.iloadN X1.here hx rfl (hb hby at_22) rfl ?_
    show Steps p.tables e below (T1.setTop (mkF m 23 #[.val (.int p1), .val (.int p2), .val (.int p3), .val (.int p4), .val (.int p5), .val (.int p6), .val (.int (1 : Int32)), .val (.ref b1), .unset, .unset] [(.int p2), (.int (0 : Int32)), (.ref b1)])) _
    refine XS.i2b X1.here hx rfl (hb hby at_23) rfl ?_
    show Steps p.tables e below (T1.setTop (mkF m 24 #[.val (.int p1), .val (.int p2), .val (.int p3), .val (.int p4), .val (.int p5), .val (.int p6), .val (.int (1 : Int32)), .val (.ref b1), .unset, .unset] [(.int (p2.toInt8.toInt32)), (.int (0 : Int32)), (.ref b1)])) _
    refine st3 _ ?_
    show Steps p.tables e below (T3.setTop (mkF m 25 #[.val (.int p1), .val (.int p2), .val (.int p3), .val (.int p4), .val (.int p5), .val (.int p6), .val (.int (1 : Int32)), .val (.ref b1), .unset, .unset] [])) _
    refine XS.iload X3.here hx rfl (hb hby at_25) rfl ?_
    show Steps p.tables e below (T3.setTop (mkF m 27 #[.val (.int p1), .val (.int p2), .val (.int p3), .val (.int p4), .val (.int p5), .val (.int p6), .val (.int (1 : Int32)), .val (.ref b1), .unset, .unset] [(.int (1 : Int32))])) _
    refine XS.iconst X3.here hx rfl (hb hby at_27) ?_
    show Steps p.tables e below (T3.setTop (mkF m 28 #[.val (.int p1), .val (.int p2), .val (.int p3), .val (.int p4), .val (.int p5), .val (.int p6), .val (.int (1 : Int32)), .val (.ref b1), .unset, .unset] [(.int (1 : Int32)), (.int (1 : Int32))])) _
    refine XS.icmpYes X3.here hx rfl (pc0 := 28) (pc' := 37) rfl (hb hby at_28) rfl (flt ((by decide) : ¬ ((1 : Int32) < (1 : Int32)))).2.2.2 (by decide) (by decide) ?_
    show Steps p.tables e below (T3.setTop (mkF m 37 #[.val (.int p1), .val (.int p2), .val (.int p3), .val (.int p4), .val (.int p5), .val (.int p6), .val (.int (1 : Int32)), .val (.ref b1), .unset, .unset] [])) _
    refine XS.iload X3.here hx rfl (hb hby at_37) rfl ?_
    show Steps p.tables e below (T3.setTop (mkF m 39 #[.val (.int p1), .val (.int p2), .val (.int p3), .val (.int p4), .val (.int p5), .val (.int p6), .val (.int (1 : Int32)), .val (.ref b1), .unset, .unset] [(.int (1 : Int32))])) _
    refine XS.iconst X3.here hx rfl (hb hby at_39) ?_
    show Steps p.tables e below (T3.setTop (mkF m 40 #[.val (.int p1), .val (.int p2), .val (.int p3), .val (.int p4), .val (.int p5), .val (.int p6), .val (.int (1 : Int32)), .val (.ref b1), .unset, .unset] [(.int (2 : Int32)), (.int (1 : Int32))])) _
    refine XS.icmpYes X3.here hx rfl (pc0 := 40) (pc' := 49) rfl (hb hby at_40) rfl (flt ((by decide) : ¬ ((2 : Int32) < (1 : Int32)))).2.2.2 (by decide) (by decide) ?_
    show Steps p.tables e below (T3.setTop (mkF m 49 #[.val (.int p1), .val (.int p2), .val (.int p3), .val (.int p4), .val (.int p5), .val (.int p6), .val (.int (1 : Int32)), .val (.ref b1), .unset, .unset] [])) _
    refine XS.iload X3.here hx rfl (hb hby at_49) rfl ?_
    show Steps p.tables e below (T3.setTop (mkF m 51 #[.val (.int p1), .val (.int p2), .val (.int p3), .val (.int p4), .val (.int p5), .val (.int p6), .val (.int (1 : Int32)), .val (.ref b1), .unset, .unset] [(.int (1 : Int32))])) _
    refine XS.iconst X3.here hx rfl (hb hby at_51) ?_
    show Steps p.tables e below (T3.setTop (mkF m 52 #[.val (.int p1), .val (.int p2), .val (.int p3), .val (.int p4), .val (.int p5), .val (.int p6), .val (.int (1 : Int32)), .val (.ref b1), .unset, .unset] [(.int (3 : Int32)), (.int (1 : Int32))])) _
    refine XS.icmpYes X3.here hx rfl (pc0 := 52) (pc' := 62) rfl (hb hby at_52) rfl (flt ((by decide) : ¬ ((3 : Int32) < (1 : Int32)))).2.2.2 (by decide) (by decide) ?_
    show Steps p.tables e below (T3.setTop (mkF m 62 #[.val (.int p1), .val (.int p2), .val (.int p3), .val (.int p4), .val (.int p5), .val (.int p6), .val (.int (1 : Int32)), .val (.ref b1), .unset, .unset] [])) _
    refine XS.aload X3.here hx rfl (hb hby at_62) rfl rfl ?_
    show Steps p.tables e below (T3.setTop (mkF m 64 #[.val (.int p1), .val (.int p2), .val (.int p3), .val (.int p4), .val (.int p5), .val (.int p6), .val (.int (1 : Int32)), .val (.ref b1), .unset, .unset] [(.ref b1)])) _
    refine st4 _ ?_
    show Steps p.tables e below (T4.setTop (mkF m 67 #[.val (.int p1), .val (.int p2), .val (.int p3), .val (.int p4), .val (.int p5), .val (.int p6), .val (.int (1 : Int32)), .val (.ref b1), .unset, .unset] [(.ref b4_b1)])) _
    refine XS.astore X4.here hx rfl (hb hby at_67) rfl rfl (l' := #[.val (.int p1), .val (.int p2), .val (.int p3), .val (.int p4), .val (.int p5), .val (.int p6), .val (.int (1 : Int32)), .val (.ref b1), .val (.ref b4_b1), .unset]) rfl ?_
    show Steps p.tables e below (T4.setTop (mkF m 69 #[.val (.int p1), .val (.int p2), .val (.int p3), .val (.int p4), .val (.int p5), .val (.int p6), .val (.int (1 : Int32)), .val (.ref b1), .val (.ref b4_b1), .unset] [])) _
    refine XS.iload X4.here hx rfl (hb hby at_69) rfl ?_
    show Steps p.tables e below (T4.setTop (mkF m 71 #[.val (.int p1), .val (.int p2), .val (.int p3), .val (.int p4), .val (.int p5), .val (.int p6), .val (.int (1 : Int32)), .val (.ref b1), .val (.ref b4_b1), .unset] [(.int (1 : Int32))])) _
    refine XS.ifNo X4.here hx rfl (hb hby at_71) rfl ((if0 _ _).trans (tlt ((by decide) : (0 : Int32) < (1 : Int32))).2.2.2) ?_
    show Steps p.tables e below (T4.setTop (mkF m 74 #[.val (.int p1), .val (.int p2), .val (.int p3), .val (.int p4), .val (.int p5), .val (.int p6), .val (.int (1 : Int32)), .val (.ref b1), .val (.ref b4_b1), .unset] [])) _
    refine XS.iload X4.here hx rfl (hb hby at_74) rfl ?_
    show Steps p.tables e below (T4.setTop (mkF m 76 #[.val (.int p1), .val (.int p2), .val (.int p3), .val (.int p4), .val (.int p5), .val (.int p6), .val (.int (1 : Int32)), .val (.ref b1), .val (.ref b4_b1), .unset] [(.int p6)])) _
    refine X4.ldcInt hx hown (mvT hZ (hw _ (List.mem_of_getElem? (i := 0) rfl))) (g := (mkF m 76 #[.val (.int p1), .val (.int p2), .val (.int p3), .val (.int p4), .val (.int p5), .val (.int p6), .val (.int (1 : Int32)), .val (.ref b1), .val (.ref b4_b1), .unset] [(.int p6)])) rfl (hb hby at_76) _ ?_
    show Steps p.tables e below (T4.setTop (mkF m 78 #[.val (.int p1), .val (.int p2), .val (.int p3), .val (.int p4), .val (.int p5), .val (.int p6), .val (.int (1 : Int32)), .val (.ref b1), .val (.ref b4_b1), .unset] [(.int (2147483647 : Int32)), (.int p6)])) _
    refine XS.iand X4.here hx rfl (hb hby at_78) rfl ?_
    show Steps p.tables e below (T4.setTop (mkF m 79 #[.val (.int p1), .val (.int p2), .val (.int p3), .val (.int p4), .val (.int p5), .val (.int p6), .val (.int (1 : Int32)), .val (.ref b1), .val (.ref b4_b1), .unset] [(.int (p6 &&& (2147483647 : Int32)))])) _
    refine XS.iload X4.here hx rfl (hb hby at_79) rfl ?_
    show Steps p.tables e below (T4.setTop (mkF m 81 #[.val (.int p1), .val (.int p2), .val (.int p3), .val (.int p4), .val (.int p5), .val (.int p6), .val (.int (1 : Int32)), .val (.ref b1), .val (.ref b4_b1), .unset] [(.int (1 : Int32)), (.int (p6 &&& (2147483647 : Int32)))])) _
    refine iremM X4 hx rfl (hb hby at_81) rfl (by decide) ?_
    show Steps p.tables e below (T4.setTop (mkF m 82 #[.val (.int p1), .val (.int p2), .val (.int p3), .val (.int p4), .val (.int p5), .val (.int p6), .val (.int (1 : Int32)), .val (.ref b1), .val (.ref b4_b1), .unset] [(.int ((p6 &&& (2147483647 : Int32)) % (1 : Int32)))])) _
    rw [hi]
    show Steps p.tables e below (T4.setTop (mkF m 82 #[.val (.int p1), .val (.int p2), .val (.int p3), .val (.int p4), .val (.int p5), .val (.int p6), .val (.int (1 : Int32)), .val (.ref b1), .val (.ref b4_b1), .unset] [(.int (0 : Int32))])) _
    refine XS.istore X4.here hx rfl (hb hby at_82) rfl (l' := #[.val (.int p1), .val (.int p2), .val (.int p3), .val (.int p4), .val (.int p5), .val (.int p6), .val (.int (1 : Int32)), .val (.ref b1), .val (.ref b4_b1), .val (.int (0 : Int32))]) rfl ?_
    show Steps p.tables e below (T4.setTop (mkF m 84 #[.val (.int p1), .val (.int p2), .val (.int p3), .val (.int p4), .val (.int p5), .val (.int p6), .val (.int (1 : Int32)), .val (.ref b1), .val (.ref b4_b1), .val (.int (0 : Int32))] [])) _
    refine XS.aload X4.here hx rfl (hb hby at_84) rfl rfl ?_
    show Steps p.tables e below (T4.setTop (mkF m 86 #[.val (.int p1), .val (.int p2), .val (.int p3), .val (.int p4), .val (.int p5), .val (.int p6), .val (.int (1 : Int32)), .val (.ref b1), .val (.ref b4_b1), .val (.int (0 : Int32))] [(.ref b1)])) _
    refine XS.iload X4.here hx rfl (hb hby at_86) rfl ?_
    show Steps p.tables e below (T4.setTop (mkF m 88 #[.val (.int p1), .val (.int p2), .val (.int p3), .val (.int p4), .val (.int p5), .val (.int p6), .val (.int (1 : Int32)), .val (.ref b1), .val (.ref b4_b1), .val (.int (0 : Int32))] [(.int (0 : Int32)), (.ref b1)])) _
    refine XS.aload X4.here hx rfl (hb hby at_88) rfl rfl ?_
    show Steps p.tables e below (T4.setTop (mkF m 90 #[.val (.int p1), .val (.int p2), .val (.int p3), .val (.int p4), .val (.int p5), .val (.int p6), .val (.int (1 : Int32)), .val (.ref b1), .val (.ref b4_b1), .val (.int (0 : Int32))] [(.ref b1), (.int (0 : Int32)), (.ref b1)])) _
    refine XS.iload X4.here hx rfl (hb hby at_90) rfl ?_
    show Steps p.tables e below (T4.setTop (mkF m 92 #[.val (.int p1), .val (.int p2), .val (.int p3), .val (.int p4), .val (.int p5), .val (.int p6), .val (.int (1 : Int32)), .val (.ref b1), .val (.ref b4_b1), .val (.int (0 : Int32))] [(.int (0 : Int32)), (.ref b1), (.int (0 : Int32)), (.ref b1)])) _
    refine X4.baloadBytes hx (j := (0 : Int32)) (v := (.int (p2.toInt8.toInt32))) Ar5.1 (State.isArrayOf_alike hZ.alike Ar5.2.1) Ar5.2.2 hin5 hat5 (g := (mkF m 92 #[.val (.int p1), .val (.int p2), .val (.int p3), .val (.int p4), .val (.int p5), .val (.int p6), .val (.int (1 : Int32)), .val (.ref b1), .val (.ref b4_b1), .val (.int (0 : Int32))] [(.int (0 : Int32)), (.ref b1), (.int (0 : Int32)), (.ref b1)])) rfl rfl (hb hby at_92) _ ?_
    show Steps p.tables e below (T4.setTop (mkF m 93 #[.val (.int p1), .val (.int p2), .val (.int p3), .val (.int p4), .val (.int p5), .val (.int p6), .val (.int (1 : Int32)), .val (.ref b1), .val (.ref b4_b1), .val (.int (0 : Int32))] [(.int (p2.toInt8.toInt32)), (.int (0 : Int32)), (.ref b1)])) _
    refine XS.iconst X4.here hx rfl (hb hby at_93) ?_
    show Steps p.tables e below (T4.setTop (mkF m 94 #[.val (.int p1), .val (.int p2), .val (.int p3), .val (.int p4), .val (.int p5), .val (.int p6), .val (.int (1 : Int32)), .val (.ref b1), .val (.ref b4_b1), .val (.int (0 : Int32))] [(.int (-1 : Int32)), (.int (p2.toInt8.toInt32)), (.int (0 : Int32)), (.ref b1)])) _
    refine XS.ixor X4.here hx rfl (hb hby at_94) rfl ?_
    show Steps p.tables e below (T4.setTop (mkF m 95 #[.val (.int p1), .val (.int p2), .val (.int p3), .val (.int p4), .val (.int p5), .val (.int p6), .val (.int (1 : Int32)), .val (.ref b1), .val (.ref b4_b1), .val (.int (0 : Int32))] [(.int ((p2.toInt8.toInt32) ^^^ (-1 : Int32))), (.int (0 : Int32)), (.ref b1)])) _
    refine XS.i2b X4.here hx rfl (hb hby at_95) rfl ?_
    show Steps p.tables e below (T4.setTop (mkF m 96 #[.val (.int p1), .val (.int p2), .val (.int p3), .val (.int p4), .val (.int p5), .val (.int p6), .val (.int (1 : Int32)), .val (.ref b1), .val (.ref b4_b1), .val (.int (0 : Int32))] [(.int (((p2.toInt8.toInt32) ^^^ (-1 : Int32)).toInt8.toInt32)), (.int (0 : Int32)), (.ref b1)])) _
    refine st7 _ ?_
    show Steps p.tables e below (T7.setTop (mkF m 97 #[.val (.int p1), .val (.int p2), .val (.int p3), .val (.int p4), .val (.int p5), .val (.int p6), .val (.int (1 : Int32)), .val (.ref b1), .val (.ref b4_b1), .val (.int (0 : Int32))] [])) _
    refine XS.aload X7.here hx rfl (hb hby at_97) rfl rfl ?_
    show Steps p.tables e below (T7.setTop (mkF m 99 #[.val (.int p1), .val (.int p2), .val (.int p3), .val (.int p4), .val (.int p5), .val (.int p6), .val (.int (1 : Int32)), .val (.ref b1), .val (.ref b4_b1), .val (.int (0 : Int32))] [(.ref b4_b1)])) _
    refine st8.trans ?_
    show Steps p.tables e below (T8.setTop (mkF m 102 #[.val (.int p1), .val (.int p2), .val (.int p3), .val (.int p4), .val (.int p5), .val (.int p6), .val (.int (1 : Int32)), .val (.ref b1), .val (.ref b4_b1), .val (.int (0 : Int32))] [(.ref w_n1)])) _
    refine st9 _ ?_
    show Steps p.tables e below (T9.setTop (mkF m 105 #[.val (.int p1), .val (.int p2), .val (.int p3), .val (.int p4), .val (.int p5), .val (.int p6), .val (.int (1 : Int32)), .val (.ref b1), .val (.ref b4_b1), .val (.int (0 : Int32))] [(.ref w_n1), (.ref w_n1)])) _
    refine Jvm.RoadKit.acmp (g := (mkF m 105 #[.val (.int p1), .val (.int p2), .val (.int p3), .val (.int p4), .val (.int p5), .val (.int p6), .val (.int (1 : Int32)), .val (.ref b1), .val (.ref b4_b1), .val (.int (0 : Int32))] [(.ref w_n1), (.ref w_n1)])) X9 hx rfl rfl rfl (pc0 := 105) (pc' := 110) (same := true) rfl (hb hby at_105) rfl (decide_eq_true rfl) (by decide) (by decide) ?_
    show Steps p.tables e below (T9.setTop (mkF m 110 #[.val (.int p1), .val (.int p2), .val (.int p3), .val (.int p4), .val (.int p5), .val (.int p6), .val (.int (1 : Int32)), .val (.ref b1), .val (.ref b4_b1), .val (.int (0 : Int32))] [])) _
    refine XS.aload X9.here hx rfl (hb hby at_110) rfl rfl ?_
    show Steps p.tables e below (T9.setTop (mkF m 112 #[.val (.int p1), .val (.int p2), .val (.int p3), .val (.int p4), .val (.int p5), .val (.int p6), .val (.int (1 : Int32)), .val (.ref b1), .val (.ref b4_b1), .val (.int (0 : Int32))] [(.ref b4_b1)])) _
    refine st10.trans ?_
    show Steps p.tables e below (T10.setTop (mkF m 115 #[.val (.int p1), .val (.int p2), .val (.int p3), .val (.int p4), .val (.int p5), .val (.int p6), .val (.int (1 : Int32)), .val (.ref b1), .val (.ref b4_b1), .val (.int (0 : Int32))] [(.int (1 : Int32))])) _
    refine XS.iload X10.here hx rfl (hb hby at_115) rfl ?_
    show Steps p.tables e below (T10.setTop (mkF m 117 #[.val (.int p1), .val (.int p2), .val (.int p3), .val (.int p4), .val (.int p5), .val (.int p6), .val (.int (1 : Int32)), .val (.ref b1), .val (.ref b4_b1), .val (.int (0 : Int32))] [(.int (1 : Int32)), (.int (1 : Int32))])) _
    refine XS.icmpYes X10.here hx rfl (pc0 := 117) (pc' := 122) rfl (hb hby at_117) rfl (teq ((by decide) : (1 : Int32) = (1 : Int32))).1 (by decide) (by decide) ?_
    show Steps p.tables e below (T10.setTop (mkF m 122 #[.val (.int p1), .val (.int p2), .val (.int p3), .val (.int p4), .val (.int p5), .val (.int p6), .val (.int (1 : Int32)), .val (.ref b1), .val (.ref b4_b1), .val (.int (0 : Int32))] [])) _
    refine XS.aload X10.here hx rfl (hb hby at_122) rfl rfl ?_
    show Steps p.tables e below (T10.setTop (mkF m 124 #[.val (.int p1), .val (.int p2), .val (.int p3), .val (.int p4), .val (.int p5), .val (.int p6), .val (.int (1 : Int32)), .val (.ref b1), .val (.ref b4_b1), .val (.int (0 : Int32))] [(.ref b4_b1)])) _
    refine st11.trans ?_
    show Steps p.tables e below (T11.setTop (mkF m 127 #[.val (.int p1), .val (.int p2), .val (.int p3), .val (.int p4), .val (.int p5), .val (.int p6), .val (.int (1 : Int32)), .val (.ref b1), .val (.ref b4_b1), .val (.int (0 : Int32))] [(.ref b11_b4)])) _
    refine XS.astore X11.here hx rfl (hb hby at_127) rfl rfl (l' := #[.val (.int p1), .val (.int p2), .val (.int p3), .val (.int p4), .val (.int p5), .val (.int p6), .val (.int (1 : Int32)), .val (.ref b1), .val (.ref b4_b1), .val (.ref b11_b4)]) rfl ?_
    show Steps p.tables e below (T11.setTop (mkF m 129 #[.val (.int p1), .val (.int p2), .val (.int p3), .val (.int p4), .val (.int p5), .val (.int p6), .val (.int (1 : Int32)), .val (.ref b1), .val (.ref b4_b1), .val (.ref b11_b4)] [])) _
    refine XS.aload X11.here hx rfl (hb hby at_129) rfl rfl ?_
    show Steps p.tables e below (T11.setTop (mkF m 131 #[.val (.int p1), .val (.int p2), .val (.int p3), .val (.int p4), .val (.int p5), .val (.int p6), .val (.int (1 : Int32)), .val (.ref b1), .val (.ref b4_b1), .val (.ref b11_b4)] [(.ref b11_b4)])) _
    refine X11.arraylength hx Ar12.1 (State.isArrayOf_alike hZ.alike Ar12.2.1) (g := (mkF m 131 #[.val (.int p1), .val (.int p2), .val (.int p3), .val (.int p4), .val (.int p5), .val (.int p6), .val (.int (1 : Int32)), .val (.ref b1), .val (.ref b4_b1), .val (.ref b11_b4)] [(.ref b11_b4)])) rfl rfl (hb hby at_131) _ ?_
    rw [len_of Sz12 Nz12]
    show Steps p.tables e below (T11.setTop (mkF m 132 #[.val (.int p1), .val (.int p2), .val (.int p3), .val (.int p4), .val (.int p5), .val (.int p6), .val (.int (1 : Int32)), .val (.ref b1), .val (.ref b4_b1), .val (.ref b11_b4)] [(.int (1 : Int32))])) _
    refine XS.iload X11.here hx rfl (hb hby at_132) rfl ?_
    show Steps p.tables e below (T11.setTop (mkF m 134 #[.val (.int p1), .val (.int p2), .val (.int p3), .val (.int p4), .val (.int p5), .val (.int p6), .val (.int (1 : Int32)), .val (.ref b1), .val (.ref b4_b1), .val (.ref b11_b4)] [(.int (1 : Int32)), (.int (1 : Int32))])) _
    refine XS.icmpYes X11.here hx rfl (pc0 := 134) (pc' := 139) rfl (hb hby at_134) rfl (teq ((by decide) : (1 : Int32) = (1 : Int32))).1 (by decide) (by decide) ?_
    show Steps p.tables e below (T11.setTop (mkF m 139 #[.val (.int p1), .val (.int p2), .val (.int p3), .val (.int p4), .val (.int p5), .val (.int p6), .val (.int (1 : Int32)), .val (.ref b1), .val (.ref b4_b1), .val (.ref b11_b4)] [])) _
    refine XS.iload X11.here hx rfl (hb hby at_139) rfl ?_
    show Steps p.tables e below (T11.setTop (mkF m 141 #[.val (.int p1), .val (.int p2), .val (.int p3), .val (.int p4), .val (.int p5), .val (.int p6), .val (.int (1 : Int32)), .val (.ref b1), .val (.ref b4_b1), .val (.ref b11_b4)] [(.int (1 : Int32))])) _
    refine XS.ifNo X11.here hx rfl (hb hby at_141) rfl ((if0 _ _).trans (tlt ((by decide) : (0 : Int32) < (1 : Int32))).2.2.2) ?_
    show Steps p.tables e below (T11.setTop (mkF m 144 #[.val (.int p1), .val (.int p2), .val (.int p3), .val (.int p4), .val (.int p5), .val (.int p6), .val (.int (1 : Int32)), .val (.ref b1), .val (.ref b4_b1), .val (.ref b11_b4)] [])) _
    refine XS.aload X11.here hx rfl (hb hby at_144) rfl rfl ?_
    show Steps p.tables e below (T11.setTop (mkF m 146 #[.val (.int p1), .val (.int p2), .val (.int p3), .val (.int p4), .val (.int p5), .val (.int p6), .val (.int (1 : Int32)), .val (.ref b1), .val (.ref b4_b1), .val (.ref b11_b4)] [(.ref b11_b4)])) _
    refine XS.iconst X11.here hx rfl (hb hby at_146) ?_
    show Steps p.tables e below (T11.setTop (mkF m 147 #[.val (.int p1), .val (.int p2), .val (.int p3), .val (.int p4), .val (.int p5), .val (.int p6), .val (.int (1 : Int32)), .val (.ref b1), .val (.ref b4_b1), .val (.ref b11_b4)] [(.int (0 : Int32)), (.ref b11_b4)])) _
    refine X11.baloadBytes hx (j := (0 : Int32)) (v := (.int (p2.toInt8.toInt32))) Ar13.1 (State.isArrayOf_alike hZ.alike Ar13.2.1) Ar13.2.2 hin13 hat13 (g := (mkF m 147 #[.val (.int p1), .val (.int p2), .val (.int p3), .val (.int p4), .val (.int p5), .val (.int p6), .val (.int (1 : Int32)), .val (.ref b1), .val (.ref b4_b1), .val (.ref b11_b4)] [(.int (0 : Int32)), (.ref b11_b4)])) rfl rfl (hb hby at_147) _ ?_
    show Steps p.tables e below (T11.setTop (mkF m 148 #[.val (.int p1), .val (.int p2), .val (.int p3), .val (.int p4), .val (.int p5), .val (.int p6), .val (.int (1 : Int32)), .val (.ref b1), .val (.ref b4_b1), .val (.ref b11_b4)] [(.int (p2.toInt8.toInt32))])) _
    refine XS.iloadN X11.here hx rfl (hb hby at_148) rfl ?_
    show Steps p.tables e below (T11.setTop (mkF m 149 #[.val (.int p1), .val (.int p2), .val (.int p3), .val (.int p4), .val (.int p5), .val (.int p6), .val (.int (1 : Int32)), .val (.ref b1), .val (.ref b4_b1), .val (.ref b11_b4)] [(.int p2), (.int (p2.toInt8.toInt32))])) _
    refine XS.i2b X11.here hx rfl (hb hby at_149) rfl ?_
    show Steps p.tables e below (T11.setTop (mkF m 150 #[.val (.int p1), .val (.int p2), .val (.int p3), .val (.int p4), .val (.int p5), .val (.int p6), .val (.int (1 : Int32)), .val (.ref b1), .val (.ref b4_b1), .val (.ref b11_b4)] [(.int (p2.toInt8.toInt32)), (.int (p2.toInt8.toInt32))])) _
    refine XS.icmpYes X11.here hx rfl (pc0 := 150) (pc' := 155) rfl (hb hby at_150) rfl (teq (rfl : (p2.toInt8.toInt32) = (p2.toInt8.toInt32))).1 (by decide) (by decide) ?_
    show Steps p.tables e below (T11.setTop (mkF m 155 #[.val (.int p1), .val (.int p2), .val (.int p3), .val (.int p4), .val (.int p5), .val (.int p6), .val (.int (1 : Int32)), .val (.ref b1), .val (.ref b4_b1), .val (.ref b11_b4)] [])) _
    refine XS.iload X11.here hx rfl (hb hby at_155) rfl ?_
    show Steps p.tables e below (T11.setTop (mkF m 157 #[.val (.int p1), .val (.int p2), .val (.int p3), .val (.int p4), .val (.int p5), .val (.int p6), .val (.int (1 : Int32)), .val (.ref b1), .val (.ref b4_b1), .val (.ref b11_b4)] [(.int (1 : Int32))])) _
    refine XS.iconst X11.here hx rfl (hb hby at_157) ?_
    show Steps p.tables e below (T11.setTop (mkF m 158 #[.val (.int p1), .val (.int p2), .val (.int p3), .val (.int p4), .val (.int p5), .val (.int p6), .val (.int (1 : Int32)), .val (.ref b1), .val (.ref b4_b1), .val (.ref b11_b4)] [(.int (1 : Int32)), (.int (1 : Int32))])) _
    refine XS.icmpYes X11.here hx rfl (pc0 := 158) (pc' := 172) rfl (hb hby at_158) rfl (flt ((by decide) : ¬ ((1 : Int32) < (1 : Int32)))).2.2.2 (by decide) (by decide) ?_
    show Steps p.tables e below (T11.setTop (mkF m 172 #[.val (.int p1), .val (.int p2), .val (.int p3), .val (.int p4), .val (.int p5), .val (.int p6), .val (.int (1 : Int32)), .val (.ref b1), .val (.ref b4_b1), .val (.ref b11_b4)] [])) _
    refine XS.iload X11.here hx rfl (hb hby at_172) rfl ?_
    show Steps p.tables e below (T11.setTop (mkF m 174 #[.val (.int p1), .val (.int p2), .val (.int p3), .val (.int p4), .val (.int p5), .val (.int p6), .val (.int (1 : Int32)), .val (.ref b1), .val (.ref b4_b1), .val (.ref b11_b4)] [(.int (1 : Int32))])) _
    refine XS.iconst X11.here hx rfl (hb hby at_174) ?_
    show Steps p.tables e below (T11.setTop (mkF m 175 #[.val (.int p1), .val (.int p2), .val (.int p3), .val (.int p4), .val (.int p5), .val (.int p6), .val (.int (1 : Int32)), .val (.ref b1), .val (.ref b4_b1), .val (.ref b11_b4)] [(.int (2 : Int32)), (.int (1 : Int32))])) _
    refine XS.icmpYes X11.here hx rfl (pc0 := 175) (pc' := 189) rfl (hb hby at_175) rfl (flt ((by decide) : ¬ ((2 : Int32) < (1 : Int32)))).2.2.2 (by decide) (by decide) ?_
    show Steps p.tables e below (T11.setTop (mkF m 189 #[.val (.int p1), .val (.int p2), .val (.int p3), .val (.int p4), .val (.int p5), .val (.int p6), .val (.int (1 : Int32)), .val (.ref b1), .val (.ref b4_b1), .val (.ref b11_b4)] [])) _
    refine XS.iload X11.here hx rfl (hb hby at_189) rfl ?_
    show Steps p.tables e below (T11.setTop (mkF m 191 #[.val (.int p1), .val (.int p2), .val (.int p3), .val (.int p4), .val (.int p5), .val (.int p6), .val (.int (1 : Int32)), .val (.ref b1), .val (.ref b4_b1), .val (.ref b11_b4)] [(.int (1 : Int32))])) _
    refine XS.iconst X11.here hx rfl (hb hby at_191) ?_
    show Steps p.tables e below (T11.setTop (mkF m 192 #[.val (.int p1), .val (.int p2), .val (.int p3), .val (.int p4), .val (.int p5), .val (.int p6), .val (.int (1 : Int32)), .val (.ref b1), .val (.ref b4_b1), .val (.ref b11_b4)] [(.int (3 : Int32)), (.int (1 : Int32))])) _
    refine XS.icmpYes X11.here hx rfl (pc0 := 192) (pc' := 207) rfl (hb hby at_192) rfl (flt ((by decide) : ¬ ((3 : Int32) < (1 : Int32)))).2.2.2 (by decide) (by decide) ?_
    show Steps p.tables e below (T11.setTop (mkF m 207 #[.val (.int p1), .val (.int p2), .val (.int p3), .val (.int p4), .val (.int p5), .val (.int p6), .val (.int (1 : Int32)), .val (.ref b1), .val (.ref b4_b1), .val (.ref b11_b4)] [])) _
    refine XS.iconst X11.here hx rfl (hb hby at_207) ?_
    show Steps p.tables e below (T11.setTop (mkF m 208 #[.val (.int p1), .val (.int p2), .val (.int p3), .val (.int p4), .val (.int p5), .val (.int p6), .val (.int (1 : Int32)), .val (.ref b1), .val (.ref b4_b1), .val (.ref b11_b4)] [(.int (1 : Int32))])) _
    exact retN X11 hx (t := .boolean) Bd.returns (by simp) (hb hby at_208) hr
  · show Q0 n0 _ T11.heap _
    exact ⟨rfl, N11⟩
set_option maxRecDepth 65536 in
set_option maxHeartbeats 40000000 in
theorem rm0_20 (l : Launch) (Z : State) (a0 : Array Value) (hw : ∀ d ∈ tables_1, d.before a0 Z = true) (ws : List Jvm.Cond) {w_n1 : Addr} {w_n0 : Addr} {k_n0 : ClassId} (W : Wd Z w_n1 w_n0 k_n0) (p1 : Int32) (p2 : Int32) (p3 : Int32) (p4 : Int32) (p5 : Int32) (p6 : Int32) (h0 : Heap) (n0 : Nat) (O0 : Old Z n0 h0) (hk : ((p1 &&& (2147483647 : Int32)) % (5 : Int32)) = (2 : Int32)) (hi : ((p6 &&& (2147483647 : Int32)) % (2 : Int32)) = (0 : Int32)) :
    MetFree l x (head1 (Jvm.Cond.code x code maxLocals ret :: ws) room_1) (fun a U => a = #[(.int p1), (.int p2), (.int p3), (.int p4), (.int p5), (.int p6)] ∧ Z.Warmed39 U.vm ∧ U.heap = h0) (fun _ _ _ _ _ => True) (fun _ U o U' => ∃ v L, o = .returned v ∧ Q0 n0 v U'.heap L ∧ FrameEnd U o U' L room_1.cells room_1.slots) := by
  have W' := W; obtain ⟨S_n1, E_n1, S_n0, F_n1_ordinal, V_n0⟩ := W'
  refine MetFree.of_bodySF (plainFor_of_name pn_0) hisR ?_
  intro p e s m args below meth c s₁ Bd hml0 hP hK
  obtain ⟨rfl, hZ, hh⟩ := hP
  have hx := Bd.exec
  have hby := Bd.bytes
  have hml : c.maxLocals = 10 := hml0
  have hown : s.vm.findClass "com/example/keyfold/keyfold/core/ValueOfBinary193PinLaw" = some m.cls := findClass_of_methodNamed Bd.named
  have hnm := (name_of_methodNamed Bd.named Bd.method).1
  have X0 : Stand p l e room_1 s m #[(.int p1), (.int p2), (.int p3), (.int p4), (.int p5), (.int p6)] below meth c s₁ [] 0 0 := Stand.of_body Bd
  have e0 : s₁.heap = h0 := by rw [← hh, Bd.state]; rfl
  have N0 := Fr.nil n0
  have pre0 : ∀ t, Steps p.tables e below (s₁.setTop (mkF m 0 #[.val (.int p1), .val (.int p2), .val (.int p3), .val (.int p4), .val (.int p5), .val (.int p6), .unset, .unset, .unset, .unset] [])) t → Steps p.tables e below (s₁.setTop (entryFrame m #[(.int p1), (.int p2), (.int p3), (.int p4), (.int p5), (.int p6)] maxLocals)) t := fun t k => castTop (ef_0_7 m p1 p2 p3 p4 p5 p6) k
  obtain ⟨T1, h1, k1, X1, e1, E1, A1, B1, st1⟩ := newPE X0 hx hZ (hw _ (List.mem_of_getElem? (i := 1) rfl)) e0 (g := (mkF m 10 #[.val (.int p1), .val (.int p2), .val (.int p3), .val (.int p4), .val (.int p5), .val (.int p6), .val (.int (2 : Int32)), .unset, .unset, .unset] [(.int (2 : Int32))])) rfl (hb hby at_10) rfl (by decide) (cap := 2) (by decide) (by decide) (by decide) (by decide) (ad := "[B") (by decide)
  obtain ⟨b1, g1⟩ : ∃ z, z = h0.size := ⟨_, rfl⟩
  rw [← g1] at A1 B1 st1
  have g_b1 : n0 ≤ b1 := by rw [g1]; exact O0.1 ▸ O0.2.1
  have O1 := O0.ext E1
  have fv1 : Arv Z h1 b1 k1 .byte (2 : Int32) [(.int (0 : Int32)), (.int (0 : Int32))] (.int (0 : Int32)) := (Arv.new A1 (by decide)).pad (pad_rep [] (.int (0 : Int32)) 2)
  obtain ⟨cl2, Ar2, qk2, Sz2, Nz2, Hs2, Gs2⟩ := id fv1
  have hin2 : ¬ ((0 : Int32) < 0 ∨ cl2.slots.size ≤ ((0 : Int32)).toNatClampNeg) := inb_of Sz2 ⟨by decide, by decide⟩
  obtain ⟨T3, h3, X3, e3, W3, st3⟩ := stB X1 hx hZ e1 Ar2 (j := (0 : Int32)) hin2  (g := (mkF m 24 #[.val (.int p1), .val (.int p2), .val (.int p3), .val (.int p4), .val (.int p5), .val (.int p6), .val (.int (2 : Int32)), .val (.ref b1), .unset, .unset] [(.int (p2.toInt8.toInt32)), (.int (0 : Int32)), (.ref b1)])) rfl rfl (hb hby at_24)
  rw [show nar .byte (p2.toInt8.toInt32) = (p2.toInt8.toInt32) from own_byte _] at W3
  have fw3 : Arv Z h3 b1 k1 .byte (2 : Int32) [(.int (p2.toInt8.toInt32)), (.int (0 : Int32))] (.int (0 : Int32)) := Arv.set Ar2 qk2 Sz2 Nz2 Hs2 Gs2 (fits_nar_byte _) W3 0 rfl (Nat.le_of_ble_eq_true rfl)
  have f3_0 : Exa Z h3 b1 "[B" := (B1).wr W3
  have O3 := O1.wr W3 g_b1
  have N3 := Fr.snoc X3 N0 g_b1
  obtain ⟨cl4, Ar4, qk4, Sz4, Nz4, Hs4, Gs4⟩ := id fw3
  have hin4 : ¬ ((1 : Int32) < 0 ∨ cl4.slots.size ≤ ((1 : Int32)).toNatClampNeg) := inb_of Sz4 ⟨by decide, by decide⟩
  obtain ⟨T5, h5, X5, e5, W5, st5⟩ := stB X3 hx hZ e3 Ar4 (j := (1 : Int32)) hin4  (g := (mkF m 36 #[.val (.int p1), .val (.int p2), .val (.int p3), .val (.int p4), .val (.int p5), .val (.int p6), .val (.int (2 : Int32)), .val (.ref b1), .unset, .unset] [(.int (p3.toInt8.toInt32)), (.int (1 : Int32)), (.ref b1)])) rfl rfl (hb hby at_36)
  rw [show nar .byte (p3.toInt8.toInt32) = (p3.toInt8.toInt32) from own_byte _] at W5
  have fw5 : Arv Z h5 b1 k1 .byte (2 : Int32) [(.int (p2.toInt8.toInt32)), (.int (p3.toInt8.toInt32))] (.int (0 : Int32)) := Arv.set Ar4 qk4 Sz4 Nz4 Hs4 Gs4 (fits_nar_byte _) W5 1 rfl (Nat.le_of_ble_eq_true rfl)
  have f5_0 : Exa Z h5 b1 "[B" := (f3_0).wr W5
  have O5 := O3.wr W5 g_b1
  have N5 := Fr.snoc X5 N3 g_b1
  obtain ⟨_, _, ⟨T6, L6, k6, n6⟩, -, X6, ⟨Lc6, hQ6, l6, y6, z6⟩, st6⟩ := Jvm.LawKit.callS X5 hx (y := (⟨"com/example/keyfold/keyfold/core/Value", "ofBinary", "([B)Lcom/example/keyfold/keyfold/core/Value;"⟩ : MethodName)) hown (mvT hZ (hw _ (List.mem_of_getElem? (i := 2) rfl))) (mvT hZ (hw _ (List.mem_of_getElem? (i := 3) rfl))) (mvT hZ (hw _ (List.mem_of_getElem? (i := 4) rfl))) (mvT hZ (hw _ (List.mem_of_getElem? (i := 5) rfl))) (by decide) (backOf (W := 0) (rm1_2 l Z a0 hw [] W b1 k1 (p2.toInt8.toInt32) (p3.toInt8.toInt32) h5 n0 O5 g_b1 f5_0 fw5) hZ (hw _ (List.mem_of_getElem? (i := 5) rfl)) (hw _ (List.mem_of_getElem? (i := 4) rfl)) (by decide) (by decide)) (g := (mkF m 64 #[.val (.int p1), .val (.int p2), .val (.int p3), .val (.int p4), .val (.int p5), .val (.int p6), .val (.int (2 : Int32)), .val (.ref b1), .unset, .unset] [(.ref b1)])) rfl (by rw [hml]; rfl) (argsL := [(.ref b1)]) (rest := []) (lenOf pd_3 rfl) rfl (by show 2 * 0 + _ ≤ _; exact Nat.le_of_eq rfl) (hb hby at_64) (fun _ _ => ⟨rfl, e5, (by decide : 1 + 2 ≤ _), (by decide : 2 + 4 ≤ _)⟩)
  dsimp only [Pt.U, Pt.locs, Pt.cells, Pt.slots] at X6 l6 y6 z6 st6 hQ6
  subst l6 y6 z6
  obtain ⟨N6q, hP6⟩ := hQ6
  have N6 := Fr.app N5 N6q
  obtain ⟨b6_b1, b6_b3, rfl, Kp6, g_b6_b1, si_b6_b1, g_b6_b3, si_b6_b3, fp6_0, fp6_1, fp6_2, fp6_3, fp6_4⟩ := hP6
  have f6_0 : Exa Z T6.heap b1 "[B" := (f5_0).keep Kp6
  have f6_1 : Arv Z T6.heap b1 k1 .byte (2 : Int32) [(.int (p2.toInt8.toInt32)), (.int (p3.toInt8.toInt32))] (.int (0 : Int32)) := (fw5).keep Kp6 nin0
  have O6 := O5.keep Kp6 all0
  obtain ⟨cl7, Ar7, qk7, Sz7, Nz7, Hs7, Gs7⟩ := id f6_1
  have hin7 : ¬ ((0 : Int32) < 0 ∨ cl7.slots.size ≤ ((0 : Int32)).toNatClampNeg) := inb_of Sz7 ⟨by decide, by decide⟩
  have hat7 : cl7.slots[((0 : Int32)).toNatClampNeg]? = some (.int (p2.toInt8.toInt32)) := Has.at Hs7 hin7 rfl
  obtain ⟨cl8, Ar8, qk8, Sz8, Nz8, Hs8, Gs8⟩ := id f6_1
  have hin8 : ¬ ((0 : Int32) < 0 ∨ cl8.slots.size ≤ ((0 : Int32)).toNatClampNeg) := inb_of Sz8 ⟨by decide, by decide⟩
  obtain ⟨T9, h9, X9, e9, W9, st9⟩ := stB X6 hx hZ rfl Ar8 (j := (0 : Int32)) hin8  (g := (mkF m 96 #[.val (.int p1), .val (.int p2), .val (.int p3), .val (.int p4), .val (.int p5), .val (.int p6), .val (.int (2 : Int32)), .val (.ref b1), .val (.ref b6_b1), .val (.int (0 : Int32))] [(.int (((p2.toInt8.toInt32) ^^^ (-1 : Int32)).toInt8.toInt32)), (.int (0 : Int32)), (.ref b1)])) rfl rfl (hb hby at_96)
  rw [show nar .byte (((p2.toInt8.toInt32) ^^^ (-1 : Int32)).toInt8.toInt32) = (((p2.toInt8.toInt32) ^^^ (-1 : Int32)).toInt8.toInt32) from own_byte _] at W9
  have fw9 : Arv Z h9 b1 k1 .byte (2 : Int32) [(.int (((p2.toInt8.toInt32) ^^^ (-1 : Int32)).toInt8.toInt32)), (.int (p3.toInt8.toInt32))] (.int (0 : Int32)) := Arv.set Ar8 qk8 Sz8 Nz8 Hs8 Gs8 (fits_nar_byte _) W9 0 rfl (Nat.le_of_ble_eq_true rfl)
  have f9_0 : Exa Z h9 b1 "[B" := (f6_0).wr W9
  have f9_1 : Exa Z h9 b6_b1 "com/example/keyfold/keyfold/core/Value" := (fp6_0).wr W9
  have f9_2 : Fld Z h9 b6_b1 "com/example/keyfold/keyfold/core/Value" "type" "Lcom/example/keyfold/keyfold/core/ValueType;" (.ref w_n1) := (fp6_1).other W9 (Or.inl (ne_exa fp6_0 f6_0 (by decide)))
  have f9_3 : Fld Z h9 b6_b1 "com/example/keyfold/keyfold/core/Value" "content" "Ljava/lang/Object;" (.ref b6_b3) := (fp6_2).other W9 (Or.inl (ne_exa fp6_0 f6_0 (by decide)))
  have f9_4 : Exa Z h9 b6_b3 "[B" := (fp6_3).wr W9
  have f9_5 : Arv Z h9 b6_b3 k1 .byte (2 : Int32) [(.int (p2.toInt8.toInt32)), (.int (p3.toInt8.toInt32))] (.int (0 : Int32)) := (fp6_4).other W9 (Ne.symm (Nat.ne_of_lt (Nat.lt_of_lt_of_le (f5_0).lt si_b6_b3)))
  have O9 := O6.wr W9 g_b1
  have N9 := Fr.snoc X9 N6 g_b1
  obtain ⟨cq10, kq10, q10a, q10b, q10c⟩ := isOf hZ e9 f9_1
  obtain ⟨_, _, ⟨T10, L10, k10, n10⟩, -, X10, ⟨Lc10, hQ10, l10, y10, z10⟩, st10⟩ := X9.virtualBack hx (y := (⟨"com/example/keyfold/keyfold/core/Value", "type", "()Lcom/example/keyfold/keyfold/core/ValueType;"⟩ : MethodName)) (z := (⟨"com/example/keyfold/keyfold/core/Value", "type", "()Lcom/example/keyfold/keyfold/core/ValueType;"⟩ : MethodName)) hown (mvT hZ (hw _ (List.mem_of_getElem? (i := 28) rfl))) (mvT hZ (hw _ (List.mem_of_getElem? (i := 29) rfl))) (notFace_of_selects (args := #[]) (mvT hZ (hw _ (List.mem_of_getElem? (i := 31) rfl)))) (mvT hZ (hw _ (List.mem_of_getElem? (i := 31) rfl))) (mvT hZ (hw _ (List.mem_of_getElem? (i := 30) rfl))) (by decide) (backOf (W := 0) (rm4 l Z a0 hw [] W b6_b1 h9 n0 O9 f9_2) hZ (hw _ (List.mem_of_getElem? (i := 32) rfl)) (hw _ (List.mem_of_getElem? (i := 4) rfl)) (by decide) (by decide)) q10a q10c (g := (mkF m 99 #[.val (.int p1), .val (.int p2), .val (.int p3), .val (.int p4), .val (.int p5), .val (.int p6), .val (.int (2 : Int32)), .val (.ref b1), .val (.ref b6_b1), .val (.int (0 : Int32))] [(.ref b6_b1)])) rfl (by rw [hml]; rfl) (Steps.refl _) (argsL := []) (rest := []) (lenOf pd_4 rfl) rfl (by show 2 * 0 + _ ≤ _; exact Nat.le_of_eq rfl) (hb hby at_99) (fun _ _ => ⟨rfl, e9, (by decide : 3 + 0 ≤ _), (by decide : 6 + 0 ≤ _)⟩)
  dsimp only [Pt.U, Pt.locs, Pt.cells, Pt.slots] at X10 l10 y10 z10 st10 hQ10
  subst l10 y10 z10
  obtain ⟨rfl, N10q, e10⟩ := hQ10
  have N10 := Fr.app N9 N10q
  obtain ⟨T11, X11, e11, st11⟩ := getS2 X10 hx hZ hown (host := "") (Or.inl (hw _ (List.mem_of_getElem? (i := 33) rfl))) Via.refl e10 (S_n1.ext O9.2) (g := (mkF m 102 #[.val (.int p1), .val (.int p2), .val (.int p3), .val (.int p4), .val (.int p5), .val (.int p6), .val (.int (2 : Int32)), .val (.ref b1), .val (.ref b6_b1), .val (.int (0 : Int32))] [(.ref w_n1)])) rfl (hb hby at_102)
  obtain ⟨cq12, kq12, q12a, q12b, q12c⟩ := isOf hZ e11 f9_1
  obtain ⟨_, _, ⟨T12, L12, k12, n12⟩, -, X12, ⟨Lc12, hQ12, l12, y12, z12⟩, st12⟩ := X11.virtualBack hx (y := (⟨"com/example/keyfold/keyfold/core/Value", "size", "()I"⟩ : MethodName)) (z := (⟨"com/example/keyfold/keyfold/core/Value", "size", "()I"⟩ : MethodName)) hown (mvT hZ (hw _ (List.mem_of_getElem? (i := 34) rfl))) (mvT hZ (hw _ (List.mem_of_getElem? (i := 35) rfl))) (notFace_of_selects (args := #[]) (mvT hZ (hw _ (List.mem_of_getElem? (i := 37) rfl)))) (mvT hZ (hw _ (List.mem_of_getElem? (i := 37) rfl))) (mvT hZ (hw _ (List.mem_of_getElem? (i := 36) rfl))) (by decide) (backOf (W := 0) (rm7_2 l Z a0 hw [] W b6_b1 b6_b3 k1 (p2.toInt8.toInt32) (p3.toInt8.toInt32) h9 n0 O9 g_b6_b1 f9_1 f9_2 f9_3 g_b6_b3 f9_4 f9_5) hZ (hw _ (List.mem_of_getElem? (i := 38) rfl)) (hw _ (List.mem_of_getElem? (i := 4) rfl)) (by decide) (by decide)) q12a q12c (g := (mkF m 112 #[.val (.int p1), .val (.int p2), .val (.int p3), .val (.int p4), .val (.int p5), .val (.int p6), .val (.int (2 : Int32)), .val (.ref b1), .val (.ref b6_b1), .val (.int (0 : Int32))] [(.ref b6_b1)])) rfl (by rw [hml]; rfl) (Steps.refl _) (argsL := []) (rest := []) (lenOf pd_1 rfl) rfl (by show 2 * 0 + _ ≤ _; exact Nat.le_of_eq rfl) (hb hby at_112) (fun _ _ => ⟨rfl, e11, (by decide : 3 + 0 ≤ _), (by decide : 6 + 0 ≤ _)⟩)
  dsimp only [Pt.U, Pt.locs, Pt.cells, Pt.slots] at X12 l12 y12 z12 st12 hQ12
  subst l12 y12 z12
  obtain ⟨rfl, N12q, e12⟩ := hQ12
  have N12 := Fr.app N10 N12q
  obtain ⟨cq13, kq13, q13a, q13b, q13c⟩ := isOf hZ e12 f9_1
  obtain ⟨_, _, ⟨T13, L13, k13, n13⟩, -, X13, ⟨Lc13, hQ13, l13, y13, z13⟩, st13⟩ := X12.virtualBack hx (y := (⟨"com/example/keyfold/keyfold/core/Value", "asBinary", "()[B"⟩ : MethodName)) (z := (⟨"com/example/keyfold/keyfold/core/Value", "asBinary", "()[B"⟩ : MethodName)) hown (mvT hZ (hw _ (List.mem_of_getElem? (i := 53) rfl))) (mvT hZ (hw _ (List.mem_of_getElem? (i := 54) rfl))) (notFace_of_selects (args := #[]) (mvT hZ (hw _ (List.mem_of_getElem? (i := 56) rfl)))) (mvT hZ (hw _ (List.mem_of_getElem? (i := 56) rfl))) (mvT hZ (hw _ (List.mem_of_getElem? (i := 55) rfl))) (by decide) (backOf (W := 0) (rm5_2 l Z a0 hw [] W b6_b1 b6_b3 k1 (p2.toInt8.toInt32) (p3.toInt8.toInt32) h9 n0 O9 g_b6_b1 f9_1 f9_2 f9_3 g_b6_b3 f9_4 f9_5) hZ (hw _ (List.mem_of_getElem? (i := 57) rfl)) (hw _ (List.mem_of_getElem? (i := 4) rfl)) (by decide) (by decide)) q13a q13c (g := (mkF m 124 #[.val (.int p1), .val (.int p2), .val (.int p3), .val (.int p4), .val (.int p5), .val (.int p6), .val (.int (2 : Int32)), .val (.ref b1), .val (.ref b6_b1), .val (.int (0 : Int32))] [(.ref b6_b1)])) rfl (by rw [hml]; rfl) (Steps.refl _) (argsL := []) (rest := []) (lenOf pd_5 rfl) rfl (by show 2 * 0 + _ ≤ _; exact Nat.le_of_eq rfl) (hb hby at_124) (fun _ _ => ⟨rfl, e12, (by decide : 3 + 1 ≤ _), (by decide : 6 + 2 ≤ _)⟩)
  dsimp only [Pt.U, Pt.locs, Pt.cells, Pt.slots] at X13 l13 y13 z13 st13 hQ13
  subst l13 y13 z13
  obtain ⟨N13q, hP13⟩ := hQ13
  have N13 := Fr.app N12 N13q
  obtain ⟨b13_b4, rfl, Kp13, g_b13_b4, si_b13_b4, fp13_0, fp13_1⟩ := hP13
  have f13_0 : Exa Z T13.heap b1 "[B" := (f9_0).keep Kp13
  have f13_1 : Exa Z T13.heap b6_b1 "com/example/keyfold/keyfold/core/Value" := (f9_1).keep Kp13
  have f13_2 : Fld Z T13.heap b6_b1 "com/example/keyfold/keyfold/core/Value" "type" "Lcom/example/keyfold/keyfold/core/ValueType;" (.ref w_n1) := (f9_2).keep Kp13 nin0
  have f13_3 : Fld Z T13.heap b6_b1 "com/example/keyfold/keyfold/core/Value" "content" "Ljava/lang/Object;" (.ref b6_b3) := (f9_3).keep Kp13 nin0
  have f13_4 : Exa Z T13.heap b6_b3 "[B" := (f9_4).keep Kp13
  have f13_5 : Arv Z T13.heap b6_b3 k1 .byte (2 : Int32) [(.int (p2.toInt8.toInt32)), (.int (p3.toInt8.toInt32))] (.int (0 : Int32)) := (f9_5).keep Kp13 nin0
  have f13_6 : Arv Z T13.heap b1 k1 .byte (2 : Int32) [(.int (((p2.toInt8.toInt32) ^^^ (-1 : Int32)).toInt8.toInt32)), (.int (p3.toInt8.toInt32))] (.int (0 : Int32)) := (fw9).keep Kp13 nin0
  have O13 := O9.keep Kp13 all0
  obtain ⟨cl14, Ar14, qk14, Sz14, Nz14, Hs14, Gs14⟩ := id fp13_1
  obtain ⟨cl15, Ar15, qk15, Sz15, Nz15, Hs15, Gs15⟩ := id fp13_1
  have hin15 : ¬ ((0 : Int32) < 0 ∨ cl15.slots.size ≤ ((0 : Int32)).toNatClampNeg) := inb_of Sz15 ⟨by decide, by decide⟩
  have hat15 : cl15.slots[((0 : Int32)).toNatClampNeg]? = some (.int (p2.toInt8.toInt32)) := Has.at Hs15 hin15 rfl
  obtain ⟨cl16, Ar16, qk16, Sz16, Nz16, Hs16, Gs16⟩ := id fp13_1
  have hin16 : ¬ ((1 : Int32) < 0 ∨ cl16.slots.size ≤ ((1 : Int32)).toNatClampNeg) := inb_of Sz16 ⟨by decide, by decide⟩
  have hat16 : cl16.slots[((1 : Int32)).toNatClampNeg]? = some (.int (p3.toInt8.toInt32)) := Has.at Hs16 hin16 rfl
  obtain ⟨fs, hr, hrun, hended, hW, hsame⟩ := X13.leave (v := some (.int (1 : Int32))) (fun h => by rw [Bd.returns] at h; cases h)
  refine ⟨_, _, pre0 _ ?_, hrun, hended, _, _, rfl, ?_, ⟨_, rfl⟩, hW, hsame.mono (by decide) (by decide)⟩
  · show Steps p.tables e below (s₁.setTop (mkF m 0 #[.val (.int p1), .val (.int p2), .val (.int p3), .val (.int p4), .val (.int p5), .val (.int p6), .unset, .unset, .unset, .unset] [])) _
    refine XS.iloadN X0.here hx rfl (hb hby at_0) rfl ?_
    show Steps p.tables e below (s₁.setTop (mkF m 1 #[.val (.int p1), .val (.int p2), .val (.int p3), .val (.int p4), .val (.int p5), .val (.int p6), .unset, .unset, .unset, .unset] [(.int p1)])) _
    refine X0.ldcInt hx hown (mvT hZ (hw _ (List.mem_of_getElem? (i := 0) rfl))) (g := (mkF m 1 #[.val (.int p1), .val (.int p2), .val (.int p3), .val (.int p4), .val (.int p5), .val (.int p6), .unset, .unset, .unset, .unset] [(.int p1)])) rfl (hb hby at_1) _ ?_
    show Steps p.tables e below (s₁.setTop (mkF m 3 #[.val (.int p1), .val (.int p2), .val (.int p3), .val (.int p4), .val (.int p5), .val (.int p6), .unset, .unset, .unset, .unset] [(.int (2147483647 : Int32)), (.int p1)])) _
    refine XS.iand X0.here hx rfl (hb hby at_3) rfl ?_
    show Steps p.tables e below (s₁.setTop (mkF m 4 #[.val (.int p1), .val (.int p2), .val (.int p3), .val (.int p4), .val (.int p5), .val (.int p6), .unset, .unset, .unset, .unset] [(.int (p1 &&& (2147483647 : Int32)))])) _
    refine XS.iconst X0.here hx rfl (hb hby at_4) ?_
    show Steps p.tables e below (s₁.setTop (mkF m 5 #[.val (.int p1), .val (.int p2), .val (.int p3), .val (.int p4), .val (.int p5), .val (.int p6), .unset, .unset, .unset, .unset] [(.int (5 : Int32)), (.int (p1 &&& (2147483647 : Int32)))])) _
    refine iremM X0 hx rfl (hb hby at_5) rfl (by decide) ?_
    show Steps p.tables e below (s₁.setTop (mkF m 6 #[.val (.int p1), .val (.int p2), .val (.int p3), .val (.int p4), .val (.int p5), .val (.int p6), .unset, .unset, .unset, .unset] [(.int ((p1 &&& (2147483647 : Int32)) % (5 : Int32)))])) _
    rw [hk]
    show Steps p.tables e below (s₁.setTop (mkF m 6 #[.val (.int p1), .val (.int p2), .val (.int p3), .val (.int p4), .val (.int p5), .val (.int p6), .unset, .unset, .unset, .unset] [(.int (2 : Int32))])) _
    refine XS.istore X0.here hx rfl (hb hby at_6) rfl (l' := #[.val (.int p1), .val (.int p2), .val (.int p3), .val (.int p4), .val (.int p5), .val (.int p6), .val (.int (2 : Int32)), .unset, .unset, .unset]) rfl ?_
    show Steps p.tables e below (s₁.setTop (mkF m 8 #[.val (.int p1), .val (.int p2), .val (.int p3), .val (.int p4), .val (.int p5), .val (.int p6), .val (.int (2 : Int32)), .unset, .unset, .unset] [])) _
    refine XS.iload X0.here hx rfl (hb hby at_8) rfl ?_
    show Steps p.tables e below (s₁.setTop (mkF m 10 #[.val (.int p1), .val (.int p2), .val (.int p3), .val (.int p4), .val (.int p5), .val (.int p6), .val (.int (2 : Int32)), .unset, .unset, .unset] [(.int (2 : Int32))])) _
    refine st1 _ ?_
    show Steps p.tables e below (T1.setTop (mkF m 12 #[.val (.int p1), .val (.int p2), .val (.int p3), .val (.int p4), .val (.int p5), .val (.int p6), .val (.int (2 : Int32)), .unset, .unset, .unset] [(.ref b1)])) _
    refine XS.astore X1.here hx rfl (hb hby at_12) rfl rfl (l' := #[.val (.int p1), .val (.int p2), .val (.int p3), .val (.int p4), .val (.int p5), .val (.int p6), .val (.int (2 : Int32)), .val (.ref b1), .unset, .unset]) rfl ?_
    show Steps p.tables e below (T1.setTop (mkF m 14 #[.val (.int p1), .val (.int p2), .val (.int p3), .val (.int p4), .val (.int p5), .val (.int p6), .val (.int (2 : Int32)), .val (.ref b1), .unset, .unset] [])) _
    refine XS.iload X1.here hx rfl (hb hby at_14) rfl ?_
    show Steps p.tables e below (T1.setTop (mkF m 16 #[.val (.int p1), .val (.int p2), .val (.int p3), .val (.int p4), .val (.int p5), .val (.int p6), .val (.int (2 : Int32)), .val (.ref b1), .unset, .unset] [(.int (2 : Int32))])) _
    refine XS.ifNo X1.here hx rfl (hb hby at_16) rfl ((if0 _ _).trans (tlt ((by decide) : (0 : Int32) < (2 : Int32))).2.2.2) ?_
    show Steps p.tables e below (T1.setTop (mkF m 19 #[.val (.int p1), .val (.int p2), .val (.int p3), .val (.int p4), .val (.int p5), .val (.int p6), .val (.int (2 : Int32)), .val (.ref b1), .unset, .unset] [])) _
    refine XS.aload X1.here hx rfl (hb hby at_19) rfl rfl ?_
    show Steps p.tables e below (T1.setTop (mkF m 21 #[.val (.int p1), .val (.int p2), .val (.int p3), .val (.int p4), .val (.int p5), .val (.int p6), .val (.int (2 : Int32)), .val (.ref b1), .unset, .unset] [(.ref b1)])) _
    refine XS.iconst X1.here hx rfl (hb hby at_21) ?_
    show Steps p.tables e below (T1.setTop (mkF m 22 #[.val (.int p1), .val (.int p2), .val (.int p3), .val (.int p4), .val (.int p5), .val (.int p6), .val (.int (2 : Int32)), .val (.ref b1), .unset, .unset] [(.int (0 : Int32)), (.ref b1)])) _
    refine XS.iloadN X1.here hx rfl (hb hby at_22) rfl ?_
    show Steps p.tables e below (T1.setTop (mkF m 23 #[.val (.int p1), .val (.int p2), .val (.int p3), .val (.int p4), .val (.int p5), .val (.int p6), .val (.int (2 : Int32)), .val (.ref b1), .unset, .unset] [(.int p2), (.int (0 : Int32)), (.ref b1)])) _
    refine XS.i2b X1.here hx rfl (hb hby at_23) rfl ?_
    show Steps p.tables e below (T1.setTop (mkF m 24 #[.val (.int p1), .val (.int p2), .val (.int p3), .val (.int p4), .val (.int p5), .val (.int p6), .val (.int (2 : Int32)), .val (.ref b1), .unset, .unset] [(.int (p2.toInt8.toInt32)), (.int (0 : Int32)), (.ref b1)])) _
    refine st3 _ ?_
    show Steps p.tables e below (T3.setTop (mkF m 25 #[.val (.int p1), .val (.int p2), .val (.int p3), .val (.int p4), .val (.int p5), .val (.int p6), .val (.int (2 : Int32)), .val (.ref b1), .unset, .unset] [])) _
    refine XS.iload X3.here hx rfl (hb hby at_25) rfl ?_
    show Steps p.tables e below (T3.setTop (mkF m 27 #[.val (.int p1), .val (.int p2), .val (.int p3), .val (.int p4), .val (.int p5), .val (.int p6), .val (.int (2 : Int32)), .val (.ref b1), .unset, .unset] [(.int (2 : Int32))])) _
    refine XS.iconst X3.here hx rfl (hb hby at_27) ?_
    show Steps p.tables e below (T3.setTop (mkF m 28 #[.val (.int p1), .val (.int p2), .val (.int p3), .val (.int p4), .val (.int p5), .val (.int p6), .val (.int (2 : Int32)), .val (.ref b1), .unset, .unset] [(.int (1 : Int32)), (.int (2 : Int32))])) _
    refine XS.icmpNo X3.here hx rfl (hb hby at_28) rfl (tlt ((by decide) : (1 : Int32) < (2 : Int32))).2.2.2 ?_
    show Steps p.tables e below (T3.setTop (mkF m 31 #[.val (.int p1), .val (.int p2), .val (.int p3), .val (.int p4), .val (.int p5), .val (.int p6), .val (.int (2 : Int32)), .val (.ref b1), .unset, .unset] [])) _
    refine XS.aload X3.here hx rfl (hb hby at_31) rfl rfl ?_
    show Steps p.tables e below (T3.setTop (mkF m 33 #[.val (.int p1), .val (.int p2), .val (.int p3), .val (.int p4), .val (.int p5), .val (.int p6), .val (.int (2 : Int32)), .val (.ref b1), .unset, .unset] [(.ref b1)])) _
    refine XS.iconst X3.here hx rfl (hb hby at_33) ?_
    show Steps p.tables e below (T3.setTop (mkF m 34 #[.val (.int p1), .val (.int p2), .val (.int p3), .val (.int p4), .val (.int p5), .val (.int p6), .val (.int (2 : Int32)), .val (.ref b1), .unset, .unset] [(.int (1 : Int32)), (.ref b1)])) _
    refine XS.iloadN X3.here hx rfl (hb hby at_34) rfl ?_
    show Steps p.tables e below (T3.setTop (mkF m 35 #[.val (.int p1), .val (.int p2), .val (.int p3), .val (.int p4), .val (.int p5), .val (.int p6), .val (.int (2 : Int32)), .val (.ref b1), .unset, .unset] [(.int p3), (.int (1 : Int32)), (.ref b1)])) _
    refine XS.i2b X3.here hx rfl (hb hby at_35) rfl ?_
    show Steps p.tables e below (T3.setTop (mkF m 36 #[.val (.int p1), .val (.int p2), .val (.int p3), .val (.int p4), .val (.int p5), .val (.int p6), .val (.int (2 : Int32)), .val (.ref b1), .unset, .unset] [(.int (p3.toInt8.toInt32)), (.int (1 : Int32)), (.ref b1)])) _
    refine st5 _ ?_
    show Steps p.tables e below (T5.setTop (mkF m 37 #[.val (.int p1), .val (.int p2), .val (.int p3), .val (.int p4), .val (.int p5), .val (.int p6), .val (.int (2 : Int32)), .val (.ref b1), .unset, .unset] [])) _
    refine XS.iload X5.here hx rfl (hb hby at_37) rfl ?_
    show Steps p.tables e below (T5.setTop (mkF m 39 #[.val (.int p1), .val (.int p2), .val (.int p3), .val (.int p4), .val (.int p5), .val (.int p6), .val (.int (2 : Int32)), .val (.ref b1), .unset, .unset] [(.int (2 : Int32))])) _
    refine XS.iconst X5.here hx rfl (hb hby at_39) ?_
    show Steps p.tables e below (T5.setTop (mkF m 40 #[.val (.int p1), .val (.int p2), .val (.int p3), .val (.int p4), .val (.int p5), .val (.int p6), .val (.int (2 : Int32)), .val (.ref b1), .unset, .unset] [(.int (2 : Int32)), (.int (2 : Int32))])) _
    refine XS.icmpYes X5.here hx rfl (pc0 := 40) (pc' := 49) rfl (hb hby at_40) rfl (flt ((by decide) : ¬ ((2 : Int32) < (2 : Int32)))).2.2.2 (by decide) (by decide) ?_
    show Steps p.tables e below (T5.setTop (mkF m 49 #[.val (.int p1), .val (.int p2), .val (.int p3), .val (.int p4), .val (.int p5), .val (.int p6), .val (.int (2 : Int32)), .val (.ref b1), .unset, .unset] [])) _
    refine XS.iload X5.here hx rfl (hb hby at_49) rfl ?_
    show Steps p.tables e below (T5.setTop (mkF m 51 #[.val (.int p1), .val (.int p2), .val (.int p3), .val (.int p4), .val (.int p5), .val (.int p6), .val (.int (2 : Int32)), .val (.ref b1), .unset, .unset] [(.int (2 : Int32))])) _
    refine XS.iconst X5.here hx rfl (hb hby at_51) ?_
    show Steps p.tables e below (T5.setTop (mkF m 52 #[.val (.int p1), .val (.int p2), .val (.int p3), .val (.int p4), .val (.int p5), .val (.int p6), .val (.int (2 : Int32)), .val (.ref b1), .unset, .unset] [(.int (3 : Int32)), (.int (2 : Int32))])) _
    refine XS.icmpYes X5.here hx rfl (pc0 := 52) (pc' := 62) rfl (hb hby at_52) rfl (flt ((by decide) : ¬ ((3 : Int32) < (2 : Int32)))).2.2.2 (by decide) (by decide) ?_
    show Steps p.tables e below (T5.setTop (mkF m 62 #[.val (.int p1), .val (.int p2), .val (.int p3), .val (.int p4), .val (.int p5), .val (.int p6), .val (.int (2 : Int32)), .val (.ref b1), .unset, .unset] [])) _
    refine XS.aload X5.here hx rfl (hb hby at_62) rfl rfl ?_
    show Steps p.tables e below (T5.setTop (mkF m 64 #[.val (.int p1), .val (.int p2), .val (.int p3), .val (.int p4), .val (.int p5), .val (.int p6), .val (.int (2 : Int32)), .val (.ref b1), .unset, .unset] [(.ref b1)])) _
    refine st6 _ ?_
    show Steps p.tables e below (T6.setTop (mkF m 67 #[.val (.int p1), .val (.int p2), .val (.int p3), .val (.int p4), .val (.int p5), .val (.int p6), .val (.int (2 : Int32)), .val (.ref b1), .unset, .unset] [(.ref b6_b1)])) _
    refine XS.astore X6.here hx rfl (hb hby at_67) rfl rfl (l' := #[.val (.int p1), .val (.int p2), .val (.int p3), .val (.int p4), .val (.int p5), .val (.int p6), .val (.int (2 : Int32)), .val (.ref b1), .val (.ref b6_b1), .unset]) rfl ?_
    show Steps p.tables e below (T6.setTop (mkF m 69 #[.val (.int p1), .val (.int p2), .val (.int p3), .val (.int p4), .val (.int p5), .val (.int p6), .val (.int (2 : Int32)), .val (.ref b1), .val (.ref b6_b1), .unset] [])) _
    refine XS.iload X6.here hx rfl (hb hby at_69) rfl ?_
    show Steps p.tables e below (T6.setTop (mkF m 71 #[.val (.int p1), .val (.int p2), .val (.int p3), .val (.int p4), .val (.int p5), .val (.int p6), .val (.int (2 : Int32)), .val (.ref b1), .val (.ref b6_b1), .unset] [(.int (2 : Int32))])) _
    refine XS.ifNo X6.here hx rfl (hb hby at_71) rfl ((if0 _ _).trans (tlt ((by decide) : (0 : Int32) < (2 : Int32))).2.2.2) ?_
    show Steps p.tables e below (T6.setTop (mkF m 74 #[.val (.int p1), .val (.int p2), .val (.int p3), .val (.int p4), .val (.int p5), .val (.int p6), .val (.int (2 : Int32)), .val (.ref b1), .val (.ref b6_b1), .unset] [])) _
    refine XS.iload X6.here hx rfl (hb hby at_74) rfl ?_
    show Steps p.tables e below (T6.setTop (mkF m 76 #[.val (.int p1), .val (.int p2), .val (.int p3), .val (.int p4), .val (.int p5), .val (.int p6), .val (.int (2 : Int32)), .val (.ref b1), .val (.ref b6_b1), .unset] [(.int p6)])) _
    refine X6.ldcInt hx hown (mvT hZ (hw _ (List.mem_of_getElem? (i := 0) rfl))) (g := (mkF m 76 #[.val (.int p1), .val (.int p2), .val (.int p3), .val (.int p4), .val (.int p5), .val (.int p6), .val (.int (2 : Int32)), .val (.ref b1), .val (.ref b6_b1), .unset] [(.int p6)])) rfl (hb hby at_76) _ ?_
    show Steps p.tables e below (T6.setTop (mkF m 78 #[.val (.int p1), .val (.int p2), .val (.int p3), .val (.int p4), .val (.int p5), .val (.int p6), .val (.int (2 : Int32)), .val (.ref b1), .val (.ref b6_b1), .unset] [(.int (2147483647 : Int32)), (.int p6)])) _
    refine XS.iand X6.here hx rfl (hb hby at_78) rfl ?_
    show Steps p.tables e below (T6.setTop (mkF m 79 #[.val (.int p1), .val (.int p2), .val (.int p3), .val (.int p4), .val (.int p5), .val (.int p6), .val (.int (2 : Int32)), .val (.ref b1), .val (.ref b6_b1), .unset] [(.int (p6 &&& (2147483647 : Int32)))])) _
    refine XS.iload X6.here hx rfl (hb hby at_79) rfl ?_
    show Steps p.tables e below (T6.setTop (mkF m 81 #[.val (.int p1), .val (.int p2), .val (.int p3), .val (.int p4), .val (.int p5), .val (.int p6), .val (.int (2 : Int32)), .val (.ref b1), .val (.ref b6_b1), .unset] [(.int (2 : Int32)), (.int (p6 &&& (2147483647 : Int32)))])) _
    refine iremM X6 hx rfl (hb hby at_81) rfl (by decide) ?_
    show Steps p.tables e below (T6.setTop (mkF m 82 #[.val (.int p1), .val (.int p2), .val (.int p3), .val (.int p4), .val (.int p5), .val (.int p6), .val (.int (2 : Int32)), .val (.ref b1), .val (.ref b6_b1), .unset] [(.int ((p6 &&& (2147483647 : Int32)) % (2 : Int32)))])) _
    rw [hi]
    show Steps p.tables e below (T6.setTop (mkF m 82 #[.val (.int p1), .val (.int p2), .val (.int p3), .val (.int p4), .val (.int p5), .val (.int p6), .val (.int (2 : Int32)), .val (.ref b1), .val (.ref b6_b1), .unset] [(.int (0 : Int32))])) _
    refine XS.istore X6.here hx rfl (hb hby at_82) rfl (l' := #[.val (.int p1), .val (.int p2), .val (.int p3), .val (.int p4), .val (.int p5), .val (.int p6), .val (.int (2 : Int32)), .val (.ref b1), .val (.ref b6_b1), .val (.int (0 : Int32))]) rfl ?_
    show Steps p.tables e below (T6.setTop (mkF m 84 #[.val (.int p1), .val (.int p2), .val (.int p3), .val (.int p4), .val (.int p5), .val (.int p6), .val (.int (2 : Int32)), .val (.ref b1), .val (.ref b6_b1), .val (.int (0 : Int32))] [])) _
    refine XS.aload X6.here hx rfl (hb hby at_84) rfl rfl ?_
    show Steps p.tables e below (T6.setTop (mkF m 86 #[.val (.int p1), .val (.int p2), .val (.int p3), .val (.int p4), .val (.int p5), .val (.int p6), .val (.int (2 : Int32)), .val (.ref b1), .val (.ref b6_b1), .val (.int (0 : Int32))] [(.ref b1)])) _
    refine XS.iload X6.here hx rfl (hb hby at_86) rfl ?_
    show Steps p.tables e below (T6.setTop (mkF m 88 #[.val (.int p1), .val (.int p2), .val (.int p3), .val (.int p4), .val (.int p5), .val (.int p6), .val (.int (2 : Int32)), .val (.ref b1), .val (.ref b6_b1), .val (.int (0 : Int32))] [(.int (0 : Int32)), (.ref b1)])) _
    refine XS.aload X6.here hx rfl (hb hby at_88) rfl rfl ?_
    show Steps p.tables e below (T6.setTop (mkF m 90 #[.val (.int p1), .val (.int p2), .val (.int p3), .val (.int p4), .val (.int p5), .val (.int p6), .val (.int (2 : Int32)), .val (.ref b1), .val (.ref b6_b1), .val (.int (0 : Int32))] [(.ref b1), (.int (0 : Int32)), (.ref b1)])) _
    refine XS.iload X6.here hx rfl (hb hby at_90) rfl ?_
    show Steps p.tables e below (T6.setTop (mkF m 92 #[.val (.int p1), .val (.int p2), .val (.int p3), .val (.int p4), .val (.int p5), .val (.int p6), .val (.int (2 : Int32)), .val (.ref b1), .val (.ref b6_b1), .val (.int (0 : Int32))] [(.int (0 : Int32)), (.ref b1), (.int (0 : Int32)), (.ref b1)])) _
    refine X6.baloadBytes hx (j := (0 : Int32)) (v := (.int (p2.toInt8.toInt32))) Ar7.1 (State.isArrayOf_alike hZ.alike Ar7.2.1) Ar7.2.2 hin7 hat7 (g := (mkF m 92 #[.val (.int p1), .val (.int p2), .val (.int p3), .val (.int p4), .val (.int p5), .val (.int p6), .val (.int (2 : Int32)), .val (.ref b1), .val (.ref b6_b1), .val (.int (0 : Int32))] [(.int (0 : Int32)), (.ref b1), (.int (0 : Int32)), (.ref b1)])) rfl rfl (hb hby at_92) _ ?_
    show Steps p.tables e below (T6.setTop (mkF m 93 #[.val (.int p1), .val (.int p2), .val (.int p3), .val (.int p4), .val (.int p5), .val (.int p6), .val (.int (2 : Int32)), .val (.ref b1), .val (.ref b6_b1), .val (.int (0 : Int32))] [(.int (p2.toInt8.toInt32)), (.int (0 : Int32)), (.ref b1)])) _
    refine XS.iconst X6.here hx rfl (hb hby at_93) ?_
    show Steps p.tables e below (T6.setTop (mkF m 94 #[.val (.int p1), .val (.int p2), .val (.int p3), .val (.int p4), .val (.int p5), .val (.int p6), .val (.int (2 : Int32)), .val (.ref b1), .val (.ref b6_b1), .val (.int (0 : Int32))] [(.int (-1 : Int32)), (.int (p2.toInt8.toInt32)), (.int (0 : Int32)), (.ref b1)])) _
    refine XS.ixor X6.here hx rfl (hb hby at_94) rfl ?_
    show Steps p.tables e below (T6.setTop (mkF m 95 #[.val (.int p1), .val (.int p2), .val (.int p3), .val (.int p4), .val (.int p5), .val (.int p6), .val (.int (2 : Int32)), .val (.ref b1), .val (.ref b6_b1), .val (.int (0 : Int32))] [(.int ((p2.toInt8.toInt32) ^^^ (-1 : Int32))), (.int (0 : Int32)), (.ref b1)])) _
    refine XS.i2b X6.here hx rfl (hb hby at_95) rfl ?_
    show Steps p.tables e below (T6.setTop (mkF m 96 #[.val (.int p1), .val (.int p2), .val (.int p3), .val (.int p4), .val (.int p5), .val (.int p6), .val (.int (2 : Int32)), .val (.ref b1), .val (.ref b6_b1), .val (.int (0 : Int32))] [(.int (((p2.toInt8.toInt32) ^^^ (-1 : Int32)).toInt8.toInt32)), (.int (0 : Int32)), (.ref b1)])) _
    refine st9 _ ?_
    show Steps p.tables e below (T9.setTop (mkF m 97 #[.val (.int p1), .val (.int p2), .val (.int p3), .val (.int p4), .val (.int p5), .val (.int p6), .val (.int (2 : Int32)), .val (.ref b1), .val (.ref b6_b1), .val (.int (0 : Int32))] [])) _
    refine XS.aload X9.here hx rfl (hb hby at_97) rfl rfl ?_
    show Steps p.tables e below (T9.setTop (mkF m 99 #[.val (.int p1), .val (.int p2), .val (.int p3), .val (.int p4), .val (.int p5), .val (.int p6), .val (.int (2 : Int32)), .val (.ref b1), .val (.ref b6_b1), .val (.int (0 : Int32))] [(.ref b6_b1)])) _
    refine st10.trans ?_
    show Steps p.tables e below (T10.setTop (mkF m 102 #[.val (.int p1), .val (.int p2), .val (.int p3), .val (.int p4), .val (.int p5), .val (.int p6), .val (.int (2 : Int32)), .val (.ref b1), .val (.ref b6_b1), .val (.int (0 : Int32))] [(.ref w_n1)])) _
    refine st11 _ ?_
    show Steps p.tables e below (T11.setTop (mkF m 105 #[.val (.int p1), .val (.int p2), .val (.int p3), .val (.int p4), .val (.int p5), .val (.int p6), .val (.int (2 : Int32)), .val (.ref b1), .val (.ref b6_b1), .val (.int (0 : Int32))] [(.ref w_n1), (.ref w_n1)])) _
    refine Jvm.RoadKit.acmp (g := (mkF m 105 #[.val (.int p1), .val (.int p2), .val (.int p3), .val (.int p4), .val (.int p5), .val (.int p6), .val (.int (2 : Int32)), .val (.ref b1), .val (.ref b6_b1), .val (.int (0 : Int32))] [(.ref w_n1), (.ref w_n1)])) X11 hx rfl rfl rfl (pc0 := 105) (pc' := 110) (same := true) rfl (hb hby at_105) rfl (decide_eq_true rfl) (by decide) (by decide) ?_
    show Steps p.tables e below (T11.setTop (mkF m 110 #[.val (.int p1), .val (.int p2), .val (.int p3), .val (.int p4), .val (.int p5), .val (.int p6), .val (.int (2 : Int32)), .val (.ref b1), .val (.ref b6_b1), .val (.int (0 : Int32))] [])) _
    refine XS.aload X11.here hx rfl (hb hby at_110) rfl rfl ?_
    show Steps p.tables e below (T11.setTop (mkF m 112 #[.val (.int p1), .val (.int p2), .val (.int p3), .val (.int p4), .val (.int p5), .val (.int p6), .val (.int (2 : Int32)), .val (.ref b1), .val (.ref b6_b1), .val (.int (0 : Int32))] [(.ref b6_b1)])) _
    refine st12.trans ?_
    show Steps p.tables e below (T12.setTop (mkF m 115 #[.val (.int p1), .val (.int p2), .val (.int p3), .val (.int p4), .val (.int p5), .val (.int p6), .val (.int (2 : Int32)), .val (.ref b1), .val (.ref b6_b1), .val (.int (0 : Int32))] [(.int (2 : Int32))])) _
    refine XS.iload X12.here hx rfl (hb hby at_115) rfl ?_
    show Steps p.tables e below (T12.setTop (mkF m 117 #[.val (.int p1), .val (.int p2), .val (.int p3), .val (.int p4), .val (.int p5), .val (.int p6), .val (.int (2 : Int32)), .val (.ref b1), .val (.ref b6_b1), .val (.int (0 : Int32))] [(.int (2 : Int32)), (.int (2 : Int32))])) _
    refine XS.icmpYes X12.here hx rfl (pc0 := 117) (pc' := 122) rfl (hb hby at_117) rfl (teq ((by decide) : (2 : Int32) = (2 : Int32))).1 (by decide) (by decide) ?_
    show Steps p.tables e below (T12.setTop (mkF m 122 #[.val (.int p1), .val (.int p2), .val (.int p3), .val (.int p4), .val (.int p5), .val (.int p6), .val (.int (2 : Int32)), .val (.ref b1), .val (.ref b6_b1), .val (.int (0 : Int32))] [])) _
    refine XS.aload X12.here hx rfl (hb hby at_122) rfl rfl ?_
    show Steps p.tables e below (T12.setTop (mkF m 124 #[.val (.int p1), .val (.int p2), .val (.int p3), .val (.int p4), .val (.int p5), .val (.int p6), .val (.int (2 : Int32)), .val (.ref b1), .val (.ref b6_b1), .val (.int (0 : Int32))] [(.ref b6_b1)])) _
    refine st13.trans ?_
    show Steps p.tables e below (T13.setTop (mkF m 127 #[.val (.int p1), .val (.int p2), .val (.int p3), .val (.int p4), .val (.int p5), .val (.int p6), .val (.int (2 : Int32)), .val (.ref b1), .val (.ref b6_b1), .val (.int (0 : Int32))] [(.ref b13_b4)])) _
    refine XS.astore X13.here hx rfl (hb hby at_127) rfl rfl (l' := #[.val (.int p1), .val (.int p2), .val (.int p3), .val (.int p4), .val (.int p5), .val (.int p6), .val (.int (2 : Int32)), .val (.ref b1), .val (.ref b6_b1), .val (.ref b13_b4)]) rfl ?_
    show Steps p.tables e below (T13.setTop (mkF m 129 #[.val (.int p1), .val (.int p2), .val (.int p3), .val (.int p4), .val (.int p5), .val (.int p6), .val (.int (2 : Int32)), .val (.ref b1), .val (.ref b6_b1), .val (.ref b13_b4)] [])) _
    refine XS.aload X13.here hx rfl (hb hby at_129) rfl rfl ?_
    show Steps p.tables e below (T13.setTop (mkF m 131 #[.val (.int p1), .val (.int p2), .val (.int p3), .val (.int p4), .val (.int p5), .val (.int p6), .val (.int (2 : Int32)), .val (.ref b1), .val (.ref b6_b1), .val (.ref b13_b4)] [(.ref b13_b4)])) _
    refine X13.arraylength hx Ar14.1 (State.isArrayOf_alike hZ.alike Ar14.2.1) (g := (mkF m 131 #[.val (.int p1), .val (.int p2), .val (.int p3), .val (.int p4), .val (.int p5), .val (.int p6), .val (.int (2 : Int32)), .val (.ref b1), .val (.ref b6_b1), .val (.ref b13_b4)] [(.ref b13_b4)])) rfl rfl (hb hby at_131) _ ?_
    rw [len_of Sz14 Nz14]
    show Steps p.tables e below (T13.setTop (mkF m 132 #[.val (.int p1), .val (.int p2), .val (.int p3), .val (.int p4), .val (.int p5), .val (.int p6), .val (.int (2 : Int32)), .val (.ref b1), .val (.ref b6_b1), .val (.ref b13_b4)] [(.int (2 : Int32))])) _
    refine XS.iload X13.here hx rfl (hb hby at_132) rfl ?_
    show Steps p.tables e below (T13.setTop (mkF m 134 #[.val (.int p1), .val (.int p2), .val (.int p3), .val (.int p4), .val (.int p5), .val (.int p6), .val (.int (2 : Int32)), .val (.ref b1), .val (.ref b6_b1), .val (.ref b13_b4)] [(.int (2 : Int32)), (.int (2 : Int32))])) _
    refine XS.icmpYes X13.here hx rfl (pc0 := 134) (pc' := 139) rfl (hb hby at_134) rfl (teq ((by decide) : (2 : Int32) = (2 : Int32))).1 (by decide) (by decide) ?_
    show Steps p.tables e below (T13.setTop (mkF m 139 #[.val (.int p1), .val (.int p2), .val (.int p3), .val (.int p4), .val (.int p5), .val (.int p6), .val (.int (2 : Int32)), .val (.ref b1), .val (.ref b6_b1), .val (.ref b13_b4)] [])) _
    refine XS.iload X13.here hx rfl (hb hby at_139) rfl ?_
    show Steps p.tables e below (T13.setTop (mkF m 141 #[.val (.int p1), .val (.int p2), .val (.int p3), .val (.int p4), .val (.int p5), .val (.int p6), .val (.int (2 : Int32)), .val (.ref b1), .val (.ref b6_b1), .val (.ref b13_b4)] [(.int (2 : Int32))])) _
    refine XS.ifNo X13.here hx rfl (hb hby at_141) rfl ((if0 _ _).trans (tlt ((by decide) : (0 : Int32) < (2 : Int32))).2.2.2) ?_
    show Steps p.tables e below (T13.setTop (mkF m 144 #[.val (.int p1), .val (.int p2), .val (.int p3), .val (.int p4), .val (.int p5), .val (.int p6), .val (.int (2 : Int32)), .val (.ref b1), .val (.ref b6_b1), .val (.ref b13_b4)] [])) _
    refine XS.aload X13.here hx rfl (hb hby at_144) rfl rfl ?_
    show Steps p.tables e below (T13.setTop (mkF m 146 #[.val (.int p1), .val (.int p2), .val (.int p3), .val (.int p4), .val (.int p5), .val (.int p6), .val (.int (2 : Int32)), .val (.ref b1), .val (.ref b6_b1), .val (.ref b13_b4)] [(.ref b13_b4)])) _
    refine XS.iconst X13.here hx rfl (hb hby at_146) ?_
    show Steps p.tables e below (T13.setTop (mkF m 147 #[.val (.int p1), .val (.int p2), .val (.int p3), .val (.int p4), .val (.int p5), .val (.int p6), .val (.int (2 : Int32)), .val (.ref b1), .val (.ref b6_b1), .val (.ref b13_b4)] [(.int (0 : Int32)), (.ref b13_b4)])) _
    refine X13.baloadBytes hx (j := (0 : Int32)) (v := (.int (p2.toInt8.toInt32))) Ar15.1 (State.isArrayOf_alike hZ.alike Ar15.2.1) Ar15.2.2 hin15 hat15 (g := (mkF m 147 #[.val (.int p1), .val (.int p2), .val (.int p3), .val (.int p4), .val (.int p5), .val (.int p6), .val (.int (2 : Int32)), .val (.ref b1), .val (.ref b6_b1), .val (.ref b13_b4)] [(.int (0 : Int32)), (.ref b13_b4)])) rfl rfl (hb hby at_147) _ ?_
    show Steps p.tables e below (T13.setTop (mkF m 148 #[.val (.int p1), .val (.int p2), .val (.int p3), .val (.int p4), .val (.int p5), .val (.int p6), .val (.int (2 : Int32)), .val (.ref b1), .val (.ref b6_b1), .val (.ref b13_b4)] [(.int (p2.toInt8.toInt32))])) _
    refine XS.iloadN X13.here hx rfl (hb hby at_148) rfl ?_
    show Steps p.tables e below (T13.setTop (mkF m 149 #[.val (.int p1), .val (.int p2), .val (.int p3), .val (.int p4), .val (.int p5), .val (.int p6), .val (.int (2 : Int32)), .val (.ref b1), .val (.ref b6_b1), .val (.ref b13_b4)] [(.int p2), (.int (p2.toInt8.toInt32))])) _
    refine XS.i2b X13.here hx rfl (hb hby at_149) rfl ?_
    show Steps p.tables e below (T13.setTop (mkF m 150 #[.val (.int p1), .val (.int p2), .val (.int p3), .val (.int p4), .val (.int p5), .val (.int p6), .val (.int (2 : Int32)), .val (.ref b1), .val (.ref b6_b1), .val (.ref b13_b4)] [(.int (p2.toInt8.toInt32)), (.int (p2.toInt8.toInt32))])) _
    refine XS.icmpYes X13.here hx rfl (pc0 := 150) (pc' := 155) rfl (hb hby at_150) rfl (teq (rfl : (p2.toInt8.toInt32) = (p2.toInt8.toInt32))).1 (by decide) (by decide) ?_
    show Steps p.tables e below (T13.setTop (mkF m 155 #[.val (.int p1), .val (.int p2), .val (.int p3), .val (.int p4), .val (.int p5), .val (.int p6), .val (.int (2 : Int32)), .val (.ref b1), .val (.ref b6_b1), .val (.ref b13_b4)] [])) _
    refine XS.iload X13.here hx rfl (hb hby at_155) rfl ?_
    show Steps p.tables e below (T13.setTop (mkF m 157 #[.val (.int p1), .val (.int p2), .val (.int p3), .val (.int p4), .val (.int p5), .val (.int p6), .val (.int (2 : Int32)), .val (.ref b1), .val (.ref b6_b1), .val (.ref b13_b4)] [(.int (2 : Int32))])) _
    refine XS.iconst X13.here hx rfl (hb hby at_157) ?_
    show Steps p.tables e below (T13.setTop (mkF m 158 #[.val (.int p1), .val (.int p2), .val (.int p3), .val (.int p4), .val (.int p5), .val (.int p6), .val (.int (2 : Int32)), .val (.ref b1), .val (.ref b6_b1), .val (.ref b13_b4)] [(.int (1 : Int32)), (.int (2 : Int32))])) _
    refine XS.icmpNo X13.here hx rfl (hb hby at_158) rfl (tlt ((by decide) : (1 : Int32) < (2 : Int32))).2.2.2 ?_
    show Steps p.tables e below (T13.setTop (mkF m 161 #[.val (.int p1), .val (.int p2), .val (.int p3), .val (.int p4), .val (.int p5), .val (.int p6), .val (.int (2 : Int32)), .val (.ref b1), .val (.ref b6_b1), .val (.ref b13_b4)] [])) _
    refine XS.aload X13.here hx rfl (hb hby at_161) rfl rfl ?_
    show Steps p.tables e below (T13.setTop (mkF m 163 #[.val (.int p1), .val (.int p2), .val (.int p3), .val (.int p4), .val (.int p5), .val (.int p6), .val (.int (2 : Int32)), .val (.ref b1), .val (.ref b6_b1), .val (.ref b13_b4)] [(.ref b13_b4)])) _
    refine XS.iconst X13.here hx rfl (hb hby at_163) ?_
    show Steps p.tables e below (T13.setTop (mkF m 164 #[.val (.int p1), .val (.int p2), .val (.int p3), .val (.int p4), .val (.int p5), .val (.int p6), .val (.int (2 : Int32)), .val (.ref b1), .val (.ref b6_b1), .val (.ref b13_b4)] [(.int (1 : Int32)), (.ref b13_b4)])) _
    refine X13.baloadBytes hx (j := (1 : Int32)) (v := (.int (p3.toInt8.toInt32))) Ar16.1 (State.isArrayOf_alike hZ.alike Ar16.2.1) Ar16.2.2 hin16 hat16 (g := (mkF m 164 #[.val (.int p1), .val (.int p2), .val (.int p3), .val (.int p4), .val (.int p5), .val (.int p6), .val (.int (2 : Int32)), .val (.ref b1), .val (.ref b6_b1), .val (.ref b13_b4)] [(.int (1 : Int32)), (.ref b13_b4)])) rfl rfl (hb hby at_164) _ ?_
    show Steps p.tables e below (T13.setTop (mkF m 165 #[.val (.int p1), .val (.int p2), .val (.int p3), .val (.int p4), .val (.int p5), .val (.int p6), .val (.int (2 : Int32)), .val (.ref b1), .val (.ref b6_b1), .val (.ref b13_b4)] [(.int (p3.toInt8.toInt32))])) _
    refine XS.iloadN X13.here hx rfl (hb hby at_165) rfl ?_
    show Steps p.tables e below (T13.setTop (mkF m 166 #[.val (.int p1), .val (.int p2), .val (.int p3), .val (.int p4), .val (.int p5), .val (.int p6), .val (.int (2 : Int32)), .val (.ref b1), .val (.ref b6_b1), .val (.ref b13_b4)] [(.int p3), (.int (p3.toInt8.toInt32))])) _
    refine XS.i2b X13.here hx rfl (hb hby at_166) rfl ?_
    show Steps p.tables e below (T13.setTop (mkF m 167 #[.val (.int p1), .val (.int p2), .val (.int p3), .val (.int p4), .val (.int p5), .val (.int p6), .val (.int (2 : Int32)), .val (.ref b1), .val (.ref b6_b1), .val (.ref b13_b4)] [(.int (p3.toInt8.toInt32)), (.int (p3.toInt8.toInt32))])) _
    refine XS.icmpYes X13.here hx rfl (pc0 := 167) (pc' := 172) rfl (hb hby at_167) rfl (teq (rfl : (p3.toInt8.toInt32) = (p3.toInt8.toInt32))).1 (by decide) (by decide) ?_
    show Steps p.tables e below (T13.setTop (mkF m 172 #[.val (.int p1), .val (.int p2), .val (.int p3), .val (.int p4), .val (.int p5), .val (.int p6), .val (.int (2 : Int32)), .val (.ref b1), .val (.ref b6_b1), .val (.ref b13_b4)] [])) _
    refine XS.iload X13.here hx rfl (hb hby at_172) rfl ?_
    show Steps p.tables e below (T13.setTop (mkF m 174 #[.val (.int p1), .val (.int p2), .val (.int p3), .val (.int p4), .val (.int p5), .val (.int p6), .val (.int (2 : Int32)), .val (.ref b1), .val (.ref b6_b1), .val (.ref b13_b4)] [(.int (2 : Int32))])) _
    refine XS.iconst X13.here hx rfl (hb hby at_174) ?_
    show Steps p.tables e below (T13.setTop (mkF m 175 #[.val (.int p1), .val (.int p2), .val (.int p3), .val (.int p4), .val (.int p5), .val (.int p6), .val (.int (2 : Int32)), .val (.ref b1), .val (.ref b6_b1), .val (.ref b13_b4)] [(.int (2 : Int32)), (.int (2 : Int32))])) _
    refine XS.icmpYes X13.here hx rfl (pc0 := 175) (pc' := 189) rfl (hb hby at_175) rfl (flt ((by decide) : ¬ ((2 : Int32) < (2 : Int32)))).2.2.2 (by decide) (by decide) ?_
    show Steps p.tables e below (T13.setTop (mkF m 189 #[.val (.int p1), .val (.int p2), .val (.int p3), .val (.int p4), .val (.int p5), .val (.int p6), .val (.int (2 : Int32)), .val (.ref b1), .val (.ref b6_b1), .val (.ref b13_b4)] [])) _
    refine XS.iload X13.here hx rfl (hb hby at_189) rfl ?_
    show Steps p.tables e below (T13.setTop (mkF m 191 #[.val (.int p1), .val (.int p2), .val (.int p3), .val (.int p4), .val (.int p5), .val (.int p6), .val (.int (2 : Int32)), .val (.ref b1), .val (.ref b6_b1), .val (.ref b13_b4)] [(.int (2 : Int32))])) _
    refine XS.iconst X13.here hx rfl (hb hby at_191) ?_
    show Steps p.tables e below (T13.setTop (mkF m 192 #[.val (.int p1), .val (.int p2), .val (.int p3), .val (.int p4), .val (.int p5), .val (.int p6), .val (.int (2 : Int32)), .val (.ref b1), .val (.ref b6_b1), .val (.ref b13_b4)] [(.int (3 : Int32)), (.int (2 : Int32))])) _
    refine XS.icmpYes X13.here hx rfl (pc0 := 192) (pc' := 207) rfl (hb hby at_192) rfl (flt ((by decide) : ¬ ((3 : Int32) < (2 : Int32)))).2.2.2 (by decide) (by decide) ?_
    show Steps p.tables e below (T13.setTop (mkF m 207 #[.val (.int p1), .val (.int p2), .val (.int p3), .val (.int p4), .val (.int p5), .val (.int p6), .val (.int (2 : Int32)), .val (.ref b1), .val (.ref b6_b1), .val (.ref b13_b4)] [])) _
    refine XS.iconst X13.here hx rfl (hb hby at_207) ?_
    show Steps p.tables e below (T13.setTop (mkF m 208 #[.val (.int p1), .val (.int p2), .val (.int p3), .val (.int p4), .val (.int p5), .val (.int p6), .val (.int (2 : Int32)), .val (.ref b1), .val (.ref b6_b1), .val (.ref b13_b4)] [(.int (1 : Int32))])) _
    exact retN X13 hx (t := .boolean) Bd.returns (by simp) (hb hby at_208) hr
  · show Q0 n0 _ T13.heap _
    exact ⟨rfl, N13⟩
set_option maxRecDepth 65536 in
set_option maxHeartbeats 40000000 in
theorem rm0_21 (l : Launch) (Z : State) (a0 : Array Value) (hw : ∀ d ∈ tables_1, d.before a0 Z = true) (ws : List Jvm.Cond) {w_n1 : Addr} {w_n0 : Addr} {k_n0 : ClassId} (W : Wd Z w_n1 w_n0 k_n0) (p1 : Int32) (p2 : Int32) (p3 : Int32) (p4 : Int32) (p5 : Int32) (p6 : Int32) (h0 : Heap) (n0 : Nat) (O0 : Old Z n0 h0) (hk : ((p1 &&& (2147483647 : Int32)) % (5 : Int32)) = (2 : Int32)) (hi : ((p6 &&& (2147483647 : Int32)) % (2 : Int32)) = (1 : Int32)) :
    MetFree l x (head1 (Jvm.Cond.code x code maxLocals ret :: ws) room_1) (fun a U => a = #[(.int p1), (.int p2), (.int p3), (.int p4), (.int p5), (.int p6)] ∧ Z.Warmed39 U.vm ∧ U.heap = h0) (fun _ _ _ _ _ => True) (fun _ U o U' => ∃ v L, o = .returned v ∧ Q0 n0 v U'.heap L ∧ FrameEnd U o U' L room_1.cells room_1.slots) := by
  have W' := W; obtain ⟨S_n1, E_n1, S_n0, F_n1_ordinal, V_n0⟩ := W'
  refine MetFree.of_bodySF (plainFor_of_name pn_0) hisR ?_
  intro p e s m args below meth c s₁ Bd hml0 hP hK
  obtain ⟨rfl, hZ, hh⟩ := hP
  have hx := Bd.exec
  have hby := Bd.bytes
  have hml : c.maxLocals = 10 := hml0
  have hown : s.vm.findClass "com/example/keyfold/keyfold/core/ValueOfBinary193PinLaw" = some m.cls := findClass_of_methodNamed Bd.named
  have hnm := (name_of_methodNamed Bd.named Bd.method).1
  have X0 : Stand p l e room_1 s m #[(.int p1), (.int p2), (.int p3), (.int p4), (.int p5), (.int p6)] below meth c s₁ [] 0 0 := Stand.of_body Bd
  have e0 : s₁.heap = h0 := by rw [← hh, Bd.state]; rfl
  have N0 := Fr.nil n0
  have pre0 : ∀ t, Steps p.tables e below (s₁.setTop (mkF m 0 #[.val (.int p1), .val (.int p2), .val (.int p3), .val (.int p4), .val (.int p5), .val (.int p6), .unset, .unset, .unset, .unset] [])) t → Steps p.tables e below (s₁.setTop (entryFrame m #[(.int p1), (.int p2), (.int p3), (.int p4), (.int p5), (.int p6)] maxLocals)) t := fun t k => castTop (ef_0_7 m p1 p2 p3 p4 p5 p6) k
  obtain ⟨T1, h1, k1, X1, e1, E1, A1, B1, st1⟩ := newPE X0 hx hZ (hw _ (List.mem_of_getElem? (i := 1) rfl)) e0 (g := (mkF m 10 #[.val (.int p1), .val (.int p2), .val (.int p3), .val (.int p4), .val (.int p5), .val (.int p6), .val (.int (2 : Int32)), .unset, .unset, .unset] [(.int (2 : Int32))])) rfl (hb hby at_10) rfl (by decide) (cap := 2) (by decide) (by decide) (by decide) (by decide) (ad := "[B") (by decide)
  obtain ⟨b1, g1⟩ : ∃ z, z = h0.size := ⟨_, rfl⟩
  rw [← g1] at A1 B1 st1
  have g_b1 : n0 ≤ b1 := by rw [g1]; exact O0.1 ▸ O0.2.1
  have O1 := O0.ext E1
  have fv1 : Arv Z h1 b1 k1 .byte (2 : Int32) [(.int (0 : Int32)), (.int (0 : Int32))] (.int (0 : Int32)) := (Arv.new A1 (by decide)).pad (pad_rep [] (.int (0 : Int32)) 2)
  obtain ⟨cl2, Ar2, qk2, Sz2, Nz2, Hs2, Gs2⟩ := id fv1
  have hin2 : ¬ ((0 : Int32) < 0 ∨ cl2.slots.size ≤ ((0 : Int32)).toNatClampNeg) := inb_of Sz2 ⟨by decide, by decide⟩
  obtain ⟨T3, h3, X3, e3, W3, st3⟩ := stB X1 hx hZ e1 Ar2 (j := (0 : Int32)) hin2  (g := (mkF m 24 #[.val (.int p1), .val (.int p2), .val (.int p3), .val (.int p4), .val (.int p5), .val (.int p6), .val (.int (2 : Int32)), .val (.ref b1), .unset, .unset] [(.int (p2.toInt8.toInt32)), (.int (0 : Int32)), (.ref b1)])) rfl rfl (hb hby at_24)
  rw [show nar .byte (p2.toInt8.toInt32) = (p2.toInt8.toInt32) from own_byte _] at W3
  have fw3 : Arv Z h3 b1 k1 .byte (2 : Int32) [(.int (p2.toInt8.toInt32)), (.int (0 : Int32))] (.int (0 : Int32)) := Arv.set Ar2 qk2 Sz2 Nz2 Hs2 Gs2 (fits_nar_byte _) W3 0 rfl (Nat.le_of_ble_eq_true rfl)
  have f3_0 : Exa Z h3 b1 "[B" := (B1).wr W3
  have O3 := O1.wr W3 g_b1
  have N3 := Fr.snoc X3 N0 g_b1
  obtain ⟨cl4, Ar4, qk4, Sz4, Nz4, Hs4, Gs4⟩ := id fw3
  have hin4 : ¬ ((1 : Int32) < 0 ∨ cl4.slots.size ≤ ((1 : Int32)).toNatClampNeg) := inb_of Sz4 ⟨by decide, by decide⟩
  obtain ⟨T5, h5, X5, e5, W5, st5⟩ := stB X3 hx hZ e3 Ar4 (j := (1 : Int32)) hin4  (g := (mkF m 36 #[.val (.int p1), .val (.int p2), .val (.int p3), .val (.int p4), .val (.int p5), .val (.int p6), .val (.int (2 : Int32)), .val (.ref b1), .unset, .unset] [(.int (p3.toInt8.toInt32)), (.int (1 : Int32)), (.ref b1)])) rfl rfl (hb hby at_36)
  rw [show nar .byte (p3.toInt8.toInt32) = (p3.toInt8.toInt32) from own_byte _] at W5
  have fw5 : Arv Z h5 b1 k1 .byte (2 : Int32) [(.int (p2.toInt8.toInt32)), (.int (p3.toInt8.toInt32))] (.int (0 : Int32)) := Arv.set Ar4 qk4 Sz4 Nz4 Hs4 Gs4 (fits_nar_byte _) W5 1 rfl (Nat.le_of_ble_eq_true rfl)
  have f5_0 : Exa Z h5 b1 "[B" := (f3_0).wr W5
  have O5 := O3.wr W5 g_b1
  have N5 := Fr.snoc X5 N3 g_b1
  obtain ⟨_, _, ⟨T6, L6, k6, n6⟩, -, X6, ⟨Lc6, hQ6, l6, y6, z6⟩, st6⟩ := Jvm.LawKit.callS X5 hx (y := (⟨"com/example/keyfold/keyfold/core/Value", "ofBinary", "([B)Lcom/example/keyfold/keyfold/core/Value;"⟩ : MethodName)) hown (mvT hZ (hw _ (List.mem_of_getElem? (i := 2) rfl))) (mvT hZ (hw _ (List.mem_of_getElem? (i := 3) rfl))) (mvT hZ (hw _ (List.mem_of_getElem? (i := 4) rfl))) (mvT hZ (hw _ (List.mem_of_getElem? (i := 5) rfl))) (by decide) (backOf (W := 0) (rm1_2 l Z a0 hw [] W b1 k1 (p2.toInt8.toInt32) (p3.toInt8.toInt32) h5 n0 O5 g_b1 f5_0 fw5) hZ (hw _ (List.mem_of_getElem? (i := 5) rfl)) (hw _ (List.mem_of_getElem? (i := 4) rfl)) (by decide) (by decide)) (g := (mkF m 64 #[.val (.int p1), .val (.int p2), .val (.int p3), .val (.int p4), .val (.int p5), .val (.int p6), .val (.int (2 : Int32)), .val (.ref b1), .unset, .unset] [(.ref b1)])) rfl (by rw [hml]; rfl) (argsL := [(.ref b1)]) (rest := []) (lenOf pd_3 rfl) rfl (by show 2 * 0 + _ ≤ _; exact Nat.le_of_eq rfl) (hb hby at_64) (fun _ _ => ⟨rfl, e5, (by decide : 1 + 2 ≤ _), (by decide : 2 + 4 ≤ _)⟩)
  dsimp only [Pt.U, Pt.locs, Pt.cells, Pt.slots] at X6 l6 y6 z6 st6 hQ6
  subst l6 y6 z6
  obtain ⟨N6q, hP6⟩ := hQ6
  have N6 := Fr.app N5 N6q
  obtain ⟨b6_b1, b6_b3, rfl, Kp6, g_b6_b1, si_b6_b1, g_b6_b3, si_b6_b3, fp6_0, fp6_1, fp6_2, fp6_3, fp6_4⟩ := hP6
  have f6_0 : Exa Z T6.heap b1 "[B" := (f5_0).keep Kp6
  have f6_1 : Arv Z T6.heap b1 k1 .byte (2 : Int32) [(.int (p2.toInt8.toInt32)), (.int (p3.toInt8.toInt32))] (.int (0 : Int32)) := (fw5).keep Kp6 nin0
  have O6 := O5.keep Kp6 all0
  obtain ⟨cl7, Ar7, qk7, Sz7, Nz7, Hs7, Gs7⟩ := id f6_1
  have hin7 : ¬ ((1 : Int32) < 0 ∨ cl7.slots.size ≤ ((1 : Int32)).toNatClampNeg) := inb_of Sz7 ⟨by decide, by decide⟩
  have hat7 : cl7.slots[((1 : Int32)).toNatClampNeg]? = some (.int (p3.toInt8.toInt32)) := Has.at Hs7 hin7 rfl
  obtain ⟨cl8, Ar8, qk8, Sz8, Nz8, Hs8, Gs8⟩ := id f6_1
  have hin8 : ¬ ((1 : Int32) < 0 ∨ cl8.slots.size ≤ ((1 : Int32)).toNatClampNeg) := inb_of Sz8 ⟨by decide, by decide⟩
  obtain ⟨T9, h9, X9, e9, W9, st9⟩ := stB X6 hx hZ rfl Ar8 (j := (1 : Int32)) hin8  (g := (mkF m 96 #[.val (.int p1), .val (.int p2), .val (.int p3), .val (.int p4), .val (.int p5), .val (.int p6), .val (.int (2 : Int32)), .val (.ref b1), .val (.ref b6_b1), .val (.int (1 : Int32))] [(.int (((p3.toInt8.toInt32) ^^^ (-1 : Int32)).toInt8.toInt32)), (.int (1 : Int32)), (.ref b1)])) rfl rfl (hb hby at_96)
  rw [show nar .byte (((p3.toInt8.toInt32) ^^^ (-1 : Int32)).toInt8.toInt32) = (((p3.toInt8.toInt32) ^^^ (-1 : Int32)).toInt8.toInt32) from own_byte _] at W9
  have fw9 : Arv Z h9 b1 k1 .byte (2 : Int32) [(.int (p2.toInt8.toInt32)), (.int (((p3.toInt8.toInt32) ^^^ (-1 : Int32)).toInt8.toInt32))] (.int (0 : Int32)) := Arv.set Ar8 qk8 Sz8 Nz8 Hs8 Gs8 (fits_nar_byte _) W9 1 rfl (Nat.le_of_ble_eq_true rfl)
  have f9_0 : Exa Z h9 b1 "[B" := (f6_0).wr W9
  have f9_1 : Exa Z h9 b6_b1 "com/example/keyfold/keyfold/core/Value" := (fp6_0).wr W9
  have f9_2 : Fld Z h9 b6_b1 "com/example/keyfold/keyfold/core/Value" "type" "Lcom/example/keyfold/keyfold/core/ValueType;" (.ref w_n1) := (fp6_1).other W9 (Or.inl (ne_exa fp6_0 f6_0 (by decide)))
  have f9_3 : Fld Z h9 b6_b1 "com/example/keyfold/keyfold/core/Value" "content" "Ljava/lang/Object;" (.ref b6_b3) := (fp6_2).other W9 (Or.inl (ne_exa fp6_0 f6_0 (by decide)))
  have f9_4 : Exa Z h9 b6_b3 "[B" := (fp6_3).wr W9
  have f9_5 : Arv Z h9 b6_b3 k1 .byte (2 : Int32) [(.int (p2.toInt8.toInt32)), (.int (p3.toInt8.toInt32))] (.int (0 : Int32)) := (fp6_4).other W9 (Ne.symm (Nat.ne_of_lt (Nat.lt_of_lt_of_le (f5_0).lt si_b6_b3)))
  have O9 := O6.wr W9 g_b1
  have N9 := Fr.snoc X9 N6 g_b1
  obtain ⟨cq10, kq10, q10a, q10b, q10c⟩ := isOf hZ e9 f9_1
  obtain ⟨_, _, ⟨T10, L10, k10, n10⟩, -, X10, ⟨Lc10, hQ10, l10, y10, z10⟩, st10⟩ := X9.virtualBack hx (y := (⟨"com/example/keyfold/keyfold/core/Value", "type", "()Lcom/example/keyfold/keyfold/core/ValueType;"⟩ : MethodName)) (z := (⟨"com/example/keyfold/keyfold/core/Value", "type", "()Lcom/example/keyfold/keyfold/core/ValueType;"⟩ : MethodName)) hown (mvT hZ (hw _ (List.mem_of_getElem? (i := 28) rfl))) (mvT hZ (hw _ (List.mem_of_getElem? (i := 29) rfl))) (notFace_of_selects (args := #[]) (mvT hZ (hw _ (List.mem_of_getElem? (i := 31) rfl)))) (mvT hZ (hw _ (List.mem_of_getElem? (i := 31) rfl))) (mvT hZ (hw _ (List.mem_of_getElem? (i := 30) rfl))) (by decide) (backOf (W := 0) (rm4 l Z a0 hw [] W b6_b1 h9 n0 O9 f9_2) hZ (hw _ (List.mem_of_getElem? (i := 32) rfl)) (hw _ (List.mem_of_getElem? (i := 4) rfl)) (by decide) (by decide)) q10a q10c (g := (mkF m 99 #[.val (.int p1), .val (.int p2), .val (.int p3), .val (.int p4), .val (.int p5), .val (.int p6), .val (.int (2 : Int32)), .val (.ref b1), .val (.ref b6_b1), .val (.int (1 : Int32))] [(.ref b6_b1)])) rfl (by rw [hml]; rfl) (Steps.refl _) (argsL := []) (rest := []) (lenOf pd_4 rfl) rfl (by show 2 * 0 + _ ≤ _; exact Nat.le_of_eq rfl) (hb hby at_99) (fun _ _ => ⟨rfl, e9, (by decide : 3 + 0 ≤ _), (by decide : 6 + 0 ≤ _)⟩)
  dsimp only [Pt.U, Pt.locs, Pt.cells, Pt.slots] at X10 l10 y10 z10 st10 hQ10
  subst l10 y10 z10
  obtain ⟨rfl, N10q, e10⟩ := hQ10
  have N10 := Fr.app N9 N10q
  obtain ⟨T11, X11, e11, st11⟩ := getS2 X10 hx hZ hown (host := "") (Or.inl (hw _ (List.mem_of_getElem? (i := 33) rfl))) Via.refl e10 (S_n1.ext O9.2) (g := (mkF m 102 #[.val (.int p1), .val (.int p2), .val (.int p3), .val (.int p4), .val (.int p5), .val (.int p6), .val (.int (2 : Int32)), .val (.ref b1), .val (.ref b6_b1), .val (.int (1 : Int32))] [(.ref w_n1)])) rfl (hb hby at_102)
  obtain ⟨cq12, kq12, q12a, q12b, q12c⟩ := isOf hZ e11 f9_1
  obtain ⟨_, _, ⟨T12, L12, k12, n12⟩, -, X12, ⟨Lc12, hQ12, l12, y12, z12⟩, st12⟩ := X11.virtualBack hx (y := (⟨"com/example/keyfold/keyfold/core/Value", "size", "()I"⟩ : MethodName)) (z := (⟨"com/example/keyfold/keyfold/core/Value", "size", "()I"⟩ : MethodName)) hown (mvT hZ (hw _ (List.mem_of_getElem? (i := 34) rfl))) (mvT hZ (hw _ (List.mem_of_getElem? (i := 35) rfl))) (notFace_of_selects (args := #[]) (mvT hZ (hw _ (List.mem_of_getElem? (i := 37) rfl)))) (mvT hZ (hw _ (List.mem_of_getElem? (i := 37) rfl))) (mvT hZ (hw _ (List.mem_of_getElem? (i := 36) rfl))) (by decide) (backOf (W := 0) (rm7_2 l Z a0 hw [] W b6_b1 b6_b3 k1 (p2.toInt8.toInt32) (p3.toInt8.toInt32) h9 n0 O9 g_b6_b1 f9_1 f9_2 f9_3 g_b6_b3 f9_4 f9_5) hZ (hw _ (List.mem_of_getElem? (i := 38) rfl)) (hw _ (List.mem_of_getElem? (i := 4) rfl)) (by decide) (by decide)) q12a q12c (g := (mkF m 112 #[.val (.int p1), .val (.int p2), .val (.int p3), .val (.int p4), .val (.int p5), .val (.int p6), .val (.int (2 : Int32)), .val (.ref b1), .val (.ref b6_b1), .val (.int (1 : Int32))] [(.ref b6_b1)])) rfl (by rw [hml]; rfl) (Steps.refl _) (argsL := []) (rest := []) (lenOf pd_1 rfl) rfl (by show 2 * 0 + _ ≤ _; exact Nat.le_of_eq rfl) (hb hby at_112) (fun _ _ => ⟨rfl, e11, (by decide : 3 + 0 ≤ _), (by decide : 6 + 0 ≤ _)⟩)
  dsimp only [Pt.U, Pt.locs, Pt.cells, Pt.slots] at X12 l12 y12 z12 st12 hQ12
  subst l12 y12 z12
  obtain ⟨rfl, N12q, e12⟩ := hQ12
  have N12 := Fr.app N10 N12q
  obtain ⟨cq13, kq13, q13a, q13b, q13c⟩ := isOf hZ e12 f9_1
  obtain ⟨_, _, ⟨T13, L13, k13, n13⟩, -, X13, ⟨Lc13, hQ13, l13, y13, z13⟩, st13⟩ := X12.virtualBack hx (y := (⟨"com/example/keyfold/keyfold/core/Value", "asBinary", "()[B"⟩ : MethodName)) (z := (⟨"com/example/keyfold/keyfold/core/Value", "asBinary", "()[B"⟩ : MethodName)) hown (mvT hZ (hw _ (List.mem_of_getElem? (i := 53) rfl))) (mvT hZ (hw _ (List.mem_of_getElem? (i := 54) rfl))) (notFace_of_selects (args := #[]) (mvT hZ (hw _ (List.mem_of_getElem? (i := 56) rfl)))) (mvT hZ (hw _ (List.mem_of_getElem? (i := 56) rfl))) (mvT hZ (hw _ (List.mem_of_getElem? (i := 55) rfl))) (by decide) (backOf (W := 0) (rm5_2 l Z a0 hw [] W b6_b1 b6_b3 k1 (p2.toInt8.toInt32) (p3.toInt8.toInt32) h9 n0 O9 g_b6_b1 f9_1 f9_2 f9_3 g_b6_b3 f9_4 f9_5) hZ (hw _ (List.mem_of_getElem? (i := 57) rfl)) (hw _ (List.mem_of_getElem? (i := 4) rfl)) (by decide) (by decide)) q13a q13c (g := (mkF m 124 #[.val (.int p1), .val (.int p2), .val (.int p3), .val (.int p4), .val (.int p5), .val (.int p6), .val (.int (2 : Int32)), .val (.ref b1), .val (.ref b6_b1), .val (.int (1 : Int32))] [(.ref b6_b1)])) rfl (by rw [hml]; rfl) (Steps.refl _) (argsL := []) (rest := []) (lenOf pd_5 rfl) rfl (by show 2 * 0 + _ ≤ _; exact Nat.le_of_eq rfl) (hb hby at_124) (fun _ _ => ⟨rfl, e12, (by decide : 3 + 1 ≤ _), (by decide : 6 + 2 ≤ _)⟩)
  dsimp only [Pt.U, Pt.locs, Pt.cells, Pt.slots] at X13 l13 y13 z13 st13 hQ13
  subst l13 y13 z13
  obtain ⟨N13q, hP13⟩ := hQ13
  have N13 := Fr.app N12 N13q
  obtain ⟨b13_b4, rfl, Kp13, g_b13_b4, si_b13_b4, fp13_0, fp13_1⟩ := hP13
  have f13_0 : Exa Z T13.heap b1 "[B" := (f9_0).keep Kp13
  have f13_1 : Exa Z T13.heap b6_b1 "com/example/keyfold/keyfold/core/Value" := (f9_1).keep Kp13
  have f13_2 : Fld Z T13.heap b6_b1 "com/example/keyfold/keyfold/core/Value" "type" "Lcom/example/keyfold/keyfold/core/ValueType;" (.ref w_n1) := (f9_2).keep Kp13 nin0
  have f13_3 : Fld Z T13.heap b6_b1 "com/example/keyfold/keyfold/core/Value" "content" "Ljava/lang/Object;" (.ref b6_b3) := (f9_3).keep Kp13 nin0
  have f13_4 : Exa Z T13.heap b6_b3 "[B" := (f9_4).keep Kp13
  have f13_5 : Arv Z T13.heap b6_b3 k1 .byte (2 : Int32) [(.int (p2.toInt8.toInt32)), (.int (p3.toInt8.toInt32))] (.int (0 : Int32)) := (f9_5).keep Kp13 nin0
  have f13_6 : Arv Z T13.heap b1 k1 .byte (2 : Int32) [(.int (p2.toInt8.toInt32)), (.int (((p3.toInt8.toInt32) ^^^ (-1 : Int32)).toInt8.toInt32))] (.int (0 : Int32)) := (fw9).keep Kp13 nin0
  have O13 := O9.keep Kp13 all0
  obtain ⟨cl14, Ar14, qk14, Sz14, Nz14, Hs14, Gs14⟩ := id fp13_1
  obtain ⟨cl15, Ar15, qk15, Sz15, Nz15, Hs15, Gs15⟩ := id fp13_1
  have hin15 : ¬ ((0 : Int32) < 0 ∨ cl15.slots.size ≤ ((0 : Int32)).toNatClampNeg) := inb_of Sz15 ⟨by decide, by decide⟩
  have hat15 : cl15.slots[((0 : Int32)).toNatClampNeg]? = some (.int (p2.toInt8.toInt32)) := Has.at Hs15 hin15 rfl
  obtain ⟨cl16, Ar16, qk16, Sz16, Nz16, Hs16, Gs16⟩ := id fp13_1
  have hin16 : ¬ ((1 : Int32) < 0 ∨ cl16.slots.size ≤ ((1 : Int32)).toNatClampNeg) := inb_of Sz16 ⟨by decide, by decide⟩
  have hat16 : cl16.slots[((1 : Int32)).toNatClampNeg]? = some (.int (p3.toInt8.toInt32)) := Has.at Hs16 hin16 rfl
  obtain ⟨fs, hr, hrun, hended, hW, hsame⟩ := X13.leave (v := some (.int (1 : Int32))) (fun h => by rw [Bd.returns] at h; cases h)
  refine ⟨_, _, pre0 _ ?_, hrun, hended, _, _, rfl, ?_, ⟨_, rfl⟩, hW, hsame.mono (by decide) (by decide)⟩
  · show Steps p.tables e below (s₁.setTop (mkF m 0 #[.val (.int p1), .val (.int p2), .val (.int p3), .val (.int p4), .val (.int p5), .val (.int p6), .unset, .unset, .unset, .unset] [])) _
    refine XS.iloadN X0.here hx rfl (hb hby at_0) rfl ?_
    show Steps p.tables e below (s₁.setTop (mkF m 1 #[.val (.int p1), .val (.int p2), .val (.int p3), .val (.int p4), .val (.int p5), .val (.int p6), .unset, .unset, .unset, .unset] [(.int p1)])) _
    refine X0.ldcInt hx hown (mvT hZ (hw _ (List.mem_of_getElem? (i := 0) rfl))) (g := (mkF m 1 #[.val (.int p1), .val (.int p2), .val (.int p3), .val (.int p4), .val (.int p5), .val (.int p6), .unset, .unset, .unset, .unset] [(.int p1)])) rfl (hb hby at_1) _ ?_
    show Steps p.tables e below (s₁.setTop (mkF m 3 #[.val (.int p1), .val (.int p2), .val (.int p3), .val (.int p4), .val (.int p5), .val (.int p6), .unset, .unset, .unset, .unset] [(.int (2147483647 : Int32)), (.int p1)])) _
    refine XS.iand X0.here hx rfl (hb hby at_3) rfl ?_
    show Steps p.tables e below (s₁.setTop (mkF m 4 #[.val (.int p1), .val (.int p2), .val (.int p3), .val (.int p4), .val (.int p5), .val (.int p6), .unset, .unset, .unset, .unset] [(.int (p1 &&& (2147483647 : Int32)))])) _
    refine XS.iconst X0.here hx rfl (hb hby at_4) ?_
    show Steps p.tables e below (s₁.setTop (mkF m 5 #[.val (.int p1), .val (.int p2), .val (.int p3), .val (.int p4), .val (.int p5), .val (.int p6), .unset, .unset, .unset, .unset] [(.int (5 : Int32)), (.int (p1 &&& (2147483647 : Int32)))])) _
    refine iremM X0 hx rfl (hb hby at_5) rfl (by decide) ?_
    show Steps p.tables e below (s₁.setTop (mkF m 6 #[.val (.int p1), .val (.int p2), .val (.int p3), .val (.int p4), .val (.int p5), .val (.int p6), .unset, .unset, .unset, .unset] [(.int ((p1 &&& (2147483647 : Int32)) % (5 : Int32)))])) _
    rw [hk]
    show Steps p.tables e below (s₁.setTop (mkF m 6 #[.val (.int p1), .val (.int p2), .val (.int p3), .val (.int p4), .val (.int p5), .val (.int p6), .unset, .unset, .unset, .unset] [(.int (2 : Int32))])) _
    refine XS.istore X0.here hx rfl (hb hby at_6) rfl (l' := #[.val (.int p1), .val (.int p2), .val (.int p3), .val (.int p4), .val (.int p5), .val (.int p6), .val (.int (2 : Int32)), .unset, .unset, .unset]) rfl ?_
    show Steps p.tables e below (s₁.setTop (mkF m 8 #[.val (.int p1), .val (.int p2), .val (.int p3), .val (.int p4), .val (.int p5), .val (.int p6), .val (.int (2 : Int32)), .unset, .unset, .unset] [])) _
    refine XS.iload X0.here hx rfl (hb hby at_8) rfl ?_
    show Steps p.tables e below (s₁.setTop (mkF m 10 #[.val (.int p1), .val (.int p2), .val (.int p3), .val (.int p4), .val (.int p5), .val (.int p6), .val (.int (2 : Int32)), .unset, .unset, .unset] [(.int (2 : Int32))])) _
    refine st1 _ ?_
    show Steps p.tables e below (T1.setTop (mkF m 12 #[.val (.int p1), .val (.int p2), .val (.int p3), .val (.int p4), .val (.int p5), .val (.int p6), .val (.int (2 : Int32)), .unset, .unset, .unset] [(.ref b1)])) _
    refine XS.astore X1.here hx rfl (hb hby at_12) rfl rfl (l' := #[.val (.int p1), .val (.int p2), .val (.int p3), .val (.int p4), .val (.int p5), .val (.int p6), .val (.int (2 : Int32)), .val (.ref b1), .unset, .unset]) rfl ?_
    show Steps p.tables e below (T1.setTop (mkF m 14 #[.val (.int p1), .val (.int p2), .val (.int p3), .val (.int p4), .val (.int p5), .val (.int p6), .val (.int (2 : Int32)), .val (.ref b1), .unset, .unset] [])) _
    refine XS.iload X1.here hx rfl (hb hby at_14) rfl ?_
    show Steps p.tables e below (T1.setTop (mkF m 16 #[.val (.int p1), .val (.int p2), .val (.int p3), .val (.int p4), .val (.int p5), .val (.int p6), .val (.int (2 : Int32)), .val (.ref b1), .unset, .unset] [(.int (2 : Int32))])) _
    refine XS.ifNo X1.here hx rfl (hb hby at_16) rfl ((if0 _ _).trans (tlt ((by decide) : (0 : Int32) < (2 : Int32))).2.2.2) ?_
    show Steps p.tables e below (T1.setTop (mkF m 19 #[.val (.int p1), .val (.int p2), .val (.int p3), .val (.int p4), .val (.int p5), .val (.int p6), .val (.int (2 : Int32)), .val (.ref b1), .unset, .unset] [])) _
    refine XS.aload X1.here hx rfl (hb hby at_19) rfl rfl ?_
    show Steps p.tables e below (T1.setTop (mkF m 21 #[.val (.int p1), .val (.int p2), .val (.int p3), .val (.int p4), .val (.int p5), .val (.int p6), .val (.int (2 : Int32)), .val (.ref b1), .unset, .unset] [(.ref b1)])) _
    refine XS.iconst X1.here hx rfl (hb hby at_21) ?_
    show Steps p.tables e below (T1.setTop (mkF m 22 #[.val (.int p1), .val (.int p2), .val (.int p3), .val (.int p4), .val (.int p5), .val (.int p6), .val (.int (2 : Int32)), .val (.ref b1), .unset, .unset] [(.int (0 : Int32)), (.ref b1)])) _
    refine XS.iloadN X1.here hx rfl (hb hby at_22) rfl ?_
    show Steps p.tables e below (T1.setTop (mkF m 23 #[.val (.int p1), .val (.int p2), .val (.int p3), .val (.int p4), .val (.int p5), .val (.int p6), .val (.int (2 : Int32)), .val (.ref b1), .unset, .unset] [(.int p2), (.int (0 : Int32)), (.ref b1)])) _
    refine XS.i2b X1.here hx rfl (hb hby at_23) rfl ?_
    show Steps p.tables e below (T1.setTop (mkF m 24 #[.val (.int p1), .val (.int p2), .val (.int p3), .val (.int p4), .val (.int p5), .val (.int p6), .val (.int (2 : Int32)), .val (.ref b1), .unset, .unset] [(.int (p2.toInt8.toInt32)), (.int (0 : Int32)), (.ref b1)])) _
    refine st3 _ ?_
    show Steps p.tables e below (T3.setTop (mkF m 25 #[.val (.int p1), .val (.int p2), .val (.int p3), .val (.int p4), .val (.int p5), .val (.int p6), .val (.int (2 : Int32)), .val (.ref b1), .unset, .unset] [])) _
    refine XS.iload X3.here hx rfl (hb hby at_25) rfl ?_
    show Steps p.tables e below (T3.setTop (mkF m 27 #[.val (.int p1), .val (.int p2), .val (.int p3), .val (.int p4), .val (.int p5), .val (.int p6), .val (.int (2 : Int32)), .val (.ref b1), .unset, .unset] [(.int (2 : Int32))])) _
    refine XS.iconst X3.here hx rfl (hb hby at_27) ?_
    show Steps p.tables e below (T3.setTop (mkF m 28 #[.val (.int p1), .val (.int p2), .val (.int p3), .val (.int p4), .val (.int p5), .val (.int p6), .val (.int (2 : Int32)), .val (.ref b1), .unset, .unset] [(.int (1 : Int32)), (.int (2 : Int32))])) _
    refine XS.icmpNo X3.here hx rfl (hb hby at_28) rfl (tlt ((by decide) : (1 : Int32) < (2 : Int32))).2.2.2 ?_
    show Steps p.tables e below (T3.setTop (mkF m 31 #[.val (.int p1), .val (.int p2), .val (.int p3), .val (.int p4), .val (.int p5), .val (.int p6), .val (.int (2 : Int32)), .val (.ref b1), .unset, .unset] [])) _
    refine XS.aload X3.here hx rfl (hb hby at_31) rfl rfl ?_
    show Steps p.tables e below (T3.setTop (mkF m 33 #[.val (.int p1), .val (.int p2), .val (.int p3), .val (.int p4), .val (.int p5), .val (.int p6), .val (.int (2 : Int32)), .val (.ref b1), .unset, .unset] [(.ref b1)])) _
    refine XS.iconst X3.here hx rfl (hb hby at_33) ?_
    show Steps p.tables e below (T3.setTop (mkF m 34 #[.val (.int p1), .val (.int p2), .val (.int p3), .val (.int p4), .val (.int p5), .val (.int p6), .val (.int (2 : Int32)), .val (.ref b1), .unset, .unset] [(.int (1 : Int32)), (.ref b1)])) _
    refine XS.iloadN X3.here hx rfl (hb hby at_34) rfl ?_
    show Steps p.tables e below (T3.setTop (mkF m 35 #[.val (.int p1), .val (.int p2), .val (.int p3), .val (.int p4), .val (.int p5), .val (.int p6), .val (.int (2 : Int32)), .val (.ref b1), .unset, .unset] [(.int p3), (.int (1 : Int32)), (.ref b1)])) _
    refine XS.i2b X3.here hx rfl (hb hby at_35) rfl ?_
    show Steps p.tables e below (T3.setTop (mkF m 36 #[.val (.int p1), .val (.int p2), .val (.int p3), .val (.int p4), .val (.int p5), .val (.int p6), .val (.int (2 : Int32)), .val (.ref b1), .unset, .unset] [(.int (p3.toInt8.toInt32)), (.int (1 : Int32)), (.ref b1)])) _
    refine st5 _ ?_
    show Steps p.tables e below (T5.setTop (mkF m 37 #[.val (.int p1), .val (.int p2), .val (.int p3), .val (.int p4), .val (.int p5), .val (.int p6), .val (.int (2 : Int32)), .val (.ref b1), .unset, .unset] [])) _
    refine XS.iload X5.here hx rfl (hb hby at_37) rfl ?_
    show Steps p.tables e below (T5.setTop (mkF m 39 #[.val (.int p1), .val (.int p2), .val (.int p3), .val (.int p4), .val (.int p5), .val (.int p6), .val (.int (2 : Int32)), .val (.ref b1), .unset, .unset] [(.int (2 : Int32))])) _
    refine XS.iconst X5.here hx rfl (hb hby at_39) ?_
    show Steps p.tables e below (T5.setTop (mkF m 40 #[.val (.int p1), .val (.int p2), .val (.int p3), .val (.int p4), .val (.int p5), .val (.int p6), .val (.int (2 : Int32)), .val (.ref b1), .unset, .unset] [(.int (2 : Int32)), (.int (2 : Int32))])) _
    refine XS.icmpYes X5.here hx rfl (pc0 := 40) (pc' := 49) rfl (hb hby at_40) rfl (flt ((by decide) : ¬ ((2 : Int32) < (2 : Int32)))).2.2.2 (by decide) (by decide) ?_
    show Steps p.tables e below (T5.setTop (mkF m 49 #[.val (.int p1), .val (.int p2), .val (.int p3), .val (.int p4), .val (.int p5), .val (.int p6), .val (.int (2 : Int32)), .val (.ref b1), .unset, .unset] [])) _
    refine XS.iload X5.here hx rfl (hb hby at_49) rfl ?_
    show Steps p.tables e below (T5.setTop (mkF m 51 #[.val (.int p1), .val (.int p2), .val (.int p3), .val (.int p4), .val (.int p5), .val (.int p6), .val (.int (2 : Int32)), .val (.ref b1), .unset, .unset] [(.int (2 : Int32))])) _
    refine XS.iconst X5.here hx rfl (hb hby at_51) ?_
    show Steps p.tables e below (T5.setTop (mkF m 52 #[.val (.int p1), .val (.int p2), .val (.int p3), .val (.int p4), .val (.int p5), .val (.int p6), .val (.int (2 : Int32)), .val (.ref b1), .unset, .unset] [(.int (3 : Int32)), (.int (2 : Int32))])) _
    refine XS.icmpYes X5.here hx rfl (pc0 := 52) (pc' := 62) rfl (hb hby at_52) rfl (flt ((by decide) : ¬ ((3 : Int32) < (2 : Int32)))).2.2.2 (by decide) (by decide) ?_
    show Steps p.tables e below (T5.setTop (mkF m 62 #[.val (.int p1), .val (.int p2), .val (.int p3), .val (.int p4), .val (.int p5), .val (.int p6), .val (.int (2 : Int32)), .val (.ref b1), .unset, .unset] [])) _
    refine XS.aload X5.here hx rfl (hb hby at_62) rfl rfl ?_
    show Steps p.tables e below (T5.setTop (mkF m 64 #[.val (.int p1), .val (.int p2), .val (.int p3), .val (.int p4), .val (.int p5), .val (.int p6), .val (.int (2 : Int32)), .val (.ref b1), .unset, .unset] [(.ref b1)])) _
    refine st6 _ ?_
    show Steps p.tables e below (T6.setTop (mkF m 67 #[.val (.int p1), .val (.int p2), .val (.int p3), .val (.int p4), .val (.int p5), .val (.int p6), .val (.int (2 : Int32)), .val (.ref b1), .unset, .unset] [(.ref b6_b1)])) _
    refine XS.astore X6.here hx rfl (hb hby at_67) rfl rfl (l' := #[.val (.int p1), .val (.int p2), .val (.int p3), .val (.int p4), .val (.int p5), .val (.int p6), .val (.int (2 : Int32)), .val (.ref b1), .val (.ref b6_b1), .unset]) rfl ?_
    show Steps p.tables e below (T6.setTop (mkF m 69 #[.val (.int p1), .val (.int p2), .val (.int p3), .val (.int p4), .val (.int p5), .val (.int p6), .val (.int (2 : Int32)), .val (.ref b1), .val (.ref b6_b1), .unset] [])) _
    refine XS.iload X6.here hx rfl (hb hby at_69) rfl ?_
    show Steps p.tables e below (T6.setTop (mkF m 71 #[.val (.int p1), .val (.int p2), .val (.int p3), .val (.int p4), .val (.int p5), .val (.int p6), .val (.int (2 : Int32)), .val (.ref b1), .val (.ref b6_b1), .unset] [(.int (2 : Int32))])) _
    refine XS.ifNo X6.here hx rfl (hb hby at_71) rfl ((if0 _ _).trans (tlt ((by decide) : (0 : Int32) < (2 : Int32))).2.2.2) ?_
    show Steps p.tables e below (T6.setTop (mkF m 74 #[.val (.int p1), .val (.int p2), .val (.int p3), .val (.int p4), .val (.int p5), .val (.int p6), .val (.int (2 : Int32)), .val (.ref b1), .val (.ref b6_b1), .unset] [])) _
    refine XS.iload X6.here hx rfl (hb hby at_74) rfl ?_
    show Steps p.tables e below (T6.setTop (mkF m 76 #[.val (.int p1), .val (.int p2), .val (.int p3), .val (.int p4), .val (.int p5), .val (.int p6), .val (.int (2 : Int32)), .val (.ref b1), .val (.ref b6_b1), .unset] [(.int p6)])) _
    refine X6.ldcInt hx hown (mvT hZ (hw _ (List.mem_of_getElem? (i := 0) rfl))) (g := (mkF m 76 #[.val (.int p1), .val (.int p2), .val (.int p3), .val (.int p4), .val (.int p5), .val (.int p6), .val (.int (2 : Int32)), .val (.ref b1), .val (.ref b6_b1), .unset] [(.int p6)])) rfl (hb hby at_76) _ ?_
    show Steps p.tables e below (T6.setTop (mkF m 78 #[.val (.int p1), .val (.int p2), .val (.int p3), .val (.int p4), .val (.int p5), .val (.int p6), .val (.int (2 : Int32)), .val (.ref b1), .val (.ref b6_b1), .unset] [(.int (2147483647 : Int32)), (.int p6)])) _
    refine XS.iand X6.here hx rfl (hb hby at_78) rfl ?_
    show Steps p.tables e below (T6.setTop (mkF m 79 #[.val (.int p1), .val (.int p2), .val (.int p3), .val (.int p4), .val (.int p5), .val (.int p6), .val (.int (2 : Int32)), .val (.ref b1), .val (.ref b6_b1), .unset] [(.int (p6 &&& (2147483647 : Int32)))])) _
    refine XS.iload X6.here hx rfl (hb hby at_79) rfl ?_
    show Steps p.tables e below (T6.setTop (mkF m 81 #[.val (.int p1), .val (.int p2), .val (.int p3), .val (.int p4), .val (.int p5), .val (.int p6), .val (.int (2 : Int32)), .val (.ref b1), .val (.ref b6_b1), .unset] [(.int (2 : Int32)), (.int (p6 &&& (2147483647 : Int32)))])) _
    refine iremM X6 hx rfl (hb hby at_81) rfl (by decide) ?_
    show Steps p.tables e below (T6.setTop (mkF m 82 #[.val (.int p1), .val (.int p2), .val (.int p3), .val (.int p4), .val (.int p5), .val (.int p6), .val (.int (2 : Int32)), .val (.ref b1), .val (.ref b6_b1), .unset] [(.int ((p6 &&& (2147483647 : Int32)) % (2 : Int32)))])) _
    rw [hi]
    show Steps p.tables e below (T6.setTop (mkF m 82 #[.val (.int p1), .val (.int p2), .val (.int p3), .val (.int p4), .val (.int p5), .val (.int p6), .val (.int (2 : Int32)), .val (.ref b1), .val (.ref b6_b1), .unset] [(.int (1 : Int32))])) _
    refine XS.istore X6.here hx rfl (hb hby at_82) rfl (l' := #[.val (.int p1), .val (.int p2), .val (.int p3), .val (.int p4), .val (.int p5), .val (.int p6), .val (.int (2 : Int32)), .val (.ref b1), .val (.ref b6_b1), .val (.int (1 : Int32))]) rfl ?_
    show Steps p.tables e below (T6.setTop (mkF m 84 #[.val (.int p1), .val (.int p2), .val (.int p3), .val (.int p4), .val (.int p5), .val (.int p6), .val (.int (2 : Int32)), .val (.ref b1), .val (.ref b6_b1), .val (.int (1 : Int32))] [])) _
    refine XS.aload X6.here hx rfl (hb hby at_84) rfl rfl ?_
    show Steps p.tables e below (T6.setTop (mkF m 86 #[.val (.int p1), .val (.int p2), .val (.int p3), .val (.int p4), .val (.int p5), .val (.int p6), .val (.int (2 : Int32)), .val (.ref b1), .val (.ref b6_b1), .val (.int (1 : Int32))] [(.ref b1)])) _
    refine XS.iload X6.here hx rfl (hb hby at_86) rfl ?_
    show Steps p.tables e below (T6.setTop (mkF m 88 #[.val (.int p1), .val (.int p2), .val (.int p3), .val (.int p4), .val (.int p5), .val (.int p6), .val (.int (2 : Int32)), .val (.ref b1), .val (.ref b6_b1), .val (.int (1 : Int32))] [(.int (1 : Int32)), (.ref b1)])) _
    refine XS.aload X6.here hx rfl (hb hby at_88) rfl rfl ?_
    show Steps p.tables e below (T6.setTop (mkF m 90 #[.val (.int p1), .val (.int p2), .val (.int p3), .val (.int p4), .val (.int p5), .val (.int p6), .val (.int (2 : Int32)), .val (.ref b1), .val (.ref b6_b1), .val (.int (1 : Int32))] [(.ref b1), (.int (1 : Int32)), (.ref b1)])) _
    refine XS.iload X6.here hx rfl (hb hby at_90) rfl ?_
    show Steps p.tables e below (T6.setTop (mkF m 92 #[.val (.int p1), .val (.int p2), .val (.int p3), .val (.int p4), .val (.int p5), .val (.int p6), .val (.int (2 : Int32)), .val (.ref b1), .val (.ref b6_b1), .val (.int (1 : Int32))] [(.int (1 : Int32)), (.ref b1), (.int (1 : Int32)), (.ref b1)])) _
    refine X6.baloadBytes hx (j := (1 : Int32)) (v := (.int (p3.toInt8.toInt32))) Ar7.1 (State.isArrayOf_alike hZ.alike Ar7.2.1) Ar7.2.2 hin7 hat7 (g := (mkF m 92 #[.val (.int p1), .val (.int p2), .val (.int p3), .val (.int p4), .val (.int p5), .val (.int p6), .val (.int (2 : Int32)), .val (.ref b1), .val (.ref b6_b1), .val (.int (1 : Int32))] [(.int (1 : Int32)), (.ref b1), (.int (1 : Int32)), (.ref b1)])) rfl rfl (hb hby at_92) _ ?_
    show Steps p.tables e below (T6.setTop (mkF m 93 #[.val (.int p1), .val (.int p2), .val (.int p3), .val (.int p4), .val (.int p5), .val (.int p6), .val (.int (2 : Int32)), .val (.ref b1), .val (.ref b6_b1), .val (.int (1 : Int32))] [(.int (p3.toInt8.toInt32)), (.int (1 : Int32)), (.ref b1)])) _
    refine XS.iconst X6.here hx rfl (hb hby at_93) ?_
    show Steps p.tables e below (T6.setTop (mkF m 94 #[.val (.int p1), .val (.int p2), .val (.int p3), .val (.int p4), .val (.int p5), .val (.int p6), .val (.int (2 : Int32)), .val (.ref b1), .val (.ref b6_b1), .val (.int (1 : Int32))] [(.int (-1 : Int32)), (.int (p3.toInt8.toInt32)), (.int (1 : Int32)), (.ref b1)])) _
    refine XS.ixor X6.here hx rfl (hb hby at_94) rfl ?_
    show Steps p.tables e below (T6.setTop (mkF m 95 #[.val (.int p1), .val (.int p2), .val (.int p3), .val (.int p4), .val (.int p5), .val (.int p6), .val (.int (2 : Int32)), .val (.ref b1), .val (.ref b6_b1), .val (.int (1 : Int32))] [(.int ((p3.toInt8.toInt32) ^^^ (-1 : Int32))), (.int (1 : Int32)), (.ref b1)])) _
    refine XS.i2b X6.here hx rfl (hb hby at_95) rfl ?_
    show Steps p.tables e below (T6.setTop (mkF m 96 #[.val (.int p1), .val (.int p2), .val (.int p3), .val (.int p4), .val (.int p5), .val (.int p6), .val (.int (2 : Int32)), .val (.ref b1), .val (.ref b6_b1), .val (.int (1 : Int32))] [(.int (((p3.toInt8.toInt32) ^^^ (-1 : Int32)).toInt8.toInt32)), (.int (1 : Int32)), (.ref b1)])) _
    refine st9 _ ?_
    show Steps p.tables e below (T9.setTop (mkF m 97 #[.val (.int p1), .val (.int p2), .val (.int p3), .val (.int p4), .val (.int p5), .val (.int p6), .val (.int (2 : Int32)), .val (.ref b1), .val (.ref b6_b1), .val (.int (1 : Int32))] [])) _
    refine XS.aload X9.here hx rfl (hb hby at_97) rfl rfl ?_
    show Steps p.tables e below (T9.setTop (mkF m 99 #[.val (.int p1), .val (.int p2), .val (.int p3), .val (.int p4), .val (.int p5), .val (.int p6), .val (.int (2 : Int32)), .val (.ref b1), .val (.ref b6_b1), .val (.int (1 : Int32))] [(.ref b6_b1)])) _
    refine st10.trans ?_
    show Steps p.tables e below (T10.setTop (mkF m 102 #[.val (.int p1), .val (.int p2), .val (.int p3), .val (.int p4), .val (.int p5), .val (.int p6), .val (.int (2 : Int32)), .val (.ref b1), .val (.ref b6_b1), .val (.int (1 : Int32))] [(.ref w_n1)])) _
    refine st11 _ ?_
    show Steps p.tables e below (T11.setTop (mkF m 105 #[.val (.int p1), .val (.int p2), .val (.int p3), .val (.int p4), .val (.int p5), .val (.int p6), .val (.int (2 : Int32)), .val (.ref b1), .val (.ref b6_b1), .val (.int (1 : Int32))] [(.ref w_n1), (.ref w_n1)])) _
    refine Jvm.RoadKit.acmp (g := (mkF m 105 #[.val (.int p1), .val (.int p2), .val (.int p3), .val (.int p4), .val (.int p5), .val (.int p6), .val (.int (2 : Int32)), .val (.ref b1), .val (.ref b6_b1), .val (.int (1 : Int32))] [(.ref w_n1), (.ref w_n1)])) X11 hx rfl rfl rfl (pc0 := 105) (pc' := 110) (same := true) rfl (hb hby at_105) rfl (decide_eq_true rfl) (by decide) (by decide) ?_
    show Steps p.tables e below (T11.setTop (mkF m 110 #[.val (.int p1), .val (.int p2), .val (.int p3), .val (.int p4), .val (.int p5), .val (.int p6), .val (.int (2 : Int32)), .val (.ref b1), .val (.ref b6_b1), .val (.int (1 : Int32))] [])) _
    refine XS.aload X11.here hx rfl (hb hby at_110) rfl rfl ?_
    show Steps p.tables e below (T11.setTop (mkF m 112 #[.val (.int p1), .val (.int p2), .val (.int p3), .val (.int p4), .val (.int p5), .val (.int p6), .val (.int (2 : Int32)), .val (.ref b1), .val (.ref b6_b1), .val (.int (1 : Int32))] [(.ref b6_b1)])) _
    refine st12.trans ?_
    show Steps p.tables e below (T12.setTop (mkF m 115 #[.val (.int p1), .val (.int p2), .val (.int p3), .val (.int p4), .val (.int p5), .val (.int p6), .val (.int (2 : Int32)), .val (.ref b1), .val (.ref b6_b1), .val (.int (1 : Int32))] [(.int (2 : Int32))])) _
    refine XS.iload X12.here hx rfl (hb hby at_115) rfl ?_
    show Steps p.tables e below (T12.setTop (mkF m 117 #[.val (.int p1), .val (.int p2), .val (.int p3), .val (.int p4), .val (.int p5), .val (.int p6), .val (.int (2 : Int32)), .val (.ref b1), .val (.ref b6_b1), .val (.int (1 : Int32))] [(.int (2 : Int32)), (.int (2 : Int32))])) _
    refine XS.icmpYes X12.here hx rfl (pc0 := 117) (pc' := 122) rfl (hb hby at_117) rfl (teq ((by decide) : (2 : Int32) = (2 : Int32))).1 (by decide) (by decide) ?_
    show Steps p.tables e below (T12.setTop (mkF m 122 #[.val (.int p1), .val (.int p2), .val (.int p3), .val (.int p4), .val (.int p5), .val (.int p6), .val (.int (2 : Int32)), .val (.ref b1), .val (.ref b6_b1), .val (.int (1 : Int32))] [])) _
    refine XS.aload X12.here hx rfl (hb hby at_122) rfl rfl ?_
    show Steps p.tables e below (T12.setTop (mkF m 124 #[.val (.int p1), .val (.int p2), .val (.int p3), .val (.int p4), .val (.int p5), .val (.int p6), .val (.int (2 : Int32)), .val (.ref b1), .val (.ref b6_b1), .val (.int (1 : Int32))] [(.ref b6_b1)])) _
    refine st13.trans ?_
    show Steps p.tables e below (T13.setTop (mkF m 127 #[.val (.int p1), .val (.int p2), .val (.int p3), .val (.int p4), .val (.int p5), .val (.int p6), .val (.int (2 : Int32)), .val (.ref b1), .val (.ref b6_b1), .val (.int (1 : Int32))] [(.ref b13_b4)])) _
    refine XS.astore X13.here hx rfl (hb hby at_127) rfl rfl (l' := #[.val (.int p1), .val (.int p2), .val (.int p3), .val (.int p4), .val (.int p5), .val (.int p6), .val (.int (2 : Int32)), .val (.ref b1), .val (.ref b6_b1), .val (.ref b13_b4)]) rfl ?_
    show Steps p.tables e below (T13.setTop (mkF m 129 #[.val (.int p1), .val (.int p2), .val (.int p3), .val (.int p4), .val (.int p5), .val (.int p6), .val (.int (2 : Int32)), .val (.ref b1), .val (.ref b6_b1), .val (.ref b13_b4)] [])) _
    refine XS.aload X13.here hx rfl (hb hby at_129) rfl rfl ?_
    show Steps p.tables e below (T13.setTop (mkF m 131 #[.val (.int p1), .val (.int p2), .val (.int p3), .val (.int p4), .val (.int p5), .val (.int p6), .val (.int (2 : Int32)), .val (.ref b1), .val (.ref b6_b1), .val (.ref b13_b4)] [(.ref b13_b4)])) _
    refine X13.arraylength hx Ar14.1 (State.isArrayOf_alike hZ.alike Ar14.2.1) (g := (mkF m 131 #[.val (.int p1), .val (.int p2), .val (.int p3), .val (.int p4), .val (.int p5), .val (.int p6), .val (.int (2 : Int32)), .val (.ref b1), .val (.ref b6_b1), .val (.ref b13_b4)] [(.ref b13_b4)])) rfl rfl (hb hby at_131) _ ?_
    rw [len_of Sz14 Nz14]
    show Steps p.tables e below (T13.setTop (mkF m 132 #[.val (.int p1), .val (.int p2), .val (.int p3), .val (.int p4), .val (.int p5), .val (.int p6), .val (.int (2 : Int32)), .val (.ref b1), .val (.ref b6_b1), .val (.ref b13_b4)] [(.int (2 : Int32))])) _
    refine XS.iload X13.here hx rfl (hb hby at_132) rfl ?_
    show Steps p.tables e below (T13.setTop (mkF m 134 #[.val (.int p1), .val (.int p2), .val (.int p3), .val (.int p4), .val (.int p5), .val (.int p6), .val (.int (2 : Int32)), .val (.ref b1), .val (.ref b6_b1), .val (.ref b13_b4)] [(.int (2 : Int32)), (.int (2 : Int32))])) _
    refine XS.icmpYes X13.here hx rfl (pc0 := 134) (pc' := 139) rfl (hb hby at_134) rfl (teq ((by decide) : (2 : Int32) = (2 : Int32))).1 (by decide) (by decide) ?_
    show Steps p.tables e below (T13.setTop (mkF m 139 #[.val (.int p1), .val (.int p2), .val (.int p3), .val (.int p4), .val (.int p5), .val (.int p6), .val (.int (2 : Int32)), .val (.ref b1), .val (.ref b6_b1), .val (.ref b13_b4)] [])) _
    refine XS.iload X13.here hx rfl (hb hby at_139) rfl ?_
    show Steps p.tables e below (T13.setTop (mkF m 141 #[.val (.int p1), .val (.int p2), .val (.int p3), .val (.int p4), .val (.int p5), .val (.int p6), .val (.int (2 : Int32)), .val (.ref b1), .val (.ref b6_b1), .val (.ref b13_b4)] [(.int (2 : Int32))])) _
    refine XS.ifNo X13.here hx rfl (hb hby at_141) rfl ((if0 _ _).trans (tlt ((by decide) : (0 : Int32) < (2 : Int32))).2.2.2) ?_
    show Steps p.tables e below (T13.setTop (mkF m 144 #[.val (.int p1), .val (.int p2), .val (.int p3), .val (.int p4), .val (.int p5), .val (.int p6), .val (.int (2 : Int32)), .val (.ref b1), .val (.ref b6_b1), .val (.ref b13_b4)] [])) _
    refine XS.aload X13.here hx rfl (hb hby at_144) rfl rfl ?_
    show Steps p.tables e below (T13.setTop (mkF m 146 #[.val (.int p1), .val (.int p2), .val (.int p3), .val (.int p4), .val (.int p5), .val (.int p6), .val (.int (2 : Int32)), .val (.ref b1), .val (.ref b6_b1), .val (.ref b13_b4)] [(.ref b13_b4)])) _
    refine XS.iconst X13.here hx rfl (hb hby at_146) ?_
    show Steps p.tables e below (T13.setTop (mkF m 147 #[.val (.int p1), .val (.int p2), .val (.int p3), .val (.int p4), .val (.int p5), .val (.int p6), .val (.int (2 : Int32)), .val (.ref b1), .val (.ref b6_b1), .val (.ref b13_b4)] [(.int (0 : Int32)), (.ref b13_b4)])) _
    refine X13.baloadBytes hx (j := (0 : Int32)) (v := (.int (p2.toInt8.toInt32))) Ar15.1 (State.isArrayOf_alike hZ.alike Ar15.2.1) Ar15.2.2 hin15 hat15 (g := (mkF m 147 #[.val (.int p1), .val (.int p2), .val (.int p3), .val (.int p4), .val (.int p5), .val (.int p6), .val (.int (2 : Int32)), .val (.ref b1), .val (.ref b6_b1), .val (.ref b13_b4)] [(.int (0 : Int32)), (.ref b13_b4)])) rfl rfl (hb hby at_147) _ ?_
    show Steps p.tables e below (T13.setTop (mkF m 148 #[.val (.int p1), .val (.int p2), .val (.int p3), .val (.int p4), .val (.int p5), .val (.int p6), .val (.int (2 : Int32)), .val (.ref b1), .val (.ref b6_b1), .val (.ref b13_b4)] [(.int (p2.toInt8.toInt32))])) _
    refine XS.iloadN X13.here hx rfl (hb hby at_148) rfl ?_
    show Steps p.tables e below (T13.setTop (mkF m 149 #[.val (.int p1), .val (.int p2), .val (.int p3), .val (.int p4), .val (.int p5), .val (.int p6), .val (.int (2 : Int32)), .val (.ref b1), .val (.ref b6_b1), .val (.ref b13_b4)] [(.int p2), (.int (p2.toInt8.toInt32))])) _
    refine XS.i2b X13.here hx rfl (hb hby at_149) rfl ?_
    show Steps p.tables e below (T13.setTop (mkF m 150 #[.val (.int p1), .val (.int p2), .val (.int p3), .val (.int p4), .val (.int p5), .val (.int p6), .val (.int (2 : Int32)), .val (.ref b1), .val (.ref b6_b1), .val (.ref b13_b4)] [(.int (p2.toInt8.toInt32)), (.int (p2.toInt8.toInt32))])) _
    refine XS.icmpYes X13.here hx rfl (pc0 := 150) (pc' := 155) rfl (hb hby at_150) rfl (teq (rfl : (p2.toInt8.toInt32) = (p2.toInt8.toInt32))).1 (by decide) (by decide) ?_
    show Steps p.tables e below (T13.setTop (mkF m 155 #[.val (.int p1), .val (.int p2), .val (.int p3), .val (.int p4), .val (.int p5), .val (.int p6), .val (.int (2 : Int32)), .val (.ref b1), .val (.ref b6_b1), .val (.ref b13_b4)] [])) _
    refine XS.iload X13.here hx rfl (hb hby at_155) rfl ?_
    show Steps p.tables e below (T13.setTop (mkF m 157 #[.val (.int p1), .val (.int p2), .val (.int p3), .val (.int p4), .val (.int p5), .val (.int p6), .val (.int (2 : Int32)), .val (.ref b1), .val (.ref b6_b1), .val (.ref b13_b4)] [(.int (2 : Int32))])) _
    refine XS.iconst X13.here hx rfl (hb hby at_157) ?_
    show Steps p.tables e below (T13.setTop (mkF m 158 #[.val (.int p1), .val (.int p2), .val (.int p3), .val (.int p4), .val (.int p5), .val (.int p6), .val (.int (2 : Int32)), .val (.ref b1), .val (.ref b6_b1), .val (.ref b13_b4)] [(.int (1 : Int32)), (.int (2 : Int32))])) _
    refine XS.icmpNo X13.here hx rfl (hb hby at_158) rfl (tlt ((by decide) : (1 : Int32) < (2 : Int32))).2.2.2 ?_
    show Steps p.tables e below (T13.setTop (mkF m 161 #[.val (.int p1), .val (.int p2), .val (.int p3), .val (.int p4), .val (.int p5), .val (.int p6), .val (.int (2 : Int32)), .val (.ref b1), .val (.ref b6_b1), .val (.ref b13_b4)] [])) _
    refine XS.aload X13.here hx rfl (hb hby at_161) rfl rfl ?_
    show Steps p.tables e below (T13.setTop (mkF m 163 #[.val (.int p1), .val (.int p2), .val (.int p3), .val (.int p4), .val (.int p5), .val (.int p6), .val (.int (2 : Int32)), .val (.ref b1), .val (.ref b6_b1), .val (.ref b13_b4)] [(.ref b13_b4)])) _
    refine XS.iconst X13.here hx rfl (hb hby at_163) ?_
    show Steps p.tables e below (T13.setTop (mkF m 164 #[.val (.int p1), .val (.int p2), .val (.int p3), .val (.int p4), .val (.int p5), .val (.int p6), .val (.int (2 : Int32)), .val (.ref b1), .val (.ref b6_b1), .val (.ref b13_b4)] [(.int (1 : Int32)), (.ref b13_b4)])) _
    refine X13.baloadBytes hx (j := (1 : Int32)) (v := (.int (p3.toInt8.toInt32))) Ar16.1 (State.isArrayOf_alike hZ.alike Ar16.2.1) Ar16.2.2 hin16 hat16 (g := (mkF m 164 #[.val (.int p1), .val (.int p2), .val (.int p3), .val (.int p4), .val (.int p5), .val (.int p6), .val (.int (2 : Int32)), .val (.ref b1), .val (.ref b6_b1), .val (.ref b13_b4)] [(.int (1 : Int32)), (.ref b13_b4)])) rfl rfl (hb hby at_164) _ ?_
    show Steps p.tables e below (T13.setTop (mkF m 165 #[.val (.int p1), .val (.int p2), .val (.int p3), .val (.int p4), .val (.int p5), .val (.int p6), .val (.int (2 : Int32)), .val (.ref b1), .val (.ref b6_b1), .val (.ref b13_b4)] [(.int (p3.toInt8.toInt32))])) _
    refine XS.iloadN X13.here hx rfl (hb hby at_165) rfl ?_
    show Steps p.tables e below (T13.setTop (mkF m 166 #[.val (.int p1), .val (.int p2), .val (.int p3), .val (.int p4), .val (.int p5), .val (.int p6), .val (.int (2 : Int32)), .val (.ref b1), .val (.ref b6_b1), .val (.ref b13_b4)] [(.int p3), (.int (p3.toInt8.toInt32))])) _
    refine XS.i2b X13.here hx rfl (hb hby at_166) rfl ?_
    show Steps p.tables e below (T13.setTop (mkF m 167 #[.val (.int p1), .val (.int p2), .val (.int p3), .val (.int p4), .val (.int p5), .val (.int p6), .val (.int (2 : Int32)), .val (.ref b1), .val (.ref b6_b1), .val (.ref b13_b4)] [(.int (p3.toInt8.toInt32)), (.int (p3.toInt8.toInt32))])) _
    refine XS.icmpYes X13.here hx rfl (pc0 := 167) (pc' := 172) rfl (hb hby at_167) rfl (teq (rfl : (p3.toInt8.toInt32) = (p3.toInt8.toInt32))).1 (by decide) (by decide) ?_
    show Steps p.tables e below (T13.setTop (mkF m 172 #[.val (.int p1), .val (.int p2), .val (.int p3), .val (.int p4), .val (.int p5), .val (.int p6), .val (.int (2 : Int32)), .val (.ref b1), .val (.ref b6_b1), .val (.ref b13_b4)] [])) _
    refine XS.iload X13.here hx rfl (hb hby at_172) rfl ?_
    show Steps p.tables e below (T13.setTop (mkF m 174 #[.val (.int p1), .val (.int p2), .val (.int p3), .val (.int p4), .val (.int p5), .val (.int p6), .val (.int (2 : Int32)), .val (.ref b1), .val (.ref b6_b1), .val (.ref b13_b4)] [(.int (2 : Int32))])) _
    refine XS.iconst X13.here hx rfl (hb hby at_174) ?_
    show Steps p.tables e below (T13.setTop (mkF m 175 #[.val (.int p1), .val (.int p2), .val (.int p3), .val (.int p4), .val (.int p5), .val (.int p6), .val (.int (2 : Int32)), .val (.ref b1), .val (.ref b6_b1), .val (.ref b13_b4)] [(.int (2 : Int32)), (.int (2 : Int32))])) _
    refine XS.icmpYes X13.here hx rfl (pc0 := 175) (pc' := 189) rfl (hb hby at_175) rfl (flt ((by decide) : ¬ ((2 : Int32) < (2 : Int32)))).2.2.2 (by decide) (by decide) ?_
    show Steps p.tables e below (T13.setTop (mkF m 189 #[.val (.int p1), .val (.int p2), .val (.int p3), .val (.int p4), .val (.int p5), .val (.int p6), .val (.int (2 : Int32)), .val (.ref b1), .val (.ref b6_b1), .val (.ref b13_b4)] [])) _
    refine XS.iload X13.here hx rfl (hb hby at_189) rfl ?_
    show Steps p.tables e below (T13.setTop (mkF m 191 #[.val (.int p1), .val (.int p2), .val (.int p3), .val (.int p4), .val (.int p5), .val (.int p6), .val (.int (2 : Int32)), .val (.ref b1), .val (.ref b6_b1), .val (.ref b13_b4)] [(.int (2 : Int32))])) _
    refine XS.iconst X13.here hx rfl (hb hby at_191) ?_
    show Steps p.tables e below (T13.setTop (mkF m 192 #[.val (.int p1), .val (.int p2), .val (.int p3), .val (.int p4), .val (.int p5), .val (.int p6), .val (.int (2 : Int32)), .val (.ref b1), .val (.ref b6_b1), .val (.ref b13_b4)] [(.int (3 : Int32)), (.int (2 : Int32))])) _
    refine XS.icmpYes X13.here hx rfl (pc0 := 192) (pc' := 207) rfl (hb hby at_192) rfl (flt ((by decide) : ¬ ((3 : Int32) < (2 : Int32)))).2.2.2 (by decide) (by decide) ?_
    show Steps p.tables e below (T13.setTop (mkF m 207 #[.val (.int p1), .val (.int p2), .val (.int p3), .val (.int p4), .val (.int p5), .val (.int p6), .val (.int (2 : Int32)), .val (.ref b1), .val (.ref b6_b1), .val (.ref b13_b4)] [])) _
    refine XS.iconst X13.here hx rfl (hb hby at_207) ?_
    show Steps p.tables e below (T13.setTop (mkF m 208 #[.val (.int p1), .val (.int p2), .val (.int p3), .val (.int p4), .val (.int p5), .val (.int p6), .val (.int (2 : Int32)), .val (.ref b1), .val (.ref b6_b1), .val (.ref b13_b4)] [(.int (1 : Int32))])) _
    exact retN X13 hx (t := .boolean) Bd.returns (by simp) (hb hby at_208) hr
  · show Q0 n0 _ T13.heap _
    exact ⟨rfl, N13⟩
set_option maxRecDepth 65536 in
set_option maxHeartbeats 40000000 in
theorem rm0_30 (l : Launch) (Z : State) (a0 : Array Value) (hw : ∀ d ∈ tables_1, d.before a0 Z = true) (ws : List Jvm.Cond) {w_n1 : Addr} {w_n0 : Addr} {k_n0 : ClassId} (W : Wd Z w_n1 w_n0 k_n0) (p1 : Int32) (p2 : Int32) (p3 : Int32) (p4 : Int32) (p5 : Int32) (p6 : Int32) (h0 : Heap) (n0 : Nat) (O0 : Old Z n0 h0) (hk : ((p1 &&& (2147483647 : Int32)) % (5 : Int32)) = (3 : Int32)) (hi : ((p6 &&& (2147483647 : Int32)) % (3 : Int32)) = (0 : Int32)) :
    MetFree l x (head1 (Jvm.Cond.code x code maxLocals ret :: ws) room_1) (fun a U => a = #[(.int p1), (.int p2), (.int p3), (.int p4), (.int p5), (.int p6)] ∧ Z.Warmed39 U.vm ∧ U.heap = h0) (fun _ _ _ _ _ => True) (fun _ U o U' => ∃ v L, o = .returned v ∧ Q0 n0 v U'.heap L ∧ FrameEnd U o U' L room_1.cells room_1.slots) := by
  have W' := W; obtain ⟨S_n1, E_n1, S_n0, F_n1_ordinal, V_n0⟩ := W'
  refine MetFree.of_bodySF (plainFor_of_name pn_0) hisR ?_
  intro p e s m args below meth c s₁ Bd hml0 hP hK
  obtain ⟨rfl, hZ, hh⟩ := hP
  have hx := Bd.exec
  have hby := Bd.bytes
  have hml : c.maxLocals = 10 := hml0
  have hown : s.vm.findClass "com/example/keyfold/keyfold/core/ValueOfBinary193PinLaw" = some m.cls := findClass_of_methodNamed Bd.named
  have hnm := (name_of_methodNamed Bd.named Bd.method).1
  have X0 : Stand p l e room_1 s m #[(.int p1), (.int p2), (.int p3), (.int p4), (.int p5), (.int p6)] below meth c s₁ [] 0 0 := Stand.of_body Bd
  have e0 : s₁.heap = h0 := by rw [← hh, Bd.state]; rfl
  have N0 := Fr.nil n0
  have pre0 : ∀ t, Steps p.tables e below (s₁.setTop (mkF m 0 #[.val (.int p1), .val (.int p2), .val (.int p3), .val (.int p4), .val (.int p5), .val (.int p6), .unset, .unset, .unset, .unset] [])) t → Steps p.tables e below (s₁.setTop (entryFrame m #[(.int p1), (.int p2), (.int p3), (.int p4), (.int p5), (.int p6)] maxLocals)) t := fun t k => castTop (ef_0_7 m p1 p2 p3 p4 p5 p6) k
  obtain ⟨T1, h1, k1, X1, e1, E1, A1, B1, st1⟩ := newPE X0 hx hZ (hw _ (List.mem_of_getElem? (i := 1) rfl)) e0 (g := (mkF m 10 #[.val (.int p1), .val (.int p2), .val (.int p3), .val (.int p4), .val (.int p5), .val (.int p6), .val (.int (3 : Int32)), .unset, .unset, .unset] [(.int (3 : Int32))])) rfl (hb hby at_10) rfl (by decide) (cap := 3) (by decide) (by decide) (by decide) (by decide) (ad := "[B") (by decide)
  obtain ⟨b1, g1⟩ : ∃ z, z = h0.size := ⟨_, rfl⟩
  rw [← g1] at A1 B1 st1
  have g_b1 : n0 ≤ b1 := by rw [g1]; exact O0.1 ▸ O0.2.1
  have O1 := O0.ext E1
  have fv1 : Arv Z h1 b1 k1 .byte (3 : Int32) [(.int (0 : Int32)), (.int (0 : Int32)), (.int (0 : Int32))] (.int (0 : Int32)) := (Arv.new A1 (by decide)).pad (pad_rep [] (.int (0 : Int32)) 3)
  obtain ⟨cl2, Ar2, qk2, Sz2, Nz2, Hs2, Gs2⟩ := id fv1
  have hin2 : ¬ ((0 : Int32) < 0 ∨ cl2.slots.size ≤ ((0 : Int32)).toNatClampNeg) := inb_of Sz2 ⟨by decide, by decide⟩
  obtain ⟨T3, h3, X3, e3, W3, st3⟩ := stB X1 hx hZ e1 Ar2 (j := (0 : Int32)) hin2  (g := (mkF m 24 #[.val (.int p1), .val (.int p2), .val (.int p3), .val (.int p4), .val (.int p5), .val (.int p6), .val (.int (3 : Int32)), .val (.ref b1), .unset, .unset] [(.int (p2.toInt8.toInt32)), (.int (0 : Int32)), (.ref b1)])) rfl rfl (hb hby at_24)
  rw [show nar .byte (p2.toInt8.toInt32) = (p2.toInt8.toInt32) from own_byte _] at W3
  have fw3 : Arv Z h3 b1 k1 .byte (3 : Int32) [(.int (p2.toInt8.toInt32)), (.int (0 : Int32)), (.int (0 : Int32))] (.int (0 : Int32)) := Arv.set Ar2 qk2 Sz2 Nz2 Hs2 Gs2 (fits_nar_byte _) W3 0 rfl (Nat.le_of_ble_eq_true rfl)
  have f3_0 : Exa Z h3 b1 "[B" := (B1).wr W3
  have O3 := O1.wr W3 g_b1
  have N3 := Fr.snoc X3 N0 g_b1
  obtain ⟨cl4, Ar4, qk4, Sz4, Nz4, Hs4, Gs4⟩ := id fw3
  have hin4 : ¬ ((1 : Int32) < 0 ∨ cl4.slots.size ≤ ((1 : Int32)).toNatClampNeg) := inb_of Sz4 ⟨by decide, by decide⟩
  obtain ⟨T5, h5, X5, e5, W5, st5⟩ := stB X3 hx hZ e3 Ar4 (j := (1 : Int32)) hin4  (g := (mkF m 36 #[.val (.int p1), .val (.int p2), .val (.int p3), .val (.int p4), .val (.int p5), .val (.int p6), .val (.int (3 : Int32)), .val (.ref b1), .unset, .unset] [(.int (p3.toInt8.toInt32)), (.int (1 : Int32)), (.ref b1)])) rfl rfl (hb hby at_36)
  rw [show nar .byte (p3.toInt8.toInt32) = (p3.toInt8.toInt32) from own_byte _] at W5
  have fw5 : Arv Z h5 b1 k1 .byte (3 : Int32) [(.int (p2.toInt8.toInt32)), (.int (p3.toInt8.toInt32)), (.int (0 : Int32))] (.int (0 : Int32)) := Arv.set Ar4 qk4 Sz4 Nz4 Hs4 Gs4 (fits_nar_byte _) W5 1 rfl (Nat.le_of_ble_eq_true rfl)
  have f5_0 : Exa Z h5 b1 "[B" := (f3_0).wr W5
  have O5 := O3.wr W5 g_b1
  have N5 := Fr.snoc X5 N3 g_b1
  obtain ⟨cl6, Ar6, qk6, Sz6, Nz6, Hs6, Gs6⟩ := id fw5
  have hin6 : ¬ ((2 : Int32) < 0 ∨ cl6.slots.size ≤ ((2 : Int32)).toNatClampNeg) := inb_of Sz6 ⟨by decide, by decide⟩
  obtain ⟨T7, h7, X7, e7, W7, st7⟩ := stB X5 hx hZ e5 Ar6 (j := (2 : Int32)) hin6  (g := (mkF m 48 #[.val (.int p1), .val (.int p2), .val (.int p3), .val (.int p4), .val (.int p5), .val (.int p6), .val (.int (3 : Int32)), .val (.ref b1), .unset, .unset] [(.int (p4.toInt8.toInt32)), (.int (2 : Int32)), (.ref b1)])) rfl rfl (hb hby at_48)
  rw [show nar .byte (p4.toInt8.toInt32) = (p4.toInt8.toInt32) from own_byte _] at W7
  have fw7 : Arv Z h7 b1 k1 .byte (3 : Int32) [(.int (p2.toInt8.toInt32)), (.int (p3.toInt8.toInt32)), (.int (p4.toInt8.toInt32))] (.int (0 : Int32)) := Arv.set Ar6 qk6 Sz6 Nz6 Hs6 Gs6 (fits_nar_byte _) W7 2 rfl (Nat.le_of_ble_eq_true rfl)
  have f7_0 : Exa Z h7 b1 "[B" := (f5_0).wr W7
  have O7 := O5.wr W7 g_b1
  have N7 := Fr.snoc X7 N5 g_b1
  obtain ⟨_, _, ⟨T8, L8, k8, n8⟩, -, X8, ⟨Lc8, hQ8, l8, y8, z8⟩, st8⟩ := Jvm.LawKit.callS X7 hx (y := (⟨"com/example/keyfold/keyfold/core/Value", "ofBinary", "([B)Lcom/example/keyfold/keyfold/core/Value;"⟩ : MethodName)) hown (mvT hZ (hw _ (List.mem_of_getElem? (i := 2) rfl))) (mvT hZ (hw _ (List.mem_of_getElem? (i := 3) rfl))) (mvT hZ (hw _ (List.mem_of_getElem? (i := 4) rfl))) (mvT hZ (hw _ (List.mem_of_getElem? (i := 5) rfl))) (by decide) (backOf (W := 0) (rm1_3 l Z a0 hw [] W b1 k1 (p2.toInt8.toInt32) (p3.toInt8.toInt32) (p4.toInt8.toInt32) h7 n0 O7 g_b1 f7_0 fw7) hZ (hw _ (List.mem_of_getElem? (i := 5) rfl)) (hw _ (List.mem_of_getElem? (i := 4) rfl)) (by decide) (by decide)) (g := (mkF m 64 #[.val (.int p1), .val (.int p2), .val (.int p3), .val (.int p4), .val (.int p5), .val (.int p6), .val (.int (3 : Int32)), .val (.ref b1), .unset, .unset] [(.ref b1)])) rfl (by rw [hml]; rfl) (argsL := [(.ref b1)]) (rest := []) (lenOf pd_3 rfl) rfl (by show 2 * 0 + _ ≤ _; exact Nat.le_of_eq rfl) (hb hby at_64) (fun _ _ => ⟨rfl, e7, (by decide : 1 + 2 ≤ _), (by decide : 3 + 5 ≤ _)⟩)
  dsimp only [Pt.U, Pt.locs, Pt.cells, Pt.slots] at X8 l8 y8 z8 st8 hQ8
  subst l8 y8 z8
  obtain ⟨N8q, hP8⟩ := hQ8
  have N8 := Fr.app N7 N8q
  obtain ⟨b8_b1, b8_b3, rfl, Kp8, g_b8_b1, si_b8_b1, g_b8_b3, si_b8_b3, fp8_0, fp8_1, fp8_2, fp8_3, fp8_4⟩ := hP8
  have f8_0 : Exa Z T8.heap b1 "[B" := (f7_0).keep Kp8
  have f8_1 : Arv Z T8.heap b1 k1 .byte (3 : Int32) [(.int (p2.toInt8.toInt32)), (.int (p3.toInt8.toInt32)), (.int (p4.toInt8.toInt32))] (.int (0 : Int32)) := (fw7).keep Kp8 nin0
  have O8 := O7.keep Kp8 all0
  obtain ⟨cl9, Ar9, qk9, Sz9, Nz9, Hs9, Gs9⟩ := id f8_1
  have hin9 : ¬ ((0 : Int32) < 0 ∨ cl9.slots.size ≤ ((0 : Int32)).toNatClampNeg) := inb_of Sz9 ⟨by decide, by decide⟩
  have hat9 : cl9.slots[((0 : Int32)).toNatClampNeg]? = some (.int (p2.toInt8.toInt32)) := Has.at Hs9 hin9 rfl
  obtain ⟨cl10, Ar10, qk10, Sz10, Nz10, Hs10, Gs10⟩ := id f8_1
  have hin10 : ¬ ((0 : Int32) < 0 ∨ cl10.slots.size ≤ ((0 : Int32)).toNatClampNeg) := inb_of Sz10 ⟨by decide, by decide⟩
  obtain ⟨T11, h11, X11, e11, W11, st11⟩ := stB X8 hx hZ rfl Ar10 (j := (0 : Int32)) hin10  (g := (mkF m 96 #[.val (.int p1), .val (.int p2), .val (.int p3), .val (.int p4), .val (.int p5), .val (.int p6), .val (.int (3 : Int32)), .val (.ref b1), .val (.ref b8_b1), .val (.int (0 : Int32))] [(.int (((p2.toInt8.toInt32) ^^^ (-1 : Int32)).toInt8.toInt32)), (.int (0 : Int32)), (.ref b1)])) rfl rfl (hb hby at_96)
  rw [show nar .byte (((p2.toInt8.toInt32) ^^^ (-1 : Int32)).toInt8.toInt32) = (((p2.toInt8.toInt32) ^^^ (-1 : Int32)).toInt8.toInt32) from own_byte _] at W11
  have fw11 : Arv Z h11 b1 k1 .byte (3 : Int32) [(.int (((p2.toInt8.toInt32) ^^^ (-1 : Int32)).toInt8.toInt32)), (.int (p3.toInt8.toInt32)), (.int (p4.toInt8.toInt32))] (.int (0 : Int32)) := Arv.set Ar10 qk10 Sz10 Nz10 Hs10 Gs10 (fits_nar_byte _) W11 0 rfl (Nat.le_of_ble_eq_true rfl)
  have f11_0 : Exa Z h11 b1 "[B" := (f8_0).wr W11
  have f11_1 : Exa Z h11 b8_b1 "com/example/keyfold/keyfold/core/Value" := (fp8_0).wr W11
  have f11_2 : Fld Z h11 b8_b1 "com/example/keyfold/keyfold/core/Value" "type" "Lcom/example/keyfold/keyfold/core/ValueType;" (.ref w_n1) := (fp8_1).other W11 (Or.inl (ne_exa fp8_0 f8_0 (by decide)))
  have f11_3 : Fld Z h11 b8_b1 "com/example/keyfold/keyfold/core/Value" "content" "Ljava/lang/Object;" (.ref b8_b3) := (fp8_2).other W11 (Or.inl (ne_exa fp8_0 f8_0 (by decide)))
  have f11_4 : Exa Z h11 b8_b3 "[B" := (fp8_3).wr W11
  have f11_5 : Arv Z h11 b8_b3 k1 .byte (3 : Int32) [(.int (p2.toInt8.toInt32)), (.int (p3.toInt8.toInt32)), (.int (p4.toInt8.toInt32))] (.int (0 : Int32)) := (fp8_4).other W11 (Ne.symm (Nat.ne_of_lt (Nat.lt_of_lt_of_le (f7_0).lt si_b8_b3)))
  have O11 := O8.wr W11 g_b1
  have N11 := Fr.snoc X11 N8 g_b1
  obtain ⟨cq12, kq12, q12a, q12b, q12c⟩ := isOf hZ e11 f11_1
  obtain ⟨_, _, ⟨T12, L12, k12, n12⟩, -, X12, ⟨Lc12, hQ12, l12, y12, z12⟩, st12⟩ := X11.virtualBack hx (y := (⟨"com/example/keyfold/keyfold/core/Value", "type", "()Lcom/example/keyfold/keyfold/core/ValueType;"⟩ : MethodName)) (z := (⟨"com/example/keyfold/keyfold/core/Value", "type", "()Lcom/example/keyfold/keyfold/core/ValueType;"⟩ : MethodName)) hown (mvT hZ (hw _ (List.mem_of_getElem? (i := 28) rfl))) (mvT hZ (hw _ (List.mem_of_getElem? (i := 29) rfl))) (notFace_of_selects (args := #[]) (mvT hZ (hw _ (List.mem_of_getElem? (i := 31) rfl)))) (mvT hZ (hw _ (List.mem_of_getElem? (i := 31) rfl))) (mvT hZ (hw _ (List.mem_of_getElem? (i := 30) rfl))) (by decide) (backOf (W := 0) (rm4 l Z a0 hw [] W b8_b1 h11 n0 O11 f11_2) hZ (hw _ (List.mem_of_getElem? (i := 32) rfl)) (hw _ (List.mem_of_getElem? (i := 4) rfl)) (by decide) (by decide)) q12a q12c (g := (mkF m 99 #[.val (.int p1), .val (.int p2), .val (.int p3), .val (.int p4), .val (.int p5), .val (.int p6), .val (.int (3 : Int32)), .val (.ref b1), .val (.ref b8_b1), .val (.int (0 : Int32))] [(.ref b8_b1)])) rfl (by rw [hml]; rfl) (Steps.refl _) (argsL := []) (rest := []) (lenOf pd_4 rfl) rfl (by show 2 * 0 + _ ≤ _; exact Nat.le_of_eq rfl) (hb hby at_99) (fun _ _ => ⟨rfl, e11, (by decide : 3 + 0 ≤ _), (by decide : 8 + 0 ≤ _)⟩)
  dsimp only [Pt.U, Pt.locs, Pt.cells, Pt.slots] at X12 l12 y12 z12 st12 hQ12
  subst l12 y12 z12
  obtain ⟨rfl, N12q, e12⟩ := hQ12
  have N12 := Fr.app N11 N12q
  obtain ⟨T13, X13, e13, st13⟩ := getS2 X12 hx hZ hown (host := "") (Or.inl (hw _ (List.mem_of_getElem? (i := 33) rfl))) Via.refl e12 (S_n1.ext O11.2) (g := (mkF m 102 #[.val (.int p1), .val (.int p2), .val (.int p3), .val (.int p4), .val (.int p5), .val (.int p6), .val (.int (3 : Int32)), .val (.ref b1), .val (.ref b8_b1), .val (.int (0 : Int32))] [(.ref w_n1)])) rfl (hb hby at_102)
  obtain ⟨cq14, kq14, q14a, q14b, q14c⟩ := isOf hZ e13 f11_1
  obtain ⟨_, _, ⟨T14, L14, k14, n14⟩, -, X14, ⟨Lc14, hQ14, l14, y14, z14⟩, st14⟩ := X13.virtualBack hx (y := (⟨"com/example/keyfold/keyfold/core/Value", "size", "()I"⟩ : MethodName)) (z := (⟨"com/example/keyfold/keyfold/core/Value", "size", "()I"⟩ : MethodName)) hown (mvT hZ (hw _ (List.mem_of_getElem? (i := 34) rfl))) (mvT hZ (hw _ (List.mem_of_getElem? (i := 35) rfl))) (notFace_of_selects (args := #[]) (mvT hZ (hw _ (List.mem_of_getElem? (i := 37) rfl)))) (mvT hZ (hw _ (List.mem_of_getElem? (i := 37) rfl))) (mvT hZ (hw _ (List.mem_of_getElem? (i := 36) rfl))) (by decide) (backOf (W := 0) (rm7_3 l Z a0 hw [] W b8_b1 b8_b3 k1 (p2.toInt8.toInt32) (p3.toInt8.toInt32) (p4.toInt8.toInt32) h11 n0 O11 g_b8_b1 f11_1 f11_2 f11_3 g_b8_b3 f11_4 f11_5) hZ (hw _ (List.mem_of_getElem? (i := 38) rfl)) (hw _ (List.mem_of_getElem? (i := 4) rfl)) (by decide) (by decide)) q14a q14c (g := (mkF m 112 #[.val (.int p1), .val (.int p2), .val (.int p3), .val (.int p4), .val (.int p5), .val (.int p6), .val (.int (3 : Int32)), .val (.ref b1), .val (.ref b8_b1), .val (.int (0 : Int32))] [(.ref b8_b1)])) rfl (by rw [hml]; rfl) (Steps.refl _) (argsL := []) (rest := []) (lenOf pd_1 rfl) rfl (by show 2 * 0 + _ ≤ _; exact Nat.le_of_eq rfl) (hb hby at_112) (fun _ _ => ⟨rfl, e13, (by decide : 3 + 0 ≤ _), (by decide : 8 + 0 ≤ _)⟩)
  dsimp only [Pt.U, Pt.locs, Pt.cells, Pt.slots] at X14 l14 y14 z14 st14 hQ14
  subst l14 y14 z14
  obtain ⟨rfl, N14q, e14⟩ := hQ14
  have N14 := Fr.app N12 N14q
  obtain ⟨cq15, kq15, q15a, q15b, q15c⟩ := isOf hZ e14 f11_1
  obtain ⟨_, _, ⟨T15, L15, k15, n15⟩, -, X15, ⟨Lc15, hQ15, l15, y15, z15⟩, st15⟩ := X14.virtualBack hx (y := (⟨"com/example/keyfold/keyfold/core/Value", "asBinary", "()[B"⟩ : MethodName)) (z := (⟨"com/example/keyfold/keyfold/core/Value", "asBinary", "()[B"⟩ : MethodName)) hown (mvT hZ (hw _ (List.mem_of_getElem? (i := 53) rfl))) (mvT hZ (hw _ (List.mem_of_getElem? (i := 54) rfl))) (notFace_of_selects (args := #[]) (mvT hZ (hw _ (List.mem_of_getElem? (i := 56) rfl)))) (mvT hZ (hw _ (List.mem_of_getElem? (i := 56) rfl))) (mvT hZ (hw _ (List.mem_of_getElem? (i := 55) rfl))) (by decide) (backOf (W := 0) (rm5_3 l Z a0 hw [] W b8_b1 b8_b3 k1 (p2.toInt8.toInt32) (p3.toInt8.toInt32) (p4.toInt8.toInt32) h11 n0 O11 g_b8_b1 f11_1 f11_2 f11_3 g_b8_b3 f11_4 f11_5) hZ (hw _ (List.mem_of_getElem? (i := 57) rfl)) (hw _ (List.mem_of_getElem? (i := 4) rfl)) (by decide) (by decide)) q15a q15c (g := (mkF m 124 #[.val (.int p1), .val (.int p2), .val (.int p3), .val (.int p4), .val (.int p5), .val (.int p6), .val (.int (3 : Int32)), .val (.ref b1), .val (.ref b8_b1), .val (.int (0 : Int32))] [(.ref b8_b1)])) rfl (by rw [hml]; rfl) (Steps.refl _) (argsL := []) (rest := []) (lenOf pd_5 rfl) rfl (by show 2 * 0 + _ ≤ _; exact Nat.le_of_eq rfl) (hb hby at_124) (fun _ _ => ⟨rfl, e14, (by decide : 3 + 1 ≤ _), (by decide : 8 + 3 ≤ _)⟩)
  dsimp only [Pt.U, Pt.locs, Pt.cells, Pt.slots] at X15 l15 y15 z15 st15 hQ15
  subst l15 y15 z15
  obtain ⟨N15q, hP15⟩ := hQ15
  have N15 := Fr.app N14 N15q
  obtain ⟨b15_b4, rfl, Kp15, g_b15_b4, si_b15_b4, fp15_0, fp15_1⟩ := hP15
  have f15_0 : Exa Z T15.heap b1 "[B" := (f11_0).keep Kp15
  have f15_1 : Exa Z T15.heap b8_b1 "com/example/keyfold/keyfold/core/Value" := (f11_1).keep Kp15
  have f15_2 : Fld Z T15.heap b8_b1 "com/example/keyfold/keyfold/core/Value" "type" "Lcom/example/keyfold/keyfold/core/ValueType;" (.ref w_n1) := (f11_2).keep Kp15 nin0
  have f15_3 : Fld Z T15.heap b8_b1 "com/example/keyfold/keyfold/core/Value" "content" "Ljava/lang/Object;" (.ref b8_b3) := (f11_3).keep Kp15 nin0
  have f15_4 : Exa Z T15.heap b8_b3 "[B" := (f11_4).keep Kp15
  have f15_5 : Arv Z T15.heap b8_b3 k1 .byte (3 : Int32) [(.int (p2.toInt8.toInt32)), (.int (p3.toInt8.toInt32)), (.int (p4.toInt8.toInt32))] (.int (0 : Int32)) := (f11_5).keep Kp15 nin0
  have f15_6 : Arv Z T15.heap b1 k1 .byte (3 : Int32) [(.int (((p2.toInt8.toInt32) ^^^ (-1 : Int32)).toInt8.toInt32)), (.int (p3.toInt8.toInt32)), (.int (p4.toInt8.toInt32))] (.int (0 : Int32)) := (fw11).keep Kp15 nin0
  have O15 := O11.keep Kp15 all0
  obtain ⟨cl16, Ar16, qk16, Sz16, Nz16, Hs16, Gs16⟩ := id fp15_1
  obtain ⟨cl17, Ar17, qk17, Sz17, Nz17, Hs17, Gs17⟩ := id fp15_1
  have hin17 : ¬ ((0 : Int32) < 0 ∨ cl17.slots.size ≤ ((0 : Int32)).toNatClampNeg) := inb_of Sz17 ⟨by decide, by decide⟩
  have hat17 : cl17.slots[((0 : Int32)).toNatClampNeg]? = some (.int (p2.toInt8.toInt32)) := Has.at Hs17 hin17 rfl
  obtain ⟨cl18, Ar18, qk18, Sz18, Nz18, Hs18, Gs18⟩ := id fp15_1
  have hin18 : ¬ ((1 : Int32) < 0 ∨ cl18.slots.size ≤ ((1 : Int32)).toNatClampNeg) := inb_of Sz18 ⟨by decide, by decide⟩
  have hat18 : cl18.slots[((1 : Int32)).toNatClampNeg]? = some (.int (p3.toInt8.toInt32)) := Has.at Hs18 hin18 rfl
  obtain ⟨cl19, Ar19, qk19, Sz19, Nz19, Hs19, Gs19⟩ := id fp15_1
  have hin19 : ¬ ((2 : Int32) < 0 ∨ cl19.slots.size ≤ ((2 : Int32)).toNatClampNeg) := inb_of Sz19 ⟨by decide, by decide⟩
  have hat19 : cl19.slots[((2 : Int32)).toNatClampNeg]? = some (.int (p4.toInt8.toInt32)) := Has.at Hs19 hin19 rfl
  obtain ⟨fs, hr, hrun, hended, hW, hsame⟩ := X15.leave (v := some (.int (1 : Int32))) (fun h => by rw [Bd.returns] at h; cases h)
  refine ⟨_, _, pre0 _ ?_, hrun, hended, _, _, rfl, ?_, ⟨_, rfl⟩, hW, hsame.mono (by decide) (by decide)⟩
  · show Steps p.tables e below (s₁.setTop (mkF m 0 #[.val (.int p1), .val (.int p2), .val (.int p3), .val (.int p4), .val (.int p5), .val (.int p6), .unset, .unset, .unset, .unset] [])) _
    refine XS.iloadN X0.here hx rfl (hb hby at_0) rfl ?_
    show Steps p.tables e below (s₁.setTop (mkF m 1 #[.val (.int p1), .val (.int p2), .val (.int p3), .val (.int p4), .val (.int p5), .val (.int p6), .unset, .unset, .unset, .unset] [(.int p1)])) _
    refine X0.ldcInt hx hown (mvT hZ (hw _ (List.mem_of_getElem? (i := 0) rfl))) (g := (mkF m 1 #[.val (.int p1), .val (.int p2), .val (.int p3), .val (.int p4), .val (.int p5), .val (.int p6), .unset, .unset, .unset, .unset] [(.int p1)])) rfl (hb hby at_1) _ ?_
    show Steps p.tables e below (s₁.setTop (mkF m 3 #[.val (.int p1), .val (.int p2), .val (.int p3), .val (.int p4), .val (.int p5), .val (.int p6), .unset, .unset, .unset, .unset] [(.int (2147483647 : Int32)), (.int p1)])) _
    refine XS.iand X0.here hx rfl (hb hby at_3) rfl ?_
    show Steps p.tables e below (s₁.setTop (mkF m 4 #[.val (.int p1), .val (.int p2), .val (.int p3), .val (.int p4), .val (.int p5), .val (.int p6), .unset, .unset, .unset, .unset] [(.int (p1 &&& (2147483647 : Int32)))])) _
    refine XS.iconst X0.here hx rfl (hb hby at_4) ?_
    show Steps p.tables e below (s₁.setTop (mkF m 5 #[.val (.int p1), .val (.int p2), .val (.int p3), .val (.int p4), .val (.int p5), .val (.int p6), .unset, .unset, .unset, .unset] [(.int (5 : Int32)), (.int (p1 &&& (2147483647 : Int32)))])) _
    refine iremM X0 hx rfl (hb hby at_5) rfl (by decide) ?_
    show Steps p.tables e below (s₁.setTop (mkF m 6 #[.val (.int p1), .val (.int p2), .val (.int p3), .val (.int p4), .val (.int p5), .val (.int p6), .unset, .unset, .unset, .unset] [(.int ((p1 &&& (2147483647 : Int32)) % (5 : Int32)))])) _
    rw [hk]
    show Steps p.tables e below (s₁.setTop (mkF m 6 #[.val (.int p1), .val (.int p2), .val (.int p3), .val (.int p4), .val (.int p5), .val (.int p6), .unset, .unset, .unset, .unset] [(.int (3 : Int32))])) _
    refine XS.istore X0.here hx rfl (hb hby at_6) rfl (l' := #[.val (.int p1), .val (.int p2), .val (.int p3), .val (.int p4), .val (.int p5), .val (.int p6), .val (.int (3 : Int32)), .unset, .unset, .unset]) rfl ?_
    show Steps p.tables e below (s₁.setTop (mkF m 8 #[.val (.int p1), .val (.int p2), .val (.int p3), .val (.int p4), .val (.int p5), .val (.int p6), .val (.int (3 : Int32)), .unset, .unset, .unset] [])) _
    refine XS.iload X0.here hx rfl (hb hby at_8) rfl ?_
    show Steps p.tables e below (s₁.setTop (mkF m 10 #[.val (.int p1), .val (.int p2), .val (.int p3), .val (.int p4), .val (.int p5), .val (.int p6), .val (.int (3 : Int32)), .unset, .unset, .unset] [(.int (3 : Int32))])) _
    refine st1 _ ?_
    show Steps p.tables e below (T1.setTop (mkF m 12 #[.val (.int p1), .val (.int p2), .val (.int p3), .val (.int p4), .val (.int p5), .val (.int p6), .val (.int (3 : Int32)), .unset, .unset, .unset] [(.ref b1)])) _
    refine XS.astore X1.here hx rfl (hb hby at_12) rfl rfl (l' := #[.val (.int p1), .val (.int p2), .val (.int p3), .val (.int p4), .val (.int p5), .val (.int p6), .val (.int (3 : Int32)), .val (.ref b1), .unset, .unset]) rfl ?_
    show Steps p.tables e below (T1.setTop (mkF m 14 #[.val (.int p1), .val (.int p2), .val (.int p3), .val (.int p4), .val (.int p5), .val (.int p6), .val (.int (3 : Int32)), .val (.ref b1), .unset, .unset] [])) _
    refine XS.iload X1.here hx rfl (hb hby at_14) rfl ?_
    show Steps p.tables e below (T1.setTop (mkF m 16 #[.val (.int p1), .val (.int p2), .val (.int p3), .val (.int p4), .val (.int p5), .val (.int p6), .val (.int (3 : Int32)), .val (.ref b1), .unset, .unset] [(.int (3 : Int32))])) _
    refine XS.ifNo X1.here hx rfl (hb hby at_16) rfl ((if0 _ _).trans (tlt ((by decide) : (0 : Int32) < (3 : Int32))).2.2.2) ?_
    show Steps p.tables e below (T1.setTop (mkF m 19 #[.val (.int p1), .val (.int p2), .val (.int p3), .val (.int p4), .val (.int p5), .val (.int p6), .val (.int (3 : Int32)), .val (.ref b1), .unset, .unset] [])) _
    refine XS.aload X1.here hx rfl (hb hby at_19) rfl rfl ?_
    show Steps p.tables e below (T1.setTop (mkF m 21 #[.val (.int p1), .val (.int p2), .val (.int p3), .val (.int p4), .val (.int p5), .val (.int p6), .val (.int (3 : Int32)), .val (.ref b1), .unset, .unset] [(.ref b1)])) _
    refine XS.iconst X1.here hx rfl (hb hby at_21) ?_
    show Steps p.tables e below (T1.setTop (mkF m 22 #[.val (.int p1), .val (.int p2), .val (.int p3), .val (.int p4), .val (.int p5), .val (.int p6), .val (.int (3 : Int32)), .val (.ref b1), .unset, .unset] [(.int (0 : Int32)), (.ref b1)])) _
    refine XS.iloadN X1.here hx rfl (hb hby at_22) rfl ?_
    show Steps p.tables e below (T1.setTop (mkF m 23 #[.val (.int p1), .val (.int p2), .val (.int p3), .val (.int p4), .val (.int p5), .val (.int p6), .val (.int (3 : Int32)), .val (.ref b1), .unset, .unset] [(.int p2), (.int (0 : Int32)), (.ref b1)])) _
    refine XS.i2b X1.here hx rfl (hb hby at_23) rfl ?_
    show Steps p.tables e below (T1.setTop (mkF m 24 #[.val (.int p1), .val (.int p2), .val (.int p3), .val (.int p4), .val (.int p5), .val (.int p6), .val (.int (3 : Int32)), .val (.ref b1), .unset, .unset] [(.int (p2.toInt8.toInt32)), (.int (0 : Int32)), (.ref b1)])) _
    refine st3 _ ?_
    show Steps p.tables e below (T3.setTop (mkF m 25 #[.val (.int p1), .val (.int p2), .val (.int p3), .val (.int p4), .val (.int p5), .val (.int p6), .val (.int (3 : Int32)), .val (.ref b1), .unset, .unset] [])) _
    refine XS.iload X3.here hx rfl (hb hby at_25) rfl ?_
    show Steps p.tables e below (T3.setTop (mkF m 27 #[.val (.int p1), .val (.int p2), .val (.int p3), .val (.int p4), .val (.int p5), .val (.int p6), .val (.int (3 : Int32)), .val (.ref b1), .unset, .unset] [(.int (3 : Int32))])) _
    refine XS.iconst X3.here hx rfl (hb hby at_27) ?_
    show Steps p.tables e below (T3.setTop (mkF m 28 #[.val (.int p1), .val (.int p2), .val (.int p3), .val (.int p4), .val (.int p5), .val (.int p6), .val (.int (3 : Int32)), .val (.ref b1), .unset, .unset] [(.int (1 : Int32)), (.int (3 : Int32))])) _
    refine XS.icmpNo X3.here hx rfl (hb hby at_28) rfl (tlt ((by decide) : (1 : Int32) < (3 : Int32))).2.2.2 ?_
    show Steps p.tables e below (T3.setTop (mkF m 31 #[.val (.int p1), .val (.int p2), .val (.int p3), .val (.int p4), .val (.int p5), .val (.int p6), .val (.int (3 : Int32)), .val (.ref b1), .unset, .unset] [])) _
    refine XS.aload X3.here hx rfl (hb hby at_31) rfl rfl ?_
    show Steps p.tables e below (T3.setTop (mkF m 33 #[.val (.int p1), .val (.int p2), .val (.int p3), .val (.int p4), .val (.int p5), .val (.int p6), .val (.int (3 : Int32)), .val (.ref b1), .unset, .unset] [(.ref b1)])) _
    refine XS.iconst X3.here hx rfl (hb hby at_33) ?_
    show Steps p.tables e below (T3.setTop (mkF m 34 #[.val (.int p1), .val (.int p2), .val (.int p3), .val (.int p4), .val (.int p5), .val (.int p6), .val (.int (3 : Int32)), .val (.ref b1), .unset, .unset] [(.int (1 : Int32)), (.ref b1)])) _
    refine XS.iloadN X3.here hx rfl (hb hby at_34) rfl ?_
    show Steps p.tables e below (T3.setTop (mkF m 35 #[.val (.int p1), .val (.int p2), .val (.int p3), .val (.int p4), .val (.int p5), .val (.int p6), .val (.int (3 : Int32)), .val (.ref b1), .unset, .unset] [(.int p3), (.int (1 : Int32)), (.ref b1)])) _
    refine XS.i2b X3.here hx rfl (hb hby at_35) rfl ?_
    show Steps p.tables e below (T3.setTop (mkF m 36 #[.val (.int p1), .val (.int p2), .val (.int p3), .val (.int p4), .val (.int p5), .val (.int p6), .val (.int (3 : Int32)), .val (.ref b1), .unset, .unset] [(.int (p3.toInt8.toInt32)), (.int (1 : Int32)), (.ref b1)])) _
    refine st5 _ ?_
    show Steps p.tables e below (T5.setTop (mkF m 37 #[.val (.int p1), .val (.int p2), .val (.int p3), .val (.int p4), .val (.int p5), .val (.int p6), .val (.int (3 : Int32)), .val (.ref b1), .unset, .unset] [])) _
    refine XS.iload X5.here hx rfl (hb hby at_37) rfl ?_
    show Steps p.tables e below (T5.setTop (mkF m 39 #[.val (.int p1), .val (.int p2), .val (.int p3), .val (.int p4), .val (.int p5), .val (.int p6), .val (.int (3 : Int32)), .val (.ref b1), .unset, .unset] [(.int (3 : Int32))])) _
    refine XS.iconst X5.here hx rfl (hb hby at_39) ?_
    show Steps p.tables e below (T5.setTop (mkF m 40 #[.val (.int p1), .val (.int p2), .val (.int p3), .val (.int p4), .val (.int p5), .val (.int p6), .val (.int (3 : Int32)), .val (.ref b1), .unset, .unset] [(.int (2 : Int32)), (.int (3 : Int32))])) _
    refine XS.icmpNo X5.here hx rfl (hb hby at_40) rfl (tlt ((by decide) : (2 : Int32) < (3 : Int32))).2.2.2 ?_
    show Steps p.tables e below (T5.setTop (mkF m 43 #[.val (.int p1), .val (.int p2), .val (.int p3), .val (.int p4), .val (.int p5), .val (.int p6), .val (.int (3 : Int32)), .val (.ref b1), .unset, .unset] [])) _
    refine XS.aload X5.here hx rfl (hb hby at_43) rfl rfl ?_
    show Steps p.tables e below (T5.setTop (mkF m 45 #[.val (.int p1), .val (.int p2), .val (.int p3), .val (.int p4), .val (.int p5), .val (.int p6), .val (.int (3 : Int32)), .val (.ref b1), .unset, .unset] [(.ref b1)])) _
    refine XS.iconst X5.here hx rfl (hb hby at_45) ?_
    show Steps p.tables e below (T5.setTop (mkF m 46 #[.val (.int p1), .val (.int p2), .val (.int p3), .val (.int p4), .val (.int p5), .val (.int p6), .val (.int (3 : Int32)), .val (.ref b1), .unset, .unset] [(.int (2 : Int32)), (.ref b1)])) _
    refine XS.iloadN X5.here hx rfl (hb hby at_46) rfl ?_
    show Steps p.tables e below (T5.setTop (mkF m 47 #[.val (.int p1), .val (.int p2), .val (.int p3), .val (.int p4), .val (.int p5), .val (.int p6), .val (.int (3 : Int32)), .val (.ref b1), .unset, .unset] [(.int p4), (.int (2 : Int32)), (.ref b1)])) _
    refine XS.i2b X5.here hx rfl (hb hby at_47) rfl ?_
    show Steps p.tables e below (T5.setTop (mkF m 48 #[.val (.int p1), .val (.int p2), .val (.int p3), .val (.int p4), .val (.int p5), .val (.int p6), .val (.int (3 : Int32)), .val (.ref b1), .unset, .unset] [(.int (p4.toInt8.toInt32)), (.int (2 : Int32)), (.ref b1)])) _
    refine st7 _ ?_
    show Steps p.tables e below (T7.setTop (mkF m 49 #[.val (.int p1), .val (.int p2), .val (.int p3), .val (.int p4), .val (.int p5), .val (.int p6), .val (.int (3 : Int32)), .val (.ref b1), .unset, .unset] [])) _
    refine XS.iload X7.here hx rfl (hb hby at_49) rfl ?_
    show Steps p.tables e below (T7.setTop (mkF m 51 #[.val (.int p1), .val (.int p2), .val (.int p3), .val (.int p4), .val (.int p5), .val (.int p6), .val (.int (3 : Int32)), .val (.ref b1), .unset, .unset] [(.int (3 : Int32))])) _
    refine XS.iconst X7.here hx rfl (hb hby at_51) ?_
    show Steps p.tables e below (T7.setTop (mkF m 52 #[.val (.int p1), .val (.int p2), .val (.int p3), .val (.int p4), .val (.int p5), .val (.int p6), .val (.int (3 : Int32)), .val (.ref b1), .unset, .unset] [(.int (3 : Int32)), (.int (3 : Int32))])) _
    refine XS.icmpYes X7.here hx rfl (pc0 := 52) (pc' := 62) rfl (hb hby at_52) rfl (flt ((by decide) : ¬ ((3 : Int32) < (3 : Int32)))).2.2.2 (by decide) (by decide) ?_
    show Steps p.tables e below (T7.setTop (mkF m 62 #[.val (.int p1), .val (.int p2), .val (.int p3), .val (.int p4), .val (.int p5), .val (.int p6), .val (.int (3 : Int32)), .val (.ref b1), .unset, .unset] [])) _
    refine XS.aload X7.here hx rfl (hb hby at_62) rfl rfl ?_
    show Steps p.tables e below (T7.setTop (mkF m 64 #[.val (.int p1), .val (.int p2), .val (.int p3), .val (.int p4), .val (.int p5), .val (.int p6), .val (.int (3 : Int32)), .val (.ref b1), .unset, .unset] [(.ref b1)])) _
    refine st8 _ ?_
    show Steps p.tables e below (T8.setTop (mkF m 67 #[.val (.int p1), .val (.int p2), .val (.int p3), .val (.int p4), .val (.int p5), .val (.int p6), .val (.int (3 : Int32)), .val (.ref b1), .unset, .unset] [(.ref b8_b1)])) _
    refine XS.astore X8.here hx rfl (hb hby at_67) rfl rfl (l' := #[.val (.int p1), .val (.int p2), .val (.int p3), .val (.int p4), .val (.int p5), .val (.int p6), .val (.int (3 : Int32)), .val (.ref b1), .val (.ref b8_b1), .unset]) rfl ?_
    show Steps p.tables e below (T8.setTop (mkF m 69 #[.val (.int p1), .val (.int p2), .val (.int p3), .val (.int p4), .val (.int p5), .val (.int p6), .val (.int (3 : Int32)), .val (.ref b1), .val (.ref b8_b1), .unset] [])) _
    refine XS.iload X8.here hx rfl (hb hby at_69) rfl ?_
    show Steps p.tables e below (T8.setTop (mkF m 71 #[.val (.int p1), .val (.int p2), .val (.int p3), .val (.int p4), .val (.int p5), .val (.int p6), .val (.int (3 : Int32)), .val (.ref b1), .val (.ref b8_b1), .unset] [(.int (3 : Int32))])) _
    refine XS.ifNo X8.here hx rfl (hb hby at_71) rfl ((if0 _ _).trans (tlt ((by decide) : (0 : Int32) < (3 : Int32))).2.2.2) ?_
    show Steps p.tables e below (T8.setTop (mkF m 74 #[.val (.int p1), .val (.int p2), .val (.int p3), .val (.int p4), .val (.int p5), .val (.int p6), .val (.int (3 : Int32)), .val (.ref b1), .val (.ref b8_b1), .unset] [])) _
    refine XS.iload X8.here hx rfl (hb hby at_74) rfl ?_
    show Steps p.tables e below (T8.setTop (mkF m 76 #[.val (.int p1), .val (.int p2), .val (.int p3), .val (.int p4), .val (.int p5), .val (.int p6), .val (.int (3 : Int32)), .val (.ref b1), .val (.ref b8_b1), .unset] [(.int p6)])) _
    refine X8.ldcInt hx hown (mvT hZ (hw _ (List.mem_of_getElem? (i := 0) rfl))) (g := (mkF m 76 #[.val (.int p1), .val (.int p2), .val (.int p3), .val (.int p4), .val (.int p5), .val (.int p6), .val (.int (3 : Int32)), .val (.ref b1), .val (.ref b8_b1), .unset] [(.int p6)])) rfl (hb hby at_76) _ ?_
    show Steps p.tables e below (T8.setTop (mkF m 78 #[.val (.int p1), .val (.int p2), .val (.int p3), .val (.int p4), .val (.int p5), .val (.int p6), .val (.int (3 : Int32)), .val (.ref b1), .val (.ref b8_b1), .unset] [(.int (2147483647 : Int32)), (.int p6)])) _
    refine XS.iand X8.here hx rfl (hb hby at_78) rfl ?_
    show Steps p.tables e below (T8.setTop (mkF m 79 #[.val (.int p1), .val (.int p2), .val (.int p3), .val (.int p4), .val (.int p5), .val (.int p6), .val (.int (3 : Int32)), .val (.ref b1), .val (.ref b8_b1), .unset] [(.int (p6 &&& (2147483647 : Int32)))])) _
    refine XS.iload X8.here hx rfl (hb hby at_79) rfl ?_
    show Steps p.tables e below (T8.setTop (mkF m 81 #[.val (.int p1), .val (.int p2), .val (.int p3), .val (.int p4), .val (.int p5), .val (.int p6), .val (.int (3 : Int32)), .val (.ref b1), .val (.ref b8_b1), .unset] [(.int (3 : Int32)), (.int (p6 &&& (2147483647 : Int32)))])) _
    refine iremM X8 hx rfl (hb hby at_81) rfl (by decide) ?_
    show Steps p.tables e below (T8.setTop (mkF m 82 #[.val (.int p1), .val (.int p2), .val (.int p3), .val (.int p4), .val (.int p5), .val (.int p6), .val (.int (3 : Int32)), .val (.ref b1), .val (.ref b8_b1), .unset] [(.int ((p6 &&& (2147483647 : Int32)) % (3 : Int32)))])) _
    rw [hi]
    show Steps p.tables e below (T8.setTop (mkF m 82 #[.val (.int p1), .val (.int p2), .val (.int p3), .val (.int p4), .val (.int p5), .val (.int p6), .val (.int (3 : Int32)), .val (.ref b1), .val (.ref b8_b1), .unset] [(.int (0 : Int32))])) _
    refine XS.istore X8.here hx rfl (hb hby at_82) rfl (l' := #[.val (.int p1), .val (.int p2), .val (.int p3), .val (.int p4), .val (.int p5), .val (.int p6), .val (.int (3 : Int32)), .val (.ref b1), .val (.ref b8_b1), .val (.int (0 : Int32))]) rfl ?_
    show Steps p.tables e below (T8.setTop (mkF m 84 #[.val (.int p1), .val (.int p2), .val (.int p3), .val (.int p4), .val (.int p5), .val (.int p6), .val (.int (3 : Int32)), .val (.ref b1), .val (.ref b8_b1), .val (.int (0 : Int32))] [])) _
    refine XS.aload X8.here hx rfl (hb hby at_84) rfl rfl ?_
    show Steps p.tables e below (T8.setTop (mkF m 86 #[.val (.int p1), .val (.int p2), .val (.int p3), .val (.int p4), .val (.int p5), .val (.int p6), .val (.int (3 : Int32)), .val (.ref b1), .val (.ref b8_b1), .val (.int (0 : Int32))] [(.ref b1)])) _
    refine XS.iload X8.here hx rfl (hb hby at_86) rfl ?_
    show Steps p.tables e below (T8.setTop (mkF m 88 #[.val (.int p1), .val (.int p2), .val (.int p3), .val (.int p4), .val (.int p5), .val (.int p6), .val (.int (3 : Int32)), .val (.ref b1), .val (.ref b8_b1), .val (.int (0 : Int32))] [(.int (0 : Int32)), (.ref b1)])) _
    refine XS.aload X8.here hx rfl (hb hby at_88) rfl rfl ?_
    show Steps p.tables e below (T8.setTop (mkF m 90 #[.val (.int p1), .val (.int p2), .val (.int p3), .val (.int p4), .val (.int p5), .val (.int p6), .val (.int (3 : Int32)), .val (.ref b1), .val (.ref b8_b1), .val (.int (0 : Int32))] [(.ref b1), (.int (0 : Int32)), (.ref b1)])) _
    refine XS.iload X8.here hx rfl (hb hby at_90) rfl ?_
    show Steps p.tables e below (T8.setTop (mkF m 92 #[.val (.int p1), .val (.int p2), .val (.int p3), .val (.int p4), .val (.int p5), .val (.int p6), .val (.int (3 : Int32)), .val (.ref b1), .val (.ref b8_b1), .val (.int (0 : Int32))] [(.int (0 : Int32)), (.ref b1), (.int (0 : Int32)), (.ref b1)])) _
    refine X8.baloadBytes hx (j := (0 : Int32)) (v := (.int (p2.toInt8.toInt32))) Ar9.1 (State.isArrayOf_alike hZ.alike Ar9.2.1) Ar9.2.2 hin9 hat9 (g := (mkF m 92 #[.val (.int p1), .val (.int p2), .val (.int p3), .val (.int p4), .val (.int p5), .val (.int p6), .val (.int (3 : Int32)), .val (.ref b1), .val (.ref b8_b1), .val (.int (0 : Int32))] [(.int (0 : Int32)), (.ref b1), (.int (0 : Int32)), (.ref b1)])) rfl rfl (hb hby at_92) _ ?_
    show Steps p.tables e below (T8.setTop (mkF m 93 #[.val (.int p1), .val (.int p2), .val (.int p3), .val (.int p4), .val (.int p5), .val (.int p6), .val (.int (3 : Int32)), .val (.ref b1), .val (.ref b8_b1), .val (.int (0 : Int32))] [(.int (p2.toInt8.toInt32)), (.int (0 : Int32)), (.ref b1)])) _
    refine XS.iconst X8.here hx rfl (hb hby at_93) ?_
    show Steps p.tables e below (T8.setTop (mkF m 94 #[.val (.int p1), .val (.int p2), .val (.int p3), .val (.int p4), .val (.int p5), .val (.int p6), .val (.int (3 : Int32)), .val (.ref b1), .val (.ref b8_b1), .val (.int (0 : Int32))] [(.int (-1 : Int32)), (.int (p2.toInt8.toInt32)), (.int (0 : Int32)), (.ref b1)])) _
    refine XS.ixor X8.here hx rfl (hb hby at_94) rfl ?_
    show Steps p.tables e below (T8.setTop (mkF m 95 #[.val (.int p1), .val (.int p2), .val (.int p3), .val (.int p4), .val (.int p5), .val (.int p6), .val (.int (3 : Int32)), .val (.ref b1), .val (.ref b8_b1), .val (.int (0 : Int32))] [(.int ((p2.toInt8.toInt32) ^^^ (-1 : Int32))), (.int (0 : Int32)), (.ref b1)])) _
    refine XS.i2b X8.here hx rfl (hb hby at_95) rfl ?_
    show Steps p.tables e below (T8.setTop (mkF m 96 #[.val (.int p1), .val (.int p2), .val (.int p3), .val (.int p4), .val (.int p5), .val (.int p6), .val (.int (3 : Int32)), .val (.ref b1), .val (.ref b8_b1), .val (.int (0 : Int32))] [(.int (((p2.toInt8.toInt32) ^^^ (-1 : Int32)).toInt8.toInt32)), (.int (0 : Int32)), (.ref b1)])) _
    refine st11 _ ?_
    show Steps p.tables e below (T11.setTop (mkF m 97 #[.val (.int p1), .val (.int p2), .val (.int p3), .val (.int p4), .val (.int p5), .val (.int p6), .val (.int (3 : Int32)), .val (.ref b1), .val (.ref b8_b1), .val (.int (0 : Int32))] [])) _
    refine XS.aload X11.here hx rfl (hb hby at_97) rfl rfl ?_
    show Steps p.tables e below (T11.setTop (mkF m 99 #[.val (.int p1), .val (.int p2), .val (.int p3), .val (.int p4), .val (.int p5), .val (.int p6), .val (.int (3 : Int32)), .val (.ref b1), .val (.ref b8_b1), .val (.int (0 : Int32))] [(.ref b8_b1)])) _
    refine st12.trans ?_
    show Steps p.tables e below (T12.setTop (mkF m 102 #[.val (.int p1), .val (.int p2), .val (.int p3), .val (.int p4), .val (.int p5), .val (.int p6), .val (.int (3 : Int32)), .val (.ref b1), .val (.ref b8_b1), .val (.int (0 : Int32))] [(.ref w_n1)])) _
    refine st13 _ ?_
    show Steps p.tables e below (T13.setTop (mkF m 105 #[.val (.int p1), .val (.int p2), .val (.int p3), .val (.int p4), .val (.int p5), .val (.int p6), .val (.int (3 : Int32)), .val (.ref b1), .val (.ref b8_b1), .val (.int (0 : Int32))] [(.ref w_n1), (.ref w_n1)])) _
    refine Jvm.RoadKit.acmp (g := (mkF m 105 #[.val (.int p1), .val (.int p2), .val (.int p3), .val (.int p4), .val (.int p5), .val (.int p6), .val (.int (3 : Int32)), .val (.ref b1), .val (.ref b8_b1), .val (.int (0 : Int32))] [(.ref w_n1), (.ref w_n1)])) X13 hx rfl rfl rfl (pc0 := 105) (pc' := 110) (same := true) rfl (hb hby at_105) rfl (decide_eq_true rfl) (by decide) (by decide) ?_
    show Steps p.tables e below (T13.setTop (mkF m 110 #[.val (.int p1), .val (.int p2), .val (.int p3), .val (.int p4), .val (.int p5), .val (.int p6), .val (.int (3 : Int32)), .val (.ref b1), .val (.ref b8_b1), .val (.int (0 : Int32))] [])) _
    refine XS.aload X13.here hx rfl (hb hby at_110) rfl rfl ?_
    show Steps p.tables e below (T13.setTop (mkF m 112 #[.val (.int p1), .val (.int p2), .val (.int p3), .val (.int p4), .val (.int p5), .val (.int p6), .val (.int (3 : Int32)), .val (.ref b1), .val (.ref b8_b1), .val (.int (0 : Int32))] [(.ref b8_b1)])) _
    refine st14.trans ?_
    show Steps p.tables e below (T14.setTop (mkF m 115 #[.val (.int p1), .val (.int p2), .val (.int p3), .val (.int p4), .val (.int p5), .val (.int p6), .val (.int (3 : Int32)), .val (.ref b1), .val (.ref b8_b1), .val (.int (0 : Int32))] [(.int (3 : Int32))])) _
    refine XS.iload X14.here hx rfl (hb hby at_115) rfl ?_
    show Steps p.tables e below (T14.setTop (mkF m 117 #[.val (.int p1), .val (.int p2), .val (.int p3), .val (.int p4), .val (.int p5), .val (.int p6), .val (.int (3 : Int32)), .val (.ref b1), .val (.ref b8_b1), .val (.int (0 : Int32))] [(.int (3 : Int32)), (.int (3 : Int32))])) _
    refine XS.icmpYes X14.here hx rfl (pc0 := 117) (pc' := 122) rfl (hb hby at_117) rfl (teq ((by decide) : (3 : Int32) = (3 : Int32))).1 (by decide) (by decide) ?_
    show Steps p.tables e below (T14.setTop (mkF m 122 #[.val (.int p1), .val (.int p2), .val (.int p3), .val (.int p4), .val (.int p5), .val (.int p6), .val (.int (3 : Int32)), .val (.ref b1), .val (.ref b8_b1), .val (.int (0 : Int32))] [])) _
    refine XS.aload X14.here hx rfl (hb hby at_122) rfl rfl ?_
    show Steps p.tables e below (T14.setTop (mkF m 124 #[.val (.int p1), .val (.int p2), .val (.int p3), .val (.int p4), .val (.int p5), .val (.int p6), .val (.int (3 : Int32)), .val (.ref b1), .val (.ref b8_b1), .val (.int (0 : Int32))] [(.ref b8_b1)])) _
    refine st15.trans ?_
    show Steps p.tables e below (T15.setTop (mkF m 127 #[.val (.int p1), .val (.int p2), .val (.int p3), .val (.int p4), .val (.int p5), .val (.int p6), .val (.int (3 : Int32)), .val (.ref b1), .val (.ref b8_b1), .val (.int (0 : Int32))] [(.ref b15_b4)])) _
    refine XS.astore X15.here hx rfl (hb hby at_127) rfl rfl (l' := #[.val (.int p1), .val (.int p2), .val (.int p3), .val (.int p4), .val (.int p5), .val (.int p6), .val (.int (3 : Int32)), .val (.ref b1), .val (.ref b8_b1), .val (.ref b15_b4)]) rfl ?_
    show Steps p.tables e below (T15.setTop (mkF m 129 #[.val (.int p1), .val (.int p2), .val (.int p3), .val (.int p4), .val (.int p5), .val (.int p6), .val (.int (3 : Int32)), .val (.ref b1), .val (.ref b8_b1), .val (.ref b15_b4)] [])) _
    refine XS.aload X15.here hx rfl (hb hby at_129) rfl rfl ?_
    show Steps p.tables e below (T15.setTop (mkF m 131 #[.val (.int p1), .val (.int p2), .val (.int p3), .val (.int p4), .val (.int p5), .val (.int p6), .val (.int (3 : Int32)), .val (.ref b1), .val (.ref b8_b1), .val (.ref b15_b4)] [(.ref b15_b4)])) _
    refine X15.arraylength hx Ar16.1 (State.isArrayOf_alike hZ.alike Ar16.2.1) (g := (mkF m 131 #[.val (.int p1), .val (.int p2), .val (.int p3), .val (.int p4), .val (.int p5), .val (.int p6), .val (.int (3 : Int32)), .val (.ref b1), .val (.ref b8_b1), .val (.ref b15_b4)] [(.ref b15_b4)])) rfl rfl (hb hby at_131) _ ?_
    rw [len_of Sz16 Nz16]
    show Steps p.tables e below (T15.setTop (mkF m 132 #[.val (.int p1), .val (.int p2), .val (.int p3), .val (.int p4), .val (.int p5), .val (.int p6), .val (.int (3 : Int32)), .val (.ref b1), .val (.ref b8_b1), .val (.ref b15_b4)] [(.int (3 : Int32))])) _
    refine XS.iload X15.here hx rfl (hb hby at_132) rfl ?_
    show Steps p.tables e below (T15.setTop (mkF m 134 #[.val (.int p1), .val (.int p2), .val (.int p3), .val (.int p4), .val (.int p5), .val (.int p6), .val (.int (3 : Int32)), .val (.ref b1), .val (.ref b8_b1), .val (.ref b15_b4)] [(.int (3 : Int32)), (.int (3 : Int32))])) _
    refine XS.icmpYes X15.here hx rfl (pc0 := 134) (pc' := 139) rfl (hb hby at_134) rfl (teq ((by decide) : (3 : Int32) = (3 : Int32))).1 (by decide) (by decide) ?_
    show Steps p.tables e below (T15.setTop (mkF m 139 #[.val (.int p1), .val (.int p2), .val (.int p3), .val (.int p4), .val (.int p5), .val (.int p6), .val (.int (3 : Int32)), .val (.ref b1), .val (.ref b8_b1), .val (.ref b15_b4)] [])) _
    refine XS.iload X15.here hx rfl (hb hby at_139) rfl ?_
    show Steps p.tables e below (T15.setTop (mkF m 141 #[.val (.int p1), .val (.int p2), .val (.int p3), .val (.int p4), .val (.int p5), .val (.int p6), .val (.int (3 : Int32)), .val (.ref b1), .val (.ref b8_b1), .val (.ref b15_b4)] [(.int (3 : Int32))])) _
    refine XS.ifNo X15.here hx rfl (hb hby at_141) rfl ((if0 _ _).trans (tlt ((by decide) : (0 : Int32) < (3 : Int32))).2.2.2) ?_
    show Steps p.tables e below (T15.setTop (mkF m 144 #[.val (.int p1), .val (.int p2), .val (.int p3), .val (.int p4), .val (.int p5), .val (.int p6), .val (.int (3 : Int32)), .val (.ref b1), .val (.ref b8_b1), .val (.ref b15_b4)] [])) _
    refine XS.aload X15.here hx rfl (hb hby at_144) rfl rfl ?_
    show Steps p.tables e below (T15.setTop (mkF m 146 #[.val (.int p1), .val (.int p2), .val (.int p3), .val (.int p4), .val (.int p5), .val (.int p6), .val (.int (3 : Int32)), .val (.ref b1), .val (.ref b8_b1), .val (.ref b15_b4)] [(.ref b15_b4)])) _
    refine XS.iconst X15.here hx rfl (hb hby at_146) ?_
    show Steps p.tables e below (T15.setTop (mkF m 147 #[.val (.int p1), .val (.int p2), .val (.int p3), .val (.int p4), .val (.int p5), .val (.int p6), .val (.int (3 : Int32)), .val (.ref b1), .val (.ref b8_b1), .val (.ref b15_b4)] [(.int (0 : Int32)), (.ref b15_b4)])) _
    refine X15.baloadBytes hx (j := (0 : Int32)) (v := (.int (p2.toInt8.toInt32))) Ar17.1 (State.isArrayOf_alike hZ.alike Ar17.2.1) Ar17.2.2 hin17 hat17 (g := (mkF m 147 #[.val (.int p1), .val (.int p2), .val (.int p3), .val (.int p4), .val (.int p5), .val (.int p6), .val (.int (3 : Int32)), .val (.ref b1), .val (.ref b8_b1), .val (.ref b15_b4)] [(.int (0 : Int32)), (.ref b15_b4)])) rfl rfl (hb hby at_147) _ ?_
    show Steps p.tables e below (T15.setTop (mkF m 148 #[.val (.int p1), .val (.int p2), .val (.int p3), .val (.int p4), .val (.int p5), .val (.int p6), .val (.int (3 : Int32)), .val (.ref b1), .val (.ref b8_b1), .val (.ref b15_b4)] [(.int (p2.toInt8.toInt32))])) _
    refine XS.iloadN X15.here hx rfl (hb hby at_148) rfl ?_
    show Steps p.tables e below (T15.setTop (mkF m 149 #[.val (.int p1), .val (.int p2), .val (.int p3), .val (.int p4), .val (.int p5), .val (.int p6), .val (.int (3 : Int32)), .val (.ref b1), .val (.ref b8_b1), .val (.ref b15_b4)] [(.int p2), (.int (p2.toInt8.toInt32))])) _
    refine XS.i2b X15.here hx rfl (hb hby at_149) rfl ?_
    show Steps p.tables e below (T15.setTop (mkF m 150 #[.val (.int p1), .val (.int p2), .val (.int p3), .val (.int p4), .val (.int p5), .val (.int p6), .val (.int (3 : Int32)), .val (.ref b1), .val (.ref b8_b1), .val (.ref b15_b4)] [(.int (p2.toInt8.toInt32)), (.int (p2.toInt8.toInt32))])) _
    refine XS.icmpYes X15.here hx rfl (pc0 := 150) (pc' := 155) rfl (hb hby at_150) rfl (teq (rfl : (p2.toInt8.toInt32) = (p2.toInt8.toInt32))).1 (by decide) (by decide) ?_
    show Steps p.tables e below (T15.setTop (mkF m 155 #[.val (.int p1), .val (.int p2), .val (.int p3), .val (.int p4), .val (.int p5), .val (.int p6), .val (.int (3 : Int32)), .val (.ref b1), .val (.ref b8_b1), .val (.ref b15_b4)] [])) _
    refine XS.iload X15.here hx rfl (hb hby at_155) rfl ?_
    show Steps p.tables e below (T15.setTop (mkF m 157 #[.val (.int p1), .val (.int p2), .val (.int p3), .val (.int p4), .val (.int p5), .val (.int p6), .val (.int (3 : Int32)), .val (.ref b1), .val (.ref b8_b1), .val (.ref b15_b4)] [(.int (3 : Int32))])) _
    refine XS.iconst X15.here hx rfl (hb hby at_157) ?_
    show Steps p.tables e below (T15.setTop (mkF m 158 #[.val (.int p1), .val (.int p2), .val (.int p3), .val (.int p4), .val (.int p5), .val (.int p6), .val (.int (3 : Int32)), .val (.ref b1), .val (.ref b8_b1), .val (.ref b15_b4)] [(.int (1 : Int32)), (.int (3 : Int32))])) _
    refine XS.icmpNo X15.here hx rfl (hb hby at_158) rfl (tlt ((by decide) : (1 : Int32) < (3 : Int32))).2.2.2 ?_
    show Steps p.tables e below (T15.setTop (mkF m 161 #[.val (.int p1), .val (.int p2), .val (.int p3), .val (.int p4), .val (.int p5), .val (.int p6), .val (.int (3 : Int32)), .val (.ref b1), .val (.ref b8_b1), .val (.ref b15_b4)] [])) _
    refine XS.aload X15.here hx rfl (hb hby at_161) rfl rfl ?_
    show Steps p.tables e below (T15.setTop (mkF m 163 #[.val (.int p1), .val (.int p2), .val (.int p3), .val (.int p4), .val (.int p5), .val (.int p6), .val (.int (3 : Int32)), .val (.ref b1), .val (.ref b8_b1), .val (.ref b15_b4)] [(.ref b15_b4)])) _
    refine XS.iconst X15.here hx rfl (hb hby at_163) ?_
    show Steps p.tables e below (T15.setTop (mkF m 164 #[.val (.int p1), .val (.int p2), .val (.int p3), .val (.int p4), .val (.int p5), .val (.int p6), .val (.int (3 : Int32)), .val (.ref b1), .val (.ref b8_b1), .val (.ref b15_b4)] [(.int (1 : Int32)), (.ref b15_b4)])) _
    refine X15.baloadBytes hx (j := (1 : Int32)) (v := (.int (p3.toInt8.toInt32))) Ar18.1 (State.isArrayOf_alike hZ.alike Ar18.2.1) Ar18.2.2 hin18 hat18 (g := (mkF m 164 #[.val (.int p1), .val (.int p2), .val (.int p3), .val (.int p4), .val (.int p5), .val (.int p6), .val (.int (3 : Int32)), .val (.ref b1), .val (.ref b8_b1), .val (.ref b15_b4)] [(.int (1 : Int32)), (.ref b15_b4)])) rfl rfl (hb hby at_164) _ ?_
    show Steps p.tables e below (T15.setTop (mkF m 165 #[.val (.int p1), .val (.int p2), .val (.int p3), .val (.int p4), .val (.int p5), .val (.int p6), .val (.int (3 : Int32)), .val (.ref b1), .val (.ref b8_b1), .val (.ref b15_b4)] [(.int (p3.toInt8.toInt32))])) _
    refine XS.iloadN X15.here hx rfl (hb hby at_165) rfl ?_
    show Steps p.tables e below (T15.setTop (mkF m 166 #[.val (.int p1), .val (.int p2), .val (.int p3), .val (.int p4), .val (.int p5), .val (.int p6), .val (.int (3 : Int32)), .val (.ref b1), .val (.ref b8_b1), .val (.ref b15_b4)] [(.int p3), (.int (p3.toInt8.toInt32))])) _
    refine XS.i2b X15.here hx rfl (hb hby at_166) rfl ?_
    show Steps p.tables e below (T15.setTop (mkF m 167 #[.val (.int p1), .val (.int p2), .val (.int p3), .val (.int p4), .val (.int p5), .val (.int p6), .val (.int (3 : Int32)), .val (.ref b1), .val (.ref b8_b1), .val (.ref b15_b4)] [(.int (p3.toInt8.toInt32)), (.int (p3.toInt8.toInt32))])) _
    refine XS.icmpYes X15.here hx rfl (pc0 := 167) (pc' := 172) rfl (hb hby at_167) rfl (teq (rfl : (p3.toInt8.toInt32) = (p3.toInt8.toInt32))).1 (by decide) (by decide) ?_
    show Steps p.tables e below (T15.setTop (mkF m 172 #[.val (.int p1), .val (.int p2), .val (.int p3), .val (.int p4), .val (.int p5), .val (.int p6), .val (.int (3 : Int32)), .val (.ref b1), .val (.ref b8_b1), .val (.ref b15_b4)] [])) _
    refine XS.iload X15.here hx rfl (hb hby at_172) rfl ?_
    show Steps p.tables e below (T15.setTop (mkF m 174 #[.val (.int p1), .val (.int p2), .val (.int p3), .val (.int p4), .val (.int p5), .val (.int p6), .val (.int (3 : Int32)), .val (.ref b1), .val (.ref b8_b1), .val (.ref b15_b4)] [(.int (3 : Int32))])) _
    refine XS.iconst X15.here hx rfl (hb hby at_174) ?_
    show Steps p.tables e below (T15.setTop (mkF m 175 #[.val (.int p1), .val (.int p2), .val (.int p3), .val (.int p4), .val (.int p5), .val (.int p6), .val (.int (3 : Int32)), .val (.ref b1), .val (.ref b8_b1), .val (.ref b15_b4)] [(.int (2 : Int32)), (.int (3 : Int32))])) _
    refine XS.icmpNo X15.here hx rfl (hb hby at_175) rfl (tlt ((by decide) : (2 : Int32) < (3 : Int32))).2.2.2 ?_
    show Steps p.tables e below (T15.setTop (mkF m 178 #[.val (.int p1), .val (.int p2), .val (.int p3), .val (.int p4), .val (.int p5), .val (.int p6), .val (.int (3 : Int32)), .val (.ref b1), .val (.ref b8_b1), .val (.ref b15_b4)] [])) _
    refine XS.aload X15.here hx rfl (hb hby at_178) rfl rfl ?_
    show Steps p.tables e below (T15.setTop (mkF m 180 #[.val (.int p1), .val (.int p2), .val (.int p3), .val (.int p4), .val (.int p5), .val (.int p6), .val (.int (3 : Int32)), .val (.ref b1), .val (.ref b8_b1), .val (.ref b15_b4)] [(.ref b15_b4)])) _
    refine XS.iconst X15.here hx rfl (hb hby at_180) ?_
    show Steps p.tables e below (T15.setTop (mkF m 181 #[.val (.int p1), .val (.int p2), .val (.int p3), .val (.int p4), .val (.int p5), .val (.int p6), .val (.int (3 : Int32)), .val (.ref b1), .val (.ref b8_b1), .val (.ref b15_b4)] [(.int (2 : Int32)), (.ref b15_b4)])) _
    refine X15.baloadBytes hx (j := (2 : Int32)) (v := (.int (p4.toInt8.toInt32))) Ar19.1 (State.isArrayOf_alike hZ.alike Ar19.2.1) Ar19.2.2 hin19 hat19 (g := (mkF m 181 #[.val (.int p1), .val (.int p2), .val (.int p3), .val (.int p4), .val (.int p5), .val (.int p6), .val (.int (3 : Int32)), .val (.ref b1), .val (.ref b8_b1), .val (.ref b15_b4)] [(.int (2 : Int32)), (.ref b15_b4)])) rfl rfl (hb hby at_181) _ ?_
    show Steps p.tables e below (T15.setTop (mkF m 182 #[.val (.int p1), .val (.int p2), .val (.int p3), .val (.int p4), .val (.int p5), .val (.int p6), .val (.int (3 : Int32)), .val (.ref b1), .val (.ref b8_b1), .val (.ref b15_b4)] [(.int (p4.toInt8.toInt32))])) _
    refine XS.iloadN X15.here hx rfl (hb hby at_182) rfl ?_
    show Steps p.tables e below (T15.setTop (mkF m 183 #[.val (.int p1), .val (.int p2), .val (.int p3), .val (.int p4), .val (.int p5), .val (.int p6), .val (.int (3 : Int32)), .val (.ref b1), .val (.ref b8_b1), .val (.ref b15_b4)] [(.int p4), (.int (p4.toInt8.toInt32))])) _
    refine XS.i2b X15.here hx rfl (hb hby at_183) rfl ?_
    show Steps p.tables e below (T15.setTop (mkF m 184 #[.val (.int p1), .val (.int p2), .val (.int p3), .val (.int p4), .val (.int p5), .val (.int p6), .val (.int (3 : Int32)), .val (.ref b1), .val (.ref b8_b1), .val (.ref b15_b4)] [(.int (p4.toInt8.toInt32)), (.int (p4.toInt8.toInt32))])) _
    refine XS.icmpYes X15.here hx rfl (pc0 := 184) (pc' := 189) rfl (hb hby at_184) rfl (teq (rfl : (p4.toInt8.toInt32) = (p4.toInt8.toInt32))).1 (by decide) (by decide) ?_
    show Steps p.tables e below (T15.setTop (mkF m 189 #[.val (.int p1), .val (.int p2), .val (.int p3), .val (.int p4), .val (.int p5), .val (.int p6), .val (.int (3 : Int32)), .val (.ref b1), .val (.ref b8_b1), .val (.ref b15_b4)] [])) _
    refine XS.iload X15.here hx rfl (hb hby at_189) rfl ?_
    show Steps p.tables e below (T15.setTop (mkF m 191 #[.val (.int p1), .val (.int p2), .val (.int p3), .val (.int p4), .val (.int p5), .val (.int p6), .val (.int (3 : Int32)), .val (.ref b1), .val (.ref b8_b1), .val (.ref b15_b4)] [(.int (3 : Int32))])) _
    refine XS.iconst X15.here hx rfl (hb hby at_191) ?_
    show Steps p.tables e below (T15.setTop (mkF m 192 #[.val (.int p1), .val (.int p2), .val (.int p3), .val (.int p4), .val (.int p5), .val (.int p6), .val (.int (3 : Int32)), .val (.ref b1), .val (.ref b8_b1), .val (.ref b15_b4)] [(.int (3 : Int32)), (.int (3 : Int32))])) _
    refine XS.icmpYes X15.here hx rfl (pc0 := 192) (pc' := 207) rfl (hb hby at_192) rfl (flt ((by decide) : ¬ ((3 : Int32) < (3 : Int32)))).2.2.2 (by decide) (by decide) ?_
    show Steps p.tables e below (T15.setTop (mkF m 207 #[.val (.int p1), .val (.int p2), .val (.int p3), .val (.int p4), .val (.int p5), .val (.int p6), .val (.int (3 : Int32)), .val (.ref b1), .val (.ref b8_b1), .val (.ref b15_b4)] [])) _
    refine XS.iconst X15.here hx rfl (hb hby at_207) ?_
    show Steps p.tables e below (T15.setTop (mkF m 208 #[.val (.int p1), .val (.int p2), .val (.int p3), .val (.int p4), .val (.int p5), .val (.int p6), .val (.int (3 : Int32)), .val (.ref b1), .val (.ref b8_b1), .val (.ref b15_b4)] [(.int (1 : Int32))])) _
    exact retN X15 hx (t := .boolean) Bd.returns (by simp) (hb hby at_208) hr
  · show Q0 n0 _ T15.heap _
    exact ⟨rfl, N15⟩
set_option maxRecDepth 65536 in
set_option maxHeartbeats 40000000 in
theorem rm0_31 (l : Launch) (Z : State) (a0 : Array Value) (hw : ∀ d ∈ tables_1, d.before a0 Z = true) (ws : List Jvm.Cond) {w_n1 : Addr} {w_n0 : Addr} {k_n0 : ClassId} (W : Wd Z w_n1 w_n0 k_n0) (p1 : Int32) (p2 : Int32) (p3 : Int32) (p4 : Int32) (p5 : Int32) (p6 : Int32) (h0 : Heap) (n0 : Nat) (O0 : Old Z n0 h0) (hk : ((p1 &&& (2147483647 : Int32)) % (5 : Int32)) = (3 : Int32)) (hi : ((p6 &&& (2147483647 : Int32)) % (3 : Int32)) = (1 : Int32)) :
    MetFree l x (head1 (Jvm.Cond.code x code maxLocals ret :: ws) room_1) (fun a U => a = #[(.int p1), (.int p2), (.int p3), (.int p4), (.int p5), (.int p6)] ∧ Z.Warmed39 U.vm ∧ U.heap = h0) (fun _ _ _ _ _ => True) (fun _ U o U' => ∃ v L, o = .returned v ∧ Q0 n0 v U'.heap L ∧ FrameEnd U o U' L room_1.cells room_1.slots) := by
  have W' := W; obtain ⟨S_n1, E_n1, S_n0, F_n1_ordinal, V_n0⟩ := W'
  refine MetFree.of_bodySF (plainFor_of_name pn_0) hisR ?_
  intro p e s m args below meth c s₁ Bd hml0 hP hK
  obtain ⟨rfl, hZ, hh⟩ := hP
  have hx := Bd.exec
  have hby := Bd.bytes
  have hml : c.maxLocals = 10 := hml0
  have hown : s.vm.findClass "com/example/keyfold/keyfold/core/ValueOfBinary193PinLaw" = some m.cls := findClass_of_methodNamed Bd.named
  have hnm := (name_of_methodNamed Bd.named Bd.method).1
  have X0 : Stand p l e room_1 s m #[(.int p1), (.int p2), (.int p3), (.int p4), (.int p5), (.int p6)] below meth c s₁ [] 0 0 := Stand.of_body Bd
  have e0 : s₁.heap = h0 := by rw [← hh, Bd.state]; rfl
  have N0 := Fr.nil n0
  have pre0 : ∀ t, Steps p.tables e below (s₁.setTop (mkF m 0 #[.val (.int p1), .val (.int p2), .val (.int p3), .val (.int p4), .val (.int p5), .val (.int p6), .unset, .unset, .unset, .unset] [])) t → Steps p.tables e below (s₁.setTop (entryFrame m #[(.int p1), (.int p2), (.int p3), (.int p4), (.int p5), (.int p6)] maxLocals)) t := fun t k => castTop (ef_0_7 m p1 p2 p3 p4 p5 p6) k
  obtain ⟨T1, h1, k1, X1, e1, E1, A1, B1, st1⟩ := newPE X0 hx hZ (hw _ (List.mem_of_getElem? (i := 1) rfl)) e0 (g := (mkF m 10 #[.val (.int p1), .val (.int p2), .val (.int p3), .val (.int p4), .val (.int p5), .val (.int p6), .val (.int (3 : Int32)), .unset, .unset, .unset] [(.int (3 : Int32))])) rfl (hb hby at_10) rfl (by decide) (cap := 3) (by decide) (by decide) (by decide) (by decide) (ad := "[B") (by decide)
  obtain ⟨b1, g1⟩ : ∃ z, z = h0.size := ⟨_, rfl⟩
  rw [← g1] at A1 B1 st1
  have g_b1 : n0 ≤ b1 := by rw [g1]; exact O0.1 ▸ O0.2.1
  have O1 := O0.ext E1
  have fv1 : Arv Z h1 b1 k1 .byte (3 : Int32) [(.int (0 : Int32)), (.int (0 : Int32)), (.int (0 : Int32))] (.int (0 : Int32)) := (Arv.new A1 (by decide)).pad (pad_rep [] (.int (0 : Int32)) 3)
  obtain ⟨cl2, Ar2, qk2, Sz2, Nz2, Hs2, Gs2⟩ := id fv1
  have hin2 : ¬ ((0 : Int32) < 0 ∨ cl2.slots.size ≤ ((0 : Int32)).toNatClampNeg) := inb_of Sz2 ⟨by decide, by decide⟩
  obtain ⟨T3, h3, X3, e3, W3, st3⟩ := stB X1 hx hZ e1 Ar2 (j := (0 : Int32)) hin2  (g := (mkF m 24 #[.val (.int p1), .val (.int p2), .val (.int p3), .val (.int p4), .val (.int p5), .val (.int p6), .val (.int (3 : Int32)), .val (.ref b1), .unset, .unset] [(.int (p2.toInt8.toInt32)), (.int (0 : Int32)), (.ref b1)])) rfl rfl (hb hby at_24)
  rw [show nar .byte (p2.toInt8.toInt32) = (p2.toInt8.toInt32) from own_byte _] at W3
  have fw3 : Arv Z h3 b1 k1 .byte (3 : Int32) [(.int (p2.toInt8.toInt32)), (.int (0 : Int32)), (.int (0 : Int32))] (.int (0 : Int32)) := Arv.set Ar2 qk2 Sz2 Nz2 Hs2 Gs2 (fits_nar_byte _) W3 0 rfl (Nat.le_of_ble_eq_true rfl)
  have f3_0 : Exa Z h3 b1 "[B" := (B1).wr W3
  have O3 := O1.wr W3 g_b1
  have N3 := Fr.snoc X3 N0 g_b1
  obtain ⟨cl4, Ar4, qk4, Sz4, Nz4, Hs4, Gs4⟩ := id fw3
  have hin4 : ¬ ((1 : Int32) < 0 ∨ cl4.slots.size ≤ ((1 : Int32)).toNatClampNeg) := inb_of Sz4 ⟨by decide, by decide⟩
  obtain ⟨T5, h5, X5, e5, W5, st5⟩ := stB X3 hx hZ e3 Ar4 (j := (1 : Int32)) hin4  (g := (mkF m 36 #[.val (.int p1), .val (.int p2), .val (.int p3), .val (.int p4), .val (.int p5), .val (.int p6), .val (.int (3 : Int32)), .val (.ref b1), .unset, .unset] [(.int (p3.toInt8.toInt32)), (.int (1 : Int32)), (.ref b1)])) rfl rfl (hb hby at_36)
  rw [show nar .byte (p3.toInt8.toInt32) = (p3.toInt8.toInt32) from own_byte _] at W5
  have fw5 : Arv Z h5 b1 k1 .byte (3 : Int32) [(.int (p2.toInt8.toInt32)), (.int (p3.toInt8.toInt32)), (.int (0 : Int32))] (.int (0 : Int32)) := Arv.set Ar4 qk4 Sz4 Nz4 Hs4 Gs4 (fits_nar_byte _) W5 1 rfl (Nat.le_of_ble_eq_true rfl)
  have f5_0 : Exa Z h5 b1 "[B" := (f3_0).wr W5
  have O5 := O3.wr W5 g_b1
  have N5 := Fr.snoc X5 N3 g_b1
  obtain ⟨cl6, Ar6, qk6, Sz6, Nz6, Hs6, Gs6⟩ := id fw5
  have hin6 : ¬ ((2 : Int32) < 0 ∨ cl6.slots.size ≤ ((2 : Int32)).toNatClampNeg) := inb_of Sz6 ⟨by decide, by decide⟩
  obtain ⟨T7, h7, X7, e7, W7, st7⟩ := stB X5 hx hZ e5 Ar6 (j := (2 : Int32)) hin6  (g := (mkF m 48 #[.val (.int p1), .val (.int p2), .val (.int p3), .val (.int p4), .val (.int p5), .val (.int p6), .val (.int (3 : Int32)), .val (.ref b1), .unset, .unset] [(.int (p4.toInt8.toInt32)), (.int (2 : Int32)), (.ref b1)])) rfl rfl (hb hby at_48)
  rw [show nar .byte (p4.toInt8.toInt32) = (p4.toInt8.toInt32) from own_byte _] at W7
  have fw7 : Arv Z h7 b1 k1 .byte (3 : Int32) [(.int (p2.toInt8.toInt32)), (.int (p3.toInt8.toInt32)), (.int (p4.toInt8.toInt32))] (.int (0 : Int32)) := Arv.set Ar6 qk6 Sz6 Nz6 Hs6 Gs6 (fits_nar_byte _) W7 2 rfl (Nat.le_of_ble_eq_true rfl)
  have f7_0 : Exa Z h7 b1 "[B" := (f5_0).wr W7
  have O7 := O5.wr W7 g_b1
  have N7 := Fr.snoc X7 N5 g_b1
  obtain ⟨_, _, ⟨T8, L8, k8, n8⟩, -, X8, ⟨Lc8, hQ8, l8, y8, z8⟩, st8⟩ := Jvm.LawKit.callS X7 hx (y := (⟨"com/example/keyfold/keyfold/core/Value", "ofBinary", "([B)Lcom/example/keyfold/keyfold/core/Value;"⟩ : MethodName)) hown (mvT hZ (hw _ (List.mem_of_getElem? (i := 2) rfl))) (mvT hZ (hw _ (List.mem_of_getElem? (i := 3) rfl))) (mvT hZ (hw _ (List.mem_of_getElem? (i := 4) rfl))) (mvT hZ (hw _ (List.mem_of_getElem? (i := 5) rfl))) (by decide) (backOf (W := 0) (rm1_3 l Z a0 hw [] W b1 k1 (p2.toInt8.toInt32) (p3.toInt8.toInt32) (p4.toInt8.toInt32) h7 n0 O7 g_b1 f7_0 fw7) hZ (hw _ (List.mem_of_getElem? (i := 5) rfl)) (hw _ (List.mem_of_getElem? (i := 4) rfl)) (by decide) (by decide)) (g := (mkF m 64 #[.val (.int p1), .val (.int p2), .val (.int p3), .val (.int p4), .val (.int p5), .val (.int p6), .val (.int (3 : Int32)), .val (.ref b1), .unset, .unset] [(.ref b1)])) rfl (by rw [hml]; rfl) (argsL := [(.ref b1)]) (rest := []) (lenOf pd_3 rfl) rfl (by show 2 * 0 + _ ≤ _; exact Nat.le_of_eq rfl) (hb hby at_64) (fun _ _ => ⟨rfl, e7, (by decide : 1 + 2 ≤ _), (by decide : 3 + 5 ≤ _)⟩)
  dsimp only [Pt.U, Pt.locs, Pt.cells, Pt.slots] at X8 l8 y8 z8 st8 hQ8
  subst l8 y8 z8
  obtain ⟨N8q, hP8⟩ := hQ8
  have N8 := Fr.app N7 N8q
  obtain ⟨b8_b1, b8_b3, rfl, Kp8, g_b8_b1, si_b8_b1, g_b8_b3, si_b8_b3, fp8_0, fp8_1, fp8_2, fp8_3, fp8_4⟩ := hP8
  have f8_0 : Exa Z T8.heap b1 "[B" := (f7_0).keep Kp8
  have f8_1 : Arv Z T8.heap b1 k1 .byte (3 : Int32) [(.int (p2.toInt8.toInt32)), (.int (p3.toInt8.toInt32)), (.int (p4.toInt8.toInt32))] (.int (0 : Int32)) := (fw7).keep Kp8 nin0
  have O8 := O7.keep Kp8 all0
  obtain ⟨cl9, Ar9, qk9, Sz9, Nz9, Hs9, Gs9⟩ := id f8_1
  have hin9 : ¬ ((1 : Int32) < 0 ∨ cl9.slots.size ≤ ((1 : Int32)).toNatClampNeg) := inb_of Sz9 ⟨by decide, by decide⟩
  have hat9 : cl9.slots[((1 : Int32)).toNatClampNeg]? = some (.int (p3.toInt8.toInt32)) := Has.at Hs9 hin9 rfl
  obtain ⟨cl10, Ar10, qk10, Sz10, Nz10, Hs10, Gs10⟩ := id f8_1
  have hin10 : ¬ ((1 : Int32) < 0 ∨ cl10.slots.size ≤ ((1 : Int32)).toNatClampNeg) := inb_of Sz10 ⟨by decide, by decide⟩
  obtain ⟨T11, h11, X11, e11, W11, st11⟩ := stB X8 hx hZ rfl Ar10 (j := (1 : Int32)) hin10  (g := (mkF m 96 #[.val (.int p1), .val (.int p2), .val (.int p3), .val (.int p4), .val (.int p5), .val (.int p6), .val (.int (3 : Int32)), .val (.ref b1), .val (.ref b8_b1), .val (.int (1 : Int32))] [(.int (((p3.toInt8.toInt32) ^^^ (-1 : Int32)).toInt8.toInt32)), (.int (1 : Int32)), (.ref b1)])) rfl rfl (hb hby at_96)
  rw [show nar .byte (((p3.toInt8.toInt32) ^^^ (-1 : Int32)).toInt8.toInt32) = (((p3.toInt8.toInt32) ^^^ (-1 : Int32)).toInt8.toInt32) from own_byte _] at W11
  have fw11 : Arv Z h11 b1 k1 .byte (3 : Int32) [(.int (p2.toInt8.toInt32)), (.int (((p3.toInt8.toInt32) ^^^ (-1 : Int32)).toInt8.toInt32)), (.int (p4.toInt8.toInt32))] (.int (0 : Int32)) := Arv.set Ar10 qk10 Sz10 Nz10 Hs10 Gs10 (fits_nar_byte _) W11 1 rfl (Nat.le_of_ble_eq_true rfl)
  have f11_0 : Exa Z h11 b1 "[B" := (f8_0).wr W11
  have f11_1 : Exa Z h11 b8_b1 "com/example/keyfold/keyfold/core/Value" := (fp8_0).wr W11
  have f11_2 : Fld Z h11 b8_b1 "com/example/keyfold/keyfold/core/Value" "type" "Lcom/example/keyfold/keyfold/core/ValueType;" (.ref w_n1) := (fp8_1).other W11 (Or.inl (ne_exa fp8_0 f8_0 (by decide)))
  have f11_3 : Fld Z h11 b8_b1 "com/example/keyfold/keyfold/core/Value" "content" "Ljava/lang/Object;" (.ref b8_b3) := (fp8_2).other W11 (Or.inl (ne_exa fp8_0 f8_0 (by decide)))
  have f11_4 : Exa Z h11 b8_b3 "[B" := (fp8_3).wr W11
  have f11_5 : Arv Z h11 b8_b3 k1 .byte (3 : Int32) [(.int (p2.toInt8.toInt32)), (.int (p3.toInt8.toInt32)), (.int (p4.toInt8.toInt32))] (.int (0 : Int32)) := (fp8_4).other W11 (Ne.symm (Nat.ne_of_lt (Nat.lt_of_lt_of_le (f7_0).lt si_b8_b3)))
  have O11 := O8.wr W11 g_b1
  have N11 := Fr.snoc X11 N8 g_b1
  obtain ⟨cq12, kq12, q12a, q12b, q12c⟩ := isOf hZ e11 f11_1
  obtain ⟨_, _, ⟨T12, L12, k12, n12⟩, -, X12, ⟨Lc12, hQ12, l12, y12, z12⟩, st12⟩ := X11.virtualBack hx (y := (⟨"com/example/keyfold/keyfold/core/Value", "type", "()Lcom/example/keyfold/keyfold/core/ValueType;"⟩ : MethodName)) (z := (⟨"com/example/keyfold/keyfold/core/Value", "type", "()Lcom/example/keyfold/keyfold/core/ValueType;"⟩ : MethodName)) hown (mvT hZ (hw _ (List.mem_of_getElem? (i := 28) rfl))) (mvT hZ (hw _ (List.mem_of_getElem? (i := 29) rfl))) (notFace_of_selects (args := #[]) (mvT hZ (hw _ (List.mem_of_getElem? (i := 31) rfl)))) (mvT hZ (hw _ (List.mem_of_getElem? (i := 31) rfl))) (mvT hZ (hw _ (List.mem_of_getElem? (i := 30) rfl))) (by decide) (backOf (W := 0) (rm4 l Z a0 hw [] W b8_b1 h11 n0 O11 f11_2) hZ (hw _ (List.mem_of_getElem? (i := 32) rfl)) (hw _ (List.mem_of_getElem? (i := 4) rfl)) (by decide) (by decide)) q12a q12c (g := (mkF m 99 #[.val (.int p1), .val (.int p2), .val (.int p3), .val (.int p4), .val (.int p5), .val (.int p6), .val (.int (3 : Int32)), .val (.ref b1), .val (.ref b8_b1), .val (.int (1 : Int32))] [(.ref b8_b1)])) rfl (by rw [hml]; rfl) (Steps.refl _) (argsL := []) (rest := []) (lenOf pd_4 rfl) rfl (by show 2 * 0 + _ ≤ _; exact Nat.le_of_eq rfl) (hb hby at_99) (fun _ _ => ⟨rfl, e11, (by decide : 3 + 0 ≤ _), (by decide : 8 + 0 ≤ _)⟩)
  dsimp only [Pt.U, Pt.locs, Pt.cells, Pt.slots] at X12 l12 y12 z12 st12 hQ12
  subst l12 y12 z12
  obtain ⟨rfl, N12q, e12⟩ := hQ12
  have N12 := Fr.app N11 N12q
  obtain ⟨T13, X13, e13, st13⟩ := getS2 X12 hx hZ hown (host := "") (Or.inl (hw _ (List.mem_of_getElem? (i := 33) rfl))) Via.refl e12 (S_n1.ext O11.2) (g := (mkF m 102 #[.val (.int p1), .val (.int p2), .val (.int p3), .val (.int p4), .val (.int p5), .val (.int p6), .val (.int (3 : Int32)), .val (.ref b1), .val (.ref b8_b1), .val (.int (1 : Int32))] [(.ref w_n1)])) rfl (hb hby at_102)
  obtain ⟨cq14, kq14, q14a, q14b, q14c⟩ := isOf hZ e13 f11_1
  obtain ⟨_, _, ⟨T14, L14, k14, n14⟩, -, X14, ⟨Lc14, hQ14, l14, y14, z14⟩, st14⟩ := X13.virtualBack hx (y := (⟨"com/example/keyfold/keyfold/core/Value", "size", "()I"⟩ : MethodName)) (z := (⟨"com/example/keyfold/keyfold/core/Value", "size", "()I"⟩ : MethodName)) hown (mvT hZ (hw _ (List.mem_of_getElem? (i := 34) rfl))) (mvT hZ (hw _ (List.mem_of_getElem? (i := 35) rfl))) (notFace_of_selects (args := #[]) (mvT hZ (hw _ (List.mem_of_getElem? (i := 37) rfl)))) (mvT hZ (hw _ (List.mem_of_getElem? (i := 37) rfl))) (mvT hZ (hw _ (List.mem_of_getElem? (i := 36) rfl))) (by decide) (backOf (W := 0) (rm7_3 l Z a0 hw [] W b8_b1 b8_b3 k1 (p2.toInt8.toInt32) (p3.toInt8.toInt32) (p4.toInt8.toInt32) h11 n0 O11 g_b8_b1 f11_1 f11_2 f11_3 g_b8_b3 f11_4 f11_5) hZ (hw _ (List.mem_of_getElem? (i := 38) rfl)) (hw _ (List.mem_of_getElem? (i := 4) rfl)) (by decide) (by decide)) q14a q14c (g := (mkF m 112 #[.val (.int p1), .val (.int p2), .val (.int p3), .val (.int p4), .val (.int p5), .val (.int p6), .val (.int (3 : Int32)), .val (.ref b1), .val (.ref b8_b1), .val (.int (1 : Int32))] [(.ref b8_b1)])) rfl (by rw [hml]; rfl) (Steps.refl _) (argsL := []) (rest := []) (lenOf pd_1 rfl) rfl (by show 2 * 0 + _ ≤ _; exact Nat.le_of_eq rfl) (hb hby at_112) (fun _ _ => ⟨rfl, e13, (by decide : 3 + 0 ≤ _), (by decide : 8 + 0 ≤ _)⟩)
  dsimp only [Pt.U, Pt.locs, Pt.cells, Pt.slots] at X14 l14 y14 z14 st14 hQ14
  subst l14 y14 z14
  obtain ⟨rfl, N14q, e14⟩ := hQ14
  have N14 := Fr.app N12 N14q
  obtain ⟨cq15, kq15, q15a, q15b, q15c⟩ := isOf hZ e14 f11_1
  obtain ⟨_, _, ⟨T15, L15, k15, n15⟩, -, X15, ⟨Lc15, hQ15, l15, y15, z15⟩, st15⟩ := X14.virtualBack hx (y := (⟨"com/example/keyfold/keyfold/core/Value", "asBinary", "()[B"⟩ : MethodName)) (z := (⟨"com/example/keyfold/keyfold/core/Value", "asBinary", "()[B"⟩ : MethodName)) hown (mvT hZ (hw _ (List.mem_of_getElem? (i := 53) rfl))) (mvT hZ (hw _ (List.mem_of_getElem? (i := 54) rfl))) (notFace_of_selects (args := #[]) (mvT hZ (hw _ (List.mem_of_getElem? (i := 56) rfl)))) (mvT hZ (hw _ (List.mem_of_getElem? (i := 56) rfl))) (mvT hZ (hw _ (List.mem_of_getElem? (i := 55) rfl))) (by decide) (backOf (W := 0) (rm5_3 l Z a0 hw [] W b8_b1 b8_b3 k1 (p2.toInt8.toInt32) (p3.toInt8.toInt32) (p4.toInt8.toInt32) h11 n0 O11 g_b8_b1 f11_1 f11_2 f11_3 g_b8_b3 f11_4 f11_5) hZ (hw _ (List.mem_of_getElem? (i := 57) rfl)) (hw _ (List.mem_of_getElem? (i := 4) rfl)) (by decide) (by decide)) q15a q15c (g := (mkF m 124 #[.val (.int p1), .val (.int p2), .val (.int p3), .val (.int p4), .val (.int p5), .val (.int p6), .val (.int (3 : Int32)), .val (.ref b1), .val (.ref b8_b1), .val (.int (1 : Int32))] [(.ref b8_b1)])) rfl (by rw [hml]; rfl) (Steps.refl _) (argsL := []) (rest := []) (lenOf pd_5 rfl) rfl (by show 2 * 0 + _ ≤ _; exact Nat.le_of_eq rfl) (hb hby at_124) (fun _ _ => ⟨rfl, e14, (by decide : 3 + 1 ≤ _), (by decide : 8 + 3 ≤ _)⟩)
  dsimp only [Pt.U, Pt.locs, Pt.cells, Pt.slots] at X15 l15 y15 z15 st15 hQ15
  subst l15 y15 z15
  obtain ⟨N15q, hP15⟩ := hQ15
  have N15 := Fr.app N14 N15q
  obtain ⟨b15_b4, rfl, Kp15, g_b15_b4, si_b15_b4, fp15_0, fp15_1⟩ := hP15
  have f15_0 : Exa Z T15.heap b1 "[B" := (f11_0).keep Kp15
  have f15_1 : Exa Z T15.heap b8_b1 "com/example/keyfold/keyfold/core/Value" := (f11_1).keep Kp15
  have f15_2 : Fld Z T15.heap b8_b1 "com/example/keyfold/keyfold/core/Value" "type" "Lcom/example/keyfold/keyfold/core/ValueType;" (.ref w_n1) := (f11_2).keep Kp15 nin0
  have f15_3 : Fld Z T15.heap b8_b1 "com/example/keyfold/keyfold/core/Value" "content" "Ljava/lang/Object;" (.ref b8_b3) := (f11_3).keep Kp15 nin0
  have f15_4 : Exa Z T15.heap b8_b3 "[B" := (f11_4).keep Kp15
  have f15_5 : Arv Z T15.heap b8_b3 k1 .byte (3 : Int32) [(.int (p2.toInt8.toInt32)), (.int (p3.toInt8.toInt32)), (.int (p4.toInt8.toInt32))] (.int (0 : Int32)) := (f11_5).keep Kp15 nin0
  have f15_6 : Arv Z T15.heap b1 k1 .byte (3 : Int32) [(.int (p2.toInt8.toInt32)), (.int (((p3.toInt8.toInt32) ^^^ (-1 : Int32)).toInt8.toInt32)), (.int (p4.toInt8.toInt32))] (.int (0 : Int32)) := (fw11).keep Kp15 nin0
  have O15 := O11.keep Kp15 all0
  obtain ⟨cl16, Ar16, qk16, Sz16, Nz16, Hs16, Gs16⟩ := id fp15_1
  obtain ⟨cl17, Ar17, qk17, Sz17, Nz17, Hs17, Gs17⟩ := id fp15_1
  have hin17 : ¬ ((0 : Int32) < 0 ∨ cl17.slots.size ≤ ((0 : Int32)).toNatClampNeg) := inb_of Sz17 ⟨by decide, by decide⟩
  have hat17 : cl17.slots[((0 : Int32)).toNatClampNeg]? = some (.int (p2.toInt8.toInt32)) := Has.at Hs17 hin17 rfl
  obtain ⟨cl18, Ar18, qk18, Sz18, Nz18, Hs18, Gs18⟩ := id fp15_1
  have hin18 : ¬ ((1 : Int32) < 0 ∨ cl18.slots.size ≤ ((1 : Int32)).toNatClampNeg) := inb_of Sz18 ⟨by decide, by decide⟩
  have hat18 : cl18.slots[((1 : Int32)).toNatClampNeg]? = some (.int (p3.toInt8.toInt32)) := Has.at Hs18 hin18 rfl
  obtain ⟨cl19, Ar19, qk19, Sz19, Nz19, Hs19, Gs19⟩ := id fp15_1
  have hin19 : ¬ ((2 : Int32) < 0 ∨ cl19.slots.size ≤ ((2 : Int32)).toNatClampNeg) := inb_of Sz19 ⟨by decide, by decide⟩
  have hat19 : cl19.slots[((2 : Int32)).toNatClampNeg]? = some (.int (p4.toInt8.toInt32)) := Has.at Hs19 hin19 rfl
  obtain ⟨fs, hr, hrun, hended, hW, hsame⟩ := X15.leave (v := some (.int (1 : Int32))) (fun h => by rw [Bd.returns] at h; cases h)
  refine ⟨_, _, pre0 _ ?_, hrun, hended, _, _, rfl, ?_, ⟨_, rfl⟩, hW, hsame.mono (by decide) (by decide)⟩
  · show Steps p.tables e below (s₁.setTop (mkF m 0 #[.val (.int p1), .val (.int p2), .val (.int p3), .val (.int p4), .val (.int p5), .val (.int p6), .unset, .unset, .unset, .unset] [])) _
    refine XS.iloadN X0.here hx rfl (hb hby at_0) rfl ?_
    show Steps p.tables e below (s₁.setTop (mkF m 1 #[.val (.int p1), .val (.int p2), .val (.int p3), .val (.int p4), .val (.int p5), .val (.int p6), .unset, .unset, .unset, .unset] [(.int p1)])) _
    refine X0.ldcInt hx hown (mvT hZ (hw _ (List.mem_of_getElem? (i := 0) rfl))) (g := (mkF m 1 #[.val (.int p1), .val (.int p2), .val (.int p3), .val (.int p4), .val (.int p5), .val (.int p6), .unset, .unset, .unset, .unset] [(.int p1)])) rfl (hb hby at_1) _ ?_
    show Steps p.tables e below (s₁.setTop (mkF m 3 #[.val (.int p1), .val (.int p2), .val (.int p3), .val (.int p4), .val (.int p5), .val (.int p6), .unset, .unset, .unset, .unset] [(.int (2147483647 : Int32)), (.int p1)])) _
    refine XS.iand X0.here hx rfl (hb hby at_3) rfl ?_
    show Steps p.tables e below (s₁.setTop (mkF m 4 #[.val (.int p1), .val (.int p2), .val (.int p3), .val (.int p4), .val (.int p5), .val (.int p6), .unset, .unset, .unset, .unset] [(.int (p1 &&& (2147483647 : Int32)))])) _
    refine XS.iconst X0.here hx rfl (hb hby at_4) ?_
    show Steps p.tables e below (s₁.setTop (mkF m 5 #[.val (.int p1), .val (.int p2), .val (.int p3), .val (.int p4), .val (.int p5), .val (.int p6), .unset, .unset, .unset, .unset] [(.int (5 : Int32)), (.int (p1 &&& (2147483647 : Int32)))])) _
    refine iremM X0 hx rfl (hb hby at_5) rfl (by decide) ?_
    show Steps p.tables e below (s₁.setTop (mkF m 6 #[.val (.int p1), .val (.int p2), .val (.int p3), .val (.int p4), .val (.int p5), .val (.int p6), .unset, .unset, .unset, .unset] [(.int ((p1 &&& (2147483647 : Int32)) % (5 : Int32)))])) _
    rw [hk]
    show Steps p.tables e below (s₁.setTop (mkF m 6 #[.val (.int p1), .val (.int p2), .val (.int p3), .val (.int p4), .val (.int p5), .val (.int p6), .unset, .unset, .unset, .unset] [(.int (3 : Int32))])) _
    refine XS.istore X0.here hx rfl (hb hby at_6) rfl (l' := #[.val (.int p1), .val (.int p2), .val (.int p3), .val (.int p4), .val (.int p5), .val (.int p6), .val (.int (3 : Int32)), .unset, .unset, .unset]) rfl ?_
    show Steps p.tables e below (s₁.setTop (mkF m 8 #[.val (.int p1), .val (.int p2), .val (.int p3), .val (.int p4), .val (.int p5), .val (.int p6), .val (.int (3 : Int32)), .unset, .unset, .unset] [])) _
    refine XS.iload X0.here hx rfl (hb hby at_8) rfl ?_
    show Steps p.tables e below (s₁.setTop (mkF m 10 #[.val (.int p1), .val (.int p2), .val (.int p3), .val (.int p4), .val (.int p5), .val (.int p6), .val (.int (3 : Int32)), .unset, .unset, .unset] [(.int (3 : Int32))])) _
    refine st1 _ ?_
    show Steps p.tables e below (T1.setTop (mkF m 12 #[.val (.int p1), .val (.int p2), .val (.int p3), .val (.int p4), .val (.int p5), .val (.int p6), .val (.int (3 : Int32)), .unset, .unset, .unset] [(.ref b1)])) _
    refine XS.astore X1.here hx rfl (hb hby at_12) rfl rfl (l' := #[.val (.int p1), .val (.int p2), .val (.int p3), .val (.int p4), .val (.int p5), .val (.int p6), .val (.int (3 : Int32)), .val (.ref b1), .unset, .unset]) rfl ?_
    show Steps p.tables e below (T1.setTop (mkF m 14 #[.val (.int p1), .val (.int p2), .val (.int p3), .val (.int p4), .val (.int p5), .val (.int p6), .val (.int (3 : Int32)), .val (.ref b1), .unset, .unset] [])) _
    refine XS.iload X1.here hx rfl (hb hby at_14) rfl ?_
    show Steps p.tables e below (T1.setTop (mkF m 16 #[.val (.int p1), .val (.int p2), .val (.int p3), .val (.int p4), .val (.int p5), .val (.int p6), .val (.int (3 : Int32)), .val (.ref b1), .unset, .unset] [(.int (3 : Int32))])) _
    refine XS.ifNo X1.here hx rfl (hb hby at_16) rfl ((if0 _ _).trans (tlt ((by decide) : (0 : Int32) < (3 : Int32))).2.2.2) ?_
    show Steps p.tables e below (T1.setTop (mkF m 19 #[.val (.int p1), .val (.int p2), .val (.int p3), .val (.int p4), .val (.int p5), .val (.int p6), .val (.int (3 : Int32)), .val (.ref b1), .unset, .unset] [])) _
    refine XS.aload X1.here hx rfl (hb hby at_19) rfl rfl ?_
    show Steps p.tables e below (T1.setTop (mkF m 21 #[.val (.int p1), .val (.int p2), .val (.int p3), .val (.int p4), .val (.int p5), .val (.int p6), .val (.int (3 : Int32)), .val (.ref b1), .unset, .unset] [(.ref b1)])) _
    refine XS.iconst X1.here hx rfl (hb hby at_21) ?_
    show Steps p.tables e below (T1.setTop (mkF m 22 #[.val (.int p1), .val (.int p2), .val (.int p3), .val (.int p4), .val (.int p5), .val (.int p6), .val (.int (3 : Int32)), .val (.ref b1), .unset, .unset] [(.int (0 : Int32)), (.ref b1)])) _
    refine XS.iloadN X1.here hx rfl (hb hby at_22) rfl ?_
    show Steps p.tables e below (T1.setTop (mkF m 23 #[.val (.int p1), .val (.int p2), .val (.int p3), .val (.int p4), .val (.int p5), .val (.int p6), .val (.int (3 : Int32)), .val (.ref b1), .unset, .unset] [(.int p2), (.int (0 : Int32)), (.ref b1)])) _
    refine XS.i2b X1.here hx rfl (hb hby at_23) rfl ?_
    show Steps p.tables e below (T1.setTop (mkF m 24 #[.val (.int p1), .val (.int p2), .val (.int p3), .val (.int p4), .val (.int p5), .val (.int p6), .val (.int (3 : Int32)), .val (.ref b1), .unset, .unset] [(.int (p2.toInt8.toInt32)), (.int (0 : Int32)), (.ref b1)])) _
    refine st3 _ ?_
    show Steps p.tables e below (T3.setTop (mkF m 25 #[.val (.int p1), .val (.int p2), .val (.int p3), .val (.int p4), .val (.int p5), .val (.int p6), .val (.int (3 : Int32)), .val (.ref b1), .unset, .unset] [])) _
    refine XS.iload X3.here hx rfl (hb hby at_25) rfl ?_
    show Steps p.tables e below (T3.setTop (mkF m 27 #[.val (.int p1), .val (.int p2), .val (.int p3), .val (.int p4), .val (.int p5), .val (.int p6), .val (.int (3 : Int32)), .val (.ref b1), .unset, .unset] [(.int (3 : Int32))])) _
    refine XS.iconst X3.here hx rfl (hb hby at_27) ?_
    show Steps p.tables e below (T3.setTop (mkF m 28 #[.val (.int p1), .val (.int p2), .val (.int p3), .val (.int p4), .val (.int p5), .val (.int p6), .val (.int (3 : Int32)), .val (.ref b1), .unset, .unset] [(.int (1 : Int32)), (.int (3 : Int32))])) _
    refine XS.icmpNo X3.here hx rfl (hb hby at_28) rfl (tlt ((by decide) : (1 : Int32) < (3 : Int32))).2.2.2 ?_
    show Steps p.tables e below (T3.setTop (mkF m 31 #[.val (.int p1), .val (.int p2), .val (.int p3), .val (.int p4), .val (.int p5), .val (.int p6), .val (.int (3 : Int32)), .val (.ref b1), .unset, .unset] [])) _
    refine XS.aload X3.here hx rfl (hb hby at_31) rfl rfl ?_
    show Steps p.tables e below (T3.setTop (mkF m 33 #[.val (.int p1), .val (.int p2), .val (.int p3), .val (.int p4), .val (.int p5), .val (.int p6), .val (.int (3 : Int32)), .val (.ref b1), .unset, .unset] [(.ref b1)])) _
    refine XS.iconst X3.here hx rfl (hb hby at_33) ?_
    show Steps p.tables e below (T3.setTop (mkF m 34 #[.val (.int p1), .val (.int p2), .val (.int p3), .val (.int p4), .val (.int p5), .val (.int p6), .val (.int (3 : Int32)), .val (.ref b1), .unset, .unset] [(.int (1 : Int32)), (.ref b1)])) _
    refine XS.iloadN X3.here hx rfl (hb hby at_34) rfl ?_
    show Steps p.tables e below (T3.setTop (mkF m 35 #[.val (.int p1), .val (.int p2), .val (.int p3), .val (.int p4), .val (.int p5), .val (.int p6), .val (.int (3 : Int32)), .val (.ref b1), .unset, .unset] [(.int p3), (.int (1 : Int32)), (.ref b1)])) _
    refine XS.i2b X3.here hx rfl (hb hby at_35) rfl ?_
    show Steps p.tables e below (T3.setTop (mkF m 36 #[.val (.int p1), .val (.int p2), .val (.int p3), .val (.int p4), .val (.int p5), .val (.int p6), .val (.int (3 : Int32)), .val (.ref b1), .unset, .unset] [(.int (p3.toInt8.toInt32)), (.int (1 : Int32)), (.ref b1)])) _
    refine st5 _ ?_
    show Steps p.tables e below (T5.setTop (mkF m 37 #[.val (.int p1), .val (.int p2), .val (.int p3), .val (.int p4), .val (.int p5), .val (.int p6), .val (.int (3 : Int32)), .val (.ref b1), .unset, .unset] [])) _
    refine XS.iload X5.here hx rfl (hb hby at_37) rfl ?_
    show Steps p.tables e below (T5.setTop (mkF m 39 #[.val (.int p1), .val (.int p2), .val (.int p3), .val (.int p4), .val (.int p5), .val (.int p6), .val (.int (3 : Int32)), .val (.ref b1), .unset, .unset] [(.int (3 : Int32))])) _
    refine XS.iconst X5.here hx rfl (hb hby at_39) ?_
    show Steps p.tables e below (T5.setTop (mkF m 40 #[.val (.int p1), .val (.int p2), .val (.int p3), .val (.int p4), .val (.int p5), .val (.int p6), .val (.int (3 : Int32)), .val (.ref b1), .unset, .unset] [(.int (2 : Int32)), (.int (3 : Int32))])) _
    refine XS.icmpNo X5.here hx rfl (hb hby at_40) rfl (tlt ((by decide) : (2 : Int32) < (3 : Int32))).2.2.2 ?_
    show Steps p.tables e below (T5.setTop (mkF m 43 #[.val (.int p1), .val (.int p2), .val (.int p3), .val (.int p4), .val (.int p5), .val (.int p6), .val (.int (3 : Int32)), .val (.ref b1), .unset, .unset] [])) _
    refine XS.aload X5.here hx rfl (hb hby at_43) rfl rfl ?_
    show Steps p.tables e below (T5.setTop (mkF m 45 #[.val (.int p1), .val (.int p2), .val (.int p3), .val (.int p4), .val (.int p5), .val (.int p6), .val (.int (3 : Int32)), .val (.ref b1), .unset, .unset] [(.ref b1)])) _
    refine XS.iconst X5.here hx rfl (hb hby at_45) ?_
    show Steps p.tables e below (T5.setTop (mkF m 46 #[.val (.int p1), .val (.int p2), .val (.int p3), .val (.int p4), .val (.int p5), .val (.int p6), .val (.int (3 : Int32)), .val (.ref b1), .unset, .unset] [(.int (2 : Int32)), (.ref b1)])) _
    refine XS.iloadN X5.here hx rfl (hb hby at_46) rfl ?_
    show Steps p.tables e below (T5.setTop (mkF m 47 #[.val (.int p1), .val (.int p2), .val (.int p3), .val (.int p4), .val (.int p5), .val (.int p6), .val (.int (3 : Int32)), .val (.ref b1), .unset, .unset] [(.int p4), (.int (2 : Int32)), (.ref b1)])) _
    refine XS.i2b X5.here hx rfl (hb hby at_47) rfl ?_
    show Steps p.tables e below (T5.setTop (mkF m 48 #[.val (.int p1), .val (.int p2), .val (.int p3), .val (.int p4), .val (.int p5), .val (.int p6), .val (.int (3 : Int32)), .val (.ref b1), .unset, .unset] [(.int (p4.toInt8.toInt32)), (.int (2 : Int32)), (.ref b1)])) _
    refine st7 _ ?_
    show Steps p.tables e below (T7.setTop (mkF m 49 #[.val (.int p1), .val (.int p2), .val (.int p3), .val (.int p4), .val (.int p5), .val (.int p6), .val (.int (3 : Int32)), .val (.ref b1), .unset, .unset] [])) _
    refine XS.iload X7.here hx rfl (hb hby at_49) rfl ?_
    show Steps p.tables e below (T7.setTop (mkF m 51 #[.val (.int p1), .val (.int p2), .val (.int p3), .val (.int p4), .val (.int p5), .val (.int p6), .val (.int (3 : Int32)), .val (.ref b1), .unset, .unset] [(.int (3 : Int32))])) _
    refine XS.iconst X7.here hx rfl (hb hby at_51) ?_
    show Steps p.tables e below (T7.setTop (mkF m 52 #[.val (.int p1), .val (.int p2), .val (.int p3), .val (.int p4), .val (.int p5), .val (.int p6), .val (.int (3 : Int32)), .val (.ref b1), .unset, .unset] [(.int (3 : Int32)), (.int (3 : Int32))])) _
    refine XS.icmpYes X7.here hx rfl (pc0 := 52) (pc' := 62) rfl (hb hby at_52) rfl (flt ((by decide) : ¬ ((3 : Int32) < (3 : Int32)))).2.2.2 (by decide) (by decide) ?_
    show Steps p.tables e below (T7.setTop (mkF m 62 #[.val (.int p1), .val (.int p2), .val (.int p3), .val (.int p4), .val (.int p5), .val (.int p6), .val (.int (3 : Int32)), .val (.ref b1), .unset, .unset] [])) _
    refine XS.aload X7.here hx rfl (hb hby at_62) rfl rfl ?_
    show Steps p.tables e below (T7.setTop (mkF m 64 #[.val (.int p1), .val (.int p2), .val (.int p3), .val (.int p4), .val (.int p5), .val (.int p6), .val (.int (3 : Int32)), .val (.ref b1), .unset, .unset] [(.ref b1)])) _
    refine st8 _ ?_
    show Steps p.tables e below (T8.setTop (mkF m 67 #[.val (.int p1), .val (.int p2), .val (.int p3), .val (.int p4), .val (.int p5), .val (.int p6), .val (.int (3 : Int32)), .val (.ref b1), .unset, .unset] [(.ref b8_b1)])) _
    refine XS.astore X8.here hx rfl (hb hby at_67) rfl rfl (l' := #[.val (.int p1), .val (.int p2), .val (.int p3), .val (.int p4), .val (.int p5), .val (.int p6), .val (.int (3 : Int32)), .val (.ref b1), .val (.ref b8_b1), .unset]) rfl ?_
    show Steps p.tables e below (T8.setTop (mkF m 69 #[.val (.int p1), .val (.int p2), .val (.int p3), .val (.int p4), .val (.int p5), .val (.int p6), .val (.int (3 : Int32)), .val (.ref b1), .val (.ref b8_b1), .unset] [])) _
    refine XS.iload X8.here hx rfl (hb hby at_69) rfl ?_
    show Steps p.tables e below (T8.setTop (mkF m 71 #[.val (.int p1), .val (.int p2), .val (.int p3), .val (.int p4), .val (.int p5), .val (.int p6), .val (.int (3 : Int32)), .val (.ref b1), .val (.ref b8_b1), .unset] [(.int (3 : Int32))])) _
    refine XS.ifNo X8.here hx rfl (hb hby at_71) rfl ((if0 _ _).trans (tlt ((by decide) : (0 : Int32) < (3 : Int32))).2.2.2) ?_
    show Steps p.tables e below (T8.setTop (mkF m 74 #[.val (.int p1), .val (.int p2), .val (.int p3), .val (.int p4), .val (.int p5), .val (.int p6), .val (.int (3 : Int32)), .val (.ref b1), .val (.ref b8_b1), .unset] [])) _
    refine XS.iload X8.here hx rfl (hb hby at_74) rfl ?_
    show Steps p.tables e below (T8.setTop (mkF m 76 #[.val (.int p1), .val (.int p2), .val (.int p3), .val (.int p4), .val (.int p5), .val (.int p6), .val (.int (3 : Int32)), .val (.ref b1), .val (.ref b8_b1), .unset] [(.int p6)])) _
    refine X8.ldcInt hx hown (mvT hZ (hw _ (List.mem_of_getElem? (i := 0) rfl))) (g := (mkF m 76 #[.val (.int p1), .val (.int p2), .val (.int p3), .val (.int p4), .val (.int p5), .val (.int p6), .val (.int (3 : Int32)), .val (.ref b1), .val (.ref b8_b1), .unset] [(.int p6)])) rfl (hb hby at_76) _ ?_
    show Steps p.tables e below (T8.setTop (mkF m 78 #[.val (.int p1), .val (.int p2), .val (.int p3), .val (.int p4), .val (.int p5), .val (.int p6), .val (.int (3 : Int32)), .val (.ref b1), .val (.ref b8_b1), .unset] [(.int (2147483647 : Int32)), (.int p6)])) _
    refine XS.iand X8.here hx rfl (hb hby at_78) rfl ?_
    show Steps p.tables e below (T8.setTop (mkF m 79 #[.val (.int p1), .val (.int p2), .val (.int p3), .val (.int p4), .val (.int p5), .val (.int p6), .val (.int (3 : Int32)), .val (.ref b1), .val (.ref b8_b1), .unset] [(.int (p6 &&& (2147483647 : Int32)))])) _
    refine XS.iload X8.here hx rfl (hb hby at_79) rfl ?_
    show Steps p.tables e below (T8.setTop (mkF m 81 #[.val (.int p1), .val (.int p2), .val (.int p3), .val (.int p4), .val (.int p5), .val (.int p6), .val (.int (3 : Int32)), .val (.ref b1), .val (.ref b8_b1), .unset] [(.int (3 : Int32)), (.int (p6 &&& (2147483647 : Int32)))])) _
    refine iremM X8 hx rfl (hb hby at_81) rfl (by decide) ?_
    show Steps p.tables e below (T8.setTop (mkF m 82 #[.val (.int p1), .val (.int p2), .val (.int p3), .val (.int p4), .val (.int p5), .val (.int p6), .val (.int (3 : Int32)), .val (.ref b1), .val (.ref b8_b1), .unset] [(.int ((p6 &&& (2147483647 : Int32)) % (3 : Int32)))])) _
    rw [hi]
    show Steps p.tables e below (T8.setTop (mkF m 82 #[.val (.int p1), .val (.int p2), .val (.int p3), .val (.int p4), .val (.int p5), .val (.int p6), .val (.int (3 : Int32)), .val (.ref b1), .val (.ref b8_b1), .unset] [(.int (1 : Int32))])) _
    refine XS.istore X8.here hx rfl (hb hby at_82) rfl (l' := #[.val (.int p1), .val (.int p2), .val (.int p3), .val (.int p4), .val (.int p5), .val (.int p6), .val (.int (3 : Int32)), .val (.ref b1), .val (.ref b8_b1), .val (.int (1 : Int32))]) rfl ?_
    show Steps p.tables e below (T8.setTop (mkF m 84 #[.val (.int p1), .val (.int p2), .val (.int p3), .val (.int p4), .val (.int p5), .val (.int p6), .val (.int (3 : Int32)), .val (.ref b1), .val (.ref b8_b1), .val (.int (1 : Int32))] [])) _
    refine XS.aload X8.here hx rfl (hb hby at_84) rfl rfl ?_
    show Steps p.tables e below (T8.setTop (mkF m 86 #[.val (.int p1), .val (.int p2), .val (.int p3), .val (.int p4), .val (.int p5), .val (.int p6), .val (.int (3 : Int32)), .val (.ref b1), .val (.ref b8_b1), .val (.int (1 : Int32))] [(.ref b1)])) _
    refine XS.iload X8.here hx rfl (hb hby at_86) rfl ?_
    show Steps p.tables e below (T8.setTop (mkF m 88 #[.val (.int p1), .val (.int p2), .val (.int p3), .val (.int p4), .val (.int p5), .val (.int p6), .val (.int (3 : Int32)), .val (.ref b1), .val (.ref b8_b1), .val (.int (1 : Int32))] [(.int (1 : Int32)), (.ref b1)])) _
    refine XS.aload X8.here hx rfl (hb hby at_88) rfl rfl ?_
    show Steps p.tables e below (T8.setTop (mkF m 90 #[.val (.int p1), .val (.int p2), .val (.int p3), .val (.int p4), .val (.int p5), .val (.int p6), .val (.int (3 : Int32)), .val (.ref b1), .val (.ref b8_b1), .val (.int (1 : Int32))] [(.ref b1), (.int (1 : Int32)), (.ref b1)])) _
    refine XS.iload X8.here hx rfl (hb hby at_90) rfl ?_
    show Steps p.tables e below (T8.setTop (mkF m 92 #[.val (.int p1), .val (.int p2), .val (.int p3), .val (.int p4), .val (.int p5), .val (.int p6), .val (.int (3 : Int32)), .val (.ref b1), .val (.ref b8_b1), .val (.int (1 : Int32))] [(.int (1 : Int32)), (.ref b1), (.int (1 : Int32)), (.ref b1)])) _
    refine X8.baloadBytes hx (j := (1 : Int32)) (v := (.int (p3.toInt8.toInt32))) Ar9.1 (State.isArrayOf_alike hZ.alike Ar9.2.1) Ar9.2.2 hin9 hat9 (g := (mkF m 92 #[.val (.int p1), .val (.int p2), .val (.int p3), .val (.int p4), .val (.int p5), .val (.int p6), .val (.int (3 : Int32)), .val (.ref b1), .val (.ref b8_b1), .val (.int (1 : Int32))] [(.int (1 : Int32)), (.ref b1), (.int (1 : Int32)), (.ref b1)])) rfl rfl (hb hby at_92) _ ?_
    show Steps p.tables e below (T8.setTop (mkF m 93 #[.val (.int p1), .val (.int p2), .val (.int p3), .val (.int p4), .val (.int p5), .val (.int p6), .val (.int (3 : Int32)), .val (.ref b1), .val (.ref b8_b1), .val (.int (1 : Int32))] [(.int (p3.toInt8.toInt32)), (.int (1 : Int32)), (.ref b1)])) _
    refine XS.iconst X8.here hx rfl (hb hby at_93) ?_
    show Steps p.tables e below (T8.setTop (mkF m 94 #[.val (.int p1), .val (.int p2), .val (.int p3), .val (.int p4), .val (.int p5), .val (.int p6), .val (.int (3 : Int32)), .val (.ref b1), .val (.ref b8_b1), .val (.int (1 : Int32))] [(.int (-1 : Int32)), (.int (p3.toInt8.toInt32)), (.int (1 : Int32)), (.ref b1)])) _
    refine XS.ixor X8.here hx rfl (hb hby at_94) rfl ?_
    show Steps p.tables e below (T8.setTop (mkF m 95 #[.val (.int p1), .val (.int p2), .val (.int p3), .val (.int p4), .val (.int p5), .val (.int p6), .val (.int (3 : Int32)), .val (.ref b1), .val (.ref b8_b1), .val (.int (1 : Int32))] [(.int ((p3.toInt8.toInt32) ^^^ (-1 : Int32))), (.int (1 : Int32)), (.ref b1)])) _
    refine XS.i2b X8.here hx rfl (hb hby at_95) rfl ?_
    show Steps p.tables e below (T8.setTop (mkF m 96 #[.val (.int p1), .val (.int p2), .val (.int p3), .val (.int p4), .val (.int p5), .val (.int p6), .val (.int (3 : Int32)), .val (.ref b1), .val (.ref b8_b1), .val (.int (1 : Int32))] [(.int (((p3.toInt8.toInt32) ^^^ (-1 : Int32)).toInt8.toInt32)), (.int (1 : Int32)), (.ref b1)])) _
    refine st11 _ ?_
    show Steps p.tables e below (T11.setTop (mkF m 97 #[.val (.int p1), .val (.int p2), .val (.int p3), .val (.int p4), .val (.int p5), .val (.int p6), .val (.int (3 : Int32)), .val (.ref b1), .val (.ref b8_b1), .val (.int (1 : Int32))] [])) _
    refine XS.aload X11.here hx rfl (hb hby at_97) rfl rfl ?_
    show Steps p.tables e below (T11.setTop (mkF m 99 #[.val (.int p1), .val (.int p2), .val (.int p3), .val (.int p4), .val (.int p5), .val (.int p6), .val (.int (3 : Int32)), .val (.ref b1), .val (.ref b8_b1), .val (.int (1 : Int32))] [(.ref b8_b1)])) _
    refine st12.trans ?_
    show Steps p.tables e below (T12.setTop (mkF m 102 #[.val (.int p1), .val (.int p2), .val (.int p3), .val (.int p4), .val (.int p5), .val (.int p6), .val (.int (3 : Int32)), .val (.ref b1), .val (.ref b8_b1), .val (.int (1 : Int32))] [(.ref w_n1)])) _
    refine st13 _ ?_
    show Steps p.tables e below (T13.setTop (mkF m 105 #[.val (.int p1), .val (.int p2), .val (.int p3), .val (.int p4), .val (.int p5), .val (.int p6), .val (.int (3 : Int32)), .val (.ref b1), .val (.ref b8_b1), .val (.int (1 : Int32))] [(.ref w_n1), (.ref w_n1)])) _
    refine Jvm.RoadKit.acmp (g := (mkF m 105 #[.val (.int p1), .val (.int p2), .val (.int p3), .val (.int p4), .val (.int p5), .val (.int p6), .val (.int (3 : Int32)), .val (.ref b1), .val (.ref b8_b1), .val (.int (1 : Int32))] [(.ref w_n1), (.ref w_n1)])) X13 hx rfl rfl rfl (pc0 := 105) (pc' := 110) (same := true) rfl (hb hby at_105) rfl (decide_eq_true rfl) (by decide) (by decide) ?_
    show Steps p.tables e below (T13.setTop (mkF m 110 #[.val (.int p1), .val (.int p2), .val (.int p3), .val (.int p4), .val (.int p5), .val (.int p6), .val (.int (3 : Int32)), .val (.ref b1), .val (.ref b8_b1), .val (.int (1 : Int32))] [])) _
    refine XS.aload X13.here hx rfl (hb hby at_110) rfl rfl ?_
    show Steps p.tables e below (T13.setTop (mkF m 112 #[.val (.int p1), .val (.int p2), .val (.int p3), .val (.int p4), .val (.int p5), .val (.int p6), .val (.int (3 : Int32)), .val (.ref b1), .val (.ref b8_b1), .val (.int (1 : Int32))] [(.ref b8_b1)])) _
    refine st14.trans ?_
    show Steps p.tables e below (T14.setTop (mkF m 115 #[.val (.int p1), .val (.int p2), .val (.int p3), .val (.int p4), .val (.int p5), .val (.int p6), .val (.int (3 : Int32)), .val (.ref b1), .val (.ref b8_b1), .val (.int (1 : Int32))] [(.int (3 : Int32))])) _
    refine XS.iload X14.here hx rfl (hb hby at_115) rfl ?_
    show Steps p.tables e below (T14.setTop (mkF m 117 #[.val (.int p1), .val (.int p2), .val (.int p3), .val (.int p4), .val (.int p5), .val (.int p6), .val (.int (3 : Int32)), .val (.ref b1), .val (.ref b8_b1), .val (.int (1 : Int32))] [(.int (3 : Int32)), (.int (3 : Int32))])) _
    refine XS.icmpYes X14.here hx rfl (pc0 := 117) (pc' := 122) rfl (hb hby at_117) rfl (teq ((by decide) : (3 : Int32) = (3 : Int32))).1 (by decide) (by decide) ?_
    show Steps p.tables e below (T14.setTop (mkF m 122 #[.val (.int p1), .val (.int p2), .val (.int p3), .val (.int p4), .val (.int p5), .val (.int p6), .val (.int (3 : Int32)), .val (.ref b1), .val (.ref b8_b1), .val (.int (1 : Int32))] [])) _
    refine XS.aload X14.here hx rfl (hb hby at_122) rfl rfl ?_
    show Steps p.tables e below (T14.setTop (mkF m 124 #[.val (.int p1), .val (.int p2), .val (.int p3), .val (.int p4), .val (.int p5), .val (.int p6), .val (.int (3 : Int32)), .val (.ref b1), .val (.ref b8_b1), .val (.int (1 : Int32))] [(.ref b8_b1)])) _
    refine st15.trans ?_
    show Steps p.tables e below (T15.setTop (mkF m 127 #[.val (.int p1), .val (.int p2), .val (.int p3), .val (.int p4), .val (.int p5), .val (.int p6), .val (.int (3 : Int32)), .val (.ref b1), .val (.ref b8_b1), .val (.int (1 : Int32))] [(.ref b15_b4)])) _
    refine XS.astore X15.here hx rfl (hb hby at_127) rfl rfl (l' := #[.val (.int p1), .val (.int p2), .val (.int p3), .val (.int p4), .val (.int p5), .val (.int p6), .val (.int (3 : Int32)), .val (.ref b1), .val (.ref b8_b1), .val (.ref b15_b4)]) rfl ?_
    show Steps p.tables e below (T15.setTop (mkF m 129 #[.val (.int p1), .val (.int p2), .val (.int p3), .val (.int p4), .val (.int p5), .val (.int p6), .val (.int (3 : Int32)), .val (.ref b1), .val (.ref b8_b1), .val (.ref b15_b4)] [])) _
    refine XS.aload X15.here hx rfl (hb hby at_129) rfl rfl ?_
    show Steps p.tables e below (T15.setTop (mkF m 131 #[.val (.int p1), .val (.int p2), .val (.int p3), .val (.int p4), .val (.int p5), .val (.int p6), .val (.int (3 : Int32)), .val (.ref b1), .val (.ref b8_b1), .val (.ref b15_b4)] [(.ref b15_b4)])) _
    refine X15.arraylength hx Ar16.1 (State.isArrayOf_alike hZ.alike Ar16.2.1) (g := (mkF m 131 #[.val (.int p1), .val (.int p2), .val (.int p3), .val (.int p4), .val (.int p5), .val (.int p6), .val (.int (3 : Int32)), .val (.ref b1), .val (.ref b8_b1), .val (.ref b15_b4)] [(.ref b15_b4)])) rfl rfl (hb hby at_131) _ ?_
    rw [len_of Sz16 Nz16]
    show Steps p.tables e below (T15.setTop (mkF m 132 #[.val (.int p1), .val (.int p2), .val (.int p3), .val (.int p4), .val (.int p5), .val (.int p6), .val (.int (3 : Int32)), .val (.ref b1), .val (.ref b8_b1), .val (.ref b15_b4)] [(.int (3 : Int32))])) _
    refine XS.iload X15.here hx rfl (hb hby at_132) rfl ?_
    show Steps p.tables e below (T15.setTop (mkF m 134 #[.val (.int p1), .val (.int p2), .val (.int p3), .val (.int p4), .val (.int p5), .val (.int p6), .val (.int (3 : Int32)), .val (.ref b1), .val (.ref b8_b1), .val (.ref b15_b4)] [(.int (3 : Int32)), (.int (3 : Int32))])) _
    refine XS.icmpYes X15.here hx rfl (pc0 := 134) (pc' := 139) rfl (hb hby at_134) rfl (teq ((by decide) : (3 : Int32) = (3 : Int32))).1 (by decide) (by decide) ?_
    show Steps p.tables e below (T15.setTop (mkF m 139 #[.val (.int p1), .val (.int p2), .val (.int p3), .val (.int p4), .val (.int p5), .val (.int p6), .val (.int (3 : Int32)), .val (.ref b1), .val (.ref b8_b1), .val (.ref b15_b4)] [])) _
    refine XS.iload X15.here hx rfl (hb hby at_139) rfl ?_
    show Steps p.tables e below (T15.setTop (mkF m 141 #[.val (.int p1), .val (.int p2), .val (.int p3), .val (.int p4), .val (.int p5), .val (.int p6), .val (.int (3 : Int32)), .val (.ref b1), .val (.ref b8_b1), .val (.ref b15_b4)] [(.int (3 : Int32))])) _
    refine XS.ifNo X15.here hx rfl (hb hby at_141) rfl ((if0 _ _).trans (tlt ((by decide) : (0 : Int32) < (3 : Int32))).2.2.2) ?_
    show Steps p.tables e below (T15.setTop (mkF m 144 #[.val (.int p1), .val (.int p2), .val (.int p3), .val (.int p4), .val (.int p5), .val (.int p6), .val (.int (3 : Int32)), .val (.ref b1), .val (.ref b8_b1), .val (.ref b15_b4)] [])) _
    refine XS.aload X15.here hx rfl (hb hby at_144) rfl rfl ?_
    show Steps p.tables e below (T15.setTop (mkF m 146 #[.val (.int p1), .val (.int p2), .val (.int p3), .val (.int p4), .val (.int p5), .val (.int p6), .val (.int (3 : Int32)), .val (.ref b1), .val (.ref b8_b1), .val (.ref b15_b4)] [(.ref b15_b4)])) _
    refine XS.iconst X15.here hx rfl (hb hby at_146) ?_
    show Steps p.tables e below (T15.setTop (mkF m 147 #[.val (.int p1), .val (.int p2), .val (.int p3), .val (.int p4), .val (.int p5), .val (.int p6), .val (.int (3 : Int32)), .val (.ref b1), .val (.ref b8_b1), .val (.ref b15_b4)] [(.int (0 : Int32)), (.ref b15_b4)])) _
    refine X15.baloadBytes hx (j := (0 : Int32)) (v := (.int (p2.toInt8.toInt32))) Ar17.1 (State.isArrayOf_alike hZ.alike Ar17.2.1) Ar17.2.2 hin17 hat17 (g := (mkF m 147 #[.val (.int p1), .val (.int p2), .val (.int p3), .val (.int p4), .val (.int p5), .val (.int p6), .val (.int (3 : Int32)), .val (.ref b1), .val (.ref b8_b1), .val (.ref b15_b4)] [(.int (0 : Int32)), (.ref b15_b4)])) rfl rfl (hb hby at_147) _ ?_
    show Steps p.tables e below (T15.setTop (mkF m 148 #[.val (.int p1), .val (.int p2), .val (.int p3), .val (.int p4), .val (.int p5), .val (.int p6), .val (.int (3 : Int32)), .val (.ref b1), .val (.ref b8_b1), .val (.ref b15_b4)] [(.int (p2.toInt8.toInt32))])) _
    refine XS.iloadN X15.here hx rfl (hb hby at_148) rfl ?_
    show Steps p.tables e below (T15.setTop (mkF m 149 #[.val (.int p1), .val (.int p2), .val (.int p3), .val (.int p4), .val (.int p5), .val (.int p6), .val (.int (3 : Int32)), .val (.ref b1), .val (.ref b8_b1), .val (.ref b15_b4)] [(.int p2), (.int (p2.toInt8.toInt32))])) _
    refine XS.i2b X15.here hx rfl (hb hby at_149) rfl ?_
    show Steps p.tables e below (T15.setTop (mkF m 150 #[.val (.int p1), .val (.int p2), .val (.int p3), .val (.int p4), .val (.int p5), .val (.int p6), .val (.int (3 : Int32)), .val (.ref b1), .val (.ref b8_b1), .val (.ref b15_b4)] [(.int (p2.toInt8.toInt32)), (.int (p2.toInt8.toInt32))])) _
    refine XS.icmpYes X15.here hx rfl (pc0 := 150) (pc' := 155) rfl (hb hby at_150) rfl (teq (rfl : (p2.toInt8.toInt32) = (p2.toInt8.toInt32))).1 (by decide) (by decide) ?_
    show Steps p.tables e below (T15.setTop (mkF m 155 #[.val (.int p1), .val (.int p2), .val (.int p3), .val (.int p4), .val (.int p5), .val (.int p6), .val (.int (3 : Int32)), .val (.ref b1), .val (.ref b8_b1), .val (.ref b15_b4)] [])) _
    refine XS.iload X15.here hx rfl (hb hby at_155) rfl ?_
    show Steps p.tables e below (T15.setTop (mkF m 157 #[.val (.int p1), .val (.int p2), .val (.int p3), .val (.int p4), .val (.int p5), .val (.int p6), .val (.int (3 : Int32)), .val (.ref b1), .val (.ref b8_b1), .val (.ref b15_b4)] [(.int (3 : Int32))])) _
    refine XS.iconst X15.here hx rfl (hb hby at_157) ?_
    show Steps p.tables e below (T15.setTop (mkF m 158 #[.val (.int p1), .val (.int p2), .val (.int p3), .val (.int p4), .val (.int p5), .val (.int p6), .val (.int (3 : Int32)), .val (.ref b1), .val (.ref b8_b1), .val (.ref b15_b4)] [(.int (1 : Int32)), (.int (3 : Int32))])) _
    refine XS.icmpNo X15.here hx rfl (hb hby at_158) rfl (tlt ((by decide) : (1 : Int32) < (3 : Int32))).2.2.2 ?_
    show Steps p.tables e below (T15.setTop (mkF m 161 #[.val (.int p1), .val (.int p2), .val (.int p3), .val (.int p4), .val (.int p5), .val (.int p6), .val (.int (3 : Int32)), .val (.ref b1), .val (.ref b8_b1), .val (.ref b15_b4)] [])) _
    refine XS.aload X15.here hx rfl (hb hby at_161) rfl rfl ?_
    show Steps p.tables e below (T15.setTop (mkF m 163 #[.val (.int p1), .val (.int p2), .val (.int p3), .val (.int p4), .val (.int p5), .val (.int p6), .val (.int (3 : Int32)), .val (.ref b1), .val (.ref b8_b1), .val (.ref b15_b4)] [(.ref b15_b4)])) _
    refine XS.iconst X15.here hx rfl (hb hby at_163) ?_
    show Steps p.tables e below (T15.setTop (mkF m 164 #[.val (.int p1), .val (.int p2), .val (.int p3), .val (.int p4), .val (.int p5), .val (.int p6), .val (.int (3 : Int32)), .val (.ref b1), .val (.ref b8_b1), .val (.ref b15_b4)] [(.int (1 : Int32)), (.ref b15_b4)])) _
    refine X15.baloadBytes hx (j := (1 : Int32)) (v := (.int (p3.toInt8.toInt32))) Ar18.1 (State.isArrayOf_alike hZ.alike Ar18.2.1) Ar18.2.2 hin18 hat18 (g := (mkF m 164 #[.val (.int p1), .val (.int p2), .val (.int p3), .val (.int p4), .val (.int p5), .val (.int p6), .val (.int (3 : Int32)), .val (.ref b1), .val (.ref b8_b1), .val (.ref b15_b4)] [(.int (1 : Int32)), (.ref b15_b4)])) rfl rfl (hb hby at_164) _ ?_
    show Steps p.tables e below (T15.setTop (mkF m 165 #[.val (.int p1), .val (.int p2), .val (.int p3), .val (.int p4), .val (.int p5), .val (.int p6), .val (.int (3 : Int32)), .val (.ref b1), .val (.ref b8_b1), .val (.ref b15_b4)] [(.int (p3.toInt8.toInt32))])) _
    refine XS.iloadN X15.here hx rfl (hb hby at_165) rfl ?_
    show Steps p.tables e below (T15.setTop (mkF m 166 #[.val (.int p1), .val (.int p2), .val (.int p3), .val (.int p4), .val (.int p5), .val (.int p6), .val (.int (3 : Int32)), .val (.ref b1), .val (.ref b8_b1), .val (.ref b15_b4)] [(.int p3), (.int (p3.toInt8.toInt32))])) _
    refine XS.i2b X15.here hx rfl (hb hby at_166) rfl ?_
    show Steps p.tables e below (T15.setTop (mkF m 167 #[.val (.int p1), .val (.int p2), .val (.int p3), .val (.int p4), .val (.int p5), .val (.int p6), .val (.int (3 : Int32)), .val (.ref b1), .val (.ref b8_b1), .val (.ref b15_b4)] [(.int (p3.toInt8.toInt32)), (.int (p3.toInt8.toInt32))])) _
    refine XS.icmpYes X15.here hx rfl (pc0 := 167) (pc' := 172) rfl (hb hby at_167) rfl (teq (rfl : (p3.toInt8.toInt32) = (p3.toInt8.toInt32))).1 (by decide) (by decide) ?_
    show Steps p.tables e below (T15.setTop (mkF m 172 #[.val (.int p1), .val (.int p2), .val (.int p3), .val (.int p4), .val (.int p5), .val (.int p6), .val (.int (3 : Int32)), .val (.ref b1), .val (.ref b8_b1), .val (.ref b15_b4)] [])) _
    refine XS.iload X15.here hx rfl (hb hby at_172) rfl ?_
    show Steps p.tables e below (T15.setTop (mkF m 174 #[.val (.int p1), .val (.int p2), .val (.int p3), .val (.int p4), .val (.int p5), .val (.int p6), .val (.int (3 : Int32)), .val (.ref b1), .val (.ref b8_b1), .val (.ref b15_b4)] [(.int (3 : Int32))])) _
    refine XS.iconst X15.here hx rfl (hb hby at_174) ?_
    show Steps p.tables e below (T15.setTop (mkF m 175 #[.val (.int p1), .val (.int p2), .val (.int p3), .val (.int p4), .val (.int p5), .val (.int p6), .val (.int (3 : Int32)), .val (.ref b1), .val (.ref b8_b1), .val (.ref b15_b4)] [(.int (2 : Int32)), (.int (3 : Int32))])) _
    refine XS.icmpNo X15.here hx rfl (hb hby at_175) rfl (tlt ((by decide) : (2 : Int32) < (3 : Int32))).2.2.2 ?_
    show Steps p.tables e below (T15.setTop (mkF m 178 #[.val (.int p1), .val (.int p2), .val (.int p3), .val (.int p4), .val (.int p5), .val (.int p6), .val (.int (3 : Int32)), .val (.ref b1), .val (.ref b8_b1), .val (.ref b15_b4)] [])) _
    refine XS.aload X15.here hx rfl (hb hby at_178) rfl rfl ?_
    show Steps p.tables e below (T15.setTop (mkF m 180 #[.val (.int p1), .val (.int p2), .val (.int p3), .val (.int p4), .val (.int p5), .val (.int p6), .val (.int (3 : Int32)), .val (.ref b1), .val (.ref b8_b1), .val (.ref b15_b4)] [(.ref b15_b4)])) _
    refine XS.iconst X15.here hx rfl (hb hby at_180) ?_
    show Steps p.tables e below (T15.setTop (mkF m 181 #[.val (.int p1), .val (.int p2), .val (.int p3), .val (.int p4), .val (.int p5), .val (.int p6), .val (.int (3 : Int32)), .val (.ref b1), .val (.ref b8_b1), .val (.ref b15_b4)] [(.int (2 : Int32)), (.ref b15_b4)])) _
    refine X15.baloadBytes hx (j := (2 : Int32)) (v := (.int (p4.toInt8.toInt32))) Ar19.1 (State.isArrayOf_alike hZ.alike Ar19.2.1) Ar19.2.2 hin19 hat19 (g := (mkF m 181 #[.val (.int p1), .val (.int p2), .val (.int p3), .val (.int p4), .val (.int p5), .val (.int p6), .val (.int (3 : Int32)), .val (.ref b1), .val (.ref b8_b1), .val (.ref b15_b4)] [(.int (2 : Int32)), (.ref b15_b4)])) rfl rfl (hb hby at_181) _ ?_
    show Steps p.tables e below (T15.setTop (mkF m 182 #[.val (.int p1), .val (.int p2), .val (.int p3), .val (.int p4), .val (.int p5), .val (.int p6), .val (.int (3 : Int32)), .val (.ref b1), .val (.ref b8_b1), .val (.ref b15_b4)] [(.int (p4.toInt8.toInt32))])) _
    refine XS.iloadN X15.here hx rfl (hb hby at_182) rfl ?_
    show Steps p.tables e below (T15.setTop (mkF m 183 #[.val (.int p1), .val (.int p2), .val (.int p3), .val (.int p4), .val (.int p5), .val (.int p6), .val (.int (3 : Int32)), .val (.ref b1), .val (.ref b8_b1), .val (.ref b15_b4)] [(.int p4), (.int (p4.toInt8.toInt32))])) _
    refine XS.i2b X15.here hx rfl (hb hby at_183) rfl ?_
    show Steps p.tables e below (T15.setTop (mkF m 184 #[.val (.int p1), .val (.int p2), .val (.int p3), .val (.int p4), .val (.int p5), .val (.int p6), .val (.int (3 : Int32)), .val (.ref b1), .val (.ref b8_b1), .val (.ref b15_b4)] [(.int (p4.toInt8.toInt32)), (.int (p4.toInt8.toInt32))])) _
    refine XS.icmpYes X15.here hx rfl (pc0 := 184) (pc' := 189) rfl (hb hby at_184) rfl (teq (rfl : (p4.toInt8.toInt32) = (p4.toInt8.toInt32))).1 (by decide) (by decide) ?_
    show Steps p.tables e below (T15.setTop (mkF m 189 #[.val (.int p1), .val (.int p2), .val (.int p3), .val (.int p4), .val (.int p5), .val (.int p6), .val (.int (3 : Int32)), .val (.ref b1), .val (.ref b8_b1), .val (.ref b15_b4)] [])) _
    refine XS.iload X15.here hx rfl (hb hby at_189) rfl ?_
    show Steps p.tables e below (T15.setTop (mkF m 191 #[.val (.int p1), .val (.int p2), .val (.int p3), .val (.int p4), .val (.int p5), .val (.int p6), .val (.int (3 : Int32)), .val (.ref b1), .val (.ref b8_b1), .val (.ref b15_b4)] [(.int (3 : Int32))])) _
    refine XS.iconst X15.here hx rfl (hb hby at_191) ?_
    show Steps p.tables e below (T15.setTop (mkF m 192 #[.val (.int p1), .val (.int p2), .val (.int p3), .val (.int p4), .val (.int p5), .val (.int p6), .val (.int (3 : Int32)), .val (.ref b1), .val (.ref b8_b1), .val (.ref b15_b4)] [(.int (3 : Int32)), (.int (3 : Int32))])) _
    refine XS.icmpYes X15.here hx rfl (pc0 := 192) (pc' := 207) rfl (hb hby at_192) rfl (flt ((by decide) : ¬ ((3 : Int32) < (3 : Int32)))).2.2.2 (by decide) (by decide) ?_
    show Steps p.tables e below (T15.setTop (mkF m 207 #[.val (.int p1), .val (.int p2), .val (.int p3), .val (.int p4), .val (.int p5), .val (.int p6), .val (.int (3 : Int32)), .val (.ref b1), .val (.ref b8_b1), .val (.ref b15_b4)] [])) _
    refine XS.iconst X15.here hx rfl (hb hby at_207) ?_
    show Steps p.tables e below (T15.setTop (mkF m 208 #[.val (.int p1), .val (.int p2), .val (.int p3), .val (.int p4), .val (.int p5), .val (.int p6), .val (.int (3 : Int32)), .val (.ref b1), .val (.ref b8_b1), .val (.ref b15_b4)] [(.int (1 : Int32))])) _
    exact retN X15 hx (t := .boolean) Bd.returns (by simp) (hb hby at_208) hr
  · show Q0 n0 _ T15.heap _
    exact ⟨rfl, N15⟩
set_option maxRecDepth 65536 in
set_option maxHeartbeats 40000000 in
theorem rm0_32 (l : Launch) (Z : State) (a0 : Array Value) (hw : ∀ d ∈ tables_1, d.before a0 Z = true) (ws : List Jvm.Cond) {w_n1 : Addr} {w_n0 : Addr} {k_n0 : ClassId} (W : Wd Z w_n1 w_n0 k_n0) (p1 : Int32) (p2 : Int32) (p3 : Int32) (p4 : Int32) (p5 : Int32) (p6 : Int32) (h0 : Heap) (n0 : Nat) (O0 : Old Z n0 h0) (hk : ((p1 &&& (2147483647 : Int32)) % (5 : Int32)) = (3 : Int32)) (hi : ((p6 &&& (2147483647 : Int32)) % (3 : Int32)) = (2 : Int32)) :
    MetFree l x (head1 (Jvm.Cond.code x code maxLocals ret :: ws) room_1) (fun a U => a = #[(.int p1), (.int p2), (.int p3), (.int p4), (.int p5), (.int p6)] ∧ Z.Warmed39 U.vm ∧ U.heap = h0) (fun _ _ _ _ _ => True) (fun _ U o U' => ∃ v L, o = .returned v ∧ Q0 n0 v U'.heap L ∧ FrameEnd U o U' L room_1.cells room_1.slots) := by
  have W' := W; obtain ⟨S_n1, E_n1, S_n0, F_n1_ordinal, V_n0⟩ := W'
  refine MetFree.of_bodySF (plainFor_of_name pn_0) hisR ?_
  intro p e s m args below meth c s₁ Bd hml0 hP hK
  obtain ⟨rfl, hZ, hh⟩ := hP
  have hx := Bd.exec
  have hby := Bd.bytes
  have hml : c.maxLocals = 10 := hml0
  have hown : s.vm.findClass "com/example/keyfold/keyfold/core/ValueOfBinary193PinLaw" = some m.cls := findClass_of_methodNamed Bd.named
  have hnm := (name_of_methodNamed Bd.named Bd.method).1
  have X0 : Stand p l e room_1 s m #[(.int p1), (.int p2), (.int p3), (.int p4), (.int p5), (.int p6)] below meth c s₁ [] 0 0 := Stand.of_body Bd
  have e0 : s₁.heap = h0 := by rw [← hh, Bd.state]; rfl
  have N0 := Fr.nil n0
  have pre0 : ∀ t, Steps p.tables e below (s₁.setTop (mkF m 0 #[.val (.int p1), .val (.int p2), .val (.int p3), .val (.int p4), .val (.int p5), .val (.int p6), .unset, .unset, .unset, .unset] [])) t → Steps p.tables e below (s₁.setTop (entryFrame m #[(.int p1), (.int p2), (.int p3), (.int p4), (.int p5), (.int p6)] maxLocals)) t := fun t k => castTop (ef_0_7 m p1 p2 p3 p4 p5 p6) k
  obtain ⟨T1, h1, k1, X1, e1, E1, A1, B1, st1⟩ := newPE X0 hx hZ (hw _ (List.mem_of_getElem? (i := 1) rfl)) e0 (g := (mkF m 10 #[.val (.int p1), .val (.int p2), .val (.int p3), .val (.int p4), .val (.int p5), .val (.int p6), .val (.int (3 : Int32)), .unset, .unset, .unset] [(.int (3 : Int32))])) rfl (hb hby at_10) rfl (by decide) (cap := 3) (by decide) (by decide) (by decide) (by decide) (ad := "[B") (by decide)
  obtain ⟨b1, g1⟩ : ∃ z, z = h0.size := ⟨_, rfl⟩
  rw [← g1] at A1 B1 st1
  have g_b1 : n0 ≤ b1 := by rw [g1]; exact O0.1 ▸ O0.2.1
  have O1 := O0.ext E1
  have fv1 : Arv Z h1 b1 k1 .byte (3 : Int32) [(.int (0 : Int32)), (.int (0 : Int32)), (.int (0 : Int32))] (.int (0 : Int32)) := (Arv.new A1 (by decide)).pad (pad_rep [] (.int (0 : Int32)) 3)
  obtain ⟨cl2, Ar2, qk2, Sz2, Nz2, Hs2, Gs2⟩ := id fv1
  have hin2 : ¬ ((0 : Int32) < 0 ∨ cl2.slots.size ≤ ((0 : Int32)).toNatClampNeg) := inb_of Sz2 ⟨by decide, by decide⟩
  obtain ⟨T3, h3, X3, e3, W3, st3⟩ := stB X1 hx hZ e1 Ar2 (j := (0 : Int32)) hin2  (g := (mkF m 24 #[.val (.int p1), .val (.int p2), .val (.int p3), .val (.int p4), .val (.int p5), .val (.int p6), .val (.int (3 : Int32)), .val (.ref b1), .unset, .unset] [(.int (p2.toInt8.toInt32)), (.int (0 : Int32)), (.ref b1)])) rfl rfl (hb hby at_24)
  rw [show nar .byte (p2.toInt8.toInt32) = (p2.toInt8.toInt32) from own_byte _] at W3
  have fw3 : Arv Z h3 b1 k1 .byte (3 : Int32) [(.int (p2.toInt8.toInt32)), (.int (0 : Int32)), (.int (0 : Int32))] (.int (0 : Int32)) := Arv.set Ar2 qk2 Sz2 Nz2 Hs2 Gs2 (fits_nar_byte _) W3 0 rfl (Nat.le_of_ble_eq_true rfl)
  have f3_0 : Exa Z h3 b1 "[B" := (B1).wr W3
  have O3 := O1.wr W3 g_b1
  have N3 := Fr.snoc X3 N0 g_b1
  obtain ⟨cl4, Ar4, qk4, Sz4, Nz4, Hs4, Gs4⟩ := id fw3
  have hin4 : ¬ ((1 : Int32) < 0 ∨ cl4.slots.size ≤ ((1 : Int32)).toNatClampNeg) := inb_of Sz4 ⟨by decide, by decide⟩
  obtain ⟨T5, h5, X5, e5, W5, st5⟩ := stB X3 hx hZ e3 Ar4 (j := (1 : Int32)) hin4  (g := (mkF m 36 #[.val (.int p1), .val (.int p2), .val (.int p3), .val (.int p4), .val (.int p5), .val (.int p6), .val (.int (3 : Int32)), .val (.ref b1), .unset, .unset] [(.int (p3.toInt8.toInt32)), (.int (1 : Int32)), (.ref b1)])) rfl rfl (hb hby at_36)
  rw [show nar .byte (p3.toInt8.toInt32) = (p3.toInt8.toInt32) from own_byte _] at W5
  have fw5 : Arv Z h5 b1 k1 .byte (3 : Int32) [(.int (p2.toInt8.toInt32)), (.int (p3.toInt8.toInt32)), (.int (0 : Int32))] (.int (0 : Int32)) := Arv.set Ar4 qk4 Sz4 Nz4 Hs4 Gs4 (fits_nar_byte _) W5 1 rfl (Nat.le_of_ble_eq_true rfl)
  have f5_0 : Exa Z h5 b1 "[B" := (f3_0).wr W5
  have O5 := O3.wr W5 g_b1
  have N5 := Fr.snoc X5 N3 g_b1
  obtain ⟨cl6, Ar6, qk6, Sz6, Nz6, Hs6, Gs6⟩ := id fw5
  have hin6 : ¬ ((2 : Int32) < 0 ∨ cl6.slots.size ≤ ((2 : Int32)).toNatClampNeg) := inb_of Sz6 ⟨by decide, by decide⟩
  obtain ⟨T7, h7, X7, e7, W7, st7⟩ := stB X5 hx hZ e5 Ar6 (j := (2 : Int32)) hin6  (g := (mkF m 48 #[.val (.int p1), .val (.int p2), .val (.int p3), .val (.int p4), .val (.int p5), .val (.int p6), .val (.int (3 : Int32)), .val (.ref b1), .unset, .unset] [(.int (p4.toInt8.toInt32)), (.int (2 : Int32)), (.ref b1)])) rfl rfl (hb hby at_48)
  rw [show nar .byte (p4.toInt8.toInt32) = (p4.toInt8.toInt32) from own_byte _] at W7
  have fw7 : Arv Z h7 b1 k1 .byte (3 : Int32) [(.int (p2.toInt8.toInt32)), (.int (p3.toInt8.toInt32)), (.int (p4.toInt8.toInt32))] (.int (0 : Int32)) := Arv.set Ar6 qk6 Sz6 Nz6 Hs6 Gs6 (fits_nar_byte _) W7 2 rfl (Nat.le_of_ble_eq_true rfl)
  have f7_0 : Exa Z h7 b1 "[B" := (f5_0).wr W7
  have O7 := O5.wr W7 g_b1
  have N7 := Fr.snoc X7 N5 g_b1
  obtain ⟨_, _, ⟨T8, L8, k8, n8⟩, -, X8, ⟨Lc8, hQ8, l8, y8, z8⟩, st8⟩ := Jvm.LawKit.callS X7 hx (y := (⟨"com/example/keyfold/keyfold/core/Value", "ofBinary", "([B)Lcom/example/keyfold/keyfold/core/Value;"⟩ : MethodName)) hown (mvT hZ (hw _ (List.mem_of_getElem? (i := 2) rfl))) (mvT hZ (hw _ (List.mem_of_getElem? (i := 3) rfl))) (mvT hZ (hw _ (List.mem_of_getElem? (i := 4) rfl))) (mvT hZ (hw _ (List.mem_of_getElem? (i := 5) rfl))) (by decide) (backOf (W := 0) (rm1_3 l Z a0 hw [] W b1 k1 (p2.toInt8.toInt32) (p3.toInt8.toInt32) (p4.toInt8.toInt32) h7 n0 O7 g_b1 f7_0 fw7) hZ (hw _ (List.mem_of_getElem? (i := 5) rfl)) (hw _ (List.mem_of_getElem? (i := 4) rfl)) (by decide) (by decide)) (g := (mkF m 64 #[.val (.int p1), .val (.int p2), .val (.int p3), .val (.int p4), .val (.int p5), .val (.int p6), .val (.int (3 : Int32)), .val (.ref b1), .unset, .unset] [(.ref b1)])) rfl (by rw [hml]; rfl) (argsL := [(.ref b1)]) (rest := []) (lenOf pd_3 rfl) rfl (by show 2 * 0 + _ ≤ _; exact Nat.le_of_eq rfl) (hb hby at_64) (fun _ _ => ⟨rfl, e7, (by decide : 1 + 2 ≤ _), (by decide : 3 + 5 ≤ _)⟩)
  dsimp only [Pt.U, Pt.locs, Pt.cells, Pt.slots] at X8 l8 y8 z8 st8 hQ8
  subst l8 y8 z8
  obtain ⟨N8q, hP8⟩ := hQ8
  have N8 := Fr.app N7 N8q
  obtain ⟨b8_b1, b8_b3, rfl, Kp8, g_b8_b1, si_b8_b1, g_b8_b3, si_b8_b3, fp8_0, fp8_1, fp8_2, fp8_3, fp8_4⟩ := hP8
  have f8_0 : Exa Z T8.heap b1 "[B" := (f7_0).keep Kp8
  have f8_1 : Arv Z T8.heap b1 k1 .byte (3 : Int32) [(.int (p2.toInt8.toInt32)), (.int (p3.toInt8.toInt32)), (.int (p4.toInt8.toInt32))] (.int (0 : Int32)) := (fw7).keep Kp8 nin0
  have O8 := O7.keep Kp8 all0
  obtain ⟨cl9, Ar9, qk9, Sz9, Nz9, Hs9, Gs9⟩ := id f8_1
  have hin9 : ¬ ((2 : Int32) < 0 ∨ cl9.slots.size ≤ ((2 : Int32)).toNatClampNeg) := inb_of Sz9 ⟨by decide, by decide⟩
  have hat9 : cl9.slots[((2 : Int32)).toNatClampNeg]? = some (.int (p4.toInt8.toInt32)) := Has.at Hs9 hin9 rfl
  obtain ⟨cl10, Ar10, qk10, Sz10, Nz10, Hs10, Gs10⟩ := id f8_1
  have hin10 : ¬ ((2 : Int32) < 0 ∨ cl10.slots.size ≤ ((2 : Int32)).toNatClampNeg) := inb_of Sz10 ⟨by decide, by decide⟩
  obtain ⟨T11, h11, X11, e11, W11, st11⟩ := stB X8 hx hZ rfl Ar10 (j := (2 : Int32)) hin10  (g := (mkF m 96 #[.val (.int p1), .val (.int p2), .val (.int p3), .val (.int p4), .val (.int p5), .val (.int p6), .val (.int (3 : Int32)), .val (.ref b1), .val (.ref b8_b1), .val (.int (2 : Int32))] [(.int (((p4.toInt8.toInt32) ^^^ (-1 : Int32)).toInt8.toInt32)), (.int (2 : Int32)), (.ref b1)])) rfl rfl (hb hby at_96)
  rw [show nar .byte (((p4.toInt8.toInt32) ^^^ (-1 : Int32)).toInt8.toInt32) = (((p4.toInt8.toInt32) ^^^ (-1 : Int32)).toInt8.toInt32) from own_byte _] at W11
  have fw11 : Arv Z h11 b1 k1 .byte (3 : Int32) [(.int (p2.toInt8.toInt32)), (.int (p3.toInt8.toInt32)), (.int (((p4.toInt8.toInt32) ^^^ (-1 : Int32)).toInt8.toInt32))] (.int (0 : Int32)) := Arv.set Ar10 qk10 Sz10 Nz10 Hs10 Gs10 (fits_nar_byte _) W11 2 rfl (Nat.le_of_ble_eq_true rfl)
  have f11_0 : Exa Z h11 b1 "[B" := (f8_0).wr W11
  have f11_1 : Exa Z h11 b8_b1 "com/example/keyfold/keyfold/core/Value" := (fp8_0).wr W11
  have f11_2 : Fld Z h11 b8_b1 "com/example/keyfold/keyfold/core/Value" "type" "Lcom/example/keyfold/keyfold/core/ValueType;" (.ref w_n1) := (fp8_1).other W11 (Or.inl (ne_exa fp8_0 f8_0 (by decide)))
  have f11_3 : Fld Z h11 b8_b1 "com/example/keyfold/keyfold/core/Value" "content" "Ljava/lang/Object;" (.ref b8_b3) := (fp8_2).other W11 (Or.inl (ne_exa fp8_0 f8_0 (by decide)))
  have f11_4 : Exa Z h11 b8_b3 "[B" := (fp8_3).wr W11
  have f11_5 : Arv Z h11 b8_b3 k1 .byte (3 : Int32) [(.int (p2.toInt8.toInt32)), (.int (p3.toInt8.toInt32)), (.int (p4.toInt8.toInt32))] (.int (0 : Int32)) := (fp8_4).other W11 (Ne.symm (Nat.ne_of_lt (Nat.lt_of_lt_of_le (f7_0).lt si_b8_b3)))
  have O11 := O8.wr W11 g_b1
  have N11 := Fr.snoc X11 N8 g_b1
  obtain ⟨cq12, kq12, q12a, q12b, q12c⟩ := isOf hZ e11 f11_1
  obtain ⟨_, _, ⟨T12, L12, k12, n12⟩, -, X12, ⟨Lc12, hQ12, l12, y12, z12⟩, st12⟩ := X11.virtualBack hx (y := (⟨"com/example/keyfold/keyfold/core/Value", "type", "()Lcom/example/keyfold/keyfold/core/ValueType;"⟩ : MethodName)) (z := (⟨"com/example/keyfold/keyfold/core/Value", "type", "()Lcom/example/keyfold/keyfold/core/ValueType;"⟩ : MethodName)) hown (mvT hZ (hw _ (List.mem_of_getElem? (i := 28) rfl))) (mvT hZ (hw _ (List.mem_of_getElem? (i := 29) rfl))) (notFace_of_selects (args := #[]) (mvT hZ (hw _ (List.mem_of_getElem? (i := 31) rfl)))) (mvT hZ (hw _ (List.mem_of_getElem? (i := 31) rfl))) (mvT hZ (hw _ (List.mem_of_getElem? (i := 30) rfl))) (by decide) (backOf (W := 0) (rm4 l Z a0 hw [] W b8_b1 h11 n0 O11 f11_2) hZ (hw _ (List.mem_of_getElem? (i := 32) rfl)) (hw _ (List.mem_of_getElem? (i := 4) rfl)) (by decide) (by decide)) q12a q12c (g := (mkF m 99 #[.val (.int p1), .val (.int p2), .val (.int p3), .val (.int p4), .val (.int p5), .val (.int p6), .val (.int (3 : Int32)), .val (.ref b1), .val (.ref b8_b1), .val (.int (2 : Int32))] [(.ref b8_b1)])) rfl (by rw [hml]; rfl) (Steps.refl _) (argsL := []) (rest := []) (lenOf pd_4 rfl) rfl (by show 2 * 0 + _ ≤ _; exact Nat.le_of_eq rfl) (hb hby at_99) (fun _ _ => ⟨rfl, e11, (by decide : 3 + 0 ≤ _), (by decide : 8 + 0 ≤ _)⟩)
  dsimp only [Pt.U, Pt.locs, Pt.cells, Pt.slots] at X12 l12 y12 z12 st12 hQ12
  subst l12 y12 z12
  obtain ⟨rfl, N12q, e12⟩ := hQ12
  have N12 := Fr.app N11 N12q
  obtain ⟨T13, X13, e13, st13⟩ := getS2 X12 hx hZ hown (host := "") (Or.inl (hw _ (List.mem_of_getElem? (i := 33) rfl))) Via.refl e12 (S_n1.ext O11.2) (g := (mkF m 102 #[.val (.int p1), .val (.int p2), .val (.int p3), .val (.int p4), .val (.int p5), .val (.int p6), .val (.int (3 : Int32)), .val (.ref b1), .val (.ref b8_b1), .val (.int (2 : Int32))] [(.ref w_n1)])) rfl (hb hby at_102)
  obtain ⟨cq14, kq14, q14a, q14b, q14c⟩ := isOf hZ e13 f11_1
  obtain ⟨_, _, ⟨T14, L14, k14, n14⟩, -, X14, ⟨Lc14, hQ14, l14, y14, z14⟩, st14⟩ := X13.virtualBack hx (y := (⟨"com/example/keyfold/keyfold/core/Value", "size", "()I"⟩ : MethodName)) (z := (⟨"com/example/keyfold/keyfold/core/Value", "size", "()I"⟩ : MethodName)) hown (mvT hZ (hw _ (List.mem_of_getElem? (i := 34) rfl))) (mvT hZ (hw _ (List.mem_of_getElem? (i := 35) rfl))) (notFace_of_selects (args := #[]) (mvT hZ (hw _ (List.mem_of_getElem? (i := 37) rfl)))) (mvT hZ (hw _ (List.mem_of_getElem? (i := 37) rfl))) (mvT hZ (hw _ (List.mem_of_getElem? (i := 36) rfl))) (by decide) (backOf (W := 0) (rm7_3 l Z a0 hw [] W b8_b1 b8_b3 k1 (p2.toInt8.toInt32) (p3.toInt8.toInt32) (p4.toInt8.toInt32) h11 n0 O11 g_b8_b1 f11_1 f11_2 f11_3 g_b8_b3 f11_4 f11_5) hZ (hw _ (List.mem_of_getElem? (i := 38) rfl)) (hw _ (List.mem_of_getElem? (i := 4) rfl)) (by decide) (by decide)) q14a q14c (g := (mkF m 112 #[.val (.int p1), .val (.int p2), .val (.int p3), .val (.int p4), .val (.int p5), .val (.int p6), .val (.int (3 : Int32)), .val (.ref b1), .val (.ref b8_b1), .val (.int (2 : Int32))] [(.ref b8_b1)])) rfl (by rw [hml]; rfl) (Steps.refl _) (argsL := []) (rest := []) (lenOf pd_1 rfl) rfl (by show 2 * 0 + _ ≤ _; exact Nat.le_of_eq rfl) (hb hby at_112) (fun _ _ => ⟨rfl, e13, (by decide : 3 + 0 ≤ _), (by decide : 8 + 0 ≤ _)⟩)
  dsimp only [Pt.U, Pt.locs, Pt.cells, Pt.slots] at X14 l14 y14 z14 st14 hQ14
  subst l14 y14 z14
  obtain ⟨rfl, N14q, e14⟩ := hQ14
  have N14 := Fr.app N12 N14q
  obtain ⟨cq15, kq15, q15a, q15b, q15c⟩ := isOf hZ e14 f11_1
  obtain ⟨_, _, ⟨T15, L15, k15, n15⟩, -, X15, ⟨Lc15, hQ15, l15, y15, z15⟩, st15⟩ := X14.virtualBack hx (y := (⟨"com/example/keyfold/keyfold/core/Value", "asBinary", "()[B"⟩ : MethodName)) (z := (⟨"com/example/keyfold/keyfold/core/Value", "asBinary", "()[B"⟩ : MethodName)) hown (mvT hZ (hw _ (List.mem_of_getElem? (i := 53) rfl))) (mvT hZ (hw _ (List.mem_of_getElem? (i := 54) rfl))) (notFace_of_selects (args := #[]) (mvT hZ (hw _ (List.mem_of_getElem? (i := 56) rfl)))) (mvT hZ (hw _ (List.mem_of_getElem? (i := 56) rfl))) (mvT hZ (hw _ (List.mem_of_getElem? (i := 55) rfl))) (by decide) (backOf (W := 0) (rm5_3 l Z a0 hw [] W b8_b1 b8_b3 k1 (p2.toInt8.toInt32) (p3.toInt8.toInt32) (p4.toInt8.toInt32) h11 n0 O11 g_b8_b1 f11_1 f11_2 f11_3 g_b8_b3 f11_4 f11_5) hZ (hw _ (List.mem_of_getElem? (i := 57) rfl)) (hw _ (List.mem_of_getElem? (i := 4) rfl)) (by decide) (by decide)) q15a q15c (g := (mkF m 124 #[.val (.int p1), .val (.int p2), .val (.int p3), .val (.int p4), .val (.int p5), .val (.int p6), .val (.int (3 : Int32)), .val (.ref b1), .val (.ref b8_b1), .val (.int (2 : Int32))] [(.ref b8_b1)])) rfl (by rw [hml]; rfl) (Steps.refl _) (argsL := []) (rest := []) (lenOf pd_5 rfl) rfl (by show 2 * 0 + _ ≤ _; exact Nat.le_of_eq rfl) (hb hby at_124) (fun _ _ => ⟨rfl, e14, (by decide : 3 + 1 ≤ _), (by decide : 8 + 3 ≤ _)⟩)
  dsimp only [Pt.U, Pt.locs, Pt.cells, Pt.slots] at X15 l15 y15 z15 st15 hQ15
  subst l15 y15 z15
  obtain ⟨N15q, hP15⟩ := hQ15
  have N15 := Fr.app N14 N15q
  obtain ⟨b15_b4, rfl, Kp15, g_b15_b4, si_b15_b4, fp15_0, fp15_1⟩ := hP15
  have f15_0 : Exa Z T15.heap b1 "[B" := (f11_0).keep Kp15
  have f15_1 : Exa Z T15.heap b8_b1 "com/example/keyfold/keyfold/core/Value" := (f11_1).keep Kp15
  have f15_2 : Fld Z T15.heap b8_b1 "com/example/keyfold/keyfold/core/Value" "type" "Lcom/example/keyfold/keyfold/core/ValueType;" (.ref w_n1) := (f11_2).keep Kp15 nin0
  have f15_3 : Fld Z T15.heap b8_b1 "com/example/keyfold/keyfold/core/Value" "content" "Ljava/lang/Object;" (.ref b8_b3) := (f11_3).keep Kp15 nin0
  have f15_4 : Exa Z T15.heap b8_b3 "[B" := (f11_4).keep Kp15
  have f15_5 : Arv Z T15.heap b8_b3 k1 .byte (3 : Int32) [(.int (p2.toInt8.toInt32)), (.int (p3.toInt8.toInt32)), (.int (p4.toInt8.toInt32))] (.int (0 : Int32)) := (f11_5).keep Kp15 nin0
  have f15_6 : Arv Z T15.heap b1 k1 .byte (3 : Int32) [(.int (p2.toInt8.toInt32)), (.int (p3.toInt8.toInt32)), (.int (((p4.toInt8.toInt32) ^^^ (-1 : Int32)).toInt8.toInt32))] (.int (0 : Int32)) := (fw11).keep Kp15 nin0
  have O15 := O11.keep Kp15 all0
  obtain ⟨cl16, Ar16, qk16, Sz16, Nz16, Hs16, Gs16⟩ := id fp15_1
  obtain ⟨cl17, Ar17, qk17, Sz17, Nz17, Hs17, Gs17⟩ := id fp15_1
  have hin17 : ¬ ((0 : Int32) < 0 ∨ cl17.slots.size ≤ ((0 : Int32)).toNatClampNeg) := inb_of Sz17 ⟨by decide, by decide⟩
  have hat17 : cl17.slots[((0 : Int32)).toNatClampNeg]? = some (.int (p2.toInt8.toInt32)) := Has.at Hs17 hin17 rfl
  obtain ⟨cl18, Ar18, qk18, Sz18, Nz18, Hs18, Gs18⟩ := id fp15_1
  have hin18 : ¬ ((1 : Int32) < 0 ∨ cl18.slots.size ≤ ((1 : Int32)).toNatClampNeg) := inb_of Sz18 ⟨by decide, by decide⟩
  have hat18 : cl18.slots[((1 : Int32)).toNatClampNeg]? = some (.int (p3.toInt8.toInt32)) := Has.at Hs18 hin18 rfl
  obtain ⟨cl19, Ar19, qk19, Sz19, Nz19, Hs19, Gs19⟩ := id fp15_1
  have hin19 : ¬ ((2 : Int32) < 0 ∨ cl19.slots.size ≤ ((2 : Int32)).toNatClampNeg) := inb_of Sz19 ⟨by decide, by decide⟩
  have hat19 : cl19.slots[((2 : Int32)).toNatClampNeg]? = some (.int (p4.toInt8.toInt32)) := Has.at Hs19 hin19 rfl
  obtain ⟨fs, hr, hrun, hended, hW, hsame⟩ := X15.leave (v := some (.int (1 : Int32))) (fun h => by rw [Bd.returns] at h; cases h)
  refine ⟨_, _, pre0 _ ?_, hrun, hended, _, _, rfl, ?_, ⟨_, rfl⟩, hW, hsame.mono (by decide) (by decide)⟩
  · show Steps p.tables e below (s₁.setTop (mkF m 0 #[.val (.int p1), .val (.int p2), .val (.int p3), .val (.int p4), .val (.int p5), .val (.int p6), .unset, .unset, .unset, .unset] [])) _
    refine XS.iloadN X0.here hx rfl (hb hby at_0) rfl ?_
    show Steps p.tables e below (s₁.setTop (mkF m 1 #[.val (.int p1), .val (.int p2), .val (.int p3), .val (.int p4), .val (.int p5), .val (.int p6), .unset, .unset, .unset, .unset] [(.int p1)])) _
    refine X0.ldcInt hx hown (mvT hZ (hw _ (List.mem_of_getElem? (i := 0) rfl))) (g := (mkF m 1 #[.val (.int p1), .val (.int p2), .val (.int p3), .val (.int p4), .val (.int p5), .val (.int p6), .unset, .unset, .unset, .unset] [(.int p1)])) rfl (hb hby at_1) _ ?_
    show Steps p.tables e below (s₁.setTop (mkF m 3 #[.val (.int p1), .val (.int p2), .val (.int p3), .val (.int p4), .val (.int p5), .val (.int p6), .unset, .unset, .unset, .unset] [(.int (2147483647 : Int32)), (.int p1)])) _
    refine XS.iand X0.here hx rfl (hb hby at_3) rfl ?_
    show Steps p.tables e below (s₁.setTop (mkF m 4 #[.val (.int p1), .val (.int p2), .val (.int p3), .val (.int p4), .val (.int p5), .val (.int p6), .unset, .unset, .unset, .unset] [(.int (p1 &&& (2147483647 : Int32)))])) _
    refine XS.iconst X0.here hx rfl (hb hby at_4) ?_
    show Steps p.tables e below (s₁.setTop (mkF m 5 #[.val (.int p1), .val (.int p2), .val (.int p3), .val (.int p4), .val (.int p5), .val (.int p6), .unset, .unset, .unset, .unset] [(.int (5 : Int32)), (.int (p1 &&& (2147483647 : Int32)))])) _
    refine iremM X0 hx rfl (hb hby at_5) rfl (by decide) ?_
    show Steps p.tables e below (s₁.setTop (mkF m 6 #[.val (.int p1), .val (.int p2), .val (.int p3), .val (.int p4), .val (.int p5), .val (.int p6), .unset, .unset, .unset, .unset] [(.int ((p1 &&& (2147483647 : Int32)) % (5 : Int32)))])) _
    rw [hk]
    show Steps p.tables e below (s₁.setTop (mkF m 6 #[.val (.int p1), .val (.int p2), .val (.int p3), .val (.int p4), .val (.int p5), .val (.int p6), .unset, .unset, .unset, .unset] [(.int (3 : Int32))])) _
    refine XS.istore X0.here hx rfl (hb hby at_6) rfl (l' := #[.val (.int p1), .val (.int p2), .val (.int p3), .val (.int p4), .val (.int p5), .val (.int p6), .val (.int (3 : Int32)), .unset, .unset, .unset]) rfl ?_
    show Steps p.tables e below (s₁.setTop (mkF m 8 #[.val (.int p1), .val (.int p2), .val (.int p3), .val (.int p4), .val (.int p5), .val (.int p6), .val (.int (3 : Int32)), .unset, .unset, .unset] [])) _
    refine XS.iload X0.here hx rfl (hb hby at_8) rfl ?_
    show Steps p.tables e below (s₁.setTop (mkF m 10 #[.val (.int p1), .val (.int p2), .val (.int p3), .val (.int p4), .val (.int p5), .val (.int p6), .val (.int (3 : Int32)), .unset, .unset, .unset] [(.int (3 : Int32))])) _
    refine st1 _ ?_
    show Steps p.tables e below (T1.setTop (mkF m 12 #[.val (.int p1), .val (.int p2), .val (.int p3), .val (.int p4), .val (.int p5), .val (.int p6), .val (.int (3 : Int32)), .unset, .unset, .unset] [(.ref b1)])) _
    refine XS.astore X1.here hx rfl (hb hby at_12) rfl rfl (l' := #[.val (.int p1), .val (.int p2), .val (.int p3), .val (.int p4), .val (.int p5), .val (.int p6), .val (.int (3 : Int32)), .val (.ref b1), .unset, .unset]) rfl ?_
    show Steps p.tables e below (T1.setTop (mkF m 14 #[.val (.int p1), .val (.int p2), .val (.int p3), .val (.int p4), .val (.int p5), .val (.int p6), .val (.int (3 : Int32)), .val (.ref b1), .unset, .unset] [])) _
    refine XS.iload X1.here hx rfl (hb hby at_14) rfl ?_
    show Steps p.tables e below (T1.setTop (mkF m 16 #[.val (.int p1), .val (.int p2), .val (.int p3), .val (.int p4), .val (.int p5), .val (.int p6), .val (.int (3 : Int32)), .val (.ref b1), .unset, .unset] [(.int (3 : Int32))])) _
    refine XS.ifNo X1.here hx rfl (hb hby at_16) rfl ((if0 _ _).trans (tlt ((by decide) : (0 : Int32) < (3 : Int32))).2.2.2) ?_
    show Steps p.tables e below (T1.setTop (mkF m 19 #[.val (.int p1), .val (.int p2), .val (.int p3), .val (.int p4), .val (.int p5), .val (.int p6), .val (.int (3 : Int32)), .val (.ref b1), .unset, .unset] [])) _
    refine XS.aload X1.here hx rfl (hb hby at_19) rfl rfl ?_
    show Steps p.tables e below (T1.setTop (mkF m 21 #[.val (.int p1), .val (.int p2), .val (.int p3), .val (.int p4), .val (.int p5), .val (.int p6), .val (.int (3 : Int32)), .val (.ref b1), .unset, .unset] [(.ref b1)])) _
    refine XS.iconst X1.here hx rfl (hb hby at_21) ?_
    show Steps p.tables e below (T1.setTop (mkF m 22 #[.val (.int p1), .val (.int p2), .val (.int p3), .val (.int p4), .val (.int p5), .val (.int p6), .val (.int (3 : Int32)), .val (.ref b1), .unset, .unset] [(.int (0 : Int32)), (.ref b1)])) _
    refine XS.iloadN X1.here hx rfl (hb hby at_22) rfl ?_
    show Steps p.tables e below (T1.setTop (mkF m 23 #[.val (.int p1), .val (.int p2), .val (.int p3), .val (.int p4), .val (.int p5), .val (.int p6), .val (.int (3 : Int32)), .val (.ref b1), .unset, .unset] [(.int p2), (.int (0 : Int32)), (.ref b1)])) _
    refine XS.i2b X1.here hx rfl (hb hby at_23) rfl ?_
    show Steps p.tables e below (T1.setTop (mkF m 24 #[.val (.int p1), .val (.int p2), .val (.int p3), .val (.int p4), .val (.int p5), .val (.int p6), .val (.int (3 : Int32)), .val (.ref b1), .unset, .unset] [(.int (p2.toInt8.toInt32)), (.int (0 : Int32)), (.ref b1)])) _
    refine st3 _ ?_
    show Steps p.tables e below (T3.setTop (mkF m 25 #[.val (.int p1), .val (.int p2), .val (.int p3), .val (.int p4), .val (.int p5), .val (.int p6), .val (.int (3 : Int32)), .val (.ref b1), .unset, .unset] [])) _
    refine XS.iload X3.here hx rfl (hb hby at_25) rfl ?_
    show Steps p.tables e below (T3.setTop (mkF m 27 #[.val (.int p1), .val (.int p2), .val (.int p3), .val (.int p4), .val (.int p5), .val (.int p6), .val (.int (3 : Int32)), .val (.ref b1), .unset, .unset] [(.int (3 : Int32))])) _
    refine XS.iconst X3.here hx rfl (hb hby at_27) ?_
    show Steps p.tables e below (T3.setTop (mkF m 28 #[.val (.int p1), .val (.int p2), .val (.int p3), .val (.int p4), .val (.int p5), .val (.int p6), .val (.int (3 : Int32)), .val (.ref b1), .unset, .unset] [(.int (1 : Int32)), (.int (3 : Int32))])) _
    refine XS.icmpNo X3.here hx rfl (hb hby at_28) rfl (tlt ((by decide) : (1 : Int32) < (3 : Int32))).2.2.2 ?_
    show Steps p.tables e below (T3.setTop (mkF m 31 #[.val (.int p1), .val (.int p2), .val (.int p3), .val (.int p4), .val (.int p5), .val (.int p6), .val (.int (3 : Int32)), .val (.ref b1), .unset, .unset] [])) _
    refine XS.aload X3.here hx rfl (hb hby at_31) rfl rfl ?_
    show Steps p.tables e below (T3.setTop (mkF m 33 #[.val (.int p1), .val (.int p2), .val (.int p3), .val (.int p4), .val (.int p5), .val (.int p6), .val (.int (3 : Int32)), .val (.ref b1), .unset, .unset] [(.ref b1)])) _
    refine XS.iconst X3.here hx rfl (hb hby at_33) ?_
    show Steps p.tables e below (T3.setTop (mkF m 34 #[.val (.int p1), .val (.int p2), .val (.int p3), .val (.int p4), .val (.int p5), .val (.int p6), .val (.int (3 : Int32)), .val (.ref b1), .unset, .unset] [(.int (1 : Int32)), (.ref b1)])) _
    refine XS.iloadN X3.here hx rfl (hb hby at_34) rfl ?_
    show Steps p.tables e below (T3.setTop (mkF m 35 #[.val (.int p1), .val (.int p2), .val (.int p3), .val (.int p4), .val (.int p5), .val (.int p6), .val (.int (3 : Int32)), .val (.ref b1), .unset, .unset] [(.int p3), (.int (1 : Int32)), (.ref b1)])) _
    refine XS.i2b X3.here hx rfl (hb hby at_35) rfl ?_
    show Steps p.tables e below (T3.setTop (mkF m 36 #[.val (.int p1), .val (.int p2), .val (.int p3), .val (.int p4), .val (.int p5), .val (.int p6), .val (.int (3 : Int32)), .val (.ref b1), .unset, .unset] [(.int (p3.toInt8.toInt32)), (.int (1 : Int32)), (.ref b1)])) _
    refine st5 _ ?_
    show Steps p.tables e below (T5.setTop (mkF m 37 #[.val (.int p1), .val (.int p2), .val (.int p3), .val (.int p4), .val (.int p5), .val (.int p6), .val (.int (3 : Int32)), .val (.ref b1), .unset, .unset] [])) _
    refine XS.iload X5.here hx rfl (hb hby at_37) rfl ?_
    show Steps p.tables e below (T5.setTop (mkF m 39 #[.val (.int p1), .val (.int p2), .val (.int p3), .val (.int p4), .val (.int p5), .val (.int p6), .val (.int (3 : Int32)), .val (.ref b1), .unset, .unset] [(.int (3 : Int32))])) _
    refine XS.iconst X5.here hx rfl (hb hby at_39) ?_
    show Steps p.tables e below (T5.setTop (mkF m 40 #[.val (.int p1), .val (.int p2), .val (.int p3), .val (.int p4), .val (.int p5), .val (.int p6), .val (.int (3 : Int32)), .val (.ref b1), .unset, .unset] [(.int (2 : Int32)), (.int (3 : Int32))])) _
    refine XS.icmpNo X5.here hx rfl (hb hby at_40) rfl (tlt ((by decide) : (2 : Int32) < (3 : Int32))).2.2.2 ?_
    show Steps p.tables e below (T5.setTop (mkF m 43 #[.val (.int p1), .val (.int p2), .val (.int p3), .val (.int p4), .val (.int p5), .val (.int p6), .val (.int (3 : Int32)), .val (.ref b1), .unset, .unset] [])) _
    refine XS.aload X5.here hx rfl (hb hby at_43) rfl rfl ?_
    show Steps p.tables e below (T5.setTop (mkF m 45 #[.val (.int p1), .val (.int p2), .val (.int p3), .val (.int p4), .val (.int p5), .val (.int p6), .val (.int (3 : Int32)), .val (.ref b1), .unset, .unset] [(.ref b1)])) _
    refine XS.iconst X5.here hx rfl (hb hby at_45) ?_
    show Steps p.tables e below (T5.setTop (mkF m 46 #[.val (.int p1), .val (.int p2), .val (.int p3), .val (.int p4), .val (.int p5), .val (.int p6), .val (.int (3 : Int32)), .val (.ref b1), .unset, .unset] [(.int (2 : Int32)), (.ref b1)])) _
    refine XS.iloadN X5.here hx rfl (hb hby at_46) rfl ?_
    show Steps p.tables e below (T5.setTop (mkF m 47 #[.val (.int p1), .val (.int p2), .val (.int p3), .val (.int p4), .val (.int p5), .val (.int p6), .val (.int (3 : Int32)), .val (.ref b1), .unset, .unset] [(.int p4), (.int (2 : Int32)), (.ref b1)])) _
    refine XS.i2b X5.here hx rfl (hb hby at_47) rfl ?_
    show Steps p.tables e below (T5.setTop (mkF m 48 #[.val (.int p1), .val (.int p2), .val (.int p3), .val (.int p4), .val (.int p5), .val (.int p6), .val (.int (3 : Int32)), .val (.ref b1), .unset, .unset] [(.int (p4.toInt8.toInt32)), (.int (2 : Int32)), (.ref b1)])) _
    refine st7 _ ?_
    show Steps p.tables e below (T7.setTop (mkF m 49 #[.val (.int p1), .val (.int p2), .val (.int p3), .val (.int p4), .val (.int p5), .val (.int p6), .val (.int (3 : Int32)), .val (.ref b1), .unset, .unset] [])) _
    refine XS.iload X7.here hx rfl (hb hby at_49) rfl ?_
    show Steps p.tables e below (T7.setTop (mkF m 51 #[.val (.int p1), .val (.int p2), .val (.int p3), .val (.int p4), .val (.int p5), .val (.int p6), .val (.int (3 : Int32)), .val (.ref b1), .unset, .unset] [(.int (3 : Int32))])) _
    refine XS.iconst X7.here hx rfl (hb hby at_51) ?_
    show Steps p.tables e below (T7.setTop (mkF m 52 #[.val (.int p1), .val (.int p2), .val (.int p3), .val (.int p4), .val (.int p5), .val (.int p6), .val (.int (3 : Int32)), .val (.ref b1), .unset, .unset] [(.int (3 : Int32)), (.int (3 : Int32))])) _
    refine XS.icmpYes X7.here hx rfl (pc0 := 52) (pc' := 62) rfl (hb hby at_52) rfl (flt ((by decide) : ¬ ((3 : Int32) < (3 : Int32)))).2.2.2 (by decide) (by decide) ?_
    show Steps p.tables e below (T7.setTop (mkF m 62 #[.val (.int p1), .val (.int p2), .val (.int p3), .val (.int p4), .val (.int p5), .val (.int p6), .val (.int (3 : Int32)), .val (.ref b1), .unset, .unset] [])) _
    refine XS.aload X7.here hx rfl (hb hby at_62) rfl rfl ?_
    show Steps p.tables e below (T7.setTop (mkF m 64 #[.val (.int p1), .val (.int p2), .val (.int p3), .val (.int p4), .val (.int p5), .val (.int p6), .val (.int (3 : Int32)), .val (.ref b1), .unset, .unset] [(.ref b1)])) _
    refine st8 _ ?_
    show Steps p.tables e below (T8.setTop (mkF m 67 #[.val (.int p1), .val (.int p2), .val (.int p3), .val (.int p4), .val (.int p5), .val (.int p6), .val (.int (3 : Int32)), .val (.ref b1), .unset, .unset] [(.ref b8_b1)])) _
    refine XS.astore X8.here hx rfl (hb hby at_67) rfl rfl (l' := #[.val (.int p1), .val (.int p2), .val (.int p3), .val (.int p4), .val (.int p5), .val (.int p6), .val (.int (3 : Int32)), .val (.ref b1), .val (.ref b8_b1), .unset]) rfl ?_
    show Steps p.tables e below (T8.setTop (mkF m 69 #[.val (.int p1), .val (.int p2), .val (.int p3), .val (.int p4), .val (.int p5), .val (.int p6), .val (.int (3 : Int32)), .val (.ref b1), .val (.ref b8_b1), .unset] [])) _
    refine XS.iload X8.here hx rfl (hb hby at_69) rfl ?_
    show Steps p.tables e below (T8.setTop (mkF m 71 #[.val (.int p1), .val (.int p2), .val (.int p3), .val (.int p4), .val (.int p5), .val (.int p6), .val (.int (3 : Int32)), .val (.ref b1), .val (.ref b8_b1), .unset] [(.int (3 : Int32))])) _
    refine XS.ifNo X8.here hx rfl (hb hby at_71) rfl ((if0 _ _).trans (tlt ((by decide) : (0 : Int32) < (3 : Int32))).2.2.2) ?_
    show Steps p.tables e below (T8.setTop (mkF m 74 #[.val (.int p1), .val (.int p2), .val (.int p3), .val (.int p4), .val (.int p5), .val (.int p6), .val (.int (3 : Int32)), .val (.ref b1), .val (.ref b8_b1), .unset] [])) _
    refine XS.iload X8.here hx rfl (hb hby at_74) rfl ?_
    show Steps p.tables e below (T8.setTop (mkF m 76 #[.val (.int p1), .val (.int p2), .val (.int p3), .val (.int p4), .val (.int p5), .val (.int p6), .val (.int (3 : Int32)), .val (.ref b1), .val (.ref b8_b1), .unset] [(.int p6)])) _
    refine X8.ldcInt hx hown (mvT hZ (hw _ (List.mem_of_getElem? (i := 0) rfl))) (g := (mkF m 76 #[.val (.int p1), .val (.int p2), .val (.int p3), .val (.int p4), .val (.int p5), .val (.int p6), .val (.int (3 : Int32)), .val (.ref b1), .val (.ref b8_b1), .unset] [(.int p6)])) rfl (hb hby at_76) _ ?_
    show Steps p.tables e below (T8.setTop (mkF m 78 #[.val (.int p1), .val (.int p2), .val (.int p3), .val (.int p4), .val (.int p5), .val (.int p6), .val (.int (3 : Int32)), .val (.ref b1), .val (.ref b8_b1), .unset] [(.int (2147483647 : Int32)), (.int p6)])) _
    refine XS.iand X8.here hx rfl (hb hby at_78) rfl ?_
    show Steps p.tables e below (T8.setTop (mkF m 79 #[.val (.int p1), .val (.int p2), .val (.int p3), .val (.int p4), .val (.int p5), .val (.int p6), .val (.int (3 : Int32)), .val (.ref b1), .val (.ref b8_b1), .unset] [(.int (p6 &&& (2147483647 : Int32)))])) _
    refine XS.iload X8.here hx rfl (hb hby at_79) rfl ?_
    show Steps p.tables e below (T8.setTop (mkF m 81 #[.val (.int p1), .val (.int p2), .val (.int p3), .val (.int p4), .val (.int p5), .val (.int p6), .val (.int (3 : Int32)), .val (.ref b1), .val (.ref b8_b1), .unset] [(.int (3 : Int32)), (.int (p6 &&& (2147483647 : Int32)))])) _
    refine iremM X8 hx rfl (hb hby at_81) rfl (by decide) ?_
    show Steps p.tables e below (T8.setTop (mkF m 82 #[.val (.int p1), .val (.int p2), .val (.int p3), .val (.int p4), .val (.int p5), .val (.int p6), .val (.int (3 : Int32)), .val (.ref b1), .val (.ref b8_b1), .unset] [(.int ((p6 &&& (2147483647 : Int32)) % (3 : Int32)))])) _
    rw [hi]
    show Steps p.tables e below (T8.setTop (mkF m 82 #[.val (.int p1), .val (.int p2), .val (.int p3), .val (.int p4), .val (.int p5), .val (.int p6), .val (.int (3 : Int32)), .val (.ref b1), .val (.ref b8_b1), .unset] [(.int (2 : Int32))])) _
    refine XS.istore X8.here hx rfl (hb hby at_82) rfl (l' := #[.val (.int p1), .val (.int p2), .val (.int p3), .val (.int p4), .val (.int p5), .val (.int p6), .val (.int (3 : Int32)), .val (.ref b1), .val (.ref b8_b1), .val (.int (2 : Int32))]) rfl ?_
    show Steps p.tables e below (T8.setTop (mkF m 84 #[.val (.int p1), .val (.int p2), .val (.int p3), .val (.int p4), .val (.int p5), .val (.int p6), .val (.int (3 : Int32)), .val (.ref b1), .val (.ref b8_b1), .val (.int (2 : Int32))] [])) _
    refine XS.aload X8.here hx rfl (hb hby at_84) rfl rfl ?_
    show Steps p.tables e below (T8.setTop (mkF m 86 #[.val (.int p1), .val (.int p2), .val (.int p3), .val (.int p4), .val (.int p5), .val (.int p6), .val (.int (3 : Int32)), .val (.ref b1), .val (.ref b8_b1), .val (.int (2 : Int32))] [(.ref b1)])) _
    refine XS.iload X8.here hx rfl (hb hby at_86) rfl ?_
    show Steps p.tables e below (T8.setTop (mkF m 88 #[.val (.int p1), .val (.int p2), .val (.int p3), .val (.int p4), .val (.int p5), .val (.int p6), .val (.int (3 : Int32)), .val (.ref b1), .val (.ref b8_b1), .val (.int (2 : Int32))] [(.int (2 : Int32)), (.ref b1)])) _
    refine XS.aload X8.here hx rfl (hb hby at_88) rfl rfl ?_
    show Steps p.tables e below (T8.setTop (mkF m 90 #[.val (.int p1), .val (.int p2), .val (.int p3), .val (.int p4), .val (.int p5), .val (.int p6), .val (.int (3 : Int32)), .val (.ref b1), .val (.ref b8_b1), .val (.int (2 : Int32))] [(.ref b1), (.int (2 : Int32)), (.ref b1)])) _
    refine XS.iload X8.here hx rfl (hb hby at_90) rfl ?_
    show Steps p.tables e below (T8.setTop (mkF m 92 #[.val (.int p1), .val (.int p2), .val (.int p3), .val (.int p4), .val (.int p5), .val (.int p6), .val (.int (3 : Int32)), .val (.ref b1), .val (.ref b8_b1), .val (.int (2 : Int32))] [(.int (2 : Int32)), (.ref b1), (.int (2 : Int32)), (.ref b1)])) _
    refine X8.baloadBytes hx (j := (2 : Int32)) (v := (.int (p4.toInt8.toInt32))) Ar9.1 (State.isArrayOf_alike hZ.alike Ar9.2.1) Ar9.2.2 hin9 hat9 (g := (mkF m 92 #[.val (.int p1), .val (.int p2), .val (.int p3), .val (.int p4), .val (.int p5), .val (.int p6), .val (.int (3 : Int32)), .val (.ref b1), .val (.ref b8_b1), .val (.int (2 : Int32))] [(.int (2 : Int32)), (.ref b1), (.int (2 : Int32)), (.ref b1)])) rfl rfl (hb hby at_92) _ ?_
    show Steps p.tables e below (T8.setTop (mkF m 93 #[.val (.int p1), .val (.int p2), .val (.int p3), .val (.int p4), .val (.int p5), .val (.int p6), .val (.int (3 : Int32)), .val (.ref b1), .val (.ref b8_b1), .val (.int (2 : Int32))] [(.int (p4.toInt8.toInt32)), (.int (2 : Int32)), (.ref b1)])) _
    refine XS.iconst X8.here hx rfl (hb hby at_93) ?_
    show Steps p.tables e below (T8.setTop (mkF m 94 #[.val (.int p1), .val (.int p2), .val (.int p3), .val (.int p4), .val (.int p5), .val (.int p6), .val (.int (3 : Int32)), .val (.ref b1), .val (.ref b8_b1), .val (.int (2 : Int32))] [(.int (-1 : Int32)), (.int (p4.toInt8.toInt32)), (.int (2 : Int32)), (.ref b1)])) _
    refine XS.ixor X8.here hx rfl (hb hby at_94) rfl ?_
    show Steps p.tables e below (T8.setTop (mkF m 95 #[.val (.int p1), .val (.int p2), .val (.int p3), .val (.int p4), .val (.int p5), .val (.int p6), .val (.int (3 : Int32)), .val (.ref b1), .val (.ref b8_b1), .val (.int (2 : Int32))] [(.int ((p4.toInt8.toInt32) ^^^ (-1 : Int32))), (.int (2 : Int32)), (.ref b1)])) _
    refine XS.i2b X8.here hx rfl (hb hby at_95) rfl ?_
    show Steps p.tables e below (T8.setTop (mkF m 96 #[.val (.int p1), .val (.int p2), .val (.int p3), .val (.int p4), .val (.int p5), .val (.int p6), .val (.int (3 : Int32)), .val (.ref b1), .val (.ref b8_b1), .val (.int (2 : Int32))] [(.int (((p4.toInt8.toInt32) ^^^ (-1 : Int32)).toInt8.toInt32)), (.int (2 : Int32)), (.ref b1)])) _
    refine st11 _ ?_
    show Steps p.tables e below (T11.setTop (mkF m 97 #[.val (.int p1), .val (.int p2), .val (.int p3), .val (.int p4), .val (.int p5), .val (.int p6), .val (.int (3 : Int32)), .val (.ref b1), .val (.ref b8_b1), .val (.int (2 : Int32))] [])) _
    refine XS.aload X11.here hx rfl (hb hby at_97) rfl rfl ?_
    show Steps p.tables e below (T11.setTop (mkF m 99 #[.val (.int p1), .val (.int p2), .val (.int p3), .val (.int p4), .val (.int p5), .val (.int p6), .val (.int (3 : Int32)), .val (.ref b1), .val (.ref b8_b1), .val (.int (2 : Int32))] [(.ref b8_b1)])) _
    refine st12.trans ?_
    show Steps p.tables e below (T12.setTop (mkF m 102 #[.val (.int p1), .val (.int p2), .val (.int p3), .val (.int p4), .val (.int p5), .val (.int p6), .val (.int (3 : Int32)), .val (.ref b1), .val (.ref b8_b1), .val (.int (2 : Int32))] [(.ref w_n1)])) _
    refine st13 _ ?_
    show Steps p.tables e below (T13.setTop (mkF m 105 #[.val (.int p1), .val (.int p2), .val (.int p3), .val (.int p4), .val (.int p5), .val (.int p6), .val (.int (3 : Int32)), .val (.ref b1), .val (.ref b8_b1), .val (.int (2 : Int32))] [(.ref w_n1), (.ref w_n1)])) _
    refine Jvm.RoadKit.acmp (g := (mkF m 105 #[.val (.int p1), .val (.int p2), .val (.int p3), .val (.int p4), .val (.int p5), .val (.int p6), .val (.int (3 : Int32)), .val (.ref b1), .val (.ref b8_b1), .val (.int (2 : Int32))] [(.ref w_n1), (.ref w_n1)])) X13 hx rfl rfl rfl (pc0 := 105) (pc' := 110) (same := true) rfl (hb hby at_105) rfl (decide_eq_true rfl) (by decide) (by decide) ?_
    show Steps p.tables e below (T13.setTop (mkF m 110 #[.val (.int p1), .val (.int p2), .val (.int p3), .val (.int p4), .val (.int p5), .val (.int p6), .val (.int (3 : Int32)), .val (.ref b1), .val (.ref b8_b1), .val (.int (2 : Int32))] [])) _
    refine XS.aload X13.here hx rfl (hb hby at_110) rfl rfl ?_
    show Steps p.tables e below (T13.setTop (mkF m 112 #[.val (.int p1), .val (.int p2), .val (.int p3), .val (.int p4), .val (.int p5), .val (.int p6), .val (.int (3 : Int32)), .val (.ref b1), .val (.ref b8_b1), .val (.int (2 : Int32))] [(.ref b8_b1)])) _
    refine st14.trans ?_
    show Steps p.tables e below (T14.setTop (mkF m 115 #[.val (.int p1), .val (.int p2), .val (.int p3), .val (.int p4), .val (.int p5), .val (.int p6), .val (.int (3 : Int32)), .val (.ref b1), .val (.ref b8_b1), .val (.int (2 : Int32))] [(.int (3 : Int32))])) _
    refine XS.iload X14.here hx rfl (hb hby at_115) rfl ?_
    show Steps p.tables e below (T14.setTop (mkF m 117 #[.val (.int p1), .val (.int p2), .val (.int p3), .val (.int p4), .val (.int p5), .val (.int p6), .val (.int (3 : Int32)), .val (.ref b1), .val (.ref b8_b1), .val (.int (2 : Int32))] [(.int (3 : Int32)), (.int (3 : Int32))])) _
    refine XS.icmpYes X14.here hx rfl (pc0 := 117) (pc' := 122) rfl (hb hby at_117) rfl (teq ((by decide) : (3 : Int32) = (3 : Int32))).1 (by decide) (by decide) ?_
    show Steps p.tables e below (T14.setTop (mkF m 122 #[.val (.int p1), .val (.int p2), .val (.int p3), .val (.int p4), .val (.int p5), .val (.int p6), .val (.int (3 : Int32)), .val (.ref b1), .val (.ref b8_b1), .val (.int (2 : Int32))] [])) _
    refine XS.aload X14.here hx rfl (hb hby at_122) rfl rfl ?_
    show Steps p.tables e below (T14.setTop (mkF m 124 #[.val (.int p1), .val (.int p2), .val (.int p3), .val (.int p4), .val (.int p5), .val (.int p6), .val (.int (3 : Int32)), .val (.ref b1), .val (.ref b8_b1), .val (.int (2 : Int32))] [(.ref b8_b1)])) _
    refine st15.trans ?_
    show Steps p.tables e below (T15.setTop (mkF m 127 #[.val (.int p1), .val (.int p2), .val (.int p3), .val (.int p4), .val (.int p5), .val (.int p6), .val (.int (3 : Int32)), .val (.ref b1), .val (.ref b8_b1), .val (.int (2 : Int32))] [(.ref b15_b4)])) _
    refine XS.astore X15.here hx rfl (hb hby at_127) rfl rfl (l' := #[.val (.int p1), .val (.int p2), .val (.int p3), .val (.int p4), .val (.int p5), .val (.int p6), .val (.int (3 : Int32)), .val (.ref b1), .val (.ref b8_b1), .val (.ref b15_b4)]) rfl ?_
    show Steps p.tables e below (T15.setTop (mkF m 129 #[.val (.int p1), .val (.int p2), .val (.int p3), .val (.int p4), .val (.int p5), .val (.int p6), .val (.int (3 : Int32)), .val (.ref b1), .val (.ref b8_b1), .val (.ref b15_b4)] [])) _
    refine XS.aload X15.here hx rfl (hb hby at_129) rfl rfl ?_
    show Steps p.tables e below (T15.setTop (mkF m 131 #[.val (.int p1), .val (.int p2), .val (.int p3), .val (.int p4), .val (.int p5), .val (.int p6), .val (.int (3 : Int32)), .val (.ref b1), .val (.ref b8_b1), .val (.ref b15_b4)] [(.ref b15_b4)])) _
    refine X15.arraylength hx Ar16.1 (State.isArrayOf_alike hZ.alike Ar16.2.1) (g := (mkF m 131 #[.val (.int p1), .val (.int p2), .val (.int p3), .val (.int p4), .val (.int p5), .val (.int p6), .val (.int (3 : Int32)), .val (.ref b1), .val (.ref b8_b1), .val (.ref b15_b4)] [(.ref b15_b4)])) rfl rfl (hb hby at_131) _ ?_
    rw [len_of Sz16 Nz16]
    show Steps p.tables e below (T15.setTop (mkF m 132 #[.val (.int p1), .val (.int p2), .val (.int p3), .val (.int p4), .val (.int p5), .val (.int p6), .val (.int (3 : Int32)), .val (.ref b1), .val (.ref b8_b1), .val (.ref b15_b4)] [(.int (3 : Int32))])) _
    refine XS.iload X15.here hx rfl (hb hby at_132) rfl ?_
    show Steps p.tables e below (T15.setTop (mkF m 134 #[.val (.int p1), .val (.int p2), .val (.int p3), .val (.int p4), .val (.int p5), .val (.int p6), .val (.int (3 : Int32)), .val (.ref b1), .val (.ref b8_b1), .val (.ref b15_b4)] [(.int (3 : Int32)), (.int (3 : Int32))])) _
    refine XS.icmpYes X15.here hx rfl (pc0 := 134) (pc' := 139) rfl (hb hby at_134) rfl (teq ((by decide) : (3 : Int32) = (3 : Int32))).1 (by decide) (by decide) ?_
    show Steps p.tables e below (T15.setTop (mkF m 139 #[.val (.int p1), .val (.int p2), .val (.int p3), .val (.int p4), .val (.int p5), .val (.int p6), .val (.int (3 : Int32)), .val (.ref b1), .val (.ref b8_b1), .val (.ref b15_b4)] [])) _
    refine XS.iload X15.here hx rfl (hb hby at_139) rfl ?_
    show Steps p.tables e below (T15.setTop (mkF m 141 #[.val (.int p1), .val (.int p2), .val (.int p3), .val (.int p4), .val (.int p5), .val (.int p6), .val (.int (3 : Int32)), .val (.ref b1), .val (.ref b8_b1), .val (.ref b15_b4)] [(.int (3 : Int32))])) _
    refine XS.ifNo X15.here hx rfl (hb hby at_141) rfl ((if0 _ _).trans (tlt ((by decide) : (0 : Int32) < (3 : Int32))).2.2.2) ?_
    show Steps p.tables e below (T15.setTop (mkF m 144 #[.val (.int p1), .val (.int p2), .val (.int p3), .val (.int p4), .val (.int p5), .val (.int p6), .val (.int (3 : Int32)), .val (.ref b1), .val (.ref b8_b1), .val (.ref b15_b4)] [])) _
    refine XS.aload X15.here hx rfl (hb hby at_144) rfl rfl ?_
    show Steps p.tables e below (T15.setTop (mkF m 146 #[.val (.int p1), .val (.int p2), .val (.int p3), .val (.int p4), .val (.int p5), .val (.int p6), .val (.int (3 : Int32)), .val (.ref b1), .val (.ref b8_b1), .val (.ref b15_b4)] [(.ref b15_b4)])) _
    refine XS.iconst X15.here hx rfl (hb hby at_146) ?_
    show Steps p.tables e below (T15.setTop (mkF m 147 #[.val (.int p1), .val (.int p2), .val (.int p3), .val (.int p4), .val (.int p5), .val (.int p6), .val (.int (3 : Int32)), .val (.ref b1), .val (.ref b8_b1), .val (.ref b15_b4)] [(.int (0 : Int32)), (.ref b15_b4)])) _
    refine X15.baloadBytes hx (j := (0 : Int32)) (v := (.int (p2.toInt8.toInt32))) Ar17.1 (State.isArrayOf_alike hZ.alike Ar17.2.1) Ar17.2.2 hin17 hat17 (g := (mkF m 147 #[.val (.int p1), .val (.int p2), .val (.int p3), .val (.int p4), .val (.int p5), .val (.int p6), .val (.int (3 : Int32)), .val (.ref b1), .val (.ref b8_b1), .val (.ref b15_b4)] [(.int (0 : Int32)), (.ref b15_b4)])) rfl rfl (hb hby at_147) _ ?_
    show Steps p.tables e below (T15.setTop (mkF m 148 #[.val (.int p1), .val (.int p2), .val (.int p3), .val (.int p4), .val (.int p5), .val (.int p6), .val (.int (3 : Int32)), .val (.ref b1), .val (.ref b8_b1), .val (.ref b15_b4)] [(.int (p2.toInt8.toInt32))])) _
    refine XS.iloadN X15.here hx rfl (hb hby at_148) rfl ?_
    show Steps p.tables e below (T15.setTop (mkF m 149 #[.val (.int p1), .val (.int p2), .val (.int p3), .val (.int p4), .val (.int p5), .val (.int p6), .val (.int (3 : Int32)), .val (.ref b1), .val (.ref b8_b1), .val (.ref b15_b4)] [(.int p2), (.int (p2.toInt8.toInt32))])) _
    refine XS.i2b X15.here hx rfl (hb hby at_149) rfl ?_
    show Steps p.tables e below (T15.setTop (mkF m 150 #[.val (.int p1), .val (.int p2), .val (.int p3), .val (.int p4), .val (.int p5), .val (.int p6), .val (.int (3 : Int32)), .val (.ref b1), .val (.ref b8_b1), .val (.ref b15_b4)] [(.int (p2.toInt8.toInt32)), (.int (p2.toInt8.toInt32))])) _
    refine XS.icmpYes X15.here hx rfl (pc0 := 150) (pc' := 155) rfl (hb hby at_150) rfl (teq (rfl : (p2.toInt8.toInt32) = (p2.toInt8.toInt32))).1 (by decide) (by decide) ?_
    show Steps p.tables e below (T15.setTop (mkF m 155 #[.val (.int p1), .val (.int p2), .val (.int p3), .val (.int p4), .val (.int p5), .val (.int p6), .val (.int (3 : Int32)), .val (.ref b1), .val (.ref b8_b1), .val (.ref b15_b4)] [])) _
    refine XS.iload X15.here hx rfl (hb hby at_155) rfl ?_
    show Steps p.tables e below (T15.setTop (mkF m 157 #[.val (.int p1), .val (.int p2), .val (.int p3), .val (.int p4), .val (.int p5), .val (.int p6), .val (.int (3 : Int32)), .val (.ref b1), .val (.ref b8_b1), .val (.ref b15_b4)] [(.int (3 : Int32))])) _
    refine XS.iconst X15.here hx rfl (hb hby at_157) ?_
    show Steps p.tables e below (T15.setTop (mkF m 158 #[.val (.int p1), .val (.int p2), .val (.int p3), .val (.int p4), .val (.int p5), .val (.int p6), .val (.int (3 : Int32)), .val (.ref b1), .val (.ref b8_b1), .val (.ref b15_b4)] [(.int (1 : Int32)), (.int (3 : Int32))])) _
    refine XS.icmpNo X15.here hx rfl (hb hby at_158) rfl (tlt ((by decide) : (1 : Int32) < (3 : Int32))).2.2.2 ?_
    show Steps p.tables e below (T15.setTop (mkF m 161 #[.val (.int p1), .val (.int p2), .val (.int p3), .val (.int p4), .val (.int p5), .val (.int p6), .val (.int (3 : Int32)), .val (.ref b1), .val (.ref b8_b1), .val (.ref b15_b4)] [])) _
    refine XS.aload X15.here hx rfl (hb hby at_161) rfl rfl ?_
    show Steps p.tables e below (T15.setTop (mkF m 163 #[.val (.int p1), .val (.int p2), .val (.int p3), .val (.int p4), .val (.int p5), .val (.int p6), .val (.int (3 : Int32)), .val (.ref b1), .val (.ref b8_b1), .val (.ref b15_b4)] [(.ref b15_b4)])) _
    refine XS.iconst X15.here hx rfl (hb hby at_163) ?_
    show Steps p.tables e below (T15.setTop (mkF m 164 #[.val (.int p1), .val (.int p2), .val (.int p3), .val (.int p4), .val (.int p5), .val (.int p6), .val (.int (3 : Int32)), .val (.ref b1), .val (.ref b8_b1), .val (.ref b15_b4)] [(.int (1 : Int32)), (.ref b15_b4)])) _
    refine X15.baloadBytes hx (j := (1 : Int32)) (v := (.int (p3.toInt8.toInt32))) Ar18.1 (State.isArrayOf_alike hZ.alike Ar18.2.1) Ar18.2.2 hin18 hat18 (g := (mkF m 164 #[.val (.int p1), .val (.int p2), .val (.int p3), .val (.int p4), .val (.int p5), .val (.int p6), .val (.int (3 : Int32)), .val (.ref b1), .val (.ref b8_b1), .val (.ref b15_b4)] [(.int (1 : Int32)), (.ref b15_b4)])) rfl rfl (hb hby at_164) _ ?_
    show Steps p.tables e below (T15.setTop (mkF m 165 #[.val (.int p1), .val (.int p2), .val (.int p3), .val (.int p4), .val (.int p5), .val (.int p6), .val (.int (3 : Int32)), .val (.ref b1), .val (.ref b8_b1), .val (.ref b15_b4)] [(.int (p3.toInt8.toInt32))])) _
    refine XS.iloadN X15.here hx rfl (hb hby at_165) rfl ?_
    show Steps p.tables e below (T15.setTop (mkF m 166 #[.val (.int p1), .val (.int p2), .val (.int p3), .val (.int p4), .val (.int p5), .val (.int p6), .val (.int (3 : Int32)), .val (.ref b1), .val (.ref b8_b1), .val (.ref b15_b4)] [(.int p3), (.int (p3.toInt8.toInt32))])) _
    refine XS.i2b X15.here hx rfl (hb hby at_166) rfl ?_
    show Steps p.tables e below (T15.setTop (mkF m 167 #[.val (.int p1), .val (.int p2), .val (.int p3), .val (.int p4), .val (.int p5), .val (.int p6), .val (.int (3 : Int32)), .val (.ref b1), .val (.ref b8_b1), .val (.ref b15_b4)] [(.int (p3.toInt8.toInt32)), (.int (p3.toInt8.toInt32))])) _
    refine XS.icmpYes X15.here hx rfl (pc0 := 167) (pc' := 172) rfl (hb hby at_167) rfl (teq (rfl : (p3.toInt8.toInt32) = (p3.toInt8.toInt32))).1 (by decide) (by decide) ?_
    show Steps p.tables e below (T15.setTop (mkF m 172 #[.val (.int p1), .val (.int p2), .val (.int p3), .val (.int p4), .val (.int p5), .val (.int p6), .val (.int (3 : Int32)), .val (.ref b1), .val (.ref b8_b1), .val (.ref b15_b4)] [])) _
    refine XS.iload X15.here hx rfl (hb hby at_172) rfl ?_
    show Steps p.tables e below (T15.setTop (mkF m 174 #[.val (.int p1), .val (.int p2), .val (.int p3), .val (.int p4), .val (.int p5), .val (.int p6), .val (.int (3 : Int32)), .val (.ref b1), .val (.ref b8_b1), .val (.ref b15_b4)] [(.int (3 : Int32))])) _
    refine XS.iconst X15.here hx rfl (hb hby at_174) ?_
    show Steps p.tables e below (T15.setTop (mkF m 175 #[.val (.int p1), .val (.int p2), .val (.int p3), .val (.int p4), .val (.int p5), .val (.int p6), .val (.int (3 : Int32)), .val (.ref b1), .val (.ref b8_b1), .val (.ref b15_b4)] [(.int (2 : Int32)), (.int (3 : Int32))])) _
    refine XS.icmpNo X15.here hx rfl (hb hby at_175) rfl (tlt ((by decide) : (2 : Int32) < (3 : Int32))).2.2.2 ?_
    show Steps p.tables e below (T15.setTop (mkF m 178 #[.val (.int p1), .val (.int p2), .val (.int p3), .val (.int p4), .val (.int p5), .val (.int p6), .val (.int (3 : Int32)), .val (.ref b1), .val (.ref b8_b1), .val (.ref b15_b4)] [])) _
    refine XS.aload X15.here hx rfl (hb hby at_178) rfl rfl ?_
    show Steps p.tables e below (T15.setTop (mkF m 180 #[.val (.int p1), .val (.int p2), .val (.int p3), .val (.int p4), .val (.int p5), .val (.int p6), .val (.int (3 : Int32)), .val (.ref b1), .val (.ref b8_b1), .val (.ref b15_b4)] [(.ref b15_b4)])) _
    refine XS.iconst X15.here hx rfl (hb hby at_180) ?_
    show Steps p.tables e below (T15.setTop (mkF m 181 #[.val (.int p1), .val (.int p2), .val (.int p3), .val (.int p4), .val (.int p5), .val (.int p6), .val (.int (3 : Int32)), .val (.ref b1), .val (.ref b8_b1), .val (.ref b15_b4)] [(.int (2 : Int32)), (.ref b15_b4)])) _
    refine X15.baloadBytes hx (j := (2 : Int32)) (v := (.int (p4.toInt8.toInt32))) Ar19.1 (State.isArrayOf_alike hZ.alike Ar19.2.1) Ar19.2.2 hin19 hat19 (g := (mkF m 181 #[.val (.int p1), .val (.int p2), .val (.int p3), .val (.int p4), .val (.int p5), .val (.int p6), .val (.int (3 : Int32)), .val (.ref b1), .val (.ref b8_b1), .val (.ref b15_b4)] [(.int (2 : Int32)), (.ref b15_b4)])) rfl rfl (hb hby at_181) _ ?_
    show Steps p.tables e below (T15.setTop (mkF m 182 #[.val (.int p1), .val (.int p2), .val (.int p3), .val (.int p4), .val (.int p5), .val (.int p6), .val (.int (3 : Int32)), .val (.ref b1), .val (.ref b8_b1), .val (.ref b15_b4)] [(.int (p4.toInt8.toInt32))])) _
    refine XS.iloadN X15.here hx rfl (hb hby at_182) rfl ?_
    show Steps p.tables e below (T15.setTop (mkF m 183 #[.val (.int p1), .val (.int p2), .val (.int p3), .val (.int p4), .val (.int p5), .val (.int p6), .val (.int (3 : Int32)), .val (.ref b1), .val (.ref b8_b1), .val (.ref b15_b4)] [(.int p4), (.int (p4.toInt8.toInt32))])) _
    refine XS.i2b X15.here hx rfl (hb hby at_183) rfl ?_
    show Steps p.tables e below (T15.setTop (mkF m 184 #[.val (.int p1), .val (.int p2), .val (.int p3), .val (.int p4), .val (.int p5), .val (.int p6), .val (.int (3 : Int32)), .val (.ref b1), .val (.ref b8_b1), .val (.ref b15_b4)] [(.int (p4.toInt8.toInt32)), (.int (p4.toInt8.toInt32))])) _
    refine XS.icmpYes X15.here hx rfl (pc0 := 184) (pc' := 189) rfl (hb hby at_184) rfl (teq (rfl : (p4.toInt8.toInt32) = (p4.toInt8.toInt32))).1 (by decide) (by decide) ?_
    show Steps p.tables e below (T15.setTop (mkF m 189 #[.val (.int p1), .val (.int p2), .val (.int p3), .val (.int p4), .val (.int p5), .val (.int p6), .val (.int (3 : Int32)), .val (.ref b1), .val (.ref b8_b1), .val (.ref b15_b4)] [])) _
    refine XS.iload X15.here hx rfl (hb hby at_189) rfl ?_
    show Steps p.tables e below (T15.setTop (mkF m 191 #[.val (.int p1), .val (.int p2), .val (.int p3), .val (.int p4), .val (.int p5), .val (.int p6), .val (.int (3 : Int32)), .val (.ref b1), .val (.ref b8_b1), .val (.ref b15_b4)] [(.int (3 : Int32))])) _
    refine XS.iconst X15.here hx rfl (hb hby at_191) ?_
    show Steps p.tables e below (T15.setTop (mkF m 192 #[.val (.int p1), .val (.int p2), .val (.int p3), .val (.int p4), .val (.int p5), .val (.int p6), .val (.int (3 : Int32)), .val (.ref b1), .val (.ref b8_b1), .val (.ref b15_b4)] [(.int (3 : Int32)), (.int (3 : Int32))])) _
    refine XS.icmpYes X15.here hx rfl (pc0 := 192) (pc' := 207) rfl (hb hby at_192) rfl (flt ((by decide) : ¬ ((3 : Int32) < (3 : Int32)))).2.2.2 (by decide) (by decide) ?_
    show Steps p.tables e below (T15.setTop (mkF m 207 #[.val (.int p1), .val (.int p2), .val (.int p3), .val (.int p4), .val (.int p5), .val (.int p6), .val (.int (3 : Int32)), .val (.ref b1), .val (.ref b8_b1), .val (.ref b15_b4)] [])) _
    refine XS.iconst X15.here hx rfl (hb hby at_207) ?_
    show Steps p.tables e below (T15.setTop (mkF m 208 #[.val (.int p1), .val (.int p2), .val (.int p3), .val (.int p4), .val (.int p5), .val (.int p6), .val (.int (3 : Int32)), .val (.ref b1), .val (.ref b8_b1), .val (.ref b15_b4)] [(.int (1 : Int32))])) _
    exact retN X15 hx (t := .boolean) Bd.returns (by simp) (hb hby at_208) hr
  · show Q0 n0 _ T15.heap _
    exact ⟨rfl, N15⟩
set_option maxRecDepth 65536 in
set_option maxHeartbeats 40000000 in
theorem rm0_40 (l : Launch) (Z : State) (a0 : Array Value) (hw : ∀ d ∈ tables_1, d.before a0 Z = true) (ws : List Jvm.Cond) {w_n1 : Addr} {w_n0 : Addr} {k_n0 : ClassId} (W : Wd Z w_n1 w_n0 k_n0) (p1 : Int32) (p2 : Int32) (p3 : Int32) (p4 : Int32) (p5 : Int32) (p6 : Int32) (h0 : Heap) (n0 : Nat) (O0 : Old Z n0 h0) (hk : ((p1 &&& (2147483647 : Int32)) % (5 : Int32)) = (4 : Int32)) (hi : ((p6 &&& (2147483647 : Int32)) % (4 : Int32)) = (0 : Int32)) :
    MetFree l x (head1 (Jvm.Cond.code x code maxLocals ret :: ws) room_1) (fun a U => a = #[(.int p1), (.int p2), (.int p3), (.int p4), (.int p5), (.int p6)] ∧ Z.Warmed39 U.vm ∧ U.heap = h0) (fun _ _ _ _ _ => True) (fun _ U o U' => ∃ v L, o = .returned v ∧ Q0 n0 v U'.heap L ∧ FrameEnd U o U' L room_1.cells room_1.slots) := by
  have W' := W; obtain ⟨S_n1, E_n1, S_n0, F_n1_ordinal, V_n0⟩ := W'
  refine MetFree.of_bodySF (plainFor_of_name pn_0) hisR ?_
  intro p e s m args below meth c s₁ Bd hml0 hP hK
  obtain ⟨rfl, hZ, hh⟩ := hP
  have hx := Bd.exec
  have hby := Bd.bytes
  have hml : c.maxLocals = 10 := hml0
  have hown : s.vm.findClass "com/example/keyfold/keyfold/core/ValueOfBinary193PinLaw" = some m.cls := findClass_of_methodNamed Bd.named
  have hnm := (name_of_methodNamed Bd.named Bd.method).1
  have X0 : Stand p l e room_1 s m #[(.int p1), (.int p2), (.int p3), (.int p4), (.int p5), (.int p6)] below meth c s₁ [] 0 0 := Stand.of_body Bd
  have e0 : s₁.heap = h0 := by rw [← hh, Bd.state]; rfl
  have N0 := Fr.nil n0
  have pre0 : ∀ t, Steps p.tables e below (s₁.setTop (mkF m 0 #[.val (.int p1), .val (.int p2), .val (.int p3), .val (.int p4), .val (.int p5), .val (.int p6), .unset, .unset, .unset, .unset] [])) t → Steps p.tables e below (s₁.setTop (entryFrame m #[(.int p1), (.int p2), (.int p3), (.int p4), (.int p5), (.int p6)] maxLocals)) t := fun t k => castTop (ef_0_7 m p1 p2 p3 p4 p5 p6) k
  obtain ⟨T1, h1, k1, X1, e1, E1, A1, B1, st1⟩ := newPE X0 hx hZ (hw _ (List.mem_of_getElem? (i := 1) rfl)) e0 (g := (mkF m 10 #[.val (.int p1), .val (.int p2), .val (.int p3), .val (.int p4), .val (.int p5), .val (.int p6), .val (.int (4 : Int32)), .unset, .unset, .unset] [(.int (4 : Int32))])) rfl (hb hby at_10) rfl (by decide) (cap := 4) (by decide) (by decide) (by decide) (by decide) (ad := "[B") (by decide)
  obtain ⟨b1, g1⟩ : ∃ z, z = h0.size := ⟨_, rfl⟩
  rw [← g1] at A1 B1 st1
  have g_b1 : n0 ≤ b1 := by rw [g1]; exact O0.1 ▸ O0.2.1
  have O1 := O0.ext E1
  have fv1 : Arv Z h1 b1 k1 .byte (4 : Int32) [(.int (0 : Int32)), (.int (0 : Int32)), (.int (0 : Int32)), (.int (0 : Int32))] (.int (0 : Int32)) := (Arv.new A1 (by decide)).pad (pad_rep [] (.int (0 : Int32)) 4)
  obtain ⟨cl2, Ar2, qk2, Sz2, Nz2, Hs2, Gs2⟩ := id fv1
  have hin2 : ¬ ((0 : Int32) < 0 ∨ cl2.slots.size ≤ ((0 : Int32)).toNatClampNeg) := inb_of Sz2 ⟨by decide, by decide⟩
  obtain ⟨T3, h3, X3, e3, W3, st3⟩ := stB X1 hx hZ e1 Ar2 (j := (0 : Int32)) hin2  (g := (mkF m 24 #[.val (.int p1), .val (.int p2), .val (.int p3), .val (.int p4), .val (.int p5), .val (.int p6), .val (.int (4 : Int32)), .val (.ref b1), .unset, .unset] [(.int (p2.toInt8.toInt32)), (.int (0 : Int32)), (.ref b1)])) rfl rfl (hb hby at_24)
  rw [show nar .byte (p2.toInt8.toInt32) = (p2.toInt8.toInt32) from own_byte _] at W3
  have fw3 : Arv Z h3 b1 k1 .byte (4 : Int32) [(.int (p2.toInt8.toInt32)), (.int (0 : Int32)), (.int (0 : Int32)), (.int (0 : Int32))] (.int (0 : Int32)) := Arv.set Ar2 qk2 Sz2 Nz2 Hs2 Gs2 (fits_nar_byte _) W3 0 rfl (Nat.le_of_ble_eq_true rfl)
  have f3_0 : Exa Z h3 b1 "[B" := (B1).wr W3
  have O3 := O1.wr W3 g_b1
  have N3 := Fr.snoc X3 N0 g_b1
  obtain ⟨cl4, Ar4, qk4, Sz4, Nz4, Hs4, Gs4⟩ := id fw3
  have hin4 : ¬ ((1 : Int32) < 0 ∨ cl4.slots.size ≤ ((1 : Int32)).toNatClampNeg) := inb_of Sz4 ⟨by decide, by decide⟩
  obtain ⟨T5, h5, X5, e5, W5, st5⟩ := stB X3 hx hZ e3 Ar4 (j := (1 : Int32)) hin4  (g := (mkF m 36 #[.val (.int p1), .val (.int p2), .val (.int p3), .val (.int p4), .val (.int p5), .val (.int p6), .val (.int (4 : Int32)), .val (.ref b1), .unset, .unset] [(.int (p3.toInt8.toInt32)), (.int (1 : Int32)), (.ref b1)])) rfl rfl (hb hby at_36)
  rw [show nar .byte (p3.toInt8.toInt32) = (p3.toInt8.toInt32) from own_byte _] at W5
  have fw5 : Arv Z h5 b1 k1 .byte (4 : Int32) [(.int (p2.toInt8.toInt32)), (.int (p3.toInt8.toInt32)), (.int (0 : Int32)), (.int (0 : Int32))] (.int (0 : Int32)) := Arv.set Ar4 qk4 Sz4 Nz4 Hs4 Gs4 (fits_nar_byte _) W5 1 rfl (Nat.le_of_ble_eq_true rfl)
  have f5_0 : Exa Z h5 b1 "[B" := (f3_0).wr W5
  have O5 := O3.wr W5 g_b1
  have N5 := Fr.snoc X5 N3 g_b1
  obtain ⟨cl6, Ar6, qk6, Sz6, Nz6, Hs6, Gs6⟩ := id fw5
  have hin6 : ¬ ((2 : Int32) < 0 ∨ cl6.slots.size ≤ ((2 : Int32)).toNatClampNeg) := inb_of Sz6 ⟨by decide, by decide⟩
  obtain ⟨T7, h7, X7, e7, W7, st7⟩ := stB X5 hx hZ e5 Ar6 (j := (2 : Int32)) hin6  (g := (mkF m 48 #[.val (.int p1), .val (.int p2), .val (.int p3), .val (.int p4), .val (.int p5), .val (.int p6), .val (.int (4 : Int32)), .val (.ref b1), .unset, .unset] [(.int (p4.toInt8.toInt32)), (.int (2 : Int32)), (.ref b1)])) rfl rfl (hb hby at_48)
  rw [show nar .byte (p4.toInt8.toInt32) = (p4.toInt8.toInt32) from own_byte _] at W7
  have fw7 : Arv Z h7 b1 k1 .byte (4 : Int32) [(.int (p2.toInt8.toInt32)), (.int (p3.toInt8.toInt32)), (.int (p4.toInt8.toInt32)), (.int (0 : Int32))] (.int (0 : Int32)) := Arv.set Ar6 qk6 Sz6 Nz6 Hs6 Gs6 (fits_nar_byte _) W7 2 rfl (Nat.le_of_ble_eq_true rfl)
  have f7_0 : Exa Z h7 b1 "[B" := (f5_0).wr W7
  have O7 := O5.wr W7 g_b1
  have N7 := Fr.snoc X7 N5 g_b1
  obtain ⟨cl8, Ar8, qk8, Sz8, Nz8, Hs8, Gs8⟩ := id fw7
  have hin8 : ¬ ((3 : Int32) < 0 ∨ cl8.slots.size ≤ ((3 : Int32)).toNatClampNeg) := inb_of Sz8 ⟨by decide, by decide⟩
  obtain ⟨T9, h9, X9, e9, W9, st9⟩ := stB X7 hx hZ e7 Ar8 (j := (3 : Int32)) hin8  (g := (mkF m 61 #[.val (.int p1), .val (.int p2), .val (.int p3), .val (.int p4), .val (.int p5), .val (.int p6), .val (.int (4 : Int32)), .val (.ref b1), .unset, .unset] [(.int (p5.toInt8.toInt32)), (.int (3 : Int32)), (.ref b1)])) rfl rfl (hb hby at_61)
  rw [show nar .byte (p5.toInt8.toInt32) = (p5.toInt8.toInt32) from own_byte _] at W9
  have fw9 : Arv Z h9 b1 k1 .byte (4 : Int32) [(.int (p2.toInt8.toInt32)), (.int (p3.toInt8.toInt32)), (.int (p4.toInt8.toInt32)), (.int (p5.toInt8.toInt32))] (.int (0 : Int32)) := Arv.set Ar8 qk8 Sz8 Nz8 Hs8 Gs8 (fits_nar_byte _) W9 3 rfl (Nat.le_of_ble_eq_true rfl)
  have f9_0 : Exa Z h9 b1 "[B" := (f7_0).wr W9
  have O9 := O7.wr W9 g_b1
  have N9 := Fr.snoc X9 N7 g_b1
  obtain ⟨_, _, ⟨T10, L10, k10, n10⟩, -, X10, ⟨Lc10, hQ10, l10, y10, z10⟩, st10⟩ := Jvm.LawKit.callS X9 hx (y := (⟨"com/example/keyfold/keyfold/core/Value", "ofBinary", "([B)Lcom/example/keyfold/keyfold/core/Value;"⟩ : MethodName)) hown (mvT hZ (hw _ (List.mem_of_getElem? (i := 2) rfl))) (mvT hZ (hw _ (List.mem_of_getElem? (i := 3) rfl))) (mvT hZ (hw _ (List.mem_of_getElem? (i := 4) rfl))) (mvT hZ (hw _ (List.mem_of_getElem? (i := 5) rfl))) (by decide) (backOf (W := 0) (rm1_4 l Z a0 hw [] W b1 k1 (p2.toInt8.toInt32) (p3.toInt8.toInt32) (p4.toInt8.toInt32) (p5.toInt8.toInt32) h9 n0 O9 g_b1 f9_0 fw9) hZ (hw _ (List.mem_of_getElem? (i := 5) rfl)) (hw _ (List.mem_of_getElem? (i := 4) rfl)) (by decide) (by decide)) (g := (mkF m 64 #[.val (.int p1), .val (.int p2), .val (.int p3), .val (.int p4), .val (.int p5), .val (.int p6), .val (.int (4 : Int32)), .val (.ref b1), .unset, .unset] [(.ref b1)])) rfl (by rw [hml]; rfl) (argsL := [(.ref b1)]) (rest := []) (lenOf pd_3 rfl) rfl (by show 2 * 0 + _ ≤ _; exact Nat.le_of_eq rfl) (hb hby at_64) (fun _ _ => ⟨rfl, e9, (by decide : 1 + 2 ≤ _), (by decide : 4 + 6 ≤ _)⟩)
  dsimp only [Pt.U, Pt.locs, Pt.cells, Pt.slots] at X10 l10 y10 z10 st10 hQ10
  subst l10 y10 z10
  obtain ⟨N10q, hP10⟩ := hQ10
  have N10 := Fr.app N9 N10q
  obtain ⟨b10_b1, b10_b3, rfl, Kp10, g_b10_b1, si_b10_b1, g_b10_b3, si_b10_b3, fp10_0, fp10_1, fp10_2, fp10_3, fp10_4⟩ := hP10
  have f10_0 : Exa Z T10.heap b1 "[B" := (f9_0).keep Kp10
  have f10_1 : Arv Z T10.heap b1 k1 .byte (4 : Int32) [(.int (p2.toInt8.toInt32)), (.int (p3.toInt8.toInt32)), (.int (p4.toInt8.toInt32)), (.int (p5.toInt8.toInt32))] (.int (0 : Int32)) := (fw9).keep Kp10 nin0
  have O10 := O9.keep Kp10 all0
  obtain ⟨cl11, Ar11, qk11, Sz11, Nz11, Hs11, Gs11⟩ := id f10_1
  have hin11 : ¬ ((0 : Int32) < 0 ∨ cl11.slots.size ≤ ((0 : Int32)).toNatClampNeg) := inb_of Sz11 ⟨by decide, by decide⟩
  have hat11 : cl11.slots[((0 : Int32)).toNatClampNeg]? = some (.int (p2.toInt8.toInt32)) := Has.at Hs11 hin11 rfl
  obtain ⟨cl12, Ar12, qk12, Sz12, Nz12, Hs12, Gs12⟩ := id f10_1
  have hin12 : ¬ ((0 : Int32) < 0 ∨ cl12.slots.size ≤ ((0 : Int32)).toNatClampNeg) := inb_of Sz12 ⟨by decide, by decide⟩
  obtain ⟨T13, h13, X13, e13, W13, st13⟩ := stB X10 hx hZ rfl Ar12 (j := (0 : Int32)) hin12  (g := (mkF m 96 #[.val (.int p1), .val (.int p2), .val (.int p3), .val (.int p4), .val (.int p5), .val (.int p6), .val (.int (4 : Int32)), .val (.ref b1), .val (.ref b10_b1), .val (.int (0 : Int32))] [(.int (((p2.toInt8.toInt32) ^^^ (-1 : Int32)).toInt8.toInt32)), (.int (0 : Int32)), (.ref b1)])) rfl rfl (hb hby at_96)
  rw [show nar .byte (((p2.toInt8.toInt32) ^^^ (-1 : Int32)).toInt8.toInt32) = (((p2.toInt8.toInt32) ^^^ (-1 : Int32)).toInt8.toInt32) from own_byte _] at W13
  have fw13 : Arv Z h13 b1 k1 .byte (4 : Int32) [(.int (((p2.toInt8.toInt32) ^^^ (-1 : Int32)).toInt8.toInt32)), (.int (p3.toInt8.toInt32)), (.int (p4.toInt8.toInt32)), (.int (p5.toInt8.toInt32))] (.int (0 : Int32)) := Arv.set Ar12 qk12 Sz12 Nz12 Hs12 Gs12 (fits_nar_byte _) W13 0 rfl (Nat.le_of_ble_eq_true rfl)
  have f13_0 : Exa Z h13 b1 "[B" := (f10_0).wr W13
  have f13_1 : Exa Z h13 b10_b1 "com/example/keyfold/keyfold/core/Value" := (fp10_0).wr W13
  have f13_2 : Fld Z h13 b10_b1 "com/example/keyfold/keyfold/core/Value" "type" "Lcom/example/keyfold/keyfold/core/ValueType;" (.ref w_n1) := (fp10_1).other W13 (Or.inl (ne_exa fp10_0 f10_0 (by decide)))
  have f13_3 : Fld Z h13 b10_b1 "com/example/keyfold/keyfold/core/Value" "content" "Ljava/lang/Object;" (.ref b10_b3) := (fp10_2).other W13 (Or.inl (ne_exa fp10_0 f10_0 (by decide)))
  have f13_4 : Exa Z h13 b10_b3 "[B" := (fp10_3).wr W13
  have f13_5 : Arv Z h13 b10_b3 k1 .byte (4 : Int32) [(.int (p2.toInt8.toInt32)), (.int (p3.toInt8.toInt32)), (.int (p4.toInt8.toInt32)), (.int (p5.toInt8.toInt32))] (.int (0 : Int32)) := (fp10_4).other W13 (Ne.symm (Nat.ne_of_lt (Nat.lt_of_lt_of_le (f9_0).lt si_b10_b3)))
  have O13 := O10.wr W13 g_b1
  have N13 := Fr.snoc X13 N10 g_b1
  obtain ⟨cq14, kq14, q14a, q14b, q14c⟩ := isOf hZ e13 f13_1
  obtain ⟨_, _, ⟨T14, L14, k14, n14⟩, -, X14, ⟨Lc14, hQ14, l14, y14, z14⟩, st14⟩ := X13.virtualBack hx (y := (⟨"com/example/keyfold/keyfold/core/Value", "type", "()Lcom/example/keyfold/keyfold/core/ValueType;"⟩ : MethodName)) (z := (⟨"com/example/keyfold/keyfold/core/Value", "type", "()Lcom/example/keyfold/keyfold/core/ValueType;"⟩ : MethodName)) hown (mvT hZ (hw _ (List.mem_of_getElem? (i := 28) rfl))) (mvT hZ (hw _ (List.mem_of_getElem? (i := 29) rfl))) (notFace_of_selects (args := #[]) (mvT hZ (hw _ (List.mem_of_getElem? (i := 31) rfl)))) (mvT hZ (hw _ (List.mem_of_getElem? (i := 31) rfl))) (mvT hZ (hw _ (List.mem_of_getElem? (i := 30) rfl))) (by decide) (backOf (W := 0) (rm4 l Z a0 hw [] W b10_b1 h13 n0 O13 f13_2) hZ (hw _ (List.mem_of_getElem? (i := 32) rfl)) (hw _ (List.mem_of_getElem? (i := 4) rfl)) (by decide) (by decide)) q14a q14c (g := (mkF m 99 #[.val (.int p1), .val (.int p2), .val (.int p3), .val (.int p4), .val (.int p5), .val (.int p6), .val (.int (4 : Int32)), .val (.ref b1), .val (.ref b10_b1), .val (.int (0 : Int32))] [(.ref b10_b1)])) rfl (by rw [hml]; rfl) (Steps.refl _) (argsL := []) (rest := []) (lenOf pd_4 rfl) rfl (by show 2 * 0 + _ ≤ _; exact Nat.le_of_eq rfl) (hb hby at_99) (fun _ _ => ⟨rfl, e13, (by decide : 3 + 0 ≤ _), (by decide : 10 + 0 ≤ _)⟩)
  dsimp only [Pt.U, Pt.locs, Pt.cells, Pt.slots] at X14 l14 y14 z14 st14 hQ14
  subst l14 y14 z14
  obtain ⟨rfl, N14q, e14⟩ := hQ14
  have N14 := Fr.app N13 N14q
  obtain ⟨T15, X15, e15, st15⟩ := getS2 X14 hx hZ hown (host := "") (Or.inl (hw _ (List.mem_of_getElem? (i := 33) rfl))) Via.refl e14 (S_n1.ext O13.2) (g := (mkF m 102 #[.val (.int p1), .val (.int p2), .val (.int p3), .val (.int p4), .val (.int p5), .val (.int p6), .val (.int (4 : Int32)), .val (.ref b1), .val (.ref b10_b1), .val (.int (0 : Int32))] [(.ref w_n1)])) rfl (hb hby at_102)
  obtain ⟨cq16, kq16, q16a, q16b, q16c⟩ := isOf hZ e15 f13_1
  obtain ⟨_, _, ⟨T16, L16, k16, n16⟩, -, X16, ⟨Lc16, hQ16, l16, y16, z16⟩, st16⟩ := X15.virtualBack hx (y := (⟨"com/example/keyfold/keyfold/core/Value", "size", "()I"⟩ : MethodName)) (z := (⟨"com/example/keyfold/keyfold/core/Value", "size", "()I"⟩ : MethodName)) hown (mvT hZ (hw _ (List.mem_of_getElem? (i := 34) rfl))) (mvT hZ (hw _ (List.mem_of_getElem? (i := 35) rfl))) (notFace_of_selects (args := #[]) (mvT hZ (hw _ (List.mem_of_getElem? (i := 37) rfl)))) (mvT hZ (hw _ (List.mem_of_getElem? (i := 37) rfl))) (mvT hZ (hw _ (List.mem_of_getElem? (i := 36) rfl))) (by decide) (backOf (W := 0) (rm7_4 l Z a0 hw [] W b10_b1 b10_b3 k1 (p2.toInt8.toInt32) (p3.toInt8.toInt32) (p4.toInt8.toInt32) (p5.toInt8.toInt32) h13 n0 O13 g_b10_b1 f13_1 f13_2 f13_3 g_b10_b3 f13_4 f13_5) hZ (hw _ (List.mem_of_getElem? (i := 38) rfl)) (hw _ (List.mem_of_getElem? (i := 4) rfl)) (by decide) (by decide)) q16a q16c (g := (mkF m 112 #[.val (.int p1), .val (.int p2), .val (.int p3), .val (.int p4), .val (.int p5), .val (.int p6), .val (.int (4 : Int32)), .val (.ref b1), .val (.ref b10_b1), .val (.int (0 : Int32))] [(.ref b10_b1)])) rfl (by rw [hml]; rfl) (Steps.refl _) (argsL := []) (rest := []) (lenOf pd_1 rfl) rfl (by show 2 * 0 + _ ≤ _; exact Nat.le_of_eq rfl) (hb hby at_112) (fun _ _ => ⟨rfl, e15, (by decide : 3 + 0 ≤ _), (by decide : 10 + 0 ≤ _)⟩)
  dsimp only [Pt.U, Pt.locs, Pt.cells, Pt.slots] at X16 l16 y16 z16 st16 hQ16
  subst l16 y16 z16
  obtain ⟨rfl, N16q, e16⟩ := hQ16
  have N16 := Fr.app N14 N16q
  obtain ⟨cq17, kq17, q17a, q17b, q17c⟩ := isOf hZ e16 f13_1
  obtain ⟨_, _, ⟨T17, L17, k17, n17⟩, -, X17, ⟨Lc17, hQ17, l17, y17, z17⟩, st17⟩ := X16.virtualBack hx (y := (⟨"com/example/keyfold/keyfold/core/Value", "asBinary", "()[B"⟩ : MethodName)) (z := (⟨"com/example/keyfold/keyfold/core/Value", "asBinary", "()[B"⟩ : MethodName)) hown (mvT hZ (hw _ (List.mem_of_getElem? (i := 53) rfl))) (mvT hZ (hw _ (List.mem_of_getElem? (i := 54) rfl))) (notFace_of_selects (args := #[]) (mvT hZ (hw _ (List.mem_of_getElem? (i := 56) rfl)))) (mvT hZ (hw _ (List.mem_of_getElem? (i := 56) rfl))) (mvT hZ (hw _ (List.mem_of_getElem? (i := 55) rfl))) (by decide) (backOf (W := 0) (rm5_4 l Z a0 hw [] W b10_b1 b10_b3 k1 (p2.toInt8.toInt32) (p3.toInt8.toInt32) (p4.toInt8.toInt32) (p5.toInt8.toInt32) h13 n0 O13 g_b10_b1 f13_1 f13_2 f13_3 g_b10_b3 f13_4 f13_5) hZ (hw _ (List.mem_of_getElem? (i := 57) rfl)) (hw _ (List.mem_of_getElem? (i := 4) rfl)) (by decide) (by decide)) q17a q17c (g := (mkF m 124 #[.val (.int p1), .val (.int p2), .val (.int p3), .val (.int p4), .val (.int p5), .val (.int p6), .val (.int (4 : Int32)), .val (.ref b1), .val (.ref b10_b1), .val (.int (0 : Int32))] [(.ref b10_b1)])) rfl (by rw [hml]; rfl) (Steps.refl _) (argsL := []) (rest := []) (lenOf pd_5 rfl) rfl (by show 2 * 0 + _ ≤ _; exact Nat.le_of_eq rfl) (hb hby at_124) (fun _ _ => ⟨rfl, e16, (by decide : 3 + 1 ≤ _), (by decide : 10 + 4 ≤ _)⟩)
  dsimp only [Pt.U, Pt.locs, Pt.cells, Pt.slots] at X17 l17 y17 z17 st17 hQ17
  subst l17 y17 z17
  obtain ⟨N17q, hP17⟩ := hQ17
  have N17 := Fr.app N16 N17q
  obtain ⟨b17_b4, rfl, Kp17, g_b17_b4, si_b17_b4, fp17_0, fp17_1⟩ := hP17
  have f17_0 : Exa Z T17.heap b1 "[B" := (f13_0).keep Kp17
  have f17_1 : Exa Z T17.heap b10_b1 "com/example/keyfold/keyfold/core/Value" := (f13_1).keep Kp17
  have f17_2 : Fld Z T17.heap b10_b1 "com/example/keyfold/keyfold/core/Value" "type" "Lcom/example/keyfold/keyfold/core/ValueType;" (.ref w_n1) := (f13_2).keep Kp17 nin0
  have f17_3 : Fld Z T17.heap b10_b1 "com/example/keyfold/keyfold/core/Value" "content" "Ljava/lang/Object;" (.ref b10_b3) := (f13_3).keep Kp17 nin0
  have f17_4 : Exa Z T17.heap b10_b3 "[B" := (f13_4).keep Kp17
  have f17_5 : Arv Z T17.heap b10_b3 k1 .byte (4 : Int32) [(.int (p2.toInt8.toInt32)), (.int (p3.toInt8.toInt32)), (.int (p4.toInt8.toInt32)), (.int (p5.toInt8.toInt32))] (.int (0 : Int32)) := (f13_5).keep Kp17 nin0
  have f17_6 : Arv Z T17.heap b1 k1 .byte (4 : Int32) [(.int (((p2.toInt8.toInt32) ^^^ (-1 : Int32)).toInt8.toInt32)), (.int (p3.toInt8.toInt32)), (.int (p4.toInt8.toInt32)), (.int (p5.toInt8.toInt32))] (.int (0 : Int32)) := (fw13).keep Kp17 nin0
  have O17 := O13.keep Kp17 all0
  obtain ⟨cl18, Ar18, qk18, Sz18, Nz18, Hs18, Gs18⟩ := id fp17_1
  obtain ⟨cl19, Ar19, qk19, Sz19, Nz19, Hs19, Gs19⟩ := id fp17_1
  have hin19 : ¬ ((0 : Int32) < 0 ∨ cl19.slots.size ≤ ((0 : Int32)).toNatClampNeg) := inb_of Sz19 ⟨by decide, by decide⟩
  have hat19 : cl19.slots[((0 : Int32)).toNatClampNeg]? = some (.int (p2.toInt8.toInt32)) := Has.at Hs19 hin19 rfl
  obtain ⟨cl20, Ar20, qk20, Sz20, Nz20, Hs20, Gs20⟩ := id fp17_1
  have hin20 : ¬ ((1 : Int32) < 0 ∨ cl20.slots.size ≤ ((1 : Int32)).toNatClampNeg) := inb_of Sz20 ⟨by decide, by decide⟩
  have hat20 : cl20.slots[((1 : Int32)).toNatClampNeg]? = some (.int (p3.toInt8.toInt32)) := Has.at Hs20 hin20 rfl
  obtain ⟨cl21, Ar21, qk21, Sz21, Nz21, Hs21, Gs21⟩ := id fp17_1
  have hin21 : ¬ ((2 : Int32) < 0 ∨ cl21.slots.size ≤ ((2 : Int32)).toNatClampNeg) := inb_of Sz21 ⟨by decide, by decide⟩
  have hat21 : cl21.slots[((2 : Int32)).toNatClampNeg]? = some (.int (p4.toInt8.toInt32)) := Has.at Hs21 hin21 rfl
  obtain ⟨cl22, Ar22, qk22, Sz22, Nz22, Hs22, Gs22⟩ := id fp17_1
  have hin22 : ¬ ((3 : Int32) < 0 ∨ cl22.slots.size ≤ ((3 : Int32)).toNatClampNeg) := inb_of Sz22 ⟨by decide, by decide⟩
  have hat22 : cl22.slots[((3 : Int32)).toNatClampNeg]? = some (.int (p5.toInt8.toInt32)) := Has.at Hs22 hin22 rfl
  obtain ⟨fs, hr, hrun, hended, hW, hsame⟩ := X17.leave (v := some (.int (1 : Int32))) (fun h => by rw [Bd.returns] at h; cases h)
  refine ⟨_, _, pre0 _ ?_, hrun, hended, _, _, rfl, ?_, ⟨_, rfl⟩, hW, hsame.mono (by decide) (by decide)⟩
  · show Steps p.tables e below (s₁.setTop (mkF m 0 #[.val (.int p1), .val (.int p2), .val (.int p3), .val (.int p4), .val (.int p5), .val (.int p6), .unset, .unset, .unset, .unset] [])) _
    refine XS.iloadN X0.here hx rfl (hb hby at_0) rfl ?_
    show Steps p.tables e below (s₁.setTop (mkF m 1 #[.val (.int p1), .val (.int p2), .val (.int p3), .val (.int p4), .val (.int p5), .val (.int p6), .unset, .unset, .unset, .unset] [(.int p1)])) _
    refine X0.ldcInt hx hown (mvT hZ (hw _ (List.mem_of_getElem? (i := 0) rfl))) (g := (mkF m 1 #[.val (.int p1), .val (.int p2), .val (.int p3), .val (.int p4), .val (.int p5), .val (.int p6), .unset, .unset, .unset, .unset] [(.int p1)])) rfl (hb hby at_1) _ ?_
    show Steps p.tables e below (s₁.setTop (mkF m 3 #[.val (.int p1), .val (.int p2), .val (.int p3), .val (.int p4), .val (.int p5), .val (.int p6), .unset, .unset, .unset, .unset] [(.int (2147483647 : Int32)), (.int p1)])) _
    refine XS.iand X0.here hx rfl (hb hby at_3) rfl ?_
    show Steps p.tables e below (s₁.setTop (mkF m 4 #[.val (.int p1), .val (.int p2), .val (.int p3), .val (.int p4), .val (.int p5), .val (.int p6), .unset, .unset, .unset, .unset] [(.int (p1 &&& (2147483647 : Int32)))])) _
    refine XS.iconst X0.here hx rfl (hb hby at_4) ?_
    show Steps p.tables e below (s₁.setTop (mkF m 5 #[.val (.int p1), .val (.int p2), .val (.int p3), .val (.int p4), .val (.int p5), .val (.int p6), .unset, .unset, .unset, .unset] [(.int (5 : Int32)), (.int (p1 &&& (2147483647 : Int32)))])) _
    refine iremM X0 hx rfl (hb hby at_5) rfl (by decide) ?_
    show Steps p.tables e below (s₁.setTop (mkF m 6 #[.val (.int p1), .val (.int p2), .val (.int p3), .val (.int p4), .val (.int p5), .val (.int p6), .unset, .unset, .unset, .unset] [(.int ((p1 &&& (2147483647 : Int32)) % (5 : Int32)))])) _
    rw [hk]
    show Steps p.tables e below (s₁.setTop (mkF m 6 #[.val (.int p1), .val (.int p2), .val (.int p3), .val (.int p4), .val (.int p5), .val (.int p6), .unset, .unset, .unset, .unset] [(.int (4 : Int32))])) _
    refine XS.istore X0.here hx rfl (hb hby at_6) rfl (l' := #[.val (.int p1), .val (.int p2), .val (.int p3), .val (.int p4), .val (.int p5), .val (.int p6), .val (.int (4 : Int32)), .unset, .unset, .unset]) rfl ?_
    show Steps p.tables e below (s₁.setTop (mkF m 8 #[.val (.int p1), .val (.int p2), .val (.int p3), .val (.int p4), .val (.int p5), .val (.int p6), .val (.int (4 : Int32)), .unset, .unset, .unset] [])) _
    refine XS.iload X0.here hx rfl (hb hby at_8) rfl ?_
    show Steps p.tables e below (s₁.setTop (mkF m 10 #[.val (.int p1), .val (.int p2), .val (.int p3), .val (.int p4), .val (.int p5), .val (.int p6), .val (.int (4 : Int32)), .unset, .unset, .unset] [(.int (4 : Int32))])) _
    refine st1 _ ?_
    show Steps p.tables e below (T1.setTop (mkF m 12 #[.val (.int p1), .val (.int p2), .val (.int p3), .val (.int p4), .val (.int p5), .val (.int p6), .val (.int (4 : Int32)), .unset, .unset, .unset] [(.ref b1)])) _
    refine XS.astore X1.here hx rfl (hb hby at_12) rfl rfl (l' := #[.val (.int p1), .val (.int p2), .val (.int p3), .val (.int p4), .val (.int p5), .val (.int p6), .val (.int (4 : Int32)), .val (.ref b1), .unset, .unset]) rfl ?_
    show Steps p.tables e below (T1.setTop (mkF m 14 #[.val (.int p1), .val (.int p2), .val (.int p3), .val (.int p4), .val (.int p5), .val (.int p6), .val (.int (4 : Int32)), .val (.ref b1), .unset, .unset] [])) _
    refine XS.iload X1.here hx rfl (hb hby at_14) rfl ?_
    show Steps p.tables e below (T1.setTop (mkF m 16 #[.val (.int p1), .val (.int p2), .val (.int p3), .val (.int p4), .val (.int p5), .val (.int p6), .val (.int (4 : Int32)), .val (.ref b1), .unset, .unset] [(.int (4 : Int32))])) _
    refine XS.ifNo X1.here hx rfl (hb hby at_16) rfl ((if0 _ _).trans (tlt ((by decide) : (0 : Int32) < (4 : Int32))).2.2.2) ?_
    show Steps p.tables e below (T1.setTop (mkF m 19 #[.val (.int p1), .val (.int p2), .val (.int p3), .val (.int p4), .val (.int p5), .val (.int p6), .val (.int (4 : Int32)), .val (.ref b1), .unset, .unset] [])) _
    refine XS.aload X1.here hx rfl (hb hby at_19) rfl rfl ?_
    show Steps p.tables e below (T1.setTop (mkF m 21 #[.val (.int p1), .val (.int p2), .val (.int p3), .val (.int p4), .val (.int p5), .val (.int p6), .val (.int (4 : Int32)), .val (.ref b1), .unset, .unset] [(.ref b1)])) _
    refine XS.iconst X1.here hx rfl (hb hby at_21) ?_
    show Steps p.tables e below (T1.setTop (mkF m 22 #[.val (.int p1), .val (.int p2), .val (.int p3), .val (.int p4), .val (.int p5), .val (.int p6), .val (.int (4 : Int32)), .val (.ref b1), .unset, .unset] [(.int (0 : Int32)), (.ref b1)])) _
    refine XS.iloadN X1.here hx rfl (hb hby at_22) rfl ?_
    show Steps p.tables e below (T1.setTop (mkF m 23 #[.val (.int p1), .val (.int p2), .val (.int p3), .val (.int p4), .val (.int p5), .val (.int p6), .val (.int (4 : Int32)), .val (.ref b1), .unset, .unset] [(.int p2), (.int (0 : Int32)), (.ref b1)])) _
    refine XS.i2b X1.here hx rfl (hb hby at_23) rfl ?_
    show Steps p.tables e below (T1.setTop (mkF m 24 #[.val (.int p1), .val (.int p2), .val (.int p3), .val (.int p4), .val (.int p5), .val (.int p6), .val (.int (4 : Int32)), .val (.ref b1), .unset, .unset] [(.int (p2.toInt8.toInt32)), (.int (0 : Int32)), (.ref b1)])) _
    refine st3 _ ?_
    show Steps p.tables e below (T3.setTop (mkF m 25 #[.val (.int p1), .val (.int p2), .val (.int p3), .val (.int p4), .val (.int p5), .val (.int p6), .val (.int (4 : Int32)), .val (.ref b1), .unset, .unset] [])) _
    refine XS.iload X3.here hx rfl (hb hby at_25) rfl ?_
    show Steps p.tables e below (T3.setTop (mkF m 27 #[.val (.int p1), .val (.int p2), .val (.int p3), .val (.int p4), .val (.int p5), .val (.int p6), .val (.int (4 : Int32)), .val (.ref b1), .unset, .unset] [(.int (4 : Int32))])) _
    refine XS.iconst X3.here hx rfl (hb hby at_27) ?_
    show Steps p.tables e below (T3.setTop (mkF m 28 #[.val (.int p1), .val (.int p2), .val (.int p3), .val (.int p4), .val (.int p5), .val (.int p6), .val (.int (4 : Int32)), .val (.ref b1), .unset, .unset] [(.int (1 : Int32)), (.int (4 : Int32))])) _
    refine XS.icmpNo X3.here hx rfl (hb hby at_28) rfl (tlt ((by decide) : (1 : Int32) < (4 : Int32))).2.2.2 ?_
    show Steps p.tables e below (T3.setTop (mkF m 31 #[.val (.int p1), .val (.int p2), .val (.int p3), .val (.int p4), .val (.int p5), .val (.int p6), .val (.int (4 : Int32)), .val (.ref b1), .unset, .unset] [])) _
    refine XS.aload X3.here hx rfl (hb hby at_31) rfl rfl ?_
    show Steps p.tables e below (T3.setTop (mkF m 33 #[.val (.int p1), .val (.int p2), .val (.int p3), .val (.int p4), .val (.int p5), .val (.int p6), .val (.int (4 : Int32)), .val (.ref b1), .unset, .unset] [(.ref b1)])) _
    refine XS.iconst X3.here hx rfl (hb hby at_33) ?_
    show Steps p.tables e below (T3.setTop (mkF m 34 #[.val (.int p1), .val (.int p2), .val (.int p3), .val (.int p4), .val (.int p5), .val (.int p6), .val (.int (4 : Int32)), .val (.ref b1), .unset, .unset] [(.int (1 : Int32)), (.ref b1)])) _
    refine XS.iloadN X3.here hx rfl (hb hby at_34) rfl ?_
    show Steps p.tables e below (T3.setTop (mkF m 35 #[.val (.int p1), .val (.int p2), .val (.int p3), .val (.int p4), .val (.int p5), .val (.int p6), .val (.int (4 : Int32)), .val (.ref b1), .unset, .unset] [(.int p3), (.int (1 : Int32)), (.ref b1)])) _
    refine XS.i2b X3.here hx rfl (hb hby at_35) rfl ?_
    show Steps p.tables e below (T3.setTop (mkF m 36 #[.val (.int p1), .val (.int p2), .val (.int p3), .val (.int p4), .val (.int p5), .val (.int p6), .val (.int (4 : Int32)), .val (.ref b1), .unset, .unset] [(.int (p3.toInt8.toInt32)), (.int (1 : Int32)), (.ref b1)])) _
    refine st5 _ ?_
    show Steps p.tables e below (T5.setTop (mkF m 37 #[.val (.int p1), .val (.int p2), .val (.int p3), .val (.int p4), .val (.int p5), .val (.int p6), .val (.int (4 : Int32)), .val (.ref b1), .unset, .unset] [])) _
    refine XS.iload X5.here hx rfl (hb hby at_37) rfl ?_
    show Steps p.tables e below (T5.setTop (mkF m 39 #[.val (.int p1), .val (.int p2), .val (.int p3), .val (.int p4), .val (.int p5), .val (.int p6), .val (.int (4 : Int32)), .val (.ref b1), .unset, .unset] [(.int (4 : Int32))])) _
    refine XS.iconst X5.here hx rfl (hb hby at_39) ?_
    show Steps p.tables e below (T5.setTop (mkF m 40 #[.val (.int p1), .val (.int p2), .val (.int p3), .val (.int p4), .val (.int p5), .val (.int p6), .val (.int (4 : Int32)), .val (.ref b1), .unset, .unset] [(.int (2 : Int32)), (.int (4 : Int32))])) _
    refine XS.icmpNo X5.here hx rfl (hb hby at_40) rfl (tlt ((by decide) : (2 : Int32) < (4 : Int32))).2.2.2 ?_
    show Steps p.tables e below (T5.setTop (mkF m 43 #[.val (.int p1), .val (.int p2), .val (.int p3), .val (.int p4), .val (.int p5), .val (.int p6), .val (.int (4 : Int32)), .val (.ref b1), .unset, .unset] [])) _
    refine XS.aload X5.here hx rfl (hb hby at_43) rfl rfl ?_
    show Steps p.tables e below (T5.setTop (mkF m 45 #[.val (.int p1), .val (.int p2), .val (.int p3), .val (.int p4), .val (.int p5), .val (.int p6), .val (.int (4 : Int32)), .val (.ref b1), .unset, .unset] [(.ref b1)])) _
    refine XS.iconst X5.here hx rfl (hb hby at_45) ?_
    show Steps p.tables e below (T5.setTop (mkF m 46 #[.val (.int p1), .val (.int p2), .val (.int p3), .val (.int p4), .val (.int p5), .val (.int p6), .val (.int (4 : Int32)), .val (.ref b1), .unset, .unset] [(.int (2 : Int32)), (.ref b1)])) _
    refine XS.iloadN X5.here hx rfl (hb hby at_46) rfl ?_
    show Steps p.tables e below (T5.setTop (mkF m 47 #[.val (.int p1), .val (.int p2), .val (.int p3), .val (.int p4), .val (.int p5), .val (.int p6), .val (.int (4 : Int32)), .val (.ref b1), .unset, .unset] [(.int p4), (.int (2 : Int32)), (.ref b1)])) _
    refine XS.i2b X5.here hx rfl (hb hby at_47) rfl ?_
    show Steps p.tables e below (T5.setTop (mkF m 48 #[.val (.int p1), .val (.int p2), .val (.int p3), .val (.int p4), .val (.int p5), .val (.int p6), .val (.int (4 : Int32)), .val (.ref b1), .unset, .unset] [(.int (p4.toInt8.toInt32)), (.int (2 : Int32)), (.ref b1)])) _
    refine st7 _ ?_
    show Steps p.tables e below (T7.setTop (mkF m 49 #[.val (.int p1), .val (.int p2), .val (.int p3), .val (.int p4), .val (.int p5), .val (.int p6), .val (.int (4 : Int32)), .val (.ref b1), .unset, .unset] [])) _
    refine XS.iload X7.here hx rfl (hb hby at_49) rfl ?_
    show Steps p.tables e below (T7.setTop (mkF m 51 #[.val (.int p1), .val (.int p2), .val (.int p3), .val (.int p4), .val (.int p5), .val (.int p6), .val (.int (4 : Int32)), .val (.ref b1), .unset, .unset] [(.int (4 : Int32))])) _
    refine XS.iconst X7.here hx rfl (hb hby at_51) ?_
    show Steps p.tables e below (T7.setTop (mkF m 52 #[.val (.int p1), .val (.int p2), .val (.int p3), .val (.int p4), .val (.int p5), .val (.int p6), .val (.int (4 : Int32)), .val (.ref b1), .unset, .unset] [(.int (3 : Int32)), (.int (4 : Int32))])) _
    refine XS.icmpNo X7.here hx rfl (hb hby at_52) rfl (tlt ((by decide) : (3 : Int32) < (4 : Int32))).2.2.2 ?_
    show Steps p.tables e below (T7.setTop (mkF m 55 #[.val (.int p1), .val (.int p2), .val (.int p3), .val (.int p4), .val (.int p5), .val (.int p6), .val (.int (4 : Int32)), .val (.ref b1), .unset, .unset] [])) _
    refine XS.aload X7.here hx rfl (hb hby at_55) rfl rfl ?_
    show Steps p.tables e below (T7.setTop (mkF m 57 #[.val (.int p1), .val (.int p2), .val (.int p3), .val (.int p4), .val (.int p5), .val (.int p6), .val (.int (4 : Int32)), .val (.ref b1), .unset, .unset] [(.ref b1)])) _
    refine XS.iconst X7.here hx rfl (hb hby at_57) ?_
    show Steps p.tables e below (T7.setTop (mkF m 58 #[.val (.int p1), .val (.int p2), .val (.int p3), .val (.int p4), .val (.int p5), .val (.int p6), .val (.int (4 : Int32)), .val (.ref b1), .unset, .unset] [(.int (3 : Int32)), (.ref b1)])) _
    refine XS.iload X7.here hx rfl (hb hby at_58) rfl ?_
    show Steps p.tables e below (T7.setTop (mkF m 60 #[.val (.int p1), .val (.int p2), .val (.int p3), .val (.int p4), .val (.int p5), .val (.int p6), .val (.int (4 : Int32)), .val (.ref b1), .unset, .unset] [(.int p5), (.int (3 : Int32)), (.ref b1)])) _
    refine XS.i2b X7.here hx rfl (hb hby at_60) rfl ?_
    show Steps p.tables e below (T7.setTop (mkF m 61 #[.val (.int p1), .val (.int p2), .val (.int p3), .val (.int p4), .val (.int p5), .val (.int p6), .val (.int (4 : Int32)), .val (.ref b1), .unset, .unset] [(.int (p5.toInt8.toInt32)), (.int (3 : Int32)), (.ref b1)])) _
    refine st9 _ ?_
    show Steps p.tables e below (T9.setTop (mkF m 62 #[.val (.int p1), .val (.int p2), .val (.int p3), .val (.int p4), .val (.int p5), .val (.int p6), .val (.int (4 : Int32)), .val (.ref b1), .unset, .unset] [])) _
    refine XS.aload X9.here hx rfl (hb hby at_62) rfl rfl ?_
    show Steps p.tables e below (T9.setTop (mkF m 64 #[.val (.int p1), .val (.int p2), .val (.int p3), .val (.int p4), .val (.int p5), .val (.int p6), .val (.int (4 : Int32)), .val (.ref b1), .unset, .unset] [(.ref b1)])) _
    refine st10 _ ?_
    show Steps p.tables e below (T10.setTop (mkF m 67 #[.val (.int p1), .val (.int p2), .val (.int p3), .val (.int p4), .val (.int p5), .val (.int p6), .val (.int (4 : Int32)), .val (.ref b1), .unset, .unset] [(.ref b10_b1)])) _
    refine XS.astore X10.here hx rfl (hb hby at_67) rfl rfl (l' := #[.val (.int p1), .val (.int p2), .val (.int p3), .val (.int p4), .val (.int p5), .val (.int p6), .val (.int (4 : Int32)), .val (.ref b1), .val (.ref b10_b1), .unset]) rfl ?_
    show Steps p.tables e below (T10.setTop (mkF m 69 #[.val (.int p1), .val (.int p2), .val (.int p3), .val (.int p4), .val (.int p5), .val (.int p6), .val (.int (4 : Int32)), .val (.ref b1), .val (.ref b10_b1), .unset] [])) _
    refine XS.iload X10.here hx rfl (hb hby at_69) rfl ?_
    show Steps p.tables e below (T10.setTop (mkF m 71 #[.val (.int p1), .val (.int p2), .val (.int p3), .val (.int p4), .val (.int p5), .val (.int p6), .val (.int (4 : Int32)), .val (.ref b1), .val (.ref b10_b1), .unset] [(.int (4 : Int32))])) _
    refine XS.ifNo X10.here hx rfl (hb hby at_71) rfl ((if0 _ _).trans (tlt ((by decide) : (0 : Int32) < (4 : Int32))).2.2.2) ?_
    show Steps p.tables e below (T10.setTop (mkF m 74 #[.val (.int p1), .val (.int p2), .val (.int p3), .val (.int p4), .val (.int p5), .val (.int p6), .val (.int (4 : Int32)), .val (.ref b1), .val (.ref b10_b1), .unset] [])) _
    refine XS.iload X10.here hx rfl (hb hby at_74) rfl ?_
    show Steps p.tables e below (T10.setTop (mkF m 76 #[.val (.int p1), .val (.int p2), .val (.int p3), .val (.int p4), .val (.int p5), .val (.int p6), .val (.int (4 : Int32)), .val (.ref b1), .val (.ref b10_b1), .unset] [(.int p6)])) _
    refine X10.ldcInt hx hown (mvT hZ (hw _ (List.mem_of_getElem? (i := 0) rfl))) (g := (mkF m 76 #[.val (.int p1), .val (.int p2), .val (.int p3), .val (.int p4), .val (.int p5), .val (.int p6), .val (.int (4 : Int32)), .val (.ref b1), .val (.ref b10_b1), .unset] [(.int p6)])) rfl (hb hby at_76) _ ?_
    show Steps p.tables e below (T10.setTop (mkF m 78 #[.val (.int p1), .val (.int p2), .val (.int p3), .val (.int p4), .val (.int p5), .val (.int p6), .val (.int (4 : Int32)), .val (.ref b1), .val (.ref b10_b1), .unset] [(.int (2147483647 : Int32)), (.int p6)])) _
    refine XS.iand X10.here hx rfl (hb hby at_78) rfl ?_
    show Steps p.tables e below (T10.setTop (mkF m 79 #[.val (.int p1), .val (.int p2), .val (.int p3), .val (.int p4), .val (.int p5), .val (.int p6), .val (.int (4 : Int32)), .val (.ref b1), .val (.ref b10_b1), .unset] [(.int (p6 &&& (2147483647 : Int32)))])) _
    refine XS.iload X10.here hx rfl (hb hby at_79) rfl ?_
    show Steps p.tables e below (T10.setTop (mkF m 81 #[.val (.int p1), .val (.int p2), .val (.int p3), .val (.int p4), .val (.int p5), .val (.int p6), .val (.int (4 : Int32)), .val (.ref b1), .val (.ref b10_b1), .unset] [(.int (4 : Int32)), (.int (p6 &&& (2147483647 : Int32)))])) _
    refine iremM X10 hx rfl (hb hby at_81) rfl (by decide) ?_
    show Steps p.tables e below (T10.setTop (mkF m 82 #[.val (.int p1), .val (.int p2), .val (.int p3), .val (.int p4), .val (.int p5), .val (.int p6), .val (.int (4 : Int32)), .val (.ref b1), .val (.ref b10_b1), .unset] [(.int ((p6 &&& (2147483647 : Int32)) % (4 : Int32)))])) _
    rw [hi]
    show Steps p.tables e below (T10.setTop (mkF m 82 #[.val (.int p1), .val (.int p2), .val (.int p3), .val (.int p4), .val (.int p5), .val (.int p6), .val (.int (4 : Int32)), .val (.ref b1), .val (.ref b10_b1), .unset] [(.int (0 : Int32))])) _
    refine XS.istore X10.here hx rfl (hb hby at_82) rfl (l' := #[.val (.int p1), .val (.int p2), .val (.int p3), .val (.int p4), .val (.int p5), .val (.int p6), .val (.int (4 : Int32)), .val (.ref b1), .val (.ref b10_b1), .val (.int (0 : Int32))]) rfl ?_
    show Steps p.tables e below (T10.setTop (mkF m 84 #[.val (.int p1), .val (.int p2), .val (.int p3), .val (.int p4), .val (.int p5), .val (.int p6), .val (.int (4 : Int32)), .val (.ref b1), .val (.ref b10_b1), .val (.int (0 : Int32))] [])) _
    refine XS.aload X10.here hx rfl (hb hby at_84) rfl rfl ?_
    show Steps p.tables e below (T10.setTop (mkF m 86 #[.val (.int p1), .val (.int p2), .val (.int p3), .val (.int p4), .val (.int p5), .val (.int p6), .val (.int (4 : Int32)), .val (.ref b1), .val (.ref b10_b1), .val (.int (0 : Int32))] [(.ref b1)])) _
    refine XS.iload X10.here hx rfl (hb hby at_86) rfl ?_
    show Steps p.tables e below (T10.setTop (mkF m 88 #[.val (.int p1), .val (.int p2), .val (.int p3), .val (.int p4), .val (.int p5), .val (.int p6), .val (.int (4 : Int32)), .val (.ref b1), .val (.ref b10_b1), .val (.int (0 : Int32))] [(.int (0 : Int32)), (.ref b1)])) _
    refine XS.aload X10.here hx rfl (hb hby at_88) rfl rfl ?_
    show Steps p.tables e below (T10.setTop (mkF m 90 #[.val (.int p1), .val (.int p2), .val (.int p3), .val (.int p4), .val (.int p5), .val (.int p6), .val (.int (4 : Int32)), .val (.ref b1), .val (.ref b10_b1), .val (.int (0 : Int32))] [(.ref b1), (.int (0 : Int32)), (.ref b1)])) _
    refine XS.iload X10.here hx rfl (hb hby at_90) rfl ?_
    show Steps p.tables e below (T10.setTop (mkF m 92 #[.val (.int p1), .val (.int p2), .val (.int p3), .val (.int p4), .val (.int p5), .val (.int p6), .val (.int (4 : Int32)), .val (.ref b1), .val (.ref b10_b1), .val (.int (0 : Int32))] [(.int (0 : Int32)), (.ref b1), (.int (0 : Int32)), (.ref b1)])) _
    refine X10.baloadBytes hx (j := (0 : Int32)) (v := (.int (p2.toInt8.toInt32))) Ar11.1 (State.isArrayOf_alike hZ.alike Ar11.2.1) Ar11.2.2 hin11 hat11 (g := (mkF m 92 #[.val (.int p1), .val (.int p2), .val (.int p3), .val (.int p4), .val (.int p5), .val (.int p6), .val (.int (4 : Int32)), .val (.ref b1), .val (.ref b10_b1), .val (.int (0 : Int32))] [(.int (0 : Int32)), (.ref b1), (.int (0 : Int32)), (.ref b1)])) rfl rfl (hb hby at_92) _ ?_
    show Steps p.tables e below (T10.setTop (mkF m 93 #[.val (.int p1), .val (.int p2), .val (.int p3), .val (.int p4), .val (.int p5), .val (.int p6), .val (.int (4 : Int32)), .val (.ref b1), .val (.ref b10_b1), .val (.int (0 : Int32))] [(.int (p2.toInt8.toInt32)), (.int (0 : Int32)), (.ref b1)])) _
    refine XS.iconst X10.here hx rfl (hb hby at_93) ?_
    show Steps p.tables e below (T10.setTop (mkF m 94 #[.val (.int p1), .val (.int p2), .val (.int p3), .val (.int p4), .val (.int p5), .val (.int p6), .val (.int (4 : Int32)), .val (.ref b1), .val (.ref b10_b1), .val (.int (0 : Int32))] [(.int (-1 : Int32)), (.int (p2.toInt8.toInt32)), (.int (0 : Int32)), (.ref b1)])) _
    refine XS.ixor X10.here hx rfl (hb hby at_94) rfl ?_
    show Steps p.tables e below (T10.setTop (mkF m 95 #[.val (.int p1), .val (.int p2), .val (.int p3), .val (.int p4), .val (.int p5), .val (.int p6), .val (.int (4 : Int32)), .val (.ref b1), .val (.ref b10_b1), .val (.int (0 : Int32))] [(.int ((p2.toInt8.toInt32) ^^^ (-1 : Int32))), (.int (0 : Int32)), (.ref b1)])) _
    refine XS.i2b X10.here hx rfl (hb hby at_95) rfl ?_
    show Steps p.tables e below (T10.setTop (mkF m 96 #[.val (.int p1), .val (.int p2), .val (.int p3), .val (.int p4), .val (.int p5), .val (.int p6), .val (.int (4 : Int32)), .val (.ref b1), .val (.ref b10_b1), .val (.int (0 : Int32))] [(.int (((p2.toInt8.toInt32) ^^^ (-1 : Int32)).toInt8.toInt32)), (.int (0 : Int32)), (.ref b1)])) _
    refine st13 _ ?_
    show Steps p.tables e below (T13.setTop (mkF m 97 #[.val (.int p1), .val (.int p2), .val (.int p3), .val (.int p4), .val (.int p5), .val (.int p6), .val (.int (4 : Int32)), .val (.ref b1), .val (.ref b10_b1), .val (.int (0 : Int32))] [])) _
    refine XS.aload X13.here hx rfl (hb hby at_97) rfl rfl ?_
    show Steps p.tables e below (T13.setTop (mkF m 99 #[.val (.int p1), .val (.int p2), .val (.int p3), .val (.int p4), .val (.int p5), .val (.int p6), .val (.int (4 : Int32)), .val (.ref b1), .val (.ref b10_b1), .val (.int (0 : Int32))] [(.ref b10_b1)])) _
    refine st14.trans ?_
    show Steps p.tables e below (T14.setTop (mkF m 102 #[.val (.int p1), .val (.int p2), .val (.int p3), .val (.int p4), .val (.int p5), .val (.int p6), .val (.int (4 : Int32)), .val (.ref b1), .val (.ref b10_b1), .val (.int (0 : Int32))] [(.ref w_n1)])) _
    refine st15 _ ?_
    show Steps p.tables e below (T15.setTop (mkF m 105 #[.val (.int p1), .val (.int p2), .val (.int p3), .val (.int p4), .val (.int p5), .val (.int p6), .val (.int (4 : Int32)), .val (.ref b1), .val (.ref b10_b1), .val (.int (0 : Int32))] [(.ref w_n1), (.ref w_n1)])) _
    refine Jvm.RoadKit.acmp (g := (mkF m 105 #[.val (.int p1), .val (.int p2), .val (.int p3), .val (.int p4), .val (.int p5), .val (.int p6), .val (.int (4 : Int32)), .val (.ref b1), .val (.ref b10_b1), .val (.int (0 : Int32))] [(.ref w_n1), (.ref w_n1)])) X15 hx rfl rfl rfl (pc0 := 105) (pc' := 110) (same := true) rfl (hb hby at_105) rfl (decide_eq_true rfl) (by decide) (by decide) ?_
    show Steps p.tables e below (T15.setTop (mkF m 110 #[.val (.int p1), .val (.int p2), .val (.int p3), .val (.int p4), .val (.int p5), .val (.int p6), .val (.int (4 : Int32)), .val (.ref b1), .val (.ref b10_b1), .val (.int (0 : Int32))] [])) _
    refine XS.aload X15.here hx rfl (hb hby at_110) rfl rfl ?_
    show Steps p.tables e below (T15.setTop (mkF m 112 #[.val (.int p1), .val (.int p2), .val (.int p3), .val (.int p4), .val (.int p5), .val (.int p6), .val (.int (4 : Int32)), .val (.ref b1), .val (.ref b10_b1), .val (.int (0 : Int32))] [(.ref b10_b1)])) _
    refine st16.trans ?_
    show Steps p.tables e below (T16.setTop (mkF m 115 #[.val (.int p1), .val (.int p2), .val (.int p3), .val (.int p4), .val (.int p5), .val (.int p6), .val (.int (4 : Int32)), .val (.ref b1), .val (.ref b10_b1), .val (.int (0 : Int32))] [(.int (4 : Int32))])) _
    refine XS.iload X16.here hx rfl (hb hby at_115) rfl ?_
    show Steps p.tables e below (T16.setTop (mkF m 117 #[.val (.int p1), .val (.int p2), .val (.int p3), .val (.int p4), .val (.int p5), .val (.int p6), .val (.int (4 : Int32)), .val (.ref b1), .val (.ref b10_b1), .val (.int (0 : Int32))] [(.int (4 : Int32)), (.int (4 : Int32))])) _
    refine XS.icmpYes X16.here hx rfl (pc0 := 117) (pc' := 122) rfl (hb hby at_117) rfl (teq ((by decide) : (4 : Int32) = (4 : Int32))).1 (by decide) (by decide) ?_
    show Steps p.tables e below (T16.setTop (mkF m 122 #[.val (.int p1), .val (.int p2), .val (.int p3), .val (.int p4), .val (.int p5), .val (.int p6), .val (.int (4 : Int32)), .val (.ref b1), .val (.ref b10_b1), .val (.int (0 : Int32))] [])) _
    refine XS.aload X16.here hx rfl (hb hby at_122) rfl rfl ?_
    show Steps p.tables e below (T16.setTop (mkF m 124 #[.val (.int p1), .val (.int p2), .val (.int p3), .val (.int p4), .val (.int p5), .val (.int p6), .val (.int (4 : Int32)), .val (.ref b1), .val (.ref b10_b1), .val (.int (0 : Int32))] [(.ref b10_b1)])) _
    refine st17.trans ?_
    show Steps p.tables e below (T17.setTop (mkF m 127 #[.val (.int p1), .val (.int p2), .val (.int p3), .val (.int p4), .val (.int p5), .val (.int p6), .val (.int (4 : Int32)), .val (.ref b1), .val (.ref b10_b1), .val (.int (0 : Int32))] [(.ref b17_b4)])) _
    refine XS.astore X17.here hx rfl (hb hby at_127) rfl rfl (l' := #[.val (.int p1), .val (.int p2), .val (.int p3), .val (.int p4), .val (.int p5), .val (.int p6), .val (.int (4 : Int32)), .val (.ref b1), .val (.ref b10_b1), .val (.ref b17_b4)]) rfl ?_
    show Steps p.tables e below (T17.setTop (mkF m 129 #[.val (.int p1), .val (.int p2), .val (.int p3), .val (.int p4), .val (.int p5), .val (.int p6), .val (.int (4 : Int32)), .val (.ref b1), .val (.ref b10_b1), .val (.ref b17_b4)] [])) _
    refine XS.aload X17.here hx rfl (hb hby at_129) rfl rfl ?_
    show Steps p.tables e below (T17.setTop (mkF m 131 #[.val (.int p1), .val (.int p2), .val (.int p3), .val (.int p4), .val (.int p5), .val (.int p6), .val (.int (4 : Int32)), .val (.ref b1), .val (.ref b10_b1), .val (.ref b17_b4)] [(.ref b17_b4)])) _
    refine X17.arraylength hx Ar18.1 (State.isArrayOf_alike hZ.alike Ar18.2.1) (g := (mkF m 131 #[.val (.int p1), .val (.int p2), .val (.int p3), .val (.int p4), .val (.int p5), .val (.int p6), .val (.int (4 : Int32)), .val (.ref b1), .val (.ref b10_b1), .val (.ref b17_b4)] [(.ref b17_b4)])) rfl rfl (hb hby at_131) _ ?_
    rw [len_of Sz18 Nz18]
    show Steps p.tables e below (T17.setTop (mkF m 132 #[.val (.int p1), .val (.int p2), .val (.int p3), .val (.int p4), .val (.int p5), .val (.int p6), .val (.int (4 : Int32)), .val (.ref b1), .val (.ref b10_b1), .val (.ref b17_b4)] [(.int (4 : Int32))])) _
    refine XS.iload X17.here hx rfl (hb hby at_132) rfl ?_
    show Steps p.tables e below (T17.setTop (mkF m 134 #[.val (.int p1), .val (.int p2), .val (.int p3), .val (.int p4), .val (.int p5), .val (.int p6), .val (.int (4 : Int32)), .val (.ref b1), .val (.ref b10_b1), .val (.ref b17_b4)] [(.int (4 : Int32)), (.int (4 : Int32))])) _
    refine XS.icmpYes X17.here hx rfl (pc0 := 134) (pc' := 139) rfl (hb hby at_134) rfl (teq ((by decide) : (4 : Int32) = (4 : Int32))).1 (by decide) (by decide) ?_
    show Steps p.tables e below (T17.setTop (mkF m 139 #[.val (.int p1), .val (.int p2), .val (.int p3), .val (.int p4), .val (.int p5), .val (.int p6), .val (.int (4 : Int32)), .val (.ref b1), .val (.ref b10_b1), .val (.ref b17_b4)] [])) _
    refine XS.iload X17.here hx rfl (hb hby at_139) rfl ?_
    show Steps p.tables e below (T17.setTop (mkF m 141 #[.val (.int p1), .val (.int p2), .val (.int p3), .val (.int p4), .val (.int p5), .val (.int p6), .val (.int (4 : Int32)), .val (.ref b1), .val (.ref b10_b1), .val (.ref b17_b4)] [(.int (4 : Int32))])) _
    refine XS.ifNo X17.here hx rfl (hb hby at_141) rfl ((if0 _ _).trans (tlt ((by decide) : (0 : Int32) < (4 : Int32))).2.2.2) ?_
    show Steps p.tables e below (T17.setTop (mkF m 144 #[.val (.int p1), .val (.int p2), .val (.int p3), .val (.int p4), .val (.int p5), .val (.int p6), .val (.int (4 : Int32)), .val (.ref b1), .val (.ref b10_b1), .val (.ref b17_b4)] [])) _
    refine XS.aload X17.here hx rfl (hb hby at_144) rfl rfl ?_
    show Steps p.tables e below (T17.setTop (mkF m 146 #[.val (.int p1), .val (.int p2), .val (.int p3), .val (.int p4), .val (.int p5), .val (.int p6), .val (.int (4 : Int32)), .val (.ref b1), .val (.ref b10_b1), .val (.ref b17_b4)] [(.ref b17_b4)])) _
    refine XS.iconst X17.here hx rfl (hb hby at_146) ?_
    show Steps p.tables e below (T17.setTop (mkF m 147 #[.val (.int p1), .val (.int p2), .val (.int p3), .val (.int p4), .val (.int p5), .val (.int p6), .val (.int (4 : Int32)), .val (.ref b1), .val (.ref b10_b1), .val (.ref b17_b4)] [(.int (0 : Int32)), (.ref b17_b4)])) _
    refine X17.baloadBytes hx (j := (0 : Int32)) (v := (.int (p2.toInt8.toInt32))) Ar19.1 (State.isArrayOf_alike hZ.alike Ar19.2.1) Ar19.2.2 hin19 hat19 (g := (mkF m 147 #[.val (.int p1), .val (.int p2), .val (.int p3), .val (.int p4), .val (.int p5), .val (.int p6), .val (.int (4 : Int32)), .val (.ref b1), .val (.ref b10_b1), .val (.ref b17_b4)] [(.int (0 : Int32)), (.ref b17_b4)])) rfl rfl (hb hby at_147) _ ?_
    show Steps p.tables e below (T17.setTop (mkF m 148 #[.val (.int p1), .val (.int p2), .val (.int p3), .val (.int p4), .val (.int p5), .val (.int p6), .val (.int (4 : Int32)), .val (.ref b1), .val (.ref b10_b1), .val (.ref b17_b4)] [(.int (p2.toInt8.toInt32))])) _
    refine XS.iloadN X17.here hx rfl (hb hby at_148) rfl ?_
    show Steps p.tables e below (T17.setTop (mkF m 149 #[.val (.int p1), .val (.int p2), .val (.int p3), .val (.int p4), .val (.int p5), .val (.int p6), .val (.int (4 : Int32)), .val (.ref b1), .val (.ref b10_b1), .val (.ref b17_b4)] [(.int p2), (.int (p2.toInt8.toInt32))])) _
    refine XS.i2b X17.here hx rfl (hb hby at_149) rfl ?_
    show Steps p.tables e below (T17.setTop (mkF m 150 #[.val (.int p1), .val (.int p2), .val (.int p3), .val (.int p4), .val (.int p5), .val (.int p6), .val (.int (4 : Int32)), .val (.ref b1), .val (.ref b10_b1), .val (.ref b17_b4)] [(.int (p2.toInt8.toInt32)), (.int (p2.toInt8.toInt32))])) _
    refine XS.icmpYes X17.here hx rfl (pc0 := 150) (pc' := 155) rfl (hb hby at_150) rfl (teq (rfl : (p2.toInt8.toInt32) = (p2.toInt8.toInt32))).1 (by decide) (by decide) ?_
    show Steps p.tables e below (T17.setTop (mkF m 155 #[.val (.int p1), .val (.int p2), .val (.int p3), .val (.int p4), .val (.int p5), .val (.int p6), .val (.int (4 : Int32)), .val (.ref b1), .val (.ref b10_b1), .val (.ref b17_b4)] [])) _
    refine XS.iload X17.here hx rfl (hb hby at_155) rfl ?_
    show Steps p.tables e below (T17.setTop (mkF m 157 #[.val (.int p1), .val (.int p2), .val (.int p3), .val (.int p4), .val (.int p5), .val (.int p6), .val (.int (4 : Int32)), .val (.ref b1), .val (.ref b10_b1), .val (.ref b17_b4)] [(.int (4 : Int32))])) _
    refine XS.iconst X17.here hx rfl (hb hby at_157) ?_
    show Steps p.tables e below (T17.setTop (mkF m 158 #[.val (.int p1), .val (.int p2), .val (.int p3), .val (.int p4), .val (.int p5), .val (.int p6), .val (.int (4 : Int32)), .val (.ref b1), .val (.ref b10_b1), .val (.ref b17_b4)] [(.int (1 : Int32)), (.int (4 : Int32))])) _
    refine XS.icmpNo X17.here hx rfl (hb hby at_158) rfl (tlt ((by decide) : (1 : Int32) < (4 : Int32))).2.2.2 ?_
    show Steps p.tables e below (T17.setTop (mkF m 161 #[.val (.int p1), .val (.int p2), .val (.int p3), .val (.int p4), .val (.int p5), .val (.int p6), .val (.int (4 : Int32)), .val (.ref b1), .val (.ref b10_b1), .val (.ref b17_b4)] [])) _
    refine XS.aload X17.here hx rfl (hb hby at_161) rfl rfl ?_
    show Steps p.tables e below (T17.setTop (mkF m 163 #[.val (.int p1), .val (.int p2), .val (.int p3), .val (.int p4), .val (.int p5), .val (.int p6), .val (.int (4 : Int32)), .val (.ref b1), .val (.ref b10_b1), .val (.ref b17_b4)] [(.ref b17_b4)])) _
    refine XS.iconst X17.here hx rfl (hb hby at_163) ?_
    show Steps p.tables e below (T17.setTop (mkF m 164 #[.val (.int p1), .val (.int p2), .val (.int p3), .val (.int p4), .val (.int p5), .val (.int p6), .val (.int (4 : Int32)), .val (.ref b1), .val (.ref b10_b1), .val (.ref b17_b4)] [(.int (1 : Int32)), (.ref b17_b4)])) _
    refine X17.baloadBytes hx (j := (1 : Int32)) (v := (.int (p3.toInt8.toInt32))) Ar20.1 (State.isArrayOf_alike hZ.alike Ar20.2.1) Ar20.2.2 hin20 hat20 (g := (mkF m 164 #[.val (.int p1), .val (.int p2), .val (.int p3), .val (.int p4), .val (.int p5), .val (.int p6), .val (.int (4 : Int32)), .val (.ref b1), .val (.ref b10_b1), .val (.ref b17_b4)] [(.int (1 : Int32)), (.ref b17_b4)])) rfl rfl (hb hby at_164) _ ?_
    show Steps p.tables e below (T17.setTop (mkF m 165 #[.val (.int p1), .val (.int p2), .val (.int p3), .val (.int p4), .val (.int p5), .val (.int p6), .val (.int (4 : Int32)), .val (.ref b1), .val (.ref b10_b1), .val (.ref b17_b4)] [(.int (p3.toInt8.toInt32))])) _
    refine XS.iloadN X17.here hx rfl (hb hby at_165) rfl ?_
    show Steps p.tables e below (T17.setTop (mkF m 166 #[.val (.int p1), .val (.int p2), .val (.int p3), .val (.int p4), .val (.int p5), .val (.int p6), .val (.int (4 : Int32)), .val (.ref b1), .val (.ref b10_b1), .val (.ref b17_b4)] [(.int p3), (.int (p3.toInt8.toInt32))])) _
    refine XS.i2b X17.here hx rfl (hb hby at_166) rfl ?_
    show Steps p.tables e below (T17.setTop (mkF m 167 #[.val (.int p1), .val (.int p2), .val (.int p3), .val (.int p4), .val (.int p5), .val (.int p6), .val (.int (4 : Int32)), .val (.ref b1), .val (.ref b10_b1), .val (.ref b17_b4)] [(.int (p3.toInt8.toInt32)), (.int (p3.toInt8.toInt32))])) _
    refine XS.icmpYes X17.here hx rfl (pc0 := 167) (pc' := 172) rfl (hb hby at_167) rfl (teq (rfl : (p3.toInt8.toInt32) = (p3.toInt8.toInt32))).1 (by decide) (by decide) ?_
    show Steps p.tables e below (T17.setTop (mkF m 172 #[.val (.int p1), .val (.int p2), .val (.int p3), .val (.int p4), .val (.int p5), .val (.int p6), .val (.int (4 : Int32)), .val (.ref b1), .val (.ref b10_b1), .val (.ref b17_b4)] [])) _
    refine XS.iload X17.here hx rfl (hb hby at_172) rfl ?_
    show Steps p.tables e below (T17.setTop (mkF m 174 #[.val (.int p1), .val (.int p2), .val (.int p3), .val (.int p4), .val (.int p5), .val (.int p6), .val (.int (4 : Int32)), .val (.ref b1), .val (.ref b10_b1), .val (.ref b17_b4)] [(.int (4 : Int32))])) _
    refine XS.iconst X17.here hx rfl (hb hby at_174) ?_
    show Steps p.tables e below (T17.setTop (mkF m 175 #[.val (.int p1), .val (.int p2), .val (.int p3), .val (.int p4), .val (.int p5), .val (.int p6), .val (.int (4 : Int32)), .val (.ref b1), .val (.ref b10_b1), .val (.ref b17_b4)] [(.int (2 : Int32)), (.int (4 : Int32))])) _
    refine XS.icmpNo X17.here hx rfl (hb hby at_175) rfl (tlt ((by decide) : (2 : Int32) < (4 : Int32))).2.2.2 ?_
    show Steps p.tables e below (T17.setTop (mkF m 178 #[.val (.int p1), .val (.int p2), .val (.int p3), .val (.int p4), .val (.int p5), .val (.int p6), .val (.int (4 : Int32)), .val (.ref b1), .val (.ref b10_b1), .val (.ref b17_b4)] [])) _
    refine XS.aload X17.here hx rfl (hb hby at_178) rfl rfl ?_
    show Steps p.tables e below (T17.setTop (mkF m 180 #[.val (.int p1), .val (.int p2), .val (.int p3), .val (.int p4), .val (.int p5), .val (.int p6), .val (.int (4 : Int32)), .val (.ref b1), .val (.ref b10_b1), .val (.ref b17_b4)] [(.ref b17_b4)])) _
    refine XS.iconst X17.here hx rfl (hb hby at_180) ?_
    show Steps p.tables e below (T17.setTop (mkF m 181 #[.val (.int p1), .val (.int p2), .val (.int p3), .val (.int p4), .val (.int p5), .val (.int p6), .val (.int (4 : Int32)), .val (.ref b1), .val (.ref b10_b1), .val (.ref b17_b4)] [(.int (2 : Int32)), (.ref b17_b4)])) _
    refine X17.baloadBytes hx (j := (2 : Int32)) (v := (.int (p4.toInt8.toInt32))) Ar21.1 (State.isArrayOf_alike hZ.alike Ar21.2.1) Ar21.2.2 hin21 hat21 (g := (mkF m 181 #[.val (.int p1), .val (.int p2), .val (.int p3), .val (.int p4), .val (.int p5), .val (.int p6), .val (.int (4 : Int32)), .val (.ref b1), .val (.ref b10_b1), .val (.ref b17_b4)] [(.int (2 : Int32)), (.ref b17_b4)])) rfl rfl (hb hby at_181) _ ?_
    show Steps p.tables e below (T17.setTop (mkF m 182 #[.val (.int p1), .val (.int p2), .val (.int p3), .val (.int p4), .val (.int p5), .val (.int p6), .val (.int (4 : Int32)), .val (.ref b1), .val (.ref b10_b1), .val (.ref b17_b4)] [(.int (p4.toInt8.toInt32))])) _
    refine XS.iloadN X17.here hx rfl (hb hby at_182) rfl ?_
    show Steps p.tables e below (T17.setTop (mkF m 183 #[.val (.int p1), .val (.int p2), .val (.int p3), .val (.int p4), .val (.int p5), .val (.int p6), .val (.int (4 : Int32)), .val (.ref b1), .val (.ref b10_b1), .val (.ref b17_b4)] [(.int p4), (.int (p4.toInt8.toInt32))])) _
    refine XS.i2b X17.here hx rfl (hb hby at_183) rfl ?_
    show Steps p.tables e below (T17.setTop (mkF m 184 #[.val (.int p1), .val (.int p2), .val (.int p3), .val (.int p4), .val (.int p5), .val (.int p6), .val (.int (4 : Int32)), .val (.ref b1), .val (.ref b10_b1), .val (.ref b17_b4)] [(.int (p4.toInt8.toInt32)), (.int (p4.toInt8.toInt32))])) _
    refine XS.icmpYes X17.here hx rfl (pc0 := 184) (pc' := 189) rfl (hb hby at_184) rfl (teq (rfl : (p4.toInt8.toInt32) = (p4.toInt8.toInt32))).1 (by decide) (by decide) ?_
    show Steps p.tables e below (T17.setTop (mkF m 189 #[.val (.int p1), .val (.int p2), .val (.int p3), .val (.int p4), .val (.int p5), .val (.int p6), .val (.int (4 : Int32)), .val (.ref b1), .val (.ref b10_b1), .val (.ref b17_b4)] [])) _
    refine XS.iload X17.here hx rfl (hb hby at_189) rfl ?_
    show Steps p.tables e below (T17.setTop (mkF m 191 #[.val (.int p1), .val (.int p2), .val (.int p3), .val (.int p4), .val (.int p5), .val (.int p6), .val (.int (4 : Int32)), .val (.ref b1), .val (.ref b10_b1), .val (.ref b17_b4)] [(.int (4 : Int32))])) _
    refine XS.iconst X17.here hx rfl (hb hby at_191) ?_
    show Steps p.tables e below (T17.setTop (mkF m 192 #[.val (.int p1), .val (.int p2), .val (.int p3), .val (.int p4), .val (.int p5), .val (.int p6), .val (.int (4 : Int32)), .val (.ref b1), .val (.ref b10_b1), .val (.ref b17_b4)] [(.int (3 : Int32)), (.int (4 : Int32))])) _
    refine XS.icmpNo X17.here hx rfl (hb hby at_192) rfl (tlt ((by decide) : (3 : Int32) < (4 : Int32))).2.2.2 ?_
    show Steps p.tables e below (T17.setTop (mkF m 195 #[.val (.int p1), .val (.int p2), .val (.int p3), .val (.int p4), .val (.int p5), .val (.int p6), .val (.int (4 : Int32)), .val (.ref b1), .val (.ref b10_b1), .val (.ref b17_b4)] [])) _
    refine XS.aload X17.here hx rfl (hb hby at_195) rfl rfl ?_
    show Steps p.tables e below (T17.setTop (mkF m 197 #[.val (.int p1), .val (.int p2), .val (.int p3), .val (.int p4), .val (.int p5), .val (.int p6), .val (.int (4 : Int32)), .val (.ref b1), .val (.ref b10_b1), .val (.ref b17_b4)] [(.ref b17_b4)])) _
    refine XS.iconst X17.here hx rfl (hb hby at_197) ?_
    show Steps p.tables e below (T17.setTop (mkF m 198 #[.val (.int p1), .val (.int p2), .val (.int p3), .val (.int p4), .val (.int p5), .val (.int p6), .val (.int (4 : Int32)), .val (.ref b1), .val (.ref b10_b1), .val (.ref b17_b4)] [(.int (3 : Int32)), (.ref b17_b4)])) _
    refine X17.baloadBytes hx (j := (3 : Int32)) (v := (.int (p5.toInt8.toInt32))) Ar22.1 (State.isArrayOf_alike hZ.alike Ar22.2.1) Ar22.2.2 hin22 hat22 (g := (mkF m 198 #[.val (.int p1), .val (.int p2), .val (.int p3), .val (.int p4), .val (.int p5), .val (.int p6), .val (.int (4 : Int32)), .val (.ref b1), .val (.ref b10_b1), .val (.ref b17_b4)] [(.int (3 : Int32)), (.ref b17_b4)])) rfl rfl (hb hby at_198) _ ?_
    show Steps p.tables e below (T17.setTop (mkF m 199 #[.val (.int p1), .val (.int p2), .val (.int p3), .val (.int p4), .val (.int p5), .val (.int p6), .val (.int (4 : Int32)), .val (.ref b1), .val (.ref b10_b1), .val (.ref b17_b4)] [(.int (p5.toInt8.toInt32))])) _
    refine XS.iload X17.here hx rfl (hb hby at_199) rfl ?_
    show Steps p.tables e below (T17.setTop (mkF m 201 #[.val (.int p1), .val (.int p2), .val (.int p3), .val (.int p4), .val (.int p5), .val (.int p6), .val (.int (4 : Int32)), .val (.ref b1), .val (.ref b10_b1), .val (.ref b17_b4)] [(.int p5), (.int (p5.toInt8.toInt32))])) _
    refine XS.i2b X17.here hx rfl (hb hby at_201) rfl ?_
    show Steps p.tables e below (T17.setTop (mkF m 202 #[.val (.int p1), .val (.int p2), .val (.int p3), .val (.int p4), .val (.int p5), .val (.int p6), .val (.int (4 : Int32)), .val (.ref b1), .val (.ref b10_b1), .val (.ref b17_b4)] [(.int (p5.toInt8.toInt32)), (.int (p5.toInt8.toInt32))])) _
    refine XS.icmpYes X17.here hx rfl (pc0 := 202) (pc' := 207) rfl (hb hby at_202) rfl (teq (rfl : (p5.toInt8.toInt32) = (p5.toInt8.toInt32))).1 (by decide) (by decide) ?_
    show Steps p.tables e below (T17.setTop (mkF m 207 #[.val (.int p1), .val (.int p2), .val (.int p3), .val (.int p4), .val (.int p5), .val (.int p6), .val (.int (4 : Int32)), .val (.ref b1), .val (.ref b10_b1), .val (.ref b17_b4)] [])) _
    refine XS.iconst X17.here hx rfl (hb hby at_207) ?_
    show Steps p.tables e below (T17.setTop (mkF m 208 #[.val (.int p1), .val (.int p2), .val (.int p3), .val (.int p4), .val (.int p5), .val (.int p6), .val (.int (4 : Int32)), .val (.ref b1), .val (.ref b10_b1), .val (.ref b17_b4)] [(.int (1 : Int32))])) _
    exact retN X17 hx (t := .boolean) Bd.returns (by simp) (hb hby at_208) hr
  · show Q0 n0 _ T17.heap _
    exact ⟨rfl, N17⟩
set_option maxRecDepth 65536 in
set_option maxHeartbeats 40000000 in
theorem rm0_41 (l : Launch) (Z : State) (a0 : Array Value) (hw : ∀ d ∈ tables_1, d.before a0 Z = true) (ws : List Jvm.Cond) {w_n1 : Addr} {w_n0 : Addr} {k_n0 : ClassId} (W : Wd Z w_n1 w_n0 k_n0) (p1 : Int32) (p2 : Int32) (p3 : Int32) (p4 : Int32) (p5 : Int32) (p6 : Int32) (h0 : Heap) (n0 : Nat) (O0 : Old Z n0 h0) (hk : ((p1 &&& (2147483647 : Int32)) % (5 : Int32)) = (4 : Int32)) (hi : ((p6 &&& (2147483647 : Int32)) % (4 : Int32)) = (1 : Int32)) :
    MetFree l x (head1 (Jvm.Cond.code x code maxLocals ret :: ws) room_1) (fun a U => a = #[(.int p1), (.int p2), (.int p3), (.int p4), (.int p5), (.int p6)] ∧ Z.Warmed39 U.vm ∧ U.heap = h0) (fun _ _ _ _ _ => True) (fun _ U o U' => ∃ v L, o = .returned v ∧ Q0 n0 v U'.heap L ∧ FrameEnd U o U' L room_1.cells room_1.slots) := by
  have W' := W; obtain ⟨S_n1, E_n1, S_n0, F_n1_ordinal, V_n0⟩ := W'
  refine MetFree.of_bodySF (plainFor_of_name pn_0) hisR ?_
  intro p e s m args below meth c s₁ Bd hml0 hP hK
  obtain ⟨rfl, hZ, hh⟩ := hP
  have hx := Bd.exec
  have hby := Bd.bytes
  have hml : c.maxLocals = 10 := hml0
  have hown : s.vm.findClass "com/example/keyfold/keyfold/core/ValueOfBinary193PinLaw" = some m.cls := findClass_of_methodNamed Bd.named
  have hnm := (name_of_methodNamed Bd.named Bd.method).1
  have X0 : Stand p l e room_1 s m #[(.int p1), (.int p2), (.int p3), (.int p4), (.int p5), (.int p6)] below meth c s₁ [] 0 0 := Stand.of_body Bd
  have e0 : s₁.heap = h0 := by rw [← hh, Bd.state]; rfl
  have N0 := Fr.nil n0
  have pre0 : ∀ t, Steps p.tables e below (s₁.setTop (mkF m 0 #[.val (.int p1), .val (.int p2), .val (.int p3), .val (.int p4), .val (.int p5), .val (.int p6), .unset, .unset, .unset, .unset] [])) t → Steps p.tables e below (s₁.setTop (entryFrame m #[(.int p1), (.int p2), (.int p3), (.int p4), (.int p5), (.int p6)] maxLocals)) t := fun t k => castTop (ef_0_7 m p1 p2 p3 p4 p5 p6) k
  obtain ⟨T1, h1, k1, X1, e1, E1, A1, B1, st1⟩ := newPE X0 hx hZ (hw _ (List.mem_of_getElem? (i := 1) rfl)) e0 (g := (mkF m 10 #[.val (.int p1), .val (.int p2), .val (.int p3), .val (.int p4), .val (.int p5), .val (.int p6), .val (.int (4 : Int32)), .unset, .unset, .unset] [(.int (4 : Int32))])) rfl (hb hby at_10) rfl (by decide) (cap := 4) (by decide) (by decide) (by decide) (by decide) (ad := "[B") (by decide)
  obtain ⟨b1, g1⟩ : ∃ z, z = h0.size := ⟨_, rfl⟩
  rw [← g1] at A1 B1 st1
  have g_b1 : n0 ≤ b1 := by rw [g1]; exact O0.1 ▸ O0.2.1
  have O1 := O0.ext E1
  have fv1 : Arv Z h1 b1 k1 .byte (4 : Int32) [(.int (0 : Int32)), (.int (0 : Int32)), (.int (0 : Int32)), (.int (0 : Int32))] (.int (0 : Int32)) := (Arv.new A1 (by decide)).pad (pad_rep [] (.int (0 : Int32)) 4)
  obtain ⟨cl2, Ar2, qk2, Sz2, Nz2, Hs2, Gs2⟩ := id fv1
  have hin2 : ¬ ((0 : Int32) < 0 ∨ cl2.slots.size ≤ ((0 : Int32)).toNatClampNeg) := inb_of Sz2 ⟨by decide, by decide⟩
  obtain ⟨T3, h3, X3, e3, W3, st3⟩ := stB X1 hx hZ e1 Ar2 (j := (0 : Int32)) hin2  (g := (mkF m 24 #[.val (.int p1), .val (.int p2), .val (.int p3), .val (.int p4), .val (.int p5), .val (.int p6), .val (.int (4 : Int32)), .val (.ref b1), .unset, .unset] [(.int (p2.toInt8.toInt32)), (.int (0 : Int32)), (.ref b1)])) rfl rfl (hb hby at_24)
  rw [show nar .byte (p2.toInt8.toInt32) = (p2.toInt8.toInt32) from own_byte _] at W3
  have fw3 : Arv Z h3 b1 k1 .byte (4 : Int32) [(.int (p2.toInt8.toInt32)), (.int (0 : Int32)), (.int (0 : Int32)), (.int (0 : Int32))] (.int (0 : Int32)) := Arv.set Ar2 qk2 Sz2 Nz2 Hs2 Gs2 (fits_nar_byte _) W3 0 rfl (Nat.le_of_ble_eq_true rfl)
  have f3_0 : Exa Z h3 b1 "[B" := (B1).wr W3
  have O3 := O1.wr W3 g_b1
  have N3 := Fr.snoc X3 N0 g_b1
  obtain ⟨cl4, Ar4, qk4, Sz4, Nz4, Hs4, Gs4⟩ := id fw3
  have hin4 : ¬ ((1 : Int32) < 0 ∨ cl4.slots.size ≤ ((1 : Int32)).toNatClampNeg) := inb_of Sz4 ⟨by decide, by decide⟩
  obtain ⟨T5, h5, X5, e5, W5, st5⟩ := stB X3 hx hZ e3 Ar4 (j := (1 : Int32)) hin4  (g := (mkF m 36 #[.val (.int p1), .val (.int p2), .val (.int p3), .val (.int p4), .val (.int p5), .val (.int p6), .val (.int (4 : Int32)), .val (.ref b1), .unset, .unset] [(.int (p3.toInt8.toInt32)), (.int (1 : Int32)), (.ref b1)])) rfl rfl (hb hby at_36)
  rw [show nar .byte (p3.toInt8.toInt32) = (p3.toInt8.toInt32) from own_byte _] at W5
  have fw5 : Arv Z h5 b1 k1 .byte (4 : Int32) [(.int (p2.toInt8.toInt32)), (.int (p3.toInt8.toInt32)), (.int (0 : Int32)), (.int (0 : Int32))] (.int (0 : Int32)) := Arv.set Ar4 qk4 Sz4 Nz4 Hs4 Gs4 (fits_nar_byte _) W5 1 rfl (Nat.le_of_ble_eq_true rfl)
  have f5_0 : Exa Z h5 b1 "[B" := (f3_0).wr W5
  have O5 := O3.wr W5 g_b1
  have N5 := Fr.snoc X5 N3 g_b1
  obtain ⟨cl6, Ar6, qk6, Sz6, Nz6, Hs6, Gs6⟩ := id fw5
  have hin6 : ¬ ((2 : Int32) < 0 ∨ cl6.slots.size ≤ ((2 : Int32)).toNatClampNeg) := inb_of Sz6 ⟨by decide, by decide⟩
  obtain ⟨T7, h7, X7, e7, W7, st7⟩ := stB X5 hx hZ e5 Ar6 (j := (2 : Int32)) hin6  (g := (mkF m 48 #[.val (.int p1), .val (.int p2), .val (.int p3), .val (.int p4), .val (.int p5), .val (.int p6), .val (.int (4 : Int32)), .val (.ref b1), .unset, .unset] [(.int (p4.toInt8.toInt32)), (.int (2 : Int32)), (.ref b1)])) rfl rfl (hb hby at_48)
  rw [show nar .byte (p4.toInt8.toInt32) = (p4.toInt8.toInt32) from own_byte _] at W7
  have fw7 : Arv Z h7 b1 k1 .byte (4 : Int32) [(.int (p2.toInt8.toInt32)), (.int (p3.toInt8.toInt32)), (.int (p4.toInt8.toInt32)), (.int (0 : Int32))] (.int (0 : Int32)) := Arv.set Ar6 qk6 Sz6 Nz6 Hs6 Gs6 (fits_nar_byte _) W7 2 rfl (Nat.le_of_ble_eq_true rfl)
  have f7_0 : Exa Z h7 b1 "[B" := (f5_0).wr W7
  have O7 := O5.wr W7 g_b1
  have N7 := Fr.snoc X7 N5 g_b1
  obtain ⟨cl8, Ar8, qk8, Sz8, Nz8, Hs8, Gs8⟩ := id fw7
  have hin8 : ¬ ((3 : Int32) < 0 ∨ cl8.slots.size ≤ ((3 : Int32)).toNatClampNeg) := inb_of Sz8 ⟨by decide, by decide⟩
  obtain ⟨T9, h9, X9, e9, W9, st9⟩ := stB X7 hx hZ e7 Ar8 (j := (3 : Int32)) hin8  (g := (mkF m 61 #[.val (.int p1), .val (.int p2), .val (.int p3), .val (.int p4), .val (.int p5), .val (.int p6), .val (.int (4 : Int32)), .val (.ref b1), .unset, .unset] [(.int (p5.toInt8.toInt32)), (.int (3 : Int32)), (.ref b1)])) rfl rfl (hb hby at_61)
  rw [show nar .byte (p5.toInt8.toInt32) = (p5.toInt8.toInt32) from own_byte _] at W9
  have fw9 : Arv Z h9 b1 k1 .byte (4 : Int32) [(.int (p2.toInt8.toInt32)), (.int (p3.toInt8.toInt32)), (.int (p4.toInt8.toInt32)), (.int (p5.toInt8.toInt32))] (.int (0 : Int32)) := Arv.set Ar8 qk8 Sz8 Nz8 Hs8 Gs8 (fits_nar_byte _) W9 3 rfl (Nat.le_of_ble_eq_true rfl)
  have f9_0 : Exa Z h9 b1 "[B" := (f7_0).wr W9
  have O9 := O7.wr W9 g_b1
  have N9 := Fr.snoc X9 N7 g_b1
  obtain ⟨_, _, ⟨T10, L10, k10, n10⟩, -, X10, ⟨Lc10, hQ10, l10, y10, z10⟩, st10⟩ := Jvm.LawKit.callS X9 hx (y := (⟨"com/example/keyfold/keyfold/core/Value", "ofBinary", "([B)Lcom/example/keyfold/keyfold/core/Value;"⟩ : MethodName)) hown (mvT hZ (hw _ (List.mem_of_getElem? (i := 2) rfl))) (mvT hZ (hw _ (List.mem_of_getElem? (i := 3) rfl))) (mvT hZ (hw _ (List.mem_of_getElem? (i := 4) rfl))) (mvT hZ (hw _ (List.mem_of_getElem? (i := 5) rfl))) (by decide) (backOf (W := 0) (rm1_4 l Z a0 hw [] W b1 k1 (p2.toInt8.toInt32) (p3.toInt8.toInt32) (p4.toInt8.toInt32) (p5.toInt8.toInt32) h9 n0 O9 g_b1 f9_0 fw9) hZ (hw _ (List.mem_of_getElem? (i := 5) rfl)) (hw _ (List.mem_of_getElem? (i := 4) rfl)) (by decide) (by decide)) (g := (mkF m 64 #[.val (.int p1), .val (.int p2), .val (.int p3), .val (.int p4), .val (.int p5), .val (.int p6), .val (.int (4 : Int32)), .val (.ref b1), .unset, .unset] [(.ref b1)])) rfl (by rw [hml]; rfl) (argsL := [(.ref b1)]) (rest := []) (lenOf pd_3 rfl) rfl (by show 2 * 0 + _ ≤ _; exact Nat.le_of_eq rfl) (hb hby at_64) (fun _ _ => ⟨rfl, e9, (by decide : 1 + 2 ≤ _), (by decide : 4 + 6 ≤ _)⟩)
  dsimp only [Pt.U, Pt.locs, Pt.cells, Pt.slots] at X10 l10 y10 z10 st10 hQ10
  subst l10 y10 z10
  obtain ⟨N10q, hP10⟩ := hQ10
  have N10 := Fr.app N9 N10q
  obtain ⟨b10_b1, b10_b3, rfl, Kp10, g_b10_b1, si_b10_b1, g_b10_b3, si_b10_b3, fp10_0, fp10_1, fp10_2, fp10_3, fp10_4⟩ := hP10
  have f10_0 : Exa Z T10.heap b1 "[B" := (f9_0).keep Kp10
  have f10_1 : Arv Z T10.heap b1 k1 .byte (4 : Int32) [(.int (p2.toInt8.toInt32)), (.int (p3.toInt8.toInt32)), (.int (p4.toInt8.toInt32)), (.int (p5.toInt8.toInt32))] (.int (0 : Int32)) := (fw9).keep Kp10 nin0
  have O10 := O9.keep Kp10 all0
  obtain ⟨cl11, Ar11, qk11, Sz11, Nz11, Hs11, Gs11⟩ := id f10_1
  have hin11 : ¬ ((1 : Int32) < 0 ∨ cl11.slots.size ≤ ((1 : Int32)).toNatClampNeg) := inb_of Sz11 ⟨by decide, by decide⟩
  have hat11 : cl11.slots[((1 : Int32)).toNatClampNeg]? = some (.int (p3.toInt8.toInt32)) := Has.at Hs11 hin11 rfl
  obtain ⟨cl12, Ar12, qk12, Sz12, Nz12, Hs12, Gs12⟩ := id f10_1
  have hin12 : ¬ ((1 : Int32) < 0 ∨ cl12.slots.size ≤ ((1 : Int32)).toNatClampNeg) := inb_of Sz12 ⟨by decide, by decide⟩
  obtain ⟨T13, h13, X13, e13, W13, st13⟩ := stB X10 hx hZ rfl Ar12 (j := (1 : Int32)) hin12  (g := (mkF m 96 #[.val (.int p1), .val (.int p2), .val (.int p3), .val (.int p4), .val (.int p5), .val (.int p6), .val (.int (4 : Int32)), .val (.ref b1), .val (.ref b10_b1), .val (.int (1 : Int32))] [(.int (((p3.toInt8.toInt32) ^^^ (-1 : Int32)).toInt8.toInt32)), (.int (1 : Int32)), (.ref b1)])) rfl rfl (hb hby at_96)
  rw [show nar .byte (((p3.toInt8.toInt32) ^^^ (-1 : Int32)).toInt8.toInt32) = (((p3.toInt8.toInt32) ^^^ (-1 : Int32)).toInt8.toInt32) from own_byte _] at W13
  have fw13 : Arv Z h13 b1 k1 .byte (4 : Int32) [(.int (p2.toInt8.toInt32)), (.int (((p3.toInt8.toInt32) ^^^ (-1 : Int32)).toInt8.toInt32)), (.int (p4.toInt8.toInt32)), (.int (p5.toInt8.toInt32))] (.int (0 : Int32)) := Arv.set Ar12 qk12 Sz12 Nz12 Hs12 Gs12 (fits_nar_byte _) W13 1 rfl (Nat.le_of_ble_eq_true rfl)
  have f13_0 : Exa Z h13 b1 "[B" := (f10_0).wr W13
  have f13_1 : Exa Z h13 b10_b1 "com/example/keyfold/keyfold/core/Value" := (fp10_0).wr W13
  have f13_2 : Fld Z h13 b10_b1 "com/example/keyfold/keyfold/core/Value" "type" "Lcom/example/keyfold/keyfold/core/ValueType;" (.ref w_n1) := (fp10_1).other W13 (Or.inl (ne_exa fp10_0 f10_0 (by decide)))
  have f13_3 : Fld Z h13 b10_b1 "com/example/keyfold/keyfold/core/Value" "content" "Ljava/lang/Object;" (.ref b10_b3) := (fp10_2).other W13 (Or.inl (ne_exa fp10_0 f10_0 (by decide)))
  have f13_4 : Exa Z h13 b10_b3 "[B" := (fp10_3).wr W13
  have f13_5 : Arv Z h13 b10_b3 k1 .byte (4 : Int32) [(.int (p2.toInt8.toInt32)), (.int (p3.toInt8.toInt32)), (.int (p4.toInt8.toInt32)), (.int (p5.toInt8.toInt32))] (.int (0 : Int32)) := (fp10_4).other W13 (Ne.symm (Nat.ne_of_lt (Nat.lt_of_lt_of_le (f9_0).lt si_b10_b3)))
  have O13 := O10.wr W13 g_b1
  have N13 := Fr.snoc X13 N10 g_b1
  obtain ⟨cq14, kq14, q14a, q14b, q14c⟩ := isOf hZ e13 f13_1
  obtain ⟨_, _, ⟨T14, L14, k14, n14⟩, -, X14, ⟨Lc14, hQ14, l14, y14, z14⟩, st14⟩ := X13.virtualBack hx (y := (⟨"com/example/keyfold/keyfold/core/Value", "type", "()Lcom/example/keyfold/keyfold/core/ValueType;"⟩ : MethodName)) (z := (⟨"com/example/keyfold/keyfold/core/Value", "type", "()Lcom/example/keyfold/keyfold/core/ValueType;"⟩ : MethodName)) hown (mvT hZ (hw _ (List.mem_of_getElem? (i := 28) rfl))) (mvT hZ (hw _ (List.mem_of_getElem? (i := 29) rfl))) (notFace_of_selects (args := #[]) (mvT hZ (hw _ (List.mem_of_getElem? (i := 31) rfl)))) (mvT hZ (hw _ (List.mem_of_getElem? (i := 31) rfl))) (mvT hZ (hw _ (List.mem_of_getElem? (i := 30) rfl))) (by decide) (backOf (W := 0) (rm4 l Z a0 hw [] W b10_b1 h13 n0 O13 f13_2) hZ (hw _ (List.mem_of_getElem? (i := 32) rfl)) (hw _ (List.mem_of_getElem? (i := 4) rfl)) (by decide) (by decide)) q14a q14c (g := (mkF m 99 #[.val (.int p1), .val (.int p2), .val (.int p3), .val (.int p4), .val (.int p5), .val (.int p6), .val (.int (4 : Int32)), .val (.ref b1), .val (.ref b10_b1), .val (.int (1 : Int32))] [(.ref b10_b1)])) rfl (by rw [hml]; rfl) (Steps.refl _) (argsL := []) (rest := []) (lenOf pd_4 rfl) rfl (by show 2 * 0 + _ ≤ _; exact Nat.le_of_eq rfl) (hb hby at_99) (fun _ _ => ⟨rfl, e13, (by decide : 3 + 0 ≤ _), (by decide : 10 + 0 ≤ _)⟩)
  dsimp only [Pt.U, Pt.locs, Pt.cells, Pt.slots] at X14 l14 y14 z14 st14 hQ14
  subst l14 y14 z14
  obtain ⟨rfl, N14q, e14⟩ := hQ14
  have N14 := Fr.app N13 N14q
  obtain ⟨T15, X15, e15, st15⟩ := getS2 X14 hx hZ hown (host := "") (Or.inl (hw _ (List.mem_of_getElem? (i := 33) rfl))) Via.refl e14 (S_n1.ext O13.2) (g := (mkF m 102 #[.val (.int p1), .val (.int p2), .val (.int p3), .val (.int p4), .val (.int p5), .val (.int p6), .val (.int (4 : Int32)), .val (.ref b1), .val (.ref b10_b1), .val (.int (1 : Int32))] [(.ref w_n1)])) rfl (hb hby at_102)
  obtain ⟨cq16, kq16, q16a, q16b, q16c⟩ := isOf hZ e15 f13_1
  obtain ⟨_, _, ⟨T16, L16, k16, n16⟩, -, X16, ⟨Lc16, hQ16, l16, y16, z16⟩, st16⟩ := X15.virtualBack hx (y := (⟨"com/example/keyfold/keyfold/core/Value", "size", "()I"⟩ : MethodName)) (z := (⟨"com/example/keyfold/keyfold/core/Value", "size", "()I"⟩ : MethodName)) hown (mvT hZ (hw _ (List.mem_of_getElem? (i := 34) rfl))) (mvT hZ (hw _ (List.mem_of_getElem? (i := 35) rfl))) (notFace_of_selects (args := #[]) (mvT hZ (hw _ (List.mem_of_getElem? (i := 37) rfl)))) (mvT hZ (hw _ (List.mem_of_getElem? (i := 37) rfl))) (mvT hZ (hw _ (List.mem_of_getElem? (i := 36) rfl))) (by decide) (backOf (W := 0) (rm7_4 l Z a0 hw [] W b10_b1 b10_b3 k1 (p2.toInt8.toInt32) (p3.toInt8.toInt32) (p4.toInt8.toInt32) (p5.toInt8.toInt32) h13 n0 O13 g_b10_b1 f13_1 f13_2 f13_3 g_b10_b3 f13_4 f13_5) hZ (hw _ (List.mem_of_getElem? (i := 38) rfl)) (hw _ (List.mem_of_getElem? (i := 4) rfl)) (by decide) (by decide)) q16a q16c (g := (mkF m 112 #[.val (.int p1), .val (.int p2), .val (.int p3), .val (.int p4), .val (.int p5), .val (.int p6), .val (.int (4 : Int32)), .val (.ref b1), .val (.ref b10_b1), .val (.int (1 : Int32))] [(.ref b10_b1)])) rfl (by rw [hml]; rfl) (Steps.refl _) (argsL := []) (rest := []) (lenOf pd_1 rfl) rfl (by show 2 * 0 + _ ≤ _; exact Nat.le_of_eq rfl) (hb hby at_112) (fun _ _ => ⟨rfl, e15, (by decide : 3 + 0 ≤ _), (by decide : 10 + 0 ≤ _)⟩)
  dsimp only [Pt.U, Pt.locs, Pt.cells, Pt.slots] at X16 l16 y16 z16 st16 hQ16
  subst l16 y16 z16
  obtain ⟨rfl, N16q, e16⟩ := hQ16
  have N16 := Fr.app N14 N16q
  obtain ⟨cq17, kq17, q17a, q17b, q17c⟩ := isOf hZ e16 f13_1
  obtain ⟨_, _, ⟨T17, L17, k17, n17⟩, -, X17, ⟨Lc17, hQ17, l17, y17, z17⟩, st17⟩ := X16.virtualBack hx (y := (⟨"com/example/keyfold/keyfold/core/Value", "asBinary", "()[B"⟩ : MethodName)) (z := (⟨"com/example/keyfold/keyfold/core/Value", "asBinary", "()[B"⟩ : MethodName)) hown (mvT hZ (hw _ (List.mem_of_getElem? (i := 53) rfl))) (mvT hZ (hw _ (List.mem_of_getElem? (i := 54) rfl))) (notFace_of_selects (args := #[]) (mvT hZ (hw _ (List.mem_of_getElem? (i := 56) rfl)))) (mvT hZ (hw _ (List.mem_of_getElem? (i := 56) rfl))) (mvT hZ (hw _ (List.mem_of_getElem? (i := 55) rfl))) (by decide) (backOf (W := 0) (rm5_4 l Z a0 hw [] W b10_b1 b10_b3 k1 (p2.toInt8.toInt32) (p3.toInt8.toInt32) (p4.toInt8.toInt32) (p5.toInt8.toInt32) h13 n0 O13 g_b10_b1 f13_1 f13_2 f13_3 g_b10_b3 f13_4 f13_5) hZ (hw _ (List.mem_of_getElem? (i := 57) rfl)) (hw _ (List.mem_of_getElem? (i := 4) rfl)) (by decide) (by decide)) q17a q17c (g := (mkF m 124 #[.val (.int p1), .val (.int p2), .val (.int p3), .val (.int p4), .val (.int p5), .val (.int p6), .val (.int (4 : Int32)), .val (.ref b1), .val (.ref b10_b1), .val (.int (1 : Int32))] [(.ref b10_b1)])) rfl (by rw [hml]; rfl) (Steps.refl _) (argsL := []) (rest := []) (lenOf pd_5 rfl) rfl (by show 2 * 0 + _ ≤ _; exact Nat.le_of_eq rfl) (hb hby at_124) (fun _ _ => ⟨rfl, e16, (by decide : 3 + 1 ≤ _), (by decide : 10 + 4 ≤ _)⟩)
  dsimp only [Pt.U, Pt.locs, Pt.cells, Pt.slots] at X17 l17 y17 z17 st17 hQ17
  subst l17 y17 z17
  obtain ⟨N17q, hP17⟩ := hQ17
  have N17 := Fr.app N16 N17q
  obtain ⟨b17_b4, rfl, Kp17, g_b17_b4, si_b17_b4, fp17_0, fp17_1⟩ := hP17
  have f17_0 : Exa Z T17.heap b1 "[B" := (f13_0).keep Kp17
  have f17_1 : Exa Z T17.heap b10_b1 "com/example/keyfold/keyfold/core/Value" := (f13_1).keep Kp17
  have f17_2 : Fld Z T17.heap b10_b1 "com/example/keyfold/keyfold/core/Value" "type" "Lcom/example/keyfold/keyfold/core/ValueType;" (.ref w_n1) := (f13_2).keep Kp17 nin0
  have f17_3 : Fld Z T17.heap b10_b1 "com/example/keyfold/keyfold/core/Value" "content" "Ljava/lang/Object;" (.ref b10_b3) := (f13_3).keep Kp17 nin0
  have f17_4 : Exa Z T17.heap b10_b3 "[B" := (f13_4).keep Kp17
  have f17_5 : Arv Z T17.heap b10_b3 k1 .byte (4 : Int32) [(.int (p2.toInt8.toInt32)), (.int (p3.toInt8.toInt32)), (.int (p4.toInt8.toInt32)), (.int (p5.toInt8.toInt32))] (.int (0 : Int32)) := (f13_5).keep Kp17 nin0
  have f17_6 : Arv Z T17.heap b1 k1 .byte (4 : Int32) [(.int (p2.toInt8.toInt32)), (.int (((p3.toInt8.toInt32) ^^^ (-1 : Int32)).toInt8.toInt32)), (.int (p4.toInt8.toInt32)), (.int (p5.toInt8.toInt32))] (.int (0 : Int32)) := (fw13).keep Kp17 nin0
  have O17 := O13.keep Kp17 all0
  obtain ⟨cl18, Ar18, qk18, Sz18, Nz18, Hs18, Gs18⟩ := id fp17_1
  obtain ⟨cl19, Ar19, qk19, Sz19, Nz19, Hs19, Gs19⟩ := id fp17_1
  have hin19 : ¬ ((0 : Int32) < 0 ∨ cl19.slots.size ≤ ((0 : Int32)).toNatClampNeg) := inb_of Sz19 ⟨by decide, by decide⟩
  have hat19 : cl19.slots[((0 : Int32)).toNatClampNeg]? = some (.int (p2.toInt8.toInt32)) := Has.at Hs19 hin19 rfl
  obtain ⟨cl20, Ar20, qk20, Sz20, Nz20, Hs20, Gs20⟩ := id fp17_1
  have hin20 : ¬ ((1 : Int32) < 0 ∨ cl20.slots.size ≤ ((1 : Int32)).toNatClampNeg) := inb_of Sz20 ⟨by decide, by decide⟩
  have hat20 : cl20.slots[((1 : Int32)).toNatClampNeg]? = some (.int (p3.toInt8.toInt32)) := Has.at Hs20 hin20 rfl
  obtain ⟨cl21, Ar21, qk21, Sz21, Nz21, Hs21, Gs21⟩ := id fp17_1
  have hin21 : ¬ ((2 : Int32) < 0 ∨ cl21.slots.size ≤ ((2 : Int32)).toNatClampNeg) := inb_of Sz21 ⟨by decide, by decide⟩
  have hat21 : cl21.slots[((2 : Int32)).toNatClampNeg]? = some (.int (p4.toInt8.toInt32)) := Has.at Hs21 hin21 rfl
  obtain ⟨cl22, Ar22, qk22, Sz22, Nz22, Hs22, Gs22⟩ := id fp17_1
  have hin22 : ¬ ((3 : Int32) < 0 ∨ cl22.slots.size ≤ ((3 : Int32)).toNatClampNeg) := inb_of Sz22 ⟨by decide, by decide⟩
  have hat22 : cl22.slots[((3 : Int32)).toNatClampNeg]? = some (.int (p5.toInt8.toInt32)) := Has.at Hs22 hin22 rfl
  obtain ⟨fs, hr, hrun, hended, hW, hsame⟩ := X17.leave (v := some (.int (1 : Int32))) (fun h => by rw [Bd.returns] at h; cases h)
  refine ⟨_, _, pre0 _ ?_, hrun, hended, _, _, rfl, ?_, ⟨_, rfl⟩, hW, hsame.mono (by decide) (by decide)⟩
  · show Steps p.tables e below (s₁.setTop (mkF m 0 #[.val (.int p1), .val (.int p2), .val (.int p3), .val (.int p4), .val (.int p5), .val (.int p6), .unset, .unset, .unset, .unset] [])) _
    refine XS.iloadN X0.here hx rfl (hb hby at_0) rfl ?_
    show Steps p.tables e below (s₁.setTop (mkF m 1 #[.val (.int p1), .val (.int p2), .val (.int p3), .val (.int p4), .val (.int p5), .val (.int p6), .unset, .unset, .unset, .unset] [(.int p1)])) _
    refine X0.ldcInt hx hown (mvT hZ (hw _ (List.mem_of_getElem? (i := 0) rfl))) (g := (mkF m 1 #[.val (.int p1), .val (.int p2), .val (.int p3), .val (.int p4), .val (.int p5), .val (.int p6), .unset, .unset, .unset, .unset] [(.int p1)])) rfl (hb hby at_1) _ ?_
    show Steps p.tables e below (s₁.setTop (mkF m 3 #[.val (.int p1), .val (.int p2), .val (.int p3), .val (.int p4), .val (.int p5), .val (.int p6), .unset, .unset, .unset, .unset] [(.int (2147483647 : Int32)), (.int p1)])) _
    refine XS.iand X0.here hx rfl (hb hby at_3) rfl ?_
    show Steps p.tables e below (s₁.setTop (mkF m 4 #[.val (.int p1), .val (.int p2), .val (.int p3), .val (.int p4), .val (.int p5), .val (.int p6), .unset, .unset, .unset, .unset] [(.int (p1 &&& (2147483647 : Int32)))])) _
    refine XS.iconst X0.here hx rfl (hb hby at_4) ?_
    show Steps p.tables e below (s₁.setTop (mkF m 5 #[.val (.int p1), .val (.int p2), .val (.int p3), .val (.int p4), .val (.int p5), .val (.int p6), .unset, .unset, .unset, .unset] [(.int (5 : Int32)), (.int (p1 &&& (2147483647 : Int32)))])) _
    refine iremM X0 hx rfl (hb hby at_5) rfl (by decide) ?_
    show Steps p.tables e below (s₁.setTop (mkF m 6 #[.val (.int p1), .val (.int p2), .val (.int p3), .val (.int p4), .val (.int p5), .val (.int p6), .unset, .unset, .unset, .unset] [(.int ((p1 &&& (2147483647 : Int32)) % (5 : Int32)))])) _
    rw [hk]
    show Steps p.tables e below (s₁.setTop (mkF m 6 #[.val (.int p1), .val (.int p2), .val (.int p3), .val (.int p4), .val (.int p5), .val (.int p6), .unset, .unset, .unset, .unset] [(.int (4 : Int32))])) _
    refine XS.istore X0.here hx rfl (hb hby at_6) rfl (l' := #[.val (.int p1), .val (.int p2), .val (.int p3), .val (.int p4), .val (.int p5), .val (.int p6), .val (.int (4 : Int32)), .unset, .unset, .unset]) rfl ?_
    show Steps p.tables e below (s₁.setTop (mkF m 8 #[.val (.int p1), .val (.int p2), .val (.int p3), .val (.int p4), .val (.int p5), .val (.int p6), .val (.int (4 : Int32)), .unset, .unset, .unset] [])) _
    refine XS.iload X0.here hx rfl (hb hby at_8) rfl ?_
    show Steps p.tables e below (s₁.setTop (mkF m 10 #[.val (.int p1), .val (.int p2), .val (.int p3), .val (.int p4), .val (.int p5), .val (.int p6), .val (.int (4 : Int32)), .unset, .unset, .unset] [(.int (4 : Int32))])) _
    refine st1 _ ?_
    show Steps p.tables e below (T1.setTop (mkF m 12 #[.val (.int p1), .val (.int p2), .val (.int p3), .val (.int p4), .val (.int p5), .val (.int p6), .val (.int (4 : Int32)), .unset, .unset, .unset] [(.ref b1)])) _
    refine XS.astore X1.here hx rfl (hb hby at_12) rfl rfl (l' := #[.val (.int p1), .val (.int p2), .val (.int p3), .val (.int p4), .val (.int p5), .val (.int p6), .val (.int (4 : Int32)), .val (.ref b1), .unset, .unset]) rfl ?_
    show Steps p.tables e below (T1.setTop (mkF m 14 #[.val (.int p1), .val (.int p2), .val (.int p3), .val (.int p4), .val (.int p5), .val (.int p6), .val (.int (4 : Int32)), .val (.ref b1), .unset, .unset] [])) _
    refine XS.iload X1.here hx rfl (hb hby at_14) rfl ?_
    show Steps p.tables e below (T1.setTop (mkF m 16 #[.val (.int p1), .val (.int p2), .val (.int p3), .val (.int p4), .val (.int p5), .val (.int p6), .val (.int (4 : Int32)), .val (.ref b1), .unset, .unset] [(.int (4 : Int32))])) _
    refine XS.ifNo X1.here hx rfl (hb hby at_16) rfl ((if0 _ _).trans (tlt ((by decide) : (0 : Int32) < (4 : Int32))).2.2.2) ?_
    show Steps p.tables e below (T1.setTop (mkF m 19 #[.val (.int p1), .val (.int p2), .val (.int p3), .val (.int p4), .val (.int p5), .val (.int p6), .val (.int (4 : Int32)), .val (.ref b1), .unset, .unset] [])) _
    refine XS.aload X1.here hx rfl (hb hby at_19) rfl rfl ?_
    show Steps p.tables e below (T1.setTop (mkF m 21 #[.val (.int p1), .val (.int p2), .val (.int p3), .val (.int p4), .val (.int p5), .val (.int p6), .val (.int (4 : Int32)), .val (.ref b1), .unset, .unset] [(.ref b1)])) _
    refine XS.iconst X1.here hx rfl (hb hby at_21) ?_
    show Steps p.tables e below (T1.setTop (mkF m 22 #[.val (.int p1), .val (.int p2), .val (.int p3), .val (.int p4), .val (.int p5), .val (.int p6), .val (.int (4 : Int32)), .val (.ref b1), .unset, .unset] [(.int (0 : Int32)), (.ref b1)])) _
    refine XS.iloadN X1.here hx rfl (hb hby at_22) rfl ?_
    show Steps p.tables e below (T1.setTop (mkF m 23 #[.val (.int p1), .val (.int p2), .val (.int p3), .val (.int p4), .val (.int p5), .val (.int p6), .val (.int (4 : Int32)), .val (.ref b1), .unset, .unset] [(.int p2), (.int (0 : Int32)), (.ref b1)])) _
    refine XS.i2b X1.here hx rfl (hb hby at_23) rfl ?_
    show Steps p.tables e below (T1.setTop (mkF m 24 #[.val (.int p1), .val (.int p2), .val (.int p3), .val (.int p4), .val (.int p5), .val (.int p6), .val (.int (4 : Int32)), .val (.ref b1), .unset, .unset] [(.int (p2.toInt8.toInt32)), (.int (0 : Int32)), (.ref b1)])) _
    refine st3 _ ?_
    show Steps p.tables e below (T3.setTop (mkF m 25 #[.val (.int p1), .val (.int p2), .val (.int p3), .val (.int p4), .val (.int p5), .val (.int p6), .val (.int (4 : Int32)), .val (.ref b1), .unset, .unset] [])) _
    refine XS.iload X3.here hx rfl (hb hby at_25) rfl ?_
    show Steps p.tables e below (T3.setTop (mkF m 27 #[.val (.int p1), .val (.int p2), .val (.int p3), .val (.int p4), .val (.int p5), .val (.int p6), .val (.int (4 : Int32)), .val (.ref b1), .unset, .unset] [(.int (4 : Int32))])) _
    refine XS.iconst X3.here hx rfl (hb hby at_27) ?_
    show Steps p.tables e below (T3.setTop (mkF m 28 #[.val (.int p1), .val (.int p2), .val (.int p3), .val (.int p4), .val (.int p5), .val (.int p6), .val (.int (4 : Int32)), .val (.ref b1), .unset, .unset] [(.int (1 : Int32)), (.int (4 : Int32))])) _
    refine XS.icmpNo X3.here hx rfl (hb hby at_28) rfl (tlt ((by decide) : (1 : Int32) < (4 : Int32))).2.2.2 ?_
    show Steps p.tables e below (T3.setTop (mkF m 31 #[.val (.int p1), .val (.int p2), .val (.int p3), .val (.int p4), .val (.int p5), .val (.int p6), .val (.int (4 : Int32)), .val (.ref b1), .unset, .unset] [])) _
    refine XS.aload X3.here hx rfl (hb hby at_31) rfl rfl ?_
    show Steps p.tables e below (T3.setTop (mkF m 33 #[.val (.int p1), .val (.int p2), .val (.int p3), .val (.int p4), .val (.int p5), .val (.int p6), .val (.int (4 : Int32)), .val (.ref b1), .unset, .unset] [(.ref b1)])) _
    refine XS.iconst X3.here hx rfl (hb hby at_33) ?_
    show Steps p.tables e below (T3.setTop (mkF m 34 #[.val (.int p1), .val (.int p2), .val (.int p3), .val (.int p4), .val (.int p5), .val (.int p6), .val (.int (4 : Int32)), .val (.ref b1), .unset, .unset] [(.int (1 : Int32)), (.ref b1)])) _
    refine XS.iloadN X3.here hx rfl (hb hby at_34) rfl ?_
    show Steps p.tables e below (T3.setTop (mkF m 35 #[.val (.int p1), .val (.int p2), .val (.int p3), .val (.int p4), .val (.int p5), .val (.int p6), .val (.int (4 : Int32)), .val (.ref b1), .unset, .unset] [(.int p3), (.int (1 : Int32)), (.ref b1)])) _
    refine XS.i2b X3.here hx rfl (hb hby at_35) rfl ?_
    show Steps p.tables e below (T3.setTop (mkF m 36 #[.val (.int p1), .val (.int p2), .val (.int p3), .val (.int p4), .val (.int p5), .val (.int p6), .val (.int (4 : Int32)), .val (.ref b1), .unset, .unset] [(.int (p3.toInt8.toInt32)), (.int (1 : Int32)), (.ref b1)])) _
    refine st5 _ ?_
    show Steps p.tables e below (T5.setTop (mkF m 37 #[.val (.int p1), .val (.int p2), .val (.int p3), .val (.int p4), .val (.int p5), .val (.int p6), .val (.int (4 : Int32)), .val (.ref b1), .unset, .unset] [])) _
    refine XS.iload X5.here hx rfl (hb hby at_37) rfl ?_
    show Steps p.tables e below (T5.setTop (mkF m 39 #[.val (.int p1), .val (.int p2), .val (.int p3), .val (.int p4), .val (.int p5), .val (.int p6), .val (.int (4 : Int32)), .val (.ref b1), .unset, .unset] [(.int (4 : Int32))])) _
    refine XS.iconst X5.here hx rfl (hb hby at_39) ?_
    show Steps p.tables e below (T5.setTop (mkF m 40 #[.val (.int p1), .val (.int p2), .val (.int p3), .val (.int p4), .val (.int p5), .val (.int p6), .val (.int (4 : Int32)), .val (.ref b1), .unset, .unset] [(.int (2 : Int32)), (.int (4 : Int32))])) _
    refine XS.icmpNo X5.here hx rfl (hb hby at_40) rfl (tlt ((by decide) : (2 : Int32) < (4 : Int32))).2.2.2 ?_
    show Steps p.tables e below (T5.setTop (mkF m 43 #[.val (.int p1), .val (.int p2), .val (.int p3), .val (.int p4), .val (.int p5), .val (.int p6), .val (.int (4 : Int32)), .val (.ref b1), .unset, .unset] [])) _
    refine XS.aload X5.here hx rfl (hb hby at_43) rfl rfl ?_
    show Steps p.tables e below (T5.setTop (mkF m 45 #[.val (.int p1), .val (.int p2), .val (.int p3), .val (.int p4), .val (.int p5), .val (.int p6), .val (.int (4 : Int32)), .val (.ref b1), .unset, .unset] [(.ref b1)])) _
    refine XS.iconst X5.here hx rfl (hb hby at_45) ?_
    show Steps p.tables e below (T5.setTop (mkF m 46 #[.val (.int p1), .val (.int p2), .val (.int p3), .val (.int p4), .val (.int p5), .val (.int p6), .val (.int (4 : Int32)), .val (.ref b1), .unset, .unset] [(.int (2 : Int32)), (.ref b1)])) _
    refine XS.iloadN X5.here hx rfl (hb hby at_46) rfl ?_
    show Steps p.tables e below (T5.setTop (mkF m 47 #[.val (.int p1), .val (.int p2), .val (.int p3), .val (.int p4), .val (.int p5), .val (.int p6), .val (.int (4 : Int32)), .val (.ref b1), .unset, .unset] [(.int p4), (.int (2 : Int32)), (.ref b1)])) _
    refine XS.i2b X5.here hx rfl (hb hby at_47) rfl ?_
    show Steps p.tables e below (T5.setTop (mkF m 48 #[.val (.int p1), .val (.int p2), .val (.int p3), .val (.int p4), .val (.int p5), .val (.int p6), .val (.int (4 : Int32)), .val (.ref b1), .unset, .unset] [(.int (p4.toInt8.toInt32)), (.int (2 : Int32)), (.ref b1)])) _
    refine st7 _ ?_
    show Steps p.tables e below (T7.setTop (mkF m 49 #[.val (.int p1), .val (.int p2), .val (.int p3), .val (.int p4), .val (.int p5), .val (.int p6), .val (.int (4 : Int32)), .val (.ref b1), .unset, .unset] [])) _
    refine XS.iload X7.here hx rfl (hb hby at_49) rfl ?_
    show Steps p.tables e below (T7.setTop (mkF m 51 #[.val (.int p1), .val (.int p2), .val (.int p3), .val (.int p4), .val (.int p5), .val (.int p6), .val (.int (4 : Int32)), .val (.ref b1), .unset, .unset] [(.int (4 : Int32))])) _
    refine XS.iconst X7.here hx rfl (hb hby at_51) ?_
    show Steps p.tables e below (T7.setTop (mkF m 52 #[.val (.int p1), .val (.int p2), .val (.int p3), .val (.int p4), .val (.int p5), .val (.int p6), .val (.int (4 : Int32)), .val (.ref b1), .unset, .unset] [(.int (3 : Int32)), (.int (4 : Int32))])) _
    refine XS.icmpNo X7.here hx rfl (hb hby at_52) rfl (tlt ((by decide) : (3 : Int32) < (4 : Int32))).2.2.2 ?_
    show Steps p.tables e below (T7.setTop (mkF m 55 #[.val (.int p1), .val (.int p2), .val (.int p3), .val (.int p4), .val (.int p5), .val (.int p6), .val (.int (4 : Int32)), .val (.ref b1), .unset, .unset] [])) _
    refine XS.aload X7.here hx rfl (hb hby at_55) rfl rfl ?_
    show Steps p.tables e below (T7.setTop (mkF m 57 #[.val (.int p1), .val (.int p2), .val (.int p3), .val (.int p4), .val (.int p5), .val (.int p6), .val (.int (4 : Int32)), .val (.ref b1), .unset, .unset] [(.ref b1)])) _
    refine XS.iconst X7.here hx rfl (hb hby at_57) ?_
    show Steps p.tables e below (T7.setTop (mkF m 58 #[.val (.int p1), .val (.int p2), .val (.int p3), .val (.int p4), .val (.int p5), .val (.int p6), .val (.int (4 : Int32)), .val (.ref b1), .unset, .unset] [(.int (3 : Int32)), (.ref b1)])) _
    refine XS.iload X7.here hx rfl (hb hby at_58) rfl ?_
    show Steps p.tables e below (T7.setTop (mkF m 60 #[.val (.int p1), .val (.int p2), .val (.int p3), .val (.int p4), .val (.int p5), .val (.int p6), .val (.int (4 : Int32)), .val (.ref b1), .unset, .unset] [(.int p5), (.int (3 : Int32)), (.ref b1)])) _
    refine XS.i2b X7.here hx rfl (hb hby at_60) rfl ?_
    show Steps p.tables e below (T7.setTop (mkF m 61 #[.val (.int p1), .val (.int p2), .val (.int p3), .val (.int p4), .val (.int p5), .val (.int p6), .val (.int (4 : Int32)), .val (.ref b1), .unset, .unset] [(.int (p5.toInt8.toInt32)), (.int (3 : Int32)), (.ref b1)])) _
    refine st9 _ ?_
    show Steps p.tables e below (T9.setTop (mkF m 62 #[.val (.int p1), .val (.int p2), .val (.int p3), .val (.int p4), .val (.int p5), .val (.int p6), .val (.int (4 : Int32)), .val (.ref b1), .unset, .unset] [])) _
    refine XS.aload X9.here hx rfl (hb hby at_62) rfl rfl ?_
    show Steps p.tables e below (T9.setTop (mkF m 64 #[.val (.int p1), .val (.int p2), .val (.int p3), .val (.int p4), .val (.int p5), .val (.int p6), .val (.int (4 : Int32)), .val (.ref b1), .unset, .unset] [(.ref b1)])) _
    refine st10 _ ?_
    show Steps p.tables e below (T10.setTop (mkF m 67 #[.val (.int p1), .val (.int p2), .val (.int p3), .val (.int p4), .val (.int p5), .val (.int p6), .val (.int (4 : Int32)), .val (.ref b1), .unset, .unset] [(.ref b10_b1)])) _
    refine XS.astore X10.here hx rfl (hb hby at_67) rfl rfl (l' := #[.val (.int p1), .val (.int p2), .val (.int p3), .val (.int p4), .val (.int p5), .val (.int p6), .val (.int (4 : Int32)), .val (.ref b1), .val (.ref b10_b1), .unset]) rfl ?_
    show Steps p.tables e below (T10.setTop (mkF m 69 #[.val (.int p1), .val (.int p2), .val (.int p3), .val (.int p4), .val (.int p5), .val (.int p6), .val (.int (4 : Int32)), .val (.ref b1), .val (.ref b10_b1), .unset] [])) _
    refine XS.iload X10.here hx rfl (hb hby at_69) rfl ?_
    show Steps p.tables e below (T10.setTop (mkF m 71 #[.val (.int p1), .val (.int p2), .val (.int p3), .val (.int p4), .val (.int p5), .val (.int p6), .val (.int (4 : Int32)), .val (.ref b1), .val (.ref b10_b1), .unset] [(.int (4 : Int32))])) _
    refine XS.ifNo X10.here hx rfl (hb hby at_71) rfl ((if0 _ _).trans (tlt ((by decide) : (0 : Int32) < (4 : Int32))).2.2.2) ?_
    show Steps p.tables e below (T10.setTop (mkF m 74 #[.val (.int p1), .val (.int p2), .val (.int p3), .val (.int p4), .val (.int p5), .val (.int p6), .val (.int (4 : Int32)), .val (.ref b1), .val (.ref b10_b1), .unset] [])) _
    refine XS.iload X10.here hx rfl (hb hby at_74) rfl ?_
    show Steps p.tables e below (T10.setTop (mkF m 76 #[.val (.int p1), .val (.int p2), .val (.int p3), .val (.int p4), .val (.int p5), .val (.int p6), .val (.int (4 : Int32)), .val (.ref b1), .val (.ref b10_b1), .unset] [(.int p6)])) _
    refine X10.ldcInt hx hown (mvT hZ (hw _ (List.mem_of_getElem? (i := 0) rfl))) (g := (mkF m 76 #[.val (.int p1), .val (.int p2), .val (.int p3), .val (.int p4), .val (.int p5), .val (.int p6), .val (.int (4 : Int32)), .val (.ref b1), .val (.ref b10_b1), .unset] [(.int p6)])) rfl (hb hby at_76) _ ?_
    show Steps p.tables e below (T10.setTop (mkF m 78 #[.val (.int p1), .val (.int p2), .val (.int p3), .val (.int p4), .val (.int p5), .val (.int p6), .val (.int (4 : Int32)), .val (.ref b1), .val (.ref b10_b1), .unset] [(.int (2147483647 : Int32)), (.int p6)])) _
    refine XS.iand X10.here hx rfl (hb hby at_78) rfl ?_
    show Steps p.tables e below (T10.setTop (mkF m 79 #[.val (.int p1), .val (.int p2), .val (.int p3), .val (.int p4), .val (.int p5), .val (.int p6), .val (.int (4 : Int32)), .val (.ref b1), .val (.ref b10_b1), .unset] [(.int (p6 &&& (2147483647 : Int32)))])) _
    refine XS.iload X10.here hx rfl (hb hby at_79) rfl ?_
    show Steps p.tables e below (T10.setTop (mkF m 81 #[.val (.int p1), .val (.int p2), .val (.int p3), .val (.int p4), .val (.int p5), .val (.int p6), .val (.int (4 : Int32)), .val (.ref b1), .val (.ref b10_b1), .unset] [(.int (4 : Int32)), (.int (p6 &&& (2147483647 : Int32)))])) _
    refine iremM X10 hx rfl (hb hby at_81) rfl (by decide) ?_
    show Steps p.tables e below (T10.setTop (mkF m 82 #[.val (.int p1), .val (.int p2), .val (.int p3), .val (.int p4), .val (.int p5), .val (.int p6), .val (.int (4 : Int32)), .val (.ref b1), .val (.ref b10_b1), .unset] [(.int ((p6 &&& (2147483647 : Int32)) % (4 : Int32)))])) _
    rw [hi]
    show Steps p.tables e below (T10.setTop (mkF m 82 #[.val (.int p1), .val (.int p2), .val (.int p3), .val (.int p4), .val (.int p5), .val (.int p6), .val (.int (4 : Int32)), .val (.ref b1), .val (.ref b10_b1), .unset] [(.int (1 : Int32))])) _
    refine XS.istore X10.here hx rfl (hb hby at_82) rfl (l' := #[.val (.int p1), .val (.int p2), .val (.int p3), .val (.int p4), .val (.int p5), .val (.int p6), .val (.int (4 : Int32)), .val (.ref b1), .val (.ref b10_b1), .val (.int (1 : Int32))]) rfl ?_
    show Steps p.tables e below (T10.setTop (mkF m 84 #[.val (.int p1), .val (.int p2), .val (.int p3), .val (.int p4), .val (.int p5), .val (.int p6), .val (.int (4 : Int32)), .val (.ref b1), .val (.ref b10_b1), .val (.int (1 : Int32))] [])) _
    refine XS.aload X10.here hx rfl (hb hby at_84) rfl rfl ?_
    show Steps p.tables e below (T10.setTop (mkF m 86 #[.val (.int p1), .val (.int p2), .val (.int p3), .val (.int p4), .val (.int p5), .val (.int p6), .val (.int (4 : Int32)), .val (.ref b1), .val (.ref b10_b1), .val (.int (1 : Int32))] [(.ref b1)])) _
    refine XS.iload X10.here hx rfl (hb hby at_86) rfl ?_
    show Steps p.tables e below (T10.setTop (mkF m 88 #[.val (.int p1), .val (.int p2), .val (.int p3), .val (.int p4), .val (.int p5), .val (.int p6), .val (.int (4 : Int32)), .val (.ref b1), .val (.ref b10_b1), .val (.int (1 : Int32))] [(.int (1 : Int32)), (.ref b1)])) _
    refine XS.aload X10.here hx rfl (hb hby at_88) rfl rfl ?_
    show Steps p.tables e below (T10.setTop (mkF m 90 #[.val (.int p1), .val (.int p2), .val (.int p3), .val (.int p4), .val (.int p5), .val (.int p6), .val (.int (4 : Int32)), .val (.ref b1), .val (.ref b10_b1), .val (.int (1 : Int32))] [(.ref b1), (.int (1 : Int32)), (.ref b1)])) _
    refine XS.iload X10.here hx rfl (hb hby at_90) rfl ?_
    show Steps p.tables e below (T10.setTop (mkF m 92 #[.val (.int p1), .val (.int p2), .val (.int p3), .val (.int p4), .val (.int p5), .val (.int p6), .val (.int (4 : Int32)), .val (.ref b1), .val (.ref b10_b1), .val (.int (1 : Int32))] [(.int (1 : Int32)), (.ref b1), (.int (1 : Int32)), (.ref b1)])) _
    refine X10.baloadBytes hx (j := (1 : Int32)) (v := (.int (p3.toInt8.toInt32))) Ar11.1 (State.isArrayOf_alike hZ.alike Ar11.2.1) Ar11.2.2 hin11 hat11 (g := (mkF m 92 #[.val (.int p1), .val (.int p2), .val (.int p3), .val (.int p4), .val (.int p5), .val (.int p6), .val (.int (4 : Int32)), .val (.ref b1), .val (.ref b10_b1), .val (.int (1 : Int32))] [(.int (1 : Int32)), (.ref b1), (.int (1 : Int32)), (.ref b1)])) rfl rfl (hb hby at_92) _ ?_
    show Steps p.tables e below (T10.setTop (mkF m 93 #[.val (.int p1), .val (.int p2), .val (.int p3), .val (.int p4), .val (.int p5), .val (.int p6), .val (.int (4 : Int32)), .val (.ref b1), .val (.ref b10_b1), .val (.int (1 : Int32))] [(.int (p3.toInt8.toInt32)), (.int (1 : Int32)), (.ref b1)])) _
    refine XS.iconst X10.here hx rfl (hb hby at_93) ?_
    show Steps p.tables e below (T10.setTop (mkF m 94 #[.val (.int p1), .val (.int p2), .val (.int p3), .val (.int p4), .val (.int p5), .val (.int p6), .val (.int (4 : Int32)), .val (.ref b1), .val (.ref b10_b1), .val (.int (1 : Int32))] [(.int (-1 : Int32)), (.int (p3.toInt8.toInt32)), (.int (1 : Int32)), (.ref b1)])) _
    refine XS.ixor X10.here hx rfl (hb hby at_94) rfl ?_
    show Steps p.tables e below (T10.setTop (mkF m 95 #[.val (.int p1), .val (.int p2), .val (.int p3), .val (.int p4), .val (.int p5), .val (.int p6), .val (.int (4 : Int32)), .val (.ref b1), .val (.ref b10_b1), .val (.int (1 : Int32))] [(.int ((p3.toInt8.toInt32) ^^^ (-1 : Int32))), (.int (1 : Int32)), (.ref b1)])) _
    refine XS.i2b X10.here hx rfl (hb hby at_95) rfl ?_
    show Steps p.tables e below (T10.setTop (mkF m 96 #[.val (.int p1), .val (.int p2), .val (.int p3), .val (.int p4), .val (.int p5), .val (.int p6), .val (.int (4 : Int32)), .val (.ref b1), .val (.ref b10_b1), .val (.int (1 : Int32))] [(.int (((p3.toInt8.toInt32) ^^^ (-1 : Int32)).toInt8.toInt32)), (.int (1 : Int32)), (.ref b1)])) _
    refine st13 _ ?_
    show Steps p.tables e below (T13.setTop (mkF m 97 #[.val (.int p1), .val (.int p2), .val (.int p3), .val (.int p4), .val (.int p5), .val (.int p6), .val (.int (4 : Int32)), .val (.ref b1), .val (.ref b10_b1), .val (.int (1 : Int32))] [])) _
    refine XS.aload X13.here hx rfl (hb hby at_97) rfl rfl ?_
    show Steps p.tables e below (T13.setTop (mkF m 99 #[.val (.int p1), .val (.int p2), .val (.int p3), .val (.int p4), .val (.int p5), .val (.int p6), .val (.int (4 : Int32)), .val (.ref b1), .val (.ref b10_b1), .val (.int (1 : Int32))] [(.ref b10_b1)])) _
    refine st14.trans ?_
    show Steps p.tables e below (T14.setTop (mkF m 102 #[.val (.int p1), .val (.int p2), .val (.int p3), .val (.int p4), .val (.int p5), .val (.int p6), .val (.int (4 : Int32)), .val (.ref b1), .val (.ref b10_b1), .val (.int (1 : Int32))] [(.ref w_n1)])) _
    refine st15 _ ?_
    show Steps p.tables e below (T15.setTop (mkF m 105 #[.val (.int p1), .val (.int p2), .val (.int p3), .val (.int p4), .val (.int p5), .val (.int p6), .val (.int (4 : Int32)), .val (.ref b1), .val (.ref b10_b1), .val (.int (1 : Int32))] [(.ref w_n1), (.ref w_n1)])) _
    refine Jvm.RoadKit.acmp (g := (mkF m 105 #[.val (.int p1), .val (.int p2), .val (.int p3), .val (.int p4), .val (.int p5), .val (.int p6), .val (.int (4 : Int32)), .val (.ref b1), .val (.ref b10_b1), .val (.int (1 : Int32))] [(.ref w_n1), (.ref w_n1)])) X15 hx rfl rfl rfl (pc0 := 105) (pc' := 110) (same := true) rfl (hb hby at_105) rfl (decide_eq_true rfl) (by decide) (by decide) ?_
    show Steps p.tables e below (T15.setTop (mkF m 110 #[.val (.int p1), .val (.int p2), .val (.int p3), .val (.int p4), .val (.int p5), .val (.int p6), .val (.int (4 : Int32)), .val (.ref b1), .val (.ref b10_b1), .val (.int (1 : Int32))] [])) _
    refine XS.aload X15.here hx rfl (hb hby at_110) rfl rfl ?_
    show Steps p.tables e below (T15.setTop (mkF m 112 #[.val (.int p1), .val (.int p2), .val (.int p3), .val (.int p4), .val (.int p5), .val (.int p6), .val (.int (4 : Int32)), .val (.ref b1), .val (.ref b10_b1), .val (.int (1 : Int32))] [(.ref b10_b1)])) _
    refine st16.trans ?_
    show Steps p.tables e below (T16.setTop (mkF m 115 #[.val (.int p1), .val (.int p2), .val (.int p3), .val (.int p4), .val (.int p5), .val (.int p6), .val (.int (4 : Int32)), .val (.ref b1), .val (.ref b10_b1), .val (.int (1 : Int32))] [(.int (4 : Int32))])) _
    refine XS.iload X16.here hx rfl (hb hby at_115) rfl ?_
    show Steps p.tables e below (T16.setTop (mkF m 117 #[.val (.int p1), .val (.int p2), .val (.int p3), .val (.int p4), .val (.int p5), .val (.int p6), .val (.int (4 : Int32)), .val (.ref b1), .val (.ref b10_b1), .val (.int (1 : Int32))] [(.int (4 : Int32)), (.int (4 : Int32))])) _
    refine XS.icmpYes X16.here hx rfl (pc0 := 117) (pc' := 122) rfl (hb hby at_117) rfl (teq ((by decide) : (4 : Int32) = (4 : Int32))).1 (by decide) (by decide) ?_
    show Steps p.tables e below (T16.setTop (mkF m 122 #[.val (.int p1), .val (.int p2), .val (.int p3), .val (.int p4), .val (.int p5), .val (.int p6), .val (.int (4 : Int32)), .val (.ref b1), .val (.ref b10_b1), .val (.int (1 : Int32))] [])) _
    refine XS.aload X16.here hx rfl (hb hby at_122) rfl rfl ?_
    show Steps p.tables e below (T16.setTop (mkF m 124 #[.val (.int p1), .val (.int p2), .val (.int p3), .val (.int p4), .val (.int p5), .val (.int p6), .val (.int (4 : Int32)), .val (.ref b1), .val (.ref b10_b1), .val (.int (1 : Int32))] [(.ref b10_b1)])) _
    refine st17.trans ?_
    show Steps p.tables e below (T17.setTop (mkF m 127 #[.val (.int p1), .val (.int p2), .val (.int p3), .val (.int p4), .val (.int p5), .val (.int p6), .val (.int (4 : Int32)), .val (.ref b1), .val (.ref b10_b1), .val (.int (1 : Int32))] [(.ref b17_b4)])) _
    refine XS.astore X17.here hx rfl (hb hby at_127) rfl rfl (l' := #[.val (.int p1), .val (.int p2), .val (.int p3), .val (.int p4), .val (.int p5), .val (.int p6), .val (.int (4 : Int32)), .val (.ref b1), .val (.ref b10_b1), .val (.ref b17_b4)]) rfl ?_
    show Steps p.tables e below (T17.setTop (mkF m 129 #[.val (.int p1), .val (.int p2), .val (.int p3), .val (.int p4), .val (.int p5), .val (.int p6), .val (.int (4 : Int32)), .val (.ref b1), .val (.ref b10_b1), .val (.ref b17_b4)] [])) _
    refine XS.aload X17.here hx rfl (hb hby at_129) rfl rfl ?_
    show Steps p.tables e below (T17.setTop (mkF m 131 #[.val (.int p1), .val (.int p2), .val (.int p3), .val (.int p4), .val (.int p5), .val (.int p6), .val (.int (4 : Int32)), .val (.ref b1), .val (.ref b10_b1), .val (.ref b17_b4)] [(.ref b17_b4)])) _
    refine X17.arraylength hx Ar18.1 (State.isArrayOf_alike hZ.alike Ar18.2.1) (g := (mkF m 131 #[.val (.int p1), .val (.int p2), .val (.int p3), .val (.int p4), .val (.int p5), .val (.int p6), .val (.int (4 : Int32)), .val (.ref b1), .val (.ref b10_b1), .val (.ref b17_b4)] [(.ref b17_b4)])) rfl rfl (hb hby at_131) _ ?_
    rw [len_of Sz18 Nz18]
    show Steps p.tables e below (T17.setTop (mkF m 132 #[.val (.int p1), .val (.int p2), .val (.int p3), .val (.int p4), .val (.int p5), .val (.int p6), .val (.int (4 : Int32)), .val (.ref b1), .val (.ref b10_b1), .val (.ref b17_b4)] [(.int (4 : Int32))])) _
    refine XS.iload X17.here hx rfl (hb hby at_132) rfl ?_
    show Steps p.tables e below (T17.setTop (mkF m 134 #[.val (.int p1), .val (.int p2), .val (.int p3), .val (.int p4), .val (.int p5), .val (.int p6), .val (.int (4 : Int32)), .val (.ref b1), .val (.ref b10_b1), .val (.ref b17_b4)] [(.int (4 : Int32)), (.int (4 : Int32))])) _
    refine XS.icmpYes X17.here hx rfl (pc0 := 134) (pc' := 139) rfl (hb hby at_134) rfl (teq ((by decide) : (4 : Int32) = (4 : Int32))).1 (by decide) (by decide) ?_
    show Steps p.tables e below (T17.setTop (mkF m 139 #[.val (.int p1), .val (.int p2), .val (.int p3), .val (.int p4), .val (.int p5), .val (.int p6), .val (.int (4 : Int32)), .val (.ref b1), .val (.ref b10_b1), .val (.ref b17_b4)] [])) _
    refine XS.iload X17.here hx rfl (hb hby at_139) rfl ?_
    show Steps p.tables e below (T17.setTop (mkF m 141 #[.val (.int p1), .val (.int p2), .val (.int p3), .val (.int p4), .val (.int p5), .val (.int p6), .val (.int (4 : Int32)), .val (.ref b1), .val (.ref b10_b1), .val (.ref b17_b4)] [(.int (4 : Int32))])) _
    refine XS.ifNo X17.here hx rfl (hb hby at_141) rfl ((if0 _ _).trans (tlt ((by decide) : (0 : Int32) < (4 : Int32))).2.2.2) ?_
    show Steps p.tables e below (T17.setTop (mkF m 144 #[.val (.int p1), .val (.int p2), .val (.int p3), .val (.int p4), .val (.int p5), .val (.int p6), .val (.int (4 : Int32)), .val (.ref b1), .val (.ref b10_b1), .val (.ref b17_b4)] [])) _
    refine XS.aload X17.here hx rfl (hb hby at_144) rfl rfl ?_
    show Steps p.tables e below (T17.setTop (mkF m 146 #[.val (.int p1), .val (.int p2), .val (.int p3), .val (.int p4), .val (.int p5), .val (.int p6), .val (.int (4 : Int32)), .val (.ref b1), .val (.ref b10_b1), .val (.ref b17_b4)] [(.ref b17_b4)])) _
    refine XS.iconst X17.here hx rfl (hb hby at_146) ?_
    show Steps p.tables e below (T17.setTop (mkF m 147 #[.val (.int p1), .val (.int p2), .val (.int p3), .val (.int p4), .val (.int p5), .val (.int p6), .val (.int (4 : Int32)), .val (.ref b1), .val (.ref b10_b1), .val (.ref b17_b4)] [(.int (0 : Int32)), (.ref b17_b4)])) _
    refine X17.baloadBytes hx (j := (0 : Int32)) (v := (.int (p2.toInt8.toInt32))) Ar19.1 (State.isArrayOf_alike hZ.alike Ar19.2.1) Ar19.2.2 hin19 hat19 (g := (mkF m 147 #[.val (.int p1), .val (.int p2), .val (.int p3), .val (.int p4), .val (.int p5), .val (.int p6), .val (.int (4 : Int32)), .val (.ref b1), .val (.ref b10_b1), .val (.ref b17_b4)] [(.int (0 : Int32)), (.ref b17_b4)])) rfl rfl (hb hby at_147) _ ?_
    show Steps p.tables e below (T17.setTop (mkF m 148 #[.val (.int p1), .val (.int p2), .val (.int p3), .val (.int p4), .val (.int p5), .val (.int p6), .val (.int (4 : Int32)), .val (.ref b1), .val (.ref b10_b1), .val (.ref b17_b4)] [(.int (p2.toInt8.toInt32))])) _
    refine XS.iloadN X17.here hx rfl (hb hby at_148) rfl ?_
    show Steps p.tables e below (T17.setTop (mkF m 149 #[.val (.int p1), .val (.int p2), .val (.int p3), .val (.int p4), .val (.int p5), .val (.int p6), .val (.int (4 : Int32)), .val (.ref b1), .val (.ref b10_b1), .val (.ref b17_b4)] [(.int p2), (.int (p2.toInt8.toInt32))])) _
    refine XS.i2b X17.here hx rfl (hb hby at_149) rfl ?_
    show Steps p.tables e below (T17.setTop (mkF m 150 #[.val (.int p1), .val (.int p2), .val (.int p3), .val (.int p4), .val (.int p5), .val (.int p6), .val (.int (4 : Int32)), .val (.ref b1), .val (.ref b10_b1), .val (.ref b17_b4)] [(.int (p2.toInt8.toInt32)), (.int (p2.toInt8.toInt32))])) _
    refine XS.icmpYes X17.here hx rfl (pc0 := 150) (pc' := 155) rfl (hb hby at_150) rfl (teq (rfl : (p2.toInt8.toInt32) = (p2.toInt8.toInt32))).1 (by decide) (by decide) ?_
    show Steps p.tables e below (T17.setTop (mkF m 155 #[.val (.int p1), .val (.int p2), .val (.int p3), .val (.int p4), .val (.int p5), .val (.int p6), .val (.int (4 : Int32)), .val (.ref b1), .val (.ref b10_b1), .val (.ref b17_b4)] [])) _
    refine XS.iload X17.here hx rfl (hb hby at_155) rfl ?_
    show Steps p.tables e below (T17.setTop (mkF m 157 #[.val (.int p1), .val (.int p2), .val (.int p3), .val (.int p4), .val (.int p5), .val (.int p6), .val (.int (4 : Int32)), .val (.ref b1), .val (.ref b10_b1), .val (.ref b17_b4)] [(.int (4 : Int32))])) _
    refine XS.iconst X17.here hx rfl (hb hby at_157) ?_
    show Steps p.tables e below (T17.setTop (mkF m 158 #[.val (.int p1), .val (.int p2), .val (.int p3), .val (.int p4), .val (.int p5), .val (.int p6), .val (.int (4 : Int32)), .val (.ref b1), .val (.ref b10_b1), .val (.ref b17_b4)] [(.int (1 : Int32)), (.int (4 : Int32))])) _
    refine XS.icmpNo X17.here hx rfl (hb hby at_158) rfl (tlt ((by decide) : (1 : Int32) < (4 : Int32))).2.2.2 ?_
    show Steps p.tables e below (T17.setTop (mkF m 161 #[.val (.int p1), .val (.int p2), .val (.int p3), .val (.int p4), .val (.int p5), .val (.int p6), .val (.int (4 : Int32)), .val (.ref b1), .val (.ref b10_b1), .val (.ref b17_b4)] [])) _
    refine XS.aload X17.here hx rfl (hb hby at_161) rfl rfl ?_
    show Steps p.tables e below (T17.setTop (mkF m 163 #[.val (.int p1), .val (.int p2), .val (.int p3), .val (.int p4), .val (.int p5), .val (.int p6), .val (.int (4 : Int32)), .val (.ref b1), .val (.ref b10_b1), .val (.ref b17_b4)] [(.ref b17_b4)])) _
    refine XS.iconst X17.here hx rfl (hb hby at_163) ?_
    show Steps p.tables e below (T17.setTop (mkF m 164 #[.val (.int p1), .val (.int p2), .val (.int p3), .val (.int p4), .val (.int p5), .val (.int p6), .val (.int (4 : Int32)), .val (.ref b1), .val (.ref b10_b1), .val (.ref b17_b4)] [(.int (1 : Int32)), (.ref b17_b4)])) _
    refine X17.baloadBytes hx (j := (1 : Int32)) (v := (.int (p3.toInt8.toInt32))) Ar20.1 (State.isArrayOf_alike hZ.alike Ar20.2.1) Ar20.2.2 hin20 hat20 (g := (mkF m 164 #[.val (.int p1), .val (.int p2), .val (.int p3), .val (.int p4), .val (.int p5), .val (.int p6), .val (.int (4 : Int32)), .val (.ref b1), .val (.ref b10_b1), .val (.ref b17_b4)] [(.int (1 : Int32)), (.ref b17_b4)])) rfl rfl (hb hby at_164) _ ?_
    show Steps p.tables e below (T17.setTop (mkF m 165 #[.val (.int p1), .val (.int p2), .val (.int p3), .val (.int p4), .val (.int p5), .val (.int p6), .val (.int (4 : Int32)), .val (.ref b1), .val (.ref b10_b1), .val (.ref b17_b4)] [(.int (p3.toInt8.toInt32))])) _
    refine XS.iloadN X17.here hx rfl (hb hby at_165) rfl ?_
    show Steps p.tables e below (T17.setTop (mkF m 166 #[.val (.int p1), .val (.int p2), .val (.int p3), .val (.int p4), .val (.int p5), .val (.int p6), .val (.int (4 : Int32)), .val (.ref b1), .val (.ref b10_b1), .val (.ref b17_b4)] [(.int p3), (.int (p3.toInt8.toInt32))])) _
    refine XS.i2b X17.here hx rfl (hb hby at_166) rfl ?_
    show Steps p.tables e below (T17.setTop (mkF m 167 #[.val (.int p1), .val (.int p2), .val (.int p3), .val (.int p4), .val (.int p5), .val (.int p6), .val (.int (4 : Int32)), .val (.ref b1), .val (.ref b10_b1), .val (.ref b17_b4)] [(.int (p3.toInt8.toInt32)), (.int (p3.toInt8.toInt32))])) _
    refine XS.icmpYes X17.here hx rfl (pc0 := 167) (pc' := 172) rfl (hb hby at_167) rfl (teq (rfl : (p3.toInt8.toInt32) = (p3.toInt8.toInt32))).1 (by decide) (by decide) ?_
    show Steps p.tables e below (T17.setTop (mkF m 172 #[.val (.int p1), .val (.int p2), .val (.int p3), .val (.int p4), .val (.int p5), .val (.int p6), .val (.int (4 : Int32)), .val (.ref b1), .val (.ref b10_b1), .val (.ref b17_b4)] [])) _
    refine XS.iload X17.here hx rfl (hb hby at_172) rfl ?_
    show Steps p.tables e below (T17.setTop (mkF m 174 #[.val (.int p1), .val (.int p2), .val (.int p3), .val (.int p4), .val (.int p5), .val (.int p6), .val (.int (4 : Int32)), .val (.ref b1), .val (.ref b10_b1), .val (.ref b17_b4)] [(.int (4 : Int32))])) _
    refine XS.iconst X17.here hx rfl (hb hby at_174) ?_
    show Steps p.tables e below (T17.setTop (mkF m 175 #[.val (.int p1), .val (.int p2), .val (.int p3), .val (.int p4), .val (.int p5), .val (.int p6), .val (.int (4 : Int32)), .val (.ref b1), .val (.ref b10_b1), .val (.ref b17_b4)] [(.int (2 : Int32)), (.int (4 : Int32))])) _
    refine XS.icmpNo X17.here hx rfl (hb hby at_175) rfl (tlt ((by decide) : (2 : Int32) < (4 : Int32))).2.2.2 ?_
    show Steps p.tables e below (T17.setTop (mkF m 178 #[.val (.int p1), .val (.int p2), .val (.int p3), .val (.int p4), .val (.int p5), .val (.int p6), .val (.int (4 : Int32)), .val (.ref b1), .val (.ref b10_b1), .val (.ref b17_b4)] [])) _
    refine XS.aload X17.here hx rfl (hb hby at_178) rfl rfl ?_
    show Steps p.tables e below (T17.setTop (mkF m 180 #[.val (.int p1), .val (.int p2), .val (.int p3), .val (.int p4), .val (.int p5), .val (.int p6), .val (.int (4 : Int32)), .val (.ref b1), .val (.ref b10_b1), .val (.ref b17_b4)] [(.ref b17_b4)])) _
    refine XS.iconst X17.here hx rfl (hb hby at_180) ?_
    show Steps p.tables e below (T17.setTop (mkF m 181 #[.val (.int p1), .val (.int p2), .val (.int p3), .val (.int p4), .val (.int p5), .val (.int p6), .val (.int (4 : Int32)), .val (.ref b1), .val (.ref b10_b1), .val (.ref b17_b4)] [(.int (2 : Int32)), (.ref b17_b4)])) _
    refine X17.baloadBytes hx (j := (2 : Int32)) (v := (.int (p4.toInt8.toInt32))) Ar21.1 (State.isArrayOf_alike hZ.alike Ar21.2.1) Ar21.2.2 hin21 hat21 (g := (mkF m 181 #[.val (.int p1), .val (.int p2), .val (.int p3), .val (.int p4), .val (.int p5), .val (.int p6), .val (.int (4 : Int32)), .val (.ref b1), .val (.ref b10_b1), .val (.ref b17_b4)] [(.int (2 : Int32)), (.ref b17_b4)])) rfl rfl (hb hby at_181) _ ?_
    show Steps p.tables e below (T17.setTop (mkF m 182 #[.val (.int p1), .val (.int p2), .val (.int p3), .val (.int p4), .val (.int p5), .val (.int p6), .val (.int (4 : Int32)), .val (.ref b1), .val (.ref b10_b1), .val (.ref b17_b4)] [(.int (p4.toInt8.toInt32))])) _
    refine XS.iloadN X17.here hx rfl (hb hby at_182) rfl ?_
    show Steps p.tables e below (T17.setTop (mkF m 183 #[.val (.int p1), .val (.int p2), .val (.int p3), .val (.int p4), .val (.int p5), .val (.int p6), .val (.int (4 : Int32)), .val (.ref b1), .val (.ref b10_b1), .val (.ref b17_b4)] [(.int p4), (.int (p4.toInt8.toInt32))])) _
    refine XS.i2b X17.here hx rfl (hb hby at_183) rfl ?_
    show Steps p.tables e below (T17.setTop (mkF m 184 #[.val (.int p1), .val (.int p2), .val (.int p3), .val (.int p4), .val (.int p5), .val (.int p6), .val (.int (4 : Int32)), .val (.ref b1), .val (.ref b10_b1), .val (.ref b17_b4)] [(.int (p4.toInt8.toInt32)), (.int (p4.toInt8.toInt32))])) _
    refine XS.icmpYes X17.here hx rfl (pc0 := 184) (pc' := 189) rfl (hb hby at_184) rfl (teq (rfl : (p4.toInt8.toInt32) = (p4.toInt8.toInt32))).1 (by decide) (by decide) ?_
    show Steps p.tables e below (T17.setTop (mkF m 189 #[.val (.int p1), .val (.int p2), .val (.int p3), .val (.int p4), .val (.int p5), .val (.int p6), .val (.int (4 : Int32)), .val (.ref b1), .val (.ref b10_b1), .val (.ref b17_b4)] [])) _
    refine XS.iload X17.here hx rfl (hb hby at_189) rfl ?_
    show Steps p.tables e below (T17.setTop (mkF m 191 #[.val (.int p1), .val (.int p2), .val (.int p3), .val (.int p4), .val (.int p5), .val (.int p6), .val (.int (4 : Int32)), .val (.ref b1), .val (.ref b10_b1), .val (.ref b17_b4)] [(.int (4 : Int32))])) _
    refine XS.iconst X17.here hx rfl (hb hby at_191) ?_
    show Steps p.tables e below (T17.setTop (mkF m 192 #[.val (.int p1), .val (.int p2), .val (.int p3), .val (.int p4), .val (.int p5), .val (.int p6), .val (.int (4 : Int32)), .val (.ref b1), .val (.ref b10_b1), .val (.ref b17_b4)] [(.int (3 : Int32)), (.int (4 : Int32))])) _
    refine XS.icmpNo X17.here hx rfl (hb hby at_192) rfl (tlt ((by decide) : (3 : Int32) < (4 : Int32))).2.2.2 ?_
    show Steps p.tables e below (T17.setTop (mkF m 195 #[.val (.int p1), .val (.int p2), .val (.int p3), .val (.int p4), .val (.int p5), .val (.int p6), .val (.int (4 : Int32)), .val (.ref b1), .val (.ref b10_b1), .val (.ref b17_b4)] [])) _
    refine XS.aload X17.here hx rfl (hb hby at_195) rfl rfl ?_
    show Steps p.tables e below (T17.setTop (mkF m 197 #[.val (.int p1), .val (.int p2), .val (.int p3), .val (.int p4), .val (.int p5), .val (.int p6), .val (.int (4 : Int32)), .val (.ref b1), .val (.ref b10_b1), .val (.ref b17_b4)] [(.ref b17_b4)])) _
    refine XS.iconst X17.here hx rfl (hb hby at_197) ?_
    show Steps p.tables e below (T17.setTop (mkF m 198 #[.val (.int p1), .val (.int p2), .val (.int p3), .val (.int p4), .val (.int p5), .val (.int p6), .val (.int (4 : Int32)), .val (.ref b1), .val (.ref b10_b1), .val (.ref b17_b4)] [(.int (3 : Int32)), (.ref b17_b4)])) _
    refine X17.baloadBytes hx (j := (3 : Int32)) (v := (.int (p5.toInt8.toInt32))) Ar22.1 (State.isArrayOf_alike hZ.alike Ar22.2.1) Ar22.2.2 hin22 hat22 (g := (mkF m 198 #[.val (.int p1), .val (.int p2), .val (.int p3), .val (.int p4), .val (.int p5), .val (.int p6), .val (.int (4 : Int32)), .val (.ref b1), .val (.ref b10_b1), .val (.ref b17_b4)] [(.int (3 : Int32)), (.ref b17_b4)])) rfl rfl (hb hby at_198) _ ?_
    show Steps p.tables e below (T17.setTop (mkF m 199 #[.val (.int p1), .val (.int p2), .val (.int p3), .val (.int p4), .val (.int p5), .val (.int p6), .val (.int (4 : Int32)), .val (.ref b1), .val (.ref b10_b1), .val (.ref b17_b4)] [(.int (p5.toInt8.toInt32))])) _
    refine XS.iload X17.here hx rfl (hb hby at_199) rfl ?_
    show Steps p.tables e below (T17.setTop (mkF m 201 #[.val (.int p1), .val (.int p2), .val (.int p3), .val (.int p4), .val (.int p5), .val (.int p6), .val (.int (4 : Int32)), .val (.ref b1), .val (.ref b10_b1), .val (.ref b17_b4)] [(.int p5), (.int (p5.toInt8.toInt32))])) _
    refine XS.i2b X17.here hx rfl (hb hby at_201) rfl ?_
    show Steps p.tables e below (T17.setTop (mkF m 202 #[.val (.int p1), .val (.int p2), .val (.int p3), .val (.int p4), .val (.int p5), .val (.int p6), .val (.int (4 : Int32)), .val (.ref b1), .val (.ref b10_b1), .val (.ref b17_b4)] [(.int (p5.toInt8.toInt32)), (.int (p5.toInt8.toInt32))])) _
    refine XS.icmpYes X17.here hx rfl (pc0 := 202) (pc' := 207) rfl (hb hby at_202) rfl (teq (rfl : (p5.toInt8.toInt32) = (p5.toInt8.toInt32))).1 (by decide) (by decide) ?_
    show Steps p.tables e below (T17.setTop (mkF m 207 #[.val (.int p1), .val (.int p2), .val (.int p3), .val (.int p4), .val (.int p5), .val (.int p6), .val (.int (4 : Int32)), .val (.ref b1), .val (.ref b10_b1), .val (.ref b17_b4)] [])) _
    refine XS.iconst X17.here hx rfl (hb hby at_207) ?_
    show Steps p.tables e below (T17.setTop (mkF m 208 #[.val (.int p1), .val (.int p2), .val (.int p3), .val (.int p4), .val (.int p5), .val (.int p6), .val (.int (4 : Int32)), .val (.ref b1), .val (.ref b10_b1), .val (.ref b17_b4)] [(.int (1 : Int32))])) _
    exact retN X17 hx (t := .boolean) Bd.returns (by simp) (hb hby at_208) hr
  · show Q0 n0 _ T17.heap _
    exact ⟨rfl, N17⟩
set_option maxRecDepth 65536 in
set_option maxHeartbeats 40000000 in
theorem rm0_42 (l : Launch) (Z : State) (a0 : Array Value) (hw : ∀ d ∈ tables_1, d.before a0 Z = true) (ws : List Jvm.Cond) {w_n1 : Addr} {w_n0 : Addr} {k_n0 : ClassId} (W : Wd Z w_n1 w_n0 k_n0) (p1 : Int32) (p2 : Int32) (p3 : Int32) (p4 : Int32) (p5 : Int32) (p6 : Int32) (h0 : Heap) (n0 : Nat) (O0 : Old Z n0 h0) (hk : ((p1 &&& (2147483647 : Int32)) % (5 : Int32)) = (4 : Int32)) (hi : ((p6 &&& (2147483647 : Int32)) % (4 : Int32)) = (2 : Int32)) :
    MetFree l x (head1 (Jvm.Cond.code x code maxLocals ret :: ws) room_1) (fun a U => a = #[(.int p1), (.int p2), (.int p3), (.int p4), (.int p5), (.int p6)] ∧ Z.Warmed39 U.vm ∧ U.heap = h0) (fun _ _ _ _ _ => True) (fun _ U o U' => ∃ v L, o = .returned v ∧ Q0 n0 v U'.heap L ∧ FrameEnd U o U' L room_1.cells room_1.slots) := by
  have W' := W; obtain ⟨S_n1, E_n1, S_n0, F_n1_ordinal, V_n0⟩ := W'
  refine MetFree.of_bodySF (plainFor_of_name pn_0) hisR ?_
  intro p e s m args below meth c s₁ Bd hml0 hP hK
  obtain ⟨rfl, hZ, hh⟩ := hP
  have hx := Bd.exec
  have hby := Bd.bytes
  have hml : c.maxLocals = 10 := hml0
  have hown : s.vm.findClass "com/example/keyfold/keyfold/core/ValueOfBinary193PinLaw" = some m.cls := findClass_of_methodNamed Bd.named
  have hnm := (name_of_methodNamed Bd.named Bd.method).1
  have X0 : Stand p l e room_1 s m #[(.int p1), (.int p2), (.int p3), (.int p4), (.int p5), (.int p6)] below meth c s₁ [] 0 0 := Stand.of_body Bd
  have e0 : s₁.heap = h0 := by rw [← hh, Bd.state]; rfl
  have N0 := Fr.nil n0
  have pre0 : ∀ t, Steps p.tables e below (s₁.setTop (mkF m 0 #[.val (.int p1), .val (.int p2), .val (.int p3), .val (.int p4), .val (.int p5), .val (.int p6), .unset, .unset, .unset, .unset] [])) t → Steps p.tables e below (s₁.setTop (entryFrame m #[(.int p1), (.int p2), (.int p3), (.int p4), (.int p5), (.int p6)] maxLocals)) t := fun t k => castTop (ef_0_7 m p1 p2 p3 p4 p5 p6) k
  obtain ⟨T1, h1, k1, X1, e1, E1, A1, B1, st1⟩ := newPE X0 hx hZ (hw _ (List.mem_of_getElem? (i := 1) rfl)) e0 (g := (mkF m 10 #[.val (.int p1), .val (.int p2), .val (.int p3), .val (.int p4), .val (.int p5), .val (.int p6), .val (.int (4 : Int32)), .unset, .unset, .unset] [(.int (4 : Int32))])) rfl (hb hby at_10) rfl (by decide) (cap := 4) (by decide) (by decide) (by decide) (by decide) (ad := "[B") (by decide)
  obtain ⟨b1, g1⟩ : ∃ z, z = h0.size := ⟨_, rfl⟩
  rw [← g1] at A1 B1 st1
  have g_b1 : n0 ≤ b1 := by rw [g1]; exact O0.1 ▸ O0.2.1
  have O1 := O0.ext E1
  have fv1 : Arv Z h1 b1 k1 .byte (4 : Int32) [(.int (0 : Int32)), (.int (0 : Int32)), (.int (0 : Int32)), (.int (0 : Int32))] (.int (0 : Int32)) := (Arv.new A1 (by decide)).pad (pad_rep [] (.int (0 : Int32)) 4)
  obtain ⟨cl2, Ar2, qk2, Sz2, Nz2, Hs2, Gs2⟩ := id fv1
  have hin2 : ¬ ((0 : Int32) < 0 ∨ cl2.slots.size ≤ ((0 : Int32)).toNatClampNeg) := inb_of Sz2 ⟨by decide, by decide⟩
  obtain ⟨T3, h3, X3, e3, W3, st3⟩ := stB X1 hx hZ e1 Ar2 (j := (0 : Int32)) hin2  (g := (mkF m 24 #[.val (.int p1), .val (.int p2), .val (.int p3), .val (.int p4), .val (.int p5), .val (.int p6), .val (.int (4 : Int32)), .val (.ref b1), .unset, .unset] [(.int (p2.toInt8.toInt32)), (.int (0 : Int32)), (.ref b1)])) rfl rfl (hb hby at_24)
  rw [show nar .byte (p2.toInt8.toInt32) = (p2.toInt8.toInt32) from own_byte _] at W3
  have fw3 : Arv Z h3 b1 k1 .byte (4 : Int32) [(.int (p2.toInt8.toInt32)), (.int (0 : Int32)), (.int (0 : Int32)), (.int (0 : Int32))] (.int (0 : Int32)) := Arv.set Ar2 qk2 Sz2 Nz2 Hs2 Gs2 (fits_nar_byte _) W3 0 rfl (Nat.le_of_ble_eq_true rfl)
  have f3_0 : Exa Z h3 b1 "[B" := (B1).wr W3
  have O3 := O1.wr W3 g_b1
  have N3 := Fr.snoc X3 N0 g_b1
  obtain ⟨cl4, Ar4, qk4, Sz4, Nz4, Hs4, Gs4⟩ := id fw3
  have hin4 : ¬ ((1 : Int32) < 0 ∨ cl4.slots.size ≤ ((1 : Int32)).toNatClampNeg) := inb_of Sz4 ⟨by decide, by decide⟩
  obtain ⟨T5, h5, X5, e5, W5, st5⟩ := stB X3 hx hZ e3 Ar4 (j := (1 : Int32)) hin4  (g := (mkF m 36 #[.val (.int p1), .val (.int p2), .val (.int p3), .val (.int p4), .val (.int p5), .val (.int p6), .val (.int (4 : Int32)), .val (.ref b1), .unset, .unset] [(.int (p3.toInt8.toInt32)), (.int (1 : Int32)), (.ref b1)])) rfl rfl (hb hby at_36)
  rw [show nar .byte (p3.toInt8.toInt32) = (p3.toInt8.toInt32) from own_byte _] at W5
  have fw5 : Arv Z h5 b1 k1 .byte (4 : Int32) [(.int (p2.toInt8.toInt32)), (.int (p3.toInt8.toInt32)), (.int (0 : Int32)), (.int (0 : Int32))] (.int (0 : Int32)) := Arv.set Ar4 qk4 Sz4 Nz4 Hs4 Gs4 (fits_nar_byte _) W5 1 rfl (Nat.le_of_ble_eq_true rfl)
  have f5_0 : Exa Z h5 b1 "[B" := (f3_0).wr W5
  have O5 := O3.wr W5 g_b1
  have N5 := Fr.snoc X5 N3 g_b1
  obtain ⟨cl6, Ar6, qk6, Sz6, Nz6, Hs6, Gs6⟩ := id fw5
  have hin6 : ¬ ((2 : Int32) < 0 ∨ cl6.slots.size ≤ ((2 : Int32)).toNatClampNeg) := inb_of Sz6 ⟨by decide, by decide⟩
  obtain ⟨T7, h7, X7, e7, W7, st7⟩ := stB X5 hx hZ e5 Ar6 (j := (2 : Int32)) hin6  (g := (mkF m 48 #[.val (.int p1), .val (.int p2), .val (.int p3), .val (.int p4), .val (.int p5), .val (.int p6), .val (.int (4 : Int32)), .val (.ref b1), .unset, .unset] [(.int (p4.toInt8.toInt32)), (.int (2 : Int32)), (.ref b1)])) rfl rfl (hb hby at_48)
  rw [show nar .byte (p4.toInt8.toInt32) = (p4.toInt8.toInt32) from own_byte _] at W7
  have fw7 : Arv Z h7 b1 k1 .byte (4 : Int32) [(.int (p2.toInt8.toInt32)), (.int (p3.toInt8.toInt32)), (.int (p4.toInt8.toInt32)), (.int (0 : Int32))] (.int (0 : Int32)) := Arv.set Ar6 qk6 Sz6 Nz6 Hs6 Gs6 (fits_nar_byte _) W7 2 rfl (Nat.le_of_ble_eq_true rfl)
  have f7_0 : Exa Z h7 b1 "[B" := (f5_0).wr W7
  have O7 := O5.wr W7 g_b1
  have N7 := Fr.snoc X7 N5 g_b1
  obtain ⟨cl8, Ar8, qk8, Sz8, Nz8, Hs8, Gs8⟩ := id fw7
  have hin8 : ¬ ((3 : Int32) < 0 ∨ cl8.slots.size ≤ ((3 : Int32)).toNatClampNeg) := inb_of Sz8 ⟨by decide, by decide⟩
  obtain ⟨T9, h9, X9, e9, W9, st9⟩ := stB X7 hx hZ e7 Ar8 (j := (3 : Int32)) hin8  (g := (mkF m 61 #[.val (.int p1), .val (.int p2), .val (.int p3), .val (.int p4), .val (.int p5), .val (.int p6), .val (.int (4 : Int32)), .val (.ref b1), .unset, .unset] [(.int (p5.toInt8.toInt32)), (.int (3 : Int32)), (.ref b1)])) rfl rfl (hb hby at_61)
  rw [show nar .byte (p5.toInt8.toInt32) = (p5.toInt8.toInt32) from own_byte _] at W9
  have fw9 : Arv Z h9 b1 k1 .byte (4 : Int32) [(.int (p2.toInt8.toInt32)), (.int (p3.toInt8.toInt32)), (.int (p4.toInt8.toInt32)), (.int (p5.toInt8.toInt32))] (.int (0 : Int32)) := Arv.set Ar8 qk8 Sz8 Nz8 Hs8 Gs8 (fits_nar_byte _) W9 3 rfl (Nat.le_of_ble_eq_true rfl)
  have f9_0 : Exa Z h9 b1 "[B" := (f7_0).wr W9
  have O9 := O7.wr W9 g_b1
  have N9 := Fr.snoc X9 N7 g_b1
  obtain ⟨_, _, ⟨T10, L10, k10, n10⟩, -, X10, ⟨Lc10, hQ10, l10, y10, z10⟩, st10⟩ := Jvm.LawKit.callS X9 hx (y := (⟨"com/example/keyfold/keyfold/core/Value", "ofBinary", "([B)Lcom/example/keyfold/keyfold/core/Value;"⟩ : MethodName)) hown (mvT hZ (hw _ (List.mem_of_getElem? (i := 2) rfl))) (mvT hZ (hw _ (List.mem_of_getElem? (i := 3) rfl))) (mvT hZ (hw _ (List.mem_of_getElem? (i := 4) rfl))) (mvT hZ (hw _ (List.mem_of_getElem? (i := 5) rfl))) (by decide) (backOf (W := 0) (rm1_4 l Z a0 hw [] W b1 k1 (p2.toInt8.toInt32) (p3.toInt8.toInt32) (p4.toInt8.toInt32) (p5.toInt8.toInt32) h9 n0 O9 g_b1 f9_0 fw9) hZ (hw _ (List.mem_of_getElem? (i := 5) rfl)) (hw _ (List.mem_of_getElem? (i := 4) rfl)) (by decide) (by decide)) (g := (mkF m 64 #[.val (.int p1), .val (.int p2), .val (.int p3), .val (.int p4), .val (.int p5), .val (.int p6), .val (.int (4 : Int32)), .val (.ref b1), .unset, .unset] [(.ref b1)])) rfl (by rw [hml]; rfl) (argsL := [(.ref b1)]) (rest := []) (lenOf pd_3 rfl) rfl (by show 2 * 0 + _ ≤ _; exact Nat.le_of_eq rfl) (hb hby at_64) (fun _ _ => ⟨rfl, e9, (by decide : 1 + 2 ≤ _), (by decide : 4 + 6 ≤ _)⟩)
  dsimp only [Pt.U, Pt.locs, Pt.cells, Pt.slots] at X10 l10 y10 z10 st10 hQ10
  subst l10 y10 z10
  obtain ⟨N10q, hP10⟩ := hQ10
  have N10 := Fr.app N9 N10q
  obtain ⟨b10_b1, b10_b3, rfl, Kp10, g_b10_b1, si_b10_b1, g_b10_b3, si_b10_b3, fp10_0, fp10_1, fp10_2, fp10_3, fp10_4⟩ := hP10
  have f10_0 : Exa Z T10.heap b1 "[B" := (f9_0).keep Kp10
  have f10_1 : Arv Z T10.heap b1 k1 .byte (4 : Int32) [(.int (p2.toInt8.toInt32)), (.int (p3.toInt8.toInt32)), (.int (p4.toInt8.toInt32)), (.int (p5.toInt8.toInt32))] (.int (0 : Int32)) := (fw9).keep Kp10 nin0
  have O10 := O9.keep Kp10 all0
  obtain ⟨cl11, Ar11, qk11, Sz11, Nz11, Hs11, Gs11⟩ := id f10_1
  have hin11 : ¬ ((2 : Int32) < 0 ∨ cl11.slots.size ≤ ((2 : Int32)).toNatClampNeg) := inb_of Sz11 ⟨by decide, by decide⟩
  have hat11 : cl11.slots[((2 : Int32)).toNatClampNeg]? = some (.int (p4.toInt8.toInt32)) := Has.at Hs11 hin11 rfl
  obtain ⟨cl12, Ar12, qk12, Sz12, Nz12, Hs12, Gs12⟩ := id f10_1
  have hin12 : ¬ ((2 : Int32) < 0 ∨ cl12.slots.size ≤ ((2 : Int32)).toNatClampNeg) := inb_of Sz12 ⟨by decide, by decide⟩
  obtain ⟨T13, h13, X13, e13, W13, st13⟩ := stB X10 hx hZ rfl Ar12 (j := (2 : Int32)) hin12  (g := (mkF m 96 #[.val (.int p1), .val (.int p2), .val (.int p3), .val (.int p4), .val (.int p5), .val (.int p6), .val (.int (4 : Int32)), .val (.ref b1), .val (.ref b10_b1), .val (.int (2 : Int32))] [(.int (((p4.toInt8.toInt32) ^^^ (-1 : Int32)).toInt8.toInt32)), (.int (2 : Int32)), (.ref b1)])) rfl rfl (hb hby at_96)
  rw [show nar .byte (((p4.toInt8.toInt32) ^^^ (-1 : Int32)).toInt8.toInt32) = (((p4.toInt8.toInt32) ^^^ (-1 : Int32)).toInt8.toInt32) from own_byte _] at W13
  have fw13 : Arv Z h13 b1 k1 .byte (4 : Int32) [(.int (p2.toInt8.toInt32)), (.int (p3.toInt8.toInt32)), (.int (((p4.toInt8.toInt32) ^^^ (-1 : Int32)).toInt8.toInt32)), (.int (p5.toInt8.toInt32))] (.int (0 : Int32)) := Arv.set Ar12 qk12 Sz12 Nz12 Hs12 Gs12 (fits_nar_byte _) W13 2 rfl (Nat.le_of_ble_eq_true rfl)
  have f13_0 : Exa Z h13 b1 "[B" := (f10_0).wr W13
  have f13_1 : Exa Z h13 b10_b1 "com/example/keyfold/keyfold/core/Value" := (fp10_0).wr W13
  have f13_2 : Fld Z h13 b10_b1 "com/example/keyfold/keyfold/core/Value" "type" "Lcom/example/keyfold/keyfold/core/ValueType;" (.ref w_n1) := (fp10_1).other W13 (Or.inl (ne_exa fp10_0 f10_0 (by decide)))
  have f13_3 : Fld Z h13 b10_b1 "com/example/keyfold/keyfold/core/Value" "content" "Ljava/lang/Object;" (.ref b10_b3) := (fp10_2).other W13 (Or.inl (ne_exa fp10_0 f10_0 (by decide)))
  have f13_4 : Exa Z h13 b10_b3 "[B" := (fp10_3).wr W13
  have f13_5 : Arv Z h13 b10_b3 k1 .byte (4 : Int32) [(.int (p2.toInt8.toInt32)), (.int (p3.toInt8.toInt32)), (.int (p4.toInt8.toInt32)), (.int (p5.toInt8.toInt32))] (.int (0 : Int32)) := (fp10_4).other W13 (Ne.symm (Nat.ne_of_lt (Nat.lt_of_lt_of_le (f9_0).lt si_b10_b3)))
  have O13 := O10.wr W13 g_b1
  have N13 := Fr.snoc X13 N10 g_b1
  obtain ⟨cq14, kq14, q14a, q14b, q14c⟩ := isOf hZ e13 f13_1
  obtain ⟨_, _, ⟨T14, L14, k14, n14⟩, -, X14, ⟨Lc14, hQ14, l14, y14, z14⟩, st14⟩ := X13.virtualBack hx (y := (⟨"com/example/keyfold/keyfold/core/Value", "type", "()Lcom/example/keyfold/keyfold/core/ValueType;"⟩ : MethodName)) (z := (⟨"com/example/keyfold/keyfold/core/Value", "type", "()Lcom/example/keyfold/keyfold/core/ValueType;"⟩ : MethodName)) hown (mvT hZ (hw _ (List.mem_of_getElem? (i := 28) rfl))) (mvT hZ (hw _ (List.mem_of_getElem? (i := 29) rfl))) (notFace_of_selects (args := #[]) (mvT hZ (hw _ (List.mem_of_getElem? (i := 31) rfl)))) (mvT hZ (hw _ (List.mem_of_getElem? (i := 31) rfl))) (mvT hZ (hw _ (List.mem_of_getElem? (i := 30) rfl))) (by decide) (backOf (W := 0) (rm4 l Z a0 hw [] W b10_b1 h13 n0 O13 f13_2) hZ (hw _ (List.mem_of_getElem? (i := 32) rfl)) (hw _ (List.mem_of_getElem? (i := 4) rfl)) (by decide) (by decide)) q14a q14c (g := (mkF m 99 #[.val (.int p1), .val (.int p2), .val (.int p3), .val (.int p4), .val (.int p5), .val (.int p6), .val (.int (4 : Int32)), .val (.ref b1), .val (.ref b10_b1), .val (.int (2 : Int32))] [(.ref b10_b1)])) rfl (by rw [hml]; rfl) (Steps.refl _) (argsL := []) (rest := []) (lenOf pd_4 rfl) rfl (by show 2 * 0 + _ ≤ _; exact Nat.le_of_eq rfl) (hb hby at_99) (fun _ _ => ⟨rfl, e13, (by decide : 3 + 0 ≤ _), (by decide : 10 + 0 ≤ _)⟩)
  dsimp only [Pt.U, Pt.locs, Pt.cells, Pt.slots] at X14 l14 y14 z14 st14 hQ14
  subst l14 y14 z14
  obtain ⟨rfl, N14q, e14⟩ := hQ14
  have N14 := Fr.app N13 N14q
  obtain ⟨T15, X15, e15, st15⟩ := getS2 X14 hx hZ hown (host := "") (Or.inl (hw _ (List.mem_of_getElem? (i := 33) rfl))) Via.refl e14 (S_n1.ext O13.2) (g := (mkF m 102 #[.val (.int p1), .val (.int p2), .val (.int p3), .val (.int p4), .val (.int p5), .val (.int p6), .val (.int (4 : Int32)), .val (.ref b1), .val (.ref b10_b1), .val (.int (2 : Int32))] [(.ref w_n1)])) rfl (hb hby at_102)
  obtain ⟨cq16, kq16, q16a, q16b, q16c⟩ := isOf hZ e15 f13_1
  obtain ⟨_, _, ⟨T16, L16, k16, n16⟩, -, X16, ⟨Lc16, hQ16, l16, y16, z16⟩, st16⟩ := X15.virtualBack hx (y := (⟨"com/example/keyfold/keyfold/core/Value", "size", "()I"⟩ : MethodName)) (z := (⟨"com/example/keyfold/keyfold/core/Value", "size", "()I"⟩ : MethodName)) hown (mvT hZ (hw _ (List.mem_of_getElem? (i := 34) rfl))) (mvT hZ (hw _ (List.mem_of_getElem? (i := 35) rfl))) (notFace_of_selects (args := #[]) (mvT hZ (hw _ (List.mem_of_getElem? (i := 37) rfl)))) (mvT hZ (hw _ (List.mem_of_getElem? (i := 37) rfl))) (mvT hZ (hw _ (List.mem_of_getElem? (i := 36) rfl))) (by decide) (backOf (W := 0) (rm7_4 l Z a0 hw [] W b10_b1 b10_b3 k1 (p2.toInt8.toInt32) (p3.toInt8.toInt32) (p4.toInt8.toInt32) (p5.toInt8.toInt32) h13 n0 O13 g_b10_b1 f13_1 f13_2 f13_3 g_b10_b3 f13_4 f13_5) hZ (hw _ (List.mem_of_getElem? (i := 38) rfl)) (hw _ (List.mem_of_getElem? (i := 4) rfl)) (by decide) (by decide)) q16a q16c (g := (mkF m 112 #[.val (.int p1), .val (.int p2), .val (.int p3), .val (.int p4), .val (.int p5), .val (.int p6), .val (.int (4 : Int32)), .val (.ref b1), .val (.ref b10_b1), .val (.int (2 : Int32))] [(.ref b10_b1)])) rfl (by rw [hml]; rfl) (Steps.refl _) (argsL := []) (rest := []) (lenOf pd_1 rfl) rfl (by show 2 * 0 + _ ≤ _; exact Nat.le_of_eq rfl) (hb hby at_112) (fun _ _ => ⟨rfl, e15, (by decide : 3 + 0 ≤ _), (by decide : 10 + 0 ≤ _)⟩)
  dsimp only [Pt.U, Pt.locs, Pt.cells, Pt.slots] at X16 l16 y16 z16 st16 hQ16
  subst l16 y16 z16
  obtain ⟨rfl, N16q, e16⟩ := hQ16
  have N16 := Fr.app N14 N16q
  obtain ⟨cq17, kq17, q17a, q17b, q17c⟩ := isOf hZ e16 f13_1
  obtain ⟨_, _, ⟨T17, L17, k17, n17⟩, -, X17, ⟨Lc17, hQ17, l17, y17, z17⟩, st17⟩ := X16.virtualBack hx (y := (⟨"com/example/keyfold/keyfold/core/Value", "asBinary", "()[B"⟩ : MethodName)) (z := (⟨"com/example/keyfold/keyfold/core/Value", "asBinary", "()[B"⟩ : MethodName)) hown (mvT hZ (hw _ (List.mem_of_getElem? (i := 53) rfl))) (mvT hZ (hw _ (List.mem_of_getElem? (i := 54) rfl))) (notFace_of_selects (args := #[]) (mvT hZ (hw _ (List.mem_of_getElem? (i := 56) rfl)))) (mvT hZ (hw _ (List.mem_of_getElem? (i := 56) rfl))) (mvT hZ (hw _ (List.mem_of_getElem? (i := 55) rfl))) (by decide) (backOf (W := 0) (rm5_4 l Z a0 hw [] W b10_b1 b10_b3 k1 (p2.toInt8.toInt32) (p3.toInt8.toInt32) (p4.toInt8.toInt32) (p5.toInt8.toInt32) h13 n0 O13 g_b10_b1 f13_1 f13_2 f13_3 g_b10_b3 f13_4 f13_5) hZ (hw _ (List.mem_of_getElem? (i := 57) rfl)) (hw _ (List.mem_of_getElem? (i := 4) rfl)) (by decide) (by decide)) q17a q17c (g := (mkF m 124 #[.val (.int p1), .val (.int p2), .val (.int p3), .val (.int p4), .val (.int p5), .val (.int p6), .val (.int (4 : Int32)), .val (.ref b1), .val (.ref b10_b1), .val (.int (2 : Int32))] [(.ref b10_b1)])) rfl (by rw [hml]; rfl) (Steps.refl _) (argsL := []) (rest := []) (lenOf pd_5 rfl) rfl (by show 2 * 0 + _ ≤ _; exact Nat.le_of_eq rfl) (hb hby at_124) (fun _ _ => ⟨rfl, e16, (by decide : 3 + 1 ≤ _), (by decide : 10 + 4 ≤ _)⟩)
  dsimp only [Pt.U, Pt.locs, Pt.cells, Pt.slots] at X17 l17 y17 z17 st17 hQ17
  subst l17 y17 z17
  obtain ⟨N17q, hP17⟩ := hQ17
  have N17 := Fr.app N16 N17q
  obtain ⟨b17_b4, rfl, Kp17, g_b17_b4, si_b17_b4, fp17_0, fp17_1⟩ := hP17
  have f17_0 : Exa Z T17.heap b1 "[B" := (f13_0).keep Kp17
  have f17_1 : Exa Z T17.heap b10_b1 "com/example/keyfold/keyfold/core/Value" := (f13_1).keep Kp17
  have f17_2 : Fld Z T17.heap b10_b1 "com/example/keyfold/keyfold/core/Value" "type" "Lcom/example/keyfold/keyfold/core/ValueType;" (.ref w_n1) := (f13_2).keep Kp17 nin0
  have f17_3 : Fld Z T17.heap b10_b1 "com/example/keyfold/keyfold/core/Value" "content" "Ljava/lang/Object;" (.ref b10_b3) := (f13_3).keep Kp17 nin0
  have f17_4 : Exa Z T17.heap b10_b3 "[B" := (f13_4).keep Kp17
  have f17_5 : Arv Z T17.heap b10_b3 k1 .byte (4 : Int32) [(.int (p2.toInt8.toInt32)), (.int (p3.toInt8.toInt32)), (.int (p4.toInt8.toInt32)), (.int (p5.toInt8.toInt32))] (.int (0 : Int32)) := (f13_5).keep Kp17 nin0
  have f17_6 : Arv Z T17.heap b1 k1 .byte (4 : Int32) [(.int (p2.toInt8.toInt32)), (.int (p3.toInt8.toInt32)), (.int (((p4.toInt8.toInt32) ^^^ (-1 : Int32)).toInt8.toInt32)), (.int (p5.toInt8.toInt32))] (.int (0 : Int32)) := (fw13).keep Kp17 nin0
  have O17 := O13.keep Kp17 all0
  obtain ⟨cl18, Ar18, qk18, Sz18, Nz18, Hs18, Gs18⟩ := id fp17_1
  obtain ⟨cl19, Ar19, qk19, Sz19, Nz19, Hs19, Gs19⟩ := id fp17_1
  have hin19 : ¬ ((0 : Int32) < 0 ∨ cl19.slots.size ≤ ((0 : Int32)).toNatClampNeg) := inb_of Sz19 ⟨by decide, by decide⟩
  have hat19 : cl19.slots[((0 : Int32)).toNatClampNeg]? = some (.int (p2.toInt8.toInt32)) := Has.at Hs19 hin19 rfl
  obtain ⟨cl20, Ar20, qk20, Sz20, Nz20, Hs20, Gs20⟩ := id fp17_1
  have hin20 : ¬ ((1 : Int32) < 0 ∨ cl20.slots.size ≤ ((1 : Int32)).toNatClampNeg) := inb_of Sz20 ⟨by decide, by decide⟩
  have hat20 : cl20.slots[((1 : Int32)).toNatClampNeg]? = some (.int (p3.toInt8.toInt32)) := Has.at Hs20 hin20 rfl
  obtain ⟨cl21, Ar21, qk21, Sz21, Nz21, Hs21, Gs21⟩ := id fp17_1
  have hin21 : ¬ ((2 : Int32) < 0 ∨ cl21.slots.size ≤ ((2 : Int32)).toNatClampNeg) := inb_of Sz21 ⟨by decide, by decide⟩
  have hat21 : cl21.slots[((2 : Int32)).toNatClampNeg]? = some (.int (p4.toInt8.toInt32)) := Has.at Hs21 hin21 rfl
  obtain ⟨cl22, Ar22, qk22, Sz22, Nz22, Hs22, Gs22⟩ := id fp17_1
  have hin22 : ¬ ((3 : Int32) < 0 ∨ cl22.slots.size ≤ ((3 : Int32)).toNatClampNeg) := inb_of Sz22 ⟨by decide, by decide⟩
  have hat22 : cl22.slots[((3 : Int32)).toNatClampNeg]? = some (.int (p5.toInt8.toInt32)) := Has.at Hs22 hin22 rfl
  obtain ⟨fs, hr, hrun, hended, hW, hsame⟩ := X17.leave (v := some (.int (1 : Int32))) (fun h => by rw [Bd.returns] at h; cases h)
  refine ⟨_, _, pre0 _ ?_, hrun, hended, _, _, rfl, ?_, ⟨_, rfl⟩, hW, hsame.mono (by decide) (by decide)⟩
  · show Steps p.tables e below (s₁.setTop (mkF m 0 #[.val (.int p1), .val (.int p2), .val (.int p3), .val (.int p4), .val (.int p5), .val (.int p6), .unset, .unset, .unset, .unset] [])) _
    refine XS.iloadN X0.here hx rfl (hb hby at_0) rfl ?_
    show Steps p.tables e below (s₁.setTop (mkF m 1 #[.val (.int p1), .val (.int p2), .val (.int p3), .val (.int p4), .val (.int p5), .val (.int p6), .unset, .unset, .unset, .unset] [(.int p1)])) _
    refine X0.ldcInt hx hown (mvT hZ (hw _ (List.mem_of_getElem? (i := 0) rfl))) (g := (mkF m 1 #[.val (.int p1), .val (.int p2), .val (.int p3), .val (.int p4), .val (.int p5), .val (.int p6), .unset, .unset, .unset, .unset] [(.int p1)])) rfl (hb hby at_1) _ ?_
    show Steps p.tables e below (s₁.setTop (mkF m 3 #[.val (.int p1), .val (.int p2), .val (.int p3), .val (.int p4), .val (.int p5), .val (.int p6), .unset, .unset, .unset, .unset] [(.int (2147483647 : Int32)), (.int p1)])) _
    refine XS.iand X0.here hx rfl (hb hby at_3) rfl ?_
    show Steps p.tables e below (s₁.setTop (mkF m 4 #[.val (.int p1), .val (.int p2), .val (.int p3), .val (.int p4), .val (.int p5), .val (.int p6), .unset, .unset, .unset, .unset] [(.int (p1 &&& (2147483647 : Int32)))])) _
    refine XS.iconst X0.here hx rfl (hb hby at_4) ?_
    show Steps p.tables e below (s₁.setTop (mkF m 5 #[.val (.int p1), .val (.int p2), .val (.int p3), .val (.int p4), .val (.int p5), .val (.int p6), .unset, .unset, .unset, .unset] [(.int (5 : Int32)), (.int (p1 &&& (2147483647 : Int32)))])) _
    refine iremM X0 hx rfl (hb hby at_5) rfl (by decide) ?_
    show Steps p.tables e below (s₁.setTop (mkF m 6 #[.val (.int p1), .val (.int p2), .val (.int p3), .val (.int p4), .val (.int p5), .val (.int p6), .unset, .unset, .unset, .unset] [(.int ((p1 &&& (2147483647 : Int32)) % (5 : Int32)))])) _
    rw [hk]
    show Steps p.tables e below (s₁.setTop (mkF m 6 #[.val (.int p1), .val (.int p2), .val (.int p3), .val (.int p4), .val (.int p5), .val (.int p6), .unset, .unset, .unset, .unset] [(.int (4 : Int32))])) _
    refine XS.istore X0.here hx rfl (hb hby at_6) rfl (l' := #[.val (.int p1), .val (.int p2), .val (.int p3), .val (.int p4), .val (.int p5), .val (.int p6), .val (.int (4 : Int32)), .unset, .unset, .unset]) rfl ?_
    show Steps p.tables e below (s₁.setTop (mkF m 8 #[.val (.int p1), .val (.int p2), .val (.int p3), .val (.int p4), .val (.int p5), .val (.int p6), .val (.int (4 : Int32)), .unset, .unset, .unset] [])) _
    refine XS.iload X0.here hx rfl (hb hby at_8) rfl ?_
    show Steps p.tables e below (s₁.setTop (mkF m 10 #[.val (.int p1), .val (.int p2), .val (.int p3), .val (.int p4), .val (.int p5), .val (.int p6), .val (.int (4 : Int32)), .unset, .unset, .unset] [(.int (4 : Int32))])) _
    refine st1 _ ?_
    show Steps p.tables e below (T1.setTop (mkF m 12 #[.val (.int p1), .val (.int p2), .val (.int p3), .val (.int p4), .val (.int p5), .val (.int p6), .val (.int (4 : Int32)), .unset, .unset, .unset] [(.ref b1)])) _
    refine XS.astore X1.here hx rfl (hb hby at_12) rfl rfl (l' := #[.val (.int p1), .val (.int p2), .val (.int p3), .val (.int p4), .val (.int p5), .val (.int p6), .val (.int (4 : Int32)), .val (.ref b1), .unset, .unset]) rfl ?_
    show Steps p.tables e below (T1.setTop (mkF m 14 #[.val (.int p1), .val (.int p2), .val (.int p3), .val (.int p4), .val (.int p5), .val (.int p6), .val (.int (4 : Int32)), .val (.ref b1), .unset, .unset] [])) _
    refine XS.iload X1.here hx rfl (hb hby at_14) rfl ?_
    show Steps p.tables e below (T1.setTop (mkF m 16 #[.val (.int p1), .val (.int p2), .val (.int p3), .val (.int p4), .val (.int p5), .val (.int p6), .val (.int (4 : Int32)), .val (.ref b1), .unset, .unset] [(.int (4 : Int32))])) _
    refine XS.ifNo X1.here hx rfl (hb hby at_16) rfl ((if0 _ _).trans (tlt ((by decide) : (0 : Int32) < (4 : Int32))).2.2.2) ?_
    show Steps p.tables e below (T1.setTop (mkF m 19 #[.val (.int p1), .val (.int p2), .val (.int p3), .val (.int p4), .val (.int p5), .val (.int p6), .val (.int (4 : Int32)), .val (.ref b1), .unset, .unset] [])) _
    refine XS.aload X1.here hx rfl (hb hby at_19) rfl rfl ?_
    show Steps p.tables e below (T1.setTop (mkF m 21 #[.val (.int p1), .val (.int p2), .val (.int p3), .val (.int p4), .val (.int p5), .val (.int p6), .val (.int (4 : Int32)), .val (.ref b1), .unset, .unset] [(.ref b1)])) _
    refine XS.iconst X1.here hx rfl (hb hby at_21) ?_
    show Steps p.tables e below (T1.setTop (mkF m 22 #[.val (.int p1), .val (.int p2), .val (.int p3), .val (.int p4), .val (.int p5), .val (.int p6), .val (.int (4 : Int32)), .val (.ref b1), .unset, .unset] [(.int (0 : Int32)), (.ref b1)])) _
    refine XS.iloadN X1.here hx rfl (hb hby at_22) rfl ?_
    show Steps p.tables e below (T1.setTop (mkF m 23 #[.val (.int p1), .val (.int p2), .val (.int p3), .val (.int p4), .val (.int p5), .val (.int p6), .val (.int (4 : Int32)), .val (.ref b1), .unset, .unset] [(.int p2), (.int (0 : Int32)), (.ref b1)])) _
    refine XS.i2b X1.here hx rfl (hb hby at_23) rfl ?_
    show Steps p.tables e below (T1.setTop (mkF m 24 #[.val (.int p1), .val (.int p2), .val (.int p3), .val (.int p4), .val (.int p5), .val (.int p6), .val (.int (4 : Int32)), .val (.ref b1), .unset, .unset] [(.int (p2.toInt8.toInt32)), (.int (0 : Int32)), (.ref b1)])) _
    refine st3 _ ?_
    show Steps p.tables e below (T3.setTop (mkF m 25 #[.val (.int p1), .val (.int p2), .val (.int p3), .val (.int p4), .val (.int p5), .val (.int p6), .val (.int (4 : Int32)), .val (.ref b1), .unset, .unset] [])) _
    refine XS.iload X3.here hx rfl (hb hby at_25) rfl ?_
    show Steps p.tables e below (T3.setTop (mkF m 27 #[.val (.int p1), .val (.int p2), .val (.int p3), .val (.int p4), .val (.int p5), .val (.int p6), .val (.int (4 : Int32)), .val (.ref b1), .unset, .unset] [(.int (4 : Int32))])) _
    refine XS.iconst X3.here hx rfl (hb hby at_27) ?_
    show Steps p.tables e below (T3.setTop (mkF m 28 #[.val (.int p1), .val (.int p2), .val (.int p3), .val (.int p4), .val (.int p5), .val (.int p6), .val (.int (4 : Int32)), .val (.ref b1), .unset, .unset] [(.int (1 : Int32)), (.int (4 : Int32))])) _
    refine XS.icmpNo X3.here hx rfl (hb hby at_28) rfl (tlt ((by decide) : (1 : Int32) < (4 : Int32))).2.2.2 ?_
    show Steps p.tables e below (T3.setTop (mkF m 31 #[.val (.int p1), .val (.int p2), .val (.int p3), .val (.int p4), .val (.int p5), .val (.int p6), .val (.int (4 : Int32)), .val (.ref b1), .unset, .unset] [])) _
    refine XS.aload X3.here hx rfl (hb hby at_31) rfl rfl ?_
    show Steps p.tables e below (T3.setTop (mkF m 33 #[.val (.int p1), .val (.int p2), .val (.int p3), .val (.int p4), .val (.int p5), .val (.int p6), .val (.int (4 : Int32)), .val (.ref b1), .unset, .unset] [(.ref b1)])) _
    refine XS.iconst X3.here hx rfl (hb hby at_33) ?_
    show Steps p.tables e below (T3.setTop (mkF m 34 #[.val (.int p1), .val (.int p2), .val (.int p3), .val (.int p4), .val (.int p5), .val (.int p6), .val (.int (4 : Int32)), .val (.ref b1), .unset, .unset] [(.int (1 : Int32)), (.ref b1)])) _
    refine XS.iloadN X3.here hx rfl (hb hby at_34) rfl ?_
    show Steps p.tables e below (T3.setTop (mkF m 35 #[.val (.int p1), .val (.int p2), .val (.int p3), .val (.int p4), .val (.int p5), .val (.int p6), .val (.int (4 : Int32)), .val (.ref b1), .unset, .unset] [(.int p3), (.int (1 : Int32)), (.ref b1)])) _
    refine XS.i2b X3.here hx rfl (hb hby at_35) rfl ?_
    show Steps p.tables e below (T3.setTop (mkF m 36 #[.val (.int p1), .val (.int p2), .val (.int p3), .val (.int p4), .val (.int p5), .val (.int p6), .val (.int (4 : Int32)), .val (.ref b1), .unset, .unset] [(.int (p3.toInt8.toInt32)), (.int (1 : Int32)), (.ref b1)])) _
    refine st5 _ ?_
    show Steps p.tables e below (T5.setTop (mkF m 37 #[.val (.int p1), .val (.int p2), .val (.int p3), .val (.int p4), .val (.int p5), .val (.int p6), .val (.int (4 : Int32)), .val (.ref b1), .unset, .unset] [])) _
    refine XS.iload X5.here hx rfl (hb hby at_37) rfl ?_
    show Steps p.tables e below (T5.setTop (mkF m 39 #[.val (.int p1), .val (.int p2), .val (.int p3), .val (.int p4), .val (.int p5), .val (.int p6), .val (.int (4 : Int32)), .val (.ref b1), .unset, .unset] [(.int (4 : Int32))])) _
    refine XS.iconst X5.here hx rfl (hb hby at_39) ?_
    show Steps p.tables e below (T5.setTop (mkF m 40 #[.val (.int p1), .val (.int p2), .val (.int p3), .val (.int p4), .val (.int p5), .val (.int p6), .val (.int (4 : Int32)), .val (.ref b1), .unset, .unset] [(.int (2 : Int32)), (.int (4 : Int32))])) _
    refine XS.icmpNo X5.here hx rfl (hb hby at_40) rfl (tlt ((by decide) : (2 : Int32) < (4 : Int32))).2.2.2 ?_
    show Steps p.tables e below (T5.setTop (mkF m 43 #[.val (.int p1), .val (.int p2), .val (.int p3), .val (.int p4), .val (.int p5), .val (.int p6), .val (.int (4 : Int32)), .val (.ref b1), .unset, .unset] [])) _
    refine XS.aload X5.here hx rfl (hb hby at_43) rfl rfl ?_
    show Steps p.tables e below (T5.setTop (mkF m 45 #[.val (.int p1), .val (.int p2), .val (.int p3), .val (.int p4), .val (.int p5), .val (.int p6), .val (.int (4 : Int32)), .val (.ref b1), .unset, .unset] [(.ref b1)])) _
    refine XS.iconst X5.here hx rfl (hb hby at_45) ?_
    show Steps p.tables e below (T5.setTop (mkF m 46 #[.val (.int p1), .val (.int p2), .val (.int p3), .val (.int p4), .val (.int p5), .val (.int p6), .val (.int (4 : Int32)), .val (.ref b1), .unset, .unset] [(.int (2 : Int32)), (.ref b1)])) _
    refine XS.iloadN X5.here hx rfl (hb hby at_46) rfl ?_
    show Steps p.tables e below (T5.setTop (mkF m 47 #[.val (.int p1), .val (.int p2), .val (.int p3), .val (.int p4), .val (.int p5), .val (.int p6), .val (.int (4 : Int32)), .val (.ref b1), .unset, .unset] [(.int p4), (.int (2 : Int32)), (.ref b1)])) _
    refine XS.i2b X5.here hx rfl (hb hby at_47) rfl ?_
    show Steps p.tables e below (T5.setTop (mkF m 48 #[.val (.int p1), .val (.int p2), .val (.int p3), .val (.int p4), .val (.int p5), .val (.int p6), .val (.int (4 : Int32)), .val (.ref b1), .unset, .unset] [(.int (p4.toInt8.toInt32)), (.int (2 : Int32)), (.ref b1)])) _
    refine st7 _ ?_
    show Steps p.tables e below (T7.setTop (mkF m 49 #[.val (.int p1), .val (.int p2), .val (.int p3), .val (.int p4), .val (.int p5), .val (.int p6), .val (.int (4 : Int32)), .val (.ref b1), .unset, .unset] [])) _
    refine XS.iload X7.here hx rfl (hb hby at_49) rfl ?_
    show Steps p.tables e below (T7.setTop (mkF m 51 #[.val (.int p1), .val (.int p2), .val (.int p3), .val (.int p4), .val (.int p5), .val (.int p6), .val (.int (4 : Int32)), .val (.ref b1), .unset, .unset] [(.int (4 : Int32))])) _
    refine XS.iconst X7.here hx rfl (hb hby at_51) ?_
    show Steps p.tables e below (T7.setTop (mkF m 52 #[.val (.int p1), .val (.int p2), .val (.int p3), .val (.int p4), .val (.int p5), .val (.int p6), .val (.int (4 : Int32)), .val (.ref b1), .unset, .unset] [(.int (3 : Int32)), (.int (4 : Int32))])) _
    refine XS.icmpNo X7.here hx rfl (hb hby at_52) rfl (tlt ((by decide) : (3 : Int32) < (4 : Int32))).2.2.2 ?_
    show Steps p.tables e below (T7.setTop (mkF m 55 #[.val (.int p1), .val (.int p2), .val (.int p3), .val (.int p4), .val (.int p5), .val (.int p6), .val (.int (4 : Int32)), .val (.ref b1), .unset, .unset] [])) _
    refine XS.aload X7.here hx rfl (hb hby at_55) rfl rfl ?_
    show Steps p.tables e below (T7.setTop (mkF m 57 #[.val (.int p1), .val (.int p2), .val (.int p3), .val (.int p4), .val (.int p5), .val (.int p6), .val (.int (4 : Int32)), .val (.ref b1), .unset, .unset] [(.ref b1)])) _
    refine XS.iconst X7.here hx rfl (hb hby at_57) ?_
    show Steps p.tables e below (T7.setTop (mkF m 58 #[.val (.int p1), .val (.int p2), .val (.int p3), .val (.int p4), .val (.int p5), .val (.int p6), .val (.int (4 : Int32)), .val (.ref b1), .unset, .unset] [(.int (3 : Int32)), (.ref b1)])) _
    refine XS.iload X7.here hx rfl (hb hby at_58) rfl ?_
    show Steps p.tables e below (T7.setTop (mkF m 60 #[.val (.int p1), .val (.int p2), .val (.int p3), .val (.int p4), .val (.int p5), .val (.int p6), .val (.int (4 : Int32)), .val (.ref b1), .unset, .unset] [(.int p5), (.int (3 : Int32)), (.ref b1)])) _
    refine XS.i2b X7.here hx rfl (hb hby at_60) rfl ?_
    show Steps p.tables e below (T7.setTop (mkF m 61 #[.val (.int p1), .val (.int p2), .val (.int p3), .val (.int p4), .val (.int p5), .val (.int p6), .val (.int (4 : Int32)), .val (.ref b1), .unset, .unset] [(.int (p5.toInt8.toInt32)), (.int (3 : Int32)), (.ref b1)])) _
    refine st9 _ ?_
    show Steps p.tables e below (T9.setTop (mkF m 62 #[.val (.int p1), .val (.int p2), .val (.int p3), .val (.int p4), .val (.int p5), .val (.int p6), .val (.int (4 : Int32)), .val (.ref b1), .unset, .unset] [])) _
    refine XS.aload X9.here hx rfl (hb hby at_62) rfl rfl ?_
    show Steps p.tables e below (T9.setTop (mkF m 64 #[.val (.int p1), .val (.int p2), .val (.int p3), .val (.int p4), .val (.int p5), .val (.int p6), .val (.int (4 : Int32)), .val (.ref b1), .unset, .unset] [(.ref b1)])) _
    refine st10 _ ?_
    show Steps p.tables e below (T10.setTop (mkF m 67 #[.val (.int p1), .val (.int p2), .val (.int p3), .val (.int p4), .val (.int p5), .val (.int p6), .val (.int (4 : Int32)), .val (.ref b1), .unset, .unset] [(.ref b10_b1)])) _
    refine XS.astore X10.here hx rfl (hb hby at_67) rfl rfl (l' := #[.val (.int p1), .val (.int p2), .val (.int p3), .val (.int p4), .val (.int p5), .val (.int p6), .val (.int (4 : Int32)), .val (.ref b1), .val (.ref b10_b1), .unset]) rfl ?_
    show Steps p.tables e below (T10.setTop (mkF m 69 #[.val (.int p1), .val (.int p2), .val (.int p3), .val (.int p4), .val (.int p5), .val (.int p6), .val (.int (4 : Int32)), .val (.ref b1), .val (.ref b10_b1), .unset] [])) _
    refine XS.iload X10.here hx rfl (hb hby at_69) rfl ?_
    show Steps p.tables e below (T10.setTop (mkF m 71 #[.val (.int p1), .val (.int p2), .val (.int p3), .val (.int p4), .val (.int p5), .val (.int p6), .val (.int (4 : Int32)), .val (.ref b1), .val (.ref b10_b1), .unset] [(.int (4 : Int32))])) _
    refine XS.ifNo X10.here hx rfl (hb hby at_71) rfl ((if0 _ _).trans (tlt ((by decide) : (0 : Int32) < (4 : Int32))).2.2.2) ?_
    show Steps p.tables e below (T10.setTop (mkF m 74 #[.val (.int p1), .val (.int p2), .val (.int p3), .val (.int p4), .val (.int p5), .val (.int p6), .val (.int (4 : Int32)), .val (.ref b1), .val (.ref b10_b1), .unset] [])) _
    refine XS.iload X10.here hx rfl (hb hby at_74) rfl ?_
    show Steps p.tables e below (T10.setTop (mkF m 76 #[.val (.int p1), .val (.int p2), .val (.int p3), .val (.int p4), .val (.int p5), .val (.int p6), .val (.int (4 : Int32)), .val (.ref b1), .val (.ref b10_b1), .unset] [(.int p6)])) _
    refine X10.ldcInt hx hown (mvT hZ (hw _ (List.mem_of_getElem? (i := 0) rfl))) (g := (mkF m 76 #[.val (.int p1), .val (.int p2), .val (.int p3), .val (.int p4), .val (.int p5), .val (.int p6), .val (.int (4 : Int32)), .val (.ref b1), .val (.ref b10_b1), .unset] [(.int p6)])) rfl (hb hby at_76) _ ?_
    show Steps p.tables e below (T10.setTop (mkF m 78 #[.val (.int p1), .val (.int p2), .val (.int p3), .val (.int p4), .val (.int p5), .val (.int p6), .val (.int (4 : Int32)), .val (.ref b1), .val (.ref b10_b1), .unset] [(.int (2147483647 : Int32)), (.int p6)])) _
    refine XS.iand X10.here hx rfl (hb hby at_78) rfl ?_
    show Steps p.tables e below (T10.setTop (mkF m 79 #[.val (.int p1), .val (.int p2), .val (.int p3), .val (.int p4), .val (.int p5), .val (.int p6), .val (.int (4 : Int32)), .val (.ref b1), .val (.ref b10_b1), .unset] [(.int (p6 &&& (2147483647 : Int32)))])) _
    refine XS.iload X10.here hx rfl (hb hby at_79) rfl ?_
    show Steps p.tables e below (T10.setTop (mkF m 81 #[.val (.int p1), .val (.int p2), .val (.int p3), .val (.int p4), .val (.int p5), .val (.int p6), .val (.int (4 : Int32)), .val (.ref b1), .val (.ref b10_b1), .unset] [(.int (4 : Int32)), (.int (p6 &&& (2147483647 : Int32)))])) _
    refine iremM X10 hx rfl (hb hby at_81) rfl (by decide) ?_
    show Steps p.tables e below (T10.setTop (mkF m 82 #[.val (.int p1), .val (.int p2), .val (.int p3), .val (.int p4), .val (.int p5), .val (.int p6), .val (.int (4 : Int32)), .val (.ref b1), .val (.ref b10_b1), .unset] [(.int ((p6 &&& (2147483647 : Int32)) % (4 : Int32)))])) _
    rw [hi]
    show Steps p.tables e below (T10.setTop (mkF m 82 #[.val (.int p1), .val (.int p2), .val (.int p3), .val (.int p4), .val (.int p5), .val (.int p6), .val (.int (4 : Int32)), .val (.ref b1), .val (.ref b10_b1), .unset] [(.int (2 : Int32))])) _
    refine XS.istore X10.here hx rfl (hb hby at_82) rfl (l' := #[.val (.int p1), .val (.int p2), .val (.int p3), .val (.int p4), .val (.int p5), .val (.int p6), .val (.int (4 : Int32)), .val (.ref b1), .val (.ref b10_b1), .val (.int (2 : Int32))]) rfl ?_
    show Steps p.tables e below (T10.setTop (mkF m 84 #[.val (.int p1), .val (.int p2), .val (.int p3), .val (.int p4), .val (.int p5), .val (.int p6), .val (.int (4 : Int32)), .val (.ref b1), .val (.ref b10_b1), .val (.int (2 : Int32))] [])) _
    refine XS.aload X10.here hx rfl (hb hby at_84) rfl rfl ?_
    show Steps p.tables e below (T10.setTop (mkF m 86 #[.val (.int p1), .val (.int p2), .val (.int p3), .val (.int p4), .val (.int p5), .val (.int p6), .val (.int (4 : Int32)), .val (.ref b1), .val (.ref b10_b1), .val (.int (2 : Int32))] [(.ref b1)])) _
    refine XS.iload X10.here hx rfl (hb hby at_86) rfl ?_
    show Steps p.tables e below (T10.setTop (mkF m 88 #[.val (.int p1), .val (.int p2), .val (.int p3), .val (.int p4), .val (.int p5), .val (.int p6), .val (.int (4 : Int32)), .val (.ref b1), .val (.ref b10_b1), .val (.int (2 : Int32))] [(.int (2 : Int32)), (.ref b1)])) _
    refine XS.aload X10.here hx rfl (hb hby at_88) rfl rfl ?_
    show Steps p.tables e below (T10.setTop (mkF m 90 #[.val (.int p1), .val (.int p2), .val (.int p3), .val (.int p4), .val (.int p5), .val (.int p6), .val (.int (4 : Int32)), .val (.ref b1), .val (.ref b10_b1), .val (.int (2 : Int32))] [(.ref b1), (.int (2 : Int32)), (.ref b1)])) _
    refine XS.iload X10.here hx rfl (hb hby at_90) rfl ?_
    show Steps p.tables e below (T10.setTop (mkF m 92 #[.val (.int p1), .val (.int p2), .val (.int p3), .val (.int p4), .val (.int p5), .val (.int p6), .val (.int (4 : Int32)), .val (.ref b1), .val (.ref b10_b1), .val (.int (2 : Int32))] [(.int (2 : Int32)), (.ref b1), (.int (2 : Int32)), (.ref b1)])) _
    refine X10.baloadBytes hx (j := (2 : Int32)) (v := (.int (p4.toInt8.toInt32))) Ar11.1 (State.isArrayOf_alike hZ.alike Ar11.2.1) Ar11.2.2 hin11 hat11 (g := (mkF m 92 #[.val (.int p1), .val (.int p2), .val (.int p3), .val (.int p4), .val (.int p5), .val (.int p6), .val (.int (4 : Int32)), .val (.ref b1), .val (.ref b10_b1), .val (.int (2 : Int32))] [(.int (2 : Int32)), (.ref b1), (.int (2 : Int32)), (.ref b1)])) rfl rfl (hb hby at_92) _ ?_
    show Steps p.tables e below (T10.setTop (mkF m 93 #[.val (.int p1), .val (.int p2), .val (.int p3), .val (.int p4), .val (.int p5), .val (.int p6), .val (.int (4 : Int32)), .val (.ref b1), .val (.ref b10_b1), .val (.int (2 : Int32))] [(.int (p4.toInt8.toInt32)), (.int (2 : Int32)), (.ref b1)])) _
    refine XS.iconst X10.here hx rfl (hb hby at_93) ?_
    show Steps p.tables e below (T10.setTop (mkF m 94 #[.val (.int p1), .val (.int p2), .val (.int p3), .val (.int p4), .val (.int p5), .val (.int p6), .val (.int (4 : Int32)), .val (.ref b1), .val (.ref b10_b1), .val (.int (2 : Int32))] [(.int (-1 : Int32)), (.int (p4.toInt8.toInt32)), (.int (2 : Int32)), (.ref b1)])) _
    refine XS.ixor X10.here hx rfl (hb hby at_94) rfl ?_
    show Steps p.tables e below (T10.setTop (mkF m 95 #[.val (.int p1), .val (.int p2), .val (.int p3), .val (.int p4), .val (.int p5), .val (.int p6), .val (.int (4 : Int32)), .val (.ref b1), .val (.ref b10_b1), .val (.int (2 : Int32))] [(.int ((p4.toInt8.toInt32) ^^^ (-1 : Int32))), (.int (2 : Int32)), (.ref b1)])) _
    refine XS.i2b X10.here hx rfl (hb hby at_95) rfl ?_
    show Steps p.tables e below (T10.setTop (mkF m 96 #[.val (.int p1), .val (.int p2), .val (.int p3), .val (.int p4), .val (.int p5), .val (.int p6), .val (.int (4 : Int32)), .val (.ref b1), .val (.ref b10_b1), .val (.int (2 : Int32))] [(.int (((p4.toInt8.toInt32) ^^^ (-1 : Int32)).toInt8.toInt32)), (.int (2 : Int32)), (.ref b1)])) _
    refine st13 _ ?_
    show Steps p.tables e below (T13.setTop (mkF m 97 #[.val (.int p1), .val (.int p2), .val (.int p3), .val (.int p4), .val (.int p5), .val (.int p6), .val (.int (4 : Int32)), .val (.ref b1), .val (.ref b10_b1), .val (.int (2 : Int32))] [])) _
    refine XS.aload X13.here hx rfl (hb hby at_97) rfl rfl ?_
    show Steps p.tables e below (T13.setTop (mkF m 99 #[.val (.int p1), .val (.int p2), .val (.int p3), .val (.int p4), .val (.int p5), .val (.int p6), .val (.int (4 : Int32)), .val (.ref b1), .val (.ref b10_b1), .val (.int (2 : Int32))] [(.ref b10_b1)])) _
    refine st14.trans ?_
    show Steps p.tables e below (T14.setTop (mkF m 102 #[.val (.int p1), .val (.int p2), .val (.int p3), .val (.int p4), .val (.int p5), .val (.int p6), .val (.int (4 : Int32)), .val (.ref b1), .val (.ref b10_b1), .val (.int (2 : Int32))] [(.ref w_n1)])) _
    refine st15 _ ?_
    show Steps p.tables e below (T15.setTop (mkF m 105 #[.val (.int p1), .val (.int p2), .val (.int p3), .val (.int p4), .val (.int p5), .val (.int p6), .val (.int (4 : Int32)), .val (.ref b1), .val (.ref b10_b1), .val (.int (2 : Int32))] [(.ref w_n1), (.ref w_n1)])) _
    refine Jvm.RoadKit.acmp (g := (mkF m 105 #[.val (.int p1), .val (.int p2), .val (.int p3), .val (.int p4), .val (.int p5), .val (.int p6), .val (.int (4 : Int32)), .val (.ref b1), .val (.ref b10_b1), .val (.int (2 : Int32))] [(.ref w_n1), (.ref w_n1)])) X15 hx rfl rfl rfl (pc0 := 105) (pc' := 110) (same := true) rfl (hb hby at_105) rfl (decide_eq_true rfl) (by decide) (by decide) ?_
    show Steps p.tables e below (T15.setTop (mkF m 110 #[.val (.int p1), .val (.int p2), .val (.int p3), .val (.int p4), .val (.int p5), .val (.int p6), .val (.int (4 : Int32)), .val (.ref b1), .val (.ref b10_b1), .val (.int (2 : Int32))] [])) _
    refine XS.aload X15.here hx rfl (hb hby at_110) rfl rfl ?_
    show Steps p.tables e below (T15.setTop (mkF m 112 #[.val (.int p1), .val (.int p2), .val (.int p3), .val (.int p4), .val (.int p5), .val (.int p6), .val (.int (4 : Int32)), .val (.ref b1), .val (.ref b10_b1), .val (.int (2 : Int32))] [(.ref b10_b1)])) _
    refine st16.trans ?_
    show Steps p.tables e below (T16.setTop (mkF m 115 #[.val (.int p1), .val (.int p2), .val (.int p3), .val (.int p4), .val (.int p5), .val (.int p6), .val (.int (4 : Int32)), .val (.ref b1), .val (.ref b10_b1), .val (.int (2 : Int32))] [(.int (4 : Int32))])) _
    refine XS.iload X16.here hx rfl (hb hby at_115) rfl ?_
    show Steps p.tables e below (T16.setTop (mkF m 117 #[.val (.int p1), .val (.int p2), .val (.int p3), .val (.int p4), .val (.int p5), .val (.int p6), .val (.int (4 : Int32)), .val (.ref b1), .val (.ref b10_b1), .val (.int (2 : Int32))] [(.int (4 : Int32)), (.int (4 : Int32))])) _
    refine XS.icmpYes X16.here hx rfl (pc0 := 117) (pc' := 122) rfl (hb hby at_117) rfl (teq ((by decide) : (4 : Int32) = (4 : Int32))).1 (by decide) (by decide) ?_
    show Steps p.tables e below (T16.setTop (mkF m 122 #[.val (.int p1), .val (.int p2), .val (.int p3), .val (.int p4), .val (.int p5), .val (.int p6), .val (.int (4 : Int32)), .val (.ref b1), .val (.ref b10_b1), .val (.int (2 : Int32))] [])) _
    refine XS.aload X16.here hx rfl (hb hby at_122) rfl rfl ?_
    show Steps p.tables e below (T16.setTop (mkF m 124 #[.val (.int p1), .val (.int p2), .val (.int p3), .val (.int p4), .val (.int p5), .val (.int p6), .val (.int (4 : Int32)), .val (.ref b1), .val (.ref b10_b1), .val (.int (2 : Int32))] [(.ref b10_b1)])) _
    refine st17.trans ?_
    show Steps p.tables e below (T17.setTop (mkF m 127 #[.val (.int p1), .val (.int p2), .val (.int p3), .val (.int p4), .val (.int p5), .val (.int p6), .val (.int (4 : Int32)), .val (.ref b1), .val (.ref b10_b1), .val (.int (2 : Int32))] [(.ref b17_b4)])) _
    refine XS.astore X17.here hx rfl (hb hby at_127) rfl rfl (l' := #[.val (.int p1), .val (.int p2), .val (.int p3), .val (.int p4), .val (.int p5), .val (.int p6), .val (.int (4 : Int32)), .val (.ref b1), .val (.ref b10_b1), .val (.ref b17_b4)]) rfl ?_
    show Steps p.tables e below (T17.setTop (mkF m 129 #[.val (.int p1), .val (.int p2), .val (.int p3), .val (.int p4), .val (.int p5), .val (.int p6), .val (.int (4 : Int32)), .val (.ref b1), .val (.ref b10_b1), .val (.ref b17_b4)] [])) _
    refine XS.aload X17.here hx rfl (hb hby at_129) rfl rfl ?_
    show Steps p.tables e below (T17.setTop (mkF m 131 #[.val (.int p1), .val (.int p2), .val (.int p3), .val (.int p4), .val (.int p5), .val (.int p6), .val (.int (4 : Int32)), .val (.ref b1), .val (.ref b10_b1), .val (.ref b17_b4)] [(.ref b17_b4)])) _
    refine X17.arraylength hx Ar18.1 (State.isArrayOf_alike hZ.alike Ar18.2.1) (g := (mkF m 131 #[.val (.int p1), .val (.int p2), .val (.int p3), .val (.int p4), .val (.int p5), .val (.int p6), .val (.int (4 : Int32)), .val (.ref b1), .val (.ref b10_b1), .val (.ref b17_b4)] [(.ref b17_b4)])) rfl rfl (hb hby at_131) _ ?_
    rw [len_of Sz18 Nz18]
    show Steps p.tables e below (T17.setTop (mkF m 132 #[.val (.int p1), .val (.int p2), .val (.int p3), .val (.int p4), .val (.int p5), .val (.int p6), .val (.int (4 : Int32)), .val (.ref b1), .val (.ref b10_b1), .val (.ref b17_b4)] [(.int (4 : Int32))])) _
    refine XS.iload X17.here hx rfl (hb hby at_132) rfl ?_
    show Steps p.tables e below (T17.setTop (mkF m 134 #[.val (.int p1), .val (.int p2), .val (.int p3), .val (.int p4), .val (.int p5), .val (.int p6), .val (.int (4 : Int32)), .val (.ref b1), .val (.ref b10_b1), .val (.ref b17_b4)] [(.int (4 : Int32)), (.int (4 : Int32))])) _
    refine XS.icmpYes X17.here hx rfl (pc0 := 134) (pc' := 139) rfl (hb hby at_134) rfl (teq ((by decide) : (4 : Int32) = (4 : Int32))).1 (by decide) (by decide) ?_
    show Steps p.tables e below (T17.setTop (mkF m 139 #[.val (.int p1), .val (.int p2), .val (.int p3), .val (.int p4), .val (.int p5), .val (.int p6), .val (.int (4 : Int32)), .val (.ref b1), .val (.ref b10_b1), .val (.ref b17_b4)] [])) _
    refine XS.iload X17.here hx rfl (hb hby at_139) rfl ?_
    show Steps p.tables e below (T17.setTop (mkF m 141 #[.val (.int p1), .val (.int p2), .val (.int p3), .val (.int p4), .val (.int p5), .val (.int p6), .val (.int (4 : Int32)), .val (.ref b1), .val (.ref b10_b1), .val (.ref b17_b4)] [(.int (4 : Int32))])) _
    refine XS.ifNo X17.here hx rfl (hb hby at_141) rfl ((if0 _ _).trans (tlt ((by decide) : (0 : Int32) < (4 : Int32))).2.2.2) ?_
    show Steps p.tables e below (T17.setTop (mkF m 144 #[.val (.int p1), .val (.int p2), .val (.int p3), .val (.int p4), .val (.int p5), .val (.int p6), .val (.int (4 : Int32)), .val (.ref b1), .val (.ref b10_b1), .val (.ref b17_b4)] [])) _
    refine XS.aload X17.here hx rfl (hb hby at_144) rfl rfl ?_
    show Steps p.tables e below (T17.setTop (mkF m 146 #[.val (.int p1), .val (.int p2), .val (.int p3), .val (.int p4), .val (.int p5), .val (.int p6), .val (.int (4 : Int32)), .val (.ref b1), .val (.ref b10_b1), .val (.ref b17_b4)] [(.ref b17_b4)])) _
    refine XS.iconst X17.here hx rfl (hb hby at_146) ?_
    show Steps p.tables e below (T17.setTop (mkF m 147 #[.val (.int p1), .val (.int p2), .val (.int p3), .val (.int p4), .val (.int p5), .val (.int p6), .val (.int (4 : Int32)), .val (.ref b1), .val (.ref b10_b1), .val (.ref b17_b4)] [(.int (0 : Int32)), (.ref b17_b4)])) _
    refine X17.baloadBytes hx (j := (0 : Int32)) (v := (.int (p2.toInt8.toInt32))) Ar19.1 (State.isArrayOf_alike hZ.alike Ar19.2.1) Ar19.2.2 hin19 hat19 (g := (mkF m 147 #[.val (.int p1), .val (.int p2), .val (.int p3), .val (.int p4), .val (.int p5), .val (.int p6), .val (.int (4 : Int32)), .val (.ref b1), .val (.ref b10_b1), .val (.ref b17_b4)] [(.int (0 : Int32)), (.ref b17_b4)])) rfl rfl (hb hby at_147) _ ?_
    show Steps p.tables e below (T17.setTop (mkF m 148 #[.val (.int p1), .val (.int p2), .val (.int p3), .val (.int p4), .val (.int p5), .val (.int p6), .val (.int (4 : Int32)), .val (.ref b1), .val (.ref b10_b1), .val (.ref b17_b4)] [(.int (p2.toInt8.toInt32))])) _
    refine XS.iloadN X17.here hx rfl (hb hby at_148) rfl ?_
    show Steps p.tables e below (T17.setTop (mkF m 149 #[.val (.int p1), .val (.int p2), .val (.int p3), .val (.int p4), .val (.int p5), .val (.int p6), .val (.int (4 : Int32)), .val (.ref b1), .val (.ref b10_b1), .val (.ref b17_b4)] [(.int p2), (.int (p2.toInt8.toInt32))])) _
    refine XS.i2b X17.here hx rfl (hb hby at_149) rfl ?_
    show Steps p.tables e below (T17.setTop (mkF m 150 #[.val (.int p1), .val (.int p2), .val (.int p3), .val (.int p4), .val (.int p5), .val (.int p6), .val (.int (4 : Int32)), .val (.ref b1), .val (.ref b10_b1), .val (.ref b17_b4)] [(.int (p2.toInt8.toInt32)), (.int (p2.toInt8.toInt32))])) _
    refine XS.icmpYes X17.here hx rfl (pc0 := 150) (pc' := 155) rfl (hb hby at_150) rfl (teq (rfl : (p2.toInt8.toInt32) = (p2.toInt8.toInt32))).1 (by decide) (by decide) ?_
    show Steps p.tables e below (T17.setTop (mkF m 155 #[.val (.int p1), .val (.int p2), .val (.int p3), .val (.int p4), .val (.int p5), .val (.int p6), .val (.int (4 : Int32)), .val (.ref b1), .val (.ref b10_b1), .val (.ref b17_b4)] [])) _
    refine XS.iload X17.here hx rfl (hb hby at_155) rfl ?_
    show Steps p.tables e below (T17.setTop (mkF m 157 #[.val (.int p1), .val (.int p2), .val (.int p3), .val (.int p4), .val (.int p5), .val (.int p6), .val (.int (4 : Int32)), .val (.ref b1), .val (.ref b10_b1), .val (.ref b17_b4)] [(.int (4 : Int32))])) _
    refine XS.iconst X17.here hx rfl (hb hby at_157) ?_
    show Steps p.tables e below (T17.setTop (mkF m 158 #[.val (.int p1), .val (.int p2), .val (.int p3), .val (.int p4), .val (.int p5), .val (.int p6), .val (.int (4 : Int32)), .val (.ref b1), .val (.ref b10_b1), .val (.ref b17_b4)] [(.int (1 : Int32)), (.int (4 : Int32))])) _
    refine XS.icmpNo X17.here hx rfl (hb hby at_158) rfl (tlt ((by decide) : (1 : Int32) < (4 : Int32))).2.2.2 ?_
    show Steps p.tables e below (T17.setTop (mkF m 161 #[.val (.int p1), .val (.int p2), .val (.int p3), .val (.int p4), .val (.int p5), .val (.int p6), .val (.int (4 : Int32)), .val (.ref b1), .val (.ref b10_b1), .val (.ref b17_b4)] [])) _
    refine XS.aload X17.here hx rfl (hb hby at_161) rfl rfl ?_
    show Steps p.tables e below (T17.setTop (mkF m 163 #[.val (.int p1), .val (.int p2), .val (.int p3), .val (.int p4), .val (.int p5), .val (.int p6), .val (.int (4 : Int32)), .val (.ref b1), .val (.ref b10_b1), .val (.ref b17_b4)] [(.ref b17_b4)])) _
    refine XS.iconst X17.here hx rfl (hb hby at_163) ?_
    show Steps p.tables e below (T17.setTop (mkF m 164 #[.val (.int p1), .val (.int p2), .val (.int p3), .val (.int p4), .val (.int p5), .val (.int p6), .val (.int (4 : Int32)), .val (.ref b1), .val (.ref b10_b1), .val (.ref b17_b4)] [(.int (1 : Int32)), (.ref b17_b4)])) _
    refine X17.baloadBytes hx (j := (1 : Int32)) (v := (.int (p3.toInt8.toInt32))) Ar20.1 (State.isArrayOf_alike hZ.alike Ar20.2.1) Ar20.2.2 hin20 hat20 (g := (mkF m 164 #[.val (.int p1), .val (.int p2), .val (.int p3), .val (.int p4), .val (.int p5), .val (.int p6), .val (.int (4 : Int32)), .val (.ref b1), .val (.ref b10_b1), .val (.ref b17_b4)] [(.int (1 : Int32)), (.ref b17_b4)])) rfl rfl (hb hby at_164) _ ?_
    show Steps p.tables e below (T17.setTop (mkF m 165 #[.val (.int p1), .val (.int p2), .val (.int p3), .val (.int p4), .val (.int p5), .val (.int p6), .val (.int (4 : Int32)), .val (.ref b1), .val (.ref b10_b1), .val (.ref b17_b4)] [(.int (p3.toInt8.toInt32))])) _
    refine XS.iloadN X17.here hx rfl (hb hby at_165) rfl ?_
    show Steps p.tables e below (T17.setTop (mkF m 166 #[.val (.int p1), .val (.int p2), .val (.int p3), .val (.int p4), .val (.int p5), .val (.int p6), .val (.int (4 : Int32)), .val (.ref b1), .val (.ref b10_b1), .val (.ref b17_b4)] [(.int p3), (.int (p3.toInt8.toInt32))])) _
    refine XS.i2b X17.here hx rfl (hb hby at_166) rfl ?_
    show Steps p.tables e below (T17.setTop (mkF m 167 #[.val (.int p1), .val (.int p2), .val (.int p3), .val (.int p4), .val (.int p5), .val (.int p6), .val (.int (4 : Int32)), .val (.ref b1), .val (.ref b10_b1), .val (.ref b17_b4)] [(.int (p3.toInt8.toInt32)), (.int (p3.toInt8.toInt32))])) _
    refine XS.icmpYes X17.here hx rfl (pc0 := 167) (pc' := 172) rfl (hb hby at_167) rfl (teq (rfl : (p3.toInt8.toInt32) = (p3.toInt8.toInt32))).1 (by decide) (by decide) ?_
    show Steps p.tables e below (T17.setTop (mkF m 172 #[.val (.int p1), .val (.int p2), .val (.int p3), .val (.int p4), .val (.int p5), .val (.int p6), .val (.int (4 : Int32)), .val (.ref b1), .val (.ref b10_b1), .val (.ref b17_b4)] [])) _
    refine XS.iload X17.here hx rfl (hb hby at_172) rfl ?_
    show Steps p.tables e below (T17.setTop (mkF m 174 #[.val (.int p1), .val (.int p2), .val (.int p3), .val (.int p4), .val (.int p5), .val (.int p6), .val (.int (4 : Int32)), .val (.ref b1), .val (.ref b10_b1), .val (.ref b17_b4)] [(.int (4 : Int32))])) _
    refine XS.iconst X17.here hx rfl (hb hby at_174) ?_
    show Steps p.tables e below (T17.setTop (mkF m 175 #[.val (.int p1), .val (.int p2), .val (.int p3), .val (.int p4), .val (.int p5), .val (.int p6), .val (.int (4 : Int32)), .val (.ref b1), .val (.ref b10_b1), .val (.ref b17_b4)] [(.int (2 : Int32)), (.int (4 : Int32))])) _
    refine XS.icmpNo X17.here hx rfl (hb hby at_175) rfl (tlt ((by decide) : (2 : Int32) < (4 : Int32))).2.2.2 ?_
    show Steps p.tables e below (T17.setTop (mkF m 178 #[.val (.int p1), .val (.int p2), .val (.int p3), .val (.int p4), .val (.int p5), .val (.int p6), .val (.int (4 : Int32)), .val (.ref b1), .val (.ref b10_b1), .val (.ref b17_b4)] [])) _
    refine XS.aload X17.here hx rfl (hb hby at_178) rfl rfl ?_
    show Steps p.tables e below (T17.setTop (mkF m 180 #[.val (.int p1), .val (.int p2), .val (.int p3), .val (.int p4), .val (.int p5), .val (.int p6), .val (.int (4 : Int32)), .val (.ref b1), .val (.ref b10_b1), .val (.ref b17_b4)] [(.ref b17_b4)])) _
    refine XS.iconst X17.here hx rfl (hb hby at_180) ?_
    show Steps p.tables e below (T17.setTop (mkF m 181 #[.val (.int p1), .val (.int p2), .val (.int p3), .val (.int p4), .val (.int p5), .val (.int p6), .val (.int (4 : Int32)), .val (.ref b1), .val (.ref b10_b1), .val (.ref b17_b4)] [(.int (2 : Int32)), (.ref b17_b4)])) _
    refine X17.baloadBytes hx (j := (2 : Int32)) (v := (.int (p4.toInt8.toInt32))) Ar21.1 (State.isArrayOf_alike hZ.alike Ar21.2.1) Ar21.2.2 hin21 hat21 (g := (mkF m 181 #[.val (.int p1), .val (.int p2), .val (.int p3), .val (.int p4), .val (.int p5), .val (.int p6), .val (.int (4 : Int32)), .val (.ref b1), .val (.ref b10_b1), .val (.ref b17_b4)] [(.int (2 : Int32)), (.ref b17_b4)])) rfl rfl (hb hby at_181) _ ?_
    show Steps p.tables e below (T17.setTop (mkF m 182 #[.val (.int p1), .val (.int p2), .val (.int p3), .val (.int p4), .val (.int p5), .val (.int p6), .val (.int (4 : Int32)), .val (.ref b1), .val (.ref b10_b1), .val (.ref b17_b4)] [(.int (p4.toInt8.toInt32))])) _
    refine XS.iloadN X17.here hx rfl (hb hby at_182) rfl ?_
    show Steps p.tables e below (T17.setTop (mkF m 183 #[.val (.int p1), .val (.int p2), .val (.int p3), .val (.int p4), .val (.int p5), .val (.int p6), .val (.int (4 : Int32)), .val (.ref b1), .val (.ref b10_b1), .val (.ref b17_b4)] [(.int p4), (.int (p4.toInt8.toInt32))])) _
    refine XS.i2b X17.here hx rfl (hb hby at_183) rfl ?_
    show Steps p.tables e below (T17.setTop (mkF m 184 #[.val (.int p1), .val (.int p2), .val (.int p3), .val (.int p4), .val (.int p5), .val (.int p6), .val (.int (4 : Int32)), .val (.ref b1), .val (.ref b10_b1), .val (.ref b17_b4)] [(.int (p4.toInt8.toInt32)), (.int (p4.toInt8.toInt32))])) _
    refine XS.icmpYes X17.here hx rfl (pc0 := 184) (pc' := 189) rfl (hb hby at_184) rfl (teq (rfl : (p4.toInt8.toInt32) = (p4.toInt8.toInt32))).1 (by decide) (by decide) ?_
    show Steps p.tables e below (T17.setTop (mkF m 189 #[.val (.int p1), .val (.int p2), .val (.int p3), .val (.int p4), .val (.int p5), .val (.int p6), .val (.int (4 : Int32)), .val (.ref b1), .val (.ref b10_b1), .val (.ref b17_b4)] [])) _
    refine XS.iload X17.here hx rfl (hb hby at_189) rfl ?_
    show Steps p.tables e below (T17.setTop (mkF m 191 #[.val (.int p1), .val (.int p2), .val (.int p3), .val (.int p4), .val (.int p5), .val (.int p6), .val (.int (4 : Int32)), .val (.ref b1), .val (.ref b10_b1), .val (.ref b17_b4)] [(.int (4 : Int32))])) _
    refine XS.iconst X17.here hx rfl (hb hby at_191) ?_
    show Steps p.tables e below (T17.setTop (mkF m 192 #[.val (.int p1), .val (.int p2), .val (.int p3), .val (.int p4), .val (.int p5), .val (.int p6), .val (.int (4 : Int32)), .val (.ref b1), .val (.ref b10_b1), .val (.ref b17_b4)] [(.int (3 : Int32)), (.int (4 : Int32))])) _
    refine XS.icmpNo X17.here hx rfl (hb hby at_192) rfl (tlt ((by decide) : (3 : Int32) < (4 : Int32))).2.2.2 ?_
    show Steps p.tables e below (T17.setTop (mkF m 195 #[.val (.int p1), .val (.int p2), .val (.int p3), .val (.int p4), .val (.int p5), .val (.int p6), .val (.int (4 : Int32)), .val (.ref b1), .val (.ref b10_b1), .val (.ref b17_b4)] [])) _
    refine XS.aload X17.here hx rfl (hb hby at_195) rfl rfl ?_
    show Steps p.tables e below (T17.setTop (mkF m 197 #[.val (.int p1), .val (.int p2), .val (.int p3), .val (.int p4), .val (.int p5), .val (.int p6), .val (.int (4 : Int32)), .val (.ref b1), .val (.ref b10_b1), .val (.ref b17_b4)] [(.ref b17_b4)])) _
    refine XS.iconst X17.here hx rfl (hb hby at_197) ?_
    show Steps p.tables e below (T17.setTop (mkF m 198 #[.val (.int p1), .val (.int p2), .val (.int p3), .val (.int p4), .val (.int p5), .val (.int p6), .val (.int (4 : Int32)), .val (.ref b1), .val (.ref b10_b1), .val (.ref b17_b4)] [(.int (3 : Int32)), (.ref b17_b4)])) _
    refine X17.baloadBytes hx (j := (3 : Int32)) (v := (.int (p5.toInt8.toInt32))) Ar22.1 (State.isArrayOf_alike hZ.alike Ar22.2.1) Ar22.2.2 hin22 hat22 (g := (mkF m 198 #[.val (.int p1), .val (.int p2), .val (.int p3), .val (.int p4), .val (.int p5), .val (.int p6), .val (.int (4 : Int32)), .val (.ref b1), .val (.ref b10_b1), .val (.ref b17_b4)] [(.int (3 : Int32)), (.ref b17_b4)])) rfl rfl (hb hby at_198) _ ?_
    show Steps p.tables e below (T17.setTop (mkF m 199 #[.val (.int p1), .val (.int p2), .val (.int p3), .val (.int p4), .val (.int p5), .val (.int p6), .val (.int (4 : Int32)), .val (.ref b1), .val (.ref b10_b1), .val (.ref b17_b4)] [(.int (p5.toInt8.toInt32))])) _
    refine XS.iload X17.here hx rfl (hb hby at_199) rfl ?_
    show Steps p.tables e below (T17.setTop (mkF m 201 #[.val (.int p1), .val (.int p2), .val (.int p3), .val (.int p4), .val (.int p5), .val (.int p6), .val (.int (4 : Int32)), .val (.ref b1), .val (.ref b10_b1), .val (.ref b17_b4)] [(.int p5), (.int (p5.toInt8.toInt32))])) _
    refine XS.i2b X17.here hx rfl (hb hby at_201) rfl ?_
    show Steps p.tables e below (T17.setTop (mkF m 202 #[.val (.int p1), .val (.int p2), .val (.int p3), .val (.int p4), .val (.int p5), .val (.int p6), .val (.int (4 : Int32)), .val (.ref b1), .val (.ref b10_b1), .val (.ref b17_b4)] [(.int (p5.toInt8.toInt32)), (.int (p5.toInt8.toInt32))])) _
    refine XS.icmpYes X17.here hx rfl (pc0 := 202) (pc' := 207) rfl (hb hby at_202) rfl (teq (rfl : (p5.toInt8.toInt32) = (p5.toInt8.toInt32))).1 (by decide) (by decide) ?_
    show Steps p.tables e below (T17.setTop (mkF m 207 #[.val (.int p1), .val (.int p2), .val (.int p3), .val (.int p4), .val (.int p5), .val (.int p6), .val (.int (4 : Int32)), .val (.ref b1), .val (.ref b10_b1), .val (.ref b17_b4)] [])) _
    refine XS.iconst X17.here hx rfl (hb hby at_207) ?_
    show Steps p.tables e below (T17.setTop (mkF m 208 #[.val (.int p1), .val (.int p2), .val (.int p3), .val (.int p4), .val (.int p5), .val (.int p6), .val (.int (4 : Int32)), .val (.ref b1), .val (.ref b10_b1), .val (.ref b17_b4)] [(.int (1 : Int32))])) _
    exact retN X17 hx (t := .boolean) Bd.returns (by simp) (hb hby at_208) hr
  · show Q0 n0 _ T17.heap _
    exact ⟨rfl, N17⟩
set_option maxRecDepth 65536 in
set_option maxHeartbeats 40000000 in
theorem rm0_43 (l : Launch) (Z : State) (a0 : Array Value) (hw : ∀ d ∈ tables_1, d.before a0 Z = true) (ws : List Jvm.Cond) {w_n1 : Addr} {w_n0 : Addr} {k_n0 : ClassId} (W : Wd Z w_n1 w_n0 k_n0) (p1 : Int32) (p2 : Int32) (p3 : Int32) (p4 : Int32) (p5 : Int32) (p6 : Int32) (h0 : Heap) (n0 : Nat) (O0 : Old Z n0 h0) (hk : ((p1 &&& (2147483647 : Int32)) % (5 : Int32)) = (4 : Int32)) (hi : ((p6 &&& (2147483647 : Int32)) % (4 : Int32)) = (3 : Int32)) :
    MetFree l x (head1 (Jvm.Cond.code x code maxLocals ret :: ws) room_1) (fun a U => a = #[(.int p1), (.int p2), (.int p3), (.int p4), (.int p5), (.int p6)] ∧ Z.Warmed39 U.vm ∧ U.heap = h0) (fun _ _ _ _ _ => True) (fun _ U o U' => ∃ v L, o = .returned v ∧ Q0 n0 v U'.heap L ∧ FrameEnd U o U' L room_1.cells room_1.slots) := by
  have W' := W; obtain ⟨S_n1, E_n1, S_n0, F_n1_ordinal, V_n0⟩ := W'
  refine MetFree.of_bodySF (plainFor_of_name pn_0) hisR ?_
  intro p e s m args below meth c s₁ Bd hml0 hP hK
  obtain ⟨rfl, hZ, hh⟩ := hP
  have hx := Bd.exec
  have hby := Bd.bytes
  have hml : c.maxLocals = 10 := hml0
  have hown : s.vm.findClass "com/example/keyfold/keyfold/core/ValueOfBinary193PinLaw" = some m.cls := findClass_of_methodNamed Bd.named
  have hnm := (name_of_methodNamed Bd.named Bd.method).1
  have X0 : Stand p l e room_1 s m #[(.int p1), (.int p2), (.int p3), (.int p4), (.int p5), (.int p6)] below meth c s₁ [] 0 0 := Stand.of_body Bd
  have e0 : s₁.heap = h0 := by rw [← hh, Bd.state]; rfl
  have N0 := Fr.nil n0
  have pre0 : ∀ t, Steps p.tables e below (s₁.setTop (mkF m 0 #[.val (.int p1), .val (.int p2), .val (.int p3), .val (.int p4), .val (.int p5), .val (.int p6), .unset, .unset, .unset, .unset] [])) t → Steps p.tables e below (s₁.setTop (entryFrame m #[(.int p1), (.int p2), (.int p3), (.int p4), (.int p5), (.int p6)] maxLocals)) t := fun t k => castTop (ef_0_7 m p1 p2 p3 p4 p5 p6) k
  obtain ⟨T1, h1, k1, X1, e1, E1, A1, B1, st1⟩ := newPE X0 hx hZ (hw _ (List.mem_of_getElem? (i := 1) rfl)) e0 (g := (mkF m 10 #[.val (.int p1), .val (.int p2), .val (.int p3), .val (.int p4), .val (.int p5), .val (.int p6), .val (.int (4 : Int32)), .unset, .unset, .unset] [(.int (4 : Int32))])) rfl (hb hby at_10) rfl (by decide) (cap := 4) (by decide) (by decide) (by decide) (by decide) (ad := "[B") (by decide)
  obtain ⟨b1, g1⟩ : ∃ z, z = h0.size := ⟨_, rfl⟩
  rw [← g1] at A1 B1 st1
  have g_b1 : n0 ≤ b1 := by rw [g1]; exact O0.1 ▸ O0.2.1
  have O1 := O0.ext E1
  have fv1 : Arv Z h1 b1 k1 .byte (4 : Int32) [(.int (0 : Int32)), (.int (0 : Int32)), (.int (0 : Int32)), (.int (0 : Int32))] (.int (0 : Int32)) := (Arv.new A1 (by decide)).pad (pad_rep [] (.int (0 : Int32)) 4)
  obtain ⟨cl2, Ar2, qk2, Sz2, Nz2, Hs2, Gs2⟩ := id fv1
  have hin2 : ¬ ((0 : Int32) < 0 ∨ cl2.slots.size ≤ ((0 : Int32)).toNatClampNeg) := inb_of Sz2 ⟨by decide, by decide⟩
  obtain ⟨T3, h3, X3, e3, W3, st3⟩ := stB X1 hx hZ e1 Ar2 (j := (0 : Int32)) hin2  (g := (mkF m 24 #[.val (.int p1), .val (.int p2), .val (.int p3), .val (.int p4), .val (.int p5), .val (.int p6), .val (.int (4 : Int32)), .val (.ref b1), .unset, .unset] [(.int (p2.toInt8.toInt32)), (.int (0 : Int32)), (.ref b1)])) rfl rfl (hb hby at_24)
  rw [show nar .byte (p2.toInt8.toInt32) = (p2.toInt8.toInt32) from own_byte _] at W3
  have fw3 : Arv Z h3 b1 k1 .byte (4 : Int32) [(.int (p2.toInt8.toInt32)), (.int (0 : Int32)), (.int (0 : Int32)), (.int (0 : Int32))] (.int (0 : Int32)) := Arv.set Ar2 qk2 Sz2 Nz2 Hs2 Gs2 (fits_nar_byte _) W3 0 rfl (Nat.le_of_ble_eq_true rfl)
  have f3_0 : Exa Z h3 b1 "[B" := (B1).wr W3
  have O3 := O1.wr W3 g_b1
  have N3 := Fr.snoc X3 N0 g_b1
  obtain ⟨cl4, Ar4, qk4, Sz4, Nz4, Hs4, Gs4⟩ := id fw3
  have hin4 : ¬ ((1 : Int32) < 0 ∨ cl4.slots.size ≤ ((1 : Int32)).toNatClampNeg) := inb_of Sz4 ⟨by decide, by decide⟩
  obtain ⟨T5, h5, X5, e5, W5, st5⟩ := stB X3 hx hZ e3 Ar4 (j := (1 : Int32)) hin4  (g := (mkF m 36 #[.val (.int p1), .val (.int p2), .val (.int p3), .val (.int p4), .val (.int p5), .val (.int p6), .val (.int (4 : Int32)), .val (.ref b1), .unset, .unset] [(.int (p3.toInt8.toInt32)), (.int (1 : Int32)), (.ref b1)])) rfl rfl (hb hby at_36)
  rw [show nar .byte (p3.toInt8.toInt32) = (p3.toInt8.toInt32) from own_byte _] at W5
  have fw5 : Arv Z h5 b1 k1 .byte (4 : Int32) [(.int (p2.toInt8.toInt32)), (.int (p3.toInt8.toInt32)), (.int (0 : Int32)), (.int (0 : Int32))] (.int (0 : Int32)) := Arv.set Ar4 qk4 Sz4 Nz4 Hs4 Gs4 (fits_nar_byte _) W5 1 rfl (Nat.le_of_ble_eq_true rfl)
  have f5_0 : Exa Z h5 b1 "[B" := (f3_0).wr W5
  have O5 := O3.wr W5 g_b1
  have N5 := Fr.snoc X5 N3 g_b1
  obtain ⟨cl6, Ar6, qk6, Sz6, Nz6, Hs6, Gs6⟩ := id fw5
  have hin6 : ¬ ((2 : Int32) < 0 ∨ cl6.slots.size ≤ ((2 : Int32)).toNatClampNeg) := inb_of Sz6 ⟨by decide, by decide⟩
  obtain ⟨T7, h7, X7, e7, W7, st7⟩ := stB X5 hx hZ e5 Ar6 (j := (2 : Int32)) hin6  (g := (mkF m 48 #[.val (.int p1), .val (.int p2), .val (.int p3), .val (.int p4), .val (.int p5), .val (.int p6), .val (.int (4 : Int32)), .val (.ref b1), .unset, .unset] [(.int (p4.toInt8.toInt32)), (.int (2 : Int32)), (.ref b1)])) rfl rfl (hb hby at_48)
  rw [show nar .byte (p4.toInt8.toInt32) = (p4.toInt8.toInt32) from own_byte _] at W7
  have fw7 : Arv Z h7 b1 k1 .byte (4 : Int32) [(.int (p2.toInt8.toInt32)), (.int (p3.toInt8.toInt32)), (.int (p4.toInt8.toInt32)), (.int (0 : Int32))] (.int (0 : Int32)) := Arv.set Ar6 qk6 Sz6 Nz6 Hs6 Gs6 (fits_nar_byte _) W7 2 rfl (Nat.le_of_ble_eq_true rfl)
  have f7_0 : Exa Z h7 b1 "[B" := (f5_0).wr W7
  have O7 := O5.wr W7 g_b1
  have N7 := Fr.snoc X7 N5 g_b1
  obtain ⟨cl8, Ar8, qk8, Sz8, Nz8, Hs8, Gs8⟩ := id fw7
  have hin8 : ¬ ((3 : Int32) < 0 ∨ cl8.slots.size ≤ ((3 : Int32)).toNatClampNeg) := inb_of Sz8 ⟨by decide, by decide⟩
  obtain ⟨T9, h9, X9, e9, W9, st9⟩ := stB X7 hx hZ e7 Ar8 (j := (3 : Int32)) hin8  (g := (mkF m 61 #[.val (.int p1), .val (.int p2), .val (.int p3), .val (.int p4), .val (.int p5), .val (.int p6), .val (.int (4 : Int32)), .val (.ref b1), .unset, .unset] [(.int (p5.toInt8.toInt32)), (.int (3 : Int32)), (.ref b1)])) rfl rfl (hb hby at_61)
  rw [show nar .byte (p5.toInt8.toInt32) = (p5.toInt8.toInt32) from own_byte _] at W9
  have fw9 : Arv Z h9 b1 k1 .byte (4 : Int32) [(.int (p2.toInt8.toInt32)), (.int (p3.toInt8.toInt32)), (.int (p4.toInt8.toInt32)), (.int (p5.toInt8.toInt32))] (.int (0 : Int32)) := Arv.set Ar8 qk8 Sz8 Nz8 Hs8 Gs8 (fits_nar_byte _) W9 3 rfl (Nat.le_of_ble_eq_true rfl)
  have f9_0 : Exa Z h9 b1 "[B" := (f7_0).wr W9
  have O9 := O7.wr W9 g_b1
  have N9 := Fr.snoc X9 N7 g_b1
  obtain ⟨_, _, ⟨T10, L10, k10, n10⟩, -, X10, ⟨Lc10, hQ10, l10, y10, z10⟩, st10⟩ := Jvm.LawKit.callS X9 hx (y := (⟨"com/example/keyfold/keyfold/core/Value", "ofBinary", "([B)Lcom/example/keyfold/keyfold/core/Value;"⟩ : MethodName)) hown (mvT hZ (hw _ (List.mem_of_getElem? (i := 2) rfl))) (mvT hZ (hw _ (List.mem_of_getElem? (i := 3) rfl))) (mvT hZ (hw _ (List.mem_of_getElem? (i := 4) rfl))) (mvT hZ (hw _ (List.mem_of_getElem? (i := 5) rfl))) (by decide) (backOf (W := 0) (rm1_4 l Z a0 hw [] W b1 k1 (p2.toInt8.toInt32) (p3.toInt8.toInt32) (p4.toInt8.toInt32) (p5.toInt8.toInt32) h9 n0 O9 g_b1 f9_0 fw9) hZ (hw _ (List.mem_of_getElem? (i := 5) rfl)) (hw _ (List.mem_of_getElem? (i := 4) rfl)) (by decide) (by decide)) (g := (mkF m 64 #[.val (.int p1), .val (.int p2), .val (.int p3), .val (.int p4), .val (.int p5), .val (.int p6), .val (.int (4 : Int32)), .val (.ref b1), .unset, .unset] [(.ref b1)])) rfl (by rw [hml]; rfl) (argsL := [(.ref b1)]) (rest := []) (lenOf pd_3 rfl) rfl (by show 2 * 0 + _ ≤ _; exact Nat.le_of_eq rfl) (hb hby at_64) (fun _ _ => ⟨rfl, e9, (by decide : 1 + 2 ≤ _), (by decide : 4 + 6 ≤ _)⟩)
  dsimp only [Pt.U, Pt.locs, Pt.cells, Pt.slots] at X10 l10 y10 z10 st10 hQ10
  subst l10 y10 z10
  obtain ⟨N10q, hP10⟩ := hQ10
  have N10 := Fr.app N9 N10q
  obtain ⟨b10_b1, b10_b3, rfl, Kp10, g_b10_b1, si_b10_b1, g_b10_b3, si_b10_b3, fp10_0, fp10_1, fp10_2, fp10_3, fp10_4⟩ := hP10
  have f10_0 : Exa Z T10.heap b1 "[B" := (f9_0).keep Kp10
  have f10_1 : Arv Z T10.heap b1 k1 .byte (4 : Int32) [(.int (p2.toInt8.toInt32)), (.int (p3.toInt8.toInt32)), (.int (p4.toInt8.toInt32)), (.int (p5.toInt8.toInt32))] (.int (0 : Int32)) := (fw9).keep Kp10 nin0
  have O10 := O9.keep Kp10 all0
  obtain ⟨cl11, Ar11, qk11, Sz11, Nz11, Hs11, Gs11⟩ := id f10_1
  have hin11 : ¬ ((3 : Int32) < 0 ∨ cl11.slots.size ≤ ((3 : Int32)).toNatClampNeg) := inb_of Sz11 ⟨by decide, by decide⟩
  have hat11 : cl11.slots[((3 : Int32)).toNatClampNeg]? = some (.int (p5.toInt8.toInt32)) := Has.at Hs11 hin11 rfl
  obtain ⟨cl12, Ar12, qk12, Sz12, Nz12, Hs12, Gs12⟩ := id f10_1
  have hin12 : ¬ ((3 : Int32) < 0 ∨ cl12.slots.size ≤ ((3 : Int32)).toNatClampNeg) := inb_of Sz12 ⟨by decide, by decide⟩
  obtain ⟨T13, h13, X13, e13, W13, st13⟩ := stB X10 hx hZ rfl Ar12 (j := (3 : Int32)) hin12  (g := (mkF m 96 #[.val (.int p1), .val (.int p2), .val (.int p3), .val (.int p4), .val (.int p5), .val (.int p6), .val (.int (4 : Int32)), .val (.ref b1), .val (.ref b10_b1), .val (.int (3 : Int32))] [(.int (((p5.toInt8.toInt32) ^^^ (-1 : Int32)).toInt8.toInt32)), (.int (3 : Int32)), (.ref b1)])) rfl rfl (hb hby at_96)
  rw [show nar .byte (((p5.toInt8.toInt32) ^^^ (-1 : Int32)).toInt8.toInt32) = (((p5.toInt8.toInt32) ^^^ (-1 : Int32)).toInt8.toInt32) from own_byte _] at W13
  have fw13 : Arv Z h13 b1 k1 .byte (4 : Int32) [(.int (p2.toInt8.toInt32)), (.int (p3.toInt8.toInt32)), (.int (p4.toInt8.toInt32)), (.int (((p5.toInt8.toInt32) ^^^ (-1 : Int32)).toInt8.toInt32))] (.int (0 : Int32)) := Arv.set Ar12 qk12 Sz12 Nz12 Hs12 Gs12 (fits_nar_byte _) W13 3 rfl (Nat.le_of_ble_eq_true rfl)
  have f13_0 : Exa Z h13 b1 "[B" := (f10_0).wr W13
  have f13_1 : Exa Z h13 b10_b1 "com/example/keyfold/keyfold/core/Value" := (fp10_0).wr W13
  have f13_2 : Fld Z h13 b10_b1 "com/example/keyfold/keyfold/core/Value" "type" "Lcom/example/keyfold/keyfold/core/ValueType;" (.ref w_n1) := (fp10_1).other W13 (Or.inl (ne_exa fp10_0 f10_0 (by decide)))
  have f13_3 : Fld Z h13 b10_b1 "com/example/keyfold/keyfold/core/Value" "content" "Ljava/lang/Object;" (.ref b10_b3) := (fp10_2).other W13 (Or.inl (ne_exa fp10_0 f10_0 (by decide)))
  have f13_4 : Exa Z h13 b10_b3 "[B" := (fp10_3).wr W13
  have f13_5 : Arv Z h13 b10_b3 k1 .byte (4 : Int32) [(.int (p2.toInt8.toInt32)), (.int (p3.toInt8.toInt32)), (.int (p4.toInt8.toInt32)), (.int (p5.toInt8.toInt32))] (.int (0 : Int32)) := (fp10_4).other W13 (Ne.symm (Nat.ne_of_lt (Nat.lt_of_lt_of_le (f9_0).lt si_b10_b3)))
  have O13 := O10.wr W13 g_b1
  have N13 := Fr.snoc X13 N10 g_b1
  obtain ⟨cq14, kq14, q14a, q14b, q14c⟩ := isOf hZ e13 f13_1
  obtain ⟨_, _, ⟨T14, L14, k14, n14⟩, -, X14, ⟨Lc14, hQ14, l14, y14, z14⟩, st14⟩ := X13.virtualBack hx (y := (⟨"com/example/keyfold/keyfold/core/Value", "type", "()Lcom/example/keyfold/keyfold/core/ValueType;"⟩ : MethodName)) (z := (⟨"com/example/keyfold/keyfold/core/Value", "type", "()Lcom/example/keyfold/keyfold/core/ValueType;"⟩ : MethodName)) hown (mvT hZ (hw _ (List.mem_of_getElem? (i := 28) rfl))) (mvT hZ (hw _ (List.mem_of_getElem? (i := 29) rfl))) (notFace_of_selects (args := #[]) (mvT hZ (hw _ (List.mem_of_getElem? (i := 31) rfl)))) (mvT hZ (hw _ (List.mem_of_getElem? (i := 31) rfl))) (mvT hZ (hw _ (List.mem_of_getElem? (i := 30) rfl))) (by decide) (backOf (W := 0) (rm4 l Z a0 hw [] W b10_b1 h13 n0 O13 f13_2) hZ (hw _ (List.mem_of_getElem? (i := 32) rfl)) (hw _ (List.mem_of_getElem? (i := 4) rfl)) (by decide) (by decide)) q14a q14c (g := (mkF m 99 #[.val (.int p1), .val (.int p2), .val (.int p3), .val (.int p4), .val (.int p5), .val (.int p6), .val (.int (4 : Int32)), .val (.ref b1), .val (.ref b10_b1), .val (.int (3 : Int32))] [(.ref b10_b1)])) rfl (by rw [hml]; rfl) (Steps.refl _) (argsL := []) (rest := []) (lenOf pd_4 rfl) rfl (by show 2 * 0 + _ ≤ _; exact Nat.le_of_eq rfl) (hb hby at_99) (fun _ _ => ⟨rfl, e13, (by decide : 3 + 0 ≤ _), (by decide : 10 + 0 ≤ _)⟩)
  dsimp only [Pt.U, Pt.locs, Pt.cells, Pt.slots] at X14 l14 y14 z14 st14 hQ14
  subst l14 y14 z14
  obtain ⟨rfl, N14q, e14⟩ := hQ14
  have N14 := Fr.app N13 N14q
  obtain ⟨T15, X15, e15, st15⟩ := getS2 X14 hx hZ hown (host := "") (Or.inl (hw _ (List.mem_of_getElem? (i := 33) rfl))) Via.refl e14 (S_n1.ext O13.2) (g := (mkF m 102 #[.val (.int p1), .val (.int p2), .val (.int p3), .val (.int p4), .val (.int p5), .val (.int p6), .val (.int (4 : Int32)), .val (.ref b1), .val (.ref b10_b1), .val (.int (3 : Int32))] [(.ref w_n1)])) rfl (hb hby at_102)
  obtain ⟨cq16, kq16, q16a, q16b, q16c⟩ := isOf hZ e15 f13_1
  obtain ⟨_, _, ⟨T16, L16, k16, n16⟩, -, X16, ⟨Lc16, hQ16, l16, y16, z16⟩, st16⟩ := X15.virtualBack hx (y := (⟨"com/example/keyfold/keyfold/core/Value", "size", "()I"⟩ : MethodName)) (z := (⟨"com/example/keyfold/keyfold/core/Value", "size", "()I"⟩ : MethodName)) hown (mvT hZ (hw _ (List.mem_of_getElem? (i := 34) rfl))) (mvT hZ (hw _ (List.mem_of_getElem? (i := 35) rfl))) (notFace_of_selects (args := #[]) (mvT hZ (hw _ (List.mem_of_getElem? (i := 37) rfl)))) (mvT hZ (hw _ (List.mem_of_getElem? (i := 37) rfl))) (mvT hZ (hw _ (List.mem_of_getElem? (i := 36) rfl))) (by decide) (backOf (W := 0) (rm7_4 l Z a0 hw [] W b10_b1 b10_b3 k1 (p2.toInt8.toInt32) (p3.toInt8.toInt32) (p4.toInt8.toInt32) (p5.toInt8.toInt32) h13 n0 O13 g_b10_b1 f13_1 f13_2 f13_3 g_b10_b3 f13_4 f13_5) hZ (hw _ (List.mem_of_getElem? (i := 38) rfl)) (hw _ (List.mem_of_getElem? (i := 4) rfl)) (by decide) (by decide)) q16a q16c (g := (mkF m 112 #[.val (.int p1), .val (.int p2), .val (.int p3), .val (.int p4), .val (.int p5), .val (.int p6), .val (.int (4 : Int32)), .val (.ref b1), .val (.ref b10_b1), .val (.int (3 : Int32))] [(.ref b10_b1)])) rfl (by rw [hml]; rfl) (Steps.refl _) (argsL := []) (rest := []) (lenOf pd_1 rfl) rfl (by show 2 * 0 + _ ≤ _; exact Nat.le_of_eq rfl) (hb hby at_112) (fun _ _ => ⟨rfl, e15, (by decide : 3 + 0 ≤ _), (by decide : 10 + 0 ≤ _)⟩)
  dsimp only [Pt.U, Pt.locs, Pt.cells, Pt.slots] at X16 l16 y16 z16 st16 hQ16
  subst l16 y16 z16
  obtain ⟨rfl, N16q, e16⟩ := hQ16
  have N16 := Fr.app N14 N16q
  obtain ⟨cq17, kq17, q17a, q17b, q17c⟩ := isOf hZ e16 f13_1
  obtain ⟨_, _, ⟨T17, L17, k17, n17⟩, -, X17, ⟨Lc17, hQ17, l17, y17, z17⟩, st17⟩ := X16.virtualBack hx (y := (⟨"com/example/keyfold/keyfold/core/Value", "asBinary", "()[B"⟩ : MethodName)) (z := (⟨"com/example/keyfold/keyfold/core/Value", "asBinary", "()[B"⟩ : MethodName)) hown (mvT hZ (hw _ (List.mem_of_getElem? (i := 53) rfl))) (mvT hZ (hw _ (List.mem_of_getElem? (i := 54) rfl))) (notFace_of_selects (args := #[]) (mvT hZ (hw _ (List.mem_of_getElem? (i := 56) rfl)))) (mvT hZ (hw _ (List.mem_of_getElem? (i := 56) rfl))) (mvT hZ (hw _ (List.mem_of_getElem? (i := 55) rfl))) (by decide) (backOf (W := 0) (rm5_4 l Z a0 hw [] W b10_b1 b10_b3 k1 (p2.toInt8.toInt32) (p3.toInt8.toInt32) (p4.toInt8.toInt32) (p5.toInt8.toInt32) h13 n0 O13 g_b10_b1 f13_1 f13_2 f13_3 g_b10_b3 f13_4 f13_5) hZ (hw _ (List.mem_of_getElem? (i := 57) rfl)) (hw _ (List.mem_of_getElem? (i := 4) rfl)) (by decide) (by decide)) q17a q17c (g := (mkF m 124 #[.val (.int p1), .val (.int p2), .val (.int p3), .val (.int p4), .val (.int p5), .val (.int p6), .val (.int (4 : Int32)), .val (.ref b1), .val (.ref b10_b1), .val (.int (3 : Int32))] [(.ref b10_b1)])) rfl (by rw [hml]; rfl) (Steps.refl _) (argsL := []) (rest := []) (lenOf pd_5 rfl) rfl (by show 2 * 0 + _ ≤ _; exact Nat.le_of_eq rfl) (hb hby at_124) (fun _ _ => ⟨rfl, e16, (by decide : 3 + 1 ≤ _), (by decide : 10 + 4 ≤ _)⟩)
  dsimp only [Pt.U, Pt.locs, Pt.cells, Pt.slots] at X17 l17 y17 z17 st17 hQ17
  subst l17 y17 z17
  obtain ⟨N17q, hP17⟩ := hQ17
  have N17 := Fr.app N16 N17q
  obtain ⟨b17_b4, rfl, Kp17, g_b17_b4, si_b17_b4, fp17_0, fp17_1⟩ := hP17
  have f17_0 : Exa Z T17.heap b1 "[B" := (f13_0).keep Kp17
  have f17_1 : Exa Z T17.heap b10_b1 "com/example/keyfold/keyfold/core/Value" := (f13_1).keep Kp17
  have f17_2 : Fld Z T17.heap b10_b1 "com/example/keyfold/keyfold/core/Value" "type" "Lcom/example/keyfold/keyfold/core/ValueType;" (.ref w_n1) := (f13_2).keep Kp17 nin0
  have f17_3 : Fld Z T17.heap b10_b1 "com/example/keyfold/keyfold/core/Value" "content" "Ljava/lang/Object;" (.ref b10_b3) := (f13_3).keep Kp17 nin0
  have f17_4 : Exa Z T17.heap b10_b3 "[B" := (f13_4).keep Kp17
  have f17_5 : Arv Z T17.heap b10_b3 k1 .byte (4 : Int32) [(.int (p2.toInt8.toInt32)), (.int (p3.toInt8.toInt32)), (.int (p4.toInt8.toInt32)), (.int (p5.toInt8.toInt32))] (.int (0 : Int32)) := (f13_5).keep Kp17 nin0
  have f17_6 : Arv Z T17.heap b1 k1 .byte (4 : Int32) [(.int (p2.toInt8.toInt32)), (.int (p3.toInt8.toInt32)), (.int (p4.toInt8.toInt32)), (.int (((p5.toInt8.toInt32) ^^^ (-1 : Int32)).toInt8.toInt32))] (.int (0 : Int32)) := (fw13).keep Kp17 nin0
  have O17 := O13.keep Kp17 all0
  obtain ⟨cl18, Ar18, qk18, Sz18, Nz18, Hs18, Gs18⟩ := id fp17_1
  obtain ⟨cl19, Ar19, qk19, Sz19, Nz19, Hs19, Gs19⟩ := id fp17_1
  have hin19 : ¬ ((0 : Int32) < 0 ∨ cl19.slots.size ≤ ((0 : Int32)).toNatClampNeg) := inb_of Sz19 ⟨by decide, by decide⟩
  have hat19 : cl19.slots[((0 : Int32)).toNatClampNeg]? = some (.int (p2.toInt8.toInt32)) := Has.at Hs19 hin19 rfl
  obtain ⟨cl20, Ar20, qk20, Sz20, Nz20, Hs20, Gs20⟩ := id fp17_1
  have hin20 : ¬ ((1 : Int32) < 0 ∨ cl20.slots.size ≤ ((1 : Int32)).toNatClampNeg) := inb_of Sz20 ⟨by decide, by decide⟩
  have hat20 : cl20.slots[((1 : Int32)).toNatClampNeg]? = some (.int (p3.toInt8.toInt32)) := Has.at Hs20 hin20 rfl
  obtain ⟨cl21, Ar21, qk21, Sz21, Nz21, Hs21, Gs21⟩ := id fp17_1
  have hin21 : ¬ ((2 : Int32) < 0 ∨ cl21.slots.size ≤ ((2 : Int32)).toNatClampNeg) := inb_of Sz21 ⟨by decide, by decide⟩
  have hat21 : cl21.slots[((2 : Int32)).toNatClampNeg]? = some (.int (p4.toInt8.toInt32)) := Has.at Hs21 hin21 rfl
  obtain ⟨cl22, Ar22, qk22, Sz22, Nz22, Hs22, Gs22⟩ := id fp17_1
  have hin22 : ¬ ((3 : Int32) < 0 ∨ cl22.slots.size ≤ ((3 : Int32)).toNatClampNeg) := inb_of Sz22 ⟨by decide, by decide⟩
  have hat22 : cl22.slots[((3 : Int32)).toNatClampNeg]? = some (.int (p5.toInt8.toInt32)) := Has.at Hs22 hin22 rfl
  obtain ⟨fs, hr, hrun, hended, hW, hsame⟩ := X17.leave (v := some (.int (1 : Int32))) (fun h => by rw [Bd.returns] at h; cases h)
  refine ⟨_, _, pre0 _ ?_, hrun, hended, _, _, rfl, ?_, ⟨_, rfl⟩, hW, hsame.mono (by decide) (by decide)⟩
  · show Steps p.tables e below (s₁.setTop (mkF m 0 #[.val (.int p1), .val (.int p2), .val (.int p3), .val (.int p4), .val (.int p5), .val (.int p6), .unset, .unset, .unset, .unset] [])) _
    refine XS.iloadN X0.here hx rfl (hb hby at_0) rfl ?_
    show Steps p.tables e below (s₁.setTop (mkF m 1 #[.val (.int p1), .val (.int p2), .val (.int p3), .val (.int p4), .val (.int p5), .val (.int p6), .unset, .unset, .unset, .unset] [(.int p1)])) _
    refine X0.ldcInt hx hown (mvT hZ (hw _ (List.mem_of_getElem? (i := 0) rfl))) (g := (mkF m 1 #[.val (.int p1), .val (.int p2), .val (.int p3), .val (.int p4), .val (.int p5), .val (.int p6), .unset, .unset, .unset, .unset] [(.int p1)])) rfl (hb hby at_1) _ ?_
    show Steps p.tables e below (s₁.setTop (mkF m 3 #[.val (.int p1), .val (.int p2), .val (.int p3), .val (.int p4), .val (.int p5), .val (.int p6), .unset, .unset, .unset, .unset] [(.int (2147483647 : Int32)), (.int p1)])) _
    refine XS.iand X0.here hx rfl (hb hby at_3) rfl ?_
    show Steps p.tables e below (s₁.setTop (mkF m 4 #[.val (.int p1), .val (.int p2), .val (.int p3), .val (.int p4), .val (.int p5), .val (.int p6), .unset, .unset, .unset, .unset] [(.int (p1 &&& (2147483647 : Int32)))])) _
    refine XS.iconst X0.here hx rfl (hb hby at_4) ?_
    show Steps p.tables e below (s₁.setTop (mkF m 5 #[.val (.int p1), .val (.int p2), .val (.int p3), .val (.int p4), .val (.int p5), .val (.int p6), .unset, .unset, .unset, .unset] [(.int (5 : Int32)), (.int (p1 &&& (2147483647 : Int32)))])) _
    refine iremM X0 hx rfl (hb hby at_5) rfl (by decide) ?_
    show Steps p.tables e below (s₁.setTop (mkF m 6 #[.val (.int p1), .val (.int p2), .val (.int p3), .val (.int p4), .val (.int p5), .val (.int p6), .unset, .unset, .unset, .unset] [(.int ((p1 &&& (2147483647 : Int32)) % (5 : Int32)))])) _
    rw [hk]
    show Steps p.tables e below (s₁.setTop (mkF m 6 #[.val (.int p1), .val (.int p2), .val (.int p3), .val (.int p4), .val (.int p5), .val (.int p6), .unset, .unset, .unset, .unset] [(.int (4 : Int32))])) _
    refine XS.istore X0.here hx rfl (hb hby at_6) rfl (l' := #[.val (.int p1), .val (.int p2), .val (.int p3), .val (.int p4), .val (.int p5), .val (.int p6), .val (.int (4 : Int32)), .unset, .unset, .unset]) rfl ?_
    show Steps p.tables e below (s₁.setTop (mkF m 8 #[.val (.int p1), .val (.int p2), .val (.int p3), .val (.int p4), .val (.int p5), .val (.int p6), .val (.int (4 : Int32)), .unset, .unset, .unset] [])) _
    refine XS.iload X0.here hx rfl (hb hby at_8) rfl ?_
    show Steps p.tables e below (s₁.setTop (mkF m 10 #[.val (.int p1), .val (.int p2), .val (.int p3), .val (.int p4), .val (.int p5), .val (.int p6), .val (.int (4 : Int32)), .unset, .unset, .unset] [(.int (4 : Int32))])) _
    refine st1 _ ?_
    show Steps p.tables e below (T1.setTop (mkF m 12 #[.val (.int p1), .val (.int p2), .val (.int p3), .val (.int p4), .val (.int p5), .val (.int p6), .val (.int (4 : Int32)), .unset, .unset, .unset] [(.ref b1)])) _
    refine XS.astore X1.here hx rfl (hb hby at_12) rfl rfl (l' := #[.val (.int p1), .val (.int p2), .val (.int p3), .val (.int p4), .val (.int p5), .val (.int p6), .val (.int (4 : Int32)), .val (.ref b1), .unset, .unset]) rfl ?_
    show Steps p.tables e below (T1.setTop (mkF m 14 #[.val (.int p1), .val (.int p2), .val (.int p3), .val (.int p4), .val (.int p5), .val (.int p6), .val (.int (4 : Int32)), .val (.ref b1), .unset, .unset] [])) _
    refine XS.iload X1.here hx rfl (hb hby at_14) rfl ?_
    show Steps p.tables e below (T1.setTop (mkF m 16 #[.val (.int p1), .val (.int p2), .val (.int p3), .val (.int p4), .val (.int p5), .val (.int p6), .val (.int (4 : Int32)), .val (.ref b1), .unset, .unset] [(.int (4 : Int32))])) _
    refine XS.ifNo X1.here hx rfl (hb hby at_16) rfl ((if0 _ _).trans (tlt ((by decide) : (0 : Int32) < (4 : Int32))).2.2.2) ?_
    show Steps p.tables e below (T1.setTop (mkF m 19 #[.val (.int p1), .val (.int p2), .val (.int p3), .val (.int p4), .val (.int p5), .val (.int p6), .val (.int (4 : Int32)), .val (.ref b1), .unset, .unset] [])) _
    refine XS.aload X1.here hx rfl (hb hby at_19) rfl rfl ?_
    show Steps p.tables e below (T1.setTop (mkF m 21 #[.val (.int p1), .val (.int p2), .val (.int p3), .val (.int p4), .val (.int p5), .val (.int p6), .val (.int (4 : Int32)), .val (.ref b1), .unset, .unset] [(.ref b1)])) _
    refine XS.iconst X1.here hx rfl (hb hby at_21) ?_
    show Steps p.tables e below (T1.setTop (mkF m 22 #[.val (.int p1), .val (.int p2), .val (.int p3), .val (.int p4), .val (.int p5), .val (.int p6), .val (.int (4 : Int32)), .val (.ref b1), .unset, .unset] [(.int (0 : Int32)), (.ref b1)])) _
    refine XS.iloadN X1.here hx rfl (hb hby at_22) rfl ?_
    show Steps p.tables e below (T1.setTop (mkF m 23 #[.val (.int p1), .val (.int p2), .val (.int p3), .val (.int p4), .val (.int p5), .val (.int p6), .val (.int (4 : Int32)), .val (.ref b1), .unset, .unset] [(.int p2), (.int (0 : Int32)), (.ref b1)])) _
    refine XS.i2b X1.here hx rfl (hb hby at_23) rfl ?_
    show Steps p.tables e below (T1.setTop (mkF m 24 #[.val (.int p1), .val (.int p2), .val (.int p3), .val (.int p4), .val (.int p5), .val (.int p6), .val (.int (4 : Int32)), .val (.ref b1), .unset, .unset] [(.int (p2.toInt8.toInt32)), (.int (0 : Int32)), (.ref b1)])) _
    refine st3 _ ?_
    show Steps p.tables e below (T3.setTop (mkF m 25 #[.val (.int p1), .val (.int p2), .val (.int p3), .val (.int p4), .val (.int p5), .val (.int p6), .val (.int (4 : Int32)), .val (.ref b1), .unset, .unset] [])) _
    refine XS.iload X3.here hx rfl (hb hby at_25) rfl ?_
    show Steps p.tables e below (T3.setTop (mkF m 27 #[.val (.int p1), .val (.int p2), .val (.int p3), .val (.int p4), .val (.int p5), .val (.int p6), .val (.int (4 : Int32)), .val (.ref b1), .unset, .unset] [(.int (4 : Int32))])) _
    refine XS.iconst X3.here hx rfl (hb hby at_27) ?_
    show Steps p.tables e below (T3.setTop (mkF m 28 #[.val (.int p1), .val (.int p2), .val (.int p3), .val (.int p4), .val (.int p5), .val (.int p6), .val (.int (4 : Int32)), .val (.ref b1), .unset, .unset] [(.int (1 : Int32)), (.int (4 : Int32))])) _
    refine XS.icmpNo X3.here hx rfl (hb hby at_28) rfl (tlt ((by decide) : (1 : Int32) < (4 : Int32))).2.2.2 ?_
    show Steps p.tables e below (T3.setTop (mkF m 31 #[.val (.int p1), .val (.int p2), .val (.int p3), .val (.int p4), .val (.int p5), .val (.int p6), .val (.int (4 : Int32)), .val (.ref b1), .unset, .unset] [])) _
    refine XS.aload X3.here hx rfl (hb hby at_31) rfl rfl ?_
    show Steps p.tables e below (T3.setTop (mkF m 33 #[.val (.int p1), .val (.int p2), .val (.int p3), .val (.int p4), .val (.int p5), .val (.int p6), .val (.int (4 : Int32)), .val (.ref b1), .unset, .unset] [(.ref b1)])) _
    refine XS.iconst X3.here hx rfl (hb hby at_33) ?_
    show Steps p.tables e below (T3.setTop (mkF m 34 #[.val (.int p1), .val (.int p2), .val (.int p3), .val (.int p4), .val (.int p5), .val (.int p6), .val (.int (4 : Int32)), .val (.ref b1), .unset, .unset] [(.int (1 : Int32)), (.ref b1)])) _
    refine XS.iloadN X3.here hx rfl (hb hby at_34) rfl ?_
    show Steps p.tables e below (T3.setTop (mkF m 35 #[.val (.int p1), .val (.int p2), .val (.int p3), .val (.int p4), .val (.int p5), .val (.int p6), .val (.int (4 : Int32)), .val (.ref b1), .unset, .unset] [(.int p3), (.int (1 : Int32)), (.ref b1)])) _
    refine XS.i2b X3.here hx rfl (hb hby at_35) rfl ?_
    show Steps p.tables e below (T3.setTop (mkF m 36 #[.val (.int p1), .val (.int p2), .val (.int p3), .val (.int p4), .val (.int p5), .val (.int p6), .val (.int (4 : Int32)), .val (.ref b1), .unset, .unset] [(.int (p3.toInt8.toInt32)), (.int (1 : Int32)), (.ref b1)])) _
    refine st5 _ ?_
    show Steps p.tables e below (T5.setTop (mkF m 37 #[.val (.int p1), .val (.int p2), .val (.int p3), .val (.int p4), .val (.int p5), .val (.int p6), .val (.int (4 : Int32)), .val (.ref b1), .unset, .unset] [])) _
    refine XS.iload X5.here hx rfl (hb hby at_37) rfl ?_
    show Steps p.tables e below (T5.setTop (mkF m 39 #[.val (.int p1), .val (.int p2), .val (.int p3), .val (.int p4), .val (.int p5), .val (.int p6), .val (.int (4 : Int32)), .val (.ref b1), .unset, .unset] [(.int (4 : Int32))])) _
    refine XS.iconst X5.here hx rfl (hb hby at_39) ?_
    show Steps p.tables e below (T5.setTop (mkF m 40 #[.val (.int p1), .val (.int p2), .val (.int p3), .val (.int p4), .val (.int p5), .val (.int p6), .val (.int (4 : Int32)), .val (.ref b1), .unset, .unset] [(.int (2 : Int32)), (.int (4 : Int32))])) _
    refine XS.icmpNo X5.here hx rfl (hb hby at_40) rfl (tlt ((by decide) : (2 : Int32) < (4 : Int32))).2.2.2 ?_
    show Steps p.tables e below (T5.setTop (mkF m 43 #[.val (.int p1), .val (.int p2), .val (.int p3), .val (.int p4), .val (.int p5), .val (.int p6), .val (.int (4 : Int32)), .val (.ref b1), .unset, .unset] [])) _
    refine XS.aload X5.here hx rfl (hb hby at_43) rfl rfl ?_
    show Steps p.tables e below (T5.setTop (mkF m 45 #[.val (.int p1), .val (.int p2), .val (.int p3), .val (.int p4), .val (.int p5), .val (.int p6), .val (.int (4 : Int32)), .val (.ref b1), .unset, .unset] [(.ref b1)])) _
    refine XS.iconst X5.here hx rfl (hb hby at_45) ?_
    show Steps p.tables e below (T5.setTop (mkF m 46 #[.val (.int p1), .val (.int p2), .val (.int p3), .val (.int p4), .val (.int p5), .val (.int p6), .val (.int (4 : Int32)), .val (.ref b1), .unset, .unset] [(.int (2 : Int32)), (.ref b1)])) _
    refine XS.iloadN X5.here hx rfl (hb hby at_46) rfl ?_
    show Steps p.tables e below (T5.setTop (mkF m 47 #[.val (.int p1), .val (.int p2), .val (.int p3), .val (.int p4), .val (.int p5), .val (.int p6), .val (.int (4 : Int32)), .val (.ref b1), .unset, .unset] [(.int p4), (.int (2 : Int32)), (.ref b1)])) _
    refine XS.i2b X5.here hx rfl (hb hby at_47) rfl ?_
    show Steps p.tables e below (T5.setTop (mkF m 48 #[.val (.int p1), .val (.int p2), .val (.int p3), .val (.int p4), .val (.int p5), .val (.int p6), .val (.int (4 : Int32)), .val (.ref b1), .unset, .unset] [(.int (p4.toInt8.toInt32)), (.int (2 : Int32)), (.ref b1)])) _
    refine st7 _ ?_
    show Steps p.tables e below (T7.setTop (mkF m 49 #[.val (.int p1), .val (.int p2), .val (.int p3), .val (.int p4), .val (.int p5), .val (.int p6), .val (.int (4 : Int32)), .val (.ref b1), .unset, .unset] [])) _
    refine XS.iload X7.here hx rfl (hb hby at_49) rfl ?_
    show Steps p.tables e below (T7.setTop (mkF m 51 #[.val (.int p1), .val (.int p2), .val (.int p3), .val (.int p4), .val (.int p5), .val (.int p6), .val (.int (4 : Int32)), .val (.ref b1), .unset, .unset] [(.int (4 : Int32))])) _
    refine XS.iconst X7.here hx rfl (hb hby at_51) ?_
    show Steps p.tables e below (T7.setTop (mkF m 52 #[.val (.int p1), .val (.int p2), .val (.int p3), .val (.int p4), .val (.int p5), .val (.int p6), .val (.int (4 : Int32)), .val (.ref b1), .unset, .unset] [(.int (3 : Int32)), (.int (4 : Int32))])) _
    refine XS.icmpNo X7.here hx rfl (hb hby at_52) rfl (tlt ((by decide) : (3 : Int32) < (4 : Int32))).2.2.2 ?_
    show Steps p.tables e below (T7.setTop (mkF m 55 #[.val (.int p1), .val (.int p2), .val (.int p3), .val (.int p4), .val (.int p5), .val (.int p6), .val (.int (4 : Int32)), .val (.ref b1), .unset, .unset] [])) _
    refine XS.aload X7.here hx rfl (hb hby at_55) rfl rfl ?_
    show Steps p.tables e below (T7.setTop (mkF m 57 #[.val (.int p1), .val (.int p2), .val (.int p3), .val (.int p4), .val (.int p5), .val (.int p6), .val (.int (4 : Int32)), .val (.ref b1), .unset, .unset] [(.ref b1)])) _
    refine XS.iconst X7.here hx rfl (hb hby at_57) ?_
    show Steps p.tables e below (T7.setTop (mkF m 58 #[.val (.int p1), .val (.int p2), .val (.int p3), .val (.int p4), .val (.int p5), .val (.int p6), .val (.int (4 : Int32)), .val (.ref b1), .unset, .unset] [(.int (3 : Int32)), (.ref b1)])) _
    refine XS.iload X7.here hx rfl (hb hby at_58) rfl ?_
    show Steps p.tables e below (T7.setTop (mkF m 60 #[.val (.int p1), .val (.int p2), .val (.int p3), .val (.int p4), .val (.int p5), .val (.int p6), .val (.int (4 : Int32)), .val (.ref b1), .unset, .unset] [(.int p5), (.int (3 : Int32)), (.ref b1)])) _
    refine XS.i2b X7.here hx rfl (hb hby at_60) rfl ?_
    show Steps p.tables e below (T7.setTop (mkF m 61 #[.val (.int p1), .val (.int p2), .val (.int p3), .val (.int p4), .val (.int p5), .val (.int p6), .val (.int (4 : Int32)), .val (.ref b1), .unset, .unset] [(.int (p5.toInt8.toInt32)), (.int (3 : Int32)), (.ref b1)])) _
    refine st9 _ ?_
    show Steps p.tables e below (T9.setTop (mkF m 62 #[.val (.int p1), .val (.int p2), .val (.int p3), .val (.int p4), .val (.int p5), .val (.int p6), .val (.int (4 : Int32)), .val (.ref b1), .unset, .unset] [])) _
    refine XS.aload X9.here hx rfl (hb hby at_62) rfl rfl ?_
    show Steps p.tables e below (T9.setTop (mkF m 64 #[.val (.int p1), .val (.int p2), .val (.int p3), .val (.int p4), .val (.int p5), .val (.int p6), .val (.int (4 : Int32)), .val (.ref b1), .unset, .unset] [(.ref b1)])) _
    refine st10 _ ?_
    show Steps p.tables e below (T10.setTop (mkF m 67 #[.val (.int p1), .val (.int p2), .val (.int p3), .val (.int p4), .val (.int p5), .val (.int p6), .val (.int (4 : Int32)), .val (.ref b1), .unset, .unset] [(.ref b10_b1)])) _
    refine XS.astore X10.here hx rfl (hb hby at_67) rfl rfl (l' := #[.val (.int p1), .val (.int p2), .val (.int p3), .val (.int p4), .val (.int p5), .val (.int p6), .val (.int (4 : Int32)), .val (.ref b1), .val (.ref b10_b1), .unset]) rfl ?_
    show Steps p.tables e below (T10.setTop (mkF m 69 #[.val (.int p1), .val (.int p2), .val (.int p3), .val (.int p4), .val (.int p5), .val (.int p6), .val (.int (4 : Int32)), .val (.ref b1), .val (.ref b10_b1), .unset] [])) _
    refine XS.iload X10.here hx rfl (hb hby at_69) rfl ?_
    show Steps p.tables e below (T10.setTop (mkF m 71 #[.val (.int p1), .val (.int p2), .val (.int p3), .val (.int p4), .val (.int p5), .val (.int p6), .val (.int (4 : Int32)), .val (.ref b1), .val (.ref b10_b1), .unset] [(.int (4 : Int32))])) _
    refine XS.ifNo X10.here hx rfl (hb hby at_71) rfl ((if0 _ _).trans (tlt ((by decide) : (0 : Int32) < (4 : Int32))).2.2.2) ?_
    show Steps p.tables e below (T10.setTop (mkF m 74 #[.val (.int p1), .val (.int p2), .val (.int p3), .val (.int p4), .val (.int p5), .val (.int p6), .val (.int (4 : Int32)), .val (.ref b1), .val (.ref b10_b1), .unset] [])) _
    refine XS.iload X10.here hx rfl (hb hby at_74) rfl ?_
    show Steps p.tables e below (T10.setTop (mkF m 76 #[.val (.int p1), .val (.int p2), .val (.int p3), .val (.int p4), .val (.int p5), .val (.int p6), .val (.int (4 : Int32)), .val (.ref b1), .val (.ref b10_b1), .unset] [(.int p6)])) _
    refine X10.ldcInt hx hown (mvT hZ (hw _ (List.mem_of_getElem? (i := 0) rfl))) (g := (mkF m 76 #[.val (.int p1), .val (.int p2), .val (.int p3), .val (.int p4), .val (.int p5), .val (.int p6), .val (.int (4 : Int32)), .val (.ref b1), .val (.ref b10_b1), .unset] [(.int p6)])) rfl (hb hby at_76) _ ?_
    show Steps p.tables e below (T10.setTop (mkF m 78 #[.val (.int p1), .val (.int p2), .val (.int p3), .val (.int p4), .val (.int p5), .val (.int p6), .val (.int (4 : Int32)), .val (.ref b1), .val (.ref b10_b1), .unset] [(.int (2147483647 : Int32)), (.int p6)])) _
    refine XS.iand X10.here hx rfl (hb hby at_78) rfl ?_
    show Steps p.tables e below (T10.setTop (mkF m 79 #[.val (.int p1), .val (.int p2), .val (.int p3), .val (.int p4), .val (.int p5), .val (.int p6), .val (.int (4 : Int32)), .val (.ref b1), .val (.ref b10_b1), .unset] [(.int (p6 &&& (2147483647 : Int32)))])) _
    refine XS.iload X10.here hx rfl (hb hby at_79) rfl ?_
    show Steps p.tables e below (T10.setTop (mkF m 81 #[.val (.int p1), .val (.int p2), .val (.int p3), .val (.int p4), .val (.int p5), .val (.int p6), .val (.int (4 : Int32)), .val (.ref b1), .val (.ref b10_b1), .unset] [(.int (4 : Int32)), (.int (p6 &&& (2147483647 : Int32)))])) _
    refine iremM X10 hx rfl (hb hby at_81) rfl (by decide) ?_
    show Steps p.tables e below (T10.setTop (mkF m 82 #[.val (.int p1), .val (.int p2), .val (.int p3), .val (.int p4), .val (.int p5), .val (.int p6), .val (.int (4 : Int32)), .val (.ref b1), .val (.ref b10_b1), .unset] [(.int ((p6 &&& (2147483647 : Int32)) % (4 : Int32)))])) _
    rw [hi]
    show Steps p.tables e below (T10.setTop (mkF m 82 #[.val (.int p1), .val (.int p2), .val (.int p3), .val (.int p4), .val (.int p5), .val (.int p6), .val (.int (4 : Int32)), .val (.ref b1), .val (.ref b10_b1), .unset] [(.int (3 : Int32))])) _
    refine XS.istore X10.here hx rfl (hb hby at_82) rfl (l' := #[.val (.int p1), .val (.int p2), .val (.int p3), .val (.int p4), .val (.int p5), .val (.int p6), .val (.int (4 : Int32)), .val (.ref b1), .val (.ref b10_b1), .val (.int (3 : Int32))]) rfl ?_
    show Steps p.tables e below (T10.setTop (mkF m 84 #[.val (.int p1), .val (.int p2), .val (.int p3), .val (.int p4), .val (.int p5), .val (.int p6), .val (.int (4 : Int32)), .val (.ref b1), .val (.ref b10_b1), .val (.int (3 : Int32))] [])) _
    refine XS.aload X10.here hx rfl (hb hby at_84) rfl rfl ?_
    show Steps p.tables e below (T10.setTop (mkF m 86 #[.val (.int p1), .val (.int p2), .val (.int p3), .val (.int p4), .val (.int p5), .val (.int p6), .val (.int (4 : Int32)), .val (.ref b1), .val (.ref b10_b1), .val (.int (3 : Int32))] [(.ref b1)])) _
    refine XS.iload X10.here hx rfl (hb hby at_86) rfl ?_
    show Steps p.tables e below (T10.setTop (mkF m 88 #[.val (.int p1), .val (.int p2), .val (.int p3), .val (.int p4), .val (.int p5), .val (.int p6), .val (.int (4 : Int32)), .val (.ref b1), .val (.ref b10_b1), .val (.int (3 : Int32))] [(.int (3 : Int32)), (.ref b1)])) _
    refine XS.aload X10.here hx rfl (hb hby at_88) rfl rfl ?_
    show Steps p.tables e below (T10.setTop (mkF m 90 #[.val (.int p1), .val (.int p2), .val (.int p3), .val (.int p4), .val (.int p5), .val (.int p6), .val (.int (4 : Int32)), .val (.ref b1), .val (.ref b10_b1), .val (.int (3 : Int32))] [(.ref b1), (.int (3 : Int32)), (.ref b1)])) _
    refine XS.iload X10.here hx rfl (hb hby at_90) rfl ?_
    show Steps p.tables e below (T10.setTop (mkF m 92 #[.val (.int p1), .val (.int p2), .val (.int p3), .val (.int p4), .val (.int p5), .val (.int p6), .val (.int (4 : Int32)), .val (.ref b1), .val (.ref b10_b1), .val (.int (3 : Int32))] [(.int (3 : Int32)), (.ref b1), (.int (3 : Int32)), (.ref b1)])) _
    refine X10.baloadBytes hx (j := (3 : Int32)) (v := (.int (p5.toInt8.toInt32))) Ar11.1 (State.isArrayOf_alike hZ.alike Ar11.2.1) Ar11.2.2 hin11 hat11 (g := (mkF m 92 #[.val (.int p1), .val (.int p2), .val (.int p3), .val (.int p4), .val (.int p5), .val (.int p6), .val (.int (4 : Int32)), .val (.ref b1), .val (.ref b10_b1), .val (.int (3 : Int32))] [(.int (3 : Int32)), (.ref b1), (.int (3 : Int32)), (.ref b1)])) rfl rfl (hb hby at_92) _ ?_
    show Steps p.tables e below (T10.setTop (mkF m 93 #[.val (.int p1), .val (.int p2), .val (.int p3), .val (.int p4), .val (.int p5), .val (.int p6), .val (.int (4 : Int32)), .val (.ref b1), .val (.ref b10_b1), .val (.int (3 : Int32))] [(.int (p5.toInt8.toInt32)), (.int (3 : Int32)), (.ref b1)])) _
    refine XS.iconst X10.here hx rfl (hb hby at_93) ?_
    show Steps p.tables e below (T10.setTop (mkF m 94 #[.val (.int p1), .val (.int p2), .val (.int p3), .val (.int p4), .val (.int p5), .val (.int p6), .val (.int (4 : Int32)), .val (.ref b1), .val (.ref b10_b1), .val (.int (3 : Int32))] [(.int (-1 : Int32)), (.int (p5.toInt8.toInt32)), (.int (3 : Int32)), (.ref b1)])) _
    refine XS.ixor X10.here hx rfl (hb hby at_94) rfl ?_
    show Steps p.tables e below (T10.setTop (mkF m 95 #[.val (.int p1), .val (.int p2), .val (.int p3), .val (.int p4), .val (.int p5), .val (.int p6), .val (.int (4 : Int32)), .val (.ref b1), .val (.ref b10_b1), .val (.int (3 : Int32))] [(.int ((p5.toInt8.toInt32) ^^^ (-1 : Int32))), (.int (3 : Int32)), (.ref b1)])) _
    refine XS.i2b X10.here hx rfl (hb hby at_95) rfl ?_
    show Steps p.tables e below (T10.setTop (mkF m 96 #[.val (.int p1), .val (.int p2), .val (.int p3), .val (.int p4), .val (.int p5), .val (.int p6), .val (.int (4 : Int32)), .val (.ref b1), .val (.ref b10_b1), .val (.int (3 : Int32))] [(.int (((p5.toInt8.toInt32) ^^^ (-1 : Int32)).toInt8.toInt32)), (.int (3 : Int32)), (.ref b1)])) _
    refine st13 _ ?_
    show Steps p.tables e below (T13.setTop (mkF m 97 #[.val (.int p1), .val (.int p2), .val (.int p3), .val (.int p4), .val (.int p5), .val (.int p6), .val (.int (4 : Int32)), .val (.ref b1), .val (.ref b10_b1), .val (.int (3 : Int32))] [])) _
    refine XS.aload X13.here hx rfl (hb hby at_97) rfl rfl ?_
    show Steps p.tables e below (T13.setTop (mkF m 99 #[.val (.int p1), .val (.int p2), .val (.int p3), .val (.int p4), .val (.int p5), .val (.int p6), .val (.int (4 : Int32)), .val (.ref b1), .val (.ref b10_b1), .val (.int (3 : Int32))] [(.ref b10_b1)])) _
    refine st14.trans ?_
    show Steps p.tables e below (T14.setTop (mkF m 102 #[.val (.int p1), .val (.int p2), .val (.int p3), .val (.int p4), .val (.int p5), .val (.int p6), .val (.int (4 : Int32)), .val (.ref b1), .val (.ref b10_b1), .val (.int (3 : Int32))] [(.ref w_n1)])) _
    refine st15 _ ?_
    show Steps p.tables e below (T15.setTop (mkF m 105 #[.val (.int p1), .val (.int p2), .val (.int p3), .val (.int p4), .val (.int p5), .val (.int p6), .val (.int (4 : Int32)), .val (.ref b1), .val (.ref b10_b1), .val (.int (3 : Int32))] [(.ref w_n1), (.ref w_n1)])) _
    refine Jvm.RoadKit.acmp (g := (mkF m 105 #[.val (.int p1), .val (.int p2), .val (.int p3), .val (.int p4), .val (.int p5), .val (.int p6), .val (.int (4 : Int32)), .val (.ref b1), .val (.ref b10_b1), .val (.int (3 : Int32))] [(.ref w_n1), (.ref w_n1)])) X15 hx rfl rfl rfl (pc0 := 105) (pc' := 110) (same := true) rfl (hb hby at_105) rfl (decide_eq_true rfl) (by decide) (by decide) ?_
    show Steps p.tables e below (T15.setTop (mkF m 110 #[.val (.int p1), .val (.int p2), .val (.int p3), .val (.int p4), .val (.int p5), .val (.int p6), .val (.int (4 : Int32)), .val (.ref b1), .val (.ref b10_b1), .val (.int (3 : Int32))] [])) _
    refine XS.aload X15.here hx rfl (hb hby at_110) rfl rfl ?_
    show Steps p.tables e below (T15.setTop (mkF m 112 #[.val (.int p1), .val (.int p2), .val (.int p3), .val (.int p4), .val (.int p5), .val (.int p6), .val (.int (4 : Int32)), .val (.ref b1), .val (.ref b10_b1), .val (.int (3 : Int32))] [(.ref b10_b1)])) _
    refine st16.trans ?_
    show Steps p.tables e below (T16.setTop (mkF m 115 #[.val (.int p1), .val (.int p2), .val (.int p3), .val (.int p4), .val (.int p5), .val (.int p6), .val (.int (4 : Int32)), .val (.ref b1), .val (.ref b10_b1), .val (.int (3 : Int32))] [(.int (4 : Int32))])) _
    refine XS.iload X16.here hx rfl (hb hby at_115) rfl ?_
    show Steps p.tables e below (T16.setTop (mkF m 117 #[.val (.int p1), .val (.int p2), .val (.int p3), .val (.int p4), .val (.int p5), .val (.int p6), .val (.int (4 : Int32)), .val (.ref b1), .val (.ref b10_b1), .val (.int (3 : Int32))] [(.int (4 : Int32)), (.int (4 : Int32))])) _
    refine XS.icmpYes X16.here hx rfl (pc0 := 117) (pc' := 122) rfl (hb hby at_117) rfl (teq ((by decide) : (4 : Int32) = (4 : Int32))).1 (by decide) (by decide) ?_
    show Steps p.tables e below (T16.setTop (mkF m 122 #[.val (.int p1), .val (.int p2), .val (.int p3), .val (.int p4), .val (.int p5), .val (.int p6), .val (.int (4 : Int32)), .val (.ref b1), .val (.ref b10_b1), .val (.int (3 : Int32))] [])) _
    refine XS.aload X16.here hx rfl (hb hby at_122) rfl rfl ?_
    show Steps p.tables e below (T16.setTop (mkF m 124 #[.val (.int p1), .val (.int p2), .val (.int p3), .val (.int p4), .val (.int p5), .val (.int p6), .val (.int (4 : Int32)), .val (.ref b1), .val (.ref b10_b1), .val (.int (3 : Int32))] [(.ref b10_b1)])) _
    refine st17.trans ?_
    show Steps p.tables e below (T17.setTop (mkF m 127 #[.val (.int p1), .val (.int p2), .val (.int p3), .val (.int p4), .val (.int p5), .val (.int p6), .val (.int (4 : Int32)), .val (.ref b1), .val (.ref b10_b1), .val (.int (3 : Int32))] [(.ref b17_b4)])) _
    refine XS.astore X17.here hx rfl (hb hby at_127) rfl rfl (l' := #[.val (.int p1), .val (.int p2), .val (.int p3), .val (.int p4), .val (.int p5), .val (.int p6), .val (.int (4 : Int32)), .val (.ref b1), .val (.ref b10_b1), .val (.ref b17_b4)]) rfl ?_
    show Steps p.tables e below (T17.setTop (mkF m 129 #[.val (.int p1), .val (.int p2), .val (.int p3), .val (.int p4), .val (.int p5), .val (.int p6), .val (.int (4 : Int32)), .val (.ref b1), .val (.ref b10_b1), .val (.ref b17_b4)] [])) _
    refine XS.aload X17.here hx rfl (hb hby at_129) rfl rfl ?_
    show Steps p.tables e below (T17.setTop (mkF m 131 #[.val (.int p1), .val (.int p2), .val (.int p3), .val (.int p4), .val (.int p5), .val (.int p6), .val (.int (4 : Int32)), .val (.ref b1), .val (.ref b10_b1), .val (.ref b17_b4)] [(.ref b17_b4)])) _
    refine X17.arraylength hx Ar18.1 (State.isArrayOf_alike hZ.alike Ar18.2.1) (g := (mkF m 131 #[.val (.int p1), .val (.int p2), .val (.int p3), .val (.int p4), .val (.int p5), .val (.int p6), .val (.int (4 : Int32)), .val (.ref b1), .val (.ref b10_b1), .val (.ref b17_b4)] [(.ref b17_b4)])) rfl rfl (hb hby at_131) _ ?_
    rw [len_of Sz18 Nz18]
    show Steps p.tables e below (T17.setTop (mkF m 132 #[.val (.int p1), .val (.int p2), .val (.int p3), .val (.int p4), .val (.int p5), .val (.int p6), .val (.int (4 : Int32)), .val (.ref b1), .val (.ref b10_b1), .val (.ref b17_b4)] [(.int (4 : Int32))])) _
    refine XS.iload X17.here hx rfl (hb hby at_132) rfl ?_
    show Steps p.tables e below (T17.setTop (mkF m 134 #[.val (.int p1), .val (.int p2), .val (.int p3), .val (.int p4), .val (.int p5), .val (.int p6), .val (.int (4 : Int32)), .val (.ref b1), .val (.ref b10_b1), .val (.ref b17_b4)] [(.int (4 : Int32)), (.int (4 : Int32))])) _
    refine XS.icmpYes X17.here hx rfl (pc0 := 134) (pc' := 139) rfl (hb hby at_134) rfl (teq ((by decide) : (4 : Int32) = (4 : Int32))).1 (by decide) (by decide) ?_
    show Steps p.tables e below (T17.setTop (mkF m 139 #[.val (.int p1), .val (.int p2), .val (.int p3), .val (.int p4), .val (.int p5), .val (.int p6), .val (.int (4 : Int32)), .val (.ref b1), .val (.ref b10_b1), .val (.ref b17_b4)] [])) _
    refine XS.iload X17.here hx rfl (hb hby at_139) rfl ?_
    show Steps p.tables e below (T17.setTop (mkF m 141 #[.val (.int p1), .val (.int p2), .val (.int p3), .val (.int p4), .val (.int p5), .val (.int p6), .val (.int (4 : Int32)), .val (.ref b1), .val (.ref b10_b1), .val (.ref b17_b4)] [(.int (4 : Int32))])) _
    refine XS.ifNo X17.here hx rfl (hb hby at_141) rfl ((if0 _ _).trans (tlt ((by decide) : (0 : Int32) < (4 : Int32))).2.2.2) ?_
    show Steps p.tables e below (T17.setTop (mkF m 144 #[.val (.int p1), .val (.int p2), .val (.int p3), .val (.int p4), .val (.int p5), .val (.int p6), .val (.int (4 : Int32)), .val (.ref b1), .val (.ref b10_b1), .val (.ref b17_b4)] [])) _
    refine XS.aload X17.here hx rfl (hb hby at_144) rfl rfl ?_
    show Steps p.tables e below (T17.setTop (mkF m 146 #[.val (.int p1), .val (.int p2), .val (.int p3), .val (.int p4), .val (.int p5), .val (.int p6), .val (.int (4 : Int32)), .val (.ref b1), .val (.ref b10_b1), .val (.ref b17_b4)] [(.ref b17_b4)])) _
    refine XS.iconst X17.here hx rfl (hb hby at_146) ?_
    show Steps p.tables e below (T17.setTop (mkF m 147 #[.val (.int p1), .val (.int p2), .val (.int p3), .val (.int p4), .val (.int p5), .val (.int p6), .val (.int (4 : Int32)), .val (.ref b1), .val (.ref b10_b1), .val (.ref b17_b4)] [(.int (0 : Int32)), (.ref b17_b4)])) _
    refine X17.baloadBytes hx (j := (0 : Int32)) (v := (.int (p2.toInt8.toInt32))) Ar19.1 (State.isArrayOf_alike hZ.alike Ar19.2.1) Ar19.2.2 hin19 hat19 (g := (mkF m 147 #[.val (.int p1), .val (.int p2), .val (.int p3), .val (.int p4), .val (.int p5), .val (.int p6), .val (.int (4 : Int32)), .val (.ref b1), .val (.ref b10_b1), .val (.ref b17_b4)] [(.int (0 : Int32)), (.ref b17_b4)])) rfl rfl (hb hby at_147) _ ?_
    show Steps p.tables e below (T17.setTop (mkF m 148 #[.val (.int p1), .val (.int p2), .val (.int p3), .val (.int p4), .val (.int p5), .val (.int p6), .val (.int (4 : Int32)), .val (.ref b1), .val (.ref b10_b1), .val (.ref b17_b4)] [(.int (p2.toInt8.toInt32))])) _
    refine XS.iloadN X17.here hx rfl (hb hby at_148) rfl ?_
    show Steps p.tables e below (T17.setTop (mkF m 149 #[.val (.int p1), .val (.int p2), .val (.int p3), .val (.int p4), .val (.int p5), .val (.int p6), .val (.int (4 : Int32)), .val (.ref b1), .val (.ref b10_b1), .val (.ref b17_b4)] [(.int p2), (.int (p2.toInt8.toInt32))])) _
    refine XS.i2b X17.here hx rfl (hb hby at_149) rfl ?_
    show Steps p.tables e below (T17.setTop (mkF m 150 #[.val (.int p1), .val (.int p2), .val (.int p3), .val (.int p4), .val (.int p5), .val (.int p6), .val (.int (4 : Int32)), .val (.ref b1), .val (.ref b10_b1), .val (.ref b17_b4)] [(.int (p2.toInt8.toInt32)), (.int (p2.toInt8.toInt32))])) _
    refine XS.icmpYes X17.here hx rfl (pc0 := 150) (pc' := 155) rfl (hb hby at_150) rfl (teq (rfl : (p2.toInt8.toInt32) = (p2.toInt8.toInt32))).1 (by decide) (by decide) ?_
    show Steps p.tables e below (T17.setTop (mkF m 155 #[.val (.int p1), .val (.int p2), .val (.int p3), .val (.int p4), .val (.int p5), .val (.int p6), .val (.int (4 : Int32)), .val (.ref b1), .val (.ref b10_b1), .val (.ref b17_b4)] [])) _
    refine XS.iload X17.here hx rfl (hb hby at_155) rfl ?_
    show Steps p.tables e below (T17.setTop (mkF m 157 #[.val (.int p1), .val (.int p2), .val (.int p3), .val (.int p4), .val (.int p5), .val (.int p6), .val (.int (4 : Int32)), .val (.ref b1), .val (.ref b10_b1), .val (.ref b17_b4)] [(.int (4 : Int32))])) _
    refine XS.iconst X17.here hx rfl (hb hby at_157) ?_
    show Steps p.tables e below (T17.setTop (mkF m 158 #[.val (.int p1), .val (.int p2), .val (.int p3), .val (.int p4), .val (.int p5), .val (.int p6), .val (.int (4 : Int32)), .val (.ref b1), .val (.ref b10_b1), .val (.ref b17_b4)] [(.int (1 : Int32)), (.int (4 : Int32))])) _
    refine XS.icmpNo X17.here hx rfl (hb hby at_158) rfl (tlt ((by decide) : (1 : Int32) < (4 : Int32))).2.2.2 ?_
    show Steps p.tables e below (T17.setTop (mkF m 161 #[.val (.int p1), .val (.int p2), .val (.int p3), .val (.int p4), .val (.int p5), .val (.int p6), .val (.int (4 : Int32)), .val (.ref b1), .val (.ref b10_b1), .val (.ref b17_b4)] [])) _
    refine XS.aload X17.here hx rfl (hb hby at_161) rfl rfl ?_
    show Steps p.tables e below (T17.setTop (mkF m 163 #[.val (.int p1), .val (.int p2), .val (.int p3), .val (.int p4), .val (.int p5), .val (.int p6), .val (.int (4 : Int32)), .val (.ref b1), .val (.ref b10_b1), .val (.ref b17_b4)] [(.ref b17_b4)])) _
    refine XS.iconst X17.here hx rfl (hb hby at_163) ?_
    show Steps p.tables e below (T17.setTop (mkF m 164 #[.val (.int p1), .val (.int p2), .val (.int p3), .val (.int p4), .val (.int p5), .val (.int p6), .val (.int (4 : Int32)), .val (.ref b1), .val (.ref b10_b1), .val (.ref b17_b4)] [(.int (1 : Int32)), (.ref b17_b4)])) _
    refine X17.baloadBytes hx (j := (1 : Int32)) (v := (.int (p3.toInt8.toInt32))) Ar20.1 (State.isArrayOf_alike hZ.alike Ar20.2.1) Ar20.2.2 hin20 hat20 (g := (mkF m 164 #[.val (.int p1), .val (.int p2), .val (.int p3), .val (.int p4), .val (.int p5), .val (.int p6), .val (.int (4 : Int32)), .val (.ref b1), .val (.ref b10_b1), .val (.ref b17_b4)] [(.int (1 : Int32)), (.ref b17_b4)])) rfl rfl (hb hby at_164) _ ?_
    show Steps p.tables e below (T17.setTop (mkF m 165 #[.val (.int p1), .val (.int p2), .val (.int p3), .val (.int p4), .val (.int p5), .val (.int p6), .val (.int (4 : Int32)), .val (.ref b1), .val (.ref b10_b1), .val (.ref b17_b4)] [(.int (p3.toInt8.toInt32))])) _
    refine XS.iloadN X17.here hx rfl (hb hby at_165) rfl ?_
    show Steps p.tables e below (T17.setTop (mkF m 166 #[.val (.int p1), .val (.int p2), .val (.int p3), .val (.int p4), .val (.int p5), .val (.int p6), .val (.int (4 : Int32)), .val (.ref b1), .val (.ref b10_b1), .val (.ref b17_b4)] [(.int p3), (.int (p3.toInt8.toInt32))])) _
    refine XS.i2b X17.here hx rfl (hb hby at_166) rfl ?_
    show Steps p.tables e below (T17.setTop (mkF m 167 #[.val (.int p1), .val (.int p2), .val (.int p3), .val (.int p4), .val (.int p5), .val (.int p6), .val (.int (4 : Int32)), .val (.ref b1), .val (.ref b10_b1), .val (.ref b17_b4)] [(.int (p3.toInt8.toInt32)), (.int (p3.toInt8.toInt32))])) _
    refine XS.icmpYes X17.here hx rfl (pc0 := 167) (pc' := 172) rfl (hb hby at_167) rfl (teq (rfl : (p3.toInt8.toInt32) = (p3.toInt8.toInt32))).1 (by decide) (by decide) ?_
    show Steps p.tables e below (T17.setTop (mkF m 172 #[.val (.int p1), .val (.int p2), .val (.int p3), .val (.int p4), .val (.int p5), .val (.int p6), .val (.int (4 : Int32)), .val (.ref b1), .val (.ref b10_b1), .val (.ref b17_b4)] [])) _
    refine XS.iload X17.here hx rfl (hb hby at_172) rfl ?_
    show Steps p.tables e below (T17.setTop (mkF m 174 #[.val (.int p1), .val (.int p2), .val (.int p3), .val (.int p4), .val (.int p5), .val (.int p6), .val (.int (4 : Int32)), .val (.ref b1), .val (.ref b10_b1), .val (.ref b17_b4)] [(.int (4 : Int32))])) _
    refine XS.iconst X17.here hx rfl (hb hby at_174) ?_
    show Steps p.tables e below (T17.setTop (mkF m 175 #[.val (.int p1), .val (.int p2), .val (.int p3), .val (.int p4), .val (.int p5), .val (.int p6), .val (.int (4 : Int32)), .val (.ref b1), .val (.ref b10_b1), .val (.ref b17_b4)] [(.int (2 : Int32)), (.int (4 : Int32))])) _
    refine XS.icmpNo X17.here hx rfl (hb hby at_175) rfl (tlt ((by decide) : (2 : Int32) < (4 : Int32))).2.2.2 ?_
    show Steps p.tables e below (T17.setTop (mkF m 178 #[.val (.int p1), .val (.int p2), .val (.int p3), .val (.int p4), .val (.int p5), .val (.int p6), .val (.int (4 : Int32)), .val (.ref b1), .val (.ref b10_b1), .val (.ref b17_b4)] [])) _
    refine XS.aload X17.here hx rfl (hb hby at_178) rfl rfl ?_
    show Steps p.tables e below (T17.setTop (mkF m 180 #[.val (.int p1), .val (.int p2), .val (.int p3), .val (.int p4), .val (.int p5), .val (.int p6), .val (.int (4 : Int32)), .val (.ref b1), .val (.ref b10_b1), .val (.ref b17_b4)] [(.ref b17_b4)])) _
    refine XS.iconst X17.here hx rfl (hb hby at_180) ?_
    show Steps p.tables e below (T17.setTop (mkF m 181 #[.val (.int p1), .val (.int p2), .val (.int p3), .val (.int p4), .val (.int p5), .val (.int p6), .val (.int (4 : Int32)), .val (.ref b1), .val (.ref b10_b1), .val (.ref b17_b4)] [(.int (2 : Int32)), (.ref b17_b4)])) _
    refine X17.baloadBytes hx (j := (2 : Int32)) (v := (.int (p4.toInt8.toInt32))) Ar21.1 (State.isArrayOf_alike hZ.alike Ar21.2.1) Ar21.2.2 hin21 hat21 (g := (mkF m 181 #[.val (.int p1), .val (.int p2), .val (.int p3), .val (.int p4), .val (.int p5), .val (.int p6), .val (.int (4 : Int32)), .val (.ref b1), .val (.ref b10_b1), .val (.ref b17_b4)] [(.int (2 : Int32)), (.ref b17_b4)])) rfl rfl (hb hby at_181) _ ?_
    show Steps p.tables e below (T17.setTop (mkF m 182 #[.val (.int p1), .val (.int p2), .val (.int p3), .val (.int p4), .val (.int p5), .val (.int p6), .val (.int (4 : Int32)), .val (.ref b1), .val (.ref b10_b1), .val (.ref b17_b4)] [(.int (p4.toInt8.toInt32))])) _
    refine XS.iloadN X17.here hx rfl (hb hby at_182) rfl ?_
    show Steps p.tables e below (T17.setTop (mkF m 183 #[.val (.int p1), .val (.int p2), .val (.int p3), .val (.int p4), .val (.int p5), .val (.int p6), .val (.int (4 : Int32)), .val (.ref b1), .val (.ref b10_b1), .val (.ref b17_b4)] [(.int p4), (.int (p4.toInt8.toInt32))])) _
    refine XS.i2b X17.here hx rfl (hb hby at_183) rfl ?_
    show Steps p.tables e below (T17.setTop (mkF m 184 #[.val (.int p1), .val (.int p2), .val (.int p3), .val (.int p4), .val (.int p5), .val (.int p6), .val (.int (4 : Int32)), .val (.ref b1), .val (.ref b10_b1), .val (.ref b17_b4)] [(.int (p4.toInt8.toInt32)), (.int (p4.toInt8.toInt32))])) _
    refine XS.icmpYes X17.here hx rfl (pc0 := 184) (pc' := 189) rfl (hb hby at_184) rfl (teq (rfl : (p4.toInt8.toInt32) = (p4.toInt8.toInt32))).1 (by decide) (by decide) ?_
    show Steps p.tables e below (T17.setTop (mkF m 189 #[.val (.int p1), .val (.int p2), .val (.int p3), .val (.int p4), .val (.int p5), .val (.int p6), .val (.int (4 : Int32)), .val (.ref b1), .val (.ref b10_b1), .val (.ref b17_b4)] [])) _
    refine XS.iload X17.here hx rfl (hb hby at_189) rfl ?_
    show Steps p.tables e below (T17.setTop (mkF m 191 #[.val (.int p1), .val (.int p2), .val (.int p3), .val (.int p4), .val (.int p5), .val (.int p6), .val (.int (4 : Int32)), .val (.ref b1), .val (.ref b10_b1), .val (.ref b17_b4)] [(.int (4 : Int32))])) _
    refine XS.iconst X17.here hx rfl (hb hby at_191) ?_
    show Steps p.tables e below (T17.setTop (mkF m 192 #[.val (.int p1), .val (.int p2), .val (.int p3), .val (.int p4), .val (.int p5), .val (.int p6), .val (.int (4 : Int32)), .val (.ref b1), .val (.ref b10_b1), .val (.ref b17_b4)] [(.int (3 : Int32)), (.int (4 : Int32))])) _
    refine XS.icmpNo X17.here hx rfl (hb hby at_192) rfl (tlt ((by decide) : (3 : Int32) < (4 : Int32))).2.2.2 ?_
    show Steps p.tables e below (T17.setTop (mkF m 195 #[.val (.int p1), .val (.int p2), .val (.int p3), .val (.int p4), .val (.int p5), .val (.int p6), .val (.int (4 : Int32)), .val (.ref b1), .val (.ref b10_b1), .val (.ref b17_b4)] [])) _
    refine XS.aload X17.here hx rfl (hb hby at_195) rfl rfl ?_
    show Steps p.tables e below (T17.setTop (mkF m 197 #[.val (.int p1), .val (.int p2), .val (.int p3), .val (.int p4), .val (.int p5), .val (.int p6), .val (.int (4 : Int32)), .val (.ref b1), .val (.ref b10_b1), .val (.ref b17_b4)] [(.ref b17_b4)])) _
    refine XS.iconst X17.here hx rfl (hb hby at_197) ?_
    show Steps p.tables e below (T17.setTop (mkF m 198 #[.val (.int p1), .val (.int p2), .val (.int p3), .val (.int p4), .val (.int p5), .val (.int p6), .val (.int (4 : Int32)), .val (.ref b1), .val (.ref b10_b1), .val (.ref b17_b4)] [(.int (3 : Int32)), (.ref b17_b4)])) _
    refine X17.baloadBytes hx (j := (3 : Int32)) (v := (.int (p5.toInt8.toInt32))) Ar22.1 (State.isArrayOf_alike hZ.alike Ar22.2.1) Ar22.2.2 hin22 hat22 (g := (mkF m 198 #[.val (.int p1), .val (.int p2), .val (.int p3), .val (.int p4), .val (.int p5), .val (.int p6), .val (.int (4 : Int32)), .val (.ref b1), .val (.ref b10_b1), .val (.ref b17_b4)] [(.int (3 : Int32)), (.ref b17_b4)])) rfl rfl (hb hby at_198) _ ?_
    show Steps p.tables e below (T17.setTop (mkF m 199 #[.val (.int p1), .val (.int p2), .val (.int p3), .val (.int p4), .val (.int p5), .val (.int p6), .val (.int (4 : Int32)), .val (.ref b1), .val (.ref b10_b1), .val (.ref b17_b4)] [(.int (p5.toInt8.toInt32))])) _
    refine XS.iload X17.here hx rfl (hb hby at_199) rfl ?_
    show Steps p.tables e below (T17.setTop (mkF m 201 #[.val (.int p1), .val (.int p2), .val (.int p3), .val (.int p4), .val (.int p5), .val (.int p6), .val (.int (4 : Int32)), .val (.ref b1), .val (.ref b10_b1), .val (.ref b17_b4)] [(.int p5), (.int (p5.toInt8.toInt32))])) _
    refine XS.i2b X17.here hx rfl (hb hby at_201) rfl ?_
    show Steps p.tables e below (T17.setTop (mkF m 202 #[.val (.int p1), .val (.int p2), .val (.int p3), .val (.int p4), .val (.int p5), .val (.int p6), .val (.int (4 : Int32)), .val (.ref b1), .val (.ref b10_b1), .val (.ref b17_b4)] [(.int (p5.toInt8.toInt32)), (.int (p5.toInt8.toInt32))])) _
    refine XS.icmpYes X17.here hx rfl (pc0 := 202) (pc' := 207) rfl (hb hby at_202) rfl (teq (rfl : (p5.toInt8.toInt32) = (p5.toInt8.toInt32))).1 (by decide) (by decide) ?_
    show Steps p.tables e below (T17.setTop (mkF m 207 #[.val (.int p1), .val (.int p2), .val (.int p3), .val (.int p4), .val (.int p5), .val (.int p6), .val (.int (4 : Int32)), .val (.ref b1), .val (.ref b10_b1), .val (.ref b17_b4)] [])) _
    refine XS.iconst X17.here hx rfl (hb hby at_207) ?_
    show Steps p.tables e below (T17.setTop (mkF m 208 #[.val (.int p1), .val (.int p2), .val (.int p3), .val (.int p4), .val (.int p5), .val (.int p6), .val (.int (4 : Int32)), .val (.ref b1), .val (.ref b10_b1), .val (.ref b17_b4)] [(.int (1 : Int32))])) _
    exact retN X17 hx (t := .boolean) Bd.returns (by simp) (hb hby at_208) hr
  · show Q0 n0 _ T17.heap _
    exact ⟨rfl, N17⟩
theorem rm0 (l : Launch) (Z : State) (a0 : Array Value) (hw : ∀ d ∈ tables_1, d.before a0 Z = true) (ws : List Jvm.Cond) {w_n1 : Addr} {w_n0 : Addr} {k_n0 : ClassId} (W : Wd Z w_n1 w_n0 k_n0) (p1 : Int32) (p2 : Int32) (p3 : Int32) (p4 : Int32) (p5 : Int32) (p6 : Int32) (h0 : Heap) (n0 : Nat) (O0 : Old Z n0 h0) :
    MetFree l x (head1 (Jvm.Cond.code x code maxLocals ret :: ws) room_1) (fun a U => a = #[(.int p1), (.int p2), (.int p3), (.int p4), (.int p5), (.int p6)] ∧ Z.Warmed39 U.vm ∧ U.heap = h0) (fun _ _ _ _ _ => True) (fun _ U o U' => ∃ v L, o = .returned v ∧ Q0 n0 v U'.heap L ∧ FrameEnd U o U' L room_1.cells room_1.slots) := by
  have e : (p1 &&& (2147483647 : Int32)).toInt = p1.toInt % (2 ^ 31 : Nat) := c_mask p1 2147483647 31 (by decide) (by decide)
  have r := (c_irem (p1 &&& (2147483647 : Int32)) (5 : Int32) 5 rfl).1 (by rw [e]; omega)
  have c : ((p1 &&& (2147483647 : Int32)) % (5 : Int32)) = (0 : Int32) ∨ ((p1 &&& (2147483647 : Int32)) % (5 : Int32)) = (1 : Int32) ∨ ((p1 &&& (2147483647 : Int32)) % (5 : Int32)) = (2 : Int32) ∨ ((p1 &&& (2147483647 : Int32)) % (5 : Int32)) = (3 : Int32) ∨ ((p1 &&& (2147483647 : Int32)) % (5 : Int32)) = (4 : Int32) := by
    simp only [← Int32.toInt_inj]
    have q0 : (0 : Int32).toInt = 0 := rfl
    have q1 : (1 : Int32).toInt = 1 := rfl
    have q2 : (2 : Int32).toInt = 2 := rfl
    have q3 : (3 : Int32).toInt = 3 := rfl
    have q4 : (4 : Int32).toInt = 4 := rfl
    omega
  rcases c with h | h | h | h | h
  · exact rm0_00 l Z a0 hw ws W p1 p2 p3 p4 p5 p6 h0 n0 O0 h
  · have e' : (p6 &&& (2147483647 : Int32)).toInt = p6.toInt % (2 ^ 31 : Nat) := c_mask p6 2147483647 31 (by decide) (by decide)
    have r' := (c_irem (p6 &&& (2147483647 : Int32)) (1 : Int32) 1 rfl).1 (by rw [e']; omega)
    have c' : ((p6 &&& (2147483647 : Int32)) % (1 : Int32)) = (0 : Int32) := by
      simp only [← Int32.toInt_inj]
      have q0 : (0 : Int32).toInt = 0 := rfl
      omega
    have h' := c'
    · exact rm0_10 l Z a0 hw ws W p1 p2 p3 p4 p5 p6 h0 n0 O0 h h'
  · have e' : (p6 &&& (2147483647 : Int32)).toInt = p6.toInt % (2 ^ 31 : Nat) := c_mask p6 2147483647 31 (by decide) (by decide)
    have r' := (c_irem (p6 &&& (2147483647 : Int32)) (2 : Int32) 2 rfl).1 (by rw [e']; omega)
    have c' : ((p6 &&& (2147483647 : Int32)) % (2 : Int32)) = (0 : Int32) ∨ ((p6 &&& (2147483647 : Int32)) % (2 : Int32)) = (1 : Int32) := by
      simp only [← Int32.toInt_inj]
      have q0 : (0 : Int32).toInt = 0 := rfl
      have q1 : (1 : Int32).toInt = 1 := rfl
      omega
    rcases c' with h' | h'
    · exact rm0_20 l Z a0 hw ws W p1 p2 p3 p4 p5 p6 h0 n0 O0 h h'
    · exact rm0_21 l Z a0 hw ws W p1 p2 p3 p4 p5 p6 h0 n0 O0 h h'
  · have e' : (p6 &&& (2147483647 : Int32)).toInt = p6.toInt % (2 ^ 31 : Nat) := c_mask p6 2147483647 31 (by decide) (by decide)
    have r' := (c_irem (p6 &&& (2147483647 : Int32)) (3 : Int32) 3 rfl).1 (by rw [e']; omega)
    have c' : ((p6 &&& (2147483647 : Int32)) % (3 : Int32)) = (0 : Int32) ∨ ((p6 &&& (2147483647 : Int32)) % (3 : Int32)) = (1 : Int32) ∨ ((p6 &&& (2147483647 : Int32)) % (3 : Int32)) = (2 : Int32) := by
      simp only [← Int32.toInt_inj]
      have q0 : (0 : Int32).toInt = 0 := rfl
      have q1 : (1 : Int32).toInt = 1 := rfl
      have q2 : (2 : Int32).toInt = 2 := rfl
      omega
    rcases c' with h' | h' | h'
    · exact rm0_30 l Z a0 hw ws W p1 p2 p3 p4 p5 p6 h0 n0 O0 h h'
    · exact rm0_31 l Z a0 hw ws W p1 p2 p3 p4 p5 p6 h0 n0 O0 h h'
    · exact rm0_32 l Z a0 hw ws W p1 p2 p3 p4 p5 p6 h0 n0 O0 h h'
  · have e' : (p6 &&& (2147483647 : Int32)).toInt = p6.toInt % (2 ^ 31 : Nat) := c_mask p6 2147483647 31 (by decide) (by decide)
    have r' := (c_irem (p6 &&& (2147483647 : Int32)) (4 : Int32) 4 rfl).1 (by rw [e']; omega)
    have c' : ((p6 &&& (2147483647 : Int32)) % (4 : Int32)) = (0 : Int32) ∨ ((p6 &&& (2147483647 : Int32)) % (4 : Int32)) = (1 : Int32) ∨ ((p6 &&& (2147483647 : Int32)) % (4 : Int32)) = (2 : Int32) ∨ ((p6 &&& (2147483647 : Int32)) % (4 : Int32)) = (3 : Int32) := by
      simp only [← Int32.toInt_inj]
      have q0 : (0 : Int32).toInt = 0 := rfl
      have q1 : (1 : Int32).toInt = 1 := rfl
      have q2 : (2 : Int32).toInt = 2 := rfl
      have q3 : (3 : Int32).toInt = 3 := rfl
      omega
    rcases c' with h' | h' | h' | h'
    · exact rm0_40 l Z a0 hw ws W p1 p2 p3 p4 p5 p6 h0 n0 O0 h h'
    · exact rm0_41 l Z a0 hw ws W p1 p2 p3 p4 p5 p6 h0 n0 O0 h h'
    · exact rm0_42 l Z a0 hw ws W p1 p2 p3 p4 p5 p6 h0 n0 O0 h h'
    · exact rm0_43 l Z a0 hw ws W p1 p2 p3 p4 p5 p6 h0 n0 O0 h h'
set_option maxRecDepth 65536 in
set_option maxHeartbeats 40000000 in
theorem comes_1 {Post : Tables → Env → Array Value → State → Outcome → State → Prop} (hpost : ∀ tb e args s v u, (limb_1_1.after args s (.returned v) u = true ∧ limb_1_2.after args s (.returned v) u = true ∧ True) → FrameEnd s (.returned v) u (Jvm.fieldLocs frame_1_writes args s ++ Jvm.arrayLocs frame_1_arrays args s ++ Jvm.staticLocs frame_1_statics s) 16 128 → Post tb e args s (.returned v) u) :
    ArmFor flags0 classFile x code maxLocals ret World_1 tables_1 room_1 Calls_1 rest_1 Pre_1 Post := by
  intro l hfl _ _ p e ha hc hk s m args below hf hA hF happ hP
  obtain ⟨hcalls, hrest, hpre⟩ := hP
  obtain ⟨-, -, -, hnamed, -, -, -, hat⟩ := (Spec.applies_iff hf).mp happ
  obtain ⟨hg, hn⟩ := and_e (Cond.before_iff.mp (show (Jvm.Cond.and given_1 narrow_1).before args s = true from hpre))
  obtain ⟨g0, r0⟩ := and_e hg
  obtain ⟨g1, r1⟩ := and_e r0
  obtain ⟨g2, r2⟩ := and_e r1
  obtain ⟨g3, r3⟩ := and_e r2
  obtain ⟨g4, r4⟩ := and_e r3
  obtain ⟨g5, r5⟩ := and_e r4
  have g6 := r5
  obtain ⟨w0, w1, w2, w3, w4, w5, rfl⟩ : ∃ w0 w1 w2 w3 w4 w5 : Value, args = #[w0, w1, w2, w3, w4, w5] := by
    have hs : args.size = 6 := by simpa [Cond.value, given_1] using g0
    obtain ⟨L⟩ := args
    match L, hs with
    | [w0, w1, w2, w3, w4, w5], _ => exact ⟨w0, w1, w2, w3, w4, w5, rfl⟩
  have hw := fun d (hd : d ∈ tables_1) => atoms_spec (ws := Jvm.Cond.code x code maxLocals ret :: tables_1) hat d (List.mem_cons_of_mem _ hd)
  have hfit : Fit s := fun {y c} hc i hi => by
    obtain ⟨ha, rfl⟩ := Array.getElem?_eq_some_iff.mp hc
    have q := List.all_eq_true.mp ((Array.all_eq_true_iff_forall_mem.mp hF) _ (Array.getElem_mem ha)) i (List.mem_range.mpr hi)
    simpa [Array.getElem?_eq_getElem hi] using q
  obtain ⟨i0, ei0⟩ := is_v g1
  obtain rfl : w0 = (.int i0) := Option.some.inj ei0
  obtain ⟨i1, ei1⟩ := is_v g2
  obtain rfl : w1 = (.int i1) := Option.some.inj ei1
  obtain ⟨i2, ei2⟩ := is_v g3
  obtain rfl : w2 = (.int i2) := Option.some.inj ei2
  obtain ⟨i3, ei3⟩ := is_v g4
  obtain rfl : w3 = (.int i3) := Option.some.inj ei3
  obtain ⟨i4, ei4⟩ := is_v g5
  obtain rfl : w4 = (.int i4) := Option.some.inj ei4
  obtain ⟨i5, ei5⟩ := is_v g6
  obtain rfl : w5 = (.int i5) := Option.some.inj ei5
  obtain ⟨w_n1, w_n0, k_n0, W⟩ := wd_start hfit hw hn
  obtain ⟨n, o, h1, h2, h3, _, L, rfl, ⟨rfl, N⟩, hq⟩ := rm0 l s _ hw tables_1 W i0 i1 i2 i3 i4 i5 s.heap s.heap.size (Old.start s) p e ha hc hk s m _ below hf ((Spec.applies_iff_loose hf).mp happ).1 ⟨rfl, State.Warmed39.refl s, rfl⟩ trivial
  refine ⟨n, _, h1, h2, h3, hpost _ _ _ _ _ _ ⟨Cond.after_iff.mpr rfl, Cond.after_iff.mpr (eq_i res_at (Term.int_eval (1)) rfl), trivial⟩ ⟨hq.1, hq.2.1, (hq.2.2.sift fun y hy => Or.inr (N y hy)).mono (by decide) (by decide)⟩⟩
theorem main_1_1 : Claimed_1_1 := comes_1 fun _ _ _ _ _ _ h hF => ⟨h.1, hF⟩
theorem main_1_2 : Claimed_1_2 := comes_1 fun _ _ _ _ _ _ h hF => ⟨h.2.1, hF⟩
end Jvm.Pilot.@@N@@
namespace Jvm.Pilot.@@N@@
open Jvm Jvm.ClassFile Sem Op Lib Jvm.Free Jvm.Stand Jvm.Pilot.@@N@@.Jvm.D
/-! MADE BY PROGRAM (witnessworld.py) out of the Statement's table words and the real class files: 14 classes; the members and pool entries that the words name. The judged class is class 1, her method 1. -/
namespace start1
open Jvm.ClassFile
def u (s : String) : CpInfo := .utf8 (stringToUtf16 s)
/-- a pool by its gaps: so many unusable entries, then the entry; so many at the end -/
def gap : Nat → List CpInfo → List CpInfo
  | 0, r => r
  | n + 1, r => .unusable :: gap n r
def poolList (es : List (Nat × CpInfo)) (last : Nat) : List CpInfo := es.foldr (fun e r => gap e.1 (e.2 :: r)) (gap last [])
def pool (es : List (Nat × CpInfo)) (last : Nat) : Array CpInfo := ⟨poolList es last⟩
def fileOf (pool : Array CpInfo) (this : Nat) (attrs : Array Attribute := #[]) (ms : Array MethodInfo := #[]) (fl : Nat := 33) (sup : Nat := 0) (ifs : Array Nat := #[]) (fds : Array FieldInfo := #[]) : ClassFile where
  minorVersion := 0
  majorVersion := 65
  constantPool := pool
  accessFlags := fl
  thisClass := this
  superClass := sup
  interfaces := ifs
  fields := fds
  methods := ms
  attributes := attrs
def plain (name : String) (sup : Option ClassId) : Class where
  name := name
  kind := .ordinary
  loader := none
  accessFlags := 33
  super := sup
  interfaces := #[]
  cf := none
  fields := #[]
  methods := #[]
  instanceTypes := #[]
  staticTypes := #[]
  resolved := #[]
  callSites := []
  init := .initialized
  statics := none
  mirror := none

def pool0 : Array CpInfo := pool [(5, u "<init>"), (0, u "()V"), (1, .class_ 10), (1, u "java/lang/Object"), (85, u "clone"), (0, u "()Ljava/lang/Object;")] 26

def k0c0 : Code := { maxStack := 0, maxLocals := 1, code := object_method_1_code, exceptionTable := #[], attributes := #[] }
def k0m0 : Method := { name := "<init>", desc := "()V", sig := { parameters := [], returnType := none }, accessFlags := 1, code := some k0c0 }
def k0m1 : Method := { name := "clone", desc := "()Ljava/lang/Object;", sig := { parameters := [], returnType := some (.object "java/lang/Object") }, accessFlags := 260, code := none }
/-- java/lang/Object -/
def k0 : Class := { plain "java/lang/Object" none with
  accessFlags := 33
  interfaces := #[]
  cf := some (fileOf pool0 8 #[] #[{ accessFlags := 1, nameIndex := 5, descriptorIndex := 6, attributes := #[] }, { accessFlags := 260, nameIndex := 96, descriptorIndex := 97, attributes := #[] }] 33 0 #[] #[])
  fields := #[]
  methods := #[k0m0, k0m1]
  instanceTypes := #[]
  staticTypes := #[]
  resolved := Array.replicate 124 none
  statics := none }

def pool1 : Array CpInfo := pool [(2, .class_ 4), (1, u "java/lang/Object"), (0, u "<init>"), (0, u "()V"), (0, .integer 2147483647), (0, .methodref 9 10), (0, .class_ 11), (0, .nameAndType 12 13), (0, u "com/example/keyfold/keyfold/core/Value"), (0, u "ofBinary"), (0, u "([B)Lcom/example/keyfold/keyfold/core/Value;"), (0, .methodref 9 15), (0, .nameAndType 16 17), (0, u "type"), (0, u "()Lcom/example/keyfold/keyfold/core/ValueType;"), (0, .fieldref 19 20), (0, .class_ 21), (0, .nameAndType 22 23), (0, u "com/example/keyfold/keyfold/core/ValueType"), (0, u "BINARY"), (0, u "Lcom/example/keyfold/keyfold/core/ValueType;"), (0, .methodref 9 25), (0, .nameAndType 26 27), (0, u "size"), (0, u "()I"), (0, .methodref 9 29), (0, .nameAndType 30 31), (0, u "asBinary"), (0, u "()[B"), (0, .class_ 33), (0, u "com/example/keyfold/keyfold/core/ValueOfBinary193PinLaw"), (2, u "law"), (0, u "(IIIIII)Z")] 5

def k1m0 : Method := { name := "<init>", desc := "()V", sig := { parameters := [], returnType := none }, accessFlags := 2, code := none }
def k1c1 : Code := { maxStack := 4, maxLocals := 10, code := code, exceptionTable := #[], attributes := #[] }
def k1m1 : Method := { name := "law", desc := "(IIIIII)Z", sig := { parameters := [.int, .int, .int, .int, .int, .int], returnType := some .boolean }, accessFlags := 9, code := some k1c1 }
/-- com/example/keyfold/keyfold/core/ValueOfBinary193PinLaw -/
def k1 : Class := { plain "com/example/keyfold/keyfold/core/ValueOfBinary193PinLaw" (some 0) with
  accessFlags := 49
  interfaces := #[]
  cf := some (fileOf pool1 32 #[] #[{ accessFlags := 2, nameIndex := 5, descriptorIndex := 6, attributes := #[] }, { accessFlags := 9, nameIndex := 36, descriptorIndex := 37, attributes := #[] }] 49 2 #[] #[])
  fields := #[]
  methods := #[k1m0, k1m1]
  instanceTypes := #[]
  staticTypes := #[]
  resolved := Array.replicate 43 none
  statics := none }

def pool2 : Array CpInfo := pool [(1, .class_ 2), (0, u "java/lang/Comparable"), (0, .class_ 4), (0, u "java/lang/Object")] 7

/-- java/lang/Comparable -/
def k2 : Class := { plain "java/lang/Comparable" (some 0) with
  accessFlags := 1537
  interfaces := #[]
  cf := some (fileOf pool2 1 #[] #[] 1537 3 #[] #[])
  fields := #[]
  methods := #[]
  instanceTypes := #[]
  staticTypes := #[]
  resolved := Array.replicate 12 none
  statics := none }

def pool3 : Array CpInfo := pool [(1, .methodref 2 3), (0, .class_ 4), (0, .nameAndType 5 6), (0, u "java/lang/Object"), (0, u "<init>"), (0, u "()V"), (0, .fieldref 8 9), (0, .class_ 10), (0, .nameAndType 11 12), (0, u "com/example/keyfold/keyfold/core/Value"), (0, u "type"), (0, u "Lcom/example/keyfold/keyfold/core/ValueType;"), (0, .fieldref 8 14), (0, .nameAndType 15 16), (0, u "content"), (0, u "Ljava/lang/Object;"), (1, .class_ 20), (1, u "com/example/keyfold/keyfold/core/ValueType"), (9, .methodref 8 31), (0, .nameAndType 5 32), (0, u "(Lcom/example/keyfold/keyfold/core/ValueType;Ljava/lang/Object;)V"), (44, .fieldref 18 78), (0, .nameAndType 79 12), (0, u "BINARY"), (0, .methodref 81 82), (0, .class_ 83), (0, .nameAndType 84 85), (0, u "[B"), (0, u "clone"), (0, u "()Ljava/lang/Object;"), (0, .methodref 8 87), (0, .nameAndType 88 89), (0, u "contentOf"), (0, u "(Lcom/example/keyfold/keyfold/core/ValueType;)Ljava/lang/Object;"), (14, .fieldref 105 106), (0, .class_ 107), (0, .nameAndType 108 109), (0, u "com/example/keyfold/keyfold/core/Value$1"), (0, u "$SwitchMap$com$example$keyfold$keyfold$core$ValueType"), (0, u "[I"), (0, .methodref 18 111), (0, .nameAndType 112 113), (0, u "ordinal"), (0, u "()I"), (72, .class_ 187), (0, u "java/lang/Comparable"), (11, u "ofBinary"), (0, u "([B)Lcom/example/keyfold/keyfold/core/Value;"), (0, u "()Lcom/example/keyfold/keyfold/core/ValueType;"), (4, u "asBinary"), (0, u "()[B"), (0, u "size")] 31

def k3c0 : Code := { maxStack := 2, maxLocals := 3, code := prog_50_method_1_code, exceptionTable := #[], attributes := #[] }
def k3m0 : Method := { name := "<init>", desc := "(Lcom/example/keyfold/keyfold/core/ValueType;Ljava/lang/Object;)V", sig := { parameters := [(.object "com/example/keyfold/keyfold/core/ValueType"), (.object "java/lang/Object")], returnType := none }, accessFlags := 2, code := some k3c0 }
def k3c1 : Code := { maxStack := 4, maxLocals := 1, code := prog_50_method_6_code, exceptionTable := #[], attributes := #[] }
def k3m1 : Method := { name := "ofBinary", desc := "([B)Lcom/example/keyfold/keyfold/core/Value;", sig := { parameters := [(.array .byte)], returnType := some (.object "com/example/keyfold/keyfold/core/Value") }, accessFlags := 9, code := some k3c1 }
def k3c2 : Code := { maxStack := 1, maxLocals := 1, code := prog_50_method_7_code, exceptionTable := #[], attributes := #[] }
def k3m2 : Method := { name := "type", desc := "()Lcom/example/keyfold/keyfold/core/ValueType;", sig := { parameters := [], returnType := some (.object "com/example/keyfold/keyfold/core/ValueType") }, accessFlags := 1, code := some k3c2 }
def k3c3 : Code := { maxStack := 2, maxLocals := 1, code := prog_50_method_12_code, exceptionTable := #[], attributes := #[] }
def k3m3 : Method := { name := "asBinary", desc := "()[B", sig := { parameters := [], returnType := some (.array .byte) }, accessFlags := 1, code := some k3c3 }
def k3c4 : Code := { maxStack := 4, maxLocals := 1, code := prog_50_method_13_code, exceptionTable := #[], attributes := #[] }
def k3m4 : Method := { name := "size", desc := "()I", sig := { parameters := [], returnType := some .int }, accessFlags := 0, code := some k3c4 }
def k3c5 : Code := { maxStack := 4, maxLocals := 2, code := prog_50_method_14_code, exceptionTable := #[], attributes := #[] }
def k3m5 : Method := { name := "contentOf", desc := "(Lcom/example/keyfold/keyfold/core/ValueType;)Ljava/lang/Object;", sig := { parameters := [(.object "com/example/keyfold/keyfold/core/ValueType")], returnType := some (.object "java/lang/Object") }, accessFlags := 2, code := some k3c5 }
/-- com/example/keyfold/keyfold/core/Value -/
def k3 : Class := { plain "com/example/keyfold/keyfold/core/Value" (some 0) with
  accessFlags := 49
  interfaces := #[2]
  cf := some (fileOf pool3 8 #[.nestMembers #[105]] #[{ accessFlags := 2, nameIndex := 5, descriptorIndex := 32, attributes := #[] }, { accessFlags := 9, nameIndex := 199, descriptorIndex := 200, attributes := #[] }, { accessFlags := 1, nameIndex := 11, descriptorIndex := 201, attributes := #[] }, { accessFlags := 1, nameIndex := 206, descriptorIndex := 207, attributes := #[] }, { accessFlags := 0, nameIndex := 208, descriptorIndex := 113, attributes := #[] }, { accessFlags := 2, nameIndex := 88, descriptorIndex := 89, attributes := #[] }] 49 2 #[186] #[{ accessFlags := 18, nameIndex := 11, descriptorIndex := 12, attributes := #[] }, { accessFlags := 18, nameIndex := 15, descriptorIndex := 16, attributes := #[] }])
  fields := #[{ name := "type", type := (.object "com/example/keyfold/keyfold/core/ValueType"), accessFlags := 18, slot := 0, constantValue := 0 }, { name := "content", type := (.object "java/lang/Object"), accessFlags := 18, slot := 1, constantValue := 0 }]
  methods := #[k3m0, k3m1, k3m2, k3m3, k3m4, k3m5]
  instanceTypes := #[(.object "com/example/keyfold/keyfold/core/ValueType"), (.object "java/lang/Object")]
  staticTypes := #[]
  resolved := Array.replicate 240 none
  statics := none }

def pool4 : Array CpInfo := pool [(1, .class_ 2), (0, u "java/lang/constant/Constable"), (0, .class_ 4), (0, u "java/lang/Object")] 6

/-- java/lang/constant/Constable -/
def k4 : Class := { plain "java/lang/constant/Constable" (some 0) with
  accessFlags := 1537
  interfaces := #[]
  cf := some (fileOf pool4 1 #[] #[] 1537 3 #[] #[])
  fields := #[]
  methods := #[]
  instanceTypes := #[]
  staticTypes := #[]
  resolved := Array.replicate 11 none
  statics := none }

def pool5 : Array CpInfo := pool [(1, .class_ 2), (0, u "java/io/Serializable"), (0, .class_ 4), (0, u "java/lang/Object")] 2

/-- java/io/Serializable -/
def k5 : Class := { plain "java/io/Serializable" (some 0) with
  accessFlags := 1537
  interfaces := #[]
  cf := some (fileOf pool5 1 #[] #[] 1537 3 #[] #[])
  fields := #[]
  methods := #[]
  instanceTypes := #[]
  staticTypes := #[]
  resolved := Array.replicate 7 none
  statics := none }

def pool6 : Array CpInfo := pool [(2, .class_ 4), (1, u "java/lang/Enum"), (0, u "name"), (0, u "Ljava/lang/String;"), (0, .fieldref 2 8), (0, .nameAndType 9 10), (0, u "ordinal"), (0, u "I"), (1, .class_ 14), (1, u "java/lang/Object"), (4, u "hash"), (86, .class_ 108), (1, u "java/lang/Enum$EnumDesc"), (2, .class_ 112), (0, u "java/lang/constant/Constable"), (0, .class_ 114), (0, u "java/lang/Comparable"), (0, .class_ 116), (0, u "java/io/Serializable"), (9, u "()I")] 77

def k6c0 : Code := { maxStack := 1, maxLocals := 1, code := jdk_37_method_2_code, exceptionTable := #[], attributes := #[] }
def k6m0 : Method := { name := "ordinal", desc := "()I", sig := { parameters := [], returnType := some .int }, accessFlags := 17, code := some k6c0 }
/-- java/lang/Enum -/
def k6 : Class := { plain "java/lang/Enum" (some 0) with
  accessFlags := 1057
  interfaces := #[4, 2, 5]
  cf := some (fileOf pool6 2 #[.nestMembers #[106]] #[{ accessFlags := 17, nameIndex := 9, descriptorIndex := 126, attributes := #[] }] 1057 12 #[111, 113, 115] #[{ accessFlags := 18, nameIndex := 5, descriptorIndex := 6, attributes := #[] }, { accessFlags := 18, nameIndex := 9, descriptorIndex := 10, attributes := #[] }, { accessFlags := 2, nameIndex := 19, descriptorIndex := 10, attributes := #[] }])
  fields := #[{ name := "name", type := (.object "java/lang/String"), accessFlags := 18, slot := 0, constantValue := 0 }, { name := "ordinal", type := .int, accessFlags := 18, slot := 1, constantValue := 0 }, { name := "hash", type := .int, accessFlags := 2, slot := 2, constantValue := 0 }]
  methods := #[k6m0]
  instanceTypes := #[(.object "java/lang/String"), .int, .int]
  staticTypes := #[]
  resolved := Array.replicate 204 none
  statics := none }

def pool7 : Array CpInfo := pool [(1, .class_ 2), (0, u "com/example/keyfold/keyfold/core/ValueType"), (2, u "STRING"), (0, u "Lcom/example/keyfold/keyfold/core/ValueType;"), (2, u "INTEGER"), (2, u "DOUBLE"), (2, u "BOOLEAN"), (2, u "BINARY"), (2, u "$VALUES"), (0, u "[Lcom/example/keyfold/keyfold/core/ValueType;"), (6, .class_ 31), (1, u "java/lang/Enum"), (8, u "keyType"), (0, u "Z")] 26

/-- com/example/keyfold/keyfold/core/ValueType -/
def k7 : Class := { plain "com/example/keyfold/keyfold/core/ValueType" (some 6) with
  accessFlags := 16433
  interfaces := #[]
  cf := some (fileOf pool7 1 #[] #[] 16433 29 #[] #[{ accessFlags := 16409, nameIndex := 5, descriptorIndex := 6, attributes := #[] }, { accessFlags := 16409, nameIndex := 9, descriptorIndex := 6, attributes := #[] }, { accessFlags := 16409, nameIndex := 12, descriptorIndex := 6, attributes := #[] }, { accessFlags := 16409, nameIndex := 15, descriptorIndex := 6, attributes := #[] }, { accessFlags := 16409, nameIndex := 18, descriptorIndex := 6, attributes := #[] }, { accessFlags := 18, nameIndex := 40, descriptorIndex := 41, attributes := #[] }, { accessFlags := 4122, nameIndex := 21, descriptorIndex := 22, attributes := #[] }])
  fields := #[{ name := "STRING", type := (.object "com/example/keyfold/keyfold/core/ValueType"), accessFlags := 16409, slot := 0, constantValue := 0 }, { name := "INTEGER", type := (.object "com/example/keyfold/keyfold/core/ValueType"), accessFlags := 16409, slot := 1, constantValue := 0 }, { name := "DOUBLE", type := (.object "com/example/keyfold/keyfold/core/ValueType"), accessFlags := 16409, slot := 2, constantValue := 0 }, { name := "BOOLEAN", type := (.object "com/example/keyfold/keyfold/core/ValueType"), accessFlags := 16409, slot := 3, constantValue := 0 }, { name := "BINARY", type := (.object "com/example/keyfold/keyfold/core/ValueType"), accessFlags := 16409, slot := 4, constantValue := 0 }, { name := "keyType", type := .boolean, accessFlags := 18, slot := 3, constantValue := 0 }, { name := "$VALUES", type := (.array (.object "com/example/keyfold/keyfold/core/ValueType")), accessFlags := 4122, slot := 5, constantValue := 0 }]
  methods := #[]
  instanceTypes := #[(.object "java/lang/String"), .int, .int, .boolean]
  staticTypes := #[(.object "com/example/keyfold/keyfold/core/ValueType"), (.object "com/example/keyfold/keyfold/core/ValueType"), (.object "com/example/keyfold/keyfold/core/ValueType"), (.object "com/example/keyfold/keyfold/core/ValueType"), (.object "com/example/keyfold/keyfold/core/ValueType"), (.array (.object "com/example/keyfold/keyfold/core/ValueType"))]
  resolved := Array.replicate 68 none
  statics := some 0 }

def pool8 : Array CpInfo := pool [(1, .class_ 2), (0, u "java/lang/Cloneable"), (0, .class_ 4), (0, u "java/lang/Object")] 2

/-- java/lang/Cloneable -/
def k8 : Class := { plain "java/lang/Cloneable" (some 0) with
  accessFlags := 1537
  interfaces := #[]
  cf := some (fileOf pool8 1 #[] #[] 1537 3 #[] #[])
  fields := #[]
  methods := #[]
  instanceTypes := #[]
  staticTypes := #[]
  resolved := Array.replicate 7 none
  statics := none }

def pool9 : Array CpInfo := pool [(8, .class_ 10), (1, u "com/example/keyfold/keyfold/core/Value$1"), (0, u "$SwitchMap$com$example$keyfold$keyfold$core$ValueType"), (0, u "[I"), (22, .class_ 36), (0, u "java/lang/Object"), (8, .class_ 46), (0, u "com/example/keyfold/keyfold/core/Value")] 2

/-- com/example/keyfold/keyfold/core/Value$1 -/
def k9 : Class := { plain "com/example/keyfold/keyfold/core/Value$1" (some 0) with
  accessFlags := 4128
  interfaces := #[]
  cf := some (fileOf pool9 8 #[.nestHost 45] #[] 4128 35 #[] #[{ accessFlags := 4120, nameIndex := 11, descriptorIndex := 12, attributes := #[] }])
  fields := #[{ name := "$SwitchMap$com$example$keyfold$keyfold$core$ValueType", type := (.array .int), accessFlags := 4120, slot := 0, constantValue := 0 }]
  methods := #[]
  instanceTypes := #[]
  staticTypes := #[(.array .int)]
  resolved := Array.replicate 49 none
  statics := some 1 }

/-- the primitive byte -/
def k10 : Class := { plain "byte" none with kind := .primitive 'B', accessFlags := 0x411 }
/-- [B -/
def k11 : Class := { plain "[B" (some 0) with kind := .array 10 .byte, interfaces := #[8, 5], accessFlags := 1041 }

/-- the primitive int -/
def k12 : Class := { plain "int" none with kind := .primitive 'I', accessFlags := 0x411 }
/-- [I -/
def k13 : Class := { plain "[I" (some 0) with kind := .array 12 .int, interfaces := #[8, 5], accessFlags := 1041 }

def heap : Heap := #[{ cls := 7, slots := #[.null, .null, .null, .null, .ref 2, .null], vm := .statics 7 },
  { cls := 9, slots := #[.ref 3], vm := .statics 9 },
  { cls := 7, slots := #[.null, .int 4, .int 0, .int 0], vm := .none },
  { cls := 13, slots := #[.int 1, .int 2, .int 3, .int 4, .int 5], vm := .none }]
def classes : Array Class := #[k0, k1, k2, k3, k4, k5, k6, k7, k8, k9, k10, k11, k12, k13]
def interned : List (Array UInt16 × Addr) := []
def slotsUsed : Nat := 16
def theMethod : MethodId := ⟨1, 1⟩
def args0 : Array Value := #[.int 3, .int 5, .int 300, .int 7, .int 9, .int 1]
def aboutOver (below : List Frame) : State where
  vm := { classes := classes, interned := interned.toArray }
  heap := heap
  slotsUsed := slotsUsed
  threads := #[{ frames := .invoking theMethod args0 :: below }]
def below0 : List Frame := [.native { method := ⟨0, 0⟩, args := #[] }]
def about1 : State := aboutOver below0
def p0 : Program := .bare "" "" ""
def e0 : Env := launch0.env 0 0 0
theorem w_frames : about1.frames = Frame.invoking theMethod args0 :: below0 := rfl
set_option maxRecDepth 65536 in
theorem w_args : argsFit about1.vm theMethod args0 = true := by decide +kernel
set_option maxRecDepth 65536 in
theorem w_heap : heapFits about1 = true := by decide +kernel
set_option maxRecDepth 65536 in
theorem w_runnable : about1.curStatus? = some .runnable := by decide +kernel
set_option maxRecDepth 65536 in
theorem w_alone : about1.alone = true := by decide +kernel
set_option maxRecDepth 65536 in
theorem w_named : about1.methodNamed? x = some theMethod := by decide +kernel
set_option maxRecDepth 65536 in
theorem w_hears : about1.hears theMethod below0 = true := by decide +kernel
set_option maxRecDepth 65536 in
theorem w_ripe : about1.ripe theMethod args0 below0 = true := by decide +kernel
theorem w_running : about1.status = .running := rfl
set_option maxRecDepth 65536 in
theorem w_room : about1.hasRoom e0.platform room_1 = true :=
  launch0.hasRoom_least _ room_1 (by decide +kernel) (by decide +kernel) (by decide +kernel) (by decide +kernel) (by decide +kernel) (by decide +kernel)
theorem allAtoms_all (ts : List Jvm.Cond) (a : Array Jvm.Value) (st : Jvm.State) : (allAtoms ts).before a st = ts.all (fun c => c.before a st) := by
  induction ts with
  | nil => rfl
  | cons c t ih =>
    show (Jvm.Cond.and c (allAtoms t)).before a st = _
    rw [Jvm.Cond.before_and, ih, List.all_cons]
def words1 : List Jvm.Cond := Jvm.Cond.code x code maxLocals ret :: tables_1
/-- a 'code' word, met by the world's own term for the bytes: nothing is compared byte by byte -/
theorem code_word {y : MethodName} {bytes : ByteArray} {mx : Nat} {rt : Option FieldType} {a : Array Value} {s : State} {m : MethodId} {meth : Method} {c : Code} (h1 : s.methodNamed? y = some m) (h2 : s.vm.method? m = some meth) (h3 : meth.code = some c) (h4 : c.code = bytes)
    (h5 : (c.maxLocals == mx && c.exceptionTable.isEmpty && decide (c.maxStack ≤ mostOperands) && decide (meth.sig.returnType = rt) && !meth.locks && decide (parseMethodDescriptor y.desc = some meth.sig)) = true) : (Jvm.Cond.code y bytes mx rt).before a s = true := by
  simp only [Bool.and_eq_true, beq_iff_eq, Bool.not_eq_true', decide_eq_true_eq] at h5
  obtain ⟨⟨⟨⟨⟨g1, g2⟩, g3⟩, g4⟩, g5⟩, g6⟩ := h5
  simp [Cond.before, Cond.holds, Cond.value, h1, h2, h3, h4, g1, g2, g3, g4, g5, g6]
def isCode : Jvm.Cond → Bool
  | .code _ _ _ _ => true
  | _ => false
theorem all_split {L : List Jvm.Cond} {P : Jvm.Cond → Bool} (h1 : L.all (fun c => isCode c || P c) = true) (h2 : ∀ c ∈ L.filter isCode, P c = true) : L.all P = true := by
  refine List.all_eq_true.mpr fun c hc => ?_
  have h := List.all_eq_true.mp h1 c hc
  rcases Bool.eq_false_or_eq_true (isCode c) with hi | hi
  · exact h2 c (List.mem_filter.mpr ⟨hc, hi⟩)
  · simpa [hi] using h
set_option maxRecDepth 65536 in
theorem w_c0 : (Jvm.Cond.code x code maxLocals ret).before args0 about1 = true := code_word (m := ⟨1, 1⟩) (meth := k1m1) (c := k1c1) (by decide +kernel) rfl rfl rfl (by decide +kernel)
set_option maxRecDepth 65536 in
theorem w_c1 : (Jvm.Cond.code ({ cls := "com/example/keyfold/keyfold/core/Value", name := "ofBinary", desc := "([B)Lcom/example/keyfold/keyfold/core/Value;" } : Jvm.MethodName) prog_50_method_6_code (1 : Nat) (Option.some (Jvm.ClassFile.FieldType.object "com/example/keyfold/keyfold/core/Value"))).before args0 about1 = true := code_word (m := ⟨3, 1⟩) (meth := k3m1) (c := k3c1) (by decide +kernel) rfl rfl rfl (by decide +kernel)
set_option maxRecDepth 65536 in
theorem w_c2 : (Jvm.Cond.code ({ cls := "com/example/keyfold/keyfold/core/Value", name := "<init>", desc := "(Lcom/example/keyfold/keyfold/core/ValueType;Ljava/lang/Object;)V" } : Jvm.MethodName) prog_50_method_1_code (3 : Nat) (Option.none : Option Jvm.ClassFile.FieldType)).before args0 about1 = true := code_word (m := ⟨3, 0⟩) (meth := k3m0) (c := k3c0) (by decide +kernel) rfl rfl rfl (by decide +kernel)
set_option maxRecDepth 65536 in
theorem w_c3 : (Jvm.Cond.code ({ cls := "java/lang/Object", name := "<init>", desc := "()V" } : Jvm.MethodName) object_method_1_code (1 : Nat) (Option.none : Option Jvm.ClassFile.FieldType)).before args0 about1 = true := code_word (m := ⟨0, 0⟩) (meth := k0m0) (c := k0c0) (by decide +kernel) rfl rfl rfl (by decide +kernel)
set_option maxRecDepth 65536 in
theorem w_c4 : (Jvm.Cond.code ({ cls := "com/example/keyfold/keyfold/core/Value", name := "type", desc := "()Lcom/example/keyfold/keyfold/core/ValueType;" } : Jvm.MethodName) prog_50_method_7_code (1 : Nat) (Option.some (Jvm.ClassFile.FieldType.object "com/example/keyfold/keyfold/core/ValueType"))).before args0 about1 = true := code_word (m := ⟨3, 2⟩) (meth := k3m2) (c := k3c2) (by decide +kernel) rfl rfl rfl (by decide +kernel)
set_option maxRecDepth 65536 in
theorem w_c5 : (Jvm.Cond.code ({ cls := "com/example/keyfold/keyfold/core/Value", name := "size", desc := "()I" } : Jvm.MethodName) prog_50_method_13_code (1 : Nat) (Option.some Jvm.ClassFile.FieldType.int)).before args0 about1 = true := code_word (m := ⟨3, 4⟩) (meth := k3m4) (c := k3c4) (by decide +kernel) rfl rfl rfl (by decide +kernel)
set_option maxRecDepth 65536 in
theorem w_c6 : (Jvm.Cond.code ({ cls := "java/lang/Enum", name := "ordinal", desc := "()I" } : Jvm.MethodName) jdk_37_method_2_code (1 : Nat) (Option.some Jvm.ClassFile.FieldType.int)).before args0 about1 = true := code_word (m := ⟨6, 0⟩) (meth := k6m0) (c := k6c0) (by decide +kernel) rfl rfl rfl (by decide +kernel)
set_option maxRecDepth 65536 in
theorem w_c7 : (Jvm.Cond.code ({ cls := "com/example/keyfold/keyfold/core/Value", name := "asBinary", desc := "()[B" } : Jvm.MethodName) prog_50_method_12_code (1 : Nat) (Option.some (Jvm.ClassFile.FieldType.array Jvm.ClassFile.FieldType.byte))).before args0 about1 = true := code_word (m := ⟨3, 3⟩) (meth := k3m3) (c := k3c3) (by decide +kernel) rfl rfl rfl (by decide +kernel)
set_option maxRecDepth 65536 in
theorem w_c8 : (Jvm.Cond.code ({ cls := "com/example/keyfold/keyfold/core/Value", name := "contentOf", desc := "(Lcom/example/keyfold/keyfold/core/ValueType;)Ljava/lang/Object;" } : Jvm.MethodName) prog_50_method_14_code (2 : Nat) (Option.some (Jvm.ClassFile.FieldType.object "java/lang/Object"))).before args0 about1 = true := code_word (m := ⟨3, 5⟩) (meth := k3m5) (c := k3c5) (by decide +kernel) rfl rfl rfl (by decide +kernel)
def codes1 : List Jvm.Cond := [Jvm.Cond.code x code maxLocals ret, Jvm.Cond.code ({ cls := "com/example/keyfold/keyfold/core/Value", name := "ofBinary", desc := "([B)Lcom/example/keyfold/keyfold/core/Value;" } : Jvm.MethodName) prog_50_method_6_code (1 : Nat) (Option.some (Jvm.ClassFile.FieldType.object "com/example/keyfold/keyfold/core/Value")), Jvm.Cond.code ({ cls := "com/example/keyfold/keyfold/core/Value", name := "<init>", desc := "(Lcom/example/keyfold/keyfold/core/ValueType;Ljava/lang/Object;)V" } : Jvm.MethodName) prog_50_method_1_code (3 : Nat) (Option.none : Option Jvm.ClassFile.FieldType), Jvm.Cond.code ({ cls := "java/lang/Object", name := "<init>", desc := "()V" } : Jvm.MethodName) object_method_1_code (1 : Nat) (Option.none : Option Jvm.ClassFile.FieldType), Jvm.Cond.code ({ cls := "com/example/keyfold/keyfold/core/Value", name := "type", desc := "()Lcom/example/keyfold/keyfold/core/ValueType;" } : Jvm.MethodName) prog_50_method_7_code (1 : Nat) (Option.some (Jvm.ClassFile.FieldType.object "com/example/keyfold/keyfold/core/ValueType")), Jvm.Cond.code ({ cls := "com/example/keyfold/keyfold/core/Value", name := "size", desc := "()I" } : Jvm.MethodName) prog_50_method_13_code (1 : Nat) (Option.some Jvm.ClassFile.FieldType.int), Jvm.Cond.code ({ cls := "java/lang/Enum", name := "ordinal", desc := "()I" } : Jvm.MethodName) jdk_37_method_2_code (1 : Nat) (Option.some Jvm.ClassFile.FieldType.int), Jvm.Cond.code ({ cls := "com/example/keyfold/keyfold/core/Value", name := "asBinary", desc := "()[B" } : Jvm.MethodName) prog_50_method_12_code (1 : Nat) (Option.some (Jvm.ClassFile.FieldType.array Jvm.ClassFile.FieldType.byte)), Jvm.Cond.code ({ cls := "com/example/keyfold/keyfold/core/Value", name := "contentOf", desc := "(Lcom/example/keyfold/keyfold/core/ValueType;)Ljava/lang/Object;" } : Jvm.MethodName) prog_50_method_14_code (2 : Nat) (Option.some (Jvm.ClassFile.FieldType.object "java/lang/Object"))]
set_option maxRecDepth 65536 in
theorem codes_eq : words1.filter isCode = codes1 := rfl
theorem w_codes : ∀ c ∈ words1.filter isCode, c.before args0 about1 = true := by
  rw [codes_eq]
  intro c hc
  simp only [codes1, List.mem_cons, List.not_mem_nil, or_false] at hc
  rcases hc with rfl | rfl | rfl | rfl | rfl | rfl | rfl | rfl | rfl
  · exact w_c0
  · exact w_c1
  · exact w_c2
  · exact w_c3
  · exact w_c4
  · exact w_c5
  · exact w_c6
  · exact w_c7
  · exact w_c8
set_option maxRecDepth 65536 in
theorem w_t1 : (words1.take 24).all (fun c => isCode c || c.before args0 about1) = true := by decide +kernel
set_option maxRecDepth 65536 in
theorem w_t2 : ((words1.drop 24).take 24).all (fun c => isCode c || c.before args0 about1) = true := by decide +kernel
set_option maxRecDepth 65536 in
theorem w_t3 : ((words1.drop 24).drop 24).all (fun c => isCode c || c.before args0 about1) = true := by decide +kernel
theorem w_tables : (allAtoms (Jvm.Cond.code x code maxLocals ret :: tables_1)).before args0 about1 = true := by
  rw [allAtoms_all]
  show words1.all (fun c => c.before args0 about1) = true
  refine all_split ?_ w_codes
  rw [← List.take_append_drop 24 words1, List.all_append, w_t1, ← List.take_append_drop 24 (words1.drop 24), List.all_append, w_t2, w_t3]
  rfl
set_option maxRecDepth 65536 in
theorem w_case : (Jvm.Cond.and given_1 narrow_1).before args0 about1 = true := by decide +kernel
theorem w_applies : (headSpec (Jvm.Cond.code x code maxLocals ret :: tables_1) room_1).applies x e0.platform about1 = true :=
  (Spec.applies_iff w_frames).mpr ⟨w_running, w_runnable, w_alone, w_named, w_hears, w_ripe, w_room, w_tables⟩
theorem atStart : AtStart classFile x code maxLocals ret World_1 tables_1 room_1 Calls_1 rest_1 Pre_1 launch0 p0 e0 about1 theMethod args0 below0 :=
  ⟨lists_1, trivial, launch0.admits_env _ _ _, launch0.least_env, fairChoices_fair.cas, fairChoices_fair.clock, w_frames, w_args, w_heap, w_applies, trivial, trivial, w_case⟩
end start1
theorem witness_1 : WitnessClaimed_1 := ⟨start1.p0, start1.e0, start1.about1, start1.theMethod, start1.args0, start1.below0, start1.atStart⟩
end Jvm.Pilot.@@N@@
