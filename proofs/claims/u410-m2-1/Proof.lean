import JvmDerived
import JvmDerived.Pilot.@@N@@Statement
import JvmDerived.Pilot.@@N@@Code
set_option linter.unusedVariables false
set_option linter.unusedSimpArgs false
namespace Jvm.RoadKit
open Sem ClassFile Op Lib Jvm.Stand Jvm.Free Jvm.LawKit
section New
variable {p : Program} {l : Launch} {e : Env} {R : Room} {s : State} {m : MethodId} {args : Array Value} {below : List Frame} {meth : Method} {c : Code} {T : State} {locs : List Loc} {cells slots : Nat}
theorem retI (X : Stand p l e R s m args below meth c T locs cells slots) (hx : p.tables.exec = Jvm.exec) {pc : Nat} {Ls : Array Slot} {z : Int32} {rest : List Value} (hret : meth.sig.returnType = some .int) (hd : decode c.code pc = .ok (.ireturn, 1)) {fs : List Frame}
    (hl : ∀ (f : JFrame) (acts : List Action), f.method = m → f.locked = none → f.entered = [] → (doReturn e (T.setTop f) acts (some (.int z))).1 = T.setFrames fs) : Steps p.tables e below (T.setTop (mkF m pc Ls (.int z :: rest))) (T.setFrames fs) := by
  have hm' : T.vm.method? m = some meth := X.method'
  have hn : narrow .int (.int z) = .int z := rfl
  show Steps p.tables e below (T.setTop { method := m, pc := pc, locals := Ls, stack := _ :: rest, locked := none }) _
  jvm_step X.here [X.here.top, hx, hd, hm', hret, hn]
  first | (intro acts; rw [hl _ acts rfl rfl rfl]) | rw [hl _ _ rfl rfl rfl]
  exact Steps.refl _
end New
end Jvm.RoadKit
namespace Jvm.Pilot.@@N@@
open Jvm Jvm.ClassFile Sem Op Lib Jvm.Free Jvm.Stand Jvm.LawKit Jvm.RoadKit Bundle Jvm.Pilot.@@N@@.Jvm.D
def QP (r : Option Value) (h0 : Heap) (n0 : Nat) (v : Option Value) (h : Heap) (L : List Loc) : Prop := v = r ∧ Fr n0 L ∧ h = h0
def QW (P : Option Value → Heap → Prop) (n0 : Nat) (v : Option Value) (h : Heap) (L : List Loc) : Prop := Fr n0 L ∧ P v h
def Q0 (n0 : Nat) (v : Option Value) (h : Heap) (L : List Loc) : Prop := v = some (.int 1) ∧ Fr n0 L
theorem own_selP {Z s : State} {a0 args : Array Value} {C : String} {y z w : MethodName} (hZ : Z.Warmed39 s.vm) (hs : (Jvm.Cond.selects C z w).before a0 Z = true) (he : w.cls = y.cls) (hp : (Jvm.Cond.privateMethod y).before a0 Z = true) (hi : (Jvm.Cond.instanceMethod y).before a0 Z = true) (hy : y.cls ≠ "java/lang/invoke/MethodHandle" ∧ y.cls ≠ "java/lang/invoke/VarHandle") : (Jvm.Cond.selects y.cls y y).before args s = true := by
  obtain ⟨c, r, m, -, -, k2, -, k, hk, hki⟩ := Cond.selects_spec (mvT hZ hs (args := args))
  have hc := findClass_of_methodNamed k2
  rw [he] at hc
  exact Jvm.Stand.selects_self_of_private hc hk hki (Cond.privateMethod_at (mvP hZ hp (args := #[]))) (mvT hZ hi) hy
theorem own_byte (x : Int32) : x.toInt8.toInt32.toInt8.toInt32 = x.toInt8.toInt32 := by simp
theorem own_len {s : State} {args : Array Value} {t : Term} {a : Addr} {cl : Cell} {ty : FieldType} {n : Int32} (ev : t.eval args s none [] s = some (.ref a)) (A : Arr s s.heap a cl ty) (h : (Jvm.Cond.eq (Term.length t) (Term.int n)).value args s none s [] = some true) : cl.slots.size < 2 ^ 31 ∧ cl.slots.size.toInt32 = n := by
  have e := eqv_i (Term.int_eval _) h
  have ha := A.fin (Vm.Alike.refl _)
  by_cases q : cl.slots.size < 2 ^ 31
  · refine ⟨q, ?_⟩
    rw [len_f ev ha q] at e
    cases e; rfl
  · simp [Term.eval, ev, ha, q] at e
theorem own_eqr {s : State} {args : Array Value} {t u : Term} {y : Addr} (hu : u.eval args s none [] s = some (.ref y)) (h : (Jvm.Cond.eq t u).value args s none s [] = some true) : t.eval args s none [] s = some (.ref y) := by
  obtain ⟨x, y', e1, e2, k1, k2⟩ := cmp_v (Or.inl h)
  cases hu.symm.trans e2
  have hx : x.isRef = true := k2.2
  exact e1.trans (congrArg some (gotT (eq_R e1 hu hx rfl) h))
theorem own_sta_idx {s : State} {args : Array Value} {C n d : String} {v : Value} (h : (Term.static C n d).eval args s none [] s = some v) {idx : List Nat} : (Term.static C n d).eval args s none idx s = some v := h
theorem own_idx {s : State} {args : Array Value} {j : Int32} (hj : ¬ j < 0) : (Term.sub (Term.index 0) (Term.int 128)).eval args s none [j.toNatClampNeg] s = some (.int (j - (128 : Int32))) := by
  have e := idx_at (args := args) (s := s) (first := s) (o := none) hj
  show (do let x ← (Term.index 0).eval args s none [j.toNatClampNeg] s; let y ← (Term.int 128).eval args s none [j.toNatClampNeg] s; _) = _
  rw [e]; rfl
theorem own_plus1 {s : State} {args : Array Value} {t : Term} {a : Addr} {cl : Cell} {n : Int32} (hf : Fit s) (et : ∀ idx, t.eval args s none idx s = some (.ref a)) (A : Arr s s.heap a cl .int) (sz : cl.slots.size < 2 ^ 31) (z : cl.slots.size.toInt32 = n)
    (h : (Jvm.Cond.all t (.eq (.op1 .i2l (.elem t (.index 0))) (.op2 .ladd (.op1 .i2l (.index 0)) (.long 1)))).value args s none s [] = some true) (i : Nat) (k : Int32) (hi : i < n.toNatClampNeg) (hk : k.toInt64 = i.toInt32.toInt64 + 1) : cl.slots[i]? = some (.int k) := by
  have S : cl.slots.size = n.toNatClampNeg := by rw [← z]; simp only [Int32.toNatClampNeg, len_toInt sz]; rfl
  have hi' : i < cl.slots.size := S ▸ hi
  have e1 : (Nat.toInt32 i).toNatClampNeg = i := by simp only [Int32.toNatClampNeg, len_toInt (Nat.lt_trans hi' sz)]; rfl
  have hin : ¬ (i.toInt32 < 0 ∨ cl.slots.size ≤ i.toInt32.toNatClampNeg) := idx_in hi' sz
  have nn : ¬ i.toInt32 < 0 := fun q => hin (Or.inl q)
  have u := Cond.all_elim (et []) (A.fin (Vm.Alike.refl _)) h i hi'
  obtain ⟨v, hv, hfv⟩ := elem_fit hf A hin
  obtain ⟨x, rfl⟩ := fit_I hfv (Or.inl rfl)
  have ix : (Term.index 0).eval args s none [i] s = some (.int i.toInt32) := by
    have := idx_at (args := args) (s := s) (first := s) (o := none) nn
    rwa [e1] at this
  have el : (Term.elem t (.index 0)).eval args s none [i] s = some (.int x) := (elem_f (et _) ix (A.fin (Vm.Alike.refl _)) nn).trans hv
  have l1 := i2l_at el
  have l2 : (Term.op2 .ladd (.op1 .i2l (.index 0)) (.long 1)).eval args s none [i] s = some (.long (i.toInt32.toInt64 + 1)) := by
    rw [op2_f (i2l_at ix) (long_at 1)]; rfl
  have e := gotT (eq_L l1 l2) u
  have ex : x = k := by
    apply Int32.toInt_inj.mp
    have q := congrArg Int64.toInt (e.trans hk.symm)
    rwa [Int32.toInt_toInt64, Int32.toInt_toInt64] at q
  rw [e1] at hv
  rw [hv, ex]
def Wd (Z : State) (w_n0 : Addr) : Prop := Sta Z Z.heap "com/example/keyfold/keyfold/client/ValueType" "BINARY" "Lcom/example/keyfold/keyfold/client/ValueType;" (.ref w_n0) ∧ Exa Z Z.heap w_n0 "com/example/keyfold/keyfold/client/ValueType"
set_option maxRecDepth 65536 in
set_option maxHeartbeats 4000000 in
theorem wd_start {s : State} {a0 : Array Value} (hfit : Fit s) (hw : ∀ d ∈ tables_1, d.before a0 s = true) (hn : narrow_1.value a0 s none s [] = some true) : ∃ (w_n0 : Addr), Wd s w_n0 := by
  have q0 := hn
  obtain ⟨w_n0, ew_n0⟩ := exa_v q0
  have S_n0 := Sta.start ew_n0 (Or.inr ⟨(hw _ (List.mem_of_getElem? (i := 8) rfl)), (hw _ (List.mem_of_getElem? (i := 9) rfl))⟩)
  have E_n0 := Exa.start ew_n0 q0
  exact ⟨w_n0, S_n0, E_n0⟩
theorem d2_0 : decode prog_11_method_1_code 0 = .ok (.aload_n 0, 1) := by decide +kernel
theorem d2_1 : decode prog_11_method_1_code 1 = .ok (.invokespecial 1, 3) := by decide +kernel
theorem d2_4 : decode prog_11_method_1_code 4 = .ok (.aload_n 0, 1) := by decide +kernel
theorem d2_5 : decode prog_11_method_1_code 5 = .ok (.aload_n 1, 1) := by decide +kernel
theorem d2_6 : decode prog_11_method_1_code 6 = .ok (.putfield 7, 3) := by decide +kernel
theorem d2_9 : decode prog_11_method_1_code 9 = .ok (.aload_n 0, 1) := by decide +kernel
theorem d2_10 : decode prog_11_method_1_code 10 = .ok (.aload_n 2, 1) := by decide +kernel
theorem d2_11 : decode prog_11_method_1_code 11 = .ok (.putfield 13, 3) := by decide +kernel
theorem d2_14 : decode prog_11_method_1_code 14 = .ok (.return_, 1) := by decide +kernel
theorem ef_2_0 (m : MethodId) (x0 : Addr) (x1 : Addr) (x2 : Addr) : entryFrame m #[(.ref x0), (.ref x1), (.ref x2)] 3 = mkF m 0 #[.val (.ref x0), .val (.ref x1), .val (.ref x2)] [] := by first | (simp [entryFrame, mkF, argsToLocals, Value.category]; done) | rfl
theorem pn_2 : plainName "com/example/keyfold/keyfold/client/Value" = true := by first | (simp [plainName, overriddenIn]; done) | decide +kernel
set_option maxRecDepth 65536 in
set_option maxHeartbeats 40000000 in
theorem rm2 (l : Launch) (Z : State) (a0 : Array Value) (hw : ∀ d ∈ tables_1, d.before a0 Z = true) (ws : List Jvm.Cond) {w_n0 : Addr} (W : Wd Z w_n0) (a1 : Addr) (a3 : Addr) (h0 : Heap) (n0 : Nat) (O0 : Old Z n0 h0) (g_a1 : n0 ≤ a1) (hf0 : Exa Z h0 a1 "com/example/keyfold/keyfold/client/Value") (hf1 : Fld Z h0 a1 "com/example/keyfold/keyfold/client/Value" "type" "Lcom/example/keyfold/keyfold/client/ValueType;" .null) (hf2 : Fld Z h0 a1 "com/example/keyfold/keyfold/client/Value" "content" "Ljava/lang/Object;" .null) :
    MetFree l (⟨"com/example/keyfold/keyfold/client/Value", "<init>", "(Lcom/example/keyfold/keyfold/client/ValueType;Ljava/lang/Object;)V"⟩ : MethodName) (head1 (Jvm.Cond.code (⟨"com/example/keyfold/keyfold/client/Value", "<init>", "(Lcom/example/keyfold/keyfold/client/ValueType;Ljava/lang/Object;)V"⟩ : MethodName) prog_11_method_1_code 3 none :: ws) ({ frames := 1, cells := 0, slots := 0, locals := 12 } : Room)) (fun a U => a = #[(.ref a1), (.ref w_n0), (.ref a3)] ∧ Z.Warmed39 U.vm ∧ U.heap = h0) (fun _ _ _ _ _ => True) (fun _ U o U' => ∃ v L, o = .returned v ∧ QW (fun v h => v = none ∧ Keep h0 h [a1] ∧ Exa Z h a1 "com/example/keyfold/keyfold/client/Value" ∧ Fld Z h a1 "com/example/keyfold/keyfold/client/Value" "type" "Lcom/example/keyfold/keyfold/client/ValueType;" (.ref w_n0) ∧ Fld Z h a1 "com/example/keyfold/keyfold/client/Value" "content" "Ljava/lang/Object;" (.ref a3)) n0 v U'.heap L ∧ FrameEnd U o U' L ({ frames := 1, cells := 0, slots := 0, locals := 12 } : Room).cells ({ frames := 1, cells := 0, slots := 0, locals := 12 } : Room).slots) := by
  have W' := W; obtain ⟨S_n0, E_n0⟩ := W'
  refine MetFree.of_bodySF (plainFor_of_name pn_2) hisR ?_
  intro p e s m args below meth c s₁ Bd hml0 hP hK
  obtain ⟨rfl, hZ, hh⟩ := hP
  have hx := Bd.exec
  have hby := Bd.bytes
  have hml : c.maxLocals = 3 := hml0
  have hown : s.vm.findClass "com/example/keyfold/keyfold/client/Value" = some m.cls := findClass_of_methodNamed Bd.named
  have hnm := (name_of_methodNamed Bd.named Bd.method).1
  have X0 : Stand p l e ({ frames := 1, cells := 0, slots := 0, locals := 12 } : Room) s m #[(.ref a1), (.ref w_n0), (.ref a3)] below meth c s₁ [] 0 0 := Stand.of_body Bd
  have e0 : s₁.heap = h0 := by rw [← hh, Bd.state]; rfl
  have N0 := Fr.nil n0
  have pre0 : ∀ t, Steps p.tables e below (s₁.setTop (mkF m 0 #[.val (.ref a1), .val (.ref w_n0), .val (.ref a3)] [])) t → Steps p.tables e below (s₁.setTop (entryFrame m #[(.ref a1), (.ref w_n0), (.ref a3)] 3)) t := fun t k => castTop (ef_2_0 m a1 w_n0 a3) k
  obtain ⟨T1, X1, e1, st1⟩ := initO X0 hx hZ hown (hw _ (List.mem_of_getElem? (i := 20) rfl)) (hw _ (List.mem_of_getElem? (i := 21) rfl)) (hw _ (List.mem_of_getElem? (i := 22) rfl)) e0 (g := (mkF m 1 #[.val (.ref a1), .val (.ref w_n0), .val (.ref a3)] [(.ref a1)])) rfl (by rw [hml]; rfl) rfl (hb hby d2_1) (by decide) (W := 0) (by show 2 * 0 + _ ≤ _; exact Nat.le_of_eq rfl) (by decide)
  obtain ⟨T2, h2, X2, e2, W2, st2⟩ := putF X1 hx hZ hown (host := "") (Or.inl (hw _ (List.mem_of_getElem? (i := 23) rfl))) Via.refl e1 hf1 hf0 (Or.inr ⟨(hw _ (List.mem_of_getElem? (i := 24) rfl)), rfl, hnm⟩) (hw _ (List.mem_of_getElem? (i := 6) rfl)) (ty := (.object "com/example/keyfold/keyfold/client/ValueType")) (by decide) rfl rfl (g := (mkF m 6 #[.val (.ref a1), .val (.ref w_n0), .val (.ref a3)] [(.ref w_n0), (.ref a1)])) rfl rfl (hb hby d2_6)
  have fw2 : Fld Z h2 a1 "com/example/keyfold/keyfold/client/Value" "type" "Lcom/example/keyfold/keyfold/client/ValueType;" (.ref w_n0) := (hf1).same W2
  have f2_0 : Exa Z h2 a1 "com/example/keyfold/keyfold/client/Value" := (hf0).wr W2
  have f2_1 : Fld Z h2 a1 "com/example/keyfold/keyfold/client/Value" "content" "Ljava/lang/Object;" .null := (hf2).other W2 (Or.inr (slot_ne (Or.inr (hw _ (List.mem_of_getElem? (i := 26) rfl))) (Or.inr (hw _ (List.mem_of_getElem? (i := 24) rfl))) (by decide) (t := (.object "java/lang/Object")) (t' := (.object "com/example/keyfold/keyfold/client/ValueType")) (by decide) (by decide)))
  have O2 := O0.wr W2 g_a1
  have N2 := Fr.snoc X2 N0 g_a1
  have K2 : Keep h0 h2 [a1] := (Keep.refl h0 [a1]).wr W2 (Or.inl (List.mem_of_getElem? (i := 0) rfl))
  obtain ⟨T3, h3, X3, e3, W3, st3⟩ := putF X2 hx hZ hown (host := "") (Or.inl (hw _ (List.mem_of_getElem? (i := 25) rfl))) Via.refl e2 f2_1 f2_0 (Or.inr ⟨(hw _ (List.mem_of_getElem? (i := 26) rfl)), rfl, hnm⟩) (hw _ (List.mem_of_getElem? (i := 6) rfl)) (ty := (.object "java/lang/Object")) (by decide) rfl rfl (g := (mkF m 11 #[.val (.ref a1), .val (.ref w_n0), .val (.ref a3)] [(.ref a3), (.ref a1)])) rfl rfl (hb hby d2_11)
  have fw3 : Fld Z h3 a1 "com/example/keyfold/keyfold/client/Value" "content" "Ljava/lang/Object;" (.ref a3) := (f2_1).same W3
  have f3_0 : Exa Z h3 a1 "com/example/keyfold/keyfold/client/Value" := (f2_0).wr W3
  have f3_1 : Fld Z h3 a1 "com/example/keyfold/keyfold/client/Value" "type" "Lcom/example/keyfold/keyfold/client/ValueType;" (.ref w_n0) := (fw2).other W3 (Or.inr (slot_ne (Or.inr (hw _ (List.mem_of_getElem? (i := 24) rfl))) (Or.inr (hw _ (List.mem_of_getElem? (i := 26) rfl))) (by decide) (t := (.object "com/example/keyfold/keyfold/client/ValueType")) (t' := (.object "java/lang/Object")) (by decide) (by decide)))
  have O3 := O2.wr W3 g_a1
  have N3 := Fr.snoc X3 N2 g_a1
  have K3 : Keep h0 h3 [a1] := K2.wr W3 (Or.inl (List.mem_of_getElem? (i := 0) rfl))
  obtain ⟨fs, hr, hrun, hended, hW, hsame⟩ := X3.leave (v := none) (fun _ => rfl)
  refine ⟨_, _, pre0 _ ?_, hrun, hended, _, _, rfl, ?_, ⟨_, rfl⟩, hW, hsame.mono (by decide) (by decide)⟩
  · show Steps p.tables e below (s₁.setTop (mkF m 0 #[.val (.ref a1), .val (.ref w_n0), .val (.ref a3)] [])) _
    refine XS.aloadN X0.here hx rfl (hb hby d2_0) rfl rfl ?_
    show Steps p.tables e below (s₁.setTop (mkF m 1 #[.val (.ref a1), .val (.ref w_n0), .val (.ref a3)] [(.ref a1)])) _
    refine st1 _ ?_
    show Steps p.tables e below (T1.setTop (mkF m 4 #[.val (.ref a1), .val (.ref w_n0), .val (.ref a3)] [])) _
    refine XS.aloadN X1.here hx rfl (hb hby d2_4) rfl rfl ?_
    show Steps p.tables e below (T1.setTop (mkF m 5 #[.val (.ref a1), .val (.ref w_n0), .val (.ref a3)] [(.ref a1)])) _
    refine XS.aloadN X1.here hx rfl (hb hby d2_5) rfl rfl ?_
    show Steps p.tables e below (T1.setTop (mkF m 6 #[.val (.ref a1), .val (.ref w_n0), .val (.ref a3)] [(.ref w_n0), (.ref a1)])) _
    refine st2 _ ?_
    show Steps p.tables e below (T2.setTop (mkF m 9 #[.val (.ref a1), .val (.ref w_n0), .val (.ref a3)] [])) _
    refine XS.aloadN X2.here hx rfl (hb hby d2_9) rfl rfl ?_
    show Steps p.tables e below (T2.setTop (mkF m 10 #[.val (.ref a1), .val (.ref w_n0), .val (.ref a3)] [(.ref a1)])) _
    refine XS.aloadN X2.here hx rfl (hb hby d2_10) rfl rfl ?_
    show Steps p.tables e below (T2.setTop (mkF m 11 #[.val (.ref a1), .val (.ref w_n0), .val (.ref a3)] [(.ref a3), (.ref a1)])) _
    refine st3 _ ?_
    show Steps p.tables e below (T3.setTop (mkF m 14 #[.val (.ref a1), .val (.ref w_n0), .val (.ref a3)] [])) _
    exact X3.returnOut hx Bd.returns (hb hby d2_14) hr
  · show QW (fun v h => v = none ∧ Keep h0 h [a1] ∧ Exa Z h a1 "com/example/keyfold/keyfold/client/Value" ∧ Fld Z h a1 "com/example/keyfold/keyfold/client/Value" "type" "Lcom/example/keyfold/keyfold/client/ValueType;" (.ref w_n0) ∧ Fld Z h a1 "com/example/keyfold/keyfold/client/Value" "content" "Ljava/lang/Object;" (.ref a3)) n0 _ T3.heap _
    rw [e3]
    exact ⟨N3, ⟨rfl, K3, f3_0, f3_1, fw3⟩⟩
theorem d4_0 : decode prog_11_method_8_code 0 = .ok (.aload_n 0, 1) := by decide +kernel
theorem d4_1 : decode prog_11_method_8_code 1 = .ok (.getfield 7, 3) := by decide +kernel
theorem d4_4 : decode prog_11_method_8_code 4 = .ok (.areturn, 1) := by decide +kernel
theorem ef_4_1 (m : MethodId) (x0 : Addr) : entryFrame m #[(.ref x0)] 1 = mkF m 0 #[.val (.ref x0)] [] := by first | (simp [entryFrame, mkF, argsToLocals, Value.category]; done) | rfl
theorem pn_4 : plainName "com/example/keyfold/keyfold/client/Value" = true := by first | (simp [plainName, overriddenIn]; done) | decide +kernel
set_option maxRecDepth 65536 in
set_option maxHeartbeats 40000000 in
theorem rm4 (l : Launch) (Z : State) (a0 : Array Value) (hw : ∀ d ∈ tables_1, d.before a0 Z = true) (ws : List Jvm.Cond) {w_n0 : Addr} (W : Wd Z w_n0) (a1 : Addr) (h0 : Heap) (n0 : Nat) (O0 : Old Z n0 h0) (hf0 : Fld Z h0 a1 "com/example/keyfold/keyfold/client/Value" "type" "Lcom/example/keyfold/keyfold/client/ValueType;" (.ref w_n0)) :
    MetFree l (⟨"com/example/keyfold/keyfold/client/Value", "type", "()Lcom/example/keyfold/keyfold/client/ValueType;"⟩ : MethodName) (head1 (Jvm.Cond.code (⟨"com/example/keyfold/keyfold/client/Value", "type", "()Lcom/example/keyfold/keyfold/client/ValueType;"⟩ : MethodName) prog_11_method_8_code 1 (some (.object "com/example/keyfold/keyfold/client/ValueType")) :: ws) ({ frames := 0, cells := 0, slots := 0, locals := 0 } : Room)) (fun a U => a = #[(.ref a1)] ∧ Z.Warmed39 U.vm ∧ U.heap = h0) (fun _ _ _ _ _ => True) (fun _ U o U' => ∃ v L, o = .returned v ∧ QP (some (.ref w_n0)) h0 n0 v U'.heap L ∧ FrameEnd U o U' L ({ frames := 0, cells := 0, slots := 0, locals := 0 } : Room).cells ({ frames := 0, cells := 0, slots := 0, locals := 0 } : Room).slots) := by
  have W' := W; obtain ⟨S_n0, E_n0⟩ := W'
  refine MetFree.of_bodySF (plainFor_of_name pn_4) hisR ?_
  intro p e s m args below meth c s₁ Bd hml0 hP hK
  obtain ⟨rfl, hZ, hh⟩ := hP
  have hx := Bd.exec
  have hby := Bd.bytes
  have hml : c.maxLocals = 1 := hml0
  have hown : s.vm.findClass "com/example/keyfold/keyfold/client/Value" = some m.cls := findClass_of_methodNamed Bd.named
  have hnm := (name_of_methodNamed Bd.named Bd.method).1
  have X0 : Stand p l e ({ frames := 0, cells := 0, slots := 0, locals := 0 } : Room) s m #[(.ref a1)] below meth c s₁ [] 0 0 := Stand.of_body Bd
  have e0 : s₁.heap = h0 := by rw [← hh, Bd.state]; rfl
  have N0 := Fr.nil n0
  have pre0 : ∀ t, Steps p.tables e below (s₁.setTop (mkF m 0 #[.val (.ref a1)] [])) t → Steps p.tables e below (s₁.setTop (entryFrame m #[(.ref a1)] 1)) t := fun t k => castTop (ef_4_1 m a1) k
  obtain ⟨T1, X1, e1, st1⟩ := getF X0 hx hZ hown (host := "") (Or.inl (hw _ (List.mem_of_getElem? (i := 23) rfl))) Via.refl e0 hf0 (g := (mkF m 1 #[.val (.ref a1)] [(.ref a1)])) rfl rfl (hb hby d4_1)
  obtain ⟨fs, hr, hrun, hended, hW, hsame⟩ := X1.leave (v := some (.ref w_n0)) (fun h => by rw [Bd.returns] at h; cases h)
  refine ⟨_, _, pre0 _ ?_, hrun, hended, _, _, rfl, ?_, ⟨_, rfl⟩, hW, hsame.mono (by decide) (by decide)⟩
  · show Steps p.tables e below (s₁.setTop (mkF m 0 #[.val (.ref a1)] [])) _
    refine XS.aloadN X0.here hx rfl (hb hby d4_0) rfl rfl ?_
    show Steps p.tables e below (s₁.setTop (mkF m 1 #[.val (.ref a1)] [(.ref a1)])) _
    refine st1 _ ?_
    show Steps p.tables e below (T1.setTop (mkF m 4 #[.val (.ref a1)] [(.ref w_n0)])) _
    jvm_step X1.here [X1.here.top, hx, (hb hby d4_4), X1.method', Bd.returns, Value.isRef, FieldType.isReference]
    first | (intro acts; rw [hr _ acts rfl rfl rfl]) | rw [hr _ _ rfl rfl rfl]
    exact Steps.refl _
  · show QP (some (.ref w_n0)) h0 n0 _ T1.heap _
    rw [e1]
    exact ⟨rfl, N0, rfl⟩
theorem d6_0 : decode prog_11_method_14_code 0 = .ok (.aload_n 0, 1) := by decide +kernel
theorem d6_1 : decode prog_11_method_14_code 1 = .ok (.getfield 7, 3) := by decide +kernel
theorem d6_4 : decode prog_11_method_14_code 4 = .ok (.aload_n 1, 1) := by decide +kernel
theorem d6_5 : decode prog_11_method_14_code 5 = .ok (.if_acmp .eq 27, 3) := by decide +kernel
theorem d6_32 : decode prog_11_method_14_code 32 = .ok (.aload_n 0, 1) := by decide +kernel
theorem d6_33 : decode prog_11_method_14_code 33 = .ok (.getfield 13, 3) := by decide +kernel
theorem d6_36 : decode prog_11_method_14_code 36 = .ok (.areturn, 1) := by decide +kernel
theorem ef_6_2 (m : MethodId) (x0 : Addr) (x1 : Addr) : entryFrame m #[(.ref x0), (.ref x1)] 2 = mkF m 0 #[.val (.ref x0), .val (.ref x1)] [] := by first | (simp [entryFrame, mkF, argsToLocals, Value.category]; done) | rfl
theorem pn_6 : plainName "com/example/keyfold/keyfold/client/Value" = true := by first | (simp [plainName, overriddenIn]; done) | decide +kernel
set_option maxRecDepth 65536 in
set_option maxHeartbeats 40000000 in
theorem rm6 (l : Launch) (Z : State) (a0 : Array Value) (hw : ∀ d ∈ tables_1, d.before a0 Z = true) (ws : List Jvm.Cond) {w_n0 : Addr} (W : Wd Z w_n0) (a1 : Addr) (a3 : Addr) (h0 : Heap) (n0 : Nat) (O0 : Old Z n0 h0) (hf0 : Fld Z h0 a1 "com/example/keyfold/keyfold/client/Value" "type" "Lcom/example/keyfold/keyfold/client/ValueType;" (.ref w_n0)) (hf1 : Fld Z h0 a1 "com/example/keyfold/keyfold/client/Value" "content" "Ljava/lang/Object;" (.ref a3)) :
    MetFree l (⟨"com/example/keyfold/keyfold/client/Value", "contentOf", "(Lcom/example/keyfold/keyfold/client/ValueType;)Ljava/lang/Object;"⟩ : MethodName) (head1 (Jvm.Cond.code (⟨"com/example/keyfold/keyfold/client/Value", "contentOf", "(Lcom/example/keyfold/keyfold/client/ValueType;)Ljava/lang/Object;"⟩ : MethodName) prog_11_method_14_code 2 (some (.object "java/lang/Object")) :: ws) ({ frames := 0, cells := 0, slots := 0, locals := 0 } : Room)) (fun a U => a = #[(.ref a1), (.ref w_n0)] ∧ Z.Warmed39 U.vm ∧ U.heap = h0) (fun _ _ _ _ _ => True) (fun _ U o U' => ∃ v L, o = .returned v ∧ QP (some (.ref a3)) h0 n0 v U'.heap L ∧ FrameEnd U o U' L ({ frames := 0, cells := 0, slots := 0, locals := 0 } : Room).cells ({ frames := 0, cells := 0, slots := 0, locals := 0 } : Room).slots) := by
  have W' := W; obtain ⟨S_n0, E_n0⟩ := W'
  refine MetFree.of_bodySF (plainFor_of_name pn_6) hisR ?_
  intro p e s m args below meth c s₁ Bd hml0 hP hK
  obtain ⟨rfl, hZ, hh⟩ := hP
  have hx := Bd.exec
  have hby := Bd.bytes
  have hml : c.maxLocals = 2 := hml0
  have hown : s.vm.findClass "com/example/keyfold/keyfold/client/Value" = some m.cls := findClass_of_methodNamed Bd.named
  have hnm := (name_of_methodNamed Bd.named Bd.method).1
  have X0 : Stand p l e ({ frames := 0, cells := 0, slots := 0, locals := 0 } : Room) s m #[(.ref a1), (.ref w_n0)] below meth c s₁ [] 0 0 := Stand.of_body Bd
  have e0 : s₁.heap = h0 := by rw [← hh, Bd.state]; rfl
  have N0 := Fr.nil n0
  have pre0 : ∀ t, Steps p.tables e below (s₁.setTop (mkF m 0 #[.val (.ref a1), .val (.ref w_n0)] [])) t → Steps p.tables e below (s₁.setTop (entryFrame m #[(.ref a1), (.ref w_n0)] 2)) t := fun t k => castTop (ef_6_2 m a1 w_n0) k
  obtain ⟨T1, X1, e1, st1⟩ := getF X0 hx hZ hown (host := "") (Or.inl (hw _ (List.mem_of_getElem? (i := 23) rfl))) Via.refl e0 hf0 (g := (mkF m 1 #[.val (.ref a1), .val (.ref w_n0)] [(.ref a1)])) rfl rfl (hb hby d6_1)
  obtain ⟨T2, X2, e2, st2⟩ := getF X1 hx hZ hown (host := "") (Or.inl (hw _ (List.mem_of_getElem? (i := 25) rfl))) Via.refl e1 hf1 (g := (mkF m 33 #[.val (.ref a1), .val (.ref w_n0)] [(.ref a1)])) rfl rfl (hb hby d6_33)
  obtain ⟨fs, hr, hrun, hended, hW, hsame⟩ := X2.leave (v := some (.ref a3)) (fun h => by rw [Bd.returns] at h; cases h)
  refine ⟨_, _, pre0 _ ?_, hrun, hended, _, _, rfl, ?_, ⟨_, rfl⟩, hW, hsame.mono (by decide) (by decide)⟩
  · show Steps p.tables e below (s₁.setTop (mkF m 0 #[.val (.ref a1), .val (.ref w_n0)] [])) _
    refine XS.aloadN X0.here hx rfl (hb hby d6_0) rfl rfl ?_
    show Steps p.tables e below (s₁.setTop (mkF m 1 #[.val (.ref a1), .val (.ref w_n0)] [(.ref a1)])) _
    refine st1 _ ?_
    show Steps p.tables e below (T1.setTop (mkF m 4 #[.val (.ref a1), .val (.ref w_n0)] [(.ref w_n0)])) _
    refine XS.aloadN X1.here hx rfl (hb hby d6_4) rfl rfl ?_
    show Steps p.tables e below (T1.setTop (mkF m 5 #[.val (.ref a1), .val (.ref w_n0)] [(.ref w_n0), (.ref w_n0)])) _
    refine Jvm.RoadKit.acmp (g := (mkF m 5 #[.val (.ref a1), .val (.ref w_n0)] [(.ref w_n0), (.ref w_n0)])) X1 hx rfl rfl rfl (pc0 := 5) (pc' := 32) (same := true) rfl (hb hby d6_5) rfl (decide_eq_true rfl) (by decide) (by decide) ?_
    show Steps p.tables e below (T1.setTop (mkF m 32 #[.val (.ref a1), .val (.ref w_n0)] [])) _
    refine XS.aloadN X1.here hx rfl (hb hby d6_32) rfl rfl ?_
    show Steps p.tables e below (T1.setTop (mkF m 33 #[.val (.ref a1), .val (.ref w_n0)] [(.ref a1)])) _
    refine st2 _ ?_
    show Steps p.tables e below (T2.setTop (mkF m 36 #[.val (.ref a1), .val (.ref w_n0)] [(.ref a3)])) _
    jvm_step X2.here [X2.here.top, hx, (hb hby d6_36), X2.method', Bd.returns, Value.isRef, FieldType.isReference]
    first | (intro acts; rw [hr _ acts rfl rfl rfl]) | rw [hr _ _ rfl rfl rfl]
    exact Steps.refl _
  · show QP (some (.ref a3)) h0 n0 _ T2.heap _
    rw [e2]
    exact ⟨rfl, N0, rfl⟩
theorem d1_0 : decode prog_11_method_6_code 0 = .ok (.new 8, 3) := by decide +kernel
theorem d1_3 : decode prog_11_method_6_code 3 = .ok (.dup, 1) := by decide +kernel
theorem d1_4 : decode prog_11_method_6_code 4 = .ok (.getstatic 71, 3) := by decide +kernel
theorem d1_7 : decode prog_11_method_6_code 7 = .ok (.aload_n 0, 1) := by decide +kernel
theorem d1_8 : decode prog_11_method_6_code 8 = .ok (.invokevirtual 74, 3) := by decide +kernel
theorem d1_11 : decode prog_11_method_6_code 11 = .ok (.invokespecial 30, 3) := by decide +kernel
theorem d1_14 : decode prog_11_method_6_code 14 = .ok (.areturn, 1) := by decide +kernel
theorem pd_0 : parseMethodDescriptor "(Lcom/example/keyfold/keyfold/client/ValueType;Ljava/lang/Object;)V" = some ⟨[(.object "com/example/keyfold/keyfold/client/ValueType"), (.object "java/lang/Object")], none⟩ := by decide +kernel
theorem ef_1_3 (m : MethodId) (x0 : Addr) : entryFrame m #[(.ref x0)] 1 = mkF m 0 #[.val (.ref x0)] [] := by first | (simp [entryFrame, mkF, argsToLocals, Value.category]; done) | rfl
theorem pn_1 : plainName "com/example/keyfold/keyfold/client/Value" = true := by first | (simp [plainName, overriddenIn]; done) | decide +kernel
set_option maxRecDepth 65536 in
set_option maxHeartbeats 40000000 in
theorem rm1_0 (l : Launch) (Z : State) (a0 : Array Value) (hw : ∀ d ∈ tables_1, d.before a0 Z = true) (ws : List Jvm.Cond) {w_n0 : Addr} (W : Wd Z w_n0) (a1 : Addr) (kk : ClassId) (h0 : Heap) (n0 : Nat) (O0 : Old Z n0 h0) (g_a1 : n0 ≤ a1) (hf0 : Exa Z h0 a1 "[B") (hf1 : Arv Z h0 a1 kk .byte (0 : Int32) [] (.int (0 : Int32))) :
    MetFree l (⟨"com/example/keyfold/keyfold/client/Value", "ofBinary", "([B)Lcom/example/keyfold/keyfold/client/Value;"⟩ : MethodName) (head1 (Jvm.Cond.code (⟨"com/example/keyfold/keyfold/client/Value", "ofBinary", "([B)Lcom/example/keyfold/keyfold/client/Value;"⟩ : MethodName) prog_11_method_6_code 1 (some (.object "com/example/keyfold/keyfold/client/Value")) :: ws) ({ frames := 2, cells := 2, slots := 2, locals := 27 } : Room)) (fun a U => a = #[(.ref a1)] ∧ Z.Warmed39 U.vm ∧ U.heap = h0) (fun _ _ _ _ _ => True) (fun _ U o U' => ∃ v L, o = .returned v ∧ QW (fun v h => ∃ b1 : Addr, ∃ b3 : Addr, v = some (.ref b1) ∧ Keep h0 h [] ∧ n0 ≤ b1 ∧ h0.size ≤ b1 ∧ n0 ≤ b3 ∧ h0.size ≤ b3 ∧ Exa Z h b1 "com/example/keyfold/keyfold/client/Value" ∧ Fld Z h b1 "com/example/keyfold/keyfold/client/Value" "type" "Lcom/example/keyfold/keyfold/client/ValueType;" (.ref w_n0) ∧ Fld Z h b1 "com/example/keyfold/keyfold/client/Value" "content" "Ljava/lang/Object;" (.ref b3) ∧ Exa Z h b3 "[B" ∧ Arv Z h b3 kk .byte (0 : Int32) [] (.int (0 : Int32))) n0 v U'.heap L ∧ FrameEnd U o U' L ({ frames := 2, cells := 2, slots := 2, locals := 27 } : Room).cells ({ frames := 2, cells := 2, slots := 2, locals := 27 } : Room).slots) := by
  have W' := W; obtain ⟨S_n0, E_n0⟩ := W'
  refine MetFree.of_bodySF (plainFor_of_name pn_1) hisR ?_
  intro p e s m args below meth c s₁ Bd hml0 hP hK
  obtain ⟨rfl, hZ, hh⟩ := hP
  have hx := Bd.exec
  have hby := Bd.bytes
  have hml : c.maxLocals = 1 := hml0
  have hown : s.vm.findClass "com/example/keyfold/keyfold/client/Value" = some m.cls := findClass_of_methodNamed Bd.named
  have hnm := (name_of_methodNamed Bd.named Bd.method).1
  have X0 : Stand p l e ({ frames := 2, cells := 2, slots := 2, locals := 27 } : Room) s m #[(.ref a1)] below meth c s₁ [] 0 0 := Stand.of_body Bd
  have e0 : s₁.heap = h0 := by rw [← hh, Bd.state]; rfl
  have N0 := Fr.nil n0
  have pre0 : ∀ t, Steps p.tables e below (s₁.setTop (mkF m 0 #[.val (.ref a1)] [])) t → Steps p.tables e below (s₁.setTop (entryFrame m #[(.ref a1)] 1)) t := fun t k => castTop (ef_1_3 m a1) k
  obtain ⟨T1, h1, X1, e1, E1, A1, D1, U1, st1⟩ := newO X0 hx hZ hown (hw _ (List.mem_of_getElem? (i := 5) rfl)) (hw _ (List.mem_of_getElem? (i := 6) rfl)) (hw _ (List.mem_of_getElem? (i := 3) rfl)) e0 (g := (mkF m 0 #[.val (.ref a1)] [])) rfl (hb hby d1_0) (by decide) (by decide)
  obtain ⟨b1, g1⟩ : ∃ z, z = h0.size := ⟨_, rfl⟩
  rw [← g1] at A1 D1 U1 st1
  have lt_a1_b1 : a1 < h0.size := (hf0).lt
  have g_b1 : n0 ≤ b1 := by rw [g1]; exact O0.1 ▸ O0.2.1
  have sz_b1 : h0.size ≤ b1 := by rw [g1]; exact (Keep.refl h0 []).1
  have f1_0 : Exa Z h1 a1 "[B" := (hf0).ext E1
  have f1_1 : Arv Z h1 a1 kk .byte (0 : Int32) [] (.int (0 : Int32)) := (hf1).ext E1
  have O1 := O0.ext E1
  have K1 : Keep h0 h1 [] := (Keep.refl h0 []).ext E1
  have f1_type : Fld Z h1 b1 "com/example/keyfold/keyfold/client/Value" "type" "Lcom/example/keyfold/keyfold/client/ValueType;" .null := D1 (Or.inr (hw _ (List.mem_of_getElem? (i := 24) rfl))) (ty := (.object "com/example/keyfold/keyfold/client/ValueType")) (by decide)
  have f1_content : Fld Z h1 b1 "com/example/keyfold/keyfold/client/Value" "content" "Ljava/lang/Object;" .null := D1 (Or.inr (hw _ (List.mem_of_getElem? (i := 26) rfl))) (ty := (.object "java/lang/Object")) (by decide)
  obtain ⟨T2, X2, e2, st2⟩ := getS2 X1 hx hZ hown (host := "") (Or.inl (hw _ (List.mem_of_getElem? (i := 7) rfl))) Via.refl e1 (S_n0.ext O1.2) (g := (mkF m 4 #[.val (.ref a1)] [(.ref b1), (.ref b1)])) rfl (hb hby d1_4)
  obtain ⟨T3, h3, X3, e3, E3, A3, B3, st3⟩ := cloneH X2 hx hZ hown (hw _ (List.mem_of_getElem? (i := 10) rfl)) (hw _ (List.mem_of_getElem? (i := 11) rfl)) (hw _ (List.mem_of_getElem? (i := 15) rfl)) (hw _ (List.mem_of_getElem? (i := 13) rfl)) (hw _ (List.mem_of_getElem? (i := 14) rfl)) (hw _ (List.mem_of_getElem? (i := 16) rfl)) e2 (f1_1).arh f1_0 (g := (mkF m 8 #[.val (.ref a1)] [(.ref a1), (.ref w_n0), (.ref b1), (.ref b1)])) rfl (by rw [hml]; rfl) rfl (hb hby d1_8) (by decide) (W := 3) (cap := 0) (by show 2 * 0 + _ ≤ _; exact Nat.le_of_eq rfl) (by decide) (by decide) (by decide) (by decide)
  obtain ⟨b3, g3⟩ : ∃ z, z = h1.size := ⟨_, rfl⟩
  rw [← g3] at A3 B3 st3
  have lt_a1_b3 : a1 < h1.size := (f1_0).lt
  have lt_b1_b3 : b1 < h1.size := (A1).lt
  have g_b3 : n0 ≤ b3 := by rw [g3]; exact O1.1 ▸ O1.2.1
  have sz_b3 : h0.size ≤ b3 := by rw [g3]; exact K1.1
  have f3_0 : Exa Z h3 a1 "[B" := (f1_0).ext E3
  have f3_1 : Arv Z h3 a1 kk .byte (0 : Int32) [] (.int (0 : Int32)) := (f1_1).ext E3
  have f3_2 : Exa Z h3 b1 "com/example/keyfold/keyfold/client/Value" := (A1).ext E3
  have f3_3 : Fld Z h3 b1 "com/example/keyfold/keyfold/client/Value" "type" "Lcom/example/keyfold/keyfold/client/ValueType;" .null := (f1_type).ext E3
  have f3_4 : Fld Z h3 b1 "com/example/keyfold/keyfold/client/Value" "content" "Ljava/lang/Object;" .null := (f1_content).ext E3
  have O3 := O1.ext E3
  have K3 : Keep h0 h3 [] := K1.ext E3
  have fv3 : Arv Z h3 b3 kk .byte (0 : Int32) [] (.int (0 : Int32)) := A3
  obtain ⟨_, _, ⟨T4, L4, k4, n4⟩, -, X4, ⟨Lc4, hQ4, l4, y4, z4⟩, st4⟩ := X3.specialBack hx (y := (⟨"com/example/keyfold/keyfold/client/Value", "<init>", "(Lcom/example/keyfold/keyfold/client/ValueType;Ljava/lang/Object;)V"⟩ : MethodName)) rfl hown (mvT hZ (hw _ (List.mem_of_getElem? (i := 17) rfl))) (mvT hZ (hw _ (List.mem_of_getElem? (i := 18) rfl))) (mvT hZ (hw _ (List.mem_of_getElem? (i := 19) rfl))) (by decide) (backOf (W := 1) (rm2 l Z a0 hw [] W b1 b3 h3 n0 O3 g_b1 f3_2 f3_3 f3_4) hZ (hw _ (List.mem_of_getElem? (i := 19) rfl)) (hw _ (List.mem_of_getElem? (i := 3) rfl)) (by decide) (by decide)) (g := (mkF m 11 #[.val (.ref a1)] [(.ref b3), (.ref w_n0), (.ref b1), (.ref b1)])) rfl (by rw [hml]; rfl) (Steps.refl _) (a := b1) (argsL := [(.ref w_n0), (.ref b3)]) (rest := [(.ref b1)]) (lenOf pd_0 rfl) rfl (by show 2 * 0 + _ ≤ _; exact Nat.le_of_eq rfl) (hb hby d1_11) (fun _ _ => ⟨rfl, e3, (by decide : 2 + 0 ≤ _), (by decide : 2 + 0 ≤ _)⟩)
  dsimp only [Pt.U, Pt.locs, Pt.cells, Pt.slots] at X4 l4 y4 z4 st4 hQ4
  subst l4 y4 z4
  obtain ⟨N4q, hP4⟩ := hQ4
  have N4 := Fr.app N0 N4q
  obtain ⟨rfl, Kp4, fp4_0, fp4_1, fp4_2⟩ := hP4
  have f4_0 : Exa Z T4.heap a1 "[B" := (f3_0).keep Kp4
  have f4_1 : Arv Z T4.heap a1 kk .byte (0 : Int32) [] (.int (0 : Int32)) := (f3_1).keep Kp4 (ninS (ne_exa f3_0 f3_2 (by decide)) nin0)
  have f4_2 : Exa Z T4.heap b1 "com/example/keyfold/keyfold/client/Value" := (f3_2).keep Kp4
  have f4_3 : Arv Z T4.heap b3 kk .byte (0 : Int32) [] (.int (0 : Int32)) := (fv3).keep Kp4 (ninS (ne_exa B3 f3_2 (by decide)) nin0)
  have f4_4 : Exa Z T4.heap b3 "[B" := (B3).keep Kp4
  have O4 := O3.keep Kp4 (allS g_b1 all0)
  have K4 : Keep h0 T4.heap [] := K3.trans Kp4 (allS (Or.inr sz_b1) all0)
  obtain ⟨fs, hr, hrun, hended, hW, hsame⟩ := X4.leave (v := some (.ref b1)) (fun h => by rw [Bd.returns] at h; cases h)
  refine ⟨_, _, pre0 _ ?_, hrun, hended, _, _, rfl, ?_, ⟨_, rfl⟩, hW, hsame.mono (by decide) (by decide)⟩
  · show Steps p.tables e below (s₁.setTop (mkF m 0 #[.val (.ref a1)] [])) _
    refine st1 _ ?_
    show Steps p.tables e below (T1.setTop (mkF m 3 #[.val (.ref a1)] [(.ref b1)])) _
    refine XS.dup X1.here hx rfl (hb hby d1_3) rfl rfl ?_
    show Steps p.tables e below (T1.setTop (mkF m 4 #[.val (.ref a1)] [(.ref b1), (.ref b1)])) _
    refine st2 _ ?_
    show Steps p.tables e below (T2.setTop (mkF m 7 #[.val (.ref a1)] [(.ref w_n0), (.ref b1), (.ref b1)])) _
    refine XS.aloadN X2.here hx rfl (hb hby d1_7) rfl rfl ?_
    show Steps p.tables e below (T2.setTop (mkF m 8 #[.val (.ref a1)] [(.ref a1), (.ref w_n0), (.ref b1), (.ref b1)])) _
    refine st3 _ ?_
    show Steps p.tables e below (T3.setTop (mkF m 11 #[.val (.ref a1)] [(.ref b3), (.ref w_n0), (.ref b1), (.ref b1)])) _
    refine st4.trans ?_
    show Steps p.tables e below (T4.setTop (mkF m 14 #[.val (.ref a1)] [(.ref b1)])) _
    jvm_step X4.here [X4.here.top, hx, (hb hby d1_14), X4.method', Bd.returns, Value.isRef, FieldType.isReference]
    first | (intro acts; rw [hr _ acts rfl rfl rfl]) | rw [hr _ _ rfl rfl rfl]
    exact Steps.refl _
  · show QW (fun v h => ∃ b1 : Addr, ∃ b3 : Addr, v = some (.ref b1) ∧ Keep h0 h [] ∧ n0 ≤ b1 ∧ h0.size ≤ b1 ∧ n0 ≤ b3 ∧ h0.size ≤ b3 ∧ Exa Z h b1 "com/example/keyfold/keyfold/client/Value" ∧ Fld Z h b1 "com/example/keyfold/keyfold/client/Value" "type" "Lcom/example/keyfold/keyfold/client/ValueType;" (.ref w_n0) ∧ Fld Z h b1 "com/example/keyfold/keyfold/client/Value" "content" "Ljava/lang/Object;" (.ref b3) ∧ Exa Z h b3 "[B" ∧ Arv Z h b3 kk .byte (0 : Int32) [] (.int (0 : Int32))) n0 _ T4.heap _
    exact ⟨N4, ⟨b1, b3, rfl, K4, g_b1, sz_b1, g_b3, sz_b3, fp4_0, fp4_1, fp4_2, f4_4, f4_3⟩⟩
theorem d5_0 : decode prog_11_method_13_code 0 = .ok (.aload_n 0, 1) := by decide +kernel
theorem d5_1 : decode prog_11_method_13_code 1 = .ok (.getstatic 71, 3) := by decide +kernel
theorem d5_4 : decode prog_11_method_13_code 4 = .ok (.invokevirtual 130, 3) := by decide +kernel
theorem d5_7 : decode prog_11_method_13_code 7 = .ok (.checkcast 75, 3) := by decide +kernel
theorem d5_10 : decode prog_11_method_13_code 10 = .ok (.invokevirtual 74, 3) := by decide +kernel
theorem d5_13 : decode prog_11_method_13_code 13 = .ok (.checkcast 75, 3) := by decide +kernel
theorem d5_16 : decode prog_11_method_13_code 16 = .ok (.areturn, 1) := by decide +kernel
theorem pd_1 : parseMethodDescriptor "(Lcom/example/keyfold/keyfold/client/ValueType;)Ljava/lang/Object;" = some ⟨[(.object "com/example/keyfold/keyfold/client/ValueType")], some (.object "java/lang/Object")⟩ := by decide +kernel
theorem ef_5_4 (m : MethodId) (x0 : Addr) : entryFrame m #[(.ref x0)] 1 = mkF m 0 #[.val (.ref x0)] [] := by first | (simp [entryFrame, mkF, argsToLocals, Value.category]; done) | rfl
theorem pn_5 : plainName "com/example/keyfold/keyfold/client/Value" = true := by first | (simp [plainName, overriddenIn]; done) | decide +kernel
set_option maxRecDepth 65536 in
set_option maxHeartbeats 40000000 in
theorem rm5_0 (l : Launch) (Z : State) (a0 : Array Value) (hw : ∀ d ∈ tables_1, d.before a0 Z = true) (ws : List Jvm.Cond) {w_n0 : Addr} (W : Wd Z w_n0) (a1 : Addr) (a3 : Addr) (kk : ClassId) (h0 : Heap) (n0 : Nat) (O0 : Old Z n0 h0) (g_a1 : n0 ≤ a1) (hf0 : Exa Z h0 a1 "com/example/keyfold/keyfold/client/Value") (hf1 : Fld Z h0 a1 "com/example/keyfold/keyfold/client/Value" "type" "Lcom/example/keyfold/keyfold/client/ValueType;" (.ref w_n0)) (hf2 : Fld Z h0 a1 "com/example/keyfold/keyfold/client/Value" "content" "Ljava/lang/Object;" (.ref a3)) (g_a3 : n0 ≤ a3) (hf3 : Exa Z h0 a3 "[B") (hf4 : Arv Z h0 a3 kk .byte (0 : Int32) [] (.int (0 : Int32))) :
    MetFree l (⟨"com/example/keyfold/keyfold/client/Value", "asBinary", "()[B"⟩ : MethodName) (head1 (Jvm.Cond.code (⟨"com/example/keyfold/keyfold/client/Value", "asBinary", "()[B"⟩ : MethodName) prog_11_method_13_code 1 (some (.array .byte)) :: ws) ({ frames := 1, cells := 1, slots := 0, locals := 14 } : Room)) (fun a U => a = #[(.ref a1)] ∧ Z.Warmed39 U.vm ∧ U.heap = h0) (fun _ _ _ _ _ => True) (fun _ U o U' => ∃ v L, o = .returned v ∧ QW (fun v h => ∃ b4 : Addr, v = some (.ref b4) ∧ Keep h0 h [] ∧ n0 ≤ b4 ∧ h0.size ≤ b4 ∧ Exa Z h b4 "[B" ∧ Arv Z h b4 kk .byte (0 : Int32) [] (.int (0 : Int32))) n0 v U'.heap L ∧ FrameEnd U o U' L ({ frames := 1, cells := 1, slots := 0, locals := 14 } : Room).cells ({ frames := 1, cells := 1, slots := 0, locals := 14 } : Room).slots) := by
  have W' := W; obtain ⟨S_n0, E_n0⟩ := W'
  refine MetFree.of_bodySF (plainFor_of_name pn_5) hisR ?_
  intro p e s m args below meth c s₁ Bd hml0 hP hK
  obtain ⟨rfl, hZ, hh⟩ := hP
  have hx := Bd.exec
  have hby := Bd.bytes
  have hml : c.maxLocals = 1 := hml0
  have hown : s.vm.findClass "com/example/keyfold/keyfold/client/Value" = some m.cls := findClass_of_methodNamed Bd.named
  have hnm := (name_of_methodNamed Bd.named Bd.method).1
  have X0 : Stand p l e ({ frames := 1, cells := 1, slots := 0, locals := 14 } : Room) s m #[(.ref a1)] below meth c s₁ [] 0 0 := Stand.of_body Bd
  have e0 : s₁.heap = h0 := by rw [← hh, Bd.state]; rfl
  have N0 := Fr.nil n0
  have pre0 : ∀ t, Steps p.tables e below (s₁.setTop (mkF m 0 #[.val (.ref a1)] [])) t → Steps p.tables e below (s₁.setTop (entryFrame m #[(.ref a1)] 1)) t := fun t k => castTop (ef_5_4 m a1) k
  obtain ⟨T1, X1, e1, st1⟩ := getS2 X0 hx hZ hown (host := "") (Or.inl (hw _ (List.mem_of_getElem? (i := 7) rfl))) Via.refl e0 (S_n0.ext O0.2) (g := (mkF m 1 #[.val (.ref a1)] [(.ref a1)])) rfl (hb hby d5_1)
  obtain ⟨cq2, q2, q2'⟩ := (hf0).cell
  obtain ⟨_, _, ⟨T2, L2, k2, n2⟩, -, X2, ⟨Lc2, hQ2, l2, y2, z2⟩, st2⟩ := X1.privateBack hx (y := (⟨"com/example/keyfold/keyfold/client/Value", "contentOf", "(Lcom/example/keyfold/keyfold/client/ValueType;)Ljava/lang/Object;"⟩ : MethodName)) hown (mvT hZ (hw _ (List.mem_of_getElem? (i := 38) rfl))) (mvT hZ (hw _ (List.mem_of_getElem? (i := 39) rfl))) (own_selP hZ (hw _ (List.mem_of_getElem? (i := 30) rfl)) rfl (hw _ (List.mem_of_getElem? (i := 40) rfl)) (hw _ (List.mem_of_getElem? (i := 39) rfl)) (by decide)) (Cond.privateMethod_at (mvP hZ (hw _ (List.mem_of_getElem? (i := 40) rfl)) (args := #[]))) (mvT hZ (hw _ (List.mem_of_getElem? (i := 41) rfl))) (by decide) (backOf (W := 0) (rm6 l Z a0 hw [] W a1 a3 h0 n0 O0 hf1 hf2) hZ (hw _ (List.mem_of_getElem? (i := 41) rfl)) (hw _ (List.mem_of_getElem? (i := 3) rfl)) (by decide) (by decide)) (g := (mkF m 4 #[.val (.ref a1)] [(.ref w_n0), (.ref a1)])) rfl (by rw [hml]; rfl) (Steps.refl _) (a := a1) (by rw [e1]; exact q2) q2' (argsL := [(.ref w_n0)]) (rest := []) (lenOf pd_1 rfl) rfl (by show 2 * 0 + _ ≤ _; exact Nat.le_of_eq rfl) (hb hby d5_4) (fun _ _ => ⟨rfl, e1, (by decide : 0 + 0 ≤ _), (by decide : 0 + 0 ≤ _)⟩)
  dsimp only [Pt.U, Pt.locs, Pt.cells, Pt.slots] at X2 l2 y2 z2 st2 hQ2
  subst l2 y2 z2
  obtain ⟨rfl, N2q, e2⟩ := hQ2
  have N2 := Fr.app N0 N2q
  obtain ⟨T3, X3, e3, st3⟩ := castY X2 hx hZ hown (hw _ (List.mem_of_getElem? (i := 42) rfl)) e2 (Ins.self hf3) (g := (mkF m 7 #[.val (.ref a1)] [(.ref a3)])) rfl rfl (hb hby d5_7)
  obtain ⟨T4, h4, X4, e4, E4, A4, B4, st4⟩ := cloneH X3 hx hZ hown (hw _ (List.mem_of_getElem? (i := 10) rfl)) (hw _ (List.mem_of_getElem? (i := 11) rfl)) (hw _ (List.mem_of_getElem? (i := 15) rfl)) (hw _ (List.mem_of_getElem? (i := 13) rfl)) (hw _ (List.mem_of_getElem? (i := 14) rfl)) (hw _ (List.mem_of_getElem? (i := 16) rfl)) e3 (hf4).arh hf3 (g := (mkF m 10 #[.val (.ref a1)] [(.ref a3)])) rfl (by rw [hml]; rfl) rfl (hb hby d5_10) (by decide) (W := 0) (cap := 0) (by show 2 * 0 + _ ≤ _; exact Nat.le_of_eq rfl) (by decide) (by decide) (by decide) (by decide)
  obtain ⟨b4, g4⟩ : ∃ z, z = h0.size := ⟨_, rfl⟩
  rw [← g4] at A4 B4 st4
  have lt_a1_b4 : a1 < h0.size := (hf0).lt
  have lt_a3_b4 : a3 < h0.size := (hf3).lt
  have g_b4 : n0 ≤ b4 := by rw [g4]; exact O0.1 ▸ O0.2.1
  have sz_b4 : h0.size ≤ b4 := by rw [g4]; exact (Keep.refl h0 []).1
  have f4_0 : Exa Z h4 a1 "com/example/keyfold/keyfold/client/Value" := (hf0).ext E4
  have f4_1 : Fld Z h4 a1 "com/example/keyfold/keyfold/client/Value" "type" "Lcom/example/keyfold/keyfold/client/ValueType;" (.ref w_n0) := (hf1).ext E4
  have f4_2 : Fld Z h4 a1 "com/example/keyfold/keyfold/client/Value" "content" "Ljava/lang/Object;" (.ref a3) := (hf2).ext E4
  have f4_3 : Exa Z h4 a3 "[B" := (hf3).ext E4
  have f4_4 : Arv Z h4 a3 kk .byte (0 : Int32) [] (.int (0 : Int32)) := (hf4).ext E4
  have O4 := O0.ext E4
  have K4 : Keep h0 h4 [] := (Keep.refl h0 []).ext E4
  have fv4 : Arv Z h4 b4 kk .byte (0 : Int32) [] (.int (0 : Int32)) := A4
  obtain ⟨T5, X5, e5, st5⟩ := castY X4 hx hZ hown (hw _ (List.mem_of_getElem? (i := 42) rfl)) e4 (Ins.self B4) (g := (mkF m 13 #[.val (.ref a1)] [(.ref b4)])) rfl rfl (hb hby d5_13)
  obtain ⟨fs, hr, hrun, hended, hW, hsame⟩ := X5.leave (v := some (.ref b4)) (fun h => by rw [Bd.returns] at h; cases h)
  refine ⟨_, _, pre0 _ ?_, hrun, hended, _, _, rfl, ?_, ⟨_, rfl⟩, hW, hsame.mono (by decide) (by decide)⟩
  · show Steps p.tables e below (s₁.setTop (mkF m 0 #[.val (.ref a1)] [])) _
    refine XS.aloadN X0.here hx rfl (hb hby d5_0) rfl rfl ?_
    show Steps p.tables e below (s₁.setTop (mkF m 1 #[.val (.ref a1)] [(.ref a1)])) _
    refine st1 _ ?_
    show Steps p.tables e below (T1.setTop (mkF m 4 #[.val (.ref a1)] [(.ref w_n0), (.ref a1)])) _
    refine st2.trans ?_
    show Steps p.tables e below (T2.setTop (mkF m 7 #[.val (.ref a1)] [(.ref a3)])) _
    refine st3 _ ?_
    show Steps p.tables e below (T3.setTop (mkF m 10 #[.val (.ref a1)] [(.ref a3)])) _
    refine st4 _ ?_
    show Steps p.tables e below (T4.setTop (mkF m 13 #[.val (.ref a1)] [(.ref b4)])) _
    refine st5 _ ?_
    show Steps p.tables e below (T5.setTop (mkF m 16 #[.val (.ref a1)] [(.ref b4)])) _
    jvm_step X5.here [X5.here.top, hx, (hb hby d5_16), X5.method', Bd.returns, Value.isRef, FieldType.isReference]
    first | (intro acts; rw [hr _ acts rfl rfl rfl]) | rw [hr _ _ rfl rfl rfl]
    exact Steps.refl _
  · show QW (fun v h => ∃ b4 : Addr, v = some (.ref b4) ∧ Keep h0 h [] ∧ n0 ≤ b4 ∧ h0.size ≤ b4 ∧ Exa Z h b4 "[B" ∧ Arv Z h b4 kk .byte (0 : Int32) [] (.int (0 : Int32))) n0 _ T5.heap _
    rw [e5]
    exact ⟨N2, ⟨b4, rfl, K4, g_b4, sz_b4, B4, fv4⟩⟩
theorem d7_0 : decode method_3_code 0 = .ok (.iload_n 1, 1) := by decide +kernel
theorem d7_1 : decode method_3_code 1 = .ok (.aload_n 0, 1) := by decide +kernel
theorem d7_2 : decode method_3_code 2 = .ok (.arraylength, 1) := by decide +kernel
theorem d7_3 : decode method_3_code 3 = .ok (.if_icmp .ge 11, 3) := by decide +kernel
theorem d7_14 : decode method_3_code 14 = .ok (.iconst 1, 1) := by decide +kernel
theorem d7_15 : decode method_3_code 15 = .ok (.goto 4, 3) := by decide +kernel
theorem d7_19 : decode method_3_code 19 = .ok (.ireturn, 1) := by decide +kernel
theorem ef_7_5 (m : MethodId) (x0 : Addr) (x1 : Int32) (x2 : Int32) : entryFrame m #[(.ref x0), (.int x1), (.int x2)] 3 = mkF m 0 #[.val (.ref x0), .val (.int x1), .val (.int x2)] [] := by first | (simp [entryFrame, mkF, argsToLocals, Value.category]; done) | rfl
theorem pn_7 : plainName "com/example/keyfold/keyfold/client/ValueOfBinaryPinLaw" = true := by first | (simp [plainName, overriddenIn]; done) | decide +kernel
set_option maxRecDepth 65536 in
set_option maxHeartbeats 40000000 in
theorem rm7_0_0 (l : Launch) (Z : State) (a0 : Array Value) (hw : ∀ d ∈ tables_1, d.before a0 Z = true) (ws : List Jvm.Cond) {w_n0 : Addr} (W : Wd Z w_n0) (a1 : Addr) (p3 : Int32) (kk : ClassId) (h0 : Heap) (n0 : Nat) (O0 : Old Z n0 h0) (hf0 : Arv Z h0 a1 kk .byte (0 : Int32) [] (.int (0 : Int32))) :
    MetFree l (⟨"com/example/keyfold/keyfold/client/ValueOfBinaryPinLaw", "at", "([BII)Z"⟩ : MethodName) (head1 (Jvm.Cond.code (⟨"com/example/keyfold/keyfold/client/ValueOfBinaryPinLaw", "at", "([BII)Z"⟩ : MethodName) method_3_code 3 (some .boolean) :: ws) ({ frames := 0, cells := 0, slots := 0, locals := 0 } : Room)) (fun a U => a = #[(.ref a1), (.int (0 : Int32)), (.int p3)] ∧ Z.Warmed39 U.vm ∧ U.heap = h0) (fun _ _ _ _ _ => True) (fun _ U o U' => ∃ v L, o = .returned v ∧ QP (some (.int (1 : Int32))) h0 n0 v U'.heap L ∧ FrameEnd U o U' L ({ frames := 0, cells := 0, slots := 0, locals := 0 } : Room).cells ({ frames := 0, cells := 0, slots := 0, locals := 0 } : Room).slots) := by
  have W' := W; obtain ⟨S_n0, E_n0⟩ := W'
  refine MetFree.of_bodySF (plainFor_of_name pn_7) hisR ?_
  intro p e s m args below meth c s₁ Bd hml0 hP hK
  obtain ⟨rfl, hZ, hh⟩ := hP
  have hx := Bd.exec
  have hby := Bd.bytes
  have hml : c.maxLocals = 3 := hml0
  have hown : s.vm.findClass "com/example/keyfold/keyfold/client/ValueOfBinaryPinLaw" = some m.cls := findClass_of_methodNamed Bd.named
  have hnm := (name_of_methodNamed Bd.named Bd.method).1
  have X0 : Stand p l e ({ frames := 0, cells := 0, slots := 0, locals := 0 } : Room) s m #[(.ref a1), (.int (0 : Int32)), (.int p3)] below meth c s₁ [] 0 0 := Stand.of_body Bd
  have e0 : s₁.heap = h0 := by rw [← hh, Bd.state]; rfl
  have N0 := Fr.nil n0
  have pre0 : ∀ t, Steps p.tables e below (s₁.setTop (mkF m 0 #[.val (.ref a1), .val (.int (0 : Int32)), .val (.int p3)] [])) t → Steps p.tables e below (s₁.setTop (entryFrame m #[(.ref a1), (.int (0 : Int32)), (.int p3)] 3)) t := fun t k => castTop (ef_7_5 m a1 (0 : Int32) p3) k
  obtain ⟨cl1, Ar1, qk1, Sz1, Nz1, Hs1, Gs1⟩ := id hf0
  obtain ⟨fs, hr, hrun, hended, hW, hsame⟩ := X0.leave (v := some (.int (1 : Int32))) (fun h => by rw [Bd.returns] at h; cases h)
  refine ⟨_, _, pre0 _ ?_, hrun, hended, _, _, rfl, ?_, ⟨_, rfl⟩, hW, hsame.mono (by decide) (by decide)⟩
  · show Steps p.tables e below (s₁.setTop (mkF m 0 #[.val (.ref a1), .val (.int (0 : Int32)), .val (.int p3)] [])) _
    refine XS.iloadN X0.here hx rfl (hb hby d7_0) rfl ?_
    show Steps p.tables e below (s₁.setTop (mkF m 1 #[.val (.ref a1), .val (.int (0 : Int32)), .val (.int p3)] [(.int (0 : Int32))])) _
    refine XS.aloadN X0.here hx rfl (hb hby d7_1) rfl rfl ?_
    show Steps p.tables e below (s₁.setTop (mkF m 2 #[.val (.ref a1), .val (.int (0 : Int32)), .val (.int p3)] [(.ref a1), (.int (0 : Int32))])) _
    refine X0.arraylength hx (by rw [e0]; exact Ar1.1) (State.isArrayOf_alike hZ.alike Ar1.2.1) (g := (mkF m 2 #[.val (.ref a1), .val (.int (0 : Int32)), .val (.int p3)] [(.ref a1), (.int (0 : Int32))])) rfl rfl (hb hby d7_2) _ ?_
    rw [len_of Sz1 Nz1]
    show Steps p.tables e below (s₁.setTop (mkF m 3 #[.val (.ref a1), .val (.int (0 : Int32)), .val (.int p3)] [(.int (0 : Int32)), (.int (0 : Int32))])) _
    refine XS.icmpYes X0.here hx rfl (pc0 := 3) (pc' := 14) rfl (hb hby d7_3) rfl (flt ((by decide) : ¬ ((0 : Int32) < (0 : Int32)))).2.1 (by decide) (by decide) ?_
    show Steps p.tables e below (s₁.setTop (mkF m 14 #[.val (.ref a1), .val (.int (0 : Int32)), .val (.int p3)] [])) _
    refine XS.iconst X0.here hx rfl (hb hby d7_14) ?_
    show Steps p.tables e below (s₁.setTop (mkF m 15 #[.val (.ref a1), .val (.int (0 : Int32)), .val (.int p3)] [(.int (1 : Int32))])) _
    refine XS.goto X0.here hx rfl (pc0 := 15) (pc' := 19) rfl (hb hby d7_15) (by decide) (by decide) ?_
    show Steps p.tables e below (s₁.setTop (mkF m 19 #[.val (.ref a1), .val (.int (0 : Int32)), .val (.int p3)] [(.int (1 : Int32))])) _
    exact retN X0 hx (t := .boolean) Bd.returns (by simp) (hb hby d7_19) hr
  · show QP (some (.int (1 : Int32))) h0 n0 _ s₁.heap _
    rw [e0]
    exact ⟨rfl, N0, rfl⟩
set_option maxRecDepth 65536 in
set_option maxHeartbeats 40000000 in
theorem rm7_0_1 (l : Launch) (Z : State) (a0 : Array Value) (hw : ∀ d ∈ tables_1, d.before a0 Z = true) (ws : List Jvm.Cond) {w_n0 : Addr} (W : Wd Z w_n0) (a1 : Addr) (p3 : Int32) (kk : ClassId) (h0 : Heap) (n0 : Nat) (O0 : Old Z n0 h0) (hf0 : Arv Z h0 a1 kk .byte (0 : Int32) [] (.int (0 : Int32))) :
    MetFree l (⟨"com/example/keyfold/keyfold/client/ValueOfBinaryPinLaw", "at", "([BII)Z"⟩ : MethodName) (head1 (Jvm.Cond.code (⟨"com/example/keyfold/keyfold/client/ValueOfBinaryPinLaw", "at", "([BII)Z"⟩ : MethodName) method_3_code 3 (some .boolean) :: ws) ({ frames := 0, cells := 0, slots := 0, locals := 0 } : Room)) (fun a U => a = #[(.ref a1), (.int (1 : Int32)), (.int p3)] ∧ Z.Warmed39 U.vm ∧ U.heap = h0) (fun _ _ _ _ _ => True) (fun _ U o U' => ∃ v L, o = .returned v ∧ QP (some (.int (1 : Int32))) h0 n0 v U'.heap L ∧ FrameEnd U o U' L ({ frames := 0, cells := 0, slots := 0, locals := 0 } : Room).cells ({ frames := 0, cells := 0, slots := 0, locals := 0 } : Room).slots) := by
  have W' := W; obtain ⟨S_n0, E_n0⟩ := W'
  refine MetFree.of_bodySF (plainFor_of_name pn_7) hisR ?_
  intro p e s m args below meth c s₁ Bd hml0 hP hK
  obtain ⟨rfl, hZ, hh⟩ := hP
  have hx := Bd.exec
  have hby := Bd.bytes
  have hml : c.maxLocals = 3 := hml0
  have hown : s.vm.findClass "com/example/keyfold/keyfold/client/ValueOfBinaryPinLaw" = some m.cls := findClass_of_methodNamed Bd.named
  have hnm := (name_of_methodNamed Bd.named Bd.method).1
  have X0 : Stand p l e ({ frames := 0, cells := 0, slots := 0, locals := 0 } : Room) s m #[(.ref a1), (.int (1 : Int32)), (.int p3)] below meth c s₁ [] 0 0 := Stand.of_body Bd
  have e0 : s₁.heap = h0 := by rw [← hh, Bd.state]; rfl
  have N0 := Fr.nil n0
  have pre0 : ∀ t, Steps p.tables e below (s₁.setTop (mkF m 0 #[.val (.ref a1), .val (.int (1 : Int32)), .val (.int p3)] [])) t → Steps p.tables e below (s₁.setTop (entryFrame m #[(.ref a1), (.int (1 : Int32)), (.int p3)] 3)) t := fun t k => castTop (ef_7_5 m a1 (1 : Int32) p3) k
  obtain ⟨cl1, Ar1, qk1, Sz1, Nz1, Hs1, Gs1⟩ := id hf0
  obtain ⟨fs, hr, hrun, hended, hW, hsame⟩ := X0.leave (v := some (.int (1 : Int32))) (fun h => by rw [Bd.returns] at h; cases h)
  refine ⟨_, _, pre0 _ ?_, hrun, hended, _, _, rfl, ?_, ⟨_, rfl⟩, hW, hsame.mono (by decide) (by decide)⟩
  · show Steps p.tables e below (s₁.setTop (mkF m 0 #[.val (.ref a1), .val (.int (1 : Int32)), .val (.int p3)] [])) _
    refine XS.iloadN X0.here hx rfl (hb hby d7_0) rfl ?_
    show Steps p.tables e below (s₁.setTop (mkF m 1 #[.val (.ref a1), .val (.int (1 : Int32)), .val (.int p3)] [(.int (1 : Int32))])) _
    refine XS.aloadN X0.here hx rfl (hb hby d7_1) rfl rfl ?_
    show Steps p.tables e below (s₁.setTop (mkF m 2 #[.val (.ref a1), .val (.int (1 : Int32)), .val (.int p3)] [(.ref a1), (.int (1 : Int32))])) _
    refine X0.arraylength hx (by rw [e0]; exact Ar1.1) (State.isArrayOf_alike hZ.alike Ar1.2.1) (g := (mkF m 2 #[.val (.ref a1), .val (.int (1 : Int32)), .val (.int p3)] [(.ref a1), (.int (1 : Int32))])) rfl rfl (hb hby d7_2) _ ?_
    rw [len_of Sz1 Nz1]
    show Steps p.tables e below (s₁.setTop (mkF m 3 #[.val (.ref a1), .val (.int (1 : Int32)), .val (.int p3)] [(.int (0 : Int32)), (.int (1 : Int32))])) _
    refine XS.icmpYes X0.here hx rfl (pc0 := 3) (pc' := 14) rfl (hb hby d7_3) rfl (flt ((by decide) : ¬ ((1 : Int32) < (0 : Int32)))).2.1 (by decide) (by decide) ?_
    show Steps p.tables e below (s₁.setTop (mkF m 14 #[.val (.ref a1), .val (.int (1 : Int32)), .val (.int p3)] [])) _
    refine XS.iconst X0.here hx rfl (hb hby d7_14) ?_
    show Steps p.tables e below (s₁.setTop (mkF m 15 #[.val (.ref a1), .val (.int (1 : Int32)), .val (.int p3)] [(.int (1 : Int32))])) _
    refine XS.goto X0.here hx rfl (pc0 := 15) (pc' := 19) rfl (hb hby d7_15) (by decide) (by decide) ?_
    show Steps p.tables e below (s₁.setTop (mkF m 19 #[.val (.ref a1), .val (.int (1 : Int32)), .val (.int p3)] [(.int (1 : Int32))])) _
    exact retN X0 hx (t := .boolean) Bd.returns (by simp) (hb hby d7_19) hr
  · show QP (some (.int (1 : Int32))) h0 n0 _ s₁.heap _
    rw [e0]
    exact ⟨rfl, N0, rfl⟩
set_option maxRecDepth 65536 in
set_option maxHeartbeats 40000000 in
theorem rm7_0_2 (l : Launch) (Z : State) (a0 : Array Value) (hw : ∀ d ∈ tables_1, d.before a0 Z = true) (ws : List Jvm.Cond) {w_n0 : Addr} (W : Wd Z w_n0) (a1 : Addr) (p3 : Int32) (kk : ClassId) (h0 : Heap) (n0 : Nat) (O0 : Old Z n0 h0) (hf0 : Arv Z h0 a1 kk .byte (0 : Int32) [] (.int (0 : Int32))) :
    MetFree l (⟨"com/example/keyfold/keyfold/client/ValueOfBinaryPinLaw", "at", "([BII)Z"⟩ : MethodName) (head1 (Jvm.Cond.code (⟨"com/example/keyfold/keyfold/client/ValueOfBinaryPinLaw", "at", "([BII)Z"⟩ : MethodName) method_3_code 3 (some .boolean) :: ws) ({ frames := 0, cells := 0, slots := 0, locals := 0 } : Room)) (fun a U => a = #[(.ref a1), (.int (2 : Int32)), (.int p3)] ∧ Z.Warmed39 U.vm ∧ U.heap = h0) (fun _ _ _ _ _ => True) (fun _ U o U' => ∃ v L, o = .returned v ∧ QP (some (.int (1 : Int32))) h0 n0 v U'.heap L ∧ FrameEnd U o U' L ({ frames := 0, cells := 0, slots := 0, locals := 0 } : Room).cells ({ frames := 0, cells := 0, slots := 0, locals := 0 } : Room).slots) := by
  have W' := W; obtain ⟨S_n0, E_n0⟩ := W'
  refine MetFree.of_bodySF (plainFor_of_name pn_7) hisR ?_
  intro p e s m args below meth c s₁ Bd hml0 hP hK
  obtain ⟨rfl, hZ, hh⟩ := hP
  have hx := Bd.exec
  have hby := Bd.bytes
  have hml : c.maxLocals = 3 := hml0
  have hown : s.vm.findClass "com/example/keyfold/keyfold/client/ValueOfBinaryPinLaw" = some m.cls := findClass_of_methodNamed Bd.named
  have hnm := (name_of_methodNamed Bd.named Bd.method).1
  have X0 : Stand p l e ({ frames := 0, cells := 0, slots := 0, locals := 0 } : Room) s m #[(.ref a1), (.int (2 : Int32)), (.int p3)] below meth c s₁ [] 0 0 := Stand.of_body Bd
  have e0 : s₁.heap = h0 := by rw [← hh, Bd.state]; rfl
  have N0 := Fr.nil n0
  have pre0 : ∀ t, Steps p.tables e below (s₁.setTop (mkF m 0 #[.val (.ref a1), .val (.int (2 : Int32)), .val (.int p3)] [])) t → Steps p.tables e below (s₁.setTop (entryFrame m #[(.ref a1), (.int (2 : Int32)), (.int p3)] 3)) t := fun t k => castTop (ef_7_5 m a1 (2 : Int32) p3) k
  obtain ⟨cl1, Ar1, qk1, Sz1, Nz1, Hs1, Gs1⟩ := id hf0
  obtain ⟨fs, hr, hrun, hended, hW, hsame⟩ := X0.leave (v := some (.int (1 : Int32))) (fun h => by rw [Bd.returns] at h; cases h)
  refine ⟨_, _, pre0 _ ?_, hrun, hended, _, _, rfl, ?_, ⟨_, rfl⟩, hW, hsame.mono (by decide) (by decide)⟩
  · show Steps p.tables e below (s₁.setTop (mkF m 0 #[.val (.ref a1), .val (.int (2 : Int32)), .val (.int p3)] [])) _
    refine XS.iloadN X0.here hx rfl (hb hby d7_0) rfl ?_
    show Steps p.tables e below (s₁.setTop (mkF m 1 #[.val (.ref a1), .val (.int (2 : Int32)), .val (.int p3)] [(.int (2 : Int32))])) _
    refine XS.aloadN X0.here hx rfl (hb hby d7_1) rfl rfl ?_
    show Steps p.tables e below (s₁.setTop (mkF m 2 #[.val (.ref a1), .val (.int (2 : Int32)), .val (.int p3)] [(.ref a1), (.int (2 : Int32))])) _
    refine X0.arraylength hx (by rw [e0]; exact Ar1.1) (State.isArrayOf_alike hZ.alike Ar1.2.1) (g := (mkF m 2 #[.val (.ref a1), .val (.int (2 : Int32)), .val (.int p3)] [(.ref a1), (.int (2 : Int32))])) rfl rfl (hb hby d7_2) _ ?_
    rw [len_of Sz1 Nz1]
    show Steps p.tables e below (s₁.setTop (mkF m 3 #[.val (.ref a1), .val (.int (2 : Int32)), .val (.int p3)] [(.int (0 : Int32)), (.int (2 : Int32))])) _
    refine XS.icmpYes X0.here hx rfl (pc0 := 3) (pc' := 14) rfl (hb hby d7_3) rfl (flt ((by decide) : ¬ ((2 : Int32) < (0 : Int32)))).2.1 (by decide) (by decide) ?_
    show Steps p.tables e below (s₁.setTop (mkF m 14 #[.val (.ref a1), .val (.int (2 : Int32)), .val (.int p3)] [])) _
    refine XS.iconst X0.here hx rfl (hb hby d7_14) ?_
    show Steps p.tables e below (s₁.setTop (mkF m 15 #[.val (.ref a1), .val (.int (2 : Int32)), .val (.int p3)] [(.int (1 : Int32))])) _
    refine XS.goto X0.here hx rfl (pc0 := 15) (pc' := 19) rfl (hb hby d7_15) (by decide) (by decide) ?_
    show Steps p.tables e below (s₁.setTop (mkF m 19 #[.val (.ref a1), .val (.int (2 : Int32)), .val (.int p3)] [(.int (1 : Int32))])) _
    exact retN X0 hx (t := .boolean) Bd.returns (by simp) (hb hby d7_19) hr
  · show QP (some (.int (1 : Int32))) h0 n0 _ s₁.heap _
    rw [e0]
    exact ⟨rfl, N0, rfl⟩
set_option maxRecDepth 65536 in
set_option maxHeartbeats 40000000 in
theorem rm7_0_3 (l : Launch) (Z : State) (a0 : Array Value) (hw : ∀ d ∈ tables_1, d.before a0 Z = true) (ws : List Jvm.Cond) {w_n0 : Addr} (W : Wd Z w_n0) (a1 : Addr) (p3 : Int32) (kk : ClassId) (h0 : Heap) (n0 : Nat) (O0 : Old Z n0 h0) (hf0 : Arv Z h0 a1 kk .byte (0 : Int32) [] (.int (0 : Int32))) :
    MetFree l (⟨"com/example/keyfold/keyfold/client/ValueOfBinaryPinLaw", "at", "([BII)Z"⟩ : MethodName) (head1 (Jvm.Cond.code (⟨"com/example/keyfold/keyfold/client/ValueOfBinaryPinLaw", "at", "([BII)Z"⟩ : MethodName) method_3_code 3 (some .boolean) :: ws) ({ frames := 0, cells := 0, slots := 0, locals := 0 } : Room)) (fun a U => a = #[(.ref a1), (.int (3 : Int32)), (.int p3)] ∧ Z.Warmed39 U.vm ∧ U.heap = h0) (fun _ _ _ _ _ => True) (fun _ U o U' => ∃ v L, o = .returned v ∧ QP (some (.int (1 : Int32))) h0 n0 v U'.heap L ∧ FrameEnd U o U' L ({ frames := 0, cells := 0, slots := 0, locals := 0 } : Room).cells ({ frames := 0, cells := 0, slots := 0, locals := 0 } : Room).slots) := by
  have W' := W; obtain ⟨S_n0, E_n0⟩ := W'
  refine MetFree.of_bodySF (plainFor_of_name pn_7) hisR ?_
  intro p e s m args below meth c s₁ Bd hml0 hP hK
  obtain ⟨rfl, hZ, hh⟩ := hP
  have hx := Bd.exec
  have hby := Bd.bytes
  have hml : c.maxLocals = 3 := hml0
  have hown : s.vm.findClass "com/example/keyfold/keyfold/client/ValueOfBinaryPinLaw" = some m.cls := findClass_of_methodNamed Bd.named
  have hnm := (name_of_methodNamed Bd.named Bd.method).1
  have X0 : Stand p l e ({ frames := 0, cells := 0, slots := 0, locals := 0 } : Room) s m #[(.ref a1), (.int (3 : Int32)), (.int p3)] below meth c s₁ [] 0 0 := Stand.of_body Bd
  have e0 : s₁.heap = h0 := by rw [← hh, Bd.state]; rfl
  have N0 := Fr.nil n0
  have pre0 : ∀ t, Steps p.tables e below (s₁.setTop (mkF m 0 #[.val (.ref a1), .val (.int (3 : Int32)), .val (.int p3)] [])) t → Steps p.tables e below (s₁.setTop (entryFrame m #[(.ref a1), (.int (3 : Int32)), (.int p3)] 3)) t := fun t k => castTop (ef_7_5 m a1 (3 : Int32) p3) k
  obtain ⟨cl1, Ar1, qk1, Sz1, Nz1, Hs1, Gs1⟩ := id hf0
  obtain ⟨fs, hr, hrun, hended, hW, hsame⟩ := X0.leave (v := some (.int (1 : Int32))) (fun h => by rw [Bd.returns] at h; cases h)
  refine ⟨_, _, pre0 _ ?_, hrun, hended, _, _, rfl, ?_, ⟨_, rfl⟩, hW, hsame.mono (by decide) (by decide)⟩
  · show Steps p.tables e below (s₁.setTop (mkF m 0 #[.val (.ref a1), .val (.int (3 : Int32)), .val (.int p3)] [])) _
    refine XS.iloadN X0.here hx rfl (hb hby d7_0) rfl ?_
    show Steps p.tables e below (s₁.setTop (mkF m 1 #[.val (.ref a1), .val (.int (3 : Int32)), .val (.int p3)] [(.int (3 : Int32))])) _
    refine XS.aloadN X0.here hx rfl (hb hby d7_1) rfl rfl ?_
    show Steps p.tables e below (s₁.setTop (mkF m 2 #[.val (.ref a1), .val (.int (3 : Int32)), .val (.int p3)] [(.ref a1), (.int (3 : Int32))])) _
    refine X0.arraylength hx (by rw [e0]; exact Ar1.1) (State.isArrayOf_alike hZ.alike Ar1.2.1) (g := (mkF m 2 #[.val (.ref a1), .val (.int (3 : Int32)), .val (.int p3)] [(.ref a1), (.int (3 : Int32))])) rfl rfl (hb hby d7_2) _ ?_
    rw [len_of Sz1 Nz1]
    show Steps p.tables e below (s₁.setTop (mkF m 3 #[.val (.ref a1), .val (.int (3 : Int32)), .val (.int p3)] [(.int (0 : Int32)), (.int (3 : Int32))])) _
    refine XS.icmpYes X0.here hx rfl (pc0 := 3) (pc' := 14) rfl (hb hby d7_3) rfl (flt ((by decide) : ¬ ((3 : Int32) < (0 : Int32)))).2.1 (by decide) (by decide) ?_
    show Steps p.tables e below (s₁.setTop (mkF m 14 #[.val (.ref a1), .val (.int (3 : Int32)), .val (.int p3)] [])) _
    refine XS.iconst X0.here hx rfl (hb hby d7_14) ?_
    show Steps p.tables e below (s₁.setTop (mkF m 15 #[.val (.ref a1), .val (.int (3 : Int32)), .val (.int p3)] [(.int (1 : Int32))])) _
    refine XS.goto X0.here hx rfl (pc0 := 15) (pc' := 19) rfl (hb hby d7_15) (by decide) (by decide) ?_
    show Steps p.tables e below (s₁.setTop (mkF m 19 #[.val (.ref a1), .val (.int (3 : Int32)), .val (.int p3)] [(.int (1 : Int32))])) _
    exact retN X0 hx (t := .boolean) Bd.returns (by simp) (hb hby d7_19) hr
  · show QP (some (.int (1 : Int32))) h0 n0 _ s₁.heap _
    rw [e0]
    exact ⟨rfl, N0, rfl⟩
set_option maxRecDepth 65536 in
set_option maxHeartbeats 40000000 in
theorem rm1_1 (l : Launch) (Z : State) (a0 : Array Value) (hw : ∀ d ∈ tables_1, d.before a0 Z = true) (ws : List Jvm.Cond) {w_n0 : Addr} (W : Wd Z w_n0) (a1 : Addr) (kk : ClassId) (x0 : Int32) (h0 : Heap) (n0 : Nat) (O0 : Old Z n0 h0) (g_a1 : n0 ≤ a1) (hf0 : Exa Z h0 a1 "[B") (hf1 : Arv Z h0 a1 kk .byte (1 : Int32) [(.int x0)] (.int (0 : Int32))) :
    MetFree l (⟨"com/example/keyfold/keyfold/client/Value", "ofBinary", "([B)Lcom/example/keyfold/keyfold/client/Value;"⟩ : MethodName) (head1 (Jvm.Cond.code (⟨"com/example/keyfold/keyfold/client/Value", "ofBinary", "([B)Lcom/example/keyfold/keyfold/client/Value;"⟩ : MethodName) prog_11_method_6_code 1 (some (.object "com/example/keyfold/keyfold/client/Value")) :: ws) ({ frames := 2, cells := 2, slots := 3, locals := 27 } : Room)) (fun a U => a = #[(.ref a1)] ∧ Z.Warmed39 U.vm ∧ U.heap = h0) (fun _ _ _ _ _ => True) (fun _ U o U' => ∃ v L, o = .returned v ∧ QW (fun v h => ∃ b1 : Addr, ∃ b3 : Addr, v = some (.ref b1) ∧ Keep h0 h [] ∧ n0 ≤ b1 ∧ h0.size ≤ b1 ∧ n0 ≤ b3 ∧ h0.size ≤ b3 ∧ Exa Z h b1 "com/example/keyfold/keyfold/client/Value" ∧ Fld Z h b1 "com/example/keyfold/keyfold/client/Value" "type" "Lcom/example/keyfold/keyfold/client/ValueType;" (.ref w_n0) ∧ Fld Z h b1 "com/example/keyfold/keyfold/client/Value" "content" "Ljava/lang/Object;" (.ref b3) ∧ Exa Z h b3 "[B" ∧ Arv Z h b3 kk .byte (1 : Int32) [(.int x0)] (.int (0 : Int32))) n0 v U'.heap L ∧ FrameEnd U o U' L ({ frames := 2, cells := 2, slots := 3, locals := 27 } : Room).cells ({ frames := 2, cells := 2, slots := 3, locals := 27 } : Room).slots) := by
  have W' := W; obtain ⟨S_n0, E_n0⟩ := W'
  refine MetFree.of_bodySF (plainFor_of_name pn_1) hisR ?_
  intro p e s m args below meth c s₁ Bd hml0 hP hK
  obtain ⟨rfl, hZ, hh⟩ := hP
  have hx := Bd.exec
  have hby := Bd.bytes
  have hml : c.maxLocals = 1 := hml0
  have hown : s.vm.findClass "com/example/keyfold/keyfold/client/Value" = some m.cls := findClass_of_methodNamed Bd.named
  have hnm := (name_of_methodNamed Bd.named Bd.method).1
  have X0 : Stand p l e ({ frames := 2, cells := 2, slots := 3, locals := 27 } : Room) s m #[(.ref a1)] below meth c s₁ [] 0 0 := Stand.of_body Bd
  have e0 : s₁.heap = h0 := by rw [← hh, Bd.state]; rfl
  have N0 := Fr.nil n0
  have pre0 : ∀ t, Steps p.tables e below (s₁.setTop (mkF m 0 #[.val (.ref a1)] [])) t → Steps p.tables e below (s₁.setTop (entryFrame m #[(.ref a1)] 1)) t := fun t k => castTop (ef_1_3 m a1) k
  obtain ⟨T1, h1, X1, e1, E1, A1, D1, U1, st1⟩ := newO X0 hx hZ hown (hw _ (List.mem_of_getElem? (i := 5) rfl)) (hw _ (List.mem_of_getElem? (i := 6) rfl)) (hw _ (List.mem_of_getElem? (i := 3) rfl)) e0 (g := (mkF m 0 #[.val (.ref a1)] [])) rfl (hb hby d1_0) (by decide) (by decide)
  obtain ⟨b1, g1⟩ : ∃ z, z = h0.size := ⟨_, rfl⟩
  rw [← g1] at A1 D1 U1 st1
  have lt_a1_b1 : a1 < h0.size := (hf0).lt
  have g_b1 : n0 ≤ b1 := by rw [g1]; exact O0.1 ▸ O0.2.1
  have sz_b1 : h0.size ≤ b1 := by rw [g1]; exact (Keep.refl h0 []).1
  have f1_0 : Exa Z h1 a1 "[B" := (hf0).ext E1
  have f1_1 : Arv Z h1 a1 kk .byte (1 : Int32) [(.int x0)] (.int (0 : Int32)) := (hf1).ext E1
  have O1 := O0.ext E1
  have K1 : Keep h0 h1 [] := (Keep.refl h0 []).ext E1
  have f1_type : Fld Z h1 b1 "com/example/keyfold/keyfold/client/Value" "type" "Lcom/example/keyfold/keyfold/client/ValueType;" .null := D1 (Or.inr (hw _ (List.mem_of_getElem? (i := 24) rfl))) (ty := (.object "com/example/keyfold/keyfold/client/ValueType")) (by decide)
  have f1_content : Fld Z h1 b1 "com/example/keyfold/keyfold/client/Value" "content" "Ljava/lang/Object;" .null := D1 (Or.inr (hw _ (List.mem_of_getElem? (i := 26) rfl))) (ty := (.object "java/lang/Object")) (by decide)
  obtain ⟨T2, X2, e2, st2⟩ := getS2 X1 hx hZ hown (host := "") (Or.inl (hw _ (List.mem_of_getElem? (i := 7) rfl))) Via.refl e1 (S_n0.ext O1.2) (g := (mkF m 4 #[.val (.ref a1)] [(.ref b1), (.ref b1)])) rfl (hb hby d1_4)
  obtain ⟨T3, h3, X3, e3, E3, A3, B3, st3⟩ := cloneH X2 hx hZ hown (hw _ (List.mem_of_getElem? (i := 10) rfl)) (hw _ (List.mem_of_getElem? (i := 11) rfl)) (hw _ (List.mem_of_getElem? (i := 15) rfl)) (hw _ (List.mem_of_getElem? (i := 13) rfl)) (hw _ (List.mem_of_getElem? (i := 14) rfl)) (hw _ (List.mem_of_getElem? (i := 16) rfl)) e2 (f1_1).arh f1_0 (g := (mkF m 8 #[.val (.ref a1)] [(.ref a1), (.ref w_n0), (.ref b1), (.ref b1)])) rfl (by rw [hml]; rfl) rfl (hb hby d1_8) (by decide) (W := 3) (cap := 1) (by show 2 * 0 + _ ≤ _; exact Nat.le_of_eq rfl) (by decide) (by decide) (by decide) (by decide)
  obtain ⟨b3, g3⟩ : ∃ z, z = h1.size := ⟨_, rfl⟩
  rw [← g3] at A3 B3 st3
  have lt_a1_b3 : a1 < h1.size := (f1_0).lt
  have lt_b1_b3 : b1 < h1.size := (A1).lt
  have g_b3 : n0 ≤ b3 := by rw [g3]; exact O1.1 ▸ O1.2.1
  have sz_b3 : h0.size ≤ b3 := by rw [g3]; exact K1.1
  have f3_0 : Exa Z h3 a1 "[B" := (f1_0).ext E3
  have f3_1 : Arv Z h3 a1 kk .byte (1 : Int32) [(.int x0)] (.int (0 : Int32)) := (f1_1).ext E3
  have f3_2 : Exa Z h3 b1 "com/example/keyfold/keyfold/client/Value" := (A1).ext E3
  have f3_3 : Fld Z h3 b1 "com/example/keyfold/keyfold/client/Value" "type" "Lcom/example/keyfold/keyfold/client/ValueType;" .null := (f1_type).ext E3
  have f3_4 : Fld Z h3 b1 "com/example/keyfold/keyfold/client/Value" "content" "Ljava/lang/Object;" .null := (f1_content).ext E3
  have O3 := O1.ext E3
  have K3 : Keep h0 h3 [] := K1.ext E3
  have fv3 : Arv Z h3 b3 kk .byte (1 : Int32) [(.int x0)] (.int (0 : Int32)) := A3
  obtain ⟨_, _, ⟨T4, L4, k4, n4⟩, -, X4, ⟨Lc4, hQ4, l4, y4, z4⟩, st4⟩ := X3.specialBack hx (y := (⟨"com/example/keyfold/keyfold/client/Value", "<init>", "(Lcom/example/keyfold/keyfold/client/ValueType;Ljava/lang/Object;)V"⟩ : MethodName)) rfl hown (mvT hZ (hw _ (List.mem_of_getElem? (i := 17) rfl))) (mvT hZ (hw _ (List.mem_of_getElem? (i := 18) rfl))) (mvT hZ (hw _ (List.mem_of_getElem? (i := 19) rfl))) (by decide) (backOf (W := 1) (rm2 l Z a0 hw [] W b1 b3 h3 n0 O3 g_b1 f3_2 f3_3 f3_4) hZ (hw _ (List.mem_of_getElem? (i := 19) rfl)) (hw _ (List.mem_of_getElem? (i := 3) rfl)) (by decide) (by decide)) (g := (mkF m 11 #[.val (.ref a1)] [(.ref b3), (.ref w_n0), (.ref b1), (.ref b1)])) rfl (by rw [hml]; rfl) (Steps.refl _) (a := b1) (argsL := [(.ref w_n0), (.ref b3)]) (rest := [(.ref b1)]) (lenOf pd_0 rfl) rfl (by show 2 * 0 + _ ≤ _; exact Nat.le_of_eq rfl) (hb hby d1_11) (fun _ _ => ⟨rfl, e3, (by decide : 2 + 0 ≤ _), (by decide : 3 + 0 ≤ _)⟩)
  dsimp only [Pt.U, Pt.locs, Pt.cells, Pt.slots] at X4 l4 y4 z4 st4 hQ4
  subst l4 y4 z4
  obtain ⟨N4q, hP4⟩ := hQ4
  have N4 := Fr.app N0 N4q
  obtain ⟨rfl, Kp4, fp4_0, fp4_1, fp4_2⟩ := hP4
  have f4_0 : Exa Z T4.heap a1 "[B" := (f3_0).keep Kp4
  have f4_1 : Arv Z T4.heap a1 kk .byte (1 : Int32) [(.int x0)] (.int (0 : Int32)) := (f3_1).keep Kp4 (ninS (ne_exa f3_0 f3_2 (by decide)) nin0)
  have f4_2 : Exa Z T4.heap b1 "com/example/keyfold/keyfold/client/Value" := (f3_2).keep Kp4
  have f4_3 : Arv Z T4.heap b3 kk .byte (1 : Int32) [(.int x0)] (.int (0 : Int32)) := (fv3).keep Kp4 (ninS (ne_exa B3 f3_2 (by decide)) nin0)
  have f4_4 : Exa Z T4.heap b3 "[B" := (B3).keep Kp4
  have O4 := O3.keep Kp4 (allS g_b1 all0)
  have K4 : Keep h0 T4.heap [] := K3.trans Kp4 (allS (Or.inr sz_b1) all0)
  obtain ⟨fs, hr, hrun, hended, hW, hsame⟩ := X4.leave (v := some (.ref b1)) (fun h => by rw [Bd.returns] at h; cases h)
  refine ⟨_, _, pre0 _ ?_, hrun, hended, _, _, rfl, ?_, ⟨_, rfl⟩, hW, hsame.mono (by decide) (by decide)⟩
  · show Steps p.tables e below (s₁.setTop (mkF m 0 #[.val (.ref a1)] [])) _
    refine st1 _ ?_
    show Steps p.tables e below (T1.setTop (mkF m 3 #[.val (.ref a1)] [(.ref b1)])) _
    refine XS.dup X1.here hx rfl (hb hby d1_3) rfl rfl ?_
    show Steps p.tables e below (T1.setTop (mkF m 4 #[.val (.ref a1)] [(.ref b1), (.ref b1)])) _
    refine st2 _ ?_
    show Steps p.tables e below (T2.setTop (mkF m 7 #[.val (.ref a1)] [(.ref w_n0), (.ref b1), (.ref b1)])) _
    refine XS.aloadN X2.here hx rfl (hb hby d1_7) rfl rfl ?_
    show Steps p.tables e below (T2.setTop (mkF m 8 #[.val (.ref a1)] [(.ref a1), (.ref w_n0), (.ref b1), (.ref b1)])) _
    refine st3 _ ?_
    show Steps p.tables e below (T3.setTop (mkF m 11 #[.val (.ref a1)] [(.ref b3), (.ref w_n0), (.ref b1), (.ref b1)])) _
    refine st4.trans ?_
    show Steps p.tables e below (T4.setTop (mkF m 14 #[.val (.ref a1)] [(.ref b1)])) _
    jvm_step X4.here [X4.here.top, hx, (hb hby d1_14), X4.method', Bd.returns, Value.isRef, FieldType.isReference]
    first | (intro acts; rw [hr _ acts rfl rfl rfl]) | rw [hr _ _ rfl rfl rfl]
    exact Steps.refl _
  · show QW (fun v h => ∃ b1 : Addr, ∃ b3 : Addr, v = some (.ref b1) ∧ Keep h0 h [] ∧ n0 ≤ b1 ∧ h0.size ≤ b1 ∧ n0 ≤ b3 ∧ h0.size ≤ b3 ∧ Exa Z h b1 "com/example/keyfold/keyfold/client/Value" ∧ Fld Z h b1 "com/example/keyfold/keyfold/client/Value" "type" "Lcom/example/keyfold/keyfold/client/ValueType;" (.ref w_n0) ∧ Fld Z h b1 "com/example/keyfold/keyfold/client/Value" "content" "Ljava/lang/Object;" (.ref b3) ∧ Exa Z h b3 "[B" ∧ Arv Z h b3 kk .byte (1 : Int32) [(.int x0)] (.int (0 : Int32))) n0 _ T4.heap _
    exact ⟨N4, ⟨b1, b3, rfl, K4, g_b1, sz_b1, g_b3, sz_b3, fp4_0, fp4_1, fp4_2, f4_4, f4_3⟩⟩
set_option maxRecDepth 65536 in
set_option maxHeartbeats 40000000 in
theorem rm5_1 (l : Launch) (Z : State) (a0 : Array Value) (hw : ∀ d ∈ tables_1, d.before a0 Z = true) (ws : List Jvm.Cond) {w_n0 : Addr} (W : Wd Z w_n0) (a1 : Addr) (a3 : Addr) (kk : ClassId) (x0 : Int32) (h0 : Heap) (n0 : Nat) (O0 : Old Z n0 h0) (g_a1 : n0 ≤ a1) (hf0 : Exa Z h0 a1 "com/example/keyfold/keyfold/client/Value") (hf1 : Fld Z h0 a1 "com/example/keyfold/keyfold/client/Value" "type" "Lcom/example/keyfold/keyfold/client/ValueType;" (.ref w_n0)) (hf2 : Fld Z h0 a1 "com/example/keyfold/keyfold/client/Value" "content" "Ljava/lang/Object;" (.ref a3)) (g_a3 : n0 ≤ a3) (hf3 : Exa Z h0 a3 "[B") (hf4 : Arv Z h0 a3 kk .byte (1 : Int32) [(.int x0)] (.int (0 : Int32))) :
    MetFree l (⟨"com/example/keyfold/keyfold/client/Value", "asBinary", "()[B"⟩ : MethodName) (head1 (Jvm.Cond.code (⟨"com/example/keyfold/keyfold/client/Value", "asBinary", "()[B"⟩ : MethodName) prog_11_method_13_code 1 (some (.array .byte)) :: ws) ({ frames := 1, cells := 1, slots := 1, locals := 14 } : Room)) (fun a U => a = #[(.ref a1)] ∧ Z.Warmed39 U.vm ∧ U.heap = h0) (fun _ _ _ _ _ => True) (fun _ U o U' => ∃ v L, o = .returned v ∧ QW (fun v h => ∃ b4 : Addr, v = some (.ref b4) ∧ Keep h0 h [] ∧ n0 ≤ b4 ∧ h0.size ≤ b4 ∧ Exa Z h b4 "[B" ∧ Arv Z h b4 kk .byte (1 : Int32) [(.int x0)] (.int (0 : Int32))) n0 v U'.heap L ∧ FrameEnd U o U' L ({ frames := 1, cells := 1, slots := 1, locals := 14 } : Room).cells ({ frames := 1, cells := 1, slots := 1, locals := 14 } : Room).slots) := by
  have W' := W; obtain ⟨S_n0, E_n0⟩ := W'
  refine MetFree.of_bodySF (plainFor_of_name pn_5) hisR ?_
  intro p e s m args below meth c s₁ Bd hml0 hP hK
  obtain ⟨rfl, hZ, hh⟩ := hP
  have hx := Bd.exec
  have hby := Bd.bytes
  have hml : c.maxLocals = 1 := hml0
  have hown : s.vm.findClass "com/example/keyfold/keyfold/client/Value" = some m.cls := findClass_of_methodNamed Bd.named
  have hnm := (name_of_methodNamed Bd.named Bd.method).1
  have X0 : Stand p l e ({ frames := 1, cells := 1, slots := 1, locals := 14 } : Room) s m #[(.ref a1)] below meth c s₁ [] 0 0 := Stand.of_body Bd
  have e0 : s₁.heap = h0 := by rw [← hh, Bd.state]; rfl
  have N0 := Fr.nil n0
  have pre0 : ∀ t, Steps p.tables e below (s₁.setTop (mkF m 0 #[.val (.ref a1)] [])) t → Steps p.tables e below (s₁.setTop (entryFrame m #[(.ref a1)] 1)) t := fun t k => castTop (ef_5_4 m a1) k
  obtain ⟨T1, X1, e1, st1⟩ := getS2 X0 hx hZ hown (host := "") (Or.inl (hw _ (List.mem_of_getElem? (i := 7) rfl))) Via.refl e0 (S_n0.ext O0.2) (g := (mkF m 1 #[.val (.ref a1)] [(.ref a1)])) rfl (hb hby d5_1)
  obtain ⟨cq2, q2, q2'⟩ := (hf0).cell
  obtain ⟨_, _, ⟨T2, L2, k2, n2⟩, -, X2, ⟨Lc2, hQ2, l2, y2, z2⟩, st2⟩ := X1.privateBack hx (y := (⟨"com/example/keyfold/keyfold/client/Value", "contentOf", "(Lcom/example/keyfold/keyfold/client/ValueType;)Ljava/lang/Object;"⟩ : MethodName)) hown (mvT hZ (hw _ (List.mem_of_getElem? (i := 38) rfl))) (mvT hZ (hw _ (List.mem_of_getElem? (i := 39) rfl))) (own_selP hZ (hw _ (List.mem_of_getElem? (i := 30) rfl)) rfl (hw _ (List.mem_of_getElem? (i := 40) rfl)) (hw _ (List.mem_of_getElem? (i := 39) rfl)) (by decide)) (Cond.privateMethod_at (mvP hZ (hw _ (List.mem_of_getElem? (i := 40) rfl)) (args := #[]))) (mvT hZ (hw _ (List.mem_of_getElem? (i := 41) rfl))) (by decide) (backOf (W := 0) (rm6 l Z a0 hw [] W a1 a3 h0 n0 O0 hf1 hf2) hZ (hw _ (List.mem_of_getElem? (i := 41) rfl)) (hw _ (List.mem_of_getElem? (i := 3) rfl)) (by decide) (by decide)) (g := (mkF m 4 #[.val (.ref a1)] [(.ref w_n0), (.ref a1)])) rfl (by rw [hml]; rfl) (Steps.refl _) (a := a1) (by rw [e1]; exact q2) q2' (argsL := [(.ref w_n0)]) (rest := []) (lenOf pd_1 rfl) rfl (by show 2 * 0 + _ ≤ _; exact Nat.le_of_eq rfl) (hb hby d5_4) (fun _ _ => ⟨rfl, e1, (by decide : 0 + 0 ≤ _), (by decide : 0 + 0 ≤ _)⟩)
  dsimp only [Pt.U, Pt.locs, Pt.cells, Pt.slots] at X2 l2 y2 z2 st2 hQ2
  subst l2 y2 z2
  obtain ⟨rfl, N2q, e2⟩ := hQ2
  have N2 := Fr.app N0 N2q
  obtain ⟨T3, X3, e3, st3⟩ := castY X2 hx hZ hown (hw _ (List.mem_of_getElem? (i := 42) rfl)) e2 (Ins.self hf3) (g := (mkF m 7 #[.val (.ref a1)] [(.ref a3)])) rfl rfl (hb hby d5_7)
  obtain ⟨T4, h4, X4, e4, E4, A4, B4, st4⟩ := cloneH X3 hx hZ hown (hw _ (List.mem_of_getElem? (i := 10) rfl)) (hw _ (List.mem_of_getElem? (i := 11) rfl)) (hw _ (List.mem_of_getElem? (i := 15) rfl)) (hw _ (List.mem_of_getElem? (i := 13) rfl)) (hw _ (List.mem_of_getElem? (i := 14) rfl)) (hw _ (List.mem_of_getElem? (i := 16) rfl)) e3 (hf4).arh hf3 (g := (mkF m 10 #[.val (.ref a1)] [(.ref a3)])) rfl (by rw [hml]; rfl) rfl (hb hby d5_10) (by decide) (W := 0) (cap := 1) (by show 2 * 0 + _ ≤ _; exact Nat.le_of_eq rfl) (by decide) (by decide) (by decide) (by decide)
  obtain ⟨b4, g4⟩ : ∃ z, z = h0.size := ⟨_, rfl⟩
  rw [← g4] at A4 B4 st4
  have lt_a1_b4 : a1 < h0.size := (hf0).lt
  have lt_a3_b4 : a3 < h0.size := (hf3).lt
  have g_b4 : n0 ≤ b4 := by rw [g4]; exact O0.1 ▸ O0.2.1
  have sz_b4 : h0.size ≤ b4 := by rw [g4]; exact (Keep.refl h0 []).1
  have f4_0 : Exa Z h4 a1 "com/example/keyfold/keyfold/client/Value" := (hf0).ext E4
  have f4_1 : Fld Z h4 a1 "com/example/keyfold/keyfold/client/Value" "type" "Lcom/example/keyfold/keyfold/client/ValueType;" (.ref w_n0) := (hf1).ext E4
  have f4_2 : Fld Z h4 a1 "com/example/keyfold/keyfold/client/Value" "content" "Ljava/lang/Object;" (.ref a3) := (hf2).ext E4
  have f4_3 : Exa Z h4 a3 "[B" := (hf3).ext E4
  have f4_4 : Arv Z h4 a3 kk .byte (1 : Int32) [(.int x0)] (.int (0 : Int32)) := (hf4).ext E4
  have O4 := O0.ext E4
  have K4 : Keep h0 h4 [] := (Keep.refl h0 []).ext E4
  have fv4 : Arv Z h4 b4 kk .byte (1 : Int32) [(.int x0)] (.int (0 : Int32)) := A4
  obtain ⟨T5, X5, e5, st5⟩ := castY X4 hx hZ hown (hw _ (List.mem_of_getElem? (i := 42) rfl)) e4 (Ins.self B4) (g := (mkF m 13 #[.val (.ref a1)] [(.ref b4)])) rfl rfl (hb hby d5_13)
  obtain ⟨fs, hr, hrun, hended, hW, hsame⟩ := X5.leave (v := some (.ref b4)) (fun h => by rw [Bd.returns] at h; cases h)
  refine ⟨_, _, pre0 _ ?_, hrun, hended, _, _, rfl, ?_, ⟨_, rfl⟩, hW, hsame.mono (by decide) (by decide)⟩
  · show Steps p.tables e below (s₁.setTop (mkF m 0 #[.val (.ref a1)] [])) _
    refine XS.aloadN X0.here hx rfl (hb hby d5_0) rfl rfl ?_
    show Steps p.tables e below (s₁.setTop (mkF m 1 #[.val (.ref a1)] [(.ref a1)])) _
    refine st1 _ ?_
    show Steps p.tables e below (T1.setTop (mkF m 4 #[.val (.ref a1)] [(.ref w_n0), (.ref a1)])) _
    refine st2.trans ?_
    show Steps p.tables e below (T2.setTop (mkF m 7 #[.val (.ref a1)] [(.ref a3)])) _
    refine st3 _ ?_
    show Steps p.tables e below (T3.setTop (mkF m 10 #[.val (.ref a1)] [(.ref a3)])) _
    refine st4 _ ?_
    show Steps p.tables e below (T4.setTop (mkF m 13 #[.val (.ref a1)] [(.ref b4)])) _
    refine st5 _ ?_
    show Steps p.tables e below (T5.setTop (mkF m 16 #[.val (.ref a1)] [(.ref b4)])) _
    jvm_step X5.here [X5.here.top, hx, (hb hby d5_16), X5.method', Bd.returns, Value.isRef, FieldType.isReference]
    first | (intro acts; rw [hr _ acts rfl rfl rfl]) | rw [hr _ _ rfl rfl rfl]
    exact Steps.refl _
  · show QW (fun v h => ∃ b4 : Addr, v = some (.ref b4) ∧ Keep h0 h [] ∧ n0 ≤ b4 ∧ h0.size ≤ b4 ∧ Exa Z h b4 "[B" ∧ Arv Z h b4 kk .byte (1 : Int32) [(.int x0)] (.int (0 : Int32))) n0 _ T5.heap _
    rw [e5]
    exact ⟨N2, ⟨b4, rfl, K4, g_b4, sz_b4, B4, fv4⟩⟩
theorem d7_6 : decode method_3_code 6 = .ok (.aload_n 0, 1) := by decide +kernel
theorem d7_7 : decode method_3_code 7 = .ok (.iload_n 1, 1) := by decide +kernel
theorem d7_8 : decode method_3_code 8 = .ok (.baload, 1) := by decide +kernel
theorem d7_9 : decode method_3_code 9 = .ok (.iload_n 2, 1) := by decide +kernel
theorem d7_10 : decode method_3_code 10 = .ok (.i2b, 1) := by decide +kernel
theorem d7_11 : decode method_3_code 11 = .ok (.if_icmp .ne 7, 3) := by decide +kernel
set_option maxRecDepth 65536 in
set_option maxHeartbeats 40000000 in
theorem rm7_1_0 (l : Launch) (Z : State) (a0 : Array Value) (hw : ∀ d ∈ tables_1, d.before a0 Z = true) (ws : List Jvm.Cond) {w_n0 : Addr} (W : Wd Z w_n0) (a1 : Addr) (p3 : Int32) (kk : ClassId) (x0 : Int32) (h0 : Heap) (n0 : Nat) (O0 : Old Z n0 h0) (heq : x0 = (p3.toInt8.toInt32)) (hf0 : Arv Z h0 a1 kk .byte (1 : Int32) [(.int x0)] (.int (0 : Int32))) :
    MetFree l (⟨"com/example/keyfold/keyfold/client/ValueOfBinaryPinLaw", "at", "([BII)Z"⟩ : MethodName) (head1 (Jvm.Cond.code (⟨"com/example/keyfold/keyfold/client/ValueOfBinaryPinLaw", "at", "([BII)Z"⟩ : MethodName) method_3_code 3 (some .boolean) :: ws) ({ frames := 0, cells := 0, slots := 0, locals := 0 } : Room)) (fun a U => a = #[(.ref a1), (.int (0 : Int32)), (.int p3)] ∧ Z.Warmed39 U.vm ∧ U.heap = h0) (fun _ _ _ _ _ => True) (fun _ U o U' => ∃ v L, o = .returned v ∧ QP (some (.int (1 : Int32))) h0 n0 v U'.heap L ∧ FrameEnd U o U' L ({ frames := 0, cells := 0, slots := 0, locals := 0 } : Room).cells ({ frames := 0, cells := 0, slots := 0, locals := 0 } : Room).slots) := by
  have W' := W; obtain ⟨S_n0, E_n0⟩ := W'
  refine MetFree.of_bodySF (plainFor_of_name pn_7) hisR ?_
  intro p e s m args below meth c s₁ Bd hml0 hP hK
  obtain ⟨rfl, hZ, hh⟩ := hP
  have hx := Bd.exec
  have hby := Bd.bytes
  have hml : c.maxLocals = 3 := hml0
  have hown : s.vm.findClass "com/example/keyfold/keyfold/client/ValueOfBinaryPinLaw" = some m.cls := findClass_of_methodNamed Bd.named
  have hnm := (name_of_methodNamed Bd.named Bd.method).1
  have X0 : Stand p l e ({ frames := 0, cells := 0, slots := 0, locals := 0 } : Room) s m #[(.ref a1), (.int (0 : Int32)), (.int p3)] below meth c s₁ [] 0 0 := Stand.of_body Bd
  have e0 : s₁.heap = h0 := by rw [← hh, Bd.state]; rfl
  have N0 := Fr.nil n0
  have pre0 : ∀ t, Steps p.tables e below (s₁.setTop (mkF m 0 #[.val (.ref a1), .val (.int (0 : Int32)), .val (.int p3)] [])) t → Steps p.tables e below (s₁.setTop (entryFrame m #[(.ref a1), (.int (0 : Int32)), (.int p3)] 3)) t := fun t k => castTop (ef_7_5 m a1 (0 : Int32) p3) k
  obtain ⟨cl1, Ar1, qk1, Sz1, Nz1, Hs1, Gs1⟩ := id hf0
  obtain ⟨cl2, Ar2, qk2, Sz2, Nz2, Hs2, Gs2⟩ := id hf0
  have hin2 : ¬ ((0 : Int32) < 0 ∨ cl2.slots.size ≤ ((0 : Int32)).toNatClampNeg) := inb_of Sz2 ⟨by decide, by decide⟩
  have hat2 : cl2.slots[((0 : Int32)).toNatClampNeg]? = some (.int x0) := Has.at Hs2 hin2 rfl
  obtain ⟨fs, hr, hrun, hended, hW, hsame⟩ := X0.leave (v := some (.int (1 : Int32))) (fun h => by rw [Bd.returns] at h; cases h)
  refine ⟨_, _, pre0 _ ?_, hrun, hended, _, _, rfl, ?_, ⟨_, rfl⟩, hW, hsame.mono (by decide) (by decide)⟩
  · show Steps p.tables e below (s₁.setTop (mkF m 0 #[.val (.ref a1), .val (.int (0 : Int32)), .val (.int p3)] [])) _
    refine XS.iloadN X0.here hx rfl (hb hby d7_0) rfl ?_
    show Steps p.tables e below (s₁.setTop (mkF m 1 #[.val (.ref a1), .val (.int (0 : Int32)), .val (.int p3)] [(.int (0 : Int32))])) _
    refine XS.aloadN X0.here hx rfl (hb hby d7_1) rfl rfl ?_
    show Steps p.tables e below (s₁.setTop (mkF m 2 #[.val (.ref a1), .val (.int (0 : Int32)), .val (.int p3)] [(.ref a1), (.int (0 : Int32))])) _
    refine X0.arraylength hx (by rw [e0]; exact Ar1.1) (State.isArrayOf_alike hZ.alike Ar1.2.1) (g := (mkF m 2 #[.val (.ref a1), .val (.int (0 : Int32)), .val (.int p3)] [(.ref a1), (.int (0 : Int32))])) rfl rfl (hb hby d7_2) _ ?_
    rw [len_of Sz1 Nz1]
    show Steps p.tables e below (s₁.setTop (mkF m 3 #[.val (.ref a1), .val (.int (0 : Int32)), .val (.int p3)] [(.int (1 : Int32)), (.int (0 : Int32))])) _
    refine XS.icmpNo X0.here hx rfl (hb hby d7_3) rfl (tlt ((by decide) : (0 : Int32) < (1 : Int32))).2.1 ?_
    show Steps p.tables e below (s₁.setTop (mkF m 6 #[.val (.ref a1), .val (.int (0 : Int32)), .val (.int p3)] [])) _
    refine XS.aloadN X0.here hx rfl (hb hby d7_6) rfl rfl ?_
    show Steps p.tables e below (s₁.setTop (mkF m 7 #[.val (.ref a1), .val (.int (0 : Int32)), .val (.int p3)] [(.ref a1)])) _
    refine XS.iloadN X0.here hx rfl (hb hby d7_7) rfl ?_
    show Steps p.tables e below (s₁.setTop (mkF m 8 #[.val (.ref a1), .val (.int (0 : Int32)), .val (.int p3)] [(.int (0 : Int32)), (.ref a1)])) _
    refine X0.baloadBytes hx (j := (0 : Int32)) (v := (.int x0)) (by rw [e0]; exact Ar2.1) (State.isArrayOf_alike hZ.alike Ar2.2.1) Ar2.2.2 hin2 hat2 (g := (mkF m 8 #[.val (.ref a1), .val (.int (0 : Int32)), .val (.int p3)] [(.int (0 : Int32)), (.ref a1)])) rfl rfl (hb hby d7_8) _ ?_
    show Steps p.tables e below (s₁.setTop (mkF m 9 #[.val (.ref a1), .val (.int (0 : Int32)), .val (.int p3)] [(.int x0)])) _
    refine XS.iloadN X0.here hx rfl (hb hby d7_9) rfl ?_
    show Steps p.tables e below (s₁.setTop (mkF m 10 #[.val (.ref a1), .val (.int (0 : Int32)), .val (.int p3)] [(.int p3), (.int x0)])) _
    refine XS.i2b X0.here hx rfl (hb hby d7_10) rfl ?_
    show Steps p.tables e below (s₁.setTop (mkF m 11 #[.val (.ref a1), .val (.int (0 : Int32)), .val (.int p3)] [(.int (p3.toInt8.toInt32)), (.int x0)])) _
    refine XS.icmpNo X0.here hx rfl (hb hby d7_11) rfl (teq (heq : x0 = (p3.toInt8.toInt32))).2 ?_
    show Steps p.tables e below (s₁.setTop (mkF m 14 #[.val (.ref a1), .val (.int (0 : Int32)), .val (.int p3)] [])) _
    refine XS.iconst X0.here hx rfl (hb hby d7_14) ?_
    show Steps p.tables e below (s₁.setTop (mkF m 15 #[.val (.ref a1), .val (.int (0 : Int32)), .val (.int p3)] [(.int (1 : Int32))])) _
    refine XS.goto X0.here hx rfl (pc0 := 15) (pc' := 19) rfl (hb hby d7_15) (by decide) (by decide) ?_
    show Steps p.tables e below (s₁.setTop (mkF m 19 #[.val (.ref a1), .val (.int (0 : Int32)), .val (.int p3)] [(.int (1 : Int32))])) _
    exact retN X0 hx (t := .boolean) Bd.returns (by simp) (hb hby d7_19) hr
  · show QP (some (.int (1 : Int32))) h0 n0 _ s₁.heap _
    rw [e0]
    exact ⟨rfl, N0, rfl⟩
set_option maxRecDepth 65536 in
set_option maxHeartbeats 40000000 in
theorem rm7_1_1 (l : Launch) (Z : State) (a0 : Array Value) (hw : ∀ d ∈ tables_1, d.before a0 Z = true) (ws : List Jvm.Cond) {w_n0 : Addr} (W : Wd Z w_n0) (a1 : Addr) (p3 : Int32) (kk : ClassId) (x0 : Int32) (h0 : Heap) (n0 : Nat) (O0 : Old Z n0 h0) (hf0 : Arv Z h0 a1 kk .byte (1 : Int32) [(.int x0)] (.int (0 : Int32))) :
    MetFree l (⟨"com/example/keyfold/keyfold/client/ValueOfBinaryPinLaw", "at", "([BII)Z"⟩ : MethodName) (head1 (Jvm.Cond.code (⟨"com/example/keyfold/keyfold/client/ValueOfBinaryPinLaw", "at", "([BII)Z"⟩ : MethodName) method_3_code 3 (some .boolean) :: ws) ({ frames := 0, cells := 0, slots := 0, locals := 0 } : Room)) (fun a U => a = #[(.ref a1), (.int (1 : Int32)), (.int p3)] ∧ Z.Warmed39 U.vm ∧ U.heap = h0) (fun _ _ _ _ _ => True) (fun _ U o U' => ∃ v L, o = .returned v ∧ QP (some (.int (1 : Int32))) h0 n0 v U'.heap L ∧ FrameEnd U o U' L ({ frames := 0, cells := 0, slots := 0, locals := 0 } : Room).cells ({ frames := 0, cells := 0, slots := 0, locals := 0 } : Room).slots) := by
  have W' := W; obtain ⟨S_n0, E_n0⟩ := W'
  refine MetFree.of_bodySF (plainFor_of_name pn_7) hisR ?_
  intro p e s m args below meth c s₁ Bd hml0 hP hK
  obtain ⟨rfl, hZ, hh⟩ := hP
  have hx := Bd.exec
  have hby := Bd.bytes
  have hml : c.maxLocals = 3 := hml0
  have hown : s.vm.findClass "com/example/keyfold/keyfold/client/ValueOfBinaryPinLaw" = some m.cls := findClass_of_methodNamed Bd.named
  have hnm := (name_of_methodNamed Bd.named Bd.method).1
  have X0 : Stand p l e ({ frames := 0, cells := 0, slots := 0, locals := 0 } : Room) s m #[(.ref a1), (.int (1 : Int32)), (.int p3)] below meth c s₁ [] 0 0 := Stand.of_body Bd
  have e0 : s₁.heap = h0 := by rw [← hh, Bd.state]; rfl
  have N0 := Fr.nil n0
  have pre0 : ∀ t, Steps p.tables e below (s₁.setTop (mkF m 0 #[.val (.ref a1), .val (.int (1 : Int32)), .val (.int p3)] [])) t → Steps p.tables e below (s₁.setTop (entryFrame m #[(.ref a1), (.int (1 : Int32)), (.int p3)] 3)) t := fun t k => castTop (ef_7_5 m a1 (1 : Int32) p3) k
  obtain ⟨cl1, Ar1, qk1, Sz1, Nz1, Hs1, Gs1⟩ := id hf0
  obtain ⟨fs, hr, hrun, hended, hW, hsame⟩ := X0.leave (v := some (.int (1 : Int32))) (fun h => by rw [Bd.returns] at h; cases h)
  refine ⟨_, _, pre0 _ ?_, hrun, hended, _, _, rfl, ?_, ⟨_, rfl⟩, hW, hsame.mono (by decide) (by decide)⟩
  · show Steps p.tables e below (s₁.setTop (mkF m 0 #[.val (.ref a1), .val (.int (1 : Int32)), .val (.int p3)] [])) _
    refine XS.iloadN X0.here hx rfl (hb hby d7_0) rfl ?_
    show Steps p.tables e below (s₁.setTop (mkF m 1 #[.val (.ref a1), .val (.int (1 : Int32)), .val (.int p3)] [(.int (1 : Int32))])) _
    refine XS.aloadN X0.here hx rfl (hb hby d7_1) rfl rfl ?_
    show Steps p.tables e below (s₁.setTop (mkF m 2 #[.val (.ref a1), .val (.int (1 : Int32)), .val (.int p3)] [(.ref a1), (.int (1 : Int32))])) _
    refine X0.arraylength hx (by rw [e0]; exact Ar1.1) (State.isArrayOf_alike hZ.alike Ar1.2.1) (g := (mkF m 2 #[.val (.ref a1), .val (.int (1 : Int32)), .val (.int p3)] [(.ref a1), (.int (1 : Int32))])) rfl rfl (hb hby d7_2) _ ?_
    rw [len_of Sz1 Nz1]
    show Steps p.tables e below (s₁.setTop (mkF m 3 #[.val (.ref a1), .val (.int (1 : Int32)), .val (.int p3)] [(.int (1 : Int32)), (.int (1 : Int32))])) _
    refine XS.icmpYes X0.here hx rfl (pc0 := 3) (pc' := 14) rfl (hb hby d7_3) rfl (flt ((by decide) : ¬ ((1 : Int32) < (1 : Int32)))).2.1 (by decide) (by decide) ?_
    show Steps p.tables e below (s₁.setTop (mkF m 14 #[.val (.ref a1), .val (.int (1 : Int32)), .val (.int p3)] [])) _
    refine XS.iconst X0.here hx rfl (hb hby d7_14) ?_
    show Steps p.tables e below (s₁.setTop (mkF m 15 #[.val (.ref a1), .val (.int (1 : Int32)), .val (.int p3)] [(.int (1 : Int32))])) _
    refine XS.goto X0.here hx rfl (pc0 := 15) (pc' := 19) rfl (hb hby d7_15) (by decide) (by decide) ?_
    show Steps p.tables e below (s₁.setTop (mkF m 19 #[.val (.ref a1), .val (.int (1 : Int32)), .val (.int p3)] [(.int (1 : Int32))])) _
    exact retN X0 hx (t := .boolean) Bd.returns (by simp) (hb hby d7_19) hr
  · show QP (some (.int (1 : Int32))) h0 n0 _ s₁.heap _
    rw [e0]
    exact ⟨rfl, N0, rfl⟩
set_option maxRecDepth 65536 in
set_option maxHeartbeats 40000000 in
theorem rm7_1_2 (l : Launch) (Z : State) (a0 : Array Value) (hw : ∀ d ∈ tables_1, d.before a0 Z = true) (ws : List Jvm.Cond) {w_n0 : Addr} (W : Wd Z w_n0) (a1 : Addr) (p3 : Int32) (kk : ClassId) (x0 : Int32) (h0 : Heap) (n0 : Nat) (O0 : Old Z n0 h0) (hf0 : Arv Z h0 a1 kk .byte (1 : Int32) [(.int x0)] (.int (0 : Int32))) :
    MetFree l (⟨"com/example/keyfold/keyfold/client/ValueOfBinaryPinLaw", "at", "([BII)Z"⟩ : MethodName) (head1 (Jvm.Cond.code (⟨"com/example/keyfold/keyfold/client/ValueOfBinaryPinLaw", "at", "([BII)Z"⟩ : MethodName) method_3_code 3 (some .boolean) :: ws) ({ frames := 0, cells := 0, slots := 0, locals := 0 } : Room)) (fun a U => a = #[(.ref a1), (.int (2 : Int32)), (.int p3)] ∧ Z.Warmed39 U.vm ∧ U.heap = h0) (fun _ _ _ _ _ => True) (fun _ U o U' => ∃ v L, o = .returned v ∧ QP (some (.int (1 : Int32))) h0 n0 v U'.heap L ∧ FrameEnd U o U' L ({ frames := 0, cells := 0, slots := 0, locals := 0 } : Room).cells ({ frames := 0, cells := 0, slots := 0, locals := 0 } : Room).slots) := by
  have W' := W; obtain ⟨S_n0, E_n0⟩ := W'
  refine MetFree.of_bodySF (plainFor_of_name pn_7) hisR ?_
  intro p e s m args below meth c s₁ Bd hml0 hP hK
  obtain ⟨rfl, hZ, hh⟩ := hP
  have hx := Bd.exec
  have hby := Bd.bytes
  have hml : c.maxLocals = 3 := hml0
  have hown : s.vm.findClass "com/example/keyfold/keyfold/client/ValueOfBinaryPinLaw" = some m.cls := findClass_of_methodNamed Bd.named
  have hnm := (name_of_methodNamed Bd.named Bd.method).1
  have X0 : Stand p l e ({ frames := 0, cells := 0, slots := 0, locals := 0 } : Room) s m #[(.ref a1), (.int (2 : Int32)), (.int p3)] below meth c s₁ [] 0 0 := Stand.of_body Bd
  have e0 : s₁.heap = h0 := by rw [← hh, Bd.state]; rfl
  have N0 := Fr.nil n0
  have pre0 : ∀ t, Steps p.tables e below (s₁.setTop (mkF m 0 #[.val (.ref a1), .val (.int (2 : Int32)), .val (.int p3)] [])) t → Steps p.tables e below (s₁.setTop (entryFrame m #[(.ref a1), (.int (2 : Int32)), (.int p3)] 3)) t := fun t k => castTop (ef_7_5 m a1 (2 : Int32) p3) k
  obtain ⟨cl1, Ar1, qk1, Sz1, Nz1, Hs1, Gs1⟩ := id hf0
  obtain ⟨fs, hr, hrun, hended, hW, hsame⟩ := X0.leave (v := some (.int (1 : Int32))) (fun h => by rw [Bd.returns] at h; cases h)
  refine ⟨_, _, pre0 _ ?_, hrun, hended, _, _, rfl, ?_, ⟨_, rfl⟩, hW, hsame.mono (by decide) (by decide)⟩
  · show Steps p.tables e below (s₁.setTop (mkF m 0 #[.val (.ref a1), .val (.int (2 : Int32)), .val (.int p3)] [])) _
    refine XS.iloadN X0.here hx rfl (hb hby d7_0) rfl ?_
    show Steps p.tables e below (s₁.setTop (mkF m 1 #[.val (.ref a1), .val (.int (2 : Int32)), .val (.int p3)] [(.int (2 : Int32))])) _
    refine XS.aloadN X0.here hx rfl (hb hby d7_1) rfl rfl ?_
    show Steps p.tables e below (s₁.setTop (mkF m 2 #[.val (.ref a1), .val (.int (2 : Int32)), .val (.int p3)] [(.ref a1), (.int (2 : Int32))])) _
    refine X0.arraylength hx (by rw [e0]; exact Ar1.1) (State.isArrayOf_alike hZ.alike Ar1.2.1) (g := (mkF m 2 #[.val (.ref a1), .val (.int (2 : Int32)), .val (.int p3)] [(.ref a1), (.int (2 : Int32))])) rfl rfl (hb hby d7_2) _ ?_
    rw [len_of Sz1 Nz1]
    show Steps p.tables e below (s₁.setTop (mkF m 3 #[.val (.ref a1), .val (.int (2 : Int32)), .val (.int p3)] [(.int (1 : Int32)), (.int (2 : Int32))])) _
    refine XS.icmpYes X0.here hx rfl (pc0 := 3) (pc' := 14) rfl (hb hby d7_3) rfl (flt ((by decide) : ¬ ((2 : Int32) < (1 : Int32)))).2.1 (by decide) (by decide) ?_
    show Steps p.tables e below (s₁.setTop (mkF m 14 #[.val (.ref a1), .val (.int (2 : Int32)), .val (.int p3)] [])) _
    refine XS.iconst X0.here hx rfl (hb hby d7_14) ?_
    show Steps p.tables e below (s₁.setTop (mkF m 15 #[.val (.ref a1), .val (.int (2 : Int32)), .val (.int p3)] [(.int (1 : Int32))])) _
    refine XS.goto X0.here hx rfl (pc0 := 15) (pc' := 19) rfl (hb hby d7_15) (by decide) (by decide) ?_
    show Steps p.tables e below (s₁.setTop (mkF m 19 #[.val (.ref a1), .val (.int (2 : Int32)), .val (.int p3)] [(.int (1 : Int32))])) _
    exact retN X0 hx (t := .boolean) Bd.returns (by simp) (hb hby d7_19) hr
  · show QP (some (.int (1 : Int32))) h0 n0 _ s₁.heap _
    rw [e0]
    exact ⟨rfl, N0, rfl⟩
set_option maxRecDepth 65536 in
set_option maxHeartbeats 40000000 in
theorem rm7_1_3 (l : Launch) (Z : State) (a0 : Array Value) (hw : ∀ d ∈ tables_1, d.before a0 Z = true) (ws : List Jvm.Cond) {w_n0 : Addr} (W : Wd Z w_n0) (a1 : Addr) (p3 : Int32) (kk : ClassId) (x0 : Int32) (h0 : Heap) (n0 : Nat) (O0 : Old Z n0 h0) (hf0 : Arv Z h0 a1 kk .byte (1 : Int32) [(.int x0)] (.int (0 : Int32))) :
    MetFree l (⟨"com/example/keyfold/keyfold/client/ValueOfBinaryPinLaw", "at", "([BII)Z"⟩ : MethodName) (head1 (Jvm.Cond.code (⟨"com/example/keyfold/keyfold/client/ValueOfBinaryPinLaw", "at", "([BII)Z"⟩ : MethodName) method_3_code 3 (some .boolean) :: ws) ({ frames := 0, cells := 0, slots := 0, locals := 0 } : Room)) (fun a U => a = #[(.ref a1), (.int (3 : Int32)), (.int p3)] ∧ Z.Warmed39 U.vm ∧ U.heap = h0) (fun _ _ _ _ _ => True) (fun _ U o U' => ∃ v L, o = .returned v ∧ QP (some (.int (1 : Int32))) h0 n0 v U'.heap L ∧ FrameEnd U o U' L ({ frames := 0, cells := 0, slots := 0, locals := 0 } : Room).cells ({ frames := 0, cells := 0, slots := 0, locals := 0 } : Room).slots) := by
  have W' := W; obtain ⟨S_n0, E_n0⟩ := W'
  refine MetFree.of_bodySF (plainFor_of_name pn_7) hisR ?_
  intro p e s m args below meth c s₁ Bd hml0 hP hK
  obtain ⟨rfl, hZ, hh⟩ := hP
  have hx := Bd.exec
  have hby := Bd.bytes
  have hml : c.maxLocals = 3 := hml0
  have hown : s.vm.findClass "com/example/keyfold/keyfold/client/ValueOfBinaryPinLaw" = some m.cls := findClass_of_methodNamed Bd.named
  have hnm := (name_of_methodNamed Bd.named Bd.method).1
  have X0 : Stand p l e ({ frames := 0, cells := 0, slots := 0, locals := 0 } : Room) s m #[(.ref a1), (.int (3 : Int32)), (.int p3)] below meth c s₁ [] 0 0 := Stand.of_body Bd
  have e0 : s₁.heap = h0 := by rw [← hh, Bd.state]; rfl
  have N0 := Fr.nil n0
  have pre0 : ∀ t, Steps p.tables e below (s₁.setTop (mkF m 0 #[.val (.ref a1), .val (.int (3 : Int32)), .val (.int p3)] [])) t → Steps p.tables e below (s₁.setTop (entryFrame m #[(.ref a1), (.int (3 : Int32)), (.int p3)] 3)) t := fun t k => castTop (ef_7_5 m a1 (3 : Int32) p3) k
  obtain ⟨cl1, Ar1, qk1, Sz1, Nz1, Hs1, Gs1⟩ := id hf0
  obtain ⟨fs, hr, hrun, hended, hW, hsame⟩ := X0.leave (v := some (.int (1 : Int32))) (fun h => by rw [Bd.returns] at h; cases h)
  refine ⟨_, _, pre0 _ ?_, hrun, hended, _, _, rfl, ?_, ⟨_, rfl⟩, hW, hsame.mono (by decide) (by decide)⟩
  · show Steps p.tables e below (s₁.setTop (mkF m 0 #[.val (.ref a1), .val (.int (3 : Int32)), .val (.int p3)] [])) _
    refine XS.iloadN X0.here hx rfl (hb hby d7_0) rfl ?_
    show Steps p.tables e below (s₁.setTop (mkF m 1 #[.val (.ref a1), .val (.int (3 : Int32)), .val (.int p3)] [(.int (3 : Int32))])) _
    refine XS.aloadN X0.here hx rfl (hb hby d7_1) rfl rfl ?_
    show Steps p.tables e below (s₁.setTop (mkF m 2 #[.val (.ref a1), .val (.int (3 : Int32)), .val (.int p3)] [(.ref a1), (.int (3 : Int32))])) _
    refine X0.arraylength hx (by rw [e0]; exact Ar1.1) (State.isArrayOf_alike hZ.alike Ar1.2.1) (g := (mkF m 2 #[.val (.ref a1), .val (.int (3 : Int32)), .val (.int p3)] [(.ref a1), (.int (3 : Int32))])) rfl rfl (hb hby d7_2) _ ?_
    rw [len_of Sz1 Nz1]
    show Steps p.tables e below (s₁.setTop (mkF m 3 #[.val (.ref a1), .val (.int (3 : Int32)), .val (.int p3)] [(.int (1 : Int32)), (.int (3 : Int32))])) _
    refine XS.icmpYes X0.here hx rfl (pc0 := 3) (pc' := 14) rfl (hb hby d7_3) rfl (flt ((by decide) : ¬ ((3 : Int32) < (1 : Int32)))).2.1 (by decide) (by decide) ?_
    show Steps p.tables e below (s₁.setTop (mkF m 14 #[.val (.ref a1), .val (.int (3 : Int32)), .val (.int p3)] [])) _
    refine XS.iconst X0.here hx rfl (hb hby d7_14) ?_
    show Steps p.tables e below (s₁.setTop (mkF m 15 #[.val (.ref a1), .val (.int (3 : Int32)), .val (.int p3)] [(.int (1 : Int32))])) _
    refine XS.goto X0.here hx rfl (pc0 := 15) (pc' := 19) rfl (hb hby d7_15) (by decide) (by decide) ?_
    show Steps p.tables e below (s₁.setTop (mkF m 19 #[.val (.ref a1), .val (.int (3 : Int32)), .val (.int p3)] [(.int (1 : Int32))])) _
    exact retN X0 hx (t := .boolean) Bd.returns (by simp) (hb hby d7_19) hr
  · show QP (some (.int (1 : Int32))) h0 n0 _ s₁.heap _
    rw [e0]
    exact ⟨rfl, N0, rfl⟩
set_option maxRecDepth 65536 in
set_option maxHeartbeats 40000000 in
theorem rm1_2 (l : Launch) (Z : State) (a0 : Array Value) (hw : ∀ d ∈ tables_1, d.before a0 Z = true) (ws : List Jvm.Cond) {w_n0 : Addr} (W : Wd Z w_n0) (a1 : Addr) (kk : ClassId) (x0 : Int32) (x1 : Int32) (h0 : Heap) (n0 : Nat) (O0 : Old Z n0 h0) (g_a1 : n0 ≤ a1) (hf0 : Exa Z h0 a1 "[B") (hf1 : Arv Z h0 a1 kk .byte (2 : Int32) [(.int x0), (.int x1)] (.int (0 : Int32))) :
    MetFree l (⟨"com/example/keyfold/keyfold/client/Value", "ofBinary", "([B)Lcom/example/keyfold/keyfold/client/Value;"⟩ : MethodName) (head1 (Jvm.Cond.code (⟨"com/example/keyfold/keyfold/client/Value", "ofBinary", "([B)Lcom/example/keyfold/keyfold/client/Value;"⟩ : MethodName) prog_11_method_6_code 1 (some (.object "com/example/keyfold/keyfold/client/Value")) :: ws) ({ frames := 2, cells := 2, slots := 4, locals := 27 } : Room)) (fun a U => a = #[(.ref a1)] ∧ Z.Warmed39 U.vm ∧ U.heap = h0) (fun _ _ _ _ _ => True) (fun _ U o U' => ∃ v L, o = .returned v ∧ QW (fun v h => ∃ b1 : Addr, ∃ b3 : Addr, v = some (.ref b1) ∧ Keep h0 h [] ∧ n0 ≤ b1 ∧ h0.size ≤ b1 ∧ n0 ≤ b3 ∧ h0.size ≤ b3 ∧ Exa Z h b1 "com/example/keyfold/keyfold/client/Value" ∧ Fld Z h b1 "com/example/keyfold/keyfold/client/Value" "type" "Lcom/example/keyfold/keyfold/client/ValueType;" (.ref w_n0) ∧ Fld Z h b1 "com/example/keyfold/keyfold/client/Value" "content" "Ljava/lang/Object;" (.ref b3) ∧ Exa Z h b3 "[B" ∧ Arv Z h b3 kk .byte (2 : Int32) [(.int x0), (.int x1)] (.int (0 : Int32))) n0 v U'.heap L ∧ FrameEnd U o U' L ({ frames := 2, cells := 2, slots := 4, locals := 27 } : Room).cells ({ frames := 2, cells := 2, slots := 4, locals := 27 } : Room).slots) := by
  have W' := W; obtain ⟨S_n0, E_n0⟩ := W'
  refine MetFree.of_bodySF (plainFor_of_name pn_1) hisR ?_
  intro p e s m args below meth c s₁ Bd hml0 hP hK
  obtain ⟨rfl, hZ, hh⟩ := hP
  have hx := Bd.exec
  have hby := Bd.bytes
  have hml : c.maxLocals = 1 := hml0
  have hown : s.vm.findClass "com/example/keyfold/keyfold/client/Value" = some m.cls := findClass_of_methodNamed Bd.named
  have hnm := (name_of_methodNamed Bd.named Bd.method).1
  have X0 : Stand p l e ({ frames := 2, cells := 2, slots := 4, locals := 27 } : Room) s m #[(.ref a1)] below meth c s₁ [] 0 0 := Stand.of_body Bd
  have e0 : s₁.heap = h0 := by rw [← hh, Bd.state]; rfl
  have N0 := Fr.nil n0
  have pre0 : ∀ t, Steps p.tables e below (s₁.setTop (mkF m 0 #[.val (.ref a1)] [])) t → Steps p.tables e below (s₁.setTop (entryFrame m #[(.ref a1)] 1)) t := fun t k => castTop (ef_1_3 m a1) k
  obtain ⟨T1, h1, X1, e1, E1, A1, D1, U1, st1⟩ := newO X0 hx hZ hown (hw _ (List.mem_of_getElem? (i := 5) rfl)) (hw _ (List.mem_of_getElem? (i := 6) rfl)) (hw _ (List.mem_of_getElem? (i := 3) rfl)) e0 (g := (mkF m 0 #[.val (.ref a1)] [])) rfl (hb hby d1_0) (by decide) (by decide)
  obtain ⟨b1, g1⟩ : ∃ z, z = h0.size := ⟨_, rfl⟩
  rw [← g1] at A1 D1 U1 st1
  have lt_a1_b1 : a1 < h0.size := (hf0).lt
  have g_b1 : n0 ≤ b1 := by rw [g1]; exact O0.1 ▸ O0.2.1
  have sz_b1 : h0.size ≤ b1 := by rw [g1]; exact (Keep.refl h0 []).1
  have f1_0 : Exa Z h1 a1 "[B" := (hf0).ext E1
  have f1_1 : Arv Z h1 a1 kk .byte (2 : Int32) [(.int x0), (.int x1)] (.int (0 : Int32)) := (hf1).ext E1
  have O1 := O0.ext E1
  have K1 : Keep h0 h1 [] := (Keep.refl h0 []).ext E1
  have f1_type : Fld Z h1 b1 "com/example/keyfold/keyfold/client/Value" "type" "Lcom/example/keyfold/keyfold/client/ValueType;" .null := D1 (Or.inr (hw _ (List.mem_of_getElem? (i := 24) rfl))) (ty := (.object "com/example/keyfold/keyfold/client/ValueType")) (by decide)
  have f1_content : Fld Z h1 b1 "com/example/keyfold/keyfold/client/Value" "content" "Ljava/lang/Object;" .null := D1 (Or.inr (hw _ (List.mem_of_getElem? (i := 26) rfl))) (ty := (.object "java/lang/Object")) (by decide)
  obtain ⟨T2, X2, e2, st2⟩ := getS2 X1 hx hZ hown (host := "") (Or.inl (hw _ (List.mem_of_getElem? (i := 7) rfl))) Via.refl e1 (S_n0.ext O1.2) (g := (mkF m 4 #[.val (.ref a1)] [(.ref b1), (.ref b1)])) rfl (hb hby d1_4)
  obtain ⟨T3, h3, X3, e3, E3, A3, B3, st3⟩ := cloneH X2 hx hZ hown (hw _ (List.mem_of_getElem? (i := 10) rfl)) (hw _ (List.mem_of_getElem? (i := 11) rfl)) (hw _ (List.mem_of_getElem? (i := 15) rfl)) (hw _ (List.mem_of_getElem? (i := 13) rfl)) (hw _ (List.mem_of_getElem? (i := 14) rfl)) (hw _ (List.mem_of_getElem? (i := 16) rfl)) e2 (f1_1).arh f1_0 (g := (mkF m 8 #[.val (.ref a1)] [(.ref a1), (.ref w_n0), (.ref b1), (.ref b1)])) rfl (by rw [hml]; rfl) rfl (hb hby d1_8) (by decide) (W := 3) (cap := 2) (by show 2 * 0 + _ ≤ _; exact Nat.le_of_eq rfl) (by decide) (by decide) (by decide) (by decide)
  obtain ⟨b3, g3⟩ : ∃ z, z = h1.size := ⟨_, rfl⟩
  rw [← g3] at A3 B3 st3
  have lt_a1_b3 : a1 < h1.size := (f1_0).lt
  have lt_b1_b3 : b1 < h1.size := (A1).lt
  have g_b3 : n0 ≤ b3 := by rw [g3]; exact O1.1 ▸ O1.2.1
  have sz_b3 : h0.size ≤ b3 := by rw [g3]; exact K1.1
  have f3_0 : Exa Z h3 a1 "[B" := (f1_0).ext E3
  have f3_1 : Arv Z h3 a1 kk .byte (2 : Int32) [(.int x0), (.int x1)] (.int (0 : Int32)) := (f1_1).ext E3
  have f3_2 : Exa Z h3 b1 "com/example/keyfold/keyfold/client/Value" := (A1).ext E3
  have f3_3 : Fld Z h3 b1 "com/example/keyfold/keyfold/client/Value" "type" "Lcom/example/keyfold/keyfold/client/ValueType;" .null := (f1_type).ext E3
  have f3_4 : Fld Z h3 b1 "com/example/keyfold/keyfold/client/Value" "content" "Ljava/lang/Object;" .null := (f1_content).ext E3
  have O3 := O1.ext E3
  have K3 : Keep h0 h3 [] := K1.ext E3
  have fv3 : Arv Z h3 b3 kk .byte (2 : Int32) [(.int x0), (.int x1)] (.int (0 : Int32)) := A3
  obtain ⟨_, _, ⟨T4, L4, k4, n4⟩, -, X4, ⟨Lc4, hQ4, l4, y4, z4⟩, st4⟩ := X3.specialBack hx (y := (⟨"com/example/keyfold/keyfold/client/Value", "<init>", "(Lcom/example/keyfold/keyfold/client/ValueType;Ljava/lang/Object;)V"⟩ : MethodName)) rfl hown (mvT hZ (hw _ (List.mem_of_getElem? (i := 17) rfl))) (mvT hZ (hw _ (List.mem_of_getElem? (i := 18) rfl))) (mvT hZ (hw _ (List.mem_of_getElem? (i := 19) rfl))) (by decide) (backOf (W := 1) (rm2 l Z a0 hw [] W b1 b3 h3 n0 O3 g_b1 f3_2 f3_3 f3_4) hZ (hw _ (List.mem_of_getElem? (i := 19) rfl)) (hw _ (List.mem_of_getElem? (i := 3) rfl)) (by decide) (by decide)) (g := (mkF m 11 #[.val (.ref a1)] [(.ref b3), (.ref w_n0), (.ref b1), (.ref b1)])) rfl (by rw [hml]; rfl) (Steps.refl _) (a := b1) (argsL := [(.ref w_n0), (.ref b3)]) (rest := [(.ref b1)]) (lenOf pd_0 rfl) rfl (by show 2 * 0 + _ ≤ _; exact Nat.le_of_eq rfl) (hb hby d1_11) (fun _ _ => ⟨rfl, e3, (by decide : 2 + 0 ≤ _), (by decide : 4 + 0 ≤ _)⟩)
  dsimp only [Pt.U, Pt.locs, Pt.cells, Pt.slots] at X4 l4 y4 z4 st4 hQ4
  subst l4 y4 z4
  obtain ⟨N4q, hP4⟩ := hQ4
  have N4 := Fr.app N0 N4q
  obtain ⟨rfl, Kp4, fp4_0, fp4_1, fp4_2⟩ := hP4
  have f4_0 : Exa Z T4.heap a1 "[B" := (f3_0).keep Kp4
  have f4_1 : Arv Z T4.heap a1 kk .byte (2 : Int32) [(.int x0), (.int x1)] (.int (0 : Int32)) := (f3_1).keep Kp4 (ninS (ne_exa f3_0 f3_2 (by decide)) nin0)
  have f4_2 : Exa Z T4.heap b1 "com/example/keyfold/keyfold/client/Value" := (f3_2).keep Kp4
  have f4_3 : Arv Z T4.heap b3 kk .byte (2 : Int32) [(.int x0), (.int x1)] (.int (0 : Int32)) := (fv3).keep Kp4 (ninS (ne_exa B3 f3_2 (by decide)) nin0)
  have f4_4 : Exa Z T4.heap b3 "[B" := (B3).keep Kp4
  have O4 := O3.keep Kp4 (allS g_b1 all0)
  have K4 : Keep h0 T4.heap [] := K3.trans Kp4 (allS (Or.inr sz_b1) all0)
  obtain ⟨fs, hr, hrun, hended, hW, hsame⟩ := X4.leave (v := some (.ref b1)) (fun h => by rw [Bd.returns] at h; cases h)
  refine ⟨_, _, pre0 _ ?_, hrun, hended, _, _, rfl, ?_, ⟨_, rfl⟩, hW, hsame.mono (by decide) (by decide)⟩
  · show Steps p.tables e below (s₁.setTop (mkF m 0 #[.val (.ref a1)] [])) _
    refine st1 _ ?_
    show Steps p.tables e below (T1.setTop (mkF m 3 #[.val (.ref a1)] [(.ref b1)])) _
    refine XS.dup X1.here hx rfl (hb hby d1_3) rfl rfl ?_
    show Steps p.tables e below (T1.setTop (mkF m 4 #[.val (.ref a1)] [(.ref b1), (.ref b1)])) _
    refine st2 _ ?_
    show Steps p.tables e below (T2.setTop (mkF m 7 #[.val (.ref a1)] [(.ref w_n0), (.ref b1), (.ref b1)])) _
    refine XS.aloadN X2.here hx rfl (hb hby d1_7) rfl rfl ?_
    show Steps p.tables e below (T2.setTop (mkF m 8 #[.val (.ref a1)] [(.ref a1), (.ref w_n0), (.ref b1), (.ref b1)])) _
    refine st3 _ ?_
    show Steps p.tables e below (T3.setTop (mkF m 11 #[.val (.ref a1)] [(.ref b3), (.ref w_n0), (.ref b1), (.ref b1)])) _
    refine st4.trans ?_
    show Steps p.tables e below (T4.setTop (mkF m 14 #[.val (.ref a1)] [(.ref b1)])) _
    jvm_step X4.here [X4.here.top, hx, (hb hby d1_14), X4.method', Bd.returns, Value.isRef, FieldType.isReference]
    first | (intro acts; rw [hr _ acts rfl rfl rfl]) | rw [hr _ _ rfl rfl rfl]
    exact Steps.refl _
  · show QW (fun v h => ∃ b1 : Addr, ∃ b3 : Addr, v = some (.ref b1) ∧ Keep h0 h [] ∧ n0 ≤ b1 ∧ h0.size ≤ b1 ∧ n0 ≤ b3 ∧ h0.size ≤ b3 ∧ Exa Z h b1 "com/example/keyfold/keyfold/client/Value" ∧ Fld Z h b1 "com/example/keyfold/keyfold/client/Value" "type" "Lcom/example/keyfold/keyfold/client/ValueType;" (.ref w_n0) ∧ Fld Z h b1 "com/example/keyfold/keyfold/client/Value" "content" "Ljava/lang/Object;" (.ref b3) ∧ Exa Z h b3 "[B" ∧ Arv Z h b3 kk .byte (2 : Int32) [(.int x0), (.int x1)] (.int (0 : Int32))) n0 _ T4.heap _
    exact ⟨N4, ⟨b1, b3, rfl, K4, g_b1, sz_b1, g_b3, sz_b3, fp4_0, fp4_1, fp4_2, f4_4, f4_3⟩⟩
set_option maxRecDepth 65536 in
set_option maxHeartbeats 40000000 in
theorem rm5_2 (l : Launch) (Z : State) (a0 : Array Value) (hw : ∀ d ∈ tables_1, d.before a0 Z = true) (ws : List Jvm.Cond) {w_n0 : Addr} (W : Wd Z w_n0) (a1 : Addr) (a3 : Addr) (kk : ClassId) (x0 : Int32) (x1 : Int32) (h0 : Heap) (n0 : Nat) (O0 : Old Z n0 h0) (g_a1 : n0 ≤ a1) (hf0 : Exa Z h0 a1 "com/example/keyfold/keyfold/client/Value") (hf1 : Fld Z h0 a1 "com/example/keyfold/keyfold/client/Value" "type" "Lcom/example/keyfold/keyfold/client/ValueType;" (.ref w_n0)) (hf2 : Fld Z h0 a1 "com/example/keyfold/keyfold/client/Value" "content" "Ljava/lang/Object;" (.ref a3)) (g_a3 : n0 ≤ a3) (hf3 : Exa Z h0 a3 "[B") (hf4 : Arv Z h0 a3 kk .byte (2 : Int32) [(.int x0), (.int x1)] (.int (0 : Int32))) :
    MetFree l (⟨"com/example/keyfold/keyfold/client/Value", "asBinary", "()[B"⟩ : MethodName) (head1 (Jvm.Cond.code (⟨"com/example/keyfold/keyfold/client/Value", "asBinary", "()[B"⟩ : MethodName) prog_11_method_13_code 1 (some (.array .byte)) :: ws) ({ frames := 1, cells := 1, slots := 2, locals := 14 } : Room)) (fun a U => a = #[(.ref a1)] ∧ Z.Warmed39 U.vm ∧ U.heap = h0) (fun _ _ _ _ _ => True) (fun _ U o U' => ∃ v L, o = .returned v ∧ QW (fun v h => ∃ b4 : Addr, v = some (.ref b4) ∧ Keep h0 h [] ∧ n0 ≤ b4 ∧ h0.size ≤ b4 ∧ Exa Z h b4 "[B" ∧ Arv Z h b4 kk .byte (2 : Int32) [(.int x0), (.int x1)] (.int (0 : Int32))) n0 v U'.heap L ∧ FrameEnd U o U' L ({ frames := 1, cells := 1, slots := 2, locals := 14 } : Room).cells ({ frames := 1, cells := 1, slots := 2, locals := 14 } : Room).slots) := by
  have W' := W; obtain ⟨S_n0, E_n0⟩ := W'
  refine MetFree.of_bodySF (plainFor_of_name pn_5) hisR ?_
  intro p e s m args below meth c s₁ Bd hml0 hP hK
  obtain ⟨rfl, hZ, hh⟩ := hP
  have hx := Bd.exec
  have hby := Bd.bytes
  have hml : c.maxLocals = 1 := hml0
  have hown : s.vm.findClass "com/example/keyfold/keyfold/client/Value" = some m.cls := findClass_of_methodNamed Bd.named
  have hnm := (name_of_methodNamed Bd.named Bd.method).1
  have X0 : Stand p l e ({ frames := 1, cells := 1, slots := 2, locals := 14 } : Room) s m #[(.ref a1)] below meth c s₁ [] 0 0 := Stand.of_body Bd
  have e0 : s₁.heap = h0 := by rw [← hh, Bd.state]; rfl
  have N0 := Fr.nil n0
  have pre0 : ∀ t, Steps p.tables e below (s₁.setTop (mkF m 0 #[.val (.ref a1)] [])) t → Steps p.tables e below (s₁.setTop (entryFrame m #[(.ref a1)] 1)) t := fun t k => castTop (ef_5_4 m a1) k
  obtain ⟨T1, X1, e1, st1⟩ := getS2 X0 hx hZ hown (host := "") (Or.inl (hw _ (List.mem_of_getElem? (i := 7) rfl))) Via.refl e0 (S_n0.ext O0.2) (g := (mkF m 1 #[.val (.ref a1)] [(.ref a1)])) rfl (hb hby d5_1)
  obtain ⟨cq2, q2, q2'⟩ := (hf0).cell
  obtain ⟨_, _, ⟨T2, L2, k2, n2⟩, -, X2, ⟨Lc2, hQ2, l2, y2, z2⟩, st2⟩ := X1.privateBack hx (y := (⟨"com/example/keyfold/keyfold/client/Value", "contentOf", "(Lcom/example/keyfold/keyfold/client/ValueType;)Ljava/lang/Object;"⟩ : MethodName)) hown (mvT hZ (hw _ (List.mem_of_getElem? (i := 38) rfl))) (mvT hZ (hw _ (List.mem_of_getElem? (i := 39) rfl))) (own_selP hZ (hw _ (List.mem_of_getElem? (i := 30) rfl)) rfl (hw _ (List.mem_of_getElem? (i := 40) rfl)) (hw _ (List.mem_of_getElem? (i := 39) rfl)) (by decide)) (Cond.privateMethod_at (mvP hZ (hw _ (List.mem_of_getElem? (i := 40) rfl)) (args := #[]))) (mvT hZ (hw _ (List.mem_of_getElem? (i := 41) rfl))) (by decide) (backOf (W := 0) (rm6 l Z a0 hw [] W a1 a3 h0 n0 O0 hf1 hf2) hZ (hw _ (List.mem_of_getElem? (i := 41) rfl)) (hw _ (List.mem_of_getElem? (i := 3) rfl)) (by decide) (by decide)) (g := (mkF m 4 #[.val (.ref a1)] [(.ref w_n0), (.ref a1)])) rfl (by rw [hml]; rfl) (Steps.refl _) (a := a1) (by rw [e1]; exact q2) q2' (argsL := [(.ref w_n0)]) (rest := []) (lenOf pd_1 rfl) rfl (by show 2 * 0 + _ ≤ _; exact Nat.le_of_eq rfl) (hb hby d5_4) (fun _ _ => ⟨rfl, e1, (by decide : 0 + 0 ≤ _), (by decide : 0 + 0 ≤ _)⟩)
  dsimp only [Pt.U, Pt.locs, Pt.cells, Pt.slots] at X2 l2 y2 z2 st2 hQ2
  subst l2 y2 z2
  obtain ⟨rfl, N2q, e2⟩ := hQ2
  have N2 := Fr.app N0 N2q
  obtain ⟨T3, X3, e3, st3⟩ := castY X2 hx hZ hown (hw _ (List.mem_of_getElem? (i := 42) rfl)) e2 (Ins.self hf3) (g := (mkF m 7 #[.val (.ref a1)] [(.ref a3)])) rfl rfl (hb hby d5_7)
  obtain ⟨T4, h4, X4, e4, E4, A4, B4, st4⟩ := cloneH X3 hx hZ hown (hw _ (List.mem_of_getElem? (i := 10) rfl)) (hw _ (List.mem_of_getElem? (i := 11) rfl)) (hw _ (List.mem_of_getElem? (i := 15) rfl)) (hw _ (List.mem_of_getElem? (i := 13) rfl)) (hw _ (List.mem_of_getElem? (i := 14) rfl)) (hw _ (List.mem_of_getElem? (i := 16) rfl)) e3 (hf4).arh hf3 (g := (mkF m 10 #[.val (.ref a1)] [(.ref a3)])) rfl (by rw [hml]; rfl) rfl (hb hby d5_10) (by decide) (W := 0) (cap := 2) (by show 2 * 0 + _ ≤ _; exact Nat.le_of_eq rfl) (by decide) (by decide) (by decide) (by decide)
  obtain ⟨b4, g4⟩ : ∃ z, z = h0.size := ⟨_, rfl⟩
  rw [← g4] at A4 B4 st4
  have lt_a1_b4 : a1 < h0.size := (hf0).lt
  have lt_a3_b4 : a3 < h0.size := (hf3).lt
  have g_b4 : n0 ≤ b4 := by rw [g4]; exact O0.1 ▸ O0.2.1
  have sz_b4 : h0.size ≤ b4 := by rw [g4]; exact (Keep.refl h0 []).1
  have f4_0 : Exa Z h4 a1 "com/example/keyfold/keyfold/client/Value" := (hf0).ext E4
  have f4_1 : Fld Z h4 a1 "com/example/keyfold/keyfold/client/Value" "type" "Lcom/example/keyfold/keyfold/client/ValueType;" (.ref w_n0) := (hf1).ext E4
  have f4_2 : Fld Z h4 a1 "com/example/keyfold/keyfold/client/Value" "content" "Ljava/lang/Object;" (.ref a3) := (hf2).ext E4
  have f4_3 : Exa Z h4 a3 "[B" := (hf3).ext E4
  have f4_4 : Arv Z h4 a3 kk .byte (2 : Int32) [(.int x0), (.int x1)] (.int (0 : Int32)) := (hf4).ext E4
  have O4 := O0.ext E4
  have K4 : Keep h0 h4 [] := (Keep.refl h0 []).ext E4
  have fv4 : Arv Z h4 b4 kk .byte (2 : Int32) [(.int x0), (.int x1)] (.int (0 : Int32)) := A4
  obtain ⟨T5, X5, e5, st5⟩ := castY X4 hx hZ hown (hw _ (List.mem_of_getElem? (i := 42) rfl)) e4 (Ins.self B4) (g := (mkF m 13 #[.val (.ref a1)] [(.ref b4)])) rfl rfl (hb hby d5_13)
  obtain ⟨fs, hr, hrun, hended, hW, hsame⟩ := X5.leave (v := some (.ref b4)) (fun h => by rw [Bd.returns] at h; cases h)
  refine ⟨_, _, pre0 _ ?_, hrun, hended, _, _, rfl, ?_, ⟨_, rfl⟩, hW, hsame.mono (by decide) (by decide)⟩
  · show Steps p.tables e below (s₁.setTop (mkF m 0 #[.val (.ref a1)] [])) _
    refine XS.aloadN X0.here hx rfl (hb hby d5_0) rfl rfl ?_
    show Steps p.tables e below (s₁.setTop (mkF m 1 #[.val (.ref a1)] [(.ref a1)])) _
    refine st1 _ ?_
    show Steps p.tables e below (T1.setTop (mkF m 4 #[.val (.ref a1)] [(.ref w_n0), (.ref a1)])) _
    refine st2.trans ?_
    show Steps p.tables e below (T2.setTop (mkF m 7 #[.val (.ref a1)] [(.ref a3)])) _
    refine st3 _ ?_
    show Steps p.tables e below (T3.setTop (mkF m 10 #[.val (.ref a1)] [(.ref a3)])) _
    refine st4 _ ?_
    show Steps p.tables e below (T4.setTop (mkF m 13 #[.val (.ref a1)] [(.ref b4)])) _
    refine st5 _ ?_
    show Steps p.tables e below (T5.setTop (mkF m 16 #[.val (.ref a1)] [(.ref b4)])) _
    jvm_step X5.here [X5.here.top, hx, (hb hby d5_16), X5.method', Bd.returns, Value.isRef, FieldType.isReference]
    first | (intro acts; rw [hr _ acts rfl rfl rfl]) | rw [hr _ _ rfl rfl rfl]
    exact Steps.refl _
  · show QW (fun v h => ∃ b4 : Addr, v = some (.ref b4) ∧ Keep h0 h [] ∧ n0 ≤ b4 ∧ h0.size ≤ b4 ∧ Exa Z h b4 "[B" ∧ Arv Z h b4 kk .byte (2 : Int32) [(.int x0), (.int x1)] (.int (0 : Int32))) n0 _ T5.heap _
    rw [e5]
    exact ⟨N2, ⟨b4, rfl, K4, g_b4, sz_b4, B4, fv4⟩⟩
set_option maxRecDepth 65536 in
set_option maxHeartbeats 40000000 in
theorem rm7_2_0 (l : Launch) (Z : State) (a0 : Array Value) (hw : ∀ d ∈ tables_1, d.before a0 Z = true) (ws : List Jvm.Cond) {w_n0 : Addr} (W : Wd Z w_n0) (a1 : Addr) (p3 : Int32) (kk : ClassId) (x0 : Int32) (x1 : Int32) (h0 : Heap) (n0 : Nat) (O0 : Old Z n0 h0) (heq : x0 = (p3.toInt8.toInt32)) (hf0 : Arv Z h0 a1 kk .byte (2 : Int32) [(.int x0), (.int x1)] (.int (0 : Int32))) :
    MetFree l (⟨"com/example/keyfold/keyfold/client/ValueOfBinaryPinLaw", "at", "([BII)Z"⟩ : MethodName) (head1 (Jvm.Cond.code (⟨"com/example/keyfold/keyfold/client/ValueOfBinaryPinLaw", "at", "([BII)Z"⟩ : MethodName) method_3_code 3 (some .boolean) :: ws) ({ frames := 0, cells := 0, slots := 0, locals := 0 } : Room)) (fun a U => a = #[(.ref a1), (.int (0 : Int32)), (.int p3)] ∧ Z.Warmed39 U.vm ∧ U.heap = h0) (fun _ _ _ _ _ => True) (fun _ U o U' => ∃ v L, o = .returned v ∧ QP (some (.int (1 : Int32))) h0 n0 v U'.heap L ∧ FrameEnd U o U' L ({ frames := 0, cells := 0, slots := 0, locals := 0 } : Room).cells ({ frames := 0, cells := 0, slots := 0, locals := 0 } : Room).slots) := by
  have W' := W; obtain ⟨S_n0, E_n0⟩ := W'
  refine MetFree.of_bodySF (plainFor_of_name pn_7) hisR ?_
  intro p e s m args below meth c s₁ Bd hml0 hP hK
  obtain ⟨rfl, hZ, hh⟩ := hP
  have hx := Bd.exec
  have hby := Bd.bytes
  have hml : c.maxLocals = 3 := hml0
  have hown : s.vm.findClass "com/example/keyfold/keyfold/client/ValueOfBinaryPinLaw" = some m.cls := findClass_of_methodNamed Bd.named
  have hnm := (name_of_methodNamed Bd.named Bd.method).1
  have X0 : Stand p l e ({ frames := 0, cells := 0, slots := 0, locals := 0 } : Room) s m #[(.ref a1), (.int (0 : Int32)), (.int p3)] below meth c s₁ [] 0 0 := Stand.of_body Bd
  have e0 : s₁.heap = h0 := by rw [← hh, Bd.state]; rfl
  have N0 := Fr.nil n0
  have pre0 : ∀ t, Steps p.tables e below (s₁.setTop (mkF m 0 #[.val (.ref a1), .val (.int (0 : Int32)), .val (.int p3)] [])) t → Steps p.tables e below (s₁.setTop (entryFrame m #[(.ref a1), (.int (0 : Int32)), (.int p3)] 3)) t := fun t k => castTop (ef_7_5 m a1 (0 : Int32) p3) k
  obtain ⟨cl1, Ar1, qk1, Sz1, Nz1, Hs1, Gs1⟩ := id hf0
  obtain ⟨cl2, Ar2, qk2, Sz2, Nz2, Hs2, Gs2⟩ := id hf0
  have hin2 : ¬ ((0 : Int32) < 0 ∨ cl2.slots.size ≤ ((0 : Int32)).toNatClampNeg) := inb_of Sz2 ⟨by decide, by decide⟩
  have hat2 : cl2.slots[((0 : Int32)).toNatClampNeg]? = some (.int x0) := Has.at Hs2 hin2 rfl
  obtain ⟨fs, hr, hrun, hended, hW, hsame⟩ := X0.leave (v := some (.int (1 : Int32))) (fun h => by rw [Bd.returns] at h; cases h)
  refine ⟨_, _, pre0 _ ?_, hrun, hended, _, _, rfl, ?_, ⟨_, rfl⟩, hW, hsame.mono (by decide) (by decide)⟩
  · show Steps p.tables e below (s₁.setTop (mkF m 0 #[.val (.ref a1), .val (.int (0 : Int32)), .val (.int p3)] [])) _
    refine XS.iloadN X0.here hx rfl (hb hby d7_0) rfl ?_
    show Steps p.tables e below (s₁.setTop (mkF m 1 #[.val (.ref a1), .val (.int (0 : Int32)), .val (.int p3)] [(.int (0 : Int32))])) _
    refine XS.aloadN X0.here hx rfl (hb hby d7_1) rfl rfl ?_
    show Steps p.tables e below (s₁.setTop (mkF m 2 #[.val (.ref a1), .val (.int (0 : Int32)), .val (.int p3)] [(.ref a1), (.int (0 : Int32))])) _
    refine X0.arraylength hx (by rw [e0]; exact Ar1.1) (State.isArrayOf_alike hZ.alike Ar1.2.1) (g := (mkF m 2 #[.val (.ref a1), .val (.int (0 : Int32)), .val (.int p3)] [(.ref a1), (.int (0 : Int32))])) rfl rfl (hb hby d7_2) _ ?_
    rw [len_of Sz1 Nz1]
    show Steps p.tables e below (s₁.setTop (mkF m 3 #[.val (.ref a1), .val (.int (0 : Int32)), .val (.int p3)] [(.int (2 : Int32)), (.int (0 : Int32))])) _
    refine XS.icmpNo X0.here hx rfl (hb hby d7_3) rfl (tlt ((by decide) : (0 : Int32) < (2 : Int32))).2.1 ?_
    show Steps p.tables e below (s₁.setTop (mkF m 6 #[.val (.ref a1), .val (.int (0 : Int32)), .val (.int p3)] [])) _
    refine XS.aloadN X0.here hx rfl (hb hby d7_6) rfl rfl ?_
    show Steps p.tables e below (s₁.setTop (mkF m 7 #[.val (.ref a1), .val (.int (0 : Int32)), .val (.int p3)] [(.ref a1)])) _
    refine XS.iloadN X0.here hx rfl (hb hby d7_7) rfl ?_
    show Steps p.tables e below (s₁.setTop (mkF m 8 #[.val (.ref a1), .val (.int (0 : Int32)), .val (.int p3)] [(.int (0 : Int32)), (.ref a1)])) _
    refine X0.baloadBytes hx (j := (0 : Int32)) (v := (.int x0)) (by rw [e0]; exact Ar2.1) (State.isArrayOf_alike hZ.alike Ar2.2.1) Ar2.2.2 hin2 hat2 (g := (mkF m 8 #[.val (.ref a1), .val (.int (0 : Int32)), .val (.int p3)] [(.int (0 : Int32)), (.ref a1)])) rfl rfl (hb hby d7_8) _ ?_
    show Steps p.tables e below (s₁.setTop (mkF m 9 #[.val (.ref a1), .val (.int (0 : Int32)), .val (.int p3)] [(.int x0)])) _
    refine XS.iloadN X0.here hx rfl (hb hby d7_9) rfl ?_
    show Steps p.tables e below (s₁.setTop (mkF m 10 #[.val (.ref a1), .val (.int (0 : Int32)), .val (.int p3)] [(.int p3), (.int x0)])) _
    refine XS.i2b X0.here hx rfl (hb hby d7_10) rfl ?_
    show Steps p.tables e below (s₁.setTop (mkF m 11 #[.val (.ref a1), .val (.int (0 : Int32)), .val (.int p3)] [(.int (p3.toInt8.toInt32)), (.int x0)])) _
    refine XS.icmpNo X0.here hx rfl (hb hby d7_11) rfl (teq (heq : x0 = (p3.toInt8.toInt32))).2 ?_
    show Steps p.tables e below (s₁.setTop (mkF m 14 #[.val (.ref a1), .val (.int (0 : Int32)), .val (.int p3)] [])) _
    refine XS.iconst X0.here hx rfl (hb hby d7_14) ?_
    show Steps p.tables e below (s₁.setTop (mkF m 15 #[.val (.ref a1), .val (.int (0 : Int32)), .val (.int p3)] [(.int (1 : Int32))])) _
    refine XS.goto X0.here hx rfl (pc0 := 15) (pc' := 19) rfl (hb hby d7_15) (by decide) (by decide) ?_
    show Steps p.tables e below (s₁.setTop (mkF m 19 #[.val (.ref a1), .val (.int (0 : Int32)), .val (.int p3)] [(.int (1 : Int32))])) _
    exact retN X0 hx (t := .boolean) Bd.returns (by simp) (hb hby d7_19) hr
  · show QP (some (.int (1 : Int32))) h0 n0 _ s₁.heap _
    rw [e0]
    exact ⟨rfl, N0, rfl⟩
set_option maxRecDepth 65536 in
set_option maxHeartbeats 40000000 in
theorem rm7_2_1 (l : Launch) (Z : State) (a0 : Array Value) (hw : ∀ d ∈ tables_1, d.before a0 Z = true) (ws : List Jvm.Cond) {w_n0 : Addr} (W : Wd Z w_n0) (a1 : Addr) (p3 : Int32) (kk : ClassId) (x0 : Int32) (x1 : Int32) (h0 : Heap) (n0 : Nat) (O0 : Old Z n0 h0) (heq : x1 = (p3.toInt8.toInt32)) (hf0 : Arv Z h0 a1 kk .byte (2 : Int32) [(.int x0), (.int x1)] (.int (0 : Int32))) :
    MetFree l (⟨"com/example/keyfold/keyfold/client/ValueOfBinaryPinLaw", "at", "([BII)Z"⟩ : MethodName) (head1 (Jvm.Cond.code (⟨"com/example/keyfold/keyfold/client/ValueOfBinaryPinLaw", "at", "([BII)Z"⟩ : MethodName) method_3_code 3 (some .boolean) :: ws) ({ frames := 0, cells := 0, slots := 0, locals := 0 } : Room)) (fun a U => a = #[(.ref a1), (.int (1 : Int32)), (.int p3)] ∧ Z.Warmed39 U.vm ∧ U.heap = h0) (fun _ _ _ _ _ => True) (fun _ U o U' => ∃ v L, o = .returned v ∧ QP (some (.int (1 : Int32))) h0 n0 v U'.heap L ∧ FrameEnd U o U' L ({ frames := 0, cells := 0, slots := 0, locals := 0 } : Room).cells ({ frames := 0, cells := 0, slots := 0, locals := 0 } : Room).slots) := by
  have W' := W; obtain ⟨S_n0, E_n0⟩ := W'
  refine MetFree.of_bodySF (plainFor_of_name pn_7) hisR ?_
  intro p e s m args below meth c s₁ Bd hml0 hP hK
  obtain ⟨rfl, hZ, hh⟩ := hP
  have hx := Bd.exec
  have hby := Bd.bytes
  have hml : c.maxLocals = 3 := hml0
  have hown : s.vm.findClass "com/example/keyfold/keyfold/client/ValueOfBinaryPinLaw" = some m.cls := findClass_of_methodNamed Bd.named
  have hnm := (name_of_methodNamed Bd.named Bd.method).1
  have X0 : Stand p l e ({ frames := 0, cells := 0, slots := 0, locals := 0 } : Room) s m #[(.ref a1), (.int (1 : Int32)), (.int p3)] below meth c s₁ [] 0 0 := Stand.of_body Bd
  have e0 : s₁.heap = h0 := by rw [← hh, Bd.state]; rfl
  have N0 := Fr.nil n0
  have pre0 : ∀ t, Steps p.tables e below (s₁.setTop (mkF m 0 #[.val (.ref a1), .val (.int (1 : Int32)), .val (.int p3)] [])) t → Steps p.tables e below (s₁.setTop (entryFrame m #[(.ref a1), (.int (1 : Int32)), (.int p3)] 3)) t := fun t k => castTop (ef_7_5 m a1 (1 : Int32) p3) k
  obtain ⟨cl1, Ar1, qk1, Sz1, Nz1, Hs1, Gs1⟩ := id hf0
  obtain ⟨cl2, Ar2, qk2, Sz2, Nz2, Hs2, Gs2⟩ := id hf0
  have hin2 : ¬ ((1 : Int32) < 0 ∨ cl2.slots.size ≤ ((1 : Int32)).toNatClampNeg) := inb_of Sz2 ⟨by decide, by decide⟩
  have hat2 : cl2.slots[((1 : Int32)).toNatClampNeg]? = some (.int x1) := Has.at Hs2 hin2 rfl
  obtain ⟨fs, hr, hrun, hended, hW, hsame⟩ := X0.leave (v := some (.int (1 : Int32))) (fun h => by rw [Bd.returns] at h; cases h)
  refine ⟨_, _, pre0 _ ?_, hrun, hended, _, _, rfl, ?_, ⟨_, rfl⟩, hW, hsame.mono (by decide) (by decide)⟩
  · show Steps p.tables e below (s₁.setTop (mkF m 0 #[.val (.ref a1), .val (.int (1 : Int32)), .val (.int p3)] [])) _
    refine XS.iloadN X0.here hx rfl (hb hby d7_0) rfl ?_
    show Steps p.tables e below (s₁.setTop (mkF m 1 #[.val (.ref a1), .val (.int (1 : Int32)), .val (.int p3)] [(.int (1 : Int32))])) _
    refine XS.aloadN X0.here hx rfl (hb hby d7_1) rfl rfl ?_
    show Steps p.tables e below (s₁.setTop (mkF m 2 #[.val (.ref a1), .val (.int (1 : Int32)), .val (.int p3)] [(.ref a1), (.int (1 : Int32))])) _
    refine X0.arraylength hx (by rw [e0]; exact Ar1.1) (State.isArrayOf_alike hZ.alike Ar1.2.1) (g := (mkF m 2 #[.val (.ref a1), .val (.int (1 : Int32)), .val (.int p3)] [(.ref a1), (.int (1 : Int32))])) rfl rfl (hb hby d7_2) _ ?_
    rw [len_of Sz1 Nz1]
    show Steps p.tables e below (s₁.setTop (mkF m 3 #[.val (.ref a1), .val (.int (1 : Int32)), .val (.int p3)] [(.int (2 : Int32)), (.int (1 : Int32))])) _
    refine XS.icmpNo X0.here hx rfl (hb hby d7_3) rfl (tlt ((by decide) : (1 : Int32) < (2 : Int32))).2.1 ?_
    show Steps p.tables e below (s₁.setTop (mkF m 6 #[.val (.ref a1), .val (.int (1 : Int32)), .val (.int p3)] [])) _
    refine XS.aloadN X0.here hx rfl (hb hby d7_6) rfl rfl ?_
    show Steps p.tables e below (s₁.setTop (mkF m 7 #[.val (.ref a1), .val (.int (1 : Int32)), .val (.int p3)] [(.ref a1)])) _
    refine XS.iloadN X0.here hx rfl (hb hby d7_7) rfl ?_
    show Steps p.tables e below (s₁.setTop (mkF m 8 #[.val (.ref a1), .val (.int (1 : Int32)), .val (.int p3)] [(.int (1 : Int32)), (.ref a1)])) _
    refine X0.baloadBytes hx (j := (1 : Int32)) (v := (.int x1)) (by rw [e0]; exact Ar2.1) (State.isArrayOf_alike hZ.alike Ar2.2.1) Ar2.2.2 hin2 hat2 (g := (mkF m 8 #[.val (.ref a1), .val (.int (1 : Int32)), .val (.int p3)] [(.int (1 : Int32)), (.ref a1)])) rfl rfl (hb hby d7_8) _ ?_
    show Steps p.tables e below (s₁.setTop (mkF m 9 #[.val (.ref a1), .val (.int (1 : Int32)), .val (.int p3)] [(.int x1)])) _
    refine XS.iloadN X0.here hx rfl (hb hby d7_9) rfl ?_
    show Steps p.tables e below (s₁.setTop (mkF m 10 #[.val (.ref a1), .val (.int (1 : Int32)), .val (.int p3)] [(.int p3), (.int x1)])) _
    refine XS.i2b X0.here hx rfl (hb hby d7_10) rfl ?_
    show Steps p.tables e below (s₁.setTop (mkF m 11 #[.val (.ref a1), .val (.int (1 : Int32)), .val (.int p3)] [(.int (p3.toInt8.toInt32)), (.int x1)])) _
    refine XS.icmpNo X0.here hx rfl (hb hby d7_11) rfl (teq (heq : x1 = (p3.toInt8.toInt32))).2 ?_
    show Steps p.tables e below (s₁.setTop (mkF m 14 #[.val (.ref a1), .val (.int (1 : Int32)), .val (.int p3)] [])) _
    refine XS.iconst X0.here hx rfl (hb hby d7_14) ?_
    show Steps p.tables e below (s₁.setTop (mkF m 15 #[.val (.ref a1), .val (.int (1 : Int32)), .val (.int p3)] [(.int (1 : Int32))])) _
    refine XS.goto X0.here hx rfl (pc0 := 15) (pc' := 19) rfl (hb hby d7_15) (by decide) (by decide) ?_
    show Steps p.tables e below (s₁.setTop (mkF m 19 #[.val (.ref a1), .val (.int (1 : Int32)), .val (.int p3)] [(.int (1 : Int32))])) _
    exact retN X0 hx (t := .boolean) Bd.returns (by simp) (hb hby d7_19) hr
  · show QP (some (.int (1 : Int32))) h0 n0 _ s₁.heap _
    rw [e0]
    exact ⟨rfl, N0, rfl⟩
set_option maxRecDepth 65536 in
set_option maxHeartbeats 40000000 in
theorem rm7_2_2 (l : Launch) (Z : State) (a0 : Array Value) (hw : ∀ d ∈ tables_1, d.before a0 Z = true) (ws : List Jvm.Cond) {w_n0 : Addr} (W : Wd Z w_n0) (a1 : Addr) (p3 : Int32) (kk : ClassId) (x0 : Int32) (x1 : Int32) (h0 : Heap) (n0 : Nat) (O0 : Old Z n0 h0) (hf0 : Arv Z h0 a1 kk .byte (2 : Int32) [(.int x0), (.int x1)] (.int (0 : Int32))) :
    MetFree l (⟨"com/example/keyfold/keyfold/client/ValueOfBinaryPinLaw", "at", "([BII)Z"⟩ : MethodName) (head1 (Jvm.Cond.code (⟨"com/example/keyfold/keyfold/client/ValueOfBinaryPinLaw", "at", "([BII)Z"⟩ : MethodName) method_3_code 3 (some .boolean) :: ws) ({ frames := 0, cells := 0, slots := 0, locals := 0 } : Room)) (fun a U => a = #[(.ref a1), (.int (2 : Int32)), (.int p3)] ∧ Z.Warmed39 U.vm ∧ U.heap = h0) (fun _ _ _ _ _ => True) (fun _ U o U' => ∃ v L, o = .returned v ∧ QP (some (.int (1 : Int32))) h0 n0 v U'.heap L ∧ FrameEnd U o U' L ({ frames := 0, cells := 0, slots := 0, locals := 0 } : Room).cells ({ frames := 0, cells := 0, slots := 0, locals := 0 } : Room).slots) := by
  have W' := W; obtain ⟨S_n0, E_n0⟩ := W'
  refine MetFree.of_bodySF (plainFor_of_name pn_7) hisR ?_
  intro p e s m args below meth c s₁ Bd hml0 hP hK
  obtain ⟨rfl, hZ, hh⟩ := hP
  have hx := Bd.exec
  have hby := Bd.bytes
  have hml : c.maxLocals = 3 := hml0
  have hown : s.vm.findClass "com/example/keyfold/keyfold/client/ValueOfBinaryPinLaw" = some m.cls := findClass_of_methodNamed Bd.named
  have hnm := (name_of_methodNamed Bd.named Bd.method).1
  have X0 : Stand p l e ({ frames := 0, cells := 0, slots := 0, locals := 0 } : Room) s m #[(.ref a1), (.int (2 : Int32)), (.int p3)] below meth c s₁ [] 0 0 := Stand.of_body Bd
  have e0 : s₁.heap = h0 := by rw [← hh, Bd.state]; rfl
  have N0 := Fr.nil n0
  have pre0 : ∀ t, Steps p.tables e below (s₁.setTop (mkF m 0 #[.val (.ref a1), .val (.int (2 : Int32)), .val (.int p3)] [])) t → Steps p.tables e below (s₁.setTop (entryFrame m #[(.ref a1), (.int (2 : Int32)), (.int p3)] 3)) t := fun t k => castTop (ef_7_5 m a1 (2 : Int32) p3) k
  obtain ⟨cl1, Ar1, qk1, Sz1, Nz1, Hs1, Gs1⟩ := id hf0
  obtain ⟨fs, hr, hrun, hended, hW, hsame⟩ := X0.leave (v := some (.int (1 : Int32))) (fun h => by rw [Bd.returns] at h; cases h)
  refine ⟨_, _, pre0 _ ?_, hrun, hended, _, _, rfl, ?_, ⟨_, rfl⟩, hW, hsame.mono (by decide) (by decide)⟩
  · show Steps p.tables e below (s₁.setTop (mkF m 0 #[.val (.ref a1), .val (.int (2 : Int32)), .val (.int p3)] [])) _
    refine XS.iloadN X0.here hx rfl (hb hby d7_0) rfl ?_
    show Steps p.tables e below (s₁.setTop (mkF m 1 #[.val (.ref a1), .val (.int (2 : Int32)), .val (.int p3)] [(.int (2 : Int32))])) _
    refine XS.aloadN X0.here hx rfl (hb hby d7_1) rfl rfl ?_
    show Steps p.tables e below (s₁.setTop (mkF m 2 #[.val (.ref a1), .val (.int (2 : Int32)), .val (.int p3)] [(.ref a1), (.int (2 : Int32))])) _
    refine X0.arraylength hx (by rw [e0]; exact Ar1.1) (State.isArrayOf_alike hZ.alike Ar1.2.1) (g := (mkF m 2 #[.val (.ref a1), .val (.int (2 : Int32)), .val (.int p3)] [(.ref a1), (.int (2 : Int32))])) rfl rfl (hb hby d7_2) _ ?_
    rw [len_of Sz1 Nz1]
    show Steps p.tables e below (s₁.setTop (mkF m 3 #[.val (.ref a1), .val (.int (2 : Int32)), .val (.int p3)] [(.int (2 : Int32)), (.int (2 : Int32))])) _
    refine XS.icmpYes X0.here hx rfl (pc0 := 3) (pc' := 14) rfl (hb hby d7_3) rfl (flt ((by decide) : ¬ ((2 : Int32) < (2 : Int32)))).2.1 (by decide) (by decide) ?_
    show Steps p.tables e below (s₁.setTop (mkF m 14 #[.val (.ref a1), .val (.int (2 : Int32)), .val (.int p3)] [])) _
    refine XS.iconst X0.here hx rfl (hb hby d7_14) ?_
    show Steps p.tables e below (s₁.setTop (mkF m 15 #[.val (.ref a1), .val (.int (2 : Int32)), .val (.int p3)] [(.int (1 : Int32))])) _
    refine XS.goto X0.here hx rfl (pc0 := 15) (pc' := 19) rfl (hb hby d7_15) (by decide) (by decide) ?_
    show Steps p.tables e below (s₁.setTop (mkF m 19 #[.val (.ref a1), .val (.int (2 : Int32)), .val (.int p3)] [(.int (1 : Int32))])) _
    exact retN X0 hx (t := .boolean) Bd.returns (by simp) (hb hby d7_19) hr
  · show QP (some (.int (1 : Int32))) h0 n0 _ s₁.heap _
    rw [e0]
    exact ⟨rfl, N0, rfl⟩
set_option maxRecDepth 65536 in
set_option maxHeartbeats 40000000 in
theorem rm7_2_3 (l : Launch) (Z : State) (a0 : Array Value) (hw : ∀ d ∈ tables_1, d.before a0 Z = true) (ws : List Jvm.Cond) {w_n0 : Addr} (W : Wd Z w_n0) (a1 : Addr) (p3 : Int32) (kk : ClassId) (x0 : Int32) (x1 : Int32) (h0 : Heap) (n0 : Nat) (O0 : Old Z n0 h0) (hf0 : Arv Z h0 a1 kk .byte (2 : Int32) [(.int x0), (.int x1)] (.int (0 : Int32))) :
    MetFree l (⟨"com/example/keyfold/keyfold/client/ValueOfBinaryPinLaw", "at", "([BII)Z"⟩ : MethodName) (head1 (Jvm.Cond.code (⟨"com/example/keyfold/keyfold/client/ValueOfBinaryPinLaw", "at", "([BII)Z"⟩ : MethodName) method_3_code 3 (some .boolean) :: ws) ({ frames := 0, cells := 0, slots := 0, locals := 0 } : Room)) (fun a U => a = #[(.ref a1), (.int (3 : Int32)), (.int p3)] ∧ Z.Warmed39 U.vm ∧ U.heap = h0) (fun _ _ _ _ _ => True) (fun _ U o U' => ∃ v L, o = .returned v ∧ QP (some (.int (1 : Int32))) h0 n0 v U'.heap L ∧ FrameEnd U o U' L ({ frames := 0, cells := 0, slots := 0, locals := 0 } : Room).cells ({ frames := 0, cells := 0, slots := 0, locals := 0 } : Room).slots) := by
  have W' := W; obtain ⟨S_n0, E_n0⟩ := W'
  refine MetFree.of_bodySF (plainFor_of_name pn_7) hisR ?_
  intro p e s m args below meth c s₁ Bd hml0 hP hK
  obtain ⟨rfl, hZ, hh⟩ := hP
  have hx := Bd.exec
  have hby := Bd.bytes
  have hml : c.maxLocals = 3 := hml0
  have hown : s.vm.findClass "com/example/keyfold/keyfold/client/ValueOfBinaryPinLaw" = some m.cls := findClass_of_methodNamed Bd.named
  have hnm := (name_of_methodNamed Bd.named Bd.method).1
  have X0 : Stand p l e ({ frames := 0, cells := 0, slots := 0, locals := 0 } : Room) s m #[(.ref a1), (.int (3 : Int32)), (.int p3)] below meth c s₁ [] 0 0 := Stand.of_body Bd
  have e0 : s₁.heap = h0 := by rw [← hh, Bd.state]; rfl
  have N0 := Fr.nil n0
  have pre0 : ∀ t, Steps p.tables e below (s₁.setTop (mkF m 0 #[.val (.ref a1), .val (.int (3 : Int32)), .val (.int p3)] [])) t → Steps p.tables e below (s₁.setTop (entryFrame m #[(.ref a1), (.int (3 : Int32)), (.int p3)] 3)) t := fun t k => castTop (ef_7_5 m a1 (3 : Int32) p3) k
  obtain ⟨cl1, Ar1, qk1, Sz1, Nz1, Hs1, Gs1⟩ := id hf0
  obtain ⟨fs, hr, hrun, hended, hW, hsame⟩ := X0.leave (v := some (.int (1 : Int32))) (fun h => by rw [Bd.returns] at h; cases h)
  refine ⟨_, _, pre0 _ ?_, hrun, hended, _, _, rfl, ?_, ⟨_, rfl⟩, hW, hsame.mono (by decide) (by decide)⟩
  · show Steps p.tables e below (s₁.setTop (mkF m 0 #[.val (.ref a1), .val (.int (3 : Int32)), .val (.int p3)] [])) _
    refine XS.iloadN X0.here hx rfl (hb hby d7_0) rfl ?_
    show Steps p.tables e below (s₁.setTop (mkF m 1 #[.val (.ref a1), .val (.int (3 : Int32)), .val (.int p3)] [(.int (3 : Int32))])) _
    refine XS.aloadN X0.here hx rfl (hb hby d7_1) rfl rfl ?_
    show Steps p.tables e below (s₁.setTop (mkF m 2 #[.val (.ref a1), .val (.int (3 : Int32)), .val (.int p3)] [(.ref a1), (.int (3 : Int32))])) _
    refine X0.arraylength hx (by rw [e0]; exact Ar1.1) (State.isArrayOf_alike hZ.alike Ar1.2.1) (g := (mkF m 2 #[.val (.ref a1), .val (.int (3 : Int32)), .val (.int p3)] [(.ref a1), (.int (3 : Int32))])) rfl rfl (hb hby d7_2) _ ?_
    rw [len_of Sz1 Nz1]
    show Steps p.tables e below (s₁.setTop (mkF m 3 #[.val (.ref a1), .val (.int (3 : Int32)), .val (.int p3)] [(.int (2 : Int32)), (.int (3 : Int32))])) _
    refine XS.icmpYes X0.here hx rfl (pc0 := 3) (pc' := 14) rfl (hb hby d7_3) rfl (flt ((by decide) : ¬ ((3 : Int32) < (2 : Int32)))).2.1 (by decide) (by decide) ?_
    show Steps p.tables e below (s₁.setTop (mkF m 14 #[.val (.ref a1), .val (.int (3 : Int32)), .val (.int p3)] [])) _
    refine XS.iconst X0.here hx rfl (hb hby d7_14) ?_
    show Steps p.tables e below (s₁.setTop (mkF m 15 #[.val (.ref a1), .val (.int (3 : Int32)), .val (.int p3)] [(.int (1 : Int32))])) _
    refine XS.goto X0.here hx rfl (pc0 := 15) (pc' := 19) rfl (hb hby d7_15) (by decide) (by decide) ?_
    show Steps p.tables e below (s₁.setTop (mkF m 19 #[.val (.ref a1), .val (.int (3 : Int32)), .val (.int p3)] [(.int (1 : Int32))])) _
    exact retN X0 hx (t := .boolean) Bd.returns (by simp) (hb hby d7_19) hr
  · show QP (some (.int (1 : Int32))) h0 n0 _ s₁.heap _
    rw [e0]
    exact ⟨rfl, N0, rfl⟩
set_option maxRecDepth 65536 in
set_option maxHeartbeats 40000000 in
theorem rm1_3 (l : Launch) (Z : State) (a0 : Array Value) (hw : ∀ d ∈ tables_1, d.before a0 Z = true) (ws : List Jvm.Cond) {w_n0 : Addr} (W : Wd Z w_n0) (a1 : Addr) (kk : ClassId) (x0 : Int32) (x1 : Int32) (x2 : Int32) (h0 : Heap) (n0 : Nat) (O0 : Old Z n0 h0) (g_a1 : n0 ≤ a1) (hf0 : Exa Z h0 a1 "[B") (hf1 : Arv Z h0 a1 kk .byte (3 : Int32) [(.int x0), (.int x1), (.int x2)] (.int (0 : Int32))) :
    MetFree l (⟨"com/example/keyfold/keyfold/client/Value", "ofBinary", "([B)Lcom/example/keyfold/keyfold/client/Value;"⟩ : MethodName) (head1 (Jvm.Cond.code (⟨"com/example/keyfold/keyfold/client/Value", "ofBinary", "([B)Lcom/example/keyfold/keyfold/client/Value;"⟩ : MethodName) prog_11_method_6_code 1 (some (.object "com/example/keyfold/keyfold/client/Value")) :: ws) ({ frames := 2, cells := 2, slots := 5, locals := 27 } : Room)) (fun a U => a = #[(.ref a1)] ∧ Z.Warmed39 U.vm ∧ U.heap = h0) (fun _ _ _ _ _ => True) (fun _ U o U' => ∃ v L, o = .returned v ∧ QW (fun v h => ∃ b1 : Addr, ∃ b3 : Addr, v = some (.ref b1) ∧ Keep h0 h [] ∧ n0 ≤ b1 ∧ h0.size ≤ b1 ∧ n0 ≤ b3 ∧ h0.size ≤ b3 ∧ Exa Z h b1 "com/example/keyfold/keyfold/client/Value" ∧ Fld Z h b1 "com/example/keyfold/keyfold/client/Value" "type" "Lcom/example/keyfold/keyfold/client/ValueType;" (.ref w_n0) ∧ Fld Z h b1 "com/example/keyfold/keyfold/client/Value" "content" "Ljava/lang/Object;" (.ref b3) ∧ Exa Z h b3 "[B" ∧ Arv Z h b3 kk .byte (3 : Int32) [(.int x0), (.int x1), (.int x2)] (.int (0 : Int32))) n0 v U'.heap L ∧ FrameEnd U o U' L ({ frames := 2, cells := 2, slots := 5, locals := 27 } : Room).cells ({ frames := 2, cells := 2, slots := 5, locals := 27 } : Room).slots) := by
  have W' := W; obtain ⟨S_n0, E_n0⟩ := W'
  refine MetFree.of_bodySF (plainFor_of_name pn_1) hisR ?_
  intro p e s m args below meth c s₁ Bd hml0 hP hK
  obtain ⟨rfl, hZ, hh⟩ := hP
  have hx := Bd.exec
  have hby := Bd.bytes
  have hml : c.maxLocals = 1 := hml0
  have hown : s.vm.findClass "com/example/keyfold/keyfold/client/Value" = some m.cls := findClass_of_methodNamed Bd.named
  have hnm := (name_of_methodNamed Bd.named Bd.method).1
  have X0 : Stand p l e ({ frames := 2, cells := 2, slots := 5, locals := 27 } : Room) s m #[(.ref a1)] below meth c s₁ [] 0 0 := Stand.of_body Bd
  have e0 : s₁.heap = h0 := by rw [← hh, Bd.state]; rfl
  have N0 := Fr.nil n0
  have pre0 : ∀ t, Steps p.tables e below (s₁.setTop (mkF m 0 #[.val (.ref a1)] [])) t → Steps p.tables e below (s₁.setTop (entryFrame m #[(.ref a1)] 1)) t := fun t k => castTop (ef_1_3 m a1) k
  obtain ⟨T1, h1, X1, e1, E1, A1, D1, U1, st1⟩ := newO X0 hx hZ hown (hw _ (List.mem_of_getElem? (i := 5) rfl)) (hw _ (List.mem_of_getElem? (i := 6) rfl)) (hw _ (List.mem_of_getElem? (i := 3) rfl)) e0 (g := (mkF m 0 #[.val (.ref a1)] [])) rfl (hb hby d1_0) (by decide) (by decide)
  obtain ⟨b1, g1⟩ : ∃ z, z = h0.size := ⟨_, rfl⟩
  rw [← g1] at A1 D1 U1 st1
  have lt_a1_b1 : a1 < h0.size := (hf0).lt
  have g_b1 : n0 ≤ b1 := by rw [g1]; exact O0.1 ▸ O0.2.1
  have sz_b1 : h0.size ≤ b1 := by rw [g1]; exact (Keep.refl h0 []).1
  have f1_0 : Exa Z h1 a1 "[B" := (hf0).ext E1
  have f1_1 : Arv Z h1 a1 kk .byte (3 : Int32) [(.int x0), (.int x1), (.int x2)] (.int (0 : Int32)) := (hf1).ext E1
  have O1 := O0.ext E1
  have K1 : Keep h0 h1 [] := (Keep.refl h0 []).ext E1
  have f1_type : Fld Z h1 b1 "com/example/keyfold/keyfold/client/Value" "type" "Lcom/example/keyfold/keyfold/client/ValueType;" .null := D1 (Or.inr (hw _ (List.mem_of_getElem? (i := 24) rfl))) (ty := (.object "com/example/keyfold/keyfold/client/ValueType")) (by decide)
  have f1_content : Fld Z h1 b1 "com/example/keyfold/keyfold/client/Value" "content" "Ljava/lang/Object;" .null := D1 (Or.inr (hw _ (List.mem_of_getElem? (i := 26) rfl))) (ty := (.object "java/lang/Object")) (by decide)
  obtain ⟨T2, X2, e2, st2⟩ := getS2 X1 hx hZ hown (host := "") (Or.inl (hw _ (List.mem_of_getElem? (i := 7) rfl))) Via.refl e1 (S_n0.ext O1.2) (g := (mkF m 4 #[.val (.ref a1)] [(.ref b1), (.ref b1)])) rfl (hb hby d1_4)
  obtain ⟨T3, h3, X3, e3, E3, A3, B3, st3⟩ := cloneH X2 hx hZ hown (hw _ (List.mem_of_getElem? (i := 10) rfl)) (hw _ (List.mem_of_getElem? (i := 11) rfl)) (hw _ (List.mem_of_getElem? (i := 15) rfl)) (hw _ (List.mem_of_getElem? (i := 13) rfl)) (hw _ (List.mem_of_getElem? (i := 14) rfl)) (hw _ (List.mem_of_getElem? (i := 16) rfl)) e2 (f1_1).arh f1_0 (g := (mkF m 8 #[.val (.ref a1)] [(.ref a1), (.ref w_n0), (.ref b1), (.ref b1)])) rfl (by rw [hml]; rfl) rfl (hb hby d1_8) (by decide) (W := 3) (cap := 3) (by show 2 * 0 + _ ≤ _; exact Nat.le_of_eq rfl) (by decide) (by decide) (by decide) (by decide)
  obtain ⟨b3, g3⟩ : ∃ z, z = h1.size := ⟨_, rfl⟩
  rw [← g3] at A3 B3 st3
  have lt_a1_b3 : a1 < h1.size := (f1_0).lt
  have lt_b1_b3 : b1 < h1.size := (A1).lt
  have g_b3 : n0 ≤ b3 := by rw [g3]; exact O1.1 ▸ O1.2.1
  have sz_b3 : h0.size ≤ b3 := by rw [g3]; exact K1.1
  have f3_0 : Exa Z h3 a1 "[B" := (f1_0).ext E3
  have f3_1 : Arv Z h3 a1 kk .byte (3 : Int32) [(.int x0), (.int x1), (.int x2)] (.int (0 : Int32)) := (f1_1).ext E3
  have f3_2 : Exa Z h3 b1 "com/example/keyfold/keyfold/client/Value" := (A1).ext E3
  have f3_3 : Fld Z h3 b1 "com/example/keyfold/keyfold/client/Value" "type" "Lcom/example/keyfold/keyfold/client/ValueType;" .null := (f1_type).ext E3
  have f3_4 : Fld Z h3 b1 "com/example/keyfold/keyfold/client/Value" "content" "Ljava/lang/Object;" .null := (f1_content).ext E3
  have O3 := O1.ext E3
  have K3 : Keep h0 h3 [] := K1.ext E3
  have fv3 : Arv Z h3 b3 kk .byte (3 : Int32) [(.int x0), (.int x1), (.int x2)] (.int (0 : Int32)) := A3
  obtain ⟨_, _, ⟨T4, L4, k4, n4⟩, -, X4, ⟨Lc4, hQ4, l4, y4, z4⟩, st4⟩ := X3.specialBack hx (y := (⟨"com/example/keyfold/keyfold/client/Value", "<init>", "(Lcom/example/keyfold/keyfold/client/ValueType;Ljava/lang/Object;)V"⟩ : MethodName)) rfl hown (mvT hZ (hw _ (List.mem_of_getElem? (i := 17) rfl))) (mvT hZ (hw _ (List.mem_of_getElem? (i := 18) rfl))) (mvT hZ (hw _ (List.mem_of_getElem? (i := 19) rfl))) (by decide) (backOf (W := 1) (rm2 l Z a0 hw [] W b1 b3 h3 n0 O3 g_b1 f3_2 f3_3 f3_4) hZ (hw _ (List.mem_of_getElem? (i := 19) rfl)) (hw _ (List.mem_of_getElem? (i := 3) rfl)) (by decide) (by decide)) (g := (mkF m 11 #[.val (.ref a1)] [(.ref b3), (.ref w_n0), (.ref b1), (.ref b1)])) rfl (by rw [hml]; rfl) (Steps.refl _) (a := b1) (argsL := [(.ref w_n0), (.ref b3)]) (rest := [(.ref b1)]) (lenOf pd_0 rfl) rfl (by show 2 * 0 + _ ≤ _; exact Nat.le_of_eq rfl) (hb hby d1_11) (fun _ _ => ⟨rfl, e3, (by decide : 2 + 0 ≤ _), (by decide : 5 + 0 ≤ _)⟩)
  dsimp only [Pt.U, Pt.locs, Pt.cells, Pt.slots] at X4 l4 y4 z4 st4 hQ4
  subst l4 y4 z4
  obtain ⟨N4q, hP4⟩ := hQ4
  have N4 := Fr.app N0 N4q
  obtain ⟨rfl, Kp4, fp4_0, fp4_1, fp4_2⟩ := hP4
  have f4_0 : Exa Z T4.heap a1 "[B" := (f3_0).keep Kp4
  have f4_1 : Arv Z T4.heap a1 kk .byte (3 : Int32) [(.int x0), (.int x1), (.int x2)] (.int (0 : Int32)) := (f3_1).keep Kp4 (ninS (ne_exa f3_0 f3_2 (by decide)) nin0)
  have f4_2 : Exa Z T4.heap b1 "com/example/keyfold/keyfold/client/Value" := (f3_2).keep Kp4
  have f4_3 : Arv Z T4.heap b3 kk .byte (3 : Int32) [(.int x0), (.int x1), (.int x2)] (.int (0 : Int32)) := (fv3).keep Kp4 (ninS (ne_exa B3 f3_2 (by decide)) nin0)
  have f4_4 : Exa Z T4.heap b3 "[B" := (B3).keep Kp4
  have O4 := O3.keep Kp4 (allS g_b1 all0)
  have K4 : Keep h0 T4.heap [] := K3.trans Kp4 (allS (Or.inr sz_b1) all0)
  obtain ⟨fs, hr, hrun, hended, hW, hsame⟩ := X4.leave (v := some (.ref b1)) (fun h => by rw [Bd.returns] at h; cases h)
  refine ⟨_, _, pre0 _ ?_, hrun, hended, _, _, rfl, ?_, ⟨_, rfl⟩, hW, hsame.mono (by decide) (by decide)⟩
  · show Steps p.tables e below (s₁.setTop (mkF m 0 #[.val (.ref a1)] [])) _
    refine st1 _ ?_
    show Steps p.tables e below (T1.setTop (mkF m 3 #[.val (.ref a1)] [(.ref b1)])) _
    refine XS.dup X1.here hx rfl (hb hby d1_3) rfl rfl ?_
    show Steps p.tables e below (T1.setTop (mkF m 4 #[.val (.ref a1)] [(.ref b1), (.ref b1)])) _
    refine st2 _ ?_
    show Steps p.tables e below (T2.setTop (mkF m 7 #[.val (.ref a1)] [(.ref w_n0), (.ref b1), (.ref b1)])) _
    refine XS.aloadN X2.here hx rfl (hb hby d1_7) rfl rfl ?_
    show Steps p.tables e below (T2.setTop (mkF m 8 #[.val (.ref a1)] [(.ref a1), (.ref w_n0), (.ref b1), (.ref b1)])) _
    refine st3 _ ?_
    show Steps p.tables e below (T3.setTop (mkF m 11 #[.val (.ref a1)] [(.ref b3), (.ref w_n0), (.ref b1), (.ref b1)])) _
    refine st4.trans ?_
    show Steps p.tables e below (T4.setTop (mkF m 14 #[.val (.ref a1)] [(.ref b1)])) _
    jvm_step X4.here [X4.here.top, hx, (hb hby d1_14), X4.method', Bd.returns, Value.isRef, FieldType.isReference]
    first | (intro acts; rw [hr _ acts rfl rfl rfl]) | rw [hr _ _ rfl rfl rfl]
    exact Steps.refl _
  · show QW (fun v h => ∃ b1 : Addr, ∃ b3 : Addr, v = some (.ref b1) ∧ Keep h0 h [] ∧ n0 ≤ b1 ∧ h0.size ≤ b1 ∧ n0 ≤ b3 ∧ h0.size ≤ b3 ∧ Exa Z h b1 "com/example/keyfold/keyfold/client/Value" ∧ Fld Z h b1 "com/example/keyfold/keyfold/client/Value" "type" "Lcom/example/keyfold/keyfold/client/ValueType;" (.ref w_n0) ∧ Fld Z h b1 "com/example/keyfold/keyfold/client/Value" "content" "Ljava/lang/Object;" (.ref b3) ∧ Exa Z h b3 "[B" ∧ Arv Z h b3 kk .byte (3 : Int32) [(.int x0), (.int x1), (.int x2)] (.int (0 : Int32))) n0 _ T4.heap _
    exact ⟨N4, ⟨b1, b3, rfl, K4, g_b1, sz_b1, g_b3, sz_b3, fp4_0, fp4_1, fp4_2, f4_4, f4_3⟩⟩
set_option maxRecDepth 65536 in
set_option maxHeartbeats 40000000 in
theorem rm5_3 (l : Launch) (Z : State) (a0 : Array Value) (hw : ∀ d ∈ tables_1, d.before a0 Z = true) (ws : List Jvm.Cond) {w_n0 : Addr} (W : Wd Z w_n0) (a1 : Addr) (a3 : Addr) (kk : ClassId) (x0 : Int32) (x1 : Int32) (x2 : Int32) (h0 : Heap) (n0 : Nat) (O0 : Old Z n0 h0) (g_a1 : n0 ≤ a1) (hf0 : Exa Z h0 a1 "com/example/keyfold/keyfold/client/Value") (hf1 : Fld Z h0 a1 "com/example/keyfold/keyfold/client/Value" "type" "Lcom/example/keyfold/keyfold/client/ValueType;" (.ref w_n0)) (hf2 : Fld Z h0 a1 "com/example/keyfold/keyfold/client/Value" "content" "Ljava/lang/Object;" (.ref a3)) (g_a3 : n0 ≤ a3) (hf3 : Exa Z h0 a3 "[B") (hf4 : Arv Z h0 a3 kk .byte (3 : Int32) [(.int x0), (.int x1), (.int x2)] (.int (0 : Int32))) :
    MetFree l (⟨"com/example/keyfold/keyfold/client/Value", "asBinary", "()[B"⟩ : MethodName) (head1 (Jvm.Cond.code (⟨"com/example/keyfold/keyfold/client/Value", "asBinary", "()[B"⟩ : MethodName) prog_11_method_13_code 1 (some (.array .byte)) :: ws) ({ frames := 1, cells := 1, slots := 3, locals := 14 } : Room)) (fun a U => a = #[(.ref a1)] ∧ Z.Warmed39 U.vm ∧ U.heap = h0) (fun _ _ _ _ _ => True) (fun _ U o U' => ∃ v L, o = .returned v ∧ QW (fun v h => ∃ b4 : Addr, v = some (.ref b4) ∧ Keep h0 h [] ∧ n0 ≤ b4 ∧ h0.size ≤ b4 ∧ Exa Z h b4 "[B" ∧ Arv Z h b4 kk .byte (3 : Int32) [(.int x0), (.int x1), (.int x2)] (.int (0 : Int32))) n0 v U'.heap L ∧ FrameEnd U o U' L ({ frames := 1, cells := 1, slots := 3, locals := 14 } : Room).cells ({ frames := 1, cells := 1, slots := 3, locals := 14 } : Room).slots) := by
  have W' := W; obtain ⟨S_n0, E_n0⟩ := W'
  refine MetFree.of_bodySF (plainFor_of_name pn_5) hisR ?_
  intro p e s m args below meth c s₁ Bd hml0 hP hK
  obtain ⟨rfl, hZ, hh⟩ := hP
  have hx := Bd.exec
  have hby := Bd.bytes
  have hml : c.maxLocals = 1 := hml0
  have hown : s.vm.findClass "com/example/keyfold/keyfold/client/Value" = some m.cls := findClass_of_methodNamed Bd.named
  have hnm := (name_of_methodNamed Bd.named Bd.method).1
  have X0 : Stand p l e ({ frames := 1, cells := 1, slots := 3, locals := 14 } : Room) s m #[(.ref a1)] below meth c s₁ [] 0 0 := Stand.of_body Bd
  have e0 : s₁.heap = h0 := by rw [← hh, Bd.state]; rfl
  have N0 := Fr.nil n0
  have pre0 : ∀ t, Steps p.tables e below (s₁.setTop (mkF m 0 #[.val (.ref a1)] [])) t → Steps p.tables e below (s₁.setTop (entryFrame m #[(.ref a1)] 1)) t := fun t k => castTop (ef_5_4 m a1) k
  obtain ⟨T1, X1, e1, st1⟩ := getS2 X0 hx hZ hown (host := "") (Or.inl (hw _ (List.mem_of_getElem? (i := 7) rfl))) Via.refl e0 (S_n0.ext O0.2) (g := (mkF m 1 #[.val (.ref a1)] [(.ref a1)])) rfl (hb hby d5_1)
  obtain ⟨cq2, q2, q2'⟩ := (hf0).cell
  obtain ⟨_, _, ⟨T2, L2, k2, n2⟩, -, X2, ⟨Lc2, hQ2, l2, y2, z2⟩, st2⟩ := X1.privateBack hx (y := (⟨"com/example/keyfold/keyfold/client/Value", "contentOf", "(Lcom/example/keyfold/keyfold/client/ValueType;)Ljava/lang/Object;"⟩ : MethodName)) hown (mvT hZ (hw _ (List.mem_of_getElem? (i := 38) rfl))) (mvT hZ (hw _ (List.mem_of_getElem? (i := 39) rfl))) (own_selP hZ (hw _ (List.mem_of_getElem? (i := 30) rfl)) rfl (hw _ (List.mem_of_getElem? (i := 40) rfl)) (hw _ (List.mem_of_getElem? (i := 39) rfl)) (by decide)) (Cond.privateMethod_at (mvP hZ (hw _ (List.mem_of_getElem? (i := 40) rfl)) (args := #[]))) (mvT hZ (hw _ (List.mem_of_getElem? (i := 41) rfl))) (by decide) (backOf (W := 0) (rm6 l Z a0 hw [] W a1 a3 h0 n0 O0 hf1 hf2) hZ (hw _ (List.mem_of_getElem? (i := 41) rfl)) (hw _ (List.mem_of_getElem? (i := 3) rfl)) (by decide) (by decide)) (g := (mkF m 4 #[.val (.ref a1)] [(.ref w_n0), (.ref a1)])) rfl (by rw [hml]; rfl) (Steps.refl _) (a := a1) (by rw [e1]; exact q2) q2' (argsL := [(.ref w_n0)]) (rest := []) (lenOf pd_1 rfl) rfl (by show 2 * 0 + _ ≤ _; exact Nat.le_of_eq rfl) (hb hby d5_4) (fun _ _ => ⟨rfl, e1, (by decide : 0 + 0 ≤ _), (by decide : 0 + 0 ≤ _)⟩)
  dsimp only [Pt.U, Pt.locs, Pt.cells, Pt.slots] at X2 l2 y2 z2 st2 hQ2
  subst l2 y2 z2
  obtain ⟨rfl, N2q, e2⟩ := hQ2
  have N2 := Fr.app N0 N2q
  obtain ⟨T3, X3, e3, st3⟩ := castY X2 hx hZ hown (hw _ (List.mem_of_getElem? (i := 42) rfl)) e2 (Ins.self hf3) (g := (mkF m 7 #[.val (.ref a1)] [(.ref a3)])) rfl rfl (hb hby d5_7)
  obtain ⟨T4, h4, X4, e4, E4, A4, B4, st4⟩ := cloneH X3 hx hZ hown (hw _ (List.mem_of_getElem? (i := 10) rfl)) (hw _ (List.mem_of_getElem? (i := 11) rfl)) (hw _ (List.mem_of_getElem? (i := 15) rfl)) (hw _ (List.mem_of_getElem? (i := 13) rfl)) (hw _ (List.mem_of_getElem? (i := 14) rfl)) (hw _ (List.mem_of_getElem? (i := 16) rfl)) e3 (hf4).arh hf3 (g := (mkF m 10 #[.val (.ref a1)] [(.ref a3)])) rfl (by rw [hml]; rfl) rfl (hb hby d5_10) (by decide) (W := 0) (cap := 3) (by show 2 * 0 + _ ≤ _; exact Nat.le_of_eq rfl) (by decide) (by decide) (by decide) (by decide)
  obtain ⟨b4, g4⟩ : ∃ z, z = h0.size := ⟨_, rfl⟩
  rw [← g4] at A4 B4 st4
  have lt_a1_b4 : a1 < h0.size := (hf0).lt
  have lt_a3_b4 : a3 < h0.size := (hf3).lt
  have g_b4 : n0 ≤ b4 := by rw [g4]; exact O0.1 ▸ O0.2.1
  have sz_b4 : h0.size ≤ b4 := by rw [g4]; exact (Keep.refl h0 []).1
  have f4_0 : Exa Z h4 a1 "com/example/keyfold/keyfold/client/Value" := (hf0).ext E4
  have f4_1 : Fld Z h4 a1 "com/example/keyfold/keyfold/client/Value" "type" "Lcom/example/keyfold/keyfold/client/ValueType;" (.ref w_n0) := (hf1).ext E4
  have f4_2 : Fld Z h4 a1 "com/example/keyfold/keyfold/client/Value" "content" "Ljava/lang/Object;" (.ref a3) := (hf2).ext E4
  have f4_3 : Exa Z h4 a3 "[B" := (hf3).ext E4
  have f4_4 : Arv Z h4 a3 kk .byte (3 : Int32) [(.int x0), (.int x1), (.int x2)] (.int (0 : Int32)) := (hf4).ext E4
  have O4 := O0.ext E4
  have K4 : Keep h0 h4 [] := (Keep.refl h0 []).ext E4
  have fv4 : Arv Z h4 b4 kk .byte (3 : Int32) [(.int x0), (.int x1), (.int x2)] (.int (0 : Int32)) := A4
  obtain ⟨T5, X5, e5, st5⟩ := castY X4 hx hZ hown (hw _ (List.mem_of_getElem? (i := 42) rfl)) e4 (Ins.self B4) (g := (mkF m 13 #[.val (.ref a1)] [(.ref b4)])) rfl rfl (hb hby d5_13)
  obtain ⟨fs, hr, hrun, hended, hW, hsame⟩ := X5.leave (v := some (.ref b4)) (fun h => by rw [Bd.returns] at h; cases h)
  refine ⟨_, _, pre0 _ ?_, hrun, hended, _, _, rfl, ?_, ⟨_, rfl⟩, hW, hsame.mono (by decide) (by decide)⟩
  · show Steps p.tables e below (s₁.setTop (mkF m 0 #[.val (.ref a1)] [])) _
    refine XS.aloadN X0.here hx rfl (hb hby d5_0) rfl rfl ?_
    show Steps p.tables e below (s₁.setTop (mkF m 1 #[.val (.ref a1)] [(.ref a1)])) _
    refine st1 _ ?_
    show Steps p.tables e below (T1.setTop (mkF m 4 #[.val (.ref a1)] [(.ref w_n0), (.ref a1)])) _
    refine st2.trans ?_
    show Steps p.tables e below (T2.setTop (mkF m 7 #[.val (.ref a1)] [(.ref a3)])) _
    refine st3 _ ?_
    show Steps p.tables e below (T3.setTop (mkF m 10 #[.val (.ref a1)] [(.ref a3)])) _
    refine st4 _ ?_
    show Steps p.tables e below (T4.setTop (mkF m 13 #[.val (.ref a1)] [(.ref b4)])) _
    refine st5 _ ?_
    show Steps p.tables e below (T5.setTop (mkF m 16 #[.val (.ref a1)] [(.ref b4)])) _
    jvm_step X5.here [X5.here.top, hx, (hb hby d5_16), X5.method', Bd.returns, Value.isRef, FieldType.isReference]
    first | (intro acts; rw [hr _ acts rfl rfl rfl]) | rw [hr _ _ rfl rfl rfl]
    exact Steps.refl _
  · show QW (fun v h => ∃ b4 : Addr, v = some (.ref b4) ∧ Keep h0 h [] ∧ n0 ≤ b4 ∧ h0.size ≤ b4 ∧ Exa Z h b4 "[B" ∧ Arv Z h b4 kk .byte (3 : Int32) [(.int x0), (.int x1), (.int x2)] (.int (0 : Int32))) n0 _ T5.heap _
    rw [e5]
    exact ⟨N2, ⟨b4, rfl, K4, g_b4, sz_b4, B4, fv4⟩⟩
set_option maxRecDepth 65536 in
set_option maxHeartbeats 40000000 in
theorem rm7_3_0 (l : Launch) (Z : State) (a0 : Array Value) (hw : ∀ d ∈ tables_1, d.before a0 Z = true) (ws : List Jvm.Cond) {w_n0 : Addr} (W : Wd Z w_n0) (a1 : Addr) (p3 : Int32) (kk : ClassId) (x0 : Int32) (x1 : Int32) (x2 : Int32) (h0 : Heap) (n0 : Nat) (O0 : Old Z n0 h0) (heq : x0 = (p3.toInt8.toInt32)) (hf0 : Arv Z h0 a1 kk .byte (3 : Int32) [(.int x0), (.int x1), (.int x2)] (.int (0 : Int32))) :
    MetFree l (⟨"com/example/keyfold/keyfold/client/ValueOfBinaryPinLaw", "at", "([BII)Z"⟩ : MethodName) (head1 (Jvm.Cond.code (⟨"com/example/keyfold/keyfold/client/ValueOfBinaryPinLaw", "at", "([BII)Z"⟩ : MethodName) method_3_code 3 (some .boolean) :: ws) ({ frames := 0, cells := 0, slots := 0, locals := 0 } : Room)) (fun a U => a = #[(.ref a1), (.int (0 : Int32)), (.int p3)] ∧ Z.Warmed39 U.vm ∧ U.heap = h0) (fun _ _ _ _ _ => True) (fun _ U o U' => ∃ v L, o = .returned v ∧ QP (some (.int (1 : Int32))) h0 n0 v U'.heap L ∧ FrameEnd U o U' L ({ frames := 0, cells := 0, slots := 0, locals := 0 } : Room).cells ({ frames := 0, cells := 0, slots := 0, locals := 0 } : Room).slots) := by
  have W' := W; obtain ⟨S_n0, E_n0⟩ := W'
  refine MetFree.of_bodySF (plainFor_of_name pn_7) hisR ?_
  intro p e s m args below meth c s₁ Bd hml0 hP hK
  obtain ⟨rfl, hZ, hh⟩ := hP
  have hx := Bd.exec
  have hby := Bd.bytes
  have hml : c.maxLocals = 3 := hml0
  have hown : s.vm.findClass "com/example/keyfold/keyfold/client/ValueOfBinaryPinLaw" = some m.cls := findClass_of_methodNamed Bd.named
  have hnm := (name_of_methodNamed Bd.named Bd.method).1
  have X0 : Stand p l e ({ frames := 0, cells := 0, slots := 0, locals := 0 } : Room) s m #[(.ref a1), (.int (0 : Int32)), (.int p3)] below meth c s₁ [] 0 0 := Stand.of_body Bd
  have e0 : s₁.heap = h0 := by rw [← hh, Bd.state]; rfl
  have N0 := Fr.nil n0
  have pre0 : ∀ t, Steps p.tables e below (s₁.setTop (mkF m 0 #[.val (.ref a1), .val (.int (0 : Int32)), .val (.int p3)] [])) t → Steps p.tables e below (s₁.setTop (entryFrame m #[(.ref a1), (.int (0 : Int32)), (.int p3)] 3)) t := fun t k => castTop (ef_7_5 m a1 (0 : Int32) p3) k
  obtain ⟨cl1, Ar1, qk1, Sz1, Nz1, Hs1, Gs1⟩ := id hf0
  obtain ⟨cl2, Ar2, qk2, Sz2, Nz2, Hs2, Gs2⟩ := id hf0
  have hin2 : ¬ ((0 : Int32) < 0 ∨ cl2.slots.size ≤ ((0 : Int32)).toNatClampNeg) := inb_of Sz2 ⟨by decide, by decide⟩
  have hat2 : cl2.slots[((0 : Int32)).toNatClampNeg]? = some (.int x0) := Has.at Hs2 hin2 rfl
  obtain ⟨fs, hr, hrun, hended, hW, hsame⟩ := X0.leave (v := some (.int (1 : Int32))) (fun h => by rw [Bd.returns] at h; cases h)
  refine ⟨_, _, pre0 _ ?_, hrun, hended, _, _, rfl, ?_, ⟨_, rfl⟩, hW, hsame.mono (by decide) (by decide)⟩
  · show Steps p.tables e below (s₁.setTop (mkF m 0 #[.val (.ref a1), .val (.int (0 : Int32)), .val (.int p3)] [])) _
    refine XS.iloadN X0.here hx rfl (hb hby d7_0) rfl ?_
    show Steps p.tables e below (s₁.setTop (mkF m 1 #[.val (.ref a1), .val (.int (0 : Int32)), .val (.int p3)] [(.int (0 : Int32))])) _
    refine XS.aloadN X0.here hx rfl (hb hby d7_1) rfl rfl ?_
    show Steps p.tables e below (s₁.setTop (mkF m 2 #[.val (.ref a1), .val (.int (0 : Int32)), .val (.int p3)] [(.ref a1), (.int (0 : Int32))])) _
    refine X0.arraylength hx (by rw [e0]; exact Ar1.1) (State.isArrayOf_alike hZ.alike Ar1.2.1) (g := (mkF m 2 #[.val (.ref a1), .val (.int (0 : Int32)), .val (.int p3)] [(.ref a1), (.int (0 : Int32))])) rfl rfl (hb hby d7_2) _ ?_
    rw [len_of Sz1 Nz1]
    show Steps p.tables e below (s₁.setTop (mkF m 3 #[.val (.ref a1), .val (.int (0 : Int32)), .val (.int p3)] [(.int (3 : Int32)), (.int (0 : Int32))])) _
    refine XS.icmpNo X0.here hx rfl (hb hby d7_3) rfl (tlt ((by decide) : (0 : Int32) < (3 : Int32))).2.1 ?_
    show Steps p.tables e below (s₁.setTop (mkF m 6 #[.val (.ref a1), .val (.int (0 : Int32)), .val (.int p3)] [])) _
    refine XS.aloadN X0.here hx rfl (hb hby d7_6) rfl rfl ?_
    show Steps p.tables e below (s₁.setTop (mkF m 7 #[.val (.ref a1), .val (.int (0 : Int32)), .val (.int p3)] [(.ref a1)])) _
    refine XS.iloadN X0.here hx rfl (hb hby d7_7) rfl ?_
    show Steps p.tables e below (s₁.setTop (mkF m 8 #[.val (.ref a1), .val (.int (0 : Int32)), .val (.int p3)] [(.int (0 : Int32)), (.ref a1)])) _
    refine X0.baloadBytes hx (j := (0 : Int32)) (v := (.int x0)) (by rw [e0]; exact Ar2.1) (State.isArrayOf_alike hZ.alike Ar2.2.1) Ar2.2.2 hin2 hat2 (g := (mkF m 8 #[.val (.ref a1), .val (.int (0 : Int32)), .val (.int p3)] [(.int (0 : Int32)), (.ref a1)])) rfl rfl (hb hby d7_8) _ ?_
    show Steps p.tables e below (s₁.setTop (mkF m 9 #[.val (.ref a1), .val (.int (0 : Int32)), .val (.int p3)] [(.int x0)])) _
    refine XS.iloadN X0.here hx rfl (hb hby d7_9) rfl ?_
    show Steps p.tables e below (s₁.setTop (mkF m 10 #[.val (.ref a1), .val (.int (0 : Int32)), .val (.int p3)] [(.int p3), (.int x0)])) _
    refine XS.i2b X0.here hx rfl (hb hby d7_10) rfl ?_
    show Steps p.tables e below (s₁.setTop (mkF m 11 #[.val (.ref a1), .val (.int (0 : Int32)), .val (.int p3)] [(.int (p3.toInt8.toInt32)), (.int x0)])) _
    refine XS.icmpNo X0.here hx rfl (hb hby d7_11) rfl (teq (heq : x0 = (p3.toInt8.toInt32))).2 ?_
    show Steps p.tables e below (s₁.setTop (mkF m 14 #[.val (.ref a1), .val (.int (0 : Int32)), .val (.int p3)] [])) _
    refine XS.iconst X0.here hx rfl (hb hby d7_14) ?_
    show Steps p.tables e below (s₁.setTop (mkF m 15 #[.val (.ref a1), .val (.int (0 : Int32)), .val (.int p3)] [(.int (1 : Int32))])) _
    refine XS.goto X0.here hx rfl (pc0 := 15) (pc' := 19) rfl (hb hby d7_15) (by decide) (by decide) ?_
    show Steps p.tables e below (s₁.setTop (mkF m 19 #[.val (.ref a1), .val (.int (0 : Int32)), .val (.int p3)] [(.int (1 : Int32))])) _
    exact retN X0 hx (t := .boolean) Bd.returns (by simp) (hb hby d7_19) hr
  · show QP (some (.int (1 : Int32))) h0 n0 _ s₁.heap _
    rw [e0]
    exact ⟨rfl, N0, rfl⟩
set_option maxRecDepth 65536 in
set_option maxHeartbeats 40000000 in
theorem rm7_3_1 (l : Launch) (Z : State) (a0 : Array Value) (hw : ∀ d ∈ tables_1, d.before a0 Z = true) (ws : List Jvm.Cond) {w_n0 : Addr} (W : Wd Z w_n0) (a1 : Addr) (p3 : Int32) (kk : ClassId) (x0 : Int32) (x1 : Int32) (x2 : Int32) (h0 : Heap) (n0 : Nat) (O0 : Old Z n0 h0) (heq : x1 = (p3.toInt8.toInt32)) (hf0 : Arv Z h0 a1 kk .byte (3 : Int32) [(.int x0), (.int x1), (.int x2)] (.int (0 : Int32))) :
    MetFree l (⟨"com/example/keyfold/keyfold/client/ValueOfBinaryPinLaw", "at", "([BII)Z"⟩ : MethodName) (head1 (Jvm.Cond.code (⟨"com/example/keyfold/keyfold/client/ValueOfBinaryPinLaw", "at", "([BII)Z"⟩ : MethodName) method_3_code 3 (some .boolean) :: ws) ({ frames := 0, cells := 0, slots := 0, locals := 0 } : Room)) (fun a U => a = #[(.ref a1), (.int (1 : Int32)), (.int p3)] ∧ Z.Warmed39 U.vm ∧ U.heap = h0) (fun _ _ _ _ _ => True) (fun _ U o U' => ∃ v L, o = .returned v ∧ QP (some (.int (1 : Int32))) h0 n0 v U'.heap L ∧ FrameEnd U o U' L ({ frames := 0, cells := 0, slots := 0, locals := 0 } : Room).cells ({ frames := 0, cells := 0, slots := 0, locals := 0 } : Room).slots) := by
  have W' := W; obtain ⟨S_n0, E_n0⟩ := W'
  refine MetFree.of_bodySF (plainFor_of_name pn_7) hisR ?_
  intro p e s m args below meth c s₁ Bd hml0 hP hK
  obtain ⟨rfl, hZ, hh⟩ := hP
  have hx := Bd.exec
  have hby := Bd.bytes
  have hml : c.maxLocals = 3 := hml0
  have hown : s.vm.findClass "com/example/keyfold/keyfold/client/ValueOfBinaryPinLaw" = some m.cls := findClass_of_methodNamed Bd.named
  have hnm := (name_of_methodNamed Bd.named Bd.method).1
  have X0 : Stand p l e ({ frames := 0, cells := 0, slots := 0, locals := 0 } : Room) s m #[(.ref a1), (.int (1 : Int32)), (.int p3)] below meth c s₁ [] 0 0 := Stand.of_body Bd
  have e0 : s₁.heap = h0 := by rw [← hh, Bd.state]; rfl
  have N0 := Fr.nil n0
  have pre0 : ∀ t, Steps p.tables e below (s₁.setTop (mkF m 0 #[.val (.ref a1), .val (.int (1 : Int32)), .val (.int p3)] [])) t → Steps p.tables e below (s₁.setTop (entryFrame m #[(.ref a1), (.int (1 : Int32)), (.int p3)] 3)) t := fun t k => castTop (ef_7_5 m a1 (1 : Int32) p3) k
  obtain ⟨cl1, Ar1, qk1, Sz1, Nz1, Hs1, Gs1⟩ := id hf0
  obtain ⟨cl2, Ar2, qk2, Sz2, Nz2, Hs2, Gs2⟩ := id hf0
  have hin2 : ¬ ((1 : Int32) < 0 ∨ cl2.slots.size ≤ ((1 : Int32)).toNatClampNeg) := inb_of Sz2 ⟨by decide, by decide⟩
  have hat2 : cl2.slots[((1 : Int32)).toNatClampNeg]? = some (.int x1) := Has.at Hs2 hin2 rfl
  obtain ⟨fs, hr, hrun, hended, hW, hsame⟩ := X0.leave (v := some (.int (1 : Int32))) (fun h => by rw [Bd.returns] at h; cases h)
  refine ⟨_, _, pre0 _ ?_, hrun, hended, _, _, rfl, ?_, ⟨_, rfl⟩, hW, hsame.mono (by decide) (by decide)⟩
  · show Steps p.tables e below (s₁.setTop (mkF m 0 #[.val (.ref a1), .val (.int (1 : Int32)), .val (.int p3)] [])) _
    refine XS.iloadN X0.here hx rfl (hb hby d7_0) rfl ?_
    show Steps p.tables e below (s₁.setTop (mkF m 1 #[.val (.ref a1), .val (.int (1 : Int32)), .val (.int p3)] [(.int (1 : Int32))])) _
    refine XS.aloadN X0.here hx rfl (hb hby d7_1) rfl rfl ?_
    show Steps p.tables e below (s₁.setTop (mkF m 2 #[.val (.ref a1), .val (.int (1 : Int32)), .val (.int p3)] [(.ref a1), (.int (1 : Int32))])) _
    refine X0.arraylength hx (by rw [e0]; exact Ar1.1) (State.isArrayOf_alike hZ.alike Ar1.2.1) (g := (mkF m 2 #[.val (.ref a1), .val (.int (1 : Int32)), .val (.int p3)] [(.ref a1), (.int (1 : Int32))])) rfl rfl (hb hby d7_2) _ ?_
    rw [len_of Sz1 Nz1]
    show Steps p.tables e below (s₁.setTop (mkF m 3 #[.val (.ref a1), .val (.int (1 : Int32)), .val (.int p3)] [(.int (3 : Int32)), (.int (1 : Int32))])) _
    refine XS.icmpNo X0.here hx rfl (hb hby d7_3) rfl (tlt ((by decide) : (1 : Int32) < (3 : Int32))).2.1 ?_
    show Steps p.tables e below (s₁.setTop (mkF m 6 #[.val (.ref a1), .val (.int (1 : Int32)), .val (.int p3)] [])) _
    refine XS.aloadN X0.here hx rfl (hb hby d7_6) rfl rfl ?_
    show Steps p.tables e below (s₁.setTop (mkF m 7 #[.val (.ref a1), .val (.int (1 : Int32)), .val (.int p3)] [(.ref a1)])) _
    refine XS.iloadN X0.here hx rfl (hb hby d7_7) rfl ?_
    show Steps p.tables e below (s₁.setTop (mkF m 8 #[.val (.ref a1), .val (.int (1 : Int32)), .val (.int p3)] [(.int (1 : Int32)), (.ref a1)])) _
    refine X0.baloadBytes hx (j := (1 : Int32)) (v := (.int x1)) (by rw [e0]; exact Ar2.1) (State.isArrayOf_alike hZ.alike Ar2.2.1) Ar2.2.2 hin2 hat2 (g := (mkF m 8 #[.val (.ref a1), .val (.int (1 : Int32)), .val (.int p3)] [(.int (1 : Int32)), (.ref a1)])) rfl rfl (hb hby d7_8) _ ?_
    show Steps p.tables e below (s₁.setTop (mkF m 9 #[.val (.ref a1), .val (.int (1 : Int32)), .val (.int p3)] [(.int x1)])) _
    refine XS.iloadN X0.here hx rfl (hb hby d7_9) rfl ?_
    show Steps p.tables e below (s₁.setTop (mkF m 10 #[.val (.ref a1), .val (.int (1 : Int32)), .val (.int p3)] [(.int p3), (.int x1)])) _
    refine XS.i2b X0.here hx rfl (hb hby d7_10) rfl ?_
    show Steps p.tables e below (s₁.setTop (mkF m 11 #[.val (.ref a1), .val (.int (1 : Int32)), .val (.int p3)] [(.int (p3.toInt8.toInt32)), (.int x1)])) _
    refine XS.icmpNo X0.here hx rfl (hb hby d7_11) rfl (teq (heq : x1 = (p3.toInt8.toInt32))).2 ?_
    show Steps p.tables e below (s₁.setTop (mkF m 14 #[.val (.ref a1), .val (.int (1 : Int32)), .val (.int p3)] [])) _
    refine XS.iconst X0.here hx rfl (hb hby d7_14) ?_
    show Steps p.tables e below (s₁.setTop (mkF m 15 #[.val (.ref a1), .val (.int (1 : Int32)), .val (.int p3)] [(.int (1 : Int32))])) _
    refine XS.goto X0.here hx rfl (pc0 := 15) (pc' := 19) rfl (hb hby d7_15) (by decide) (by decide) ?_
    show Steps p.tables e below (s₁.setTop (mkF m 19 #[.val (.ref a1), .val (.int (1 : Int32)), .val (.int p3)] [(.int (1 : Int32))])) _
    exact retN X0 hx (t := .boolean) Bd.returns (by simp) (hb hby d7_19) hr
  · show QP (some (.int (1 : Int32))) h0 n0 _ s₁.heap _
    rw [e0]
    exact ⟨rfl, N0, rfl⟩
set_option maxRecDepth 65536 in
set_option maxHeartbeats 40000000 in
theorem rm7_3_2 (l : Launch) (Z : State) (a0 : Array Value) (hw : ∀ d ∈ tables_1, d.before a0 Z = true) (ws : List Jvm.Cond) {w_n0 : Addr} (W : Wd Z w_n0) (a1 : Addr) (p3 : Int32) (kk : ClassId) (x0 : Int32) (x1 : Int32) (x2 : Int32) (h0 : Heap) (n0 : Nat) (O0 : Old Z n0 h0) (heq : x2 = (p3.toInt8.toInt32)) (hf0 : Arv Z h0 a1 kk .byte (3 : Int32) [(.int x0), (.int x1), (.int x2)] (.int (0 : Int32))) :
    MetFree l (⟨"com/example/keyfold/keyfold/client/ValueOfBinaryPinLaw", "at", "([BII)Z"⟩ : MethodName) (head1 (Jvm.Cond.code (⟨"com/example/keyfold/keyfold/client/ValueOfBinaryPinLaw", "at", "([BII)Z"⟩ : MethodName) method_3_code 3 (some .boolean) :: ws) ({ frames := 0, cells := 0, slots := 0, locals := 0 } : Room)) (fun a U => a = #[(.ref a1), (.int (2 : Int32)), (.int p3)] ∧ Z.Warmed39 U.vm ∧ U.heap = h0) (fun _ _ _ _ _ => True) (fun _ U o U' => ∃ v L, o = .returned v ∧ QP (some (.int (1 : Int32))) h0 n0 v U'.heap L ∧ FrameEnd U o U' L ({ frames := 0, cells := 0, slots := 0, locals := 0 } : Room).cells ({ frames := 0, cells := 0, slots := 0, locals := 0 } : Room).slots) := by
  have W' := W; obtain ⟨S_n0, E_n0⟩ := W'
  refine MetFree.of_bodySF (plainFor_of_name pn_7) hisR ?_
  intro p e s m args below meth c s₁ Bd hml0 hP hK
  obtain ⟨rfl, hZ, hh⟩ := hP
  have hx := Bd.exec
  have hby := Bd.bytes
  have hml : c.maxLocals = 3 := hml0
  have hown : s.vm.findClass "com/example/keyfold/keyfold/client/ValueOfBinaryPinLaw" = some m.cls := findClass_of_methodNamed Bd.named
  have hnm := (name_of_methodNamed Bd.named Bd.method).1
  have X0 : Stand p l e ({ frames := 0, cells := 0, slots := 0, locals := 0 } : Room) s m #[(.ref a1), (.int (2 : Int32)), (.int p3)] below meth c s₁ [] 0 0 := Stand.of_body Bd
  have e0 : s₁.heap = h0 := by rw [← hh, Bd.state]; rfl
  have N0 := Fr.nil n0
  have pre0 : ∀ t, Steps p.tables e below (s₁.setTop (mkF m 0 #[.val (.ref a1), .val (.int (2 : Int32)), .val (.int p3)] [])) t → Steps p.tables e below (s₁.setTop (entryFrame m #[(.ref a1), (.int (2 : Int32)), (.int p3)] 3)) t := fun t k => castTop (ef_7_5 m a1 (2 : Int32) p3) k
  obtain ⟨cl1, Ar1, qk1, Sz1, Nz1, Hs1, Gs1⟩ := id hf0
  obtain ⟨cl2, Ar2, qk2, Sz2, Nz2, Hs2, Gs2⟩ := id hf0
  have hin2 : ¬ ((2 : Int32) < 0 ∨ cl2.slots.size ≤ ((2 : Int32)).toNatClampNeg) := inb_of Sz2 ⟨by decide, by decide⟩
  have hat2 : cl2.slots[((2 : Int32)).toNatClampNeg]? = some (.int x2) := Has.at Hs2 hin2 rfl
  obtain ⟨fs, hr, hrun, hended, hW, hsame⟩ := X0.leave (v := some (.int (1 : Int32))) (fun h => by rw [Bd.returns] at h; cases h)
  refine ⟨_, _, pre0 _ ?_, hrun, hended, _, _, rfl, ?_, ⟨_, rfl⟩, hW, hsame.mono (by decide) (by decide)⟩
  · show Steps p.tables e below (s₁.setTop (mkF m 0 #[.val (.ref a1), .val (.int (2 : Int32)), .val (.int p3)] [])) _
    refine XS.iloadN X0.here hx rfl (hb hby d7_0) rfl ?_
    show Steps p.tables e below (s₁.setTop (mkF m 1 #[.val (.ref a1), .val (.int (2 : Int32)), .val (.int p3)] [(.int (2 : Int32))])) _
    refine XS.aloadN X0.here hx rfl (hb hby d7_1) rfl rfl ?_
    show Steps p.tables e below (s₁.setTop (mkF m 2 #[.val (.ref a1), .val (.int (2 : Int32)), .val (.int p3)] [(.ref a1), (.int (2 : Int32))])) _
    refine X0.arraylength hx (by rw [e0]; exact Ar1.1) (State.isArrayOf_alike hZ.alike Ar1.2.1) (g := (mkF m 2 #[.val (.ref a1), .val (.int (2 : Int32)), .val (.int p3)] [(.ref a1), (.int (2 : Int32))])) rfl rfl (hb hby d7_2) _ ?_
    rw [len_of Sz1 Nz1]
    show Steps p.tables e below (s₁.setTop (mkF m 3 #[.val (.ref a1), .val (.int (2 : Int32)), .val (.int p3)] [(.int (3 : Int32)), (.int (2 : Int32))])) _
    refine XS.icmpNo X0.here hx rfl (hb hby d7_3) rfl (tlt ((by decide) : (2 : Int32) < (3 : Int32))).2.1 ?_
    show Steps p.tables e below (s₁.setTop (mkF m 6 #[.val (.ref a1), .val (.int (2 : Int32)), .val (.int p3)] [])) _
    refine XS.aloadN X0.here hx rfl (hb hby d7_6) rfl rfl ?_
    show Steps p.tables e below (s₁.setTop (mkF m 7 #[.val (.ref a1), .val (.int (2 : Int32)), .val (.int p3)] [(.ref a1)])) _
    refine XS.iloadN X0.here hx rfl (hb hby d7_7) rfl ?_
    show Steps p.tables e below (s₁.setTop (mkF m 8 #[.val (.ref a1), .val (.int (2 : Int32)), .val (.int p3)] [(.int (2 : Int32)), (.ref a1)])) _
    refine X0.baloadBytes hx (j := (2 : Int32)) (v := (.int x2)) (by rw [e0]; exact Ar2.1) (State.isArrayOf_alike hZ.alike Ar2.2.1) Ar2.2.2 hin2 hat2 (g := (mkF m 8 #[.val (.ref a1), .val (.int (2 : Int32)), .val (.int p3)] [(.int (2 : Int32)), (.ref a1)])) rfl rfl (hb hby d7_8) _ ?_
    show Steps p.tables e below (s₁.setTop (mkF m 9 #[.val (.ref a1), .val (.int (2 : Int32)), .val (.int p3)] [(.int x2)])) _
    refine XS.iloadN X0.here hx rfl (hb hby d7_9) rfl ?_
    show Steps p.tables e below (s₁.setTop (mkF m 10 #[.val (.ref a1), .val (.int (2 : Int32)), .val (.int p3)] [(.int p3), (.int x2)])) _
    refine XS.i2b X0.here hx rfl (hb hby d7_10) rfl ?_
    show Steps p.tables e below (s₁.setTop (mkF m 11 #[.val (.ref a1), .val (.int (2 : Int32)), .val (.int p3)] [(.int (p3.toInt8.toInt32)), (.int x2)])) _
    refine XS.icmpNo X0.here hx rfl (hb hby d7_11) rfl (teq (heq : x2 = (p3.toInt8.toInt32))).2 ?_
    show Steps p.tables e below (s₁.setTop (mkF m 14 #[.val (.ref a1), .val (.int (2 : Int32)), .val (.int p3)] [])) _
    refine XS.iconst X0.here hx rfl (hb hby d7_14) ?_
    show Steps p.tables e below (s₁.setTop (mkF m 15 #[.val (.ref a1), .val (.int (2 : Int32)), .val (.int p3)] [(.int (1 : Int32))])) _
    refine XS.goto X0.here hx rfl (pc0 := 15) (pc' := 19) rfl (hb hby d7_15) (by decide) (by decide) ?_
    show Steps p.tables e below (s₁.setTop (mkF m 19 #[.val (.ref a1), .val (.int (2 : Int32)), .val (.int p3)] [(.int (1 : Int32))])) _
    exact retN X0 hx (t := .boolean) Bd.returns (by simp) (hb hby d7_19) hr
  · show QP (some (.int (1 : Int32))) h0 n0 _ s₁.heap _
    rw [e0]
    exact ⟨rfl, N0, rfl⟩
set_option maxRecDepth 65536 in
set_option maxHeartbeats 40000000 in
theorem rm7_3_3 (l : Launch) (Z : State) (a0 : Array Value) (hw : ∀ d ∈ tables_1, d.before a0 Z = true) (ws : List Jvm.Cond) {w_n0 : Addr} (W : Wd Z w_n0) (a1 : Addr) (p3 : Int32) (kk : ClassId) (x0 : Int32) (x1 : Int32) (x2 : Int32) (h0 : Heap) (n0 : Nat) (O0 : Old Z n0 h0) (hf0 : Arv Z h0 a1 kk .byte (3 : Int32) [(.int x0), (.int x1), (.int x2)] (.int (0 : Int32))) :
    MetFree l (⟨"com/example/keyfold/keyfold/client/ValueOfBinaryPinLaw", "at", "([BII)Z"⟩ : MethodName) (head1 (Jvm.Cond.code (⟨"com/example/keyfold/keyfold/client/ValueOfBinaryPinLaw", "at", "([BII)Z"⟩ : MethodName) method_3_code 3 (some .boolean) :: ws) ({ frames := 0, cells := 0, slots := 0, locals := 0 } : Room)) (fun a U => a = #[(.ref a1), (.int (3 : Int32)), (.int p3)] ∧ Z.Warmed39 U.vm ∧ U.heap = h0) (fun _ _ _ _ _ => True) (fun _ U o U' => ∃ v L, o = .returned v ∧ QP (some (.int (1 : Int32))) h0 n0 v U'.heap L ∧ FrameEnd U o U' L ({ frames := 0, cells := 0, slots := 0, locals := 0 } : Room).cells ({ frames := 0, cells := 0, slots := 0, locals := 0 } : Room).slots) := by
  have W' := W; obtain ⟨S_n0, E_n0⟩ := W'
  refine MetFree.of_bodySF (plainFor_of_name pn_7) hisR ?_
  intro p e s m args below meth c s₁ Bd hml0 hP hK
  obtain ⟨rfl, hZ, hh⟩ := hP
  have hx := Bd.exec
  have hby := Bd.bytes
  have hml : c.maxLocals = 3 := hml0
  have hown : s.vm.findClass "com/example/keyfold/keyfold/client/ValueOfBinaryPinLaw" = some m.cls := findClass_of_methodNamed Bd.named
  have hnm := (name_of_methodNamed Bd.named Bd.method).1
  have X0 : Stand p l e ({ frames := 0, cells := 0, slots := 0, locals := 0 } : Room) s m #[(.ref a1), (.int (3 : Int32)), (.int p3)] below meth c s₁ [] 0 0 := Stand.of_body Bd
  have e0 : s₁.heap = h0 := by rw [← hh, Bd.state]; rfl
  have N0 := Fr.nil n0
  have pre0 : ∀ t, Steps p.tables e below (s₁.setTop (mkF m 0 #[.val (.ref a1), .val (.int (3 : Int32)), .val (.int p3)] [])) t → Steps p.tables e below (s₁.setTop (entryFrame m #[(.ref a1), (.int (3 : Int32)), (.int p3)] 3)) t := fun t k => castTop (ef_7_5 m a1 (3 : Int32) p3) k
  obtain ⟨cl1, Ar1, qk1, Sz1, Nz1, Hs1, Gs1⟩ := id hf0
  obtain ⟨fs, hr, hrun, hended, hW, hsame⟩ := X0.leave (v := some (.int (1 : Int32))) (fun h => by rw [Bd.returns] at h; cases h)
  refine ⟨_, _, pre0 _ ?_, hrun, hended, _, _, rfl, ?_, ⟨_, rfl⟩, hW, hsame.mono (by decide) (by decide)⟩
  · show Steps p.tables e below (s₁.setTop (mkF m 0 #[.val (.ref a1), .val (.int (3 : Int32)), .val (.int p3)] [])) _
    refine XS.iloadN X0.here hx rfl (hb hby d7_0) rfl ?_
    show Steps p.tables e below (s₁.setTop (mkF m 1 #[.val (.ref a1), .val (.int (3 : Int32)), .val (.int p3)] [(.int (3 : Int32))])) _
    refine XS.aloadN X0.here hx rfl (hb hby d7_1) rfl rfl ?_
    show Steps p.tables e below (s₁.setTop (mkF m 2 #[.val (.ref a1), .val (.int (3 : Int32)), .val (.int p3)] [(.ref a1), (.int (3 : Int32))])) _
    refine X0.arraylength hx (by rw [e0]; exact Ar1.1) (State.isArrayOf_alike hZ.alike Ar1.2.1) (g := (mkF m 2 #[.val (.ref a1), .val (.int (3 : Int32)), .val (.int p3)] [(.ref a1), (.int (3 : Int32))])) rfl rfl (hb hby d7_2) _ ?_
    rw [len_of Sz1 Nz1]
    show Steps p.tables e below (s₁.setTop (mkF m 3 #[.val (.ref a1), .val (.int (3 : Int32)), .val (.int p3)] [(.int (3 : Int32)), (.int (3 : Int32))])) _
    refine XS.icmpYes X0.here hx rfl (pc0 := 3) (pc' := 14) rfl (hb hby d7_3) rfl (flt ((by decide) : ¬ ((3 : Int32) < (3 : Int32)))).2.1 (by decide) (by decide) ?_
    show Steps p.tables e below (s₁.setTop (mkF m 14 #[.val (.ref a1), .val (.int (3 : Int32)), .val (.int p3)] [])) _
    refine XS.iconst X0.here hx rfl (hb hby d7_14) ?_
    show Steps p.tables e below (s₁.setTop (mkF m 15 #[.val (.ref a1), .val (.int (3 : Int32)), .val (.int p3)] [(.int (1 : Int32))])) _
    refine XS.goto X0.here hx rfl (pc0 := 15) (pc' := 19) rfl (hb hby d7_15) (by decide) (by decide) ?_
    show Steps p.tables e below (s₁.setTop (mkF m 19 #[.val (.ref a1), .val (.int (3 : Int32)), .val (.int p3)] [(.int (1 : Int32))])) _
    exact retN X0 hx (t := .boolean) Bd.returns (by simp) (hb hby d7_19) hr
  · show QP (some (.int (1 : Int32))) h0 n0 _ s₁.heap _
    rw [e0]
    exact ⟨rfl, N0, rfl⟩
set_option maxRecDepth 65536 in
set_option maxHeartbeats 40000000 in
theorem rm1_4 (l : Launch) (Z : State) (a0 : Array Value) (hw : ∀ d ∈ tables_1, d.before a0 Z = true) (ws : List Jvm.Cond) {w_n0 : Addr} (W : Wd Z w_n0) (a1 : Addr) (kk : ClassId) (x0 : Int32) (x1 : Int32) (x2 : Int32) (x3 : Int32) (h0 : Heap) (n0 : Nat) (O0 : Old Z n0 h0) (g_a1 : n0 ≤ a1) (hf0 : Exa Z h0 a1 "[B") (hf1 : Arv Z h0 a1 kk .byte (4 : Int32) [(.int x0), (.int x1), (.int x2), (.int x3)] (.int (0 : Int32))) :
    MetFree l (⟨"com/example/keyfold/keyfold/client/Value", "ofBinary", "([B)Lcom/example/keyfold/keyfold/client/Value;"⟩ : MethodName) (head1 (Jvm.Cond.code (⟨"com/example/keyfold/keyfold/client/Value", "ofBinary", "([B)Lcom/example/keyfold/keyfold/client/Value;"⟩ : MethodName) prog_11_method_6_code 1 (some (.object "com/example/keyfold/keyfold/client/Value")) :: ws) ({ frames := 2, cells := 2, slots := 6, locals := 27 } : Room)) (fun a U => a = #[(.ref a1)] ∧ Z.Warmed39 U.vm ∧ U.heap = h0) (fun _ _ _ _ _ => True) (fun _ U o U' => ∃ v L, o = .returned v ∧ QW (fun v h => ∃ b1 : Addr, ∃ b3 : Addr, v = some (.ref b1) ∧ Keep h0 h [] ∧ n0 ≤ b1 ∧ h0.size ≤ b1 ∧ n0 ≤ b3 ∧ h0.size ≤ b3 ∧ Exa Z h b1 "com/example/keyfold/keyfold/client/Value" ∧ Fld Z h b1 "com/example/keyfold/keyfold/client/Value" "type" "Lcom/example/keyfold/keyfold/client/ValueType;" (.ref w_n0) ∧ Fld Z h b1 "com/example/keyfold/keyfold/client/Value" "content" "Ljava/lang/Object;" (.ref b3) ∧ Exa Z h b3 "[B" ∧ Arv Z h b3 kk .byte (4 : Int32) [(.int x0), (.int x1), (.int x2), (.int x3)] (.int (0 : Int32))) n0 v U'.heap L ∧ FrameEnd U o U' L ({ frames := 2, cells := 2, slots := 6, locals := 27 } : Room).cells ({ frames := 2, cells := 2, slots := 6, locals := 27 } : Room).slots) := by
  have W' := W; obtain ⟨S_n0, E_n0⟩ := W'
  refine MetFree.of_bodySF (plainFor_of_name pn_1) hisR ?_
  intro p e s m args below meth c s₁ Bd hml0 hP hK
  obtain ⟨rfl, hZ, hh⟩ := hP
  have hx := Bd.exec
  have hby := Bd.bytes
  have hml : c.maxLocals = 1 := hml0
  have hown : s.vm.findClass "com/example/keyfold/keyfold/client/Value" = some m.cls := findClass_of_methodNamed Bd.named
  have hnm := (name_of_methodNamed Bd.named Bd.method).1
  have X0 : Stand p l e ({ frames := 2, cells := 2, slots := 6, locals := 27 } : Room) s m #[(.ref a1)] below meth c s₁ [] 0 0 := Stand.of_body Bd
  have e0 : s₁.heap = h0 := by rw [← hh, Bd.state]; rfl
  have N0 := Fr.nil n0
  have pre0 : ∀ t, Steps p.tables e below (s₁.setTop (mkF m 0 #[.val (.ref a1)] [])) t → Steps p.tables e below (s₁.setTop (entryFrame m #[(.ref a1)] 1)) t := fun t k => castTop (ef_1_3 m a1) k
  obtain ⟨T1, h1, X1, e1, E1, A1, D1, U1, st1⟩ := newO X0 hx hZ hown (hw _ (List.mem_of_getElem? (i := 5) rfl)) (hw _ (List.mem_of_getElem? (i := 6) rfl)) (hw _ (List.mem_of_getElem? (i := 3) rfl)) e0 (g := (mkF m 0 #[.val (.ref a1)] [])) rfl (hb hby d1_0) (by decide) (by decide)
  obtain ⟨b1, g1⟩ : ∃ z, z = h0.size := ⟨_, rfl⟩
  rw [← g1] at A1 D1 U1 st1
  have lt_a1_b1 : a1 < h0.size := (hf0).lt
  have g_b1 : n0 ≤ b1 := by rw [g1]; exact O0.1 ▸ O0.2.1
  have sz_b1 : h0.size ≤ b1 := by rw [g1]; exact (Keep.refl h0 []).1
  have f1_0 : Exa Z h1 a1 "[B" := (hf0).ext E1
  have f1_1 : Arv Z h1 a1 kk .byte (4 : Int32) [(.int x0), (.int x1), (.int x2), (.int x3)] (.int (0 : Int32)) := (hf1).ext E1
  have O1 := O0.ext E1
  have K1 : Keep h0 h1 [] := (Keep.refl h0 []).ext E1
  have f1_type : Fld Z h1 b1 "com/example/keyfold/keyfold/client/Value" "type" "Lcom/example/keyfold/keyfold/client/ValueType;" .null := D1 (Or.inr (hw _ (List.mem_of_getElem? (i := 24) rfl))) (ty := (.object "com/example/keyfold/keyfold/client/ValueType")) (by decide)
  have f1_content : Fld Z h1 b1 "com/example/keyfold/keyfold/client/Value" "content" "Ljava/lang/Object;" .null := D1 (Or.inr (hw _ (List.mem_of_getElem? (i := 26) rfl))) (ty := (.object "java/lang/Object")) (by decide)
  obtain ⟨T2, X2, e2, st2⟩ := getS2 X1 hx hZ hown (host := "") (Or.inl (hw _ (List.mem_of_getElem? (i := 7) rfl))) Via.refl e1 (S_n0.ext O1.2) (g := (mkF m 4 #[.val (.ref a1)] [(.ref b1), (.ref b1)])) rfl (hb hby d1_4)
  obtain ⟨T3, h3, X3, e3, E3, A3, B3, st3⟩ := cloneH X2 hx hZ hown (hw _ (List.mem_of_getElem? (i := 10) rfl)) (hw _ (List.mem_of_getElem? (i := 11) rfl)) (hw _ (List.mem_of_getElem? (i := 15) rfl)) (hw _ (List.mem_of_getElem? (i := 13) rfl)) (hw _ (List.mem_of_getElem? (i := 14) rfl)) (hw _ (List.mem_of_getElem? (i := 16) rfl)) e2 (f1_1).arh f1_0 (g := (mkF m 8 #[.val (.ref a1)] [(.ref a1), (.ref w_n0), (.ref b1), (.ref b1)])) rfl (by rw [hml]; rfl) rfl (hb hby d1_8) (by decide) (W := 3) (cap := 4) (by show 2 * 0 + _ ≤ _; exact Nat.le_of_eq rfl) (by decide) (by decide) (by decide) (by decide)
  obtain ⟨b3, g3⟩ : ∃ z, z = h1.size := ⟨_, rfl⟩
  rw [← g3] at A3 B3 st3
  have lt_a1_b3 : a1 < h1.size := (f1_0).lt
  have lt_b1_b3 : b1 < h1.size := (A1).lt
  have g_b3 : n0 ≤ b3 := by rw [g3]; exact O1.1 ▸ O1.2.1
  have sz_b3 : h0.size ≤ b3 := by rw [g3]; exact K1.1
  have f3_0 : Exa Z h3 a1 "[B" := (f1_0).ext E3
  have f3_1 : Arv Z h3 a1 kk .byte (4 : Int32) [(.int x0), (.int x1), (.int x2), (.int x3)] (.int (0 : Int32)) := (f1_1).ext E3
  have f3_2 : Exa Z h3 b1 "com/example/keyfold/keyfold/client/Value" := (A1).ext E3
  have f3_3 : Fld Z h3 b1 "com/example/keyfold/keyfold/client/Value" "type" "Lcom/example/keyfold/keyfold/client/ValueType;" .null := (f1_type).ext E3
  have f3_4 : Fld Z h3 b1 "com/example/keyfold/keyfold/client/Value" "content" "Ljava/lang/Object;" .null := (f1_content).ext E3
  have O3 := O1.ext E3
  have K3 : Keep h0 h3 [] := K1.ext E3
  have fv3 : Arv Z h3 b3 kk .byte (4 : Int32) [(.int x0), (.int x1), (.int x2), (.int x3)] (.int (0 : Int32)) := A3
  obtain ⟨_, _, ⟨T4, L4, k4, n4⟩, -, X4, ⟨Lc4, hQ4, l4, y4, z4⟩, st4⟩ := X3.specialBack hx (y := (⟨"com/example/keyfold/keyfold/client/Value", "<init>", "(Lcom/example/keyfold/keyfold/client/ValueType;Ljava/lang/Object;)V"⟩ : MethodName)) rfl hown (mvT hZ (hw _ (List.mem_of_getElem? (i := 17) rfl))) (mvT hZ (hw _ (List.mem_of_getElem? (i := 18) rfl))) (mvT hZ (hw _ (List.mem_of_getElem? (i := 19) rfl))) (by decide) (backOf (W := 1) (rm2 l Z a0 hw [] W b1 b3 h3 n0 O3 g_b1 f3_2 f3_3 f3_4) hZ (hw _ (List.mem_of_getElem? (i := 19) rfl)) (hw _ (List.mem_of_getElem? (i := 3) rfl)) (by decide) (by decide)) (g := (mkF m 11 #[.val (.ref a1)] [(.ref b3), (.ref w_n0), (.ref b1), (.ref b1)])) rfl (by rw [hml]; rfl) (Steps.refl _) (a := b1) (argsL := [(.ref w_n0), (.ref b3)]) (rest := [(.ref b1)]) (lenOf pd_0 rfl) rfl (by show 2 * 0 + _ ≤ _; exact Nat.le_of_eq rfl) (hb hby d1_11) (fun _ _ => ⟨rfl, e3, (by decide : 2 + 0 ≤ _), (by decide : 6 + 0 ≤ _)⟩)
  dsimp only [Pt.U, Pt.locs, Pt.cells, Pt.slots] at X4 l4 y4 z4 st4 hQ4
  subst l4 y4 z4
  obtain ⟨N4q, hP4⟩ := hQ4
  have N4 := Fr.app N0 N4q
  obtain ⟨rfl, Kp4, fp4_0, fp4_1, fp4_2⟩ := hP4
  have f4_0 : Exa Z T4.heap a1 "[B" := (f3_0).keep Kp4
  have f4_1 : Arv Z T4.heap a1 kk .byte (4 : Int32) [(.int x0), (.int x1), (.int x2), (.int x3)] (.int (0 : Int32)) := (f3_1).keep Kp4 (ninS (ne_exa f3_0 f3_2 (by decide)) nin0)
  have f4_2 : Exa Z T4.heap b1 "com/example/keyfold/keyfold/client/Value" := (f3_2).keep Kp4
  have f4_3 : Arv Z T4.heap b3 kk .byte (4 : Int32) [(.int x0), (.int x1), (.int x2), (.int x3)] (.int (0 : Int32)) := (fv3).keep Kp4 (ninS (ne_exa B3 f3_2 (by decide)) nin0)
  have f4_4 : Exa Z T4.heap b3 "[B" := (B3).keep Kp4
  have O4 := O3.keep Kp4 (allS g_b1 all0)
  have K4 : Keep h0 T4.heap [] := K3.trans Kp4 (allS (Or.inr sz_b1) all0)
  obtain ⟨fs, hr, hrun, hended, hW, hsame⟩ := X4.leave (v := some (.ref b1)) (fun h => by rw [Bd.returns] at h; cases h)
  refine ⟨_, _, pre0 _ ?_, hrun, hended, _, _, rfl, ?_, ⟨_, rfl⟩, hW, hsame.mono (by decide) (by decide)⟩
  · show Steps p.tables e below (s₁.setTop (mkF m 0 #[.val (.ref a1)] [])) _
    refine st1 _ ?_
    show Steps p.tables e below (T1.setTop (mkF m 3 #[.val (.ref a1)] [(.ref b1)])) _
    refine XS.dup X1.here hx rfl (hb hby d1_3) rfl rfl ?_
    show Steps p.tables e below (T1.setTop (mkF m 4 #[.val (.ref a1)] [(.ref b1), (.ref b1)])) _
    refine st2 _ ?_
    show Steps p.tables e below (T2.setTop (mkF m 7 #[.val (.ref a1)] [(.ref w_n0), (.ref b1), (.ref b1)])) _
    refine XS.aloadN X2.here hx rfl (hb hby d1_7) rfl rfl ?_
    show Steps p.tables e below (T2.setTop (mkF m 8 #[.val (.ref a1)] [(.ref a1), (.ref w_n0), (.ref b1), (.ref b1)])) _
    refine st3 _ ?_
    show Steps p.tables e below (T3.setTop (mkF m 11 #[.val (.ref a1)] [(.ref b3), (.ref w_n0), (.ref b1), (.ref b1)])) _
    refine st4.trans ?_
    show Steps p.tables e below (T4.setTop (mkF m 14 #[.val (.ref a1)] [(.ref b1)])) _
    jvm_step X4.here [X4.here.top, hx, (hb hby d1_14), X4.method', Bd.returns, Value.isRef, FieldType.isReference]
    first | (intro acts; rw [hr _ acts rfl rfl rfl]) | rw [hr _ _ rfl rfl rfl]
    exact Steps.refl _
  · show QW (fun v h => ∃ b1 : Addr, ∃ b3 : Addr, v = some (.ref b1) ∧ Keep h0 h [] ∧ n0 ≤ b1 ∧ h0.size ≤ b1 ∧ n0 ≤ b3 ∧ h0.size ≤ b3 ∧ Exa Z h b1 "com/example/keyfold/keyfold/client/Value" ∧ Fld Z h b1 "com/example/keyfold/keyfold/client/Value" "type" "Lcom/example/keyfold/keyfold/client/ValueType;" (.ref w_n0) ∧ Fld Z h b1 "com/example/keyfold/keyfold/client/Value" "content" "Ljava/lang/Object;" (.ref b3) ∧ Exa Z h b3 "[B" ∧ Arv Z h b3 kk .byte (4 : Int32) [(.int x0), (.int x1), (.int x2), (.int x3)] (.int (0 : Int32))) n0 _ T4.heap _
    exact ⟨N4, ⟨b1, b3, rfl, K4, g_b1, sz_b1, g_b3, sz_b3, fp4_0, fp4_1, fp4_2, f4_4, f4_3⟩⟩
set_option maxRecDepth 65536 in
set_option maxHeartbeats 40000000 in
theorem rm5_4 (l : Launch) (Z : State) (a0 : Array Value) (hw : ∀ d ∈ tables_1, d.before a0 Z = true) (ws : List Jvm.Cond) {w_n0 : Addr} (W : Wd Z w_n0) (a1 : Addr) (a3 : Addr) (kk : ClassId) (x0 : Int32) (x1 : Int32) (x2 : Int32) (x3 : Int32) (h0 : Heap) (n0 : Nat) (O0 : Old Z n0 h0) (g_a1 : n0 ≤ a1) (hf0 : Exa Z h0 a1 "com/example/keyfold/keyfold/client/Value") (hf1 : Fld Z h0 a1 "com/example/keyfold/keyfold/client/Value" "type" "Lcom/example/keyfold/keyfold/client/ValueType;" (.ref w_n0)) (hf2 : Fld Z h0 a1 "com/example/keyfold/keyfold/client/Value" "content" "Ljava/lang/Object;" (.ref a3)) (g_a3 : n0 ≤ a3) (hf3 : Exa Z h0 a3 "[B") (hf4 : Arv Z h0 a3 kk .byte (4 : Int32) [(.int x0), (.int x1), (.int x2), (.int x3)] (.int (0 : Int32))) :
    MetFree l (⟨"com/example/keyfold/keyfold/client/Value", "asBinary", "()[B"⟩ : MethodName) (head1 (Jvm.Cond.code (⟨"com/example/keyfold/keyfold/client/Value", "asBinary", "()[B"⟩ : MethodName) prog_11_method_13_code 1 (some (.array .byte)) :: ws) ({ frames := 1, cells := 1, slots := 4, locals := 14 } : Room)) (fun a U => a = #[(.ref a1)] ∧ Z.Warmed39 U.vm ∧ U.heap = h0) (fun _ _ _ _ _ => True) (fun _ U o U' => ∃ v L, o = .returned v ∧ QW (fun v h => ∃ b4 : Addr, v = some (.ref b4) ∧ Keep h0 h [] ∧ n0 ≤ b4 ∧ h0.size ≤ b4 ∧ Exa Z h b4 "[B" ∧ Arv Z h b4 kk .byte (4 : Int32) [(.int x0), (.int x1), (.int x2), (.int x3)] (.int (0 : Int32))) n0 v U'.heap L ∧ FrameEnd U o U' L ({ frames := 1, cells := 1, slots := 4, locals := 14 } : Room).cells ({ frames := 1, cells := 1, slots := 4, locals := 14 } : Room).slots) := by
  have W' := W; obtain ⟨S_n0, E_n0⟩ := W'
  refine MetFree.of_bodySF (plainFor_of_name pn_5) hisR ?_
  intro p e s m args below meth c s₁ Bd hml0 hP hK
  obtain ⟨rfl, hZ, hh⟩ := hP
  have hx := Bd.exec
  have hby := Bd.bytes
  have hml : c.maxLocals = 1 := hml0
  have hown : s.vm.findClass "com/example/keyfold/keyfold/client/Value" = some m.cls := findClass_of_methodNamed Bd.named
  have hnm := (name_of_methodNamed Bd.named Bd.method).1
  have X0 : Stand p l e ({ frames := 1, cells := 1, slots := 4, locals := 14 } : Room) s m #[(.ref a1)] below meth c s₁ [] 0 0 := Stand.of_body Bd
  have e0 : s₁.heap = h0 := by rw [← hh, Bd.state]; rfl
  have N0 := Fr.nil n0
  have pre0 : ∀ t, Steps p.tables e below (s₁.setTop (mkF m 0 #[.val (.ref a1)] [])) t → Steps p.tables e below (s₁.setTop (entryFrame m #[(.ref a1)] 1)) t := fun t k => castTop (ef_5_4 m a1) k
  obtain ⟨T1, X1, e1, st1⟩ := getS2 X0 hx hZ hown (host := "") (Or.inl (hw _ (List.mem_of_getElem? (i := 7) rfl))) Via.refl e0 (S_n0.ext O0.2) (g := (mkF m 1 #[.val (.ref a1)] [(.ref a1)])) rfl (hb hby d5_1)
  obtain ⟨cq2, q2, q2'⟩ := (hf0).cell
  obtain ⟨_, _, ⟨T2, L2, k2, n2⟩, -, X2, ⟨Lc2, hQ2, l2, y2, z2⟩, st2⟩ := X1.privateBack hx (y := (⟨"com/example/keyfold/keyfold/client/Value", "contentOf", "(Lcom/example/keyfold/keyfold/client/ValueType;)Ljava/lang/Object;"⟩ : MethodName)) hown (mvT hZ (hw _ (List.mem_of_getElem? (i := 38) rfl))) (mvT hZ (hw _ (List.mem_of_getElem? (i := 39) rfl))) (own_selP hZ (hw _ (List.mem_of_getElem? (i := 30) rfl)) rfl (hw _ (List.mem_of_getElem? (i := 40) rfl)) (hw _ (List.mem_of_getElem? (i := 39) rfl)) (by decide)) (Cond.privateMethod_at (mvP hZ (hw _ (List.mem_of_getElem? (i := 40) rfl)) (args := #[]))) (mvT hZ (hw _ (List.mem_of_getElem? (i := 41) rfl))) (by decide) (backOf (W := 0) (rm6 l Z a0 hw [] W a1 a3 h0 n0 O0 hf1 hf2) hZ (hw _ (List.mem_of_getElem? (i := 41) rfl)) (hw _ (List.mem_of_getElem? (i := 3) rfl)) (by decide) (by decide)) (g := (mkF m 4 #[.val (.ref a1)] [(.ref w_n0), (.ref a1)])) rfl (by rw [hml]; rfl) (Steps.refl _) (a := a1) (by rw [e1]; exact q2) q2' (argsL := [(.ref w_n0)]) (rest := []) (lenOf pd_1 rfl) rfl (by show 2 * 0 + _ ≤ _; exact Nat.le_of_eq rfl) (hb hby d5_4) (fun _ _ => ⟨rfl, e1, (by decide : 0 + 0 ≤ _), (by decide : 0 + 0 ≤ _)⟩)
  dsimp only [Pt.U, Pt.locs, Pt.cells, Pt.slots] at X2 l2 y2 z2 st2 hQ2
  subst l2 y2 z2
  obtain ⟨rfl, N2q, e2⟩ := hQ2
  have N2 := Fr.app N0 N2q
  obtain ⟨T3, X3, e3, st3⟩ := castY X2 hx hZ hown (hw _ (List.mem_of_getElem? (i := 42) rfl)) e2 (Ins.self hf3) (g := (mkF m 7 #[.val (.ref a1)] [(.ref a3)])) rfl rfl (hb hby d5_7)
  obtain ⟨T4, h4, X4, e4, E4, A4, B4, st4⟩ := cloneH X3 hx hZ hown (hw _ (List.mem_of_getElem? (i := 10) rfl)) (hw _ (List.mem_of_getElem? (i := 11) rfl)) (hw _ (List.mem_of_getElem? (i := 15) rfl)) (hw _ (List.mem_of_getElem? (i := 13) rfl)) (hw _ (List.mem_of_getElem? (i := 14) rfl)) (hw _ (List.mem_of_getElem? (i := 16) rfl)) e3 (hf4).arh hf3 (g := (mkF m 10 #[.val (.ref a1)] [(.ref a3)])) rfl (by rw [hml]; rfl) rfl (hb hby d5_10) (by decide) (W := 0) (cap := 4) (by show 2 * 0 + _ ≤ _; exact Nat.le_of_eq rfl) (by decide) (by decide) (by decide) (by decide)
  obtain ⟨b4, g4⟩ : ∃ z, z = h0.size := ⟨_, rfl⟩
  rw [← g4] at A4 B4 st4
  have lt_a1_b4 : a1 < h0.size := (hf0).lt
  have lt_a3_b4 : a3 < h0.size := (hf3).lt
  have g_b4 : n0 ≤ b4 := by rw [g4]; exact O0.1 ▸ O0.2.1
  have sz_b4 : h0.size ≤ b4 := by rw [g4]; exact (Keep.refl h0 []).1
  have f4_0 : Exa Z h4 a1 "com/example/keyfold/keyfold/client/Value" := (hf0).ext E4
  have f4_1 : Fld Z h4 a1 "com/example/keyfold/keyfold/client/Value" "type" "Lcom/example/keyfold/keyfold/client/ValueType;" (.ref w_n0) := (hf1).ext E4
  have f4_2 : Fld Z h4 a1 "com/example/keyfold/keyfold/client/Value" "content" "Ljava/lang/Object;" (.ref a3) := (hf2).ext E4
  have f4_3 : Exa Z h4 a3 "[B" := (hf3).ext E4
  have f4_4 : Arv Z h4 a3 kk .byte (4 : Int32) [(.int x0), (.int x1), (.int x2), (.int x3)] (.int (0 : Int32)) := (hf4).ext E4
  have O4 := O0.ext E4
  have K4 : Keep h0 h4 [] := (Keep.refl h0 []).ext E4
  have fv4 : Arv Z h4 b4 kk .byte (4 : Int32) [(.int x0), (.int x1), (.int x2), (.int x3)] (.int (0 : Int32)) := A4
  obtain ⟨T5, X5, e5, st5⟩ := castY X4 hx hZ hown (hw _ (List.mem_of_getElem? (i := 42) rfl)) e4 (Ins.self B4) (g := (mkF m 13 #[.val (.ref a1)] [(.ref b4)])) rfl rfl (hb hby d5_13)
  obtain ⟨fs, hr, hrun, hended, hW, hsame⟩ := X5.leave (v := some (.ref b4)) (fun h => by rw [Bd.returns] at h; cases h)
  refine ⟨_, _, pre0 _ ?_, hrun, hended, _, _, rfl, ?_, ⟨_, rfl⟩, hW, hsame.mono (by decide) (by decide)⟩
  · show Steps p.tables e below (s₁.setTop (mkF m 0 #[.val (.ref a1)] [])) _
    refine XS.aloadN X0.here hx rfl (hb hby d5_0) rfl rfl ?_
    show Steps p.tables e below (s₁.setTop (mkF m 1 #[.val (.ref a1)] [(.ref a1)])) _
    refine st1 _ ?_
    show Steps p.tables e below (T1.setTop (mkF m 4 #[.val (.ref a1)] [(.ref w_n0), (.ref a1)])) _
    refine st2.trans ?_
    show Steps p.tables e below (T2.setTop (mkF m 7 #[.val (.ref a1)] [(.ref a3)])) _
    refine st3 _ ?_
    show Steps p.tables e below (T3.setTop (mkF m 10 #[.val (.ref a1)] [(.ref a3)])) _
    refine st4 _ ?_
    show Steps p.tables e below (T4.setTop (mkF m 13 #[.val (.ref a1)] [(.ref b4)])) _
    refine st5 _ ?_
    show Steps p.tables e below (T5.setTop (mkF m 16 #[.val (.ref a1)] [(.ref b4)])) _
    jvm_step X5.here [X5.here.top, hx, (hb hby d5_16), X5.method', Bd.returns, Value.isRef, FieldType.isReference]
    first | (intro acts; rw [hr _ acts rfl rfl rfl]) | rw [hr _ _ rfl rfl rfl]
    exact Steps.refl _
  · show QW (fun v h => ∃ b4 : Addr, v = some (.ref b4) ∧ Keep h0 h [] ∧ n0 ≤ b4 ∧ h0.size ≤ b4 ∧ Exa Z h b4 "[B" ∧ Arv Z h b4 kk .byte (4 : Int32) [(.int x0), (.int x1), (.int x2), (.int x3)] (.int (0 : Int32))) n0 _ T5.heap _
    rw [e5]
    exact ⟨N2, ⟨b4, rfl, K4, g_b4, sz_b4, B4, fv4⟩⟩
set_option maxRecDepth 65536 in
set_option maxHeartbeats 40000000 in
theorem rm7_4_0 (l : Launch) (Z : State) (a0 : Array Value) (hw : ∀ d ∈ tables_1, d.before a0 Z = true) (ws : List Jvm.Cond) {w_n0 : Addr} (W : Wd Z w_n0) (a1 : Addr) (p3 : Int32) (kk : ClassId) (x0 : Int32) (x1 : Int32) (x2 : Int32) (x3 : Int32) (h0 : Heap) (n0 : Nat) (O0 : Old Z n0 h0) (heq : x0 = (p3.toInt8.toInt32)) (hf0 : Arv Z h0 a1 kk .byte (4 : Int32) [(.int x0), (.int x1), (.int x2), (.int x3)] (.int (0 : Int32))) :
    MetFree l (⟨"com/example/keyfold/keyfold/client/ValueOfBinaryPinLaw", "at", "([BII)Z"⟩ : MethodName) (head1 (Jvm.Cond.code (⟨"com/example/keyfold/keyfold/client/ValueOfBinaryPinLaw", "at", "([BII)Z"⟩ : MethodName) method_3_code 3 (some .boolean) :: ws) ({ frames := 0, cells := 0, slots := 0, locals := 0 } : Room)) (fun a U => a = #[(.ref a1), (.int (0 : Int32)), (.int p3)] ∧ Z.Warmed39 U.vm ∧ U.heap = h0) (fun _ _ _ _ _ => True) (fun _ U o U' => ∃ v L, o = .returned v ∧ QP (some (.int (1 : Int32))) h0 n0 v U'.heap L ∧ FrameEnd U o U' L ({ frames := 0, cells := 0, slots := 0, locals := 0 } : Room).cells ({ frames := 0, cells := 0, slots := 0, locals := 0 } : Room).slots) := by
  have W' := W; obtain ⟨S_n0, E_n0⟩ := W'
  refine MetFree.of_bodySF (plainFor_of_name pn_7) hisR ?_
  intro p e s m args below meth c s₁ Bd hml0 hP hK
  obtain ⟨rfl, hZ, hh⟩ := hP
  have hx := Bd.exec
  have hby := Bd.bytes
  have hml : c.maxLocals = 3 := hml0
  have hown : s.vm.findClass "com/example/keyfold/keyfold/client/ValueOfBinaryPinLaw" = some m.cls := findClass_of_methodNamed Bd.named
  have hnm := (name_of_methodNamed Bd.named Bd.method).1
  have X0 : Stand p l e ({ frames := 0, cells := 0, slots := 0, locals := 0 } : Room) s m #[(.ref a1), (.int (0 : Int32)), (.int p3)] below meth c s₁ [] 0 0 := Stand.of_body Bd
  have e0 : s₁.heap = h0 := by rw [← hh, Bd.state]; rfl
  have N0 := Fr.nil n0
  have pre0 : ∀ t, Steps p.tables e below (s₁.setTop (mkF m 0 #[.val (.ref a1), .val (.int (0 : Int32)), .val (.int p3)] [])) t → Steps p.tables e below (s₁.setTop (entryFrame m #[(.ref a1), (.int (0 : Int32)), (.int p3)] 3)) t := fun t k => castTop (ef_7_5 m a1 (0 : Int32) p3) k
  obtain ⟨cl1, Ar1, qk1, Sz1, Nz1, Hs1, Gs1⟩ := id hf0
  obtain ⟨cl2, Ar2, qk2, Sz2, Nz2, Hs2, Gs2⟩ := id hf0
  have hin2 : ¬ ((0 : Int32) < 0 ∨ cl2.slots.size ≤ ((0 : Int32)).toNatClampNeg) := inb_of Sz2 ⟨by decide, by decide⟩
  have hat2 : cl2.slots[((0 : Int32)).toNatClampNeg]? = some (.int x0) := Has.at Hs2 hin2 rfl
  obtain ⟨fs, hr, hrun, hended, hW, hsame⟩ := X0.leave (v := some (.int (1 : Int32))) (fun h => by rw [Bd.returns] at h; cases h)
  refine ⟨_, _, pre0 _ ?_, hrun, hended, _, _, rfl, ?_, ⟨_, rfl⟩, hW, hsame.mono (by decide) (by decide)⟩
  · show Steps p.tables e below (s₁.setTop (mkF m 0 #[.val (.ref a1), .val (.int (0 : Int32)), .val (.int p3)] [])) _
    refine XS.iloadN X0.here hx rfl (hb hby d7_0) rfl ?_
    show Steps p.tables e below (s₁.setTop (mkF m 1 #[.val (.ref a1), .val (.int (0 : Int32)), .val (.int p3)] [(.int (0 : Int32))])) _
    refine XS.aloadN X0.here hx rfl (hb hby d7_1) rfl rfl ?_
    show Steps p.tables e below (s₁.setTop (mkF m 2 #[.val (.ref a1), .val (.int (0 : Int32)), .val (.int p3)] [(.ref a1), (.int (0 : Int32))])) _
    refine X0.arraylength hx (by rw [e0]; exact Ar1.1) (State.isArrayOf_alike hZ.alike Ar1.2.1) (g := (mkF m 2 #[.val (.ref a1), .val (.int (0 : Int32)), .val (.int p3)] [(.ref a1), (.int (0 : Int32))])) rfl rfl (hb hby d7_2) _ ?_
    rw [len_of Sz1 Nz1]
    show Steps p.tables e below (s₁.setTop (mkF m 3 #[.val (.ref a1), .val (.int (0 : Int32)), .val (.int p3)] [(.int (4 : Int32)), (.int (0 : Int32))])) _
    refine XS.icmpNo X0.here hx rfl (hb hby d7_3) rfl (tlt ((by decide) : (0 : Int32) < (4 : Int32))).2.1 ?_
    show Steps p.tables e below (s₁.setTop (mkF m 6 #[.val (.ref a1), .val (.int (0 : Int32)), .val (.int p3)] [])) _
    refine XS.aloadN X0.here hx rfl (hb hby d7_6) rfl rfl ?_
    show Steps p.tables e below (s₁.setTop (mkF m 7 #[.val (.ref a1), .val (.int (0 : Int32)), .val (.int p3)] [(.ref a1)])) _
    refine XS.iloadN X0.here hx rfl (hb hby d7_7) rfl ?_
    show Steps p.tables e below (s₁.setTop (mkF m 8 #[.val (.ref a1), .val (.int (0 : Int32)), .val (.int p3)] [(.int (0 : Int32)), (.ref a1)])) _
    refine X0.baloadBytes hx (j := (0 : Int32)) (v := (.int x0)) (by rw [e0]; exact Ar2.1) (State.isArrayOf_alike hZ.alike Ar2.2.1) Ar2.2.2 hin2 hat2 (g := (mkF m 8 #[.val (.ref a1), .val (.int (0 : Int32)), .val (.int p3)] [(.int (0 : Int32)), (.ref a1)])) rfl rfl (hb hby d7_8) _ ?_
    show Steps p.tables e below (s₁.setTop (mkF m 9 #[.val (.ref a1), .val (.int (0 : Int32)), .val (.int p3)] [(.int x0)])) _
    refine XS.iloadN X0.here hx rfl (hb hby d7_9) rfl ?_
    show Steps p.tables e below (s₁.setTop (mkF m 10 #[.val (.ref a1), .val (.int (0 : Int32)), .val (.int p3)] [(.int p3), (.int x0)])) _
    refine XS.i2b X0.here hx rfl (hb hby d7_10) rfl ?_
    show Steps p.tables e below (s₁.setTop (mkF m 11 #[.val (.ref a1), .val (.int (0 : Int32)), .val (.int p3)] [(.int (p3.toInt8.toInt32)), (.int x0)])) _
    refine XS.icmpNo X0.here hx rfl (hb hby d7_11) rfl (teq (heq : x0 = (p3.toInt8.toInt32))).2 ?_
    show Steps p.tables e below (s₁.setTop (mkF m 14 #[.val (.ref a1), .val (.int (0 : Int32)), .val (.int p3)] [])) _
    refine XS.iconst X0.here hx rfl (hb hby d7_14) ?_
    show Steps p.tables e below (s₁.setTop (mkF m 15 #[.val (.ref a1), .val (.int (0 : Int32)), .val (.int p3)] [(.int (1 : Int32))])) _
    refine XS.goto X0.here hx rfl (pc0 := 15) (pc' := 19) rfl (hb hby d7_15) (by decide) (by decide) ?_
    show Steps p.tables e below (s₁.setTop (mkF m 19 #[.val (.ref a1), .val (.int (0 : Int32)), .val (.int p3)] [(.int (1 : Int32))])) _
    exact retN X0 hx (t := .boolean) Bd.returns (by simp) (hb hby d7_19) hr
  · show QP (some (.int (1 : Int32))) h0 n0 _ s₁.heap _
    rw [e0]
    exact ⟨rfl, N0, rfl⟩
set_option maxRecDepth 65536 in
set_option maxHeartbeats 40000000 in
theorem rm7_4_1 (l : Launch) (Z : State) (a0 : Array Value) (hw : ∀ d ∈ tables_1, d.before a0 Z = true) (ws : List Jvm.Cond) {w_n0 : Addr} (W : Wd Z w_n0) (a1 : Addr) (p3 : Int32) (kk : ClassId) (x0 : Int32) (x1 : Int32) (x2 : Int32) (x3 : Int32) (h0 : Heap) (n0 : Nat) (O0 : Old Z n0 h0) (heq : x1 = (p3.toInt8.toInt32)) (hf0 : Arv Z h0 a1 kk .byte (4 : Int32) [(.int x0), (.int x1), (.int x2), (.int x3)] (.int (0 : Int32))) :
    MetFree l (⟨"com/example/keyfold/keyfold/client/ValueOfBinaryPinLaw", "at", "([BII)Z"⟩ : MethodName) (head1 (Jvm.Cond.code (⟨"com/example/keyfold/keyfold/client/ValueOfBinaryPinLaw", "at", "([BII)Z"⟩ : MethodName) method_3_code 3 (some .boolean) :: ws) ({ frames := 0, cells := 0, slots := 0, locals := 0 } : Room)) (fun a U => a = #[(.ref a1), (.int (1 : Int32)), (.int p3)] ∧ Z.Warmed39 U.vm ∧ U.heap = h0) (fun _ _ _ _ _ => True) (fun _ U o U' => ∃ v L, o = .returned v ∧ QP (some (.int (1 : Int32))) h0 n0 v U'.heap L ∧ FrameEnd U o U' L ({ frames := 0, cells := 0, slots := 0, locals := 0 } : Room).cells ({ frames := 0, cells := 0, slots := 0, locals := 0 } : Room).slots) := by
  have W' := W; obtain ⟨S_n0, E_n0⟩ := W'
  refine MetFree.of_bodySF (plainFor_of_name pn_7) hisR ?_
  intro p e s m args below meth c s₁ Bd hml0 hP hK
  obtain ⟨rfl, hZ, hh⟩ := hP
  have hx := Bd.exec
  have hby := Bd.bytes
  have hml : c.maxLocals = 3 := hml0
  have hown : s.vm.findClass "com/example/keyfold/keyfold/client/ValueOfBinaryPinLaw" = some m.cls := findClass_of_methodNamed Bd.named
  have hnm := (name_of_methodNamed Bd.named Bd.method).1
  have X0 : Stand p l e ({ frames := 0, cells := 0, slots := 0, locals := 0 } : Room) s m #[(.ref a1), (.int (1 : Int32)), (.int p3)] below meth c s₁ [] 0 0 := Stand.of_body Bd
  have e0 : s₁.heap = h0 := by rw [← hh, Bd.state]; rfl
  have N0 := Fr.nil n0
  have pre0 : ∀ t, Steps p.tables e below (s₁.setTop (mkF m 0 #[.val (.ref a1), .val (.int (1 : Int32)), .val (.int p3)] [])) t → Steps p.tables e below (s₁.setTop (entryFrame m #[(.ref a1), (.int (1 : Int32)), (.int p3)] 3)) t := fun t k => castTop (ef_7_5 m a1 (1 : Int32) p3) k
  obtain ⟨cl1, Ar1, qk1, Sz1, Nz1, Hs1, Gs1⟩ := id hf0
  obtain ⟨cl2, Ar2, qk2, Sz2, Nz2, Hs2, Gs2⟩ := id hf0
  have hin2 : ¬ ((1 : Int32) < 0 ∨ cl2.slots.size ≤ ((1 : Int32)).toNatClampNeg) := inb_of Sz2 ⟨by decide, by decide⟩
  have hat2 : cl2.slots[((1 : Int32)).toNatClampNeg]? = some (.int x1) := Has.at Hs2 hin2 rfl
  obtain ⟨fs, hr, hrun, hended, hW, hsame⟩ := X0.leave (v := some (.int (1 : Int32))) (fun h => by rw [Bd.returns] at h; cases h)
  refine ⟨_, _, pre0 _ ?_, hrun, hended, _, _, rfl, ?_, ⟨_, rfl⟩, hW, hsame.mono (by decide) (by decide)⟩
  · show Steps p.tables e below (s₁.setTop (mkF m 0 #[.val (.ref a1), .val (.int (1 : Int32)), .val (.int p3)] [])) _
    refine XS.iloadN X0.here hx rfl (hb hby d7_0) rfl ?_
    show Steps p.tables e below (s₁.setTop (mkF m 1 #[.val (.ref a1), .val (.int (1 : Int32)), .val (.int p3)] [(.int (1 : Int32))])) _
    refine XS.aloadN X0.here hx rfl (hb hby d7_1) rfl rfl ?_
    show Steps p.tables e below (s₁.setTop (mkF m 2 #[.val (.ref a1), .val (.int (1 : Int32)), .val (.int p3)] [(.ref a1), (.int (1 : Int32))])) _
    refine X0.arraylength hx (by rw [e0]; exact Ar1.1) (State.isArrayOf_alike hZ.alike Ar1.2.1) (g := (mkF m 2 #[.val (.ref a1), .val (.int (1 : Int32)), .val (.int p3)] [(.ref a1), (.int (1 : Int32))])) rfl rfl (hb hby d7_2) _ ?_
    rw [len_of Sz1 Nz1]
    show Steps p.tables e below (s₁.setTop (mkF m 3 #[.val (.ref a1), .val (.int (1 : Int32)), .val (.int p3)] [(.int (4 : Int32)), (.int (1 : Int32))])) _
    refine XS.icmpNo X0.here hx rfl (hb hby d7_3) rfl (tlt ((by decide) : (1 : Int32) < (4 : Int32))).2.1 ?_
    show Steps p.tables e below (s₁.setTop (mkF m 6 #[.val (.ref a1), .val (.int (1 : Int32)), .val (.int p3)] [])) _
    refine XS.aloadN X0.here hx rfl (hb hby d7_6) rfl rfl ?_
    show Steps p.tables e below (s₁.setTop (mkF m 7 #[.val (.ref a1), .val (.int (1 : Int32)), .val (.int p3)] [(.ref a1)])) _
    refine XS.iloadN X0.here hx rfl (hb hby d7_7) rfl ?_
    show Steps p.tables e below (s₁.setTop (mkF m 8 #[.val (.ref a1), .val (.int (1 : Int32)), .val (.int p3)] [(.int (1 : Int32)), (.ref a1)])) _
    refine X0.baloadBytes hx (j := (1 : Int32)) (v := (.int x1)) (by rw [e0]; exact Ar2.1) (State.isArrayOf_alike hZ.alike Ar2.2.1) Ar2.2.2 hin2 hat2 (g := (mkF m 8 #[.val (.ref a1), .val (.int (1 : Int32)), .val (.int p3)] [(.int (1 : Int32)), (.ref a1)])) rfl rfl (hb hby d7_8) _ ?_
    show Steps p.tables e below (s₁.setTop (mkF m 9 #[.val (.ref a1), .val (.int (1 : Int32)), .val (.int p3)] [(.int x1)])) _
    refine XS.iloadN X0.here hx rfl (hb hby d7_9) rfl ?_
    show Steps p.tables e below (s₁.setTop (mkF m 10 #[.val (.ref a1), .val (.int (1 : Int32)), .val (.int p3)] [(.int p3), (.int x1)])) _
    refine XS.i2b X0.here hx rfl (hb hby d7_10) rfl ?_
    show Steps p.tables e below (s₁.setTop (mkF m 11 #[.val (.ref a1), .val (.int (1 : Int32)), .val (.int p3)] [(.int (p3.toInt8.toInt32)), (.int x1)])) _
    refine XS.icmpNo X0.here hx rfl (hb hby d7_11) rfl (teq (heq : x1 = (p3.toInt8.toInt32))).2 ?_
    show Steps p.tables e below (s₁.setTop (mkF m 14 #[.val (.ref a1), .val (.int (1 : Int32)), .val (.int p3)] [])) _
    refine XS.iconst X0.here hx rfl (hb hby d7_14) ?_
    show Steps p.tables e below (s₁.setTop (mkF m 15 #[.val (.ref a1), .val (.int (1 : Int32)), .val (.int p3)] [(.int (1 : Int32))])) _
    refine XS.goto X0.here hx rfl (pc0 := 15) (pc' := 19) rfl (hb hby d7_15) (by decide) (by decide) ?_
    show Steps p.tables e below (s₁.setTop (mkF m 19 #[.val (.ref a1), .val (.int (1 : Int32)), .val (.int p3)] [(.int (1 : Int32))])) _
    exact retN X0 hx (t := .boolean) Bd.returns (by simp) (hb hby d7_19) hr
  · show QP (some (.int (1 : Int32))) h0 n0 _ s₁.heap _
    rw [e0]
    exact ⟨rfl, N0, rfl⟩
set_option maxRecDepth 65536 in
set_option maxHeartbeats 40000000 in
theorem rm7_4_2 (l : Launch) (Z : State) (a0 : Array Value) (hw : ∀ d ∈ tables_1, d.before a0 Z = true) (ws : List Jvm.Cond) {w_n0 : Addr} (W : Wd Z w_n0) (a1 : Addr) (p3 : Int32) (kk : ClassId) (x0 : Int32) (x1 : Int32) (x2 : Int32) (x3 : Int32) (h0 : Heap) (n0 : Nat) (O0 : Old Z n0 h0) (heq : x2 = (p3.toInt8.toInt32)) (hf0 : Arv Z h0 a1 kk .byte (4 : Int32) [(.int x0), (.int x1), (.int x2), (.int x3)] (.int (0 : Int32))) :
    MetFree l (⟨"com/example/keyfold/keyfold/client/ValueOfBinaryPinLaw", "at", "([BII)Z"⟩ : MethodName) (head1 (Jvm.Cond.code (⟨"com/example/keyfold/keyfold/client/ValueOfBinaryPinLaw", "at", "([BII)Z"⟩ : MethodName) method_3_code 3 (some .boolean) :: ws) ({ frames := 0, cells := 0, slots := 0, locals := 0 } : Room)) (fun a U => a = #[(.ref a1), (.int (2 : Int32)), (.int p3)] ∧ Z.Warmed39 U.vm ∧ U.heap = h0) (fun _ _ _ _ _ => True) (fun _ U o U' => ∃ v L, o = .returned v ∧ QP (some (.int (1 : Int32))) h0 n0 v U'.heap L ∧ FrameEnd U o U' L ({ frames := 0, cells := 0, slots := 0, locals := 0 } : Room).cells ({ frames := 0, cells := 0, slots := 0, locals := 0 } : Room).slots) := by
  have W' := W; obtain ⟨S_n0, E_n0⟩ := W'
  refine MetFree.of_bodySF (plainFor_of_name pn_7) hisR ?_
  intro p e s m args below meth c s₁ Bd hml0 hP hK
  obtain ⟨rfl, hZ, hh⟩ := hP
  have hx := Bd.exec
  have hby := Bd.bytes
  have hml : c.maxLocals = 3 := hml0
  have hown : s.vm.findClass "com/example/keyfold/keyfold/client/ValueOfBinaryPinLaw" = some m.cls := findClass_of_methodNamed Bd.named
  have hnm := (name_of_methodNamed Bd.named Bd.method).1
  have X0 : Stand p l e ({ frames := 0, cells := 0, slots := 0, locals := 0 } : Room) s m #[(.ref a1), (.int (2 : Int32)), (.int p3)] below meth c s₁ [] 0 0 := Stand.of_body Bd
  have e0 : s₁.heap = h0 := by rw [← hh, Bd.state]; rfl
  have N0 := Fr.nil n0
  have pre0 : ∀ t, Steps p.tables e below (s₁.setTop (mkF m 0 #[.val (.ref a1), .val (.int (2 : Int32)), .val (.int p3)] [])) t → Steps p.tables e below (s₁.setTop (entryFrame m #[(.ref a1), (.int (2 : Int32)), (.int p3)] 3)) t := fun t k => castTop (ef_7_5 m a1 (2 : Int32) p3) k
  obtain ⟨cl1, Ar1, qk1, Sz1, Nz1, Hs1, Gs1⟩ := id hf0
  obtain ⟨cl2, Ar2, qk2, Sz2, Nz2, Hs2, Gs2⟩ := id hf0
  have hin2 : ¬ ((2 : Int32) < 0 ∨ cl2.slots.size ≤ ((2 : Int32)).toNatClampNeg) := inb_of Sz2 ⟨by decide, by decide⟩
  have hat2 : cl2.slots[((2 : Int32)).toNatClampNeg]? = some (.int x2) := Has.at Hs2 hin2 rfl
  obtain ⟨fs, hr, hrun, hended, hW, hsame⟩ := X0.leave (v := some (.int (1 : Int32))) (fun h => by rw [Bd.returns] at h; cases h)
  refine ⟨_, _, pre0 _ ?_, hrun, hended, _, _, rfl, ?_, ⟨_, rfl⟩, hW, hsame.mono (by decide) (by decide)⟩
  · show Steps p.tables e below (s₁.setTop (mkF m 0 #[.val (.ref a1), .val (.int (2 : Int32)), .val (.int p3)] [])) _
    refine XS.iloadN X0.here hx rfl (hb hby d7_0) rfl ?_
    show Steps p.tables e below (s₁.setTop (mkF m 1 #[.val (.ref a1), .val (.int (2 : Int32)), .val (.int p3)] [(.int (2 : Int32))])) _
    refine XS.aloadN X0.here hx rfl (hb hby d7_1) rfl rfl ?_
    show Steps p.tables e below (s₁.setTop (mkF m 2 #[.val (.ref a1), .val (.int (2 : Int32)), .val (.int p3)] [(.ref a1), (.int (2 : Int32))])) _
    refine X0.arraylength hx (by rw [e0]; exact Ar1.1) (State.isArrayOf_alike hZ.alike Ar1.2.1) (g := (mkF m 2 #[.val (.ref a1), .val (.int (2 : Int32)), .val (.int p3)] [(.ref a1), (.int (2 : Int32))])) rfl rfl (hb hby d7_2) _ ?_
    rw [len_of Sz1 Nz1]
    show Steps p.tables e below (s₁.setTop (mkF m 3 #[.val (.ref a1), .val (.int (2 : Int32)), .val (.int p3)] [(.int (4 : Int32)), (.int (2 : Int32))])) _
    refine XS.icmpNo X0.here hx rfl (hb hby d7_3) rfl (tlt ((by decide) : (2 : Int32) < (4 : Int32))).2.1 ?_
    show Steps p.tables e below (s₁.setTop (mkF m 6 #[.val (.ref a1), .val (.int (2 : Int32)), .val (.int p3)] [])) _
    refine XS.aloadN X0.here hx rfl (hb hby d7_6) rfl rfl ?_
    show Steps p.tables e below (s₁.setTop (mkF m 7 #[.val (.ref a1), .val (.int (2 : Int32)), .val (.int p3)] [(.ref a1)])) _
    refine XS.iloadN X0.here hx rfl (hb hby d7_7) rfl ?_
    show Steps p.tables e below (s₁.setTop (mkF m 8 #[.val (.ref a1), .val (.int (2 : Int32)), .val (.int p3)] [(.int (2 : Int32)), (.ref a1)])) _
    refine X0.baloadBytes hx (j := (2 : Int32)) (v := (.int x2)) (by rw [e0]; exact Ar2.1) (State.isArrayOf_alike hZ.alike Ar2.2.1) Ar2.2.2 hin2 hat2 (g := (mkF m 8 #[.val (.ref a1), .val (.int (2 : Int32)), .val (.int p3)] [(.int (2 : Int32)), (.ref a1)])) rfl rfl (hb hby d7_8) _ ?_
    show Steps p.tables e below (s₁.setTop (mkF m 9 #[.val (.ref a1), .val (.int (2 : Int32)), .val (.int p3)] [(.int x2)])) _
    refine XS.iloadN X0.here hx rfl (hb hby d7_9) rfl ?_
    show Steps p.tables e below (s₁.setTop (mkF m 10 #[.val (.ref a1), .val (.int (2 : Int32)), .val (.int p3)] [(.int p3), (.int x2)])) _
    refine XS.i2b X0.here hx rfl (hb hby d7_10) rfl ?_
    show Steps p.tables e below (s₁.setTop (mkF m 11 #[.val (.ref a1), .val (.int (2 : Int32)), .val (.int p3)] [(.int (p3.toInt8.toInt32)), (.int x2)])) _
    refine XS.icmpNo X0.here hx rfl (hb hby d7_11) rfl (teq (heq : x2 = (p3.toInt8.toInt32))).2 ?_
    show Steps p.tables e below (s₁.setTop (mkF m 14 #[.val (.ref a1), .val (.int (2 : Int32)), .val (.int p3)] [])) _
    refine XS.iconst X0.here hx rfl (hb hby d7_14) ?_
    show Steps p.tables e below (s₁.setTop (mkF m 15 #[.val (.ref a1), .val (.int (2 : Int32)), .val (.int p3)] [(.int (1 : Int32))])) _
    refine XS.goto X0.here hx rfl (pc0 := 15) (pc' := 19) rfl (hb hby d7_15) (by decide) (by decide) ?_
    show Steps p.tables e below (s₁.setTop (mkF m 19 #[.val (.ref a1), .val (.int (2 : Int32)), .val (.int p3)] [(.int (1 : Int32))])) _
    exact retN X0 hx (t := .boolean) Bd.returns (by simp) (hb hby d7_19) hr
  · show QP (some (.int (1 : Int32))) h0 n0 _ s₁.heap _
    rw [e0]
    exact ⟨rfl, N0, rfl⟩
set_option maxRecDepth 65536 in
set_option maxHeartbeats 40000000 in
theorem rm7_4_3 (l : Launch) (Z : State) (a0 : Array Value) (hw : ∀ d ∈ tables_1, d.before a0 Z = true) (ws : List Jvm.Cond) {w_n0 : Addr} (W : Wd Z w_n0) (a1 : Addr) (p3 : Int32) (kk : ClassId) (x0 : Int32) (x1 : Int32) (x2 : Int32) (x3 : Int32) (h0 : Heap) (n0 : Nat) (O0 : Old Z n0 h0) (heq : x3 = (p3.toInt8.toInt32)) (hf0 : Arv Z h0 a1 kk .byte (4 : Int32) [(.int x0), (.int x1), (.int x2), (.int x3)] (.int (0 : Int32))) :
    MetFree l (⟨"com/example/keyfold/keyfold/client/ValueOfBinaryPinLaw", "at", "([BII)Z"⟩ : MethodName) (head1 (Jvm.Cond.code (⟨"com/example/keyfold/keyfold/client/ValueOfBinaryPinLaw", "at", "([BII)Z"⟩ : MethodName) method_3_code 3 (some .boolean) :: ws) ({ frames := 0, cells := 0, slots := 0, locals := 0 } : Room)) (fun a U => a = #[(.ref a1), (.int (3 : Int32)), (.int p3)] ∧ Z.Warmed39 U.vm ∧ U.heap = h0) (fun _ _ _ _ _ => True) (fun _ U o U' => ∃ v L, o = .returned v ∧ QP (some (.int (1 : Int32))) h0 n0 v U'.heap L ∧ FrameEnd U o U' L ({ frames := 0, cells := 0, slots := 0, locals := 0 } : Room).cells ({ frames := 0, cells := 0, slots := 0, locals := 0 } : Room).slots) := by
  have W' := W; obtain ⟨S_n0, E_n0⟩ := W'
  refine MetFree.of_bodySF (plainFor_of_name pn_7) hisR ?_
  intro p e s m args below meth c s₁ Bd hml0 hP hK
  obtain ⟨rfl, hZ, hh⟩ := hP
  have hx := Bd.exec
  have hby := Bd.bytes
  have hml : c.maxLocals = 3 := hml0
  have hown : s.vm.findClass "com/example/keyfold/keyfold/client/ValueOfBinaryPinLaw" = some m.cls := findClass_of_methodNamed Bd.named
  have hnm := (name_of_methodNamed Bd.named Bd.method).1
  have X0 : Stand p l e ({ frames := 0, cells := 0, slots := 0, locals := 0 } : Room) s m #[(.ref a1), (.int (3 : Int32)), (.int p3)] below meth c s₁ [] 0 0 := Stand.of_body Bd
  have e0 : s₁.heap = h0 := by rw [← hh, Bd.state]; rfl
  have N0 := Fr.nil n0
  have pre0 : ∀ t, Steps p.tables e below (s₁.setTop (mkF m 0 #[.val (.ref a1), .val (.int (3 : Int32)), .val (.int p3)] [])) t → Steps p.tables e below (s₁.setTop (entryFrame m #[(.ref a1), (.int (3 : Int32)), (.int p3)] 3)) t := fun t k => castTop (ef_7_5 m a1 (3 : Int32) p3) k
  obtain ⟨cl1, Ar1, qk1, Sz1, Nz1, Hs1, Gs1⟩ := id hf0
  obtain ⟨cl2, Ar2, qk2, Sz2, Nz2, Hs2, Gs2⟩ := id hf0
  have hin2 : ¬ ((3 : Int32) < 0 ∨ cl2.slots.size ≤ ((3 : Int32)).toNatClampNeg) := inb_of Sz2 ⟨by decide, by decide⟩
  have hat2 : cl2.slots[((3 : Int32)).toNatClampNeg]? = some (.int x3) := Has.at Hs2 hin2 rfl
  obtain ⟨fs, hr, hrun, hended, hW, hsame⟩ := X0.leave (v := some (.int (1 : Int32))) (fun h => by rw [Bd.returns] at h; cases h)
  refine ⟨_, _, pre0 _ ?_, hrun, hended, _, _, rfl, ?_, ⟨_, rfl⟩, hW, hsame.mono (by decide) (by decide)⟩
  · show Steps p.tables e below (s₁.setTop (mkF m 0 #[.val (.ref a1), .val (.int (3 : Int32)), .val (.int p3)] [])) _
    refine XS.iloadN X0.here hx rfl (hb hby d7_0) rfl ?_
    show Steps p.tables e below (s₁.setTop (mkF m 1 #[.val (.ref a1), .val (.int (3 : Int32)), .val (.int p3)] [(.int (3 : Int32))])) _
    refine XS.aloadN X0.here hx rfl (hb hby d7_1) rfl rfl ?_
    show Steps p.tables e below (s₁.setTop (mkF m 2 #[.val (.ref a1), .val (.int (3 : Int32)), .val (.int p3)] [(.ref a1), (.int (3 : Int32))])) _
    refine X0.arraylength hx (by rw [e0]; exact Ar1.1) (State.isArrayOf_alike hZ.alike Ar1.2.1) (g := (mkF m 2 #[.val (.ref a1), .val (.int (3 : Int32)), .val (.int p3)] [(.ref a1), (.int (3 : Int32))])) rfl rfl (hb hby d7_2) _ ?_
    rw [len_of Sz1 Nz1]
    show Steps p.tables e below (s₁.setTop (mkF m 3 #[.val (.ref a1), .val (.int (3 : Int32)), .val (.int p3)] [(.int (4 : Int32)), (.int (3 : Int32))])) _
    refine XS.icmpNo X0.here hx rfl (hb hby d7_3) rfl (tlt ((by decide) : (3 : Int32) < (4 : Int32))).2.1 ?_
    show Steps p.tables e below (s₁.setTop (mkF m 6 #[.val (.ref a1), .val (.int (3 : Int32)), .val (.int p3)] [])) _
    refine XS.aloadN X0.here hx rfl (hb hby d7_6) rfl rfl ?_
    show Steps p.tables e below (s₁.setTop (mkF m 7 #[.val (.ref a1), .val (.int (3 : Int32)), .val (.int p3)] [(.ref a1)])) _
    refine XS.iloadN X0.here hx rfl (hb hby d7_7) rfl ?_
    show Steps p.tables e below (s₁.setTop (mkF m 8 #[.val (.ref a1), .val (.int (3 : Int32)), .val (.int p3)] [(.int (3 : Int32)), (.ref a1)])) _
    refine X0.baloadBytes hx (j := (3 : Int32)) (v := (.int x3)) (by rw [e0]; exact Ar2.1) (State.isArrayOf_alike hZ.alike Ar2.2.1) Ar2.2.2 hin2 hat2 (g := (mkF m 8 #[.val (.ref a1), .val (.int (3 : Int32)), .val (.int p3)] [(.int (3 : Int32)), (.ref a1)])) rfl rfl (hb hby d7_8) _ ?_
    show Steps p.tables e below (s₁.setTop (mkF m 9 #[.val (.ref a1), .val (.int (3 : Int32)), .val (.int p3)] [(.int x3)])) _
    refine XS.iloadN X0.here hx rfl (hb hby d7_9) rfl ?_
    show Steps p.tables e below (s₁.setTop (mkF m 10 #[.val (.ref a1), .val (.int (3 : Int32)), .val (.int p3)] [(.int p3), (.int x3)])) _
    refine XS.i2b X0.here hx rfl (hb hby d7_10) rfl ?_
    show Steps p.tables e below (s₁.setTop (mkF m 11 #[.val (.ref a1), .val (.int (3 : Int32)), .val (.int p3)] [(.int (p3.toInt8.toInt32)), (.int x3)])) _
    refine XS.icmpNo X0.here hx rfl (hb hby d7_11) rfl (teq (heq : x3 = (p3.toInt8.toInt32))).2 ?_
    show Steps p.tables e below (s₁.setTop (mkF m 14 #[.val (.ref a1), .val (.int (3 : Int32)), .val (.int p3)] [])) _
    refine XS.iconst X0.here hx rfl (hb hby d7_14) ?_
    show Steps p.tables e below (s₁.setTop (mkF m 15 #[.val (.ref a1), .val (.int (3 : Int32)), .val (.int p3)] [(.int (1 : Int32))])) _
    refine XS.goto X0.here hx rfl (pc0 := 15) (pc' := 19) rfl (hb hby d7_15) (by decide) (by decide) ?_
    show Steps p.tables e below (s₁.setTop (mkF m 19 #[.val (.ref a1), .val (.int (3 : Int32)), .val (.int p3)] [(.int (1 : Int32))])) _
    exact retN X0 hx (t := .boolean) Bd.returns (by simp) (hb hby d7_19) hr
  · show QP (some (.int (1 : Int32))) h0 n0 _ s₁.heap _
    rw [e0]
    exact ⟨rfl, N0, rfl⟩
theorem pd_2 : parseMethodDescriptor "([B)Lcom/example/keyfold/keyfold/client/Value;" = some ⟨[(.array .byte)], some (.object "com/example/keyfold/keyfold/client/Value")⟩ := by decide +kernel
theorem pd_3 : parseMethodDescriptor "()Lcom/example/keyfold/keyfold/client/ValueType;" = some ⟨[], some (.object "com/example/keyfold/keyfold/client/ValueType")⟩ := by decide +kernel
theorem pd_4 : parseMethodDescriptor "()[B" = some ⟨[], some (.array .byte)⟩ := by decide +kernel
theorem pd_5 : parseMethodDescriptor "([BII)Z" = some ⟨[(.array .byte), .int, .int], some .boolean⟩ := by decide +kernel
theorem ef_0_6 (m : MethodId) (x0 : Int32) (x1 : Int32) (x2 : Int32) (x3 : Int32) (x4 : Int32) : entryFrame m #[(.int x0), (.int x1), (.int x2), (.int x3), (.int x4)] maxLocals = mkF m 0 #[.val (.int x0), .val (.int x1), .val (.int x2), .val (.int x3), .val (.int x4), .unset, .unset, .unset, .unset] [] := by first | (simp [entryFrame, mkF, argsToLocals, Value.category, maxLocals]; done) | rfl
theorem pn_0 : plainName "com/example/keyfold/keyfold/client/ValueOfBinaryPinLaw" = true := by first | (simp [plainName, overriddenIn]; done) | decide +kernel
set_option maxRecDepth 65536 in
set_option maxHeartbeats 40000000 in
theorem rm0_0 (l : Launch) (Z : State) (a0 : Array Value) (hw : ∀ d ∈ tables_1, d.before a0 Z = true) (ws : List Jvm.Cond) {w_n0 : Addr} (W : Wd Z w_n0) (p1 : Int32) (p2 : Int32) (p3 : Int32) (p4 : Int32) (p5 : Int32) (h0 : Heap) (n0 : Nat) (O0 : Old Z n0 h0) (hk : ((p1 &&& (7 : Int32)) % (5 : Int32)) = (0 : Int32)) :
    MetFree l x (head1 (Jvm.Cond.code x code maxLocals ret :: ws) room_1) (fun a U => a = #[(.int p1), (.int p2), (.int p3), (.int p4), (.int p5)] ∧ Z.Warmed39 U.vm ∧ U.heap = h0) (fun _ _ _ _ _ => True) (fun _ U o U' => ∃ v L, o = .returned v ∧ Q0 n0 v U'.heap L ∧ FrameEnd U o U' L room_1.cells room_1.slots) := by
  have W' := W; obtain ⟨S_n0, E_n0⟩ := W'
  refine MetFree.of_bodySF (plainFor_of_name pn_0) hisR ?_
  intro p e s m args below meth c s₁ Bd hml0 hP hK
  obtain ⟨rfl, hZ, hh⟩ := hP
  have hx := Bd.exec
  have hby := Bd.bytes
  have hml : c.maxLocals = 9 := hml0
  have hown : s.vm.findClass "com/example/keyfold/keyfold/client/ValueOfBinaryPinLaw" = some m.cls := findClass_of_methodNamed Bd.named
  have hnm := (name_of_methodNamed Bd.named Bd.method).1
  have X0 : Stand p l e room_1 s m #[(.int p1), (.int p2), (.int p3), (.int p4), (.int p5)] below meth c s₁ [] 0 0 := Stand.of_body Bd
  have e0 : s₁.heap = h0 := by rw [← hh, Bd.state]; rfl
  have N0 := Fr.nil n0
  have pre0 : ∀ t, Steps p.tables e below (s₁.setTop (mkF m 0 #[.val (.int p1), .val (.int p2), .val (.int p3), .val (.int p4), .val (.int p5), .unset, .unset, .unset, .unset] [])) t → Steps p.tables e below (s₁.setTop (entryFrame m #[(.int p1), (.int p2), (.int p3), (.int p4), (.int p5)] maxLocals)) t := fun t k => castTop (ef_0_6 m p1 p2 p3 p4 p5) k
  obtain ⟨T1, h1, k1, X1, e1, E1, A1, B1, st1⟩ := newPE X0 hx hZ (hw _ (List.mem_of_getElem? (i := 0) rfl)) e0 (g := (mkF m 10 #[.val (.int p1), .val (.int p2), .val (.int p3), .val (.int p4), .val (.int p5), .val (.int (0 : Int32)), .unset, .unset, .unset] [(.int (0 : Int32))])) rfl (hb hby at_10) rfl (by decide) (cap := 0) (by decide) (by decide) (by decide) (by decide) (ad := "[B") (by decide)
  obtain ⟨b1, g1⟩ : ∃ z, z = h0.size := ⟨_, rfl⟩
  rw [← g1] at A1 B1 st1
  have g_b1 : n0 ≤ b1 := by rw [g1]; exact O0.1 ▸ O0.2.1
  have O1 := O0.ext E1
  have fv1 : Arv Z h1 b1 k1 .byte (0 : Int32) [] (.int (0 : Int32)) := (Arv.new A1 (by decide)).pad (pad_rep [] (.int (0 : Int32)) 0)
  obtain ⟨_, _, ⟨T2, L2, k2, n2⟩, -, X2, ⟨Lc2, hQ2, l2, y2, z2⟩, st2⟩ := Jvm.LawKit.callS X1 hx (y := (⟨"com/example/keyfold/keyfold/client/Value", "ofBinary", "([B)Lcom/example/keyfold/keyfold/client/Value;"⟩ : MethodName)) hown (mvT hZ (hw _ (List.mem_of_getElem? (i := 1) rfl))) (mvT hZ (hw _ (List.mem_of_getElem? (i := 2) rfl))) (mvT hZ (hw _ (List.mem_of_getElem? (i := 3) rfl))) (mvT hZ (hw _ (List.mem_of_getElem? (i := 4) rfl))) (by decide) (backOf (W := 0) (rm1_0 l Z a0 hw [] W b1 k1 h1 n0 O1 g_b1 B1 fv1) hZ (hw _ (List.mem_of_getElem? (i := 4) rfl)) (hw _ (List.mem_of_getElem? (i := 3) rfl)) (by decide) (by decide)) (g := (mkF m 64 #[.val (.int p1), .val (.int p2), .val (.int p3), .val (.int p4), .val (.int p5), .val (.int (0 : Int32)), .val (.ref b1), .unset, .unset] [(.ref b1)])) rfl (by rw [hml]; rfl) (argsL := [(.ref b1)]) (rest := []) (lenOf pd_2 rfl) rfl (by show 2 * 0 + _ ≤ _; exact Nat.le_of_eq rfl) (hb hby at_64) (fun _ _ => ⟨rfl, e1, (by decide : 1 + 2 ≤ _), (by decide : 0 + 2 ≤ _)⟩)
  dsimp only [Pt.U, Pt.locs, Pt.cells, Pt.slots] at X2 l2 y2 z2 st2 hQ2
  subst l2 y2 z2
  obtain ⟨N2q, hP2⟩ := hQ2
  have N2 := Fr.app N0 N2q
  obtain ⟨b2_b1, b2_b3, rfl, Kp2, g_b2_b1, si_b2_b1, g_b2_b3, si_b2_b3, fp2_0, fp2_1, fp2_2, fp2_3, fp2_4⟩ := hP2
  have f2_0 : Arv Z T2.heap b1 k1 .byte (0 : Int32) [] (.int (0 : Int32)) := (fv1).keep Kp2 nin0
  have f2_1 : Exa Z T2.heap b1 "[B" := (B1).keep Kp2
  have O2 := O1.keep Kp2 all0
  obtain ⟨cq3, kq3, q3a, q3b, q3c⟩ := isOf hZ rfl fp2_0
  obtain ⟨_, _, ⟨T3, L3, k3, n3⟩, -, X3, ⟨Lc3, hQ3, l3, y3, z3⟩, st3⟩ := X2.virtualBack hx (y := (⟨"com/example/keyfold/keyfold/client/Value", "type", "()Lcom/example/keyfold/keyfold/client/ValueType;"⟩ : MethodName)) (z := (⟨"com/example/keyfold/keyfold/client/Value", "type", "()Lcom/example/keyfold/keyfold/client/ValueType;"⟩ : MethodName)) hown (mvT hZ (hw _ (List.mem_of_getElem? (i := 27) rfl))) (mvT hZ (hw _ (List.mem_of_getElem? (i := 28) rfl))) (notFace_of_selects (args := #[]) (mvT hZ (hw _ (List.mem_of_getElem? (i := 30) rfl)))) (mvT hZ (hw _ (List.mem_of_getElem? (i := 30) rfl))) (mvT hZ (hw _ (List.mem_of_getElem? (i := 29) rfl))) (by decide) (backOf (W := 0) (rm4 l Z a0 hw [] W b2_b1 T2.heap n0 O2 fp2_1) hZ (hw _ (List.mem_of_getElem? (i := 31) rfl)) (hw _ (List.mem_of_getElem? (i := 3) rfl)) (by decide) (by decide)) q3a q3c (g := (mkF m 138 #[.val (.int p1), .val (.int p2), .val (.int p3), .val (.int p4), .val (.int p5), .val (.int (0 : Int32)), .val (.ref b1), .val (.ref b2_b1), .unset] [(.ref b2_b1)])) rfl (by rw [hml]; rfl) (Steps.refl _) (argsL := []) (rest := []) (lenOf pd_3 rfl) rfl (by show 2 * 0 + _ ≤ _; exact Nat.le_of_eq rfl) (hb hby at_138) (fun _ _ => ⟨rfl, rfl, (by decide : 3 + 0 ≤ _), (by decide : 2 + 0 ≤ _)⟩)
  dsimp only [Pt.U, Pt.locs, Pt.cells, Pt.slots] at X3 l3 y3 z3 st3 hQ3
  subst l3 y3 z3
  obtain ⟨rfl, N3q, e3⟩ := hQ3
  have N3 := Fr.app N2 N3q
  obtain ⟨T4, X4, e4, st4⟩ := getS2 X3 hx hZ hown (host := "") (Or.inl (hw _ (List.mem_of_getElem? (i := 32) rfl))) Via.refl e3 (S_n0.ext O2.2) (g := (mkF m 141 #[.val (.int p1), .val (.int p2), .val (.int p3), .val (.int p4), .val (.int p5), .val (.int (0 : Int32)), .val (.ref b1), .val (.ref b2_b1), .unset] [(.ref w_n0)])) rfl (hb hby at_141)
  obtain ⟨cq5, kq5, q5a, q5b, q5c⟩ := isOf hZ e4 fp2_0
  obtain ⟨_, _, ⟨T5, L5, k5, n5⟩, -, X5, ⟨Lc5, hQ5, l5, y5, z5⟩, st5⟩ := X4.virtualBack hx (y := (⟨"com/example/keyfold/keyfold/client/Value", "asBinary", "()[B"⟩ : MethodName)) (z := (⟨"com/example/keyfold/keyfold/client/Value", "asBinary", "()[B"⟩ : MethodName)) hown (mvT hZ (hw _ (List.mem_of_getElem? (i := 33) rfl))) (mvT hZ (hw _ (List.mem_of_getElem? (i := 34) rfl))) (notFace_of_selects (args := #[]) (mvT hZ (hw _ (List.mem_of_getElem? (i := 36) rfl)))) (mvT hZ (hw _ (List.mem_of_getElem? (i := 36) rfl))) (mvT hZ (hw _ (List.mem_of_getElem? (i := 35) rfl))) (by decide) (backOf (W := 0) (rm5_0 l Z a0 hw [] W b2_b1 b2_b3 k1 T2.heap n0 O2 g_b2_b1 fp2_0 fp2_1 fp2_2 g_b2_b3 fp2_3 fp2_4) hZ (hw _ (List.mem_of_getElem? (i := 37) rfl)) (hw _ (List.mem_of_getElem? (i := 3) rfl)) (by decide) (by decide)) q5a q5c (g := (mkF m 151 #[.val (.int p1), .val (.int p2), .val (.int p3), .val (.int p4), .val (.int p5), .val (.int (0 : Int32)), .val (.ref b1), .val (.ref b2_b1), .unset] [(.ref b2_b1)])) rfl (by rw [hml]; rfl) (Steps.refl _) (argsL := []) (rest := []) (lenOf pd_4 rfl) rfl (by show 2 * 0 + _ ≤ _; exact Nat.le_of_eq rfl) (hb hby at_151) (fun _ _ => ⟨rfl, e4, (by decide : 3 + 1 ≤ _), (by decide : 2 + 0 ≤ _)⟩)
  dsimp only [Pt.U, Pt.locs, Pt.cells, Pt.slots] at X5 l5 y5 z5 st5 hQ5
  subst l5 y5 z5
  obtain ⟨N5q, hP5⟩ := hQ5
  have N5 := Fr.app N3 N5q
  obtain ⟨b5_b4, rfl, Kp5, g_b5_b4, si_b5_b4, fp5_0, fp5_1⟩ := hP5
  have f5_0 : Arv Z T5.heap b1 k1 .byte (0 : Int32) [] (.int (0 : Int32)) := (f2_0).keep Kp5 nin0
  have f5_1 : Exa Z T5.heap b1 "[B" := (f2_1).keep Kp5
  have f5_2 : Exa Z T5.heap b2_b1 "com/example/keyfold/keyfold/client/Value" := (fp2_0).keep Kp5
  have f5_3 : Fld Z T5.heap b2_b1 "com/example/keyfold/keyfold/client/Value" "type" "Lcom/example/keyfold/keyfold/client/ValueType;" (.ref w_n0) := (fp2_1).keep Kp5 nin0
  have f5_4 : Fld Z T5.heap b2_b1 "com/example/keyfold/keyfold/client/Value" "content" "Ljava/lang/Object;" (.ref b2_b3) := (fp2_2).keep Kp5 nin0
  have f5_5 : Exa Z T5.heap b2_b3 "[B" := (fp2_3).keep Kp5
  have f5_6 : Arv Z T5.heap b2_b3 k1 .byte (0 : Int32) [] (.int (0 : Int32)) := (fp2_4).keep Kp5 nin0
  have O5 := O2.keep Kp5 all0
  obtain ⟨cl6, Ar6, qk6, Sz6, Nz6, Hs6, Gs6⟩ := id fp5_1
  obtain ⟨_, _, ⟨T7, L7, k7, n7⟩, -, X7, ⟨Lc7, hQ7, l7, y7, z7⟩, st7⟩ := Jvm.LawKit.callS X5 hx (y := (⟨"com/example/keyfold/keyfold/client/ValueOfBinaryPinLaw", "at", "([BII)Z"⟩ : MethodName)) hown (mvT hZ (hw _ (List.mem_of_getElem? (i := 44) rfl))) (mvT hZ (hw _ (List.mem_of_getElem? (i := 45) rfl))) (mvT hZ (hw _ (List.mem_of_getElem? (i := 46) rfl))) (mvT hZ (hw _ (List.mem_of_getElem? (i := 47) rfl))) (by decide) (backOf (W := 0) (rm7_0_0 l Z a0 hw [] W b5_b4 p2 k1 T5.heap n0 O5 fp5_1) hZ (hw _ (List.mem_of_getElem? (i := 47) rfl)) (hw _ (List.mem_of_getElem? (i := 46) rfl)) (by decide) (by decide)) (g := (mkF m 170 #[.val (.int p1), .val (.int p2), .val (.int p3), .val (.int p4), .val (.int p5), .val (.int (0 : Int32)), .val (.ref b1), .val (.ref b2_b1), .val (.ref b5_b4)] [(.int p2), (.int (0 : Int32)), (.ref b5_b4)])) rfl (by rw [hml]; rfl) (argsL := [(.ref b5_b4), (.int (0 : Int32)), (.int p2)]) (rest := []) (lenOf pd_5 rfl) rfl (by show 2 * 0 + _ ≤ _; exact Nat.le_of_eq rfl) (hb hby at_170) (fun _ _ => ⟨rfl, rfl, (by decide : 4 + 0 ≤ _), (by decide : 2 + 0 ≤ _)⟩)
  dsimp only [Pt.U, Pt.locs, Pt.cells, Pt.slots] at X7 l7 y7 z7 st7 hQ7
  subst l7 y7 z7
  obtain ⟨rfl, N7q, e7⟩ := hQ7
  have N7 := Fr.app N5 N7q
  obtain ⟨_, _, ⟨T8, L8, k8, n8⟩, -, X8, ⟨Lc8, hQ8, l8, y8, z8⟩, st8⟩ := Jvm.LawKit.callS X7 hx (y := (⟨"com/example/keyfold/keyfold/client/ValueOfBinaryPinLaw", "at", "([BII)Z"⟩ : MethodName)) hown (mvT hZ (hw _ (List.mem_of_getElem? (i := 44) rfl))) (mvT hZ (hw _ (List.mem_of_getElem? (i := 45) rfl))) (mvT hZ (hw _ (List.mem_of_getElem? (i := 46) rfl))) (mvT hZ (hw _ (List.mem_of_getElem? (i := 47) rfl))) (by decide) (backOf (W := 0) (rm7_0_1 l Z a0 hw [] W b5_b4 p3 k1 T5.heap n0 O5 fp5_1) hZ (hw _ (List.mem_of_getElem? (i := 47) rfl)) (hw _ (List.mem_of_getElem? (i := 46) rfl)) (by decide) (by decide)) (g := (mkF m 180 #[.val (.int p1), .val (.int p2), .val (.int p3), .val (.int p4), .val (.int p5), .val (.int (0 : Int32)), .val (.ref b1), .val (.ref b2_b1), .val (.ref b5_b4)] [(.int p3), (.int (1 : Int32)), (.ref b5_b4)])) rfl (by rw [hml]; rfl) (argsL := [(.ref b5_b4), (.int (1 : Int32)), (.int p3)]) (rest := []) (lenOf pd_5 rfl) rfl (by show 2 * 0 + _ ≤ _; exact Nat.le_of_eq rfl) (hb hby at_180) (fun _ _ => ⟨rfl, e7, (by decide : 4 + 0 ≤ _), (by decide : 2 + 0 ≤ _)⟩)
  dsimp only [Pt.U, Pt.locs, Pt.cells, Pt.slots] at X8 l8 y8 z8 st8 hQ8
  subst l8 y8 z8
  obtain ⟨rfl, N8q, e8⟩ := hQ8
  have N8 := Fr.app N7 N8q
  obtain ⟨_, _, ⟨T9, L9, k9, n9⟩, -, X9, ⟨Lc9, hQ9, l9, y9, z9⟩, st9⟩ := Jvm.LawKit.callS X8 hx (y := (⟨"com/example/keyfold/keyfold/client/ValueOfBinaryPinLaw", "at", "([BII)Z"⟩ : MethodName)) hown (mvT hZ (hw _ (List.mem_of_getElem? (i := 44) rfl))) (mvT hZ (hw _ (List.mem_of_getElem? (i := 45) rfl))) (mvT hZ (hw _ (List.mem_of_getElem? (i := 46) rfl))) (mvT hZ (hw _ (List.mem_of_getElem? (i := 47) rfl))) (by decide) (backOf (W := 0) (rm7_0_2 l Z a0 hw [] W b5_b4 p4 k1 T5.heap n0 O5 fp5_1) hZ (hw _ (List.mem_of_getElem? (i := 47) rfl)) (hw _ (List.mem_of_getElem? (i := 46) rfl)) (by decide) (by decide)) (g := (mkF m 190 #[.val (.int p1), .val (.int p2), .val (.int p3), .val (.int p4), .val (.int p5), .val (.int (0 : Int32)), .val (.ref b1), .val (.ref b2_b1), .val (.ref b5_b4)] [(.int p4), (.int (2 : Int32)), (.ref b5_b4)])) rfl (by rw [hml]; rfl) (argsL := [(.ref b5_b4), (.int (2 : Int32)), (.int p4)]) (rest := []) (lenOf pd_5 rfl) rfl (by show 2 * 0 + _ ≤ _; exact Nat.le_of_eq rfl) (hb hby at_190) (fun _ _ => ⟨rfl, e8, (by decide : 4 + 0 ≤ _), (by decide : 2 + 0 ≤ _)⟩)
  dsimp only [Pt.U, Pt.locs, Pt.cells, Pt.slots] at X9 l9 y9 z9 st9 hQ9
  subst l9 y9 z9
  obtain ⟨rfl, N9q, e9⟩ := hQ9
  have N9 := Fr.app N8 N9q
  obtain ⟨_, _, ⟨T10, L10, k10, n10⟩, -, X10, ⟨Lc10, hQ10, l10, y10, z10⟩, st10⟩ := Jvm.LawKit.callS X9 hx (y := (⟨"com/example/keyfold/keyfold/client/ValueOfBinaryPinLaw", "at", "([BII)Z"⟩ : MethodName)) hown (mvT hZ (hw _ (List.mem_of_getElem? (i := 44) rfl))) (mvT hZ (hw _ (List.mem_of_getElem? (i := 45) rfl))) (mvT hZ (hw _ (List.mem_of_getElem? (i := 46) rfl))) (mvT hZ (hw _ (List.mem_of_getElem? (i := 47) rfl))) (by decide) (backOf (W := 0) (rm7_0_3 l Z a0 hw [] W b5_b4 p5 k1 T5.heap n0 O5 fp5_1) hZ (hw _ (List.mem_of_getElem? (i := 47) rfl)) (hw _ (List.mem_of_getElem? (i := 46) rfl)) (by decide) (by decide)) (g := (mkF m 201 #[.val (.int p1), .val (.int p2), .val (.int p3), .val (.int p4), .val (.int p5), .val (.int (0 : Int32)), .val (.ref b1), .val (.ref b2_b1), .val (.ref b5_b4)] [(.int p5), (.int (3 : Int32)), (.ref b5_b4)])) rfl (by rw [hml]; rfl) (argsL := [(.ref b5_b4), (.int (3 : Int32)), (.int p5)]) (rest := []) (lenOf pd_5 rfl) rfl (by show 2 * 0 + _ ≤ _; exact Nat.le_of_eq rfl) (hb hby at_201) (fun _ _ => ⟨rfl, e9, (by decide : 4 + 0 ≤ _), (by decide : 2 + 0 ≤ _)⟩)
  dsimp only [Pt.U, Pt.locs, Pt.cells, Pt.slots] at X10 l10 y10 z10 st10 hQ10
  subst l10 y10 z10
  obtain ⟨rfl, N10q, e10⟩ := hQ10
  have N10 := Fr.app N9 N10q
  obtain ⟨fs, hr, hrun, hended, hW, hsame⟩ := X10.leave (v := some (.int (1 : Int32))) (fun h => by rw [Bd.returns] at h; cases h)
  refine ⟨_, _, pre0 _ ?_, hrun, hended, _, _, rfl, ?_, ⟨_, rfl⟩, hW, hsame.mono (by decide) (by decide)⟩
  · show Steps p.tables e below (s₁.setTop (mkF m 0 #[.val (.int p1), .val (.int p2), .val (.int p3), .val (.int p4), .val (.int p5), .unset, .unset, .unset, .unset] [])) _
    refine XS.iloadN X0.here hx rfl (hb hby at_0) rfl ?_
    show Steps p.tables e below (s₁.setTop (mkF m 1 #[.val (.int p1), .val (.int p2), .val (.int p3), .val (.int p4), .val (.int p5), .unset, .unset, .unset, .unset] [(.int p1)])) _
    refine XS.bipush X0.here hx rfl (hb hby at_1) ?_
    show Steps p.tables e below (s₁.setTop (mkF m 3 #[.val (.int p1), .val (.int p2), .val (.int p3), .val (.int p4), .val (.int p5), .unset, .unset, .unset, .unset] [(.int (7 : Int32)), (.int p1)])) _
    refine XS.iand X0.here hx rfl (hb hby at_3) rfl ?_
    show Steps p.tables e below (s₁.setTop (mkF m 4 #[.val (.int p1), .val (.int p2), .val (.int p3), .val (.int p4), .val (.int p5), .unset, .unset, .unset, .unset] [(.int (p1 &&& (7 : Int32)))])) _
    refine XS.iconst X0.here hx rfl (hb hby at_4) ?_
    show Steps p.tables e below (s₁.setTop (mkF m 5 #[.val (.int p1), .val (.int p2), .val (.int p3), .val (.int p4), .val (.int p5), .unset, .unset, .unset, .unset] [(.int (5 : Int32)), (.int (p1 &&& (7 : Int32)))])) _
    refine iremM X0 hx rfl (hb hby at_5) rfl (by decide) ?_
    show Steps p.tables e below (s₁.setTop (mkF m 6 #[.val (.int p1), .val (.int p2), .val (.int p3), .val (.int p4), .val (.int p5), .unset, .unset, .unset, .unset] [(.int ((p1 &&& (7 : Int32)) % (5 : Int32)))])) _
    rw [hk]
    show Steps p.tables e below (s₁.setTop (mkF m 6 #[.val (.int p1), .val (.int p2), .val (.int p3), .val (.int p4), .val (.int p5), .unset, .unset, .unset, .unset] [(.int (0 : Int32))])) _
    refine XS.istore X0.here hx rfl (hb hby at_6) rfl (l' := #[.val (.int p1), .val (.int p2), .val (.int p3), .val (.int p4), .val (.int p5), .val (.int (0 : Int32)), .unset, .unset, .unset]) rfl ?_
    show Steps p.tables e below (s₁.setTop (mkF m 8 #[.val (.int p1), .val (.int p2), .val (.int p3), .val (.int p4), .val (.int p5), .val (.int (0 : Int32)), .unset, .unset, .unset] [])) _
    refine XS.iload X0.here hx rfl (hb hby at_8) rfl ?_
    show Steps p.tables e below (s₁.setTop (mkF m 10 #[.val (.int p1), .val (.int p2), .val (.int p3), .val (.int p4), .val (.int p5), .val (.int (0 : Int32)), .unset, .unset, .unset] [(.int (0 : Int32))])) _
    refine st1 _ ?_
    show Steps p.tables e below (T1.setTop (mkF m 12 #[.val (.int p1), .val (.int p2), .val (.int p3), .val (.int p4), .val (.int p5), .val (.int (0 : Int32)), .unset, .unset, .unset] [(.ref b1)])) _
    refine XS.astore X1.here hx rfl (hb hby at_12) rfl rfl (l' := #[.val (.int p1), .val (.int p2), .val (.int p3), .val (.int p4), .val (.int p5), .val (.int (0 : Int32)), .val (.ref b1), .unset, .unset]) rfl ?_
    show Steps p.tables e below (T1.setTop (mkF m 14 #[.val (.int p1), .val (.int p2), .val (.int p3), .val (.int p4), .val (.int p5), .val (.int (0 : Int32)), .val (.ref b1), .unset, .unset] [])) _
    refine XS.iload X1.here hx rfl (hb hby at_14) rfl ?_
    show Steps p.tables e below (T1.setTop (mkF m 16 #[.val (.int p1), .val (.int p2), .val (.int p3), .val (.int p4), .val (.int p5), .val (.int (0 : Int32)), .val (.ref b1), .unset, .unset] [(.int (0 : Int32))])) _
    refine XS.ifYes X1.here hx rfl (pc0 := 16) (pc' := 25) rfl (hb hby at_16) rfl ((if0 _ _).trans (flt ((by decide) : ¬ ((0 : Int32) < (0 : Int32)))).2.2.2) (by decide) (by decide) ?_
    show Steps p.tables e below (T1.setTop (mkF m 25 #[.val (.int p1), .val (.int p2), .val (.int p3), .val (.int p4), .val (.int p5), .val (.int (0 : Int32)), .val (.ref b1), .unset, .unset] [])) _
    refine XS.iload X1.here hx rfl (hb hby at_25) rfl ?_
    show Steps p.tables e below (T1.setTop (mkF m 27 #[.val (.int p1), .val (.int p2), .val (.int p3), .val (.int p4), .val (.int p5), .val (.int (0 : Int32)), .val (.ref b1), .unset, .unset] [(.int (0 : Int32))])) _
    refine XS.iconst X1.here hx rfl (hb hby at_27) ?_
    show Steps p.tables e below (T1.setTop (mkF m 28 #[.val (.int p1), .val (.int p2), .val (.int p3), .val (.int p4), .val (.int p5), .val (.int (0 : Int32)), .val (.ref b1), .unset, .unset] [(.int (1 : Int32)), (.int (0 : Int32))])) _
    refine XS.icmpYes X1.here hx rfl (pc0 := 28) (pc' := 37) rfl (hb hby at_28) rfl (flt ((by decide) : ¬ ((1 : Int32) < (0 : Int32)))).2.2.2 (by decide) (by decide) ?_
    show Steps p.tables e below (T1.setTop (mkF m 37 #[.val (.int p1), .val (.int p2), .val (.int p3), .val (.int p4), .val (.int p5), .val (.int (0 : Int32)), .val (.ref b1), .unset, .unset] [])) _
    refine XS.iload X1.here hx rfl (hb hby at_37) rfl ?_
    show Steps p.tables e below (T1.setTop (mkF m 39 #[.val (.int p1), .val (.int p2), .val (.int p3), .val (.int p4), .val (.int p5), .val (.int (0 : Int32)), .val (.ref b1), .unset, .unset] [(.int (0 : Int32))])) _
    refine XS.iconst X1.here hx rfl (hb hby at_39) ?_
    show Steps p.tables e below (T1.setTop (mkF m 40 #[.val (.int p1), .val (.int p2), .val (.int p3), .val (.int p4), .val (.int p5), .val (.int (0 : Int32)), .val (.ref b1), .unset, .unset] [(.int (2 : Int32)), (.int (0 : Int32))])) _
    refine XS.icmpYes X1.here hx rfl (pc0 := 40) (pc' := 49) rfl (hb hby at_40) rfl (flt ((by decide) : ¬ ((2 : Int32) < (0 : Int32)))).2.2.2 (by decide) (by decide) ?_
    show Steps p.tables e below (T1.setTop (mkF m 49 #[.val (.int p1), .val (.int p2), .val (.int p3), .val (.int p4), .val (.int p5), .val (.int (0 : Int32)), .val (.ref b1), .unset, .unset] [])) _
    refine XS.iload X1.here hx rfl (hb hby at_49) rfl ?_
    show Steps p.tables e below (T1.setTop (mkF m 51 #[.val (.int p1), .val (.int p2), .val (.int p3), .val (.int p4), .val (.int p5), .val (.int (0 : Int32)), .val (.ref b1), .unset, .unset] [(.int (0 : Int32))])) _
    refine XS.iconst X1.here hx rfl (hb hby at_51) ?_
    show Steps p.tables e below (T1.setTop (mkF m 52 #[.val (.int p1), .val (.int p2), .val (.int p3), .val (.int p4), .val (.int p5), .val (.int (0 : Int32)), .val (.ref b1), .unset, .unset] [(.int (3 : Int32)), (.int (0 : Int32))])) _
    refine XS.icmpYes X1.here hx rfl (pc0 := 52) (pc' := 62) rfl (hb hby at_52) rfl (flt ((by decide) : ¬ ((3 : Int32) < (0 : Int32)))).2.2.2 (by decide) (by decide) ?_
    show Steps p.tables e below (T1.setTop (mkF m 62 #[.val (.int p1), .val (.int p2), .val (.int p3), .val (.int p4), .val (.int p5), .val (.int (0 : Int32)), .val (.ref b1), .unset, .unset] [])) _
    refine XS.aload X1.here hx rfl (hb hby at_62) rfl rfl ?_
    show Steps p.tables e below (T1.setTop (mkF m 64 #[.val (.int p1), .val (.int p2), .val (.int p3), .val (.int p4), .val (.int p5), .val (.int (0 : Int32)), .val (.ref b1), .unset, .unset] [(.ref b1)])) _
    refine st2 _ ?_
    show Steps p.tables e below (T2.setTop (mkF m 67 #[.val (.int p1), .val (.int p2), .val (.int p3), .val (.int p4), .val (.int p5), .val (.int (0 : Int32)), .val (.ref b1), .unset, .unset] [(.ref b2_b1)])) _
    refine XS.astore X2.here hx rfl (hb hby at_67) rfl rfl (l' := #[.val (.int p1), .val (.int p2), .val (.int p3), .val (.int p4), .val (.int p5), .val (.int (0 : Int32)), .val (.ref b1), .val (.ref b2_b1), .unset]) rfl ?_
    show Steps p.tables e below (T2.setTop (mkF m 69 #[.val (.int p1), .val (.int p2), .val (.int p3), .val (.int p4), .val (.int p5), .val (.int (0 : Int32)), .val (.ref b1), .val (.ref b2_b1), .unset] [])) _
    refine XS.iload X2.here hx rfl (hb hby at_69) rfl ?_
    show Steps p.tables e below (T2.setTop (mkF m 71 #[.val (.int p1), .val (.int p2), .val (.int p3), .val (.int p4), .val (.int p5), .val (.int (0 : Int32)), .val (.ref b1), .val (.ref b2_b1), .unset] [(.int (0 : Int32))])) _
    refine XS.ifYes X2.here hx rfl (pc0 := 71) (pc' := 85) rfl (hb hby at_71) rfl ((if0 _ _).trans (flt ((by decide) : ¬ ((0 : Int32) < (0 : Int32)))).2.2.2) (by decide) (by decide) ?_
    show Steps p.tables e below (T2.setTop (mkF m 85 #[.val (.int p1), .val (.int p2), .val (.int p3), .val (.int p4), .val (.int p5), .val (.int (0 : Int32)), .val (.ref b1), .val (.ref b2_b1), .unset] [])) _
    refine XS.iload X2.here hx rfl (hb hby at_85) rfl ?_
    show Steps p.tables e below (T2.setTop (mkF m 87 #[.val (.int p1), .val (.int p2), .val (.int p3), .val (.int p4), .val (.int p5), .val (.int (0 : Int32)), .val (.ref b1), .val (.ref b2_b1), .unset] [(.int (0 : Int32))])) _
    refine XS.iconst X2.here hx rfl (hb hby at_87) ?_
    show Steps p.tables e below (T2.setTop (mkF m 88 #[.val (.int p1), .val (.int p2), .val (.int p3), .val (.int p4), .val (.int p5), .val (.int (0 : Int32)), .val (.ref b1), .val (.ref b2_b1), .unset] [(.int (1 : Int32)), (.int (0 : Int32))])) _
    refine XS.icmpYes X2.here hx rfl (pc0 := 88) (pc' := 102) rfl (hb hby at_88) rfl (flt ((by decide) : ¬ ((1 : Int32) < (0 : Int32)))).2.2.2 (by decide) (by decide) ?_
    show Steps p.tables e below (T2.setTop (mkF m 102 #[.val (.int p1), .val (.int p2), .val (.int p3), .val (.int p4), .val (.int p5), .val (.int (0 : Int32)), .val (.ref b1), .val (.ref b2_b1), .unset] [])) _
    refine XS.iload X2.here hx rfl (hb hby at_102) rfl ?_
    show Steps p.tables e below (T2.setTop (mkF m 104 #[.val (.int p1), .val (.int p2), .val (.int p3), .val (.int p4), .val (.int p5), .val (.int (0 : Int32)), .val (.ref b1), .val (.ref b2_b1), .unset] [(.int (0 : Int32))])) _
    refine XS.iconst X2.here hx rfl (hb hby at_104) ?_
    show Steps p.tables e below (T2.setTop (mkF m 105 #[.val (.int p1), .val (.int p2), .val (.int p3), .val (.int p4), .val (.int p5), .val (.int (0 : Int32)), .val (.ref b1), .val (.ref b2_b1), .unset] [(.int (2 : Int32)), (.int (0 : Int32))])) _
    refine XS.icmpYes X2.here hx rfl (pc0 := 105) (pc' := 119) rfl (hb hby at_105) rfl (flt ((by decide) : ¬ ((2 : Int32) < (0 : Int32)))).2.2.2 (by decide) (by decide) ?_
    show Steps p.tables e below (T2.setTop (mkF m 119 #[.val (.int p1), .val (.int p2), .val (.int p3), .val (.int p4), .val (.int p5), .val (.int (0 : Int32)), .val (.ref b1), .val (.ref b2_b1), .unset] [])) _
    refine XS.iload X2.here hx rfl (hb hby at_119) rfl ?_
    show Steps p.tables e below (T2.setTop (mkF m 121 #[.val (.int p1), .val (.int p2), .val (.int p3), .val (.int p4), .val (.int p5), .val (.int (0 : Int32)), .val (.ref b1), .val (.ref b2_b1), .unset] [(.int (0 : Int32))])) _
    refine XS.iconst X2.here hx rfl (hb hby at_121) ?_
    show Steps p.tables e below (T2.setTop (mkF m 122 #[.val (.int p1), .val (.int p2), .val (.int p3), .val (.int p4), .val (.int p5), .val (.int (0 : Int32)), .val (.ref b1), .val (.ref b2_b1), .unset] [(.int (3 : Int32)), (.int (0 : Int32))])) _
    refine XS.icmpYes X2.here hx rfl (pc0 := 122) (pc' := 136) rfl (hb hby at_122) rfl (flt ((by decide) : ¬ ((3 : Int32) < (0 : Int32)))).2.2.2 (by decide) (by decide) ?_
    show Steps p.tables e below (T2.setTop (mkF m 136 #[.val (.int p1), .val (.int p2), .val (.int p3), .val (.int p4), .val (.int p5), .val (.int (0 : Int32)), .val (.ref b1), .val (.ref b2_b1), .unset] [])) _
    refine XS.aload X2.here hx rfl (hb hby at_136) rfl rfl ?_
    show Steps p.tables e below (T2.setTop (mkF m 138 #[.val (.int p1), .val (.int p2), .val (.int p3), .val (.int p4), .val (.int p5), .val (.int (0 : Int32)), .val (.ref b1), .val (.ref b2_b1), .unset] [(.ref b2_b1)])) _
    refine st3.trans ?_
    show Steps p.tables e below (T3.setTop (mkF m 141 #[.val (.int p1), .val (.int p2), .val (.int p3), .val (.int p4), .val (.int p5), .val (.int (0 : Int32)), .val (.ref b1), .val (.ref b2_b1), .unset] [(.ref w_n0)])) _
    refine st4 _ ?_
    show Steps p.tables e below (T4.setTop (mkF m 144 #[.val (.int p1), .val (.int p2), .val (.int p3), .val (.int p4), .val (.int p5), .val (.int (0 : Int32)), .val (.ref b1), .val (.ref b2_b1), .unset] [(.ref w_n0), (.ref w_n0)])) _
    refine Jvm.RoadKit.acmp (g := (mkF m 144 #[.val (.int p1), .val (.int p2), .val (.int p3), .val (.int p4), .val (.int p5), .val (.int (0 : Int32)), .val (.ref b1), .val (.ref b2_b1), .unset] [(.ref w_n0), (.ref w_n0)])) X4 hx rfl rfl rfl (pc0 := 144) (pc' := 149) (same := true) rfl (hb hby at_144) rfl (decide_eq_true rfl) (by decide) (by decide) ?_
    show Steps p.tables e below (T4.setTop (mkF m 149 #[.val (.int p1), .val (.int p2), .val (.int p3), .val (.int p4), .val (.int p5), .val (.int (0 : Int32)), .val (.ref b1), .val (.ref b2_b1), .unset] [])) _
    refine XS.aload X4.here hx rfl (hb hby at_149) rfl rfl ?_
    show Steps p.tables e below (T4.setTop (mkF m 151 #[.val (.int p1), .val (.int p2), .val (.int p3), .val (.int p4), .val (.int p5), .val (.int (0 : Int32)), .val (.ref b1), .val (.ref b2_b1), .unset] [(.ref b2_b1)])) _
    refine st5.trans ?_
    show Steps p.tables e below (T5.setTop (mkF m 154 #[.val (.int p1), .val (.int p2), .val (.int p3), .val (.int p4), .val (.int p5), .val (.int (0 : Int32)), .val (.ref b1), .val (.ref b2_b1), .unset] [(.ref b5_b4)])) _
    refine XS.astore X5.here hx rfl (hb hby at_154) rfl rfl (l' := #[.val (.int p1), .val (.int p2), .val (.int p3), .val (.int p4), .val (.int p5), .val (.int (0 : Int32)), .val (.ref b1), .val (.ref b2_b1), .val (.ref b5_b4)]) rfl ?_
    show Steps p.tables e below (T5.setTop (mkF m 156 #[.val (.int p1), .val (.int p2), .val (.int p3), .val (.int p4), .val (.int p5), .val (.int (0 : Int32)), .val (.ref b1), .val (.ref b2_b1), .val (.ref b5_b4)] [])) _
    refine XS.aload X5.here hx rfl (hb hby at_156) rfl rfl ?_
    show Steps p.tables e below (T5.setTop (mkF m 158 #[.val (.int p1), .val (.int p2), .val (.int p3), .val (.int p4), .val (.int p5), .val (.int (0 : Int32)), .val (.ref b1), .val (.ref b2_b1), .val (.ref b5_b4)] [(.ref b5_b4)])) _
    refine X5.arraylength hx Ar6.1 (State.isArrayOf_alike hZ.alike Ar6.2.1) (g := (mkF m 158 #[.val (.int p1), .val (.int p2), .val (.int p3), .val (.int p4), .val (.int p5), .val (.int (0 : Int32)), .val (.ref b1), .val (.ref b2_b1), .val (.ref b5_b4)] [(.ref b5_b4)])) rfl rfl (hb hby at_158) _ ?_
    rw [len_of Sz6 Nz6]
    show Steps p.tables e below (T5.setTop (mkF m 159 #[.val (.int p1), .val (.int p2), .val (.int p3), .val (.int p4), .val (.int p5), .val (.int (0 : Int32)), .val (.ref b1), .val (.ref b2_b1), .val (.ref b5_b4)] [(.int (0 : Int32))])) _
    refine XS.iload X5.here hx rfl (hb hby at_159) rfl ?_
    show Steps p.tables e below (T5.setTop (mkF m 161 #[.val (.int p1), .val (.int p2), .val (.int p3), .val (.int p4), .val (.int p5), .val (.int (0 : Int32)), .val (.ref b1), .val (.ref b2_b1), .val (.ref b5_b4)] [(.int (0 : Int32)), (.int (0 : Int32))])) _
    refine XS.icmpYes X5.here hx rfl (pc0 := 161) (pc' := 166) rfl (hb hby at_161) rfl (teq ((by decide) : (0 : Int32) = (0 : Int32))).1 (by decide) (by decide) ?_
    show Steps p.tables e below (T5.setTop (mkF m 166 #[.val (.int p1), .val (.int p2), .val (.int p3), .val (.int p4), .val (.int p5), .val (.int (0 : Int32)), .val (.ref b1), .val (.ref b2_b1), .val (.ref b5_b4)] [])) _
    refine XS.aload X5.here hx rfl (hb hby at_166) rfl rfl ?_
    show Steps p.tables e below (T5.setTop (mkF m 168 #[.val (.int p1), .val (.int p2), .val (.int p3), .val (.int p4), .val (.int p5), .val (.int (0 : Int32)), .val (.ref b1), .val (.ref b2_b1), .val (.ref b5_b4)] [(.ref b5_b4)])) _
    refine XS.iconst X5.here hx rfl (hb hby at_168) ?_
    show Steps p.tables e below (T5.setTop (mkF m 169 #[.val (.int p1), .val (.int p2), .val (.int p3), .val (.int p4), .val (.int p5), .val (.int (0 : Int32)), .val (.ref b1), .val (.ref b2_b1), .val (.ref b5_b4)] [(.int (0 : Int32)), (.ref b5_b4)])) _
    refine XS.iloadN X5.here hx rfl (hb hby at_169) rfl ?_
    show Steps p.tables e below (T5.setTop (mkF m 170 #[.val (.int p1), .val (.int p2), .val (.int p3), .val (.int p4), .val (.int p5), .val (.int (0 : Int32)), .val (.ref b1), .val (.ref b2_b1), .val (.ref b5_b4)] [(.int p2), (.int (0 : Int32)), (.ref b5_b4)])) _
    refine st7 _ ?_
    show Steps p.tables e below (T7.setTop (mkF m 173 #[.val (.int p1), .val (.int p2), .val (.int p3), .val (.int p4), .val (.int p5), .val (.int (0 : Int32)), .val (.ref b1), .val (.ref b2_b1), .val (.ref b5_b4)] [(.int (1 : Int32))])) _
    refine XS.ifNo X7.here hx rfl (hb hby at_173) rfl ((if0 _ _).trans (feq ((by decide) : ¬ ((1 : Int32) = (0 : Int32)))).1) ?_
    show Steps p.tables e below (T7.setTop (mkF m 176 #[.val (.int p1), .val (.int p2), .val (.int p3), .val (.int p4), .val (.int p5), .val (.int (0 : Int32)), .val (.ref b1), .val (.ref b2_b1), .val (.ref b5_b4)] [])) _
    refine XS.aload X7.here hx rfl (hb hby at_176) rfl rfl ?_
    show Steps p.tables e below (T7.setTop (mkF m 178 #[.val (.int p1), .val (.int p2), .val (.int p3), .val (.int p4), .val (.int p5), .val (.int (0 : Int32)), .val (.ref b1), .val (.ref b2_b1), .val (.ref b5_b4)] [(.ref b5_b4)])) _
    refine XS.iconst X7.here hx rfl (hb hby at_178) ?_
    show Steps p.tables e below (T7.setTop (mkF m 179 #[.val (.int p1), .val (.int p2), .val (.int p3), .val (.int p4), .val (.int p5), .val (.int (0 : Int32)), .val (.ref b1), .val (.ref b2_b1), .val (.ref b5_b4)] [(.int (1 : Int32)), (.ref b5_b4)])) _
    refine XS.iloadN X7.here hx rfl (hb hby at_179) rfl ?_
    show Steps p.tables e below (T7.setTop (mkF m 180 #[.val (.int p1), .val (.int p2), .val (.int p3), .val (.int p4), .val (.int p5), .val (.int (0 : Int32)), .val (.ref b1), .val (.ref b2_b1), .val (.ref b5_b4)] [(.int p3), (.int (1 : Int32)), (.ref b5_b4)])) _
    refine st8 _ ?_
    show Steps p.tables e below (T8.setTop (mkF m 183 #[.val (.int p1), .val (.int p2), .val (.int p3), .val (.int p4), .val (.int p5), .val (.int (0 : Int32)), .val (.ref b1), .val (.ref b2_b1), .val (.ref b5_b4)] [(.int (1 : Int32))])) _
    refine XS.ifNo X8.here hx rfl (hb hby at_183) rfl ((if0 _ _).trans (feq ((by decide) : ¬ ((1 : Int32) = (0 : Int32)))).1) ?_
    show Steps p.tables e below (T8.setTop (mkF m 186 #[.val (.int p1), .val (.int p2), .val (.int p3), .val (.int p4), .val (.int p5), .val (.int (0 : Int32)), .val (.ref b1), .val (.ref b2_b1), .val (.ref b5_b4)] [])) _
    refine XS.aload X8.here hx rfl (hb hby at_186) rfl rfl ?_
    show Steps p.tables e below (T8.setTop (mkF m 188 #[.val (.int p1), .val (.int p2), .val (.int p3), .val (.int p4), .val (.int p5), .val (.int (0 : Int32)), .val (.ref b1), .val (.ref b2_b1), .val (.ref b5_b4)] [(.ref b5_b4)])) _
    refine XS.iconst X8.here hx rfl (hb hby at_188) ?_
    show Steps p.tables e below (T8.setTop (mkF m 189 #[.val (.int p1), .val (.int p2), .val (.int p3), .val (.int p4), .val (.int p5), .val (.int (0 : Int32)), .val (.ref b1), .val (.ref b2_b1), .val (.ref b5_b4)] [(.int (2 : Int32)), (.ref b5_b4)])) _
    refine XS.iloadN X8.here hx rfl (hb hby at_189) rfl ?_
    show Steps p.tables e below (T8.setTop (mkF m 190 #[.val (.int p1), .val (.int p2), .val (.int p3), .val (.int p4), .val (.int p5), .val (.int (0 : Int32)), .val (.ref b1), .val (.ref b2_b1), .val (.ref b5_b4)] [(.int p4), (.int (2 : Int32)), (.ref b5_b4)])) _
    refine st9 _ ?_
    show Steps p.tables e below (T9.setTop (mkF m 193 #[.val (.int p1), .val (.int p2), .val (.int p3), .val (.int p4), .val (.int p5), .val (.int (0 : Int32)), .val (.ref b1), .val (.ref b2_b1), .val (.ref b5_b4)] [(.int (1 : Int32))])) _
    refine XS.ifNo X9.here hx rfl (hb hby at_193) rfl ((if0 _ _).trans (feq ((by decide) : ¬ ((1 : Int32) = (0 : Int32)))).1) ?_
    show Steps p.tables e below (T9.setTop (mkF m 196 #[.val (.int p1), .val (.int p2), .val (.int p3), .val (.int p4), .val (.int p5), .val (.int (0 : Int32)), .val (.ref b1), .val (.ref b2_b1), .val (.ref b5_b4)] [])) _
    refine XS.aload X9.here hx rfl (hb hby at_196) rfl rfl ?_
    show Steps p.tables e below (T9.setTop (mkF m 198 #[.val (.int p1), .val (.int p2), .val (.int p3), .val (.int p4), .val (.int p5), .val (.int (0 : Int32)), .val (.ref b1), .val (.ref b2_b1), .val (.ref b5_b4)] [(.ref b5_b4)])) _
    refine XS.iconst X9.here hx rfl (hb hby at_198) ?_
    show Steps p.tables e below (T9.setTop (mkF m 199 #[.val (.int p1), .val (.int p2), .val (.int p3), .val (.int p4), .val (.int p5), .val (.int (0 : Int32)), .val (.ref b1), .val (.ref b2_b1), .val (.ref b5_b4)] [(.int (3 : Int32)), (.ref b5_b4)])) _
    refine XS.iload X9.here hx rfl (hb hby at_199) rfl ?_
    show Steps p.tables e below (T9.setTop (mkF m 201 #[.val (.int p1), .val (.int p2), .val (.int p3), .val (.int p4), .val (.int p5), .val (.int (0 : Int32)), .val (.ref b1), .val (.ref b2_b1), .val (.ref b5_b4)] [(.int p5), (.int (3 : Int32)), (.ref b5_b4)])) _
    refine st10 _ ?_
    show Steps p.tables e below (T10.setTop (mkF m 204 #[.val (.int p1), .val (.int p2), .val (.int p3), .val (.int p4), .val (.int p5), .val (.int (0 : Int32)), .val (.ref b1), .val (.ref b2_b1), .val (.ref b5_b4)] [(.int (1 : Int32))])) _
    refine XS.ifNo X10.here hx rfl (hb hby at_204) rfl ((if0 _ _).trans (feq ((by decide) : ¬ ((1 : Int32) = (0 : Int32)))).1) ?_
    show Steps p.tables e below (T10.setTop (mkF m 207 #[.val (.int p1), .val (.int p2), .val (.int p3), .val (.int p4), .val (.int p5), .val (.int (0 : Int32)), .val (.ref b1), .val (.ref b2_b1), .val (.ref b5_b4)] [])) _
    refine XS.iconst X10.here hx rfl (hb hby at_207) ?_
    show Steps p.tables e below (T10.setTop (mkF m 208 #[.val (.int p1), .val (.int p2), .val (.int p3), .val (.int p4), .val (.int p5), .val (.int (0 : Int32)), .val (.ref b1), .val (.ref b2_b1), .val (.ref b5_b4)] [(.int (1 : Int32))])) _
    refine XS.goto X10.here hx rfl (pc0 := 208) (pc' := 212) rfl (hb hby at_208) (by decide) (by decide) ?_
    show Steps p.tables e below (T10.setTop (mkF m 212 #[.val (.int p1), .val (.int p2), .val (.int p3), .val (.int p4), .val (.int p5), .val (.int (0 : Int32)), .val (.ref b1), .val (.ref b2_b1), .val (.ref b5_b4)] [(.int (1 : Int32))])) _
    exact retN X10 hx (t := .boolean) Bd.returns (by simp) (hb hby at_212) hr
  · show Q0 n0 _ T10.heap _
    rw [e10]
    exact ⟨rfl, N10⟩
set_option maxRecDepth 65536 in
set_option maxHeartbeats 40000000 in
theorem rm0_1 (l : Launch) (Z : State) (a0 : Array Value) (hw : ∀ d ∈ tables_1, d.before a0 Z = true) (ws : List Jvm.Cond) {w_n0 : Addr} (W : Wd Z w_n0) (p1 : Int32) (p2 : Int32) (p3 : Int32) (p4 : Int32) (p5 : Int32) (h0 : Heap) (n0 : Nat) (O0 : Old Z n0 h0) (hk : ((p1 &&& (7 : Int32)) % (5 : Int32)) = (1 : Int32)) :
    MetFree l x (head1 (Jvm.Cond.code x code maxLocals ret :: ws) room_1) (fun a U => a = #[(.int p1), (.int p2), (.int p3), (.int p4), (.int p5)] ∧ Z.Warmed39 U.vm ∧ U.heap = h0) (fun _ _ _ _ _ => True) (fun _ U o U' => ∃ v L, o = .returned v ∧ Q0 n0 v U'.heap L ∧ FrameEnd U o U' L room_1.cells room_1.slots) := by
  have W' := W; obtain ⟨S_n0, E_n0⟩ := W'
  refine MetFree.of_bodySF (plainFor_of_name pn_0) hisR ?_
  intro p e s m args below meth c s₁ Bd hml0 hP hK
  obtain ⟨rfl, hZ, hh⟩ := hP
  have hx := Bd.exec
  have hby := Bd.bytes
  have hml : c.maxLocals = 9 := hml0
  have hown : s.vm.findClass "com/example/keyfold/keyfold/client/ValueOfBinaryPinLaw" = some m.cls := findClass_of_methodNamed Bd.named
  have hnm := (name_of_methodNamed Bd.named Bd.method).1
  have X0 : Stand p l e room_1 s m #[(.int p1), (.int p2), (.int p3), (.int p4), (.int p5)] below meth c s₁ [] 0 0 := Stand.of_body Bd
  have e0 : s₁.heap = h0 := by rw [← hh, Bd.state]; rfl
  have N0 := Fr.nil n0
  have pre0 : ∀ t, Steps p.tables e below (s₁.setTop (mkF m 0 #[.val (.int p1), .val (.int p2), .val (.int p3), .val (.int p4), .val (.int p5), .unset, .unset, .unset, .unset] [])) t → Steps p.tables e below (s₁.setTop (entryFrame m #[(.int p1), (.int p2), (.int p3), (.int p4), (.int p5)] maxLocals)) t := fun t k => castTop (ef_0_6 m p1 p2 p3 p4 p5) k
  obtain ⟨T1, h1, k1, X1, e1, E1, A1, B1, st1⟩ := newPE X0 hx hZ (hw _ (List.mem_of_getElem? (i := 0) rfl)) e0 (g := (mkF m 10 #[.val (.int p1), .val (.int p2), .val (.int p3), .val (.int p4), .val (.int p5), .val (.int (1 : Int32)), .unset, .unset, .unset] [(.int (1 : Int32))])) rfl (hb hby at_10) rfl (by decide) (cap := 1) (by decide) (by decide) (by decide) (by decide) (ad := "[B") (by decide)
  obtain ⟨b1, g1⟩ : ∃ z, z = h0.size := ⟨_, rfl⟩
  rw [← g1] at A1 B1 st1
  have g_b1 : n0 ≤ b1 := by rw [g1]; exact O0.1 ▸ O0.2.1
  have O1 := O0.ext E1
  have fv1 : Arv Z h1 b1 k1 .byte (1 : Int32) [(.int (0 : Int32))] (.int (0 : Int32)) := (Arv.new A1 (by decide)).pad (pad_rep [] (.int (0 : Int32)) 1)
  obtain ⟨cl2, Ar2, qk2, Sz2, Nz2, Hs2, Gs2⟩ := id fv1
  have hin2 : ¬ ((0 : Int32) < 0 ∨ cl2.slots.size ≤ ((0 : Int32)).toNatClampNeg) := inb_of Sz2 ⟨by decide, by decide⟩
  obtain ⟨T3, h3, X3, e3, W3, st3⟩ := stB X1 hx hZ e1 Ar2 (j := (0 : Int32)) hin2  (g := (mkF m 24 #[.val (.int p1), .val (.int p2), .val (.int p3), .val (.int p4), .val (.int p5), .val (.int (1 : Int32)), .val (.ref b1), .unset, .unset] [(.int (p2.toInt8.toInt32)), (.int (0 : Int32)), (.ref b1)])) rfl rfl (hb hby at_24)
  rw [show nar .byte (p2.toInt8.toInt32) = (p2.toInt8.toInt32) from own_byte _] at W3
  have fw3 : Arv Z h3 b1 k1 .byte (1 : Int32) [(.int (p2.toInt8.toInt32))] (.int (0 : Int32)) := Arv.set Ar2 qk2 Sz2 Nz2 Hs2 Gs2 (fits_nar_byte _) W3 0 rfl (Nat.le_of_ble_eq_true rfl)
  have f3_0 : Exa Z h3 b1 "[B" := (B1).wr W3
  have O3 := O1.wr W3 g_b1
  have N3 := Fr.snoc X3 N0 g_b1
  obtain ⟨_, _, ⟨T4, L4, k4, n4⟩, -, X4, ⟨Lc4, hQ4, l4, y4, z4⟩, st4⟩ := Jvm.LawKit.callS X3 hx (y := (⟨"com/example/keyfold/keyfold/client/Value", "ofBinary", "([B)Lcom/example/keyfold/keyfold/client/Value;"⟩ : MethodName)) hown (mvT hZ (hw _ (List.mem_of_getElem? (i := 1) rfl))) (mvT hZ (hw _ (List.mem_of_getElem? (i := 2) rfl))) (mvT hZ (hw _ (List.mem_of_getElem? (i := 3) rfl))) (mvT hZ (hw _ (List.mem_of_getElem? (i := 4) rfl))) (by decide) (backOf (W := 0) (rm1_1 l Z a0 hw [] W b1 k1 (p2.toInt8.toInt32) h3 n0 O3 g_b1 f3_0 fw3) hZ (hw _ (List.mem_of_getElem? (i := 4) rfl)) (hw _ (List.mem_of_getElem? (i := 3) rfl)) (by decide) (by decide)) (g := (mkF m 64 #[.val (.int p1), .val (.int p2), .val (.int p3), .val (.int p4), .val (.int p5), .val (.int (1 : Int32)), .val (.ref b1), .unset, .unset] [(.ref b1)])) rfl (by rw [hml]; rfl) (argsL := [(.ref b1)]) (rest := []) (lenOf pd_2 rfl) rfl (by show 2 * 0 + _ ≤ _; exact Nat.le_of_eq rfl) (hb hby at_64) (fun _ _ => ⟨rfl, e3, (by decide : 1 + 2 ≤ _), (by decide : 1 + 3 ≤ _)⟩)
  dsimp only [Pt.U, Pt.locs, Pt.cells, Pt.slots] at X4 l4 y4 z4 st4 hQ4
  subst l4 y4 z4
  obtain ⟨N4q, hP4⟩ := hQ4
  have N4 := Fr.app N3 N4q
  obtain ⟨b4_b1, b4_b3, rfl, Kp4, g_b4_b1, si_b4_b1, g_b4_b3, si_b4_b3, fp4_0, fp4_1, fp4_2, fp4_3, fp4_4⟩ := hP4
  have f4_0 : Exa Z T4.heap b1 "[B" := (f3_0).keep Kp4
  have f4_1 : Arv Z T4.heap b1 k1 .byte (1 : Int32) [(.int (p2.toInt8.toInt32))] (.int (0 : Int32)) := (fw3).keep Kp4 nin0
  have O4 := O3.keep Kp4 all0
  obtain ⟨cl5, Ar5, qk5, Sz5, Nz5, Hs5, Gs5⟩ := id f4_1
  have hin5 : ¬ ((0 : Int32) < 0 ∨ cl5.slots.size ≤ ((0 : Int32)).toNatClampNeg) := inb_of Sz5 ⟨by decide, by decide⟩
  have hat5 : cl5.slots[((0 : Int32)).toNatClampNeg]? = some (.int (p2.toInt8.toInt32)) := Has.at Hs5 hin5 rfl
  obtain ⟨cl6, Ar6, qk6, Sz6, Nz6, Hs6, Gs6⟩ := id f4_1
  have hin6 : ¬ ((0 : Int32) < 0 ∨ cl6.slots.size ≤ ((0 : Int32)).toNatClampNeg) := inb_of Sz6 ⟨by decide, by decide⟩
  obtain ⟨T7, h7, X7, e7, W7, st7⟩ := stB X4 hx hZ rfl Ar6 (j := (0 : Int32)) hin6  (g := (mkF m 84 #[.val (.int p1), .val (.int p2), .val (.int p3), .val (.int p4), .val (.int p5), .val (.int (1 : Int32)), .val (.ref b1), .val (.ref b4_b1), .unset] [(.int (((p2.toInt8.toInt32) ^^^ (1 : Int32)).toInt8.toInt32)), (.int (0 : Int32)), (.ref b1)])) rfl rfl (hb hby at_84)
  rw [show nar .byte (((p2.toInt8.toInt32) ^^^ (1 : Int32)).toInt8.toInt32) = (((p2.toInt8.toInt32) ^^^ (1 : Int32)).toInt8.toInt32) from own_byte _] at W7
  have fw7 : Arv Z h7 b1 k1 .byte (1 : Int32) [(.int (((p2.toInt8.toInt32) ^^^ (1 : Int32)).toInt8.toInt32))] (.int (0 : Int32)) := Arv.set Ar6 qk6 Sz6 Nz6 Hs6 Gs6 (fits_nar_byte _) W7 0 rfl (Nat.le_of_ble_eq_true rfl)
  have f7_0 : Exa Z h7 b1 "[B" := (f4_0).wr W7
  have f7_1 : Exa Z h7 b4_b1 "com/example/keyfold/keyfold/client/Value" := (fp4_0).wr W7
  have f7_2 : Fld Z h7 b4_b1 "com/example/keyfold/keyfold/client/Value" "type" "Lcom/example/keyfold/keyfold/client/ValueType;" (.ref w_n0) := (fp4_1).other W7 (Or.inl (ne_exa fp4_0 f4_0 (by decide)))
  have f7_3 : Fld Z h7 b4_b1 "com/example/keyfold/keyfold/client/Value" "content" "Ljava/lang/Object;" (.ref b4_b3) := (fp4_2).other W7 (Or.inl (ne_exa fp4_0 f4_0 (by decide)))
  have f7_4 : Exa Z h7 b4_b3 "[B" := (fp4_3).wr W7
  have f7_5 : Arv Z h7 b4_b3 k1 .byte (1 : Int32) [(.int (p2.toInt8.toInt32))] (.int (0 : Int32)) := (fp4_4).other W7 (Ne.symm (Nat.ne_of_lt (Nat.lt_of_lt_of_le (f3_0).lt si_b4_b3)))
  have O7 := O4.wr W7 g_b1
  have N7 := Fr.snoc X7 N4 g_b1
  obtain ⟨cq8, kq8, q8a, q8b, q8c⟩ := isOf hZ e7 f7_1
  obtain ⟨_, _, ⟨T8, L8, k8, n8⟩, -, X8, ⟨Lc8, hQ8, l8, y8, z8⟩, st8⟩ := X7.virtualBack hx (y := (⟨"com/example/keyfold/keyfold/client/Value", "type", "()Lcom/example/keyfold/keyfold/client/ValueType;"⟩ : MethodName)) (z := (⟨"com/example/keyfold/keyfold/client/Value", "type", "()Lcom/example/keyfold/keyfold/client/ValueType;"⟩ : MethodName)) hown (mvT hZ (hw _ (List.mem_of_getElem? (i := 27) rfl))) (mvT hZ (hw _ (List.mem_of_getElem? (i := 28) rfl))) (notFace_of_selects (args := #[]) (mvT hZ (hw _ (List.mem_of_getElem? (i := 30) rfl)))) (mvT hZ (hw _ (List.mem_of_getElem? (i := 30) rfl))) (mvT hZ (hw _ (List.mem_of_getElem? (i := 29) rfl))) (by decide) (backOf (W := 0) (rm4 l Z a0 hw [] W b4_b1 h7 n0 O7 f7_2) hZ (hw _ (List.mem_of_getElem? (i := 31) rfl)) (hw _ (List.mem_of_getElem? (i := 3) rfl)) (by decide) (by decide)) q8a q8c (g := (mkF m 138 #[.val (.int p1), .val (.int p2), .val (.int p3), .val (.int p4), .val (.int p5), .val (.int (1 : Int32)), .val (.ref b1), .val (.ref b4_b1), .unset] [(.ref b4_b1)])) rfl (by rw [hml]; rfl) (Steps.refl _) (argsL := []) (rest := []) (lenOf pd_3 rfl) rfl (by show 2 * 0 + _ ≤ _; exact Nat.le_of_eq rfl) (hb hby at_138) (fun _ _ => ⟨rfl, e7, (by decide : 3 + 0 ≤ _), (by decide : 4 + 0 ≤ _)⟩)
  dsimp only [Pt.U, Pt.locs, Pt.cells, Pt.slots] at X8 l8 y8 z8 st8 hQ8
  subst l8 y8 z8
  obtain ⟨rfl, N8q, e8⟩ := hQ8
  have N8 := Fr.app N7 N8q
  obtain ⟨T9, X9, e9, st9⟩ := getS2 X8 hx hZ hown (host := "") (Or.inl (hw _ (List.mem_of_getElem? (i := 32) rfl))) Via.refl e8 (S_n0.ext O7.2) (g := (mkF m 141 #[.val (.int p1), .val (.int p2), .val (.int p3), .val (.int p4), .val (.int p5), .val (.int (1 : Int32)), .val (.ref b1), .val (.ref b4_b1), .unset] [(.ref w_n0)])) rfl (hb hby at_141)
  obtain ⟨cq10, kq10, q10a, q10b, q10c⟩ := isOf hZ e9 f7_1
  obtain ⟨_, _, ⟨T10, L10, k10, n10⟩, -, X10, ⟨Lc10, hQ10, l10, y10, z10⟩, st10⟩ := X9.virtualBack hx (y := (⟨"com/example/keyfold/keyfold/client/Value", "asBinary", "()[B"⟩ : MethodName)) (z := (⟨"com/example/keyfold/keyfold/client/Value", "asBinary", "()[B"⟩ : MethodName)) hown (mvT hZ (hw _ (List.mem_of_getElem? (i := 33) rfl))) (mvT hZ (hw _ (List.mem_of_getElem? (i := 34) rfl))) (notFace_of_selects (args := #[]) (mvT hZ (hw _ (List.mem_of_getElem? (i := 36) rfl)))) (mvT hZ (hw _ (List.mem_of_getElem? (i := 36) rfl))) (mvT hZ (hw _ (List.mem_of_getElem? (i := 35) rfl))) (by decide) (backOf (W := 0) (rm5_1 l Z a0 hw [] W b4_b1 b4_b3 k1 (p2.toInt8.toInt32) h7 n0 O7 g_b4_b1 f7_1 f7_2 f7_3 g_b4_b3 f7_4 f7_5) hZ (hw _ (List.mem_of_getElem? (i := 37) rfl)) (hw _ (List.mem_of_getElem? (i := 3) rfl)) (by decide) (by decide)) q10a q10c (g := (mkF m 151 #[.val (.int p1), .val (.int p2), .val (.int p3), .val (.int p4), .val (.int p5), .val (.int (1 : Int32)), .val (.ref b1), .val (.ref b4_b1), .unset] [(.ref b4_b1)])) rfl (by rw [hml]; rfl) (Steps.refl _) (argsL := []) (rest := []) (lenOf pd_4 rfl) rfl (by show 2 * 0 + _ ≤ _; exact Nat.le_of_eq rfl) (hb hby at_151) (fun _ _ => ⟨rfl, e9, (by decide : 3 + 1 ≤ _), (by decide : 4 + 1 ≤ _)⟩)
  dsimp only [Pt.U, Pt.locs, Pt.cells, Pt.slots] at X10 l10 y10 z10 st10 hQ10
  subst l10 y10 z10
  obtain ⟨N10q, hP10⟩ := hQ10
  have N10 := Fr.app N8 N10q
  obtain ⟨b10_b4, rfl, Kp10, g_b10_b4, si_b10_b4, fp10_0, fp10_1⟩ := hP10
  have f10_0 : Exa Z T10.heap b1 "[B" := (f7_0).keep Kp10
  have f10_1 : Exa Z T10.heap b4_b1 "com/example/keyfold/keyfold/client/Value" := (f7_1).keep Kp10
  have f10_2 : Fld Z T10.heap b4_b1 "com/example/keyfold/keyfold/client/Value" "type" "Lcom/example/keyfold/keyfold/client/ValueType;" (.ref w_n0) := (f7_2).keep Kp10 nin0
  have f10_3 : Fld Z T10.heap b4_b1 "com/example/keyfold/keyfold/client/Value" "content" "Ljava/lang/Object;" (.ref b4_b3) := (f7_3).keep Kp10 nin0
  have f10_4 : Exa Z T10.heap b4_b3 "[B" := (f7_4).keep Kp10
  have f10_5 : Arv Z T10.heap b4_b3 k1 .byte (1 : Int32) [(.int (p2.toInt8.toInt32))] (.int (0 : Int32)) := (f7_5).keep Kp10 nin0
  have f10_6 : Arv Z T10.heap b1 k1 .byte (1 : Int32) [(.int (((p2.toInt8.toInt32) ^^^ (1 : Int32)).toInt8.toInt32))] (.int (0 : Int32)) := (fw7).keep Kp10 nin0
  have O10 := O7.keep Kp10 all0
  obtain ⟨cl11, Ar11, qk11, Sz11, Nz11, Hs11, Gs11⟩ := id fp10_1
  obtain ⟨_, _, ⟨T12, L12, k12, n12⟩, -, X12, ⟨Lc12, hQ12, l12, y12, z12⟩, st12⟩ := Jvm.LawKit.callS X10 hx (y := (⟨"com/example/keyfold/keyfold/client/ValueOfBinaryPinLaw", "at", "([BII)Z"⟩ : MethodName)) hown (mvT hZ (hw _ (List.mem_of_getElem? (i := 44) rfl))) (mvT hZ (hw _ (List.mem_of_getElem? (i := 45) rfl))) (mvT hZ (hw _ (List.mem_of_getElem? (i := 46) rfl))) (mvT hZ (hw _ (List.mem_of_getElem? (i := 47) rfl))) (by decide) (backOf (W := 0) (rm7_1_0 l Z a0 hw [] W b10_b4 p2 k1 (p2.toInt8.toInt32) T10.heap n0 O10 rfl fp10_1) hZ (hw _ (List.mem_of_getElem? (i := 47) rfl)) (hw _ (List.mem_of_getElem? (i := 46) rfl)) (by decide) (by decide)) (g := (mkF m 170 #[.val (.int p1), .val (.int p2), .val (.int p3), .val (.int p4), .val (.int p5), .val (.int (1 : Int32)), .val (.ref b1), .val (.ref b4_b1), .val (.ref b10_b4)] [(.int p2), (.int (0 : Int32)), (.ref b10_b4)])) rfl (by rw [hml]; rfl) (argsL := [(.ref b10_b4), (.int (0 : Int32)), (.int p2)]) (rest := []) (lenOf pd_5 rfl) rfl (by show 2 * 0 + _ ≤ _; exact Nat.le_of_eq rfl) (hb hby at_170) (fun _ _ => ⟨rfl, rfl, (by decide : 4 + 0 ≤ _), (by decide : 5 + 0 ≤ _)⟩)
  dsimp only [Pt.U, Pt.locs, Pt.cells, Pt.slots] at X12 l12 y12 z12 st12 hQ12
  subst l12 y12 z12
  obtain ⟨rfl, N12q, e12⟩ := hQ12
  have N12 := Fr.app N10 N12q
  obtain ⟨_, _, ⟨T13, L13, k13, n13⟩, -, X13, ⟨Lc13, hQ13, l13, y13, z13⟩, st13⟩ := Jvm.LawKit.callS X12 hx (y := (⟨"com/example/keyfold/keyfold/client/ValueOfBinaryPinLaw", "at", "([BII)Z"⟩ : MethodName)) hown (mvT hZ (hw _ (List.mem_of_getElem? (i := 44) rfl))) (mvT hZ (hw _ (List.mem_of_getElem? (i := 45) rfl))) (mvT hZ (hw _ (List.mem_of_getElem? (i := 46) rfl))) (mvT hZ (hw _ (List.mem_of_getElem? (i := 47) rfl))) (by decide) (backOf (W := 0) (rm7_1_1 l Z a0 hw [] W b10_b4 p3 k1 (p2.toInt8.toInt32) T10.heap n0 O10 fp10_1) hZ (hw _ (List.mem_of_getElem? (i := 47) rfl)) (hw _ (List.mem_of_getElem? (i := 46) rfl)) (by decide) (by decide)) (g := (mkF m 180 #[.val (.int p1), .val (.int p2), .val (.int p3), .val (.int p4), .val (.int p5), .val (.int (1 : Int32)), .val (.ref b1), .val (.ref b4_b1), .val (.ref b10_b4)] [(.int p3), (.int (1 : Int32)), (.ref b10_b4)])) rfl (by rw [hml]; rfl) (argsL := [(.ref b10_b4), (.int (1 : Int32)), (.int p3)]) (rest := []) (lenOf pd_5 rfl) rfl (by show 2 * 0 + _ ≤ _; exact Nat.le_of_eq rfl) (hb hby at_180) (fun _ _ => ⟨rfl, e12, (by decide : 4 + 0 ≤ _), (by decide : 5 + 0 ≤ _)⟩)
  dsimp only [Pt.U, Pt.locs, Pt.cells, Pt.slots] at X13 l13 y13 z13 st13 hQ13
  subst l13 y13 z13
  obtain ⟨rfl, N13q, e13⟩ := hQ13
  have N13 := Fr.app N12 N13q
  obtain ⟨_, _, ⟨T14, L14, k14, n14⟩, -, X14, ⟨Lc14, hQ14, l14, y14, z14⟩, st14⟩ := Jvm.LawKit.callS X13 hx (y := (⟨"com/example/keyfold/keyfold/client/ValueOfBinaryPinLaw", "at", "([BII)Z"⟩ : MethodName)) hown (mvT hZ (hw _ (List.mem_of_getElem? (i := 44) rfl))) (mvT hZ (hw _ (List.mem_of_getElem? (i := 45) rfl))) (mvT hZ (hw _ (List.mem_of_getElem? (i := 46) rfl))) (mvT hZ (hw _ (List.mem_of_getElem? (i := 47) rfl))) (by decide) (backOf (W := 0) (rm7_1_2 l Z a0 hw [] W b10_b4 p4 k1 (p2.toInt8.toInt32) T10.heap n0 O10 fp10_1) hZ (hw _ (List.mem_of_getElem? (i := 47) rfl)) (hw _ (List.mem_of_getElem? (i := 46) rfl)) (by decide) (by decide)) (g := (mkF m 190 #[.val (.int p1), .val (.int p2), .val (.int p3), .val (.int p4), .val (.int p5), .val (.int (1 : Int32)), .val (.ref b1), .val (.ref b4_b1), .val (.ref b10_b4)] [(.int p4), (.int (2 : Int32)), (.ref b10_b4)])) rfl (by rw [hml]; rfl) (argsL := [(.ref b10_b4), (.int (2 : Int32)), (.int p4)]) (rest := []) (lenOf pd_5 rfl) rfl (by show 2 * 0 + _ ≤ _; exact Nat.le_of_eq rfl) (hb hby at_190) (fun _ _ => ⟨rfl, e13, (by decide : 4 + 0 ≤ _), (by decide : 5 + 0 ≤ _)⟩)
  dsimp only [Pt.U, Pt.locs, Pt.cells, Pt.slots] at X14 l14 y14 z14 st14 hQ14
  subst l14 y14 z14
  obtain ⟨rfl, N14q, e14⟩ := hQ14
  have N14 := Fr.app N13 N14q
  obtain ⟨_, _, ⟨T15, L15, k15, n15⟩, -, X15, ⟨Lc15, hQ15, l15, y15, z15⟩, st15⟩ := Jvm.LawKit.callS X14 hx (y := (⟨"com/example/keyfold/keyfold/client/ValueOfBinaryPinLaw", "at", "([BII)Z"⟩ : MethodName)) hown (mvT hZ (hw _ (List.mem_of_getElem? (i := 44) rfl))) (mvT hZ (hw _ (List.mem_of_getElem? (i := 45) rfl))) (mvT hZ (hw _ (List.mem_of_getElem? (i := 46) rfl))) (mvT hZ (hw _ (List.mem_of_getElem? (i := 47) rfl))) (by decide) (backOf (W := 0) (rm7_1_3 l Z a0 hw [] W b10_b4 p5 k1 (p2.toInt8.toInt32) T10.heap n0 O10 fp10_1) hZ (hw _ (List.mem_of_getElem? (i := 47) rfl)) (hw _ (List.mem_of_getElem? (i := 46) rfl)) (by decide) (by decide)) (g := (mkF m 201 #[.val (.int p1), .val (.int p2), .val (.int p3), .val (.int p4), .val (.int p5), .val (.int (1 : Int32)), .val (.ref b1), .val (.ref b4_b1), .val (.ref b10_b4)] [(.int p5), (.int (3 : Int32)), (.ref b10_b4)])) rfl (by rw [hml]; rfl) (argsL := [(.ref b10_b4), (.int (3 : Int32)), (.int p5)]) (rest := []) (lenOf pd_5 rfl) rfl (by show 2 * 0 + _ ≤ _; exact Nat.le_of_eq rfl) (hb hby at_201) (fun _ _ => ⟨rfl, e14, (by decide : 4 + 0 ≤ _), (by decide : 5 + 0 ≤ _)⟩)
  dsimp only [Pt.U, Pt.locs, Pt.cells, Pt.slots] at X15 l15 y15 z15 st15 hQ15
  subst l15 y15 z15
  obtain ⟨rfl, N15q, e15⟩ := hQ15
  have N15 := Fr.app N14 N15q
  obtain ⟨fs, hr, hrun, hended, hW, hsame⟩ := X15.leave (v := some (.int (1 : Int32))) (fun h => by rw [Bd.returns] at h; cases h)
  refine ⟨_, _, pre0 _ ?_, hrun, hended, _, _, rfl, ?_, ⟨_, rfl⟩, hW, hsame.mono (by decide) (by decide)⟩
  · show Steps p.tables e below (s₁.setTop (mkF m 0 #[.val (.int p1), .val (.int p2), .val (.int p3), .val (.int p4), .val (.int p5), .unset, .unset, .unset, .unset] [])) _
    refine XS.iloadN X0.here hx rfl (hb hby at_0) rfl ?_
    show Steps p.tables e below (s₁.setTop (mkF m 1 #[.val (.int p1), .val (.int p2), .val (.int p3), .val (.int p4), .val (.int p5), .unset, .unset, .unset, .unset] [(.int p1)])) _
    refine XS.bipush X0.here hx rfl (hb hby at_1) ?_
    show Steps p.tables e below (s₁.setTop (mkF m 3 #[.val (.int p1), .val (.int p2), .val (.int p3), .val (.int p4), .val (.int p5), .unset, .unset, .unset, .unset] [(.int (7 : Int32)), (.int p1)])) _
    refine XS.iand X0.here hx rfl (hb hby at_3) rfl ?_
    show Steps p.tables e below (s₁.setTop (mkF m 4 #[.val (.int p1), .val (.int p2), .val (.int p3), .val (.int p4), .val (.int p5), .unset, .unset, .unset, .unset] [(.int (p1 &&& (7 : Int32)))])) _
    refine XS.iconst X0.here hx rfl (hb hby at_4) ?_
    show Steps p.tables e below (s₁.setTop (mkF m 5 #[.val (.int p1), .val (.int p2), .val (.int p3), .val (.int p4), .val (.int p5), .unset, .unset, .unset, .unset] [(.int (5 : Int32)), (.int (p1 &&& (7 : Int32)))])) _
    refine iremM X0 hx rfl (hb hby at_5) rfl (by decide) ?_
    show Steps p.tables e below (s₁.setTop (mkF m 6 #[.val (.int p1), .val (.int p2), .val (.int p3), .val (.int p4), .val (.int p5), .unset, .unset, .unset, .unset] [(.int ((p1 &&& (7 : Int32)) % (5 : Int32)))])) _
    rw [hk]
    show Steps p.tables e below (s₁.setTop (mkF m 6 #[.val (.int p1), .val (.int p2), .val (.int p3), .val (.int p4), .val (.int p5), .unset, .unset, .unset, .unset] [(.int (1 : Int32))])) _
    refine XS.istore X0.here hx rfl (hb hby at_6) rfl (l' := #[.val (.int p1), .val (.int p2), .val (.int p3), .val (.int p4), .val (.int p5), .val (.int (1 : Int32)), .unset, .unset, .unset]) rfl ?_
    show Steps p.tables e below (s₁.setTop (mkF m 8 #[.val (.int p1), .val (.int p2), .val (.int p3), .val (.int p4), .val (.int p5), .val (.int (1 : Int32)), .unset, .unset, .unset] [])) _
    refine XS.iload X0.here hx rfl (hb hby at_8) rfl ?_
    show Steps p.tables e below (s₁.setTop (mkF m 10 #[.val (.int p1), .val (.int p2), .val (.int p3), .val (.int p4), .val (.int p5), .val (.int (1 : Int32)), .unset, .unset, .unset] [(.int (1 : Int32))])) _
    refine st1 _ ?_
    show Steps p.tables e below (T1.setTop (mkF m 12 #[.val (.int p1), .val (.int p2), .val (.int p3), .val (.int p4), .val (.int p5), .val (.int (1 : Int32)), .unset, .unset, .unset] [(.ref b1)])) _
    refine XS.astore X1.here hx rfl (hb hby at_12) rfl rfl (l' := #[.val (.int p1), .val (.int p2), .val (.int p3), .val (.int p4), .val (.int p5), .val (.int (1 : Int32)), .val (.ref b1), .unset, .unset]) rfl ?_
    show Steps p.tables e below (T1.setTop (mkF m 14 #[.val (.int p1), .val (.int p2), .val (.int p3), .val (.int p4), .val (.int p5), .val (.int (1 : Int32)), .val (.ref b1), .unset, .unset] [])) _
    refine XS.iload X1.here hx rfl (hb hby at_14) rfl ?_
    show Steps p.tables e below (T1.setTop (mkF m 16 #[.val (.int p1), .val (.int p2), .val (.int p3), .val (.int p4), .val (.int p5), .val (.int (1 : Int32)), .val (.ref b1), .unset, .unset] [(.int (1 : Int32))])) _
    refine XS.ifNo X1.here hx rfl (hb hby at_16) rfl ((if0 _ _).trans (tlt ((by decide) : (0 : Int32) < (1 : Int32))).2.2.2) ?_
    show Steps p.tables e below (T1.setTop (mkF m 19 #[.val (.int p1), .val (.int p2), .val (.int p3), .val (.int p4), .val (.int p5), .val (.int (1 : Int32)), .val (.ref b1), .unset, .unset] [])) _
    refine XS.aload X1.here hx rfl (hb hby at_19) rfl rfl ?_
    show Steps p.tables e below (T1.setTop (mkF m 21 #[.val (.int p1), .val (.int p2), .val (.int p3), .val (.int p4), .val (.int p5), .val (.int (1 : Int32)), .val (.ref b1), .unset, .unset] [(.ref b1)])) _
    refine XS.iconst X1.here hx rfl (hb hby at_21) ?_
    show Steps p.tables e below (T1.setTop (mkF m 22 #[.val (.int p1), .val (.int p2), .val (.int p3), .val (.int p4), .val (.int p5), .val (.int (1 : Int32)), .val (.ref b1), .unset, .unset] [(.int (0 : Int32)), (.ref b1)])) _
    refine XS.iloadN X1.here hx rfl (hb hby at_22) rfl ?_
    show Steps p.tables e below (T1.setTop (mkF m 23 #[.val (.int p1), .val (.int p2), .val (.int p3), .val (.int p4), .val (.int p5), .val (.int (1 : Int32)), .val (.ref b1), .unset, .unset] [(.int p2), (.int (0 : Int32)), (.ref b1)])) _
    refine XS.i2b X1.here hx rfl (hb hby at_23) rfl ?_
    show Steps p.tables e below (T1.setTop (mkF m 24 #[.val (.int p1), .val (.int p2), .val (.int p3), .val (.int p4), .val (.int p5), .val (.int (1 : Int32)), .val (.ref b1), .unset, .unset] [(.int (p2.toInt8.toInt32)), (.int (0 : Int32)), (.ref b1)])) _
    refine st3 _ ?_
    show Steps p.tables e below (T3.setTop (mkF m 25 #[.val (.int p1), .val (.int p2), .val (.int p3), .val (.int p4), .val (.int p5), .val (.int (1 : Int32)), .val (.ref b1), .unset, .unset] [])) _
    refine XS.iload X3.here hx rfl (hb hby at_25) rfl ?_
    show Steps p.tables e below (T3.setTop (mkF m 27 #[.val (.int p1), .val (.int p2), .val (.int p3), .val (.int p4), .val (.int p5), .val (.int (1 : Int32)), .val (.ref b1), .unset, .unset] [(.int (1 : Int32))])) _
    refine XS.iconst X3.here hx rfl (hb hby at_27) ?_
    show Steps p.tables e below (T3.setTop (mkF m 28 #[.val (.int p1), .val (.int p2), .val (.int p3), .val (.int p4), .val (.int p5), .val (.int (1 : Int32)), .val (.ref b1), .unset, .unset] [(.int (1 : Int32)), (.int (1 : Int32))])) _
    refine XS.icmpYes X3.here hx rfl (pc0 := 28) (pc' := 37) rfl (hb hby at_28) rfl (flt ((by decide) : ¬ ((1 : Int32) < (1 : Int32)))).2.2.2 (by decide) (by decide) ?_
    show Steps p.tables e below (T3.setTop (mkF m 37 #[.val (.int p1), .val (.int p2), .val (.int p3), .val (.int p4), .val (.int p5), .val (.int (1 : Int32)), .val (.ref b1), .unset, .unset] [])) _
    refine XS.iload X3.here hx rfl (hb hby at_37) rfl ?_
    show Steps p.tables e below (T3.setTop (mkF m 39 #[.val (.int p1), .val (.int p2), .val (.int p3), .val (.int p4), .val (.int p5), .val (.int (1 : Int32)), .val (.ref b1), .unset, .unset] [(.int (1 : Int32))])) _
    refine XS.iconst X3.here hx rfl (hb hby at_39) ?_
    show Steps p.tables e below (T3.setTop (mkF m 40 #[.val (.int p1), .val (.int p2), .val (.int p3), .val (.int p4), .val (.int p5), .val (.int (1 : Int32)), .val (.ref b1), .unset, .unset] [(.int (2 : Int32)), (.int (1 : Int32))])) _
    refine XS.icmpYes X3.here hx rfl (pc0 := 40) (pc' := 49) rfl (hb hby at_40) rfl (flt ((by decide) : ¬ ((2 : Int32) < (1 : Int32)))).2.2.2 (by decide) (by decide) ?_
    show Steps p.tables e below (T3.setTop (mkF m 49 #[.val (.int p1), .val (.int p2), .val (.int p3), .val (.int p4), .val (.int p5), .val (.int (1 : Int32)), .val (.ref b1), .unset, .unset] [])) _
    refine XS.iload X3.here hx rfl (hb hby at_49) rfl ?_
    show Steps p.tables e below (T3.setTop (mkF m 51 #[.val (.int p1), .val (.int p2), .val (.int p3), .val (.int p4), .val (.int p5), .val (.int (1 : Int32)), .val (.ref b1), .unset, .unset] [(.int (1 : Int32))])) _
    refine XS.iconst X3.here hx rfl (hb hby at_51) ?_
    show Steps p.tables e below (T3.setTop (mkF m 52 #[.val (.int p1), .val (.int p2), .val (.int p3), .val (.int p4), .val (.int p5), .val (.int (1 : Int32)), .val (.ref b1), .unset, .unset] [(.int (3 : Int32)), (.int (1 : Int32))])) _
    refine XS.icmpYes X3.here hx rfl (pc0 := 52) (pc' := 62) rfl (hb hby at_52) rfl (flt ((by decide) : ¬ ((3 : Int32) < (1 : Int32)))).2.2.2 (by decide) (by decide) ?_
    show Steps p.tables e below (T3.setTop (mkF m 62 #[.val (.int p1), .val (.int p2), .val (.int p3), .val (.int p4), .val (.int p5), .val (.int (1 : Int32)), .val (.ref b1), .unset, .unset] [])) _
    refine XS.aload X3.here hx rfl (hb hby at_62) rfl rfl ?_
    show Steps p.tables e below (T3.setTop (mkF m 64 #[.val (.int p1), .val (.int p2), .val (.int p3), .val (.int p4), .val (.int p5), .val (.int (1 : Int32)), .val (.ref b1), .unset, .unset] [(.ref b1)])) _
    refine st4 _ ?_
    show Steps p.tables e below (T4.setTop (mkF m 67 #[.val (.int p1), .val (.int p2), .val (.int p3), .val (.int p4), .val (.int p5), .val (.int (1 : Int32)), .val (.ref b1), .unset, .unset] [(.ref b4_b1)])) _
    refine XS.astore X4.here hx rfl (hb hby at_67) rfl rfl (l' := #[.val (.int p1), .val (.int p2), .val (.int p3), .val (.int p4), .val (.int p5), .val (.int (1 : Int32)), .val (.ref b1), .val (.ref b4_b1), .unset]) rfl ?_
    show Steps p.tables e below (T4.setTop (mkF m 69 #[.val (.int p1), .val (.int p2), .val (.int p3), .val (.int p4), .val (.int p5), .val (.int (1 : Int32)), .val (.ref b1), .val (.ref b4_b1), .unset] [])) _
    refine XS.iload X4.here hx rfl (hb hby at_69) rfl ?_
    show Steps p.tables e below (T4.setTop (mkF m 71 #[.val (.int p1), .val (.int p2), .val (.int p3), .val (.int p4), .val (.int p5), .val (.int (1 : Int32)), .val (.ref b1), .val (.ref b4_b1), .unset] [(.int (1 : Int32))])) _
    refine XS.ifNo X4.here hx rfl (hb hby at_71) rfl ((if0 _ _).trans (tlt ((by decide) : (0 : Int32) < (1 : Int32))).2.2.2) ?_
    show Steps p.tables e below (T4.setTop (mkF m 74 #[.val (.int p1), .val (.int p2), .val (.int p3), .val (.int p4), .val (.int p5), .val (.int (1 : Int32)), .val (.ref b1), .val (.ref b4_b1), .unset] [])) _
    refine XS.aload X4.here hx rfl (hb hby at_74) rfl rfl ?_
    show Steps p.tables e below (T4.setTop (mkF m 76 #[.val (.int p1), .val (.int p2), .val (.int p3), .val (.int p4), .val (.int p5), .val (.int (1 : Int32)), .val (.ref b1), .val (.ref b4_b1), .unset] [(.ref b1)])) _
    refine XS.iconst X4.here hx rfl (hb hby at_76) ?_
    show Steps p.tables e below (T4.setTop (mkF m 77 #[.val (.int p1), .val (.int p2), .val (.int p3), .val (.int p4), .val (.int p5), .val (.int (1 : Int32)), .val (.ref b1), .val (.ref b4_b1), .unset] [(.int (0 : Int32)), (.ref b1)])) _
    refine XS.aload X4.here hx rfl (hb hby at_77) rfl rfl ?_
    show Steps p.tables e below (T4.setTop (mkF m 79 #[.val (.int p1), .val (.int p2), .val (.int p3), .val (.int p4), .val (.int p5), .val (.int (1 : Int32)), .val (.ref b1), .val (.ref b4_b1), .unset] [(.ref b1), (.int (0 : Int32)), (.ref b1)])) _
    refine XS.iconst X4.here hx rfl (hb hby at_79) ?_
    show Steps p.tables e below (T4.setTop (mkF m 80 #[.val (.int p1), .val (.int p2), .val (.int p3), .val (.int p4), .val (.int p5), .val (.int (1 : Int32)), .val (.ref b1), .val (.ref b4_b1), .unset] [(.int (0 : Int32)), (.ref b1), (.int (0 : Int32)), (.ref b1)])) _
    refine X4.baloadBytes hx (j := (0 : Int32)) (v := (.int (p2.toInt8.toInt32))) Ar5.1 (State.isArrayOf_alike hZ.alike Ar5.2.1) Ar5.2.2 hin5 hat5 (g := (mkF m 80 #[.val (.int p1), .val (.int p2), .val (.int p3), .val (.int p4), .val (.int p5), .val (.int (1 : Int32)), .val (.ref b1), .val (.ref b4_b1), .unset] [(.int (0 : Int32)), (.ref b1), (.int (0 : Int32)), (.ref b1)])) rfl rfl (hb hby at_80) _ ?_
    show Steps p.tables e below (T4.setTop (mkF m 81 #[.val (.int p1), .val (.int p2), .val (.int p3), .val (.int p4), .val (.int p5), .val (.int (1 : Int32)), .val (.ref b1), .val (.ref b4_b1), .unset] [(.int (p2.toInt8.toInt32)), (.int (0 : Int32)), (.ref b1)])) _
    refine XS.iconst X4.here hx rfl (hb hby at_81) ?_
    show Steps p.tables e below (T4.setTop (mkF m 82 #[.val (.int p1), .val (.int p2), .val (.int p3), .val (.int p4), .val (.int p5), .val (.int (1 : Int32)), .val (.ref b1), .val (.ref b4_b1), .unset] [(.int (1 : Int32)), (.int (p2.toInt8.toInt32)), (.int (0 : Int32)), (.ref b1)])) _
    refine XS.ixor X4.here hx rfl (hb hby at_82) rfl ?_
    show Steps p.tables e below (T4.setTop (mkF m 83 #[.val (.int p1), .val (.int p2), .val (.int p3), .val (.int p4), .val (.int p5), .val (.int (1 : Int32)), .val (.ref b1), .val (.ref b4_b1), .unset] [(.int ((p2.toInt8.toInt32) ^^^ (1 : Int32))), (.int (0 : Int32)), (.ref b1)])) _
    refine XS.i2b X4.here hx rfl (hb hby at_83) rfl ?_
    show Steps p.tables e below (T4.setTop (mkF m 84 #[.val (.int p1), .val (.int p2), .val (.int p3), .val (.int p4), .val (.int p5), .val (.int (1 : Int32)), .val (.ref b1), .val (.ref b4_b1), .unset] [(.int (((p2.toInt8.toInt32) ^^^ (1 : Int32)).toInt8.toInt32)), (.int (0 : Int32)), (.ref b1)])) _
    refine st7 _ ?_
    show Steps p.tables e below (T7.setTop (mkF m 85 #[.val (.int p1), .val (.int p2), .val (.int p3), .val (.int p4), .val (.int p5), .val (.int (1 : Int32)), .val (.ref b1), .val (.ref b4_b1), .unset] [])) _
    refine XS.iload X7.here hx rfl (hb hby at_85) rfl ?_
    show Steps p.tables e below (T7.setTop (mkF m 87 #[.val (.int p1), .val (.int p2), .val (.int p3), .val (.int p4), .val (.int p5), .val (.int (1 : Int32)), .val (.ref b1), .val (.ref b4_b1), .unset] [(.int (1 : Int32))])) _
    refine XS.iconst X7.here hx rfl (hb hby at_87) ?_
    show Steps p.tables e below (T7.setTop (mkF m 88 #[.val (.int p1), .val (.int p2), .val (.int p3), .val (.int p4), .val (.int p5), .val (.int (1 : Int32)), .val (.ref b1), .val (.ref b4_b1), .unset] [(.int (1 : Int32)), (.int (1 : Int32))])) _
    refine XS.icmpYes X7.here hx rfl (pc0 := 88) (pc' := 102) rfl (hb hby at_88) rfl (flt ((by decide) : ¬ ((1 : Int32) < (1 : Int32)))).2.2.2 (by decide) (by decide) ?_
    show Steps p.tables e below (T7.setTop (mkF m 102 #[.val (.int p1), .val (.int p2), .val (.int p3), .val (.int p4), .val (.int p5), .val (.int (1 : Int32)), .val (.ref b1), .val (.ref b4_b1), .unset] [])) _
    refine XS.iload X7.here hx rfl (hb hby at_102) rfl ?_
    show Steps p.tables e below (T7.setTop (mkF m 104 #[.val (.int p1), .val (.int p2), .val (.int p3), .val (.int p4), .val (.int p5), .val (.int (1 : Int32)), .val (.ref b1), .val (.ref b4_b1), .unset] [(.int (1 : Int32))])) _
    refine XS.iconst X7.here hx rfl (hb hby at_104) ?_
    show Steps p.tables e below (T7.setTop (mkF m 105 #[.val (.int p1), .val (.int p2), .val (.int p3), .val (.int p4), .val (.int p5), .val (.int (1 : Int32)), .val (.ref b1), .val (.ref b4_b1), .unset] [(.int (2 : Int32)), (.int (1 : Int32))])) _
    refine XS.icmpYes X7.here hx rfl (pc0 := 105) (pc' := 119) rfl (hb hby at_105) rfl (flt ((by decide) : ¬ ((2 : Int32) < (1 : Int32)))).2.2.2 (by decide) (by decide) ?_
    show Steps p.tables e below (T7.setTop (mkF m 119 #[.val (.int p1), .val (.int p2), .val (.int p3), .val (.int p4), .val (.int p5), .val (.int (1 : Int32)), .val (.ref b1), .val (.ref b4_b1), .unset] [])) _
    refine XS.iload X7.here hx rfl (hb hby at_119) rfl ?_
    show Steps p.tables e below (T7.setTop (mkF m 121 #[.val (.int p1), .val (.int p2), .val (.int p3), .val (.int p4), .val (.int p5), .val (.int (1 : Int32)), .val (.ref b1), .val (.ref b4_b1), .unset] [(.int (1 : Int32))])) _
    refine XS.iconst X7.here hx rfl (hb hby at_121) ?_
    show Steps p.tables e below (T7.setTop (mkF m 122 #[.val (.int p1), .val (.int p2), .val (.int p3), .val (.int p4), .val (.int p5), .val (.int (1 : Int32)), .val (.ref b1), .val (.ref b4_b1), .unset] [(.int (3 : Int32)), (.int (1 : Int32))])) _
    refine XS.icmpYes X7.here hx rfl (pc0 := 122) (pc' := 136) rfl (hb hby at_122) rfl (flt ((by decide) : ¬ ((3 : Int32) < (1 : Int32)))).2.2.2 (by decide) (by decide) ?_
    show Steps p.tables e below (T7.setTop (mkF m 136 #[.val (.int p1), .val (.int p2), .val (.int p3), .val (.int p4), .val (.int p5), .val (.int (1 : Int32)), .val (.ref b1), .val (.ref b4_b1), .unset] [])) _
    refine XS.aload X7.here hx rfl (hb hby at_136) rfl rfl ?_
    show Steps p.tables e below (T7.setTop (mkF m 138 #[.val (.int p1), .val (.int p2), .val (.int p3), .val (.int p4), .val (.int p5), .val (.int (1 : Int32)), .val (.ref b1), .val (.ref b4_b1), .unset] [(.ref b4_b1)])) _
    refine st8.trans ?_
    show Steps p.tables e below (T8.setTop (mkF m 141 #[.val (.int p1), .val (.int p2), .val (.int p3), .val (.int p4), .val (.int p5), .val (.int (1 : Int32)), .val (.ref b1), .val (.ref b4_b1), .unset] [(.ref w_n0)])) _
    refine st9 _ ?_
    show Steps p.tables e below (T9.setTop (mkF m 144 #[.val (.int p1), .val (.int p2), .val (.int p3), .val (.int p4), .val (.int p5), .val (.int (1 : Int32)), .val (.ref b1), .val (.ref b4_b1), .unset] [(.ref w_n0), (.ref w_n0)])) _
    refine Jvm.RoadKit.acmp (g := (mkF m 144 #[.val (.int p1), .val (.int p2), .val (.int p3), .val (.int p4), .val (.int p5), .val (.int (1 : Int32)), .val (.ref b1), .val (.ref b4_b1), .unset] [(.ref w_n0), (.ref w_n0)])) X9 hx rfl rfl rfl (pc0 := 144) (pc' := 149) (same := true) rfl (hb hby at_144) rfl (decide_eq_true rfl) (by decide) (by decide) ?_
    show Steps p.tables e below (T9.setTop (mkF m 149 #[.val (.int p1), .val (.int p2), .val (.int p3), .val (.int p4), .val (.int p5), .val (.int (1 : Int32)), .val (.ref b1), .val (.ref b4_b1), .unset] [])) _
    refine XS.aload X9.here hx rfl (hb hby at_149) rfl rfl ?_
    show Steps p.tables e below (T9.setTop (mkF m 151 #[.val (.int p1), .val (.int p2), .val (.int p3), .val (.int p4), .val (.int p5), .val (.int (1 : Int32)), .val (.ref b1), .val (.ref b4_b1), .unset] [(.ref b4_b1)])) _
    refine st10.trans ?_
    show Steps p.tables e below (T10.setTop (mkF m 154 #[.val (.int p1), .val (.int p2), .val (.int p3), .val (.int p4), .val (.int p5), .val (.int (1 : Int32)), .val (.ref b1), .val (.ref b4_b1), .unset] [(.ref b10_b4)])) _
    refine XS.astore X10.here hx rfl (hb hby at_154) rfl rfl (l' := #[.val (.int p1), .val (.int p2), .val (.int p3), .val (.int p4), .val (.int p5), .val (.int (1 : Int32)), .val (.ref b1), .val (.ref b4_b1), .val (.ref b10_b4)]) rfl ?_
    show Steps p.tables e below (T10.setTop (mkF m 156 #[.val (.int p1), .val (.int p2), .val (.int p3), .val (.int p4), .val (.int p5), .val (.int (1 : Int32)), .val (.ref b1), .val (.ref b4_b1), .val (.ref b10_b4)] [])) _
    refine XS.aload X10.here hx rfl (hb hby at_156) rfl rfl ?_
    show Steps p.tables e below (T10.setTop (mkF m 158 #[.val (.int p1), .val (.int p2), .val (.int p3), .val (.int p4), .val (.int p5), .val (.int (1 : Int32)), .val (.ref b1), .val (.ref b4_b1), .val (.ref b10_b4)] [(.ref b10_b4)])) _
    refine X10.arraylength hx Ar11.1 (State.isArrayOf_alike hZ.alike Ar11.2.1) (g := (mkF m 158 #[.val (.int p1), .val (.int p2), .val (.int p3), .val (.int p4), .val (.int p5), .val (.int (1 : Int32)), .val (.ref b1), .val (.ref b4_b1), .val (.ref b10_b4)] [(.ref b10_b4)])) rfl rfl (hb hby at_158) _ ?_
    rw [len_of Sz11 Nz11]
    show Steps p.tables e below (T10.setTop (mkF m 159 #[.val (.int p1), .val (.int p2), .val (.int p3), .val (.int p4), .val (.int p5), .val (.int (1 : Int32)), .val (.ref b1), .val (.ref b4_b1), .val (.ref b10_b4)] [(.int (1 : Int32))])) _
    refine XS.iload X10.here hx rfl (hb hby at_159) rfl ?_
    show Steps p.tables e below (T10.setTop (mkF m 161 #[.val (.int p1), .val (.int p2), .val (.int p3), .val (.int p4), .val (.int p5), .val (.int (1 : Int32)), .val (.ref b1), .val (.ref b4_b1), .val (.ref b10_b4)] [(.int (1 : Int32)), (.int (1 : Int32))])) _
    refine XS.icmpYes X10.here hx rfl (pc0 := 161) (pc' := 166) rfl (hb hby at_161) rfl (teq ((by decide) : (1 : Int32) = (1 : Int32))).1 (by decide) (by decide) ?_
    show Steps p.tables e below (T10.setTop (mkF m 166 #[.val (.int p1), .val (.int p2), .val (.int p3), .val (.int p4), .val (.int p5), .val (.int (1 : Int32)), .val (.ref b1), .val (.ref b4_b1), .val (.ref b10_b4)] [])) _
    refine XS.aload X10.here hx rfl (hb hby at_166) rfl rfl ?_
    show Steps p.tables e below (T10.setTop (mkF m 168 #[.val (.int p1), .val (.int p2), .val (.int p3), .val (.int p4), .val (.int p5), .val (.int (1 : Int32)), .val (.ref b1), .val (.ref b4_b1), .val (.ref b10_b4)] [(.ref b10_b4)])) _
    refine XS.iconst X10.here hx rfl (hb hby at_168) ?_
    show Steps p.tables e below (T10.setTop (mkF m 169 #[.val (.int p1), .val (.int p2), .val (.int p3), .val (.int p4), .val (.int p5), .val (.int (1 : Int32)), .val (.ref b1), .val (.ref b4_b1), .val (.ref b10_b4)] [(.int (0 : Int32)), (.ref b10_b4)])) _
    refine XS.iloadN X10.here hx rfl (hb hby at_169) rfl ?_
    show Steps p.tables e below (T10.setTop (mkF m 170 #[.val (.int p1), .val (.int p2), .val (.int p3), .val (.int p4), .val (.int p5), .val (.int (1 : Int32)), .val (.ref b1), .val (.ref b4_b1), .val (.ref b10_b4)] [(.int p2), (.int (0 : Int32)), (.ref b10_b4)])) _
    refine st12 _ ?_
    show Steps p.tables e below (T12.setTop (mkF m 173 #[.val (.int p1), .val (.int p2), .val (.int p3), .val (.int p4), .val (.int p5), .val (.int (1 : Int32)), .val (.ref b1), .val (.ref b4_b1), .val (.ref b10_b4)] [(.int (1 : Int32))])) _
    refine XS.ifNo X12.here hx rfl (hb hby at_173) rfl ((if0 _ _).trans (feq ((by decide) : ¬ ((1 : Int32) = (0 : Int32)))).1) ?_
    show Steps p.tables e below (T12.setTop (mkF m 176 #[.val (.int p1), .val (.int p2), .val (.int p3), .val (.int p4), .val (.int p5), .val (.int (1 : Int32)), .val (.ref b1), .val (.ref b4_b1), .val (.ref b10_b4)] [])) _
    refine XS.aload X12.here hx rfl (hb hby at_176) rfl rfl ?_
    show Steps p.tables e below (T12.setTop (mkF m 178 #[.val (.int p1), .val (.int p2), .val (.int p3), .val (.int p4), .val (.int p5), .val (.int (1 : Int32)), .val (.ref b1), .val (.ref b4_b1), .val (.ref b10_b4)] [(.ref b10_b4)])) _
    refine XS.iconst X12.here hx rfl (hb hby at_178) ?_
    show Steps p.tables e below (T12.setTop (mkF m 179 #[.val (.int p1), .val (.int p2), .val (.int p3), .val (.int p4), .val (.int p5), .val (.int (1 : Int32)), .val (.ref b1), .val (.ref b4_b1), .val (.ref b10_b4)] [(.int (1 : Int32)), (.ref b10_b4)])) _
    refine XS.iloadN X12.here hx rfl (hb hby at_179) rfl ?_
    show Steps p.tables e below (T12.setTop (mkF m 180 #[.val (.int p1), .val (.int p2), .val (.int p3), .val (.int p4), .val (.int p5), .val (.int (1 : Int32)), .val (.ref b1), .val (.ref b4_b1), .val (.ref b10_b4)] [(.int p3), (.int (1 : Int32)), (.ref b10_b4)])) _
    refine st13 _ ?_
    show Steps p.tables e below (T13.setTop (mkF m 183 #[.val (.int p1), .val (.int p2), .val (.int p3), .val (.int p4), .val (.int p5), .val (.int (1 : Int32)), .val (.ref b1), .val (.ref b4_b1), .val (.ref b10_b4)] [(.int (1 : Int32))])) _
    refine XS.ifNo X13.here hx rfl (hb hby at_183) rfl ((if0 _ _).trans (feq ((by decide) : ¬ ((1 : Int32) = (0 : Int32)))).1) ?_
    show Steps p.tables e below (T13.setTop (mkF m 186 #[.val (.int p1), .val (.int p2), .val (.int p3), .val (.int p4), .val (.int p5), .val (.int (1 : Int32)), .val (.ref b1), .val (.ref b4_b1), .val (.ref b10_b4)] [])) _
    refine XS.aload X13.here hx rfl (hb hby at_186) rfl rfl ?_
    show Steps p.tables e below (T13.setTop (mkF m 188 #[.val (.int p1), .val (.int p2), .val (.int p3), .val (.int p4), .val (.int p5), .val (.int (1 : Int32)), .val (.ref b1), .val (.ref b4_b1), .val (.ref b10_b4)] [(.ref b10_b4)])) _
    refine XS.iconst X13.here hx rfl (hb hby at_188) ?_
    show Steps p.tables e below (T13.setTop (mkF m 189 #[.val (.int p1), .val (.int p2), .val (.int p3), .val (.int p4), .val (.int p5), .val (.int (1 : Int32)), .val (.ref b1), .val (.ref b4_b1), .val (.ref b10_b4)] [(.int (2 : Int32)), (.ref b10_b4)])) _
    refine XS.iloadN X13.here hx rfl (hb hby at_189) rfl ?_
    show Steps p.tables e below (T13.setTop (mkF m 190 #[.val (.int p1), .val (.int p2), .val (.int p3), .val (.int p4), .val (.int p5), .val (.int (1 : Int32)), .val (.ref b1), .val (.ref b4_b1), .val (.ref b10_b4)] [(.int p4), (.int (2 : Int32)), (.ref b10_b4)])) _
    refine st14 _ ?_
    show Steps p.tables e below (T14.setTop (mkF m 193 #[.val (.int p1), .val (.int p2), .val (.int p3), .val (.int p4), .val (.int p5), .val (.int (1 : Int32)), .val (.ref b1), .val (.ref b4_b1), .val (.ref b10_b4)] [(.int (1 : Int32))])) _
    refine XS.ifNo X14.here hx rfl (hb hby at_193) rfl ((if0 _ _).trans (feq ((by decide) : ¬ ((1 : Int32) = (0 : Int32)))).1) ?_
    show Steps p.tables e below (T14.setTop (mkF m 196 #[.val (.int p1), .val (.int p2), .val (.int p3), .val (.int p4), .val (.int p5), .val (.int (1 : Int32)), .val (.ref b1), .val (.ref b4_b1), .val (.ref b10_b4)] [])) _
    refine XS.aload X14.here hx rfl (hb hby at_196) rfl rfl ?_
    show Steps p.tables e below (T14.setTop (mkF m 198 #[.val (.int p1), .val (.int p2), .val (.int p3), .val (.int p4), .val (.int p5), .val (.int (1 : Int32)), .val (.ref b1), .val (.ref b4_b1), .val (.ref b10_b4)] [(.ref b10_b4)])) _
    refine XS.iconst X14.here hx rfl (hb hby at_198) ?_
    show Steps p.tables e below (T14.setTop (mkF m 199 #[.val (.int p1), .val (.int p2), .val (.int p3), .val (.int p4), .val (.int p5), .val (.int (1 : Int32)), .val (.ref b1), .val (.ref b4_b1), .val (.ref b10_b4)] [(.int (3 : Int32)), (.ref b10_b4)])) _
    refine XS.iload X14.here hx rfl (hb hby at_199) rfl ?_
    show Steps p.tables e below (T14.setTop (mkF m 201 #[.val (.int p1), .val (.int p2), .val (.int p3), .val (.int p4), .val (.int p5), .val (.int (1 : Int32)), .val (.ref b1), .val (.ref b4_b1), .val (.ref b10_b4)] [(.int p5), (.int (3 : Int32)), (.ref b10_b4)])) _
    refine st15 _ ?_
    show Steps p.tables e below (T15.setTop (mkF m 204 #[.val (.int p1), .val (.int p2), .val (.int p3), .val (.int p4), .val (.int p5), .val (.int (1 : Int32)), .val (.ref b1), .val (.ref b4_b1), .val (.ref b10_b4)] [(.int (1 : Int32))])) _
    refine XS.ifNo X15.here hx rfl (hb hby at_204) rfl ((if0 _ _).trans (feq ((by decide) : ¬ ((1 : Int32) = (0 : Int32)))).1) ?_
    show Steps p.tables e below (T15.setTop (mkF m 207 #[.val (.int p1), .val (.int p2), .val (.int p3), .val (.int p4), .val (.int p5), .val (.int (1 : Int32)), .val (.ref b1), .val (.ref b4_b1), .val (.ref b10_b4)] [])) _
    refine XS.iconst X15.here hx rfl (hb hby at_207) ?_
    show Steps p.tables e below (T15.setTop (mkF m 208 #[.val (.int p1), .val (.int p2), .val (.int p3), .val (.int p4), .val (.int p5), .val (.int (1 : Int32)), .val (.ref b1), .val (.ref b4_b1), .val (.ref b10_b4)] [(.int (1 : Int32))])) _
    refine XS.goto X15.here hx rfl (pc0 := 208) (pc' := 212) rfl (hb hby at_208) (by decide) (by decide) ?_
    show Steps p.tables e below (T15.setTop (mkF m 212 #[.val (.int p1), .val (.int p2), .val (.int p3), .val (.int p4), .val (.int p5), .val (.int (1 : Int32)), .val (.ref b1), .val (.ref b4_b1), .val (.ref b10_b4)] [(.int (1 : Int32))])) _
    exact retN X15 hx (t := .boolean) Bd.returns (by simp) (hb hby at_212) hr
  · show Q0 n0 _ T15.heap _
    rw [e15]
    exact ⟨rfl, N15⟩
set_option maxRecDepth 65536 in
set_option maxHeartbeats 40000000 in
theorem rm0_2 (l : Launch) (Z : State) (a0 : Array Value) (hw : ∀ d ∈ tables_1, d.before a0 Z = true) (ws : List Jvm.Cond) {w_n0 : Addr} (W : Wd Z w_n0) (p1 : Int32) (p2 : Int32) (p3 : Int32) (p4 : Int32) (p5 : Int32) (h0 : Heap) (n0 : Nat) (O0 : Old Z n0 h0) (hk : ((p1 &&& (7 : Int32)) % (5 : Int32)) = (2 : Int32)) :
    MetFree l x (head1 (Jvm.Cond.code x code maxLocals ret :: ws) room_1) (fun a U => a = #[(.int p1), (.int p2), (.int p3), (.int p4), (.int p5)] ∧ Z.Warmed39 U.vm ∧ U.heap = h0) (fun _ _ _ _ _ => True) (fun _ U o U' => ∃ v L, o = .returned v ∧ Q0 n0 v U'.heap L ∧ FrameEnd U o U' L room_1.cells room_1.slots) := by
  have W' := W; obtain ⟨S_n0, E_n0⟩ := W'
  refine MetFree.of_bodySF (plainFor_of_name pn_0) hisR ?_
  intro p e s m args below meth c s₁ Bd hml0 hP hK
  obtain ⟨rfl, hZ, hh⟩ := hP
  have hx := Bd.exec
  have hby := Bd.bytes
  have hml : c.maxLocals = 9 := hml0
  have hown : s.vm.findClass "com/example/keyfold/keyfold/client/ValueOfBinaryPinLaw" = some m.cls := findClass_of_methodNamed Bd.named
  have hnm := (name_of_methodNamed Bd.named Bd.method).1
  have X0 : Stand p l e room_1 s m #[(.int p1), (.int p2), (.int p3), (.int p4), (.int p5)] below meth c s₁ [] 0 0 := Stand.of_body Bd
  have e0 : s₁.heap = h0 := by rw [← hh, Bd.state]; rfl
  have N0 := Fr.nil n0
  have pre0 : ∀ t, Steps p.tables e below (s₁.setTop (mkF m 0 #[.val (.int p1), .val (.int p2), .val (.int p3), .val (.int p4), .val (.int p5), .unset, .unset, .unset, .unset] [])) t → Steps p.tables e below (s₁.setTop (entryFrame m #[(.int p1), (.int p2), (.int p3), (.int p4), (.int p5)] maxLocals)) t := fun t k => castTop (ef_0_6 m p1 p2 p3 p4 p5) k
  obtain ⟨T1, h1, k1, X1, e1, E1, A1, B1, st1⟩ := newPE X0 hx hZ (hw _ (List.mem_of_getElem? (i := 0) rfl)) e0 (g := (mkF m 10 #[.val (.int p1), .val (.int p2), .val (.int p3), .val (.int p4), .val (.int p5), .val (.int (2 : Int32)), .unset, .unset, .unset] [(.int (2 : Int32))])) rfl (hb hby at_10) rfl (by decide) (cap := 2) (by decide) (by decide) (by decide) (by decide) (ad := "[B") (by decide)
  obtain ⟨b1, g1⟩ : ∃ z, z = h0.size := ⟨_, rfl⟩
  rw [← g1] at A1 B1 st1
  have g_b1 : n0 ≤ b1 := by rw [g1]; exact O0.1 ▸ O0.2.1
  have O1 := O0.ext E1
  have fv1 : Arv Z h1 b1 k1 .byte (2 : Int32) [(.int (0 : Int32)), (.int (0 : Int32))] (.int (0 : Int32)) := (Arv.new A1 (by decide)).pad (pad_rep [] (.int (0 : Int32)) 2)
  obtain ⟨cl2, Ar2, qk2, Sz2, Nz2, Hs2, Gs2⟩ := id fv1
  have hin2 : ¬ ((0 : Int32) < 0 ∨ cl2.slots.size ≤ ((0 : Int32)).toNatClampNeg) := inb_of Sz2 ⟨by decide, by decide⟩
  obtain ⟨T3, h3, X3, e3, W3, st3⟩ := stB X1 hx hZ e1 Ar2 (j := (0 : Int32)) hin2  (g := (mkF m 24 #[.val (.int p1), .val (.int p2), .val (.int p3), .val (.int p4), .val (.int p5), .val (.int (2 : Int32)), .val (.ref b1), .unset, .unset] [(.int (p2.toInt8.toInt32)), (.int (0 : Int32)), (.ref b1)])) rfl rfl (hb hby at_24)
  rw [show nar .byte (p2.toInt8.toInt32) = (p2.toInt8.toInt32) from own_byte _] at W3
  have fw3 : Arv Z h3 b1 k1 .byte (2 : Int32) [(.int (p2.toInt8.toInt32)), (.int (0 : Int32))] (.int (0 : Int32)) := Arv.set Ar2 qk2 Sz2 Nz2 Hs2 Gs2 (fits_nar_byte _) W3 0 rfl (Nat.le_of_ble_eq_true rfl)
  have f3_0 : Exa Z h3 b1 "[B" := (B1).wr W3
  have O3 := O1.wr W3 g_b1
  have N3 := Fr.snoc X3 N0 g_b1
  obtain ⟨cl4, Ar4, qk4, Sz4, Nz4, Hs4, Gs4⟩ := id fw3
  have hin4 : ¬ ((1 : Int32) < 0 ∨ cl4.slots.size ≤ ((1 : Int32)).toNatClampNeg) := inb_of Sz4 ⟨by decide, by decide⟩
  obtain ⟨T5, h5, X5, e5, W5, st5⟩ := stB X3 hx hZ e3 Ar4 (j := (1 : Int32)) hin4  (g := (mkF m 36 #[.val (.int p1), .val (.int p2), .val (.int p3), .val (.int p4), .val (.int p5), .val (.int (2 : Int32)), .val (.ref b1), .unset, .unset] [(.int (p3.toInt8.toInt32)), (.int (1 : Int32)), (.ref b1)])) rfl rfl (hb hby at_36)
  rw [show nar .byte (p3.toInt8.toInt32) = (p3.toInt8.toInt32) from own_byte _] at W5
  have fw5 : Arv Z h5 b1 k1 .byte (2 : Int32) [(.int (p2.toInt8.toInt32)), (.int (p3.toInt8.toInt32))] (.int (0 : Int32)) := Arv.set Ar4 qk4 Sz4 Nz4 Hs4 Gs4 (fits_nar_byte _) W5 1 rfl (Nat.le_of_ble_eq_true rfl)
  have f5_0 : Exa Z h5 b1 "[B" := (f3_0).wr W5
  have O5 := O3.wr W5 g_b1
  have N5 := Fr.snoc X5 N3 g_b1
  obtain ⟨_, _, ⟨T6, L6, k6, n6⟩, -, X6, ⟨Lc6, hQ6, l6, y6, z6⟩, st6⟩ := Jvm.LawKit.callS X5 hx (y := (⟨"com/example/keyfold/keyfold/client/Value", "ofBinary", "([B)Lcom/example/keyfold/keyfold/client/Value;"⟩ : MethodName)) hown (mvT hZ (hw _ (List.mem_of_getElem? (i := 1) rfl))) (mvT hZ (hw _ (List.mem_of_getElem? (i := 2) rfl))) (mvT hZ (hw _ (List.mem_of_getElem? (i := 3) rfl))) (mvT hZ (hw _ (List.mem_of_getElem? (i := 4) rfl))) (by decide) (backOf (W := 0) (rm1_2 l Z a0 hw [] W b1 k1 (p2.toInt8.toInt32) (p3.toInt8.toInt32) h5 n0 O5 g_b1 f5_0 fw5) hZ (hw _ (List.mem_of_getElem? (i := 4) rfl)) (hw _ (List.mem_of_getElem? (i := 3) rfl)) (by decide) (by decide)) (g := (mkF m 64 #[.val (.int p1), .val (.int p2), .val (.int p3), .val (.int p4), .val (.int p5), .val (.int (2 : Int32)), .val (.ref b1), .unset, .unset] [(.ref b1)])) rfl (by rw [hml]; rfl) (argsL := [(.ref b1)]) (rest := []) (lenOf pd_2 rfl) rfl (by show 2 * 0 + _ ≤ _; exact Nat.le_of_eq rfl) (hb hby at_64) (fun _ _ => ⟨rfl, e5, (by decide : 1 + 2 ≤ _), (by decide : 2 + 4 ≤ _)⟩)
  dsimp only [Pt.U, Pt.locs, Pt.cells, Pt.slots] at X6 l6 y6 z6 st6 hQ6
  subst l6 y6 z6
  obtain ⟨N6q, hP6⟩ := hQ6
  have N6 := Fr.app N5 N6q
  obtain ⟨b6_b1, b6_b3, rfl, Kp6, g_b6_b1, si_b6_b1, g_b6_b3, si_b6_b3, fp6_0, fp6_1, fp6_2, fp6_3, fp6_4⟩ := hP6
  have f6_0 : Exa Z T6.heap b1 "[B" := (f5_0).keep Kp6
  have f6_1 : Arv Z T6.heap b1 k1 .byte (2 : Int32) [(.int (p2.toInt8.toInt32)), (.int (p3.toInt8.toInt32))] (.int (0 : Int32)) := (fw5).keep Kp6 nin0
  have O6 := O5.keep Kp6 all0
  obtain ⟨cl7, Ar7, qk7, Sz7, Nz7, Hs7, Gs7⟩ := id f6_1
  have hin7 : ¬ ((0 : Int32) < 0 ∨ cl7.slots.size ≤ ((0 : Int32)).toNatClampNeg) := inb_of Sz7 ⟨by decide, by decide⟩
  have hat7 : cl7.slots[((0 : Int32)).toNatClampNeg]? = some (.int (p2.toInt8.toInt32)) := Has.at Hs7 hin7 rfl
  obtain ⟨cl8, Ar8, qk8, Sz8, Nz8, Hs8, Gs8⟩ := id f6_1
  have hin8 : ¬ ((0 : Int32) < 0 ∨ cl8.slots.size ≤ ((0 : Int32)).toNatClampNeg) := inb_of Sz8 ⟨by decide, by decide⟩
  obtain ⟨T9, h9, X9, e9, W9, st9⟩ := stB X6 hx hZ rfl Ar8 (j := (0 : Int32)) hin8  (g := (mkF m 84 #[.val (.int p1), .val (.int p2), .val (.int p3), .val (.int p4), .val (.int p5), .val (.int (2 : Int32)), .val (.ref b1), .val (.ref b6_b1), .unset] [(.int (((p2.toInt8.toInt32) ^^^ (1 : Int32)).toInt8.toInt32)), (.int (0 : Int32)), (.ref b1)])) rfl rfl (hb hby at_84)
  rw [show nar .byte (((p2.toInt8.toInt32) ^^^ (1 : Int32)).toInt8.toInt32) = (((p2.toInt8.toInt32) ^^^ (1 : Int32)).toInt8.toInt32) from own_byte _] at W9
  have fw9 : Arv Z h9 b1 k1 .byte (2 : Int32) [(.int (((p2.toInt8.toInt32) ^^^ (1 : Int32)).toInt8.toInt32)), (.int (p3.toInt8.toInt32))] (.int (0 : Int32)) := Arv.set Ar8 qk8 Sz8 Nz8 Hs8 Gs8 (fits_nar_byte _) W9 0 rfl (Nat.le_of_ble_eq_true rfl)
  have f9_0 : Exa Z h9 b1 "[B" := (f6_0).wr W9
  have f9_1 : Exa Z h9 b6_b1 "com/example/keyfold/keyfold/client/Value" := (fp6_0).wr W9
  have f9_2 : Fld Z h9 b6_b1 "com/example/keyfold/keyfold/client/Value" "type" "Lcom/example/keyfold/keyfold/client/ValueType;" (.ref w_n0) := (fp6_1).other W9 (Or.inl (ne_exa fp6_0 f6_0 (by decide)))
  have f9_3 : Fld Z h9 b6_b1 "com/example/keyfold/keyfold/client/Value" "content" "Ljava/lang/Object;" (.ref b6_b3) := (fp6_2).other W9 (Or.inl (ne_exa fp6_0 f6_0 (by decide)))
  have f9_4 : Exa Z h9 b6_b3 "[B" := (fp6_3).wr W9
  have f9_5 : Arv Z h9 b6_b3 k1 .byte (2 : Int32) [(.int (p2.toInt8.toInt32)), (.int (p3.toInt8.toInt32))] (.int (0 : Int32)) := (fp6_4).other W9 (Ne.symm (Nat.ne_of_lt (Nat.lt_of_lt_of_le (f5_0).lt si_b6_b3)))
  have O9 := O6.wr W9 g_b1
  have N9 := Fr.snoc X9 N6 g_b1
  obtain ⟨cl10, Ar10, qk10, Sz10, Nz10, Hs10, Gs10⟩ := id fw9
  have hin10 : ¬ ((1 : Int32) < 0 ∨ cl10.slots.size ≤ ((1 : Int32)).toNatClampNeg) := inb_of Sz10 ⟨by decide, by decide⟩
  have hat10 : cl10.slots[((1 : Int32)).toNatClampNeg]? = some (.int (p3.toInt8.toInt32)) := Has.at Hs10 hin10 rfl
  obtain ⟨cl11, Ar11, qk11, Sz11, Nz11, Hs11, Gs11⟩ := id fw9
  have hin11 : ¬ ((1 : Int32) < 0 ∨ cl11.slots.size ≤ ((1 : Int32)).toNatClampNeg) := inb_of Sz11 ⟨by decide, by decide⟩
  obtain ⟨T12, h12, X12, e12, W12, st12⟩ := stB X9 hx hZ e9 Ar11 (j := (1 : Int32)) hin11  (g := (mkF m 101 #[.val (.int p1), .val (.int p2), .val (.int p3), .val (.int p4), .val (.int p5), .val (.int (2 : Int32)), .val (.ref b1), .val (.ref b6_b1), .unset] [(.int (((p3.toInt8.toInt32) ^^^ (1 : Int32)).toInt8.toInt32)), (.int (1 : Int32)), (.ref b1)])) rfl rfl (hb hby at_101)
  rw [show nar .byte (((p3.toInt8.toInt32) ^^^ (1 : Int32)).toInt8.toInt32) = (((p3.toInt8.toInt32) ^^^ (1 : Int32)).toInt8.toInt32) from own_byte _] at W12
  have fw12 : Arv Z h12 b1 k1 .byte (2 : Int32) [(.int (((p2.toInt8.toInt32) ^^^ (1 : Int32)).toInt8.toInt32)), (.int (((p3.toInt8.toInt32) ^^^ (1 : Int32)).toInt8.toInt32))] (.int (0 : Int32)) := Arv.set Ar11 qk11 Sz11 Nz11 Hs11 Gs11 (fits_nar_byte _) W12 1 rfl (Nat.le_of_ble_eq_true rfl)
  have f12_0 : Exa Z h12 b1 "[B" := (f9_0).wr W12
  have f12_1 : Exa Z h12 b6_b1 "com/example/keyfold/keyfold/client/Value" := (f9_1).wr W12
  have f12_2 : Fld Z h12 b6_b1 "com/example/keyfold/keyfold/client/Value" "type" "Lcom/example/keyfold/keyfold/client/ValueType;" (.ref w_n0) := (f9_2).other W12 (Or.inl (ne_exa f9_1 f9_0 (by decide)))
  have f12_3 : Fld Z h12 b6_b1 "com/example/keyfold/keyfold/client/Value" "content" "Ljava/lang/Object;" (.ref b6_b3) := (f9_3).other W12 (Or.inl (ne_exa f9_1 f9_0 (by decide)))
  have f12_4 : Exa Z h12 b6_b3 "[B" := (f9_4).wr W12
  have f12_5 : Arv Z h12 b6_b3 k1 .byte (2 : Int32) [(.int (p2.toInt8.toInt32)), (.int (p3.toInt8.toInt32))] (.int (0 : Int32)) := (f9_5).other W12 (Ne.symm (Nat.ne_of_lt (Nat.lt_of_lt_of_le (f5_0).lt si_b6_b3)))
  have O12 := O9.wr W12 g_b1
  have N12 := Fr.snoc X12 N9 g_b1
  obtain ⟨cq13, kq13, q13a, q13b, q13c⟩ := isOf hZ e12 f12_1
  obtain ⟨_, _, ⟨T13, L13, k13, n13⟩, -, X13, ⟨Lc13, hQ13, l13, y13, z13⟩, st13⟩ := X12.virtualBack hx (y := (⟨"com/example/keyfold/keyfold/client/Value", "type", "()Lcom/example/keyfold/keyfold/client/ValueType;"⟩ : MethodName)) (z := (⟨"com/example/keyfold/keyfold/client/Value", "type", "()Lcom/example/keyfold/keyfold/client/ValueType;"⟩ : MethodName)) hown (mvT hZ (hw _ (List.mem_of_getElem? (i := 27) rfl))) (mvT hZ (hw _ (List.mem_of_getElem? (i := 28) rfl))) (notFace_of_selects (args := #[]) (mvT hZ (hw _ (List.mem_of_getElem? (i := 30) rfl)))) (mvT hZ (hw _ (List.mem_of_getElem? (i := 30) rfl))) (mvT hZ (hw _ (List.mem_of_getElem? (i := 29) rfl))) (by decide) (backOf (W := 0) (rm4 l Z a0 hw [] W b6_b1 h12 n0 O12 f12_2) hZ (hw _ (List.mem_of_getElem? (i := 31) rfl)) (hw _ (List.mem_of_getElem? (i := 3) rfl)) (by decide) (by decide)) q13a q13c (g := (mkF m 138 #[.val (.int p1), .val (.int p2), .val (.int p3), .val (.int p4), .val (.int p5), .val (.int (2 : Int32)), .val (.ref b1), .val (.ref b6_b1), .unset] [(.ref b6_b1)])) rfl (by rw [hml]; rfl) (Steps.refl _) (argsL := []) (rest := []) (lenOf pd_3 rfl) rfl (by show 2 * 0 + _ ≤ _; exact Nat.le_of_eq rfl) (hb hby at_138) (fun _ _ => ⟨rfl, e12, (by decide : 3 + 0 ≤ _), (by decide : 6 + 0 ≤ _)⟩)
  dsimp only [Pt.U, Pt.locs, Pt.cells, Pt.slots] at X13 l13 y13 z13 st13 hQ13
  subst l13 y13 z13
  obtain ⟨rfl, N13q, e13⟩ := hQ13
  have N13 := Fr.app N12 N13q
  obtain ⟨T14, X14, e14, st14⟩ := getS2 X13 hx hZ hown (host := "") (Or.inl (hw _ (List.mem_of_getElem? (i := 32) rfl))) Via.refl e13 (S_n0.ext O12.2) (g := (mkF m 141 #[.val (.int p1), .val (.int p2), .val (.int p3), .val (.int p4), .val (.int p5), .val (.int (2 : Int32)), .val (.ref b1), .val (.ref b6_b1), .unset] [(.ref w_n0)])) rfl (hb hby at_141)
  obtain ⟨cq15, kq15, q15a, q15b, q15c⟩ := isOf hZ e14 f12_1
  obtain ⟨_, _, ⟨T15, L15, k15, n15⟩, -, X15, ⟨Lc15, hQ15, l15, y15, z15⟩, st15⟩ := X14.virtualBack hx (y := (⟨"com/example/keyfold/keyfold/client/Value", "asBinary", "()[B"⟩ : MethodName)) (z := (⟨"com/example/keyfold/keyfold/client/Value", "asBinary", "()[B"⟩ : MethodName)) hown (mvT hZ (hw _ (List.mem_of_getElem? (i := 33) rfl))) (mvT hZ (hw _ (List.mem_of_getElem? (i := 34) rfl))) (notFace_of_selects (args := #[]) (mvT hZ (hw _ (List.mem_of_getElem? (i := 36) rfl)))) (mvT hZ (hw _ (List.mem_of_getElem? (i := 36) rfl))) (mvT hZ (hw _ (List.mem_of_getElem? (i := 35) rfl))) (by decide) (backOf (W := 0) (rm5_2 l Z a0 hw [] W b6_b1 b6_b3 k1 (p2.toInt8.toInt32) (p3.toInt8.toInt32) h12 n0 O12 g_b6_b1 f12_1 f12_2 f12_3 g_b6_b3 f12_4 f12_5) hZ (hw _ (List.mem_of_getElem? (i := 37) rfl)) (hw _ (List.mem_of_getElem? (i := 3) rfl)) (by decide) (by decide)) q15a q15c (g := (mkF m 151 #[.val (.int p1), .val (.int p2), .val (.int p3), .val (.int p4), .val (.int p5), .val (.int (2 : Int32)), .val (.ref b1), .val (.ref b6_b1), .unset] [(.ref b6_b1)])) rfl (by rw [hml]; rfl) (Steps.refl _) (argsL := []) (rest := []) (lenOf pd_4 rfl) rfl (by show 2 * 0 + _ ≤ _; exact Nat.le_of_eq rfl) (hb hby at_151) (fun _ _ => ⟨rfl, e14, (by decide : 3 + 1 ≤ _), (by decide : 6 + 2 ≤ _)⟩)
  dsimp only [Pt.U, Pt.locs, Pt.cells, Pt.slots] at X15 l15 y15 z15 st15 hQ15
  subst l15 y15 z15
  obtain ⟨N15q, hP15⟩ := hQ15
  have N15 := Fr.app N13 N15q
  obtain ⟨b15_b4, rfl, Kp15, g_b15_b4, si_b15_b4, fp15_0, fp15_1⟩ := hP15
  have f15_0 : Exa Z T15.heap b1 "[B" := (f12_0).keep Kp15
  have f15_1 : Exa Z T15.heap b6_b1 "com/example/keyfold/keyfold/client/Value" := (f12_1).keep Kp15
  have f15_2 : Fld Z T15.heap b6_b1 "com/example/keyfold/keyfold/client/Value" "type" "Lcom/example/keyfold/keyfold/client/ValueType;" (.ref w_n0) := (f12_2).keep Kp15 nin0
  have f15_3 : Fld Z T15.heap b6_b1 "com/example/keyfold/keyfold/client/Value" "content" "Ljava/lang/Object;" (.ref b6_b3) := (f12_3).keep Kp15 nin0
  have f15_4 : Exa Z T15.heap b6_b3 "[B" := (f12_4).keep Kp15
  have f15_5 : Arv Z T15.heap b6_b3 k1 .byte (2 : Int32) [(.int (p2.toInt8.toInt32)), (.int (p3.toInt8.toInt32))] (.int (0 : Int32)) := (f12_5).keep Kp15 nin0
  have f15_6 : Arv Z T15.heap b1 k1 .byte (2 : Int32) [(.int (((p2.toInt8.toInt32) ^^^ (1 : Int32)).toInt8.toInt32)), (.int (((p3.toInt8.toInt32) ^^^ (1 : Int32)).toInt8.toInt32))] (.int (0 : Int32)) := (fw12).keep Kp15 nin0
  have O15 := O12.keep Kp15 all0
  obtain ⟨cl16, Ar16, qk16, Sz16, Nz16, Hs16, Gs16⟩ := id fp15_1
  obtain ⟨_, _, ⟨T17, L17, k17, n17⟩, -, X17, ⟨Lc17, hQ17, l17, y17, z17⟩, st17⟩ := Jvm.LawKit.callS X15 hx (y := (⟨"com/example/keyfold/keyfold/client/ValueOfBinaryPinLaw", "at", "([BII)Z"⟩ : MethodName)) hown (mvT hZ (hw _ (List.mem_of_getElem? (i := 44) rfl))) (mvT hZ (hw _ (List.mem_of_getElem? (i := 45) rfl))) (mvT hZ (hw _ (List.mem_of_getElem? (i := 46) rfl))) (mvT hZ (hw _ (List.mem_of_getElem? (i := 47) rfl))) (by decide) (backOf (W := 0) (rm7_2_0 l Z a0 hw [] W b15_b4 p2 k1 (p2.toInt8.toInt32) (p3.toInt8.toInt32) T15.heap n0 O15 rfl fp15_1) hZ (hw _ (List.mem_of_getElem? (i := 47) rfl)) (hw _ (List.mem_of_getElem? (i := 46) rfl)) (by decide) (by decide)) (g := (mkF m 170 #[.val (.int p1), .val (.int p2), .val (.int p3), .val (.int p4), .val (.int p5), .val (.int (2 : Int32)), .val (.ref b1), .val (.ref b6_b1), .val (.ref b15_b4)] [(.int p2), (.int (0 : Int32)), (.ref b15_b4)])) rfl (by rw [hml]; rfl) (argsL := [(.ref b15_b4), (.int (0 : Int32)), (.int p2)]) (rest := []) (lenOf pd_5 rfl) rfl (by show 2 * 0 + _ ≤ _; exact Nat.le_of_eq rfl) (hb hby at_170) (fun _ _ => ⟨rfl, rfl, (by decide : 4 + 0 ≤ _), (by decide : 8 + 0 ≤ _)⟩)
  dsimp only [Pt.U, Pt.locs, Pt.cells, Pt.slots] at X17 l17 y17 z17 st17 hQ17
  subst l17 y17 z17
  obtain ⟨rfl, N17q, e17⟩ := hQ17
  have N17 := Fr.app N15 N17q
  obtain ⟨_, _, ⟨T18, L18, k18, n18⟩, -, X18, ⟨Lc18, hQ18, l18, y18, z18⟩, st18⟩ := Jvm.LawKit.callS X17 hx (y := (⟨"com/example/keyfold/keyfold/client/ValueOfBinaryPinLaw", "at", "([BII)Z"⟩ : MethodName)) hown (mvT hZ (hw _ (List.mem_of_getElem? (i := 44) rfl))) (mvT hZ (hw _ (List.mem_of_getElem? (i := 45) rfl))) (mvT hZ (hw _ (List.mem_of_getElem? (i := 46) rfl))) (mvT hZ (hw _ (List.mem_of_getElem? (i := 47) rfl))) (by decide) (backOf (W := 0) (rm7_2_1 l Z a0 hw [] W b15_b4 p3 k1 (p2.toInt8.toInt32) (p3.toInt8.toInt32) T15.heap n0 O15 rfl fp15_1) hZ (hw _ (List.mem_of_getElem? (i := 47) rfl)) (hw _ (List.mem_of_getElem? (i := 46) rfl)) (by decide) (by decide)) (g := (mkF m 180 #[.val (.int p1), .val (.int p2), .val (.int p3), .val (.int p4), .val (.int p5), .val (.int (2 : Int32)), .val (.ref b1), .val (.ref b6_b1), .val (.ref b15_b4)] [(.int p3), (.int (1 : Int32)), (.ref b15_b4)])) rfl (by rw [hml]; rfl) (argsL := [(.ref b15_b4), (.int (1 : Int32)), (.int p3)]) (rest := []) (lenOf pd_5 rfl) rfl (by show 2 * 0 + _ ≤ _; exact Nat.le_of_eq rfl) (hb hby at_180) (fun _ _ => ⟨rfl, e17, (by decide : 4 + 0 ≤ _), (by decide : 8 + 0 ≤ _)⟩)
  dsimp only [Pt.U, Pt.locs, Pt.cells, Pt.slots] at X18 l18 y18 z18 st18 hQ18
  subst l18 y18 z18
  obtain ⟨rfl, N18q, e18⟩ := hQ18
  have N18 := Fr.app N17 N18q
  obtain ⟨_, _, ⟨T19, L19, k19, n19⟩, -, X19, ⟨Lc19, hQ19, l19, y19, z19⟩, st19⟩ := Jvm.LawKit.callS X18 hx (y := (⟨"com/example/keyfold/keyfold/client/ValueOfBinaryPinLaw", "at", "([BII)Z"⟩ : MethodName)) hown (mvT hZ (hw _ (List.mem_of_getElem? (i := 44) rfl))) (mvT hZ (hw _ (List.mem_of_getElem? (i := 45) rfl))) (mvT hZ (hw _ (List.mem_of_getElem? (i := 46) rfl))) (mvT hZ (hw _ (List.mem_of_getElem? (i := 47) rfl))) (by decide) (backOf (W := 0) (rm7_2_2 l Z a0 hw [] W b15_b4 p4 k1 (p2.toInt8.toInt32) (p3.toInt8.toInt32) T15.heap n0 O15 fp15_1) hZ (hw _ (List.mem_of_getElem? (i := 47) rfl)) (hw _ (List.mem_of_getElem? (i := 46) rfl)) (by decide) (by decide)) (g := (mkF m 190 #[.val (.int p1), .val (.int p2), .val (.int p3), .val (.int p4), .val (.int p5), .val (.int (2 : Int32)), .val (.ref b1), .val (.ref b6_b1), .val (.ref b15_b4)] [(.int p4), (.int (2 : Int32)), (.ref b15_b4)])) rfl (by rw [hml]; rfl) (argsL := [(.ref b15_b4), (.int (2 : Int32)), (.int p4)]) (rest := []) (lenOf pd_5 rfl) rfl (by show 2 * 0 + _ ≤ _; exact Nat.le_of_eq rfl) (hb hby at_190) (fun _ _ => ⟨rfl, e18, (by decide : 4 + 0 ≤ _), (by decide : 8 + 0 ≤ _)⟩)
  dsimp only [Pt.U, Pt.locs, Pt.cells, Pt.slots] at X19 l19 y19 z19 st19 hQ19
  subst l19 y19 z19
  obtain ⟨rfl, N19q, e19⟩ := hQ19
  have N19 := Fr.app N18 N19q
  obtain ⟨_, _, ⟨T20, L20, k20, n20⟩, -, X20, ⟨Lc20, hQ20, l20, y20, z20⟩, st20⟩ := Jvm.LawKit.callS X19 hx (y := (⟨"com/example/keyfold/keyfold/client/ValueOfBinaryPinLaw", "at", "([BII)Z"⟩ : MethodName)) hown (mvT hZ (hw _ (List.mem_of_getElem? (i := 44) rfl))) (mvT hZ (hw _ (List.mem_of_getElem? (i := 45) rfl))) (mvT hZ (hw _ (List.mem_of_getElem? (i := 46) rfl))) (mvT hZ (hw _ (List.mem_of_getElem? (i := 47) rfl))) (by decide) (backOf (W := 0) (rm7_2_3 l Z a0 hw [] W b15_b4 p5 k1 (p2.toInt8.toInt32) (p3.toInt8.toInt32) T15.heap n0 O15 fp15_1) hZ (hw _ (List.mem_of_getElem? (i := 47) rfl)) (hw _ (List.mem_of_getElem? (i := 46) rfl)) (by decide) (by decide)) (g := (mkF m 201 #[.val (.int p1), .val (.int p2), .val (.int p3), .val (.int p4), .val (.int p5), .val (.int (2 : Int32)), .val (.ref b1), .val (.ref b6_b1), .val (.ref b15_b4)] [(.int p5), (.int (3 : Int32)), (.ref b15_b4)])) rfl (by rw [hml]; rfl) (argsL := [(.ref b15_b4), (.int (3 : Int32)), (.int p5)]) (rest := []) (lenOf pd_5 rfl) rfl (by show 2 * 0 + _ ≤ _; exact Nat.le_of_eq rfl) (hb hby at_201) (fun _ _ => ⟨rfl, e19, (by decide : 4 + 0 ≤ _), (by decide : 8 + 0 ≤ _)⟩)
  dsimp only [Pt.U, Pt.locs, Pt.cells, Pt.slots] at X20 l20 y20 z20 st20 hQ20
  subst l20 y20 z20
  obtain ⟨rfl, N20q, e20⟩ := hQ20
  have N20 := Fr.app N19 N20q
  obtain ⟨fs, hr, hrun, hended, hW, hsame⟩ := X20.leave (v := some (.int (1 : Int32))) (fun h => by rw [Bd.returns] at h; cases h)
  refine ⟨_, _, pre0 _ ?_, hrun, hended, _, _, rfl, ?_, ⟨_, rfl⟩, hW, hsame.mono (by decide) (by decide)⟩
  · show Steps p.tables e below (s₁.setTop (mkF m 0 #[.val (.int p1), .val (.int p2), .val (.int p3), .val (.int p4), .val (.int p5), .unset, .unset, .unset, .unset] [])) _
    refine XS.iloadN X0.here hx rfl (hb hby at_0) rfl ?_
    show Steps p.tables e below (s₁.setTop (mkF m 1 #[.val (.int p1), .val (.int p2), .val (.int p3), .val (.int p4), .val (.int p5), .unset, .unset, .unset, .unset] [(.int p1)])) _
    refine XS.bipush X0.here hx rfl (hb hby at_1) ?_
    show Steps p.tables e below (s₁.setTop (mkF m 3 #[.val (.int p1), .val (.int p2), .val (.int p3), .val (.int p4), .val (.int p5), .unset, .unset, .unset, .unset] [(.int (7 : Int32)), (.int p1)])) _
    refine XS.iand X0.here hx rfl (hb hby at_3) rfl ?_
    show Steps p.tables e below (s₁.setTop (mkF m 4 #[.val (.int p1), .val (.int p2), .val (.int p3), .val (.int p4), .val (.int p5), .unset, .unset, .unset, .unset] [(.int (p1 &&& (7 : Int32)))])) _
    refine XS.iconst X0.here hx rfl (hb hby at_4) ?_
    show Steps p.tables e below (s₁.setTop (mkF m 5 #[.val (.int p1), .val (.int p2), .val (.int p3), .val (.int p4), .val (.int p5), .unset, .unset, .unset, .unset] [(.int (5 : Int32)), (.int (p1 &&& (7 : Int32)))])) _
    refine iremM X0 hx rfl (hb hby at_5) rfl (by decide) ?_
    show Steps p.tables e below (s₁.setTop (mkF m 6 #[.val (.int p1), .val (.int p2), .val (.int p3), .val (.int p4), .val (.int p5), .unset, .unset, .unset, .unset] [(.int ((p1 &&& (7 : Int32)) % (5 : Int32)))])) _
    rw [hk]
    show Steps p.tables e below (s₁.setTop (mkF m 6 #[.val (.int p1), .val (.int p2), .val (.int p3), .val (.int p4), .val (.int p5), .unset, .unset, .unset, .unset] [(.int (2 : Int32))])) _
    refine XS.istore X0.here hx rfl (hb hby at_6) rfl (l' := #[.val (.int p1), .val (.int p2), .val (.int p3), .val (.int p4), .val (.int p5), .val (.int (2 : Int32)), .unset, .unset, .unset]) rfl ?_
    show Steps p.tables e below (s₁.setTop (mkF m 8 #[.val (.int p1), .val (.int p2), .val (.int p3), .val (.int p4), .val (.int p5), .val (.int (2 : Int32)), .unset, .unset, .unset] [])) _
    refine XS.iload X0.here hx rfl (hb hby at_8) rfl ?_
    show Steps p.tables e below (s₁.setTop (mkF m 10 #[.val (.int p1), .val (.int p2), .val (.int p3), .val (.int p4), .val (.int p5), .val (.int (2 : Int32)), .unset, .unset, .unset] [(.int (2 : Int32))])) _
    refine st1 _ ?_
    show Steps p.tables e below (T1.setTop (mkF m 12 #[.val (.int p1), .val (.int p2), .val (.int p3), .val (.int p4), .val (.int p5), .val (.int (2 : Int32)), .unset, .unset, .unset] [(.ref b1)])) _
    refine XS.astore X1.here hx rfl (hb hby at_12) rfl rfl (l' := #[.val (.int p1), .val (.int p2), .val (.int p3), .val (.int p4), .val (.int p5), .val (.int (2 : Int32)), .val (.ref b1), .unset, .unset]) rfl ?_
    show Steps p.tables e below (T1.setTop (mkF m 14 #[.val (.int p1), .val (.int p2), .val (.int p3), .val (.int p4), .val (.int p5), .val (.int (2 : Int32)), .val (.ref b1), .unset, .unset] [])) _
    refine XS.iload X1.here hx rfl (hb hby at_14) rfl ?_
    show Steps p.tables e below (T1.setTop (mkF m 16 #[.val (.int p1), .val (.int p2), .val (.int p3), .val (.int p4), .val (.int p5), .val (.int (2 : Int32)), .val (.ref b1), .unset, .unset] [(.int (2 : Int32))])) _
    refine XS.ifNo X1.here hx rfl (hb hby at_16) rfl ((if0 _ _).trans (tlt ((by decide) : (0 : Int32) < (2 : Int32))).2.2.2) ?_
    show Steps p.tables e below (T1.setTop (mkF m 19 #[.val (.int p1), .val (.int p2), .val (.int p3), .val (.int p4), .val (.int p5), .val (.int (2 : Int32)), .val (.ref b1), .unset, .unset] [])) _
    refine XS.aload X1.here hx rfl (hb hby at_19) rfl rfl ?_
    show Steps p.tables e below (T1.setTop (mkF m 21 #[.val (.int p1), .val (.int p2), .val (.int p3), .val (.int p4), .val (.int p5), .val (.int (2 : Int32)), .val (.ref b1), .unset, .unset] [(.ref b1)])) _
    refine XS.iconst X1.here hx rfl (hb hby at_21) ?_
    show Steps p.tables e below (T1.setTop (mkF m 22 #[.val (.int p1), .val (.int p2), .val (.int p3), .val (.int p4), .val (.int p5), .val (.int (2 : Int32)), .val (.ref b1), .unset, .unset] [(.int (0 : Int32)), (.ref b1)])) _
    refine XS.iloadN X1.here hx rfl (hb hby at_22) rfl ?_
    show Steps p.tables e below (T1.setTop (mkF m 23 #[.val (.int p1), .val (.int p2), .val (.int p3), .val (.int p4), .val (.int p5), .val (.int (2 : Int32)), .val (.ref b1), .unset, .unset] [(.int p2), (.int (0 : Int32)), (.ref b1)])) _
    refine XS.i2b X1.here hx rfl (hb hby at_23) rfl ?_
    show Steps p.tables e below (T1.setTop (mkF m 24 #[.val (.int p1), .val (.int p2), .val (.int p3), .val (.int p4), .val (.int p5), .val (.int (2 : Int32)), .val (.ref b1), .unset, .unset] [(.int (p2.toInt8.toInt32)), (.int (0 : Int32)), (.ref b1)])) _
    refine st3 _ ?_
    show Steps p.tables e below (T3.setTop (mkF m 25 #[.val (.int p1), .val (.int p2), .val (.int p3), .val (.int p4), .val (.int p5), .val (.int (2 : Int32)), .val (.ref b1), .unset, .unset] [])) _
    refine XS.iload X3.here hx rfl (hb hby at_25) rfl ?_
    show Steps p.tables e below (T3.setTop (mkF m 27 #[.val (.int p1), .val (.int p2), .val (.int p3), .val (.int p4), .val (.int p5), .val (.int (2 : Int32)), .val (.ref b1), .unset, .unset] [(.int (2 : Int32))])) _
    refine XS.iconst X3.here hx rfl (hb hby at_27) ?_
    show Steps p.tables e below (T3.setTop (mkF m 28 #[.val (.int p1), .val (.int p2), .val (.int p3), .val (.int p4), .val (.int p5), .val (.int (2 : Int32)), .val (.ref b1), .unset, .unset] [(.int (1 : Int32)), (.int (2 : Int32))])) _
    refine XS.icmpNo X3.here hx rfl (hb hby at_28) rfl (tlt ((by decide) : (1 : Int32) < (2 : Int32))).2.2.2 ?_
    show Steps p.tables e below (T3.setTop (mkF m 31 #[.val (.int p1), .val (.int p2), .val (.int p3), .val (.int p4), .val (.int p5), .val (.int (2 : Int32)), .val (.ref b1), .unset, .unset] [])) _
    refine XS.aload X3.here hx rfl (hb hby at_31) rfl rfl ?_
    show Steps p.tables e below (T3.setTop (mkF m 33 #[.val (.int p1), .val (.int p2), .val (.int p3), .val (.int p4), .val (.int p5), .val (.int (2 : Int32)), .val (.ref b1), .unset, .unset] [(.ref b1)])) _
    refine XS.iconst X3.here hx rfl (hb hby at_33) ?_
    show Steps p.tables e below (T3.setTop (mkF m 34 #[.val (.int p1), .val (.int p2), .val (.int p3), .val (.int p4), .val (.int p5), .val (.int (2 : Int32)), .val (.ref b1), .unset, .unset] [(.int (1 : Int32)), (.ref b1)])) _
    refine XS.iloadN X3.here hx rfl (hb hby at_34) rfl ?_
    show Steps p.tables e below (T3.setTop (mkF m 35 #[.val (.int p1), .val (.int p2), .val (.int p3), .val (.int p4), .val (.int p5), .val (.int (2 : Int32)), .val (.ref b1), .unset, .unset] [(.int p3), (.int (1 : Int32)), (.ref b1)])) _
    refine XS.i2b X3.here hx rfl (hb hby at_35) rfl ?_
    show Steps p.tables e below (T3.setTop (mkF m 36 #[.val (.int p1), .val (.int p2), .val (.int p3), .val (.int p4), .val (.int p5), .val (.int (2 : Int32)), .val (.ref b1), .unset, .unset] [(.int (p3.toInt8.toInt32)), (.int (1 : Int32)), (.ref b1)])) _
    refine st5 _ ?_
    show Steps p.tables e below (T5.setTop (mkF m 37 #[.val (.int p1), .val (.int p2), .val (.int p3), .val (.int p4), .val (.int p5), .val (.int (2 : Int32)), .val (.ref b1), .unset, .unset] [])) _
    refine XS.iload X5.here hx rfl (hb hby at_37) rfl ?_
    show Steps p.tables e below (T5.setTop (mkF m 39 #[.val (.int p1), .val (.int p2), .val (.int p3), .val (.int p4), .val (.int p5), .val (.int (2 : Int32)), .val (.ref b1), .unset, .unset] [(.int (2 : Int32))])) _
    refine XS.iconst X5.here hx rfl (hb hby at_39) ?_
    show Steps p.tables e below (T5.setTop (mkF m 40 #[.val (.int p1), .val (.int p2), .val (.int p3), .val (.int p4), .val (.int p5), .val (.int (2 : Int32)), .val (.ref b1), .unset, .unset] [(.int (2 : Int32)), (.int (2 : Int32))])) _
    refine XS.icmpYes X5.here hx rfl (pc0 := 40) (pc' := 49) rfl (hb hby at_40) rfl (flt ((by decide) : ¬ ((2 : Int32) < (2 : Int32)))).2.2.2 (by decide) (by decide) ?_
    show Steps p.tables e below (T5.setTop (mkF m 49 #[.val (.int p1), .val (.int p2), .val (.int p3), .val (.int p4), .val (.int p5), .val (.int (2 : Int32)), .val (.ref b1), .unset, .unset] [])) _
    refine XS.iload X5.here hx rfl (hb hby at_49) rfl ?_
    show Steps p.tables e below (T5.setTop (mkF m 51 #[.val (.int p1), .val (.int p2), .val (.int p3), .val (.int p4), .val (.int p5), .val (.int (2 : Int32)), .val (.ref b1), .unset, .unset] [(.int (2 : Int32))])) _
    refine XS.iconst X5.here hx rfl (hb hby at_51) ?_
    show Steps p.tables e below (T5.setTop (mkF m 52 #[.val (.int p1), .val (.int p2), .val (.int p3), .val (.int p4), .val (.int p5), .val (.int (2 : Int32)), .val (.ref b1), .unset, .unset] [(.int (3 : Int32)), (.int (2 : Int32))])) _
    refine XS.icmpYes X5.here hx rfl (pc0 := 52) (pc' := 62) rfl (hb hby at_52) rfl (flt ((by decide) : ¬ ((3 : Int32) < (2 : Int32)))).2.2.2 (by decide) (by decide) ?_
    show Steps p.tables e below (T5.setTop (mkF m 62 #[.val (.int p1), .val (.int p2), .val (.int p3), .val (.int p4), .val (.int p5), .val (.int (2 : Int32)), .val (.ref b1), .unset, .unset] [])) _
    refine XS.aload X5.here hx rfl (hb hby at_62) rfl rfl ?_
    show Steps p.tables e below (T5.setTop (mkF m 64 #[.val (.int p1), .val (.int p2), .val (.int p3), .val (.int p4), .val (.int p5), .val (.int (2 : Int32)), .val (.ref b1), .unset, .unset] [(.ref b1)])) _
    refine st6 _ ?_
    show Steps p.tables e below (T6.setTop (mkF m 67 #[.val (.int p1), .val (.int p2), .val (.int p3), .val (.int p4), .val (.int p5), .val (.int (2 : Int32)), .val (.ref b1), .unset, .unset] [(.ref b6_b1)])) _
    refine XS.astore X6.here hx rfl (hb hby at_67) rfl rfl (l' := #[.val (.int p1), .val (.int p2), .val (.int p3), .val (.int p4), .val (.int p5), .val (.int (2 : Int32)), .val (.ref b1), .val (.ref b6_b1), .unset]) rfl ?_
    show Steps p.tables e below (T6.setTop (mkF m 69 #[.val (.int p1), .val (.int p2), .val (.int p3), .val (.int p4), .val (.int p5), .val (.int (2 : Int32)), .val (.ref b1), .val (.ref b6_b1), .unset] [])) _
    refine XS.iload X6.here hx rfl (hb hby at_69) rfl ?_
    show Steps p.tables e below (T6.setTop (mkF m 71 #[.val (.int p1), .val (.int p2), .val (.int p3), .val (.int p4), .val (.int p5), .val (.int (2 : Int32)), .val (.ref b1), .val (.ref b6_b1), .unset] [(.int (2 : Int32))])) _
    refine XS.ifNo X6.here hx rfl (hb hby at_71) rfl ((if0 _ _).trans (tlt ((by decide) : (0 : Int32) < (2 : Int32))).2.2.2) ?_
    show Steps p.tables e below (T6.setTop (mkF m 74 #[.val (.int p1), .val (.int p2), .val (.int p3), .val (.int p4), .val (.int p5), .val (.int (2 : Int32)), .val (.ref b1), .val (.ref b6_b1), .unset] [])) _
    refine XS.aload X6.here hx rfl (hb hby at_74) rfl rfl ?_
    show Steps p.tables e below (T6.setTop (mkF m 76 #[.val (.int p1), .val (.int p2), .val (.int p3), .val (.int p4), .val (.int p5), .val (.int (2 : Int32)), .val (.ref b1), .val (.ref b6_b1), .unset] [(.ref b1)])) _
    refine XS.iconst X6.here hx rfl (hb hby at_76) ?_
    show Steps p.tables e below (T6.setTop (mkF m 77 #[.val (.int p1), .val (.int p2), .val (.int p3), .val (.int p4), .val (.int p5), .val (.int (2 : Int32)), .val (.ref b1), .val (.ref b6_b1), .unset] [(.int (0 : Int32)), (.ref b1)])) _
    refine XS.aload X6.here hx rfl (hb hby at_77) rfl rfl ?_
    show Steps p.tables e below (T6.setTop (mkF m 79 #[.val (.int p1), .val (.int p2), .val (.int p3), .val (.int p4), .val (.int p5), .val (.int (2 : Int32)), .val (.ref b1), .val (.ref b6_b1), .unset] [(.ref b1), (.int (0 : Int32)), (.ref b1)])) _
    refine XS.iconst X6.here hx rfl (hb hby at_79) ?_
    show Steps p.tables e below (T6.setTop (mkF m 80 #[.val (.int p1), .val (.int p2), .val (.int p3), .val (.int p4), .val (.int p5), .val (.int (2 : Int32)), .val (.ref b1), .val (.ref b6_b1), .unset] [(.int (0 : Int32)), (.ref b1), (.int (0 : Int32)), (.ref b1)])) _
    refine X6.baloadBytes hx (j := (0 : Int32)) (v := (.int (p2.toInt8.toInt32))) Ar7.1 (State.isArrayOf_alike hZ.alike Ar7.2.1) Ar7.2.2 hin7 hat7 (g := (mkF m 80 #[.val (.int p1), .val (.int p2), .val (.int p3), .val (.int p4), .val (.int p5), .val (.int (2 : Int32)), .val (.ref b1), .val (.ref b6_b1), .unset] [(.int (0 : Int32)), (.ref b1), (.int (0 : Int32)), (.ref b1)])) rfl rfl (hb hby at_80) _ ?_
    show Steps p.tables e below (T6.setTop (mkF m 81 #[.val (.int p1), .val (.int p2), .val (.int p3), .val (.int p4), .val (.int p5), .val (.int (2 : Int32)), .val (.ref b1), .val (.ref b6_b1), .unset] [(.int (p2.toInt8.toInt32)), (.int (0 : Int32)), (.ref b1)])) _
    refine XS.iconst X6.here hx rfl (hb hby at_81) ?_
    show Steps p.tables e below (T6.setTop (mkF m 82 #[.val (.int p1), .val (.int p2), .val (.int p3), .val (.int p4), .val (.int p5), .val (.int (2 : Int32)), .val (.ref b1), .val (.ref b6_b1), .unset] [(.int (1 : Int32)), (.int (p2.toInt8.toInt32)), (.int (0 : Int32)), (.ref b1)])) _
    refine XS.ixor X6.here hx rfl (hb hby at_82) rfl ?_
    show Steps p.tables e below (T6.setTop (mkF m 83 #[.val (.int p1), .val (.int p2), .val (.int p3), .val (.int p4), .val (.int p5), .val (.int (2 : Int32)), .val (.ref b1), .val (.ref b6_b1), .unset] [(.int ((p2.toInt8.toInt32) ^^^ (1 : Int32))), (.int (0 : Int32)), (.ref b1)])) _
    refine XS.i2b X6.here hx rfl (hb hby at_83) rfl ?_
    show Steps p.tables e below (T6.setTop (mkF m 84 #[.val (.int p1), .val (.int p2), .val (.int p3), .val (.int p4), .val (.int p5), .val (.int (2 : Int32)), .val (.ref b1), .val (.ref b6_b1), .unset] [(.int (((p2.toInt8.toInt32) ^^^ (1 : Int32)).toInt8.toInt32)), (.int (0 : Int32)), (.ref b1)])) _
    refine st9 _ ?_
    show Steps p.tables e below (T9.setTop (mkF m 85 #[.val (.int p1), .val (.int p2), .val (.int p3), .val (.int p4), .val (.int p5), .val (.int (2 : Int32)), .val (.ref b1), .val (.ref b6_b1), .unset] [])) _
    refine XS.iload X9.here hx rfl (hb hby at_85) rfl ?_
    show Steps p.tables e below (T9.setTop (mkF m 87 #[.val (.int p1), .val (.int p2), .val (.int p3), .val (.int p4), .val (.int p5), .val (.int (2 : Int32)), .val (.ref b1), .val (.ref b6_b1), .unset] [(.int (2 : Int32))])) _
    refine XS.iconst X9.here hx rfl (hb hby at_87) ?_
    show Steps p.tables e below (T9.setTop (mkF m 88 #[.val (.int p1), .val (.int p2), .val (.int p3), .val (.int p4), .val (.int p5), .val (.int (2 : Int32)), .val (.ref b1), .val (.ref b6_b1), .unset] [(.int (1 : Int32)), (.int (2 : Int32))])) _
    refine XS.icmpNo X9.here hx rfl (hb hby at_88) rfl (tlt ((by decide) : (1 : Int32) < (2 : Int32))).2.2.2 ?_
    show Steps p.tables e below (T9.setTop (mkF m 91 #[.val (.int p1), .val (.int p2), .val (.int p3), .val (.int p4), .val (.int p5), .val (.int (2 : Int32)), .val (.ref b1), .val (.ref b6_b1), .unset] [])) _
    refine XS.aload X9.here hx rfl (hb hby at_91) rfl rfl ?_
    show Steps p.tables e below (T9.setTop (mkF m 93 #[.val (.int p1), .val (.int p2), .val (.int p3), .val (.int p4), .val (.int p5), .val (.int (2 : Int32)), .val (.ref b1), .val (.ref b6_b1), .unset] [(.ref b1)])) _
    refine XS.iconst X9.here hx rfl (hb hby at_93) ?_
    show Steps p.tables e below (T9.setTop (mkF m 94 #[.val (.int p1), .val (.int p2), .val (.int p3), .val (.int p4), .val (.int p5), .val (.int (2 : Int32)), .val (.ref b1), .val (.ref b6_b1), .unset] [(.int (1 : Int32)), (.ref b1)])) _
    refine XS.aload X9.here hx rfl (hb hby at_94) rfl rfl ?_
    show Steps p.tables e below (T9.setTop (mkF m 96 #[.val (.int p1), .val (.int p2), .val (.int p3), .val (.int p4), .val (.int p5), .val (.int (2 : Int32)), .val (.ref b1), .val (.ref b6_b1), .unset] [(.ref b1), (.int (1 : Int32)), (.ref b1)])) _
    refine XS.iconst X9.here hx rfl (hb hby at_96) ?_
    show Steps p.tables e below (T9.setTop (mkF m 97 #[.val (.int p1), .val (.int p2), .val (.int p3), .val (.int p4), .val (.int p5), .val (.int (2 : Int32)), .val (.ref b1), .val (.ref b6_b1), .unset] [(.int (1 : Int32)), (.ref b1), (.int (1 : Int32)), (.ref b1)])) _
    refine X9.baloadBytes hx (j := (1 : Int32)) (v := (.int (p3.toInt8.toInt32))) (by rw [e9]; exact Ar10.1) (State.isArrayOf_alike hZ.alike Ar10.2.1) Ar10.2.2 hin10 hat10 (g := (mkF m 97 #[.val (.int p1), .val (.int p2), .val (.int p3), .val (.int p4), .val (.int p5), .val (.int (2 : Int32)), .val (.ref b1), .val (.ref b6_b1), .unset] [(.int (1 : Int32)), (.ref b1), (.int (1 : Int32)), (.ref b1)])) rfl rfl (hb hby at_97) _ ?_
    show Steps p.tables e below (T9.setTop (mkF m 98 #[.val (.int p1), .val (.int p2), .val (.int p3), .val (.int p4), .val (.int p5), .val (.int (2 : Int32)), .val (.ref b1), .val (.ref b6_b1), .unset] [(.int (p3.toInt8.toInt32)), (.int (1 : Int32)), (.ref b1)])) _
    refine XS.iconst X9.here hx rfl (hb hby at_98) ?_
    show Steps p.tables e below (T9.setTop (mkF m 99 #[.val (.int p1), .val (.int p2), .val (.int p3), .val (.int p4), .val (.int p5), .val (.int (2 : Int32)), .val (.ref b1), .val (.ref b6_b1), .unset] [(.int (1 : Int32)), (.int (p3.toInt8.toInt32)), (.int (1 : Int32)), (.ref b1)])) _
    refine XS.ixor X9.here hx rfl (hb hby at_99) rfl ?_
    show Steps p.tables e below (T9.setTop (mkF m 100 #[.val (.int p1), .val (.int p2), .val (.int p3), .val (.int p4), .val (.int p5), .val (.int (2 : Int32)), .val (.ref b1), .val (.ref b6_b1), .unset] [(.int ((p3.toInt8.toInt32) ^^^ (1 : Int32))), (.int (1 : Int32)), (.ref b1)])) _
    refine XS.i2b X9.here hx rfl (hb hby at_100) rfl ?_
    show Steps p.tables e below (T9.setTop (mkF m 101 #[.val (.int p1), .val (.int p2), .val (.int p3), .val (.int p4), .val (.int p5), .val (.int (2 : Int32)), .val (.ref b1), .val (.ref b6_b1), .unset] [(.int (((p3.toInt8.toInt32) ^^^ (1 : Int32)).toInt8.toInt32)), (.int (1 : Int32)), (.ref b1)])) _
    refine st12 _ ?_
    show Steps p.tables e below (T12.setTop (mkF m 102 #[.val (.int p1), .val (.int p2), .val (.int p3), .val (.int p4), .val (.int p5), .val (.int (2 : Int32)), .val (.ref b1), .val (.ref b6_b1), .unset] [])) _
    refine XS.iload X12.here hx rfl (hb hby at_102) rfl ?_
    show Steps p.tables e below (T12.setTop (mkF m 104 #[.val (.int p1), .val (.int p2), .val (.int p3), .val (.int p4), .val (.int p5), .val (.int (2 : Int32)), .val (.ref b1), .val (.ref b6_b1), .unset] [(.int (2 : Int32))])) _
    refine XS.iconst X12.here hx rfl (hb hby at_104) ?_
    show Steps p.tables e below (T12.setTop (mkF m 105 #[.val (.int p1), .val (.int p2), .val (.int p3), .val (.int p4), .val (.int p5), .val (.int (2 : Int32)), .val (.ref b1), .val (.ref b6_b1), .unset] [(.int (2 : Int32)), (.int (2 : Int32))])) _
    refine XS.icmpYes X12.here hx rfl (pc0 := 105) (pc' := 119) rfl (hb hby at_105) rfl (flt ((by decide) : ¬ ((2 : Int32) < (2 : Int32)))).2.2.2 (by decide) (by decide) ?_
    show Steps p.tables e below (T12.setTop (mkF m 119 #[.val (.int p1), .val (.int p2), .val (.int p3), .val (.int p4), .val (.int p5), .val (.int (2 : Int32)), .val (.ref b1), .val (.ref b6_b1), .unset] [])) _
    refine XS.iload X12.here hx rfl (hb hby at_119) rfl ?_
    show Steps p.tables e below (T12.setTop (mkF m 121 #[.val (.int p1), .val (.int p2), .val (.int p3), .val (.int p4), .val (.int p5), .val (.int (2 : Int32)), .val (.ref b1), .val (.ref b6_b1), .unset] [(.int (2 : Int32))])) _
    refine XS.iconst X12.here hx rfl (hb hby at_121) ?_
    show Steps p.tables e below (T12.setTop (mkF m 122 #[.val (.int p1), .val (.int p2), .val (.int p3), .val (.int p4), .val (.int p5), .val (.int (2 : Int32)), .val (.ref b1), .val (.ref b6_b1), .unset] [(.int (3 : Int32)), (.int (2 : Int32))])) _
    refine XS.icmpYes X12.here hx rfl (pc0 := 122) (pc' := 136) rfl (hb hby at_122) rfl (flt ((by decide) : ¬ ((3 : Int32) < (2 : Int32)))).2.2.2 (by decide) (by decide) ?_
    show Steps p.tables e below (T12.setTop (mkF m 136 #[.val (.int p1), .val (.int p2), .val (.int p3), .val (.int p4), .val (.int p5), .val (.int (2 : Int32)), .val (.ref b1), .val (.ref b6_b1), .unset] [])) _
    refine XS.aload X12.here hx rfl (hb hby at_136) rfl rfl ?_
    show Steps p.tables e below (T12.setTop (mkF m 138 #[.val (.int p1), .val (.int p2), .val (.int p3), .val (.int p4), .val (.int p5), .val (.int (2 : Int32)), .val (.ref b1), .val (.ref b6_b1), .unset] [(.ref b6_b1)])) _
    refine st13.trans ?_
    show Steps p.tables e below (T13.setTop (mkF m 141 #[.val (.int p1), .val (.int p2), .val (.int p3), .val (.int p4), .val (.int p5), .val (.int (2 : Int32)), .val (.ref b1), .val (.ref b6_b1), .unset] [(.ref w_n0)])) _
    refine st14 _ ?_
    show Steps p.tables e below (T14.setTop (mkF m 144 #[.val (.int p1), .val (.int p2), .val (.int p3), .val (.int p4), .val (.int p5), .val (.int (2 : Int32)), .val (.ref b1), .val (.ref b6_b1), .unset] [(.ref w_n0), (.ref w_n0)])) _
    refine Jvm.RoadKit.acmp (g := (mkF m 144 #[.val (.int p1), .val (.int p2), .val (.int p3), .val (.int p4), .val (.int p5), .val (.int (2 : Int32)), .val (.ref b1), .val (.ref b6_b1), .unset] [(.ref w_n0), (.ref w_n0)])) X14 hx rfl rfl rfl (pc0 := 144) (pc' := 149) (same := true) rfl (hb hby at_144) rfl (decide_eq_true rfl) (by decide) (by decide) ?_
    show Steps p.tables e below (T14.setTop (mkF m 149 #[.val (.int p1), .val (.int p2), .val (.int p3), .val (.int p4), .val (.int p5), .val (.int (2 : Int32)), .val (.ref b1), .val (.ref b6_b1), .unset] [])) _
    refine XS.aload X14.here hx rfl (hb hby at_149) rfl rfl ?_
    show Steps p.tables e below (T14.setTop (mkF m 151 #[.val (.int p1), .val (.int p2), .val (.int p3), .val (.int p4), .val (.int p5), .val (.int (2 : Int32)), .val (.ref b1), .val (.ref b6_b1), .unset] [(.ref b6_b1)])) _
    refine st15.trans ?_
    show Steps p.tables e below (T15.setTop (mkF m 154 #[.val (.int p1), .val (.int p2), .val (.int p3), .val (.int p4), .val (.int p5), .val (.int (2 : Int32)), .val (.ref b1), .val (.ref b6_b1), .unset] [(.ref b15_b4)])) _
    refine XS.astore X15.here hx rfl (hb hby at_154) rfl rfl (l' := #[.val (.int p1), .val (.int p2), .val (.int p3), .val (.int p4), .val (.int p5), .val (.int (2 : Int32)), .val (.ref b1), .val (.ref b6_b1), .val (.ref b15_b4)]) rfl ?_
    show Steps p.tables e below (T15.setTop (mkF m 156 #[.val (.int p1), .val (.int p2), .val (.int p3), .val (.int p4), .val (.int p5), .val (.int (2 : Int32)), .val (.ref b1), .val (.ref b6_b1), .val (.ref b15_b4)] [])) _
    refine XS.aload X15.here hx rfl (hb hby at_156) rfl rfl ?_
    show Steps p.tables e below (T15.setTop (mkF m 158 #[.val (.int p1), .val (.int p2), .val (.int p3), .val (.int p4), .val (.int p5), .val (.int (2 : Int32)), .val (.ref b1), .val (.ref b6_b1), .val (.ref b15_b4)] [(.ref b15_b4)])) _
    refine X15.arraylength hx Ar16.1 (State.isArrayOf_alike hZ.alike Ar16.2.1) (g := (mkF m 158 #[.val (.int p1), .val (.int p2), .val (.int p3), .val (.int p4), .val (.int p5), .val (.int (2 : Int32)), .val (.ref b1), .val (.ref b6_b1), .val (.ref b15_b4)] [(.ref b15_b4)])) rfl rfl (hb hby at_158) _ ?_
    rw [len_of Sz16 Nz16]
    show Steps p.tables e below (T15.setTop (mkF m 159 #[.val (.int p1), .val (.int p2), .val (.int p3), .val (.int p4), .val (.int p5), .val (.int (2 : Int32)), .val (.ref b1), .val (.ref b6_b1), .val (.ref b15_b4)] [(.int (2 : Int32))])) _
    refine XS.iload X15.here hx rfl (hb hby at_159) rfl ?_
    show Steps p.tables e below (T15.setTop (mkF m 161 #[.val (.int p1), .val (.int p2), .val (.int p3), .val (.int p4), .val (.int p5), .val (.int (2 : Int32)), .val (.ref b1), .val (.ref b6_b1), .val (.ref b15_b4)] [(.int (2 : Int32)), (.int (2 : Int32))])) _
    refine XS.icmpYes X15.here hx rfl (pc0 := 161) (pc' := 166) rfl (hb hby at_161) rfl (teq ((by decide) : (2 : Int32) = (2 : Int32))).1 (by decide) (by decide) ?_
    show Steps p.tables e below (T15.setTop (mkF m 166 #[.val (.int p1), .val (.int p2), .val (.int p3), .val (.int p4), .val (.int p5), .val (.int (2 : Int32)), .val (.ref b1), .val (.ref b6_b1), .val (.ref b15_b4)] [])) _
    refine XS.aload X15.here hx rfl (hb hby at_166) rfl rfl ?_
    show Steps p.tables e below (T15.setTop (mkF m 168 #[.val (.int p1), .val (.int p2), .val (.int p3), .val (.int p4), .val (.int p5), .val (.int (2 : Int32)), .val (.ref b1), .val (.ref b6_b1), .val (.ref b15_b4)] [(.ref b15_b4)])) _
    refine XS.iconst X15.here hx rfl (hb hby at_168) ?_
    show Steps p.tables e below (T15.setTop (mkF m 169 #[.val (.int p1), .val (.int p2), .val (.int p3), .val (.int p4), .val (.int p5), .val (.int (2 : Int32)), .val (.ref b1), .val (.ref b6_b1), .val (.ref b15_b4)] [(.int (0 : Int32)), (.ref b15_b4)])) _
    refine XS.iloadN X15.here hx rfl (hb hby at_169) rfl ?_
    show Steps p.tables e below (T15.setTop (mkF m 170 #[.val (.int p1), .val (.int p2), .val (.int p3), .val (.int p4), .val (.int p5), .val (.int (2 : Int32)), .val (.ref b1), .val (.ref b6_b1), .val (.ref b15_b4)] [(.int p2), (.int (0 : Int32)), (.ref b15_b4)])) _
    refine st17 _ ?_
    show Steps p.tables e below (T17.setTop (mkF m 173 #[.val (.int p1), .val (.int p2), .val (.int p3), .val (.int p4), .val (.int p5), .val (.int (2 : Int32)), .val (.ref b1), .val (.ref b6_b1), .val (.ref b15_b4)] [(.int (1 : Int32))])) _
    refine XS.ifNo X17.here hx rfl (hb hby at_173) rfl ((if0 _ _).trans (feq ((by decide) : ¬ ((1 : Int32) = (0 : Int32)))).1) ?_
    show Steps p.tables e below (T17.setTop (mkF m 176 #[.val (.int p1), .val (.int p2), .val (.int p3), .val (.int p4), .val (.int p5), .val (.int (2 : Int32)), .val (.ref b1), .val (.ref b6_b1), .val (.ref b15_b4)] [])) _
    refine XS.aload X17.here hx rfl (hb hby at_176) rfl rfl ?_
    show Steps p.tables e below (T17.setTop (mkF m 178 #[.val (.int p1), .val (.int p2), .val (.int p3), .val (.int p4), .val (.int p5), .val (.int (2 : Int32)), .val (.ref b1), .val (.ref b6_b1), .val (.ref b15_b4)] [(.ref b15_b4)])) _
    refine XS.iconst X17.here hx rfl (hb hby at_178) ?_
    show Steps p.tables e below (T17.setTop (mkF m 179 #[.val (.int p1), .val (.int p2), .val (.int p3), .val (.int p4), .val (.int p5), .val (.int (2 : Int32)), .val (.ref b1), .val (.ref b6_b1), .val (.ref b15_b4)] [(.int (1 : Int32)), (.ref b15_b4)])) _
    refine XS.iloadN X17.here hx rfl (hb hby at_179) rfl ?_
    show Steps p.tables e below (T17.setTop (mkF m 180 #[.val (.int p1), .val (.int p2), .val (.int p3), .val (.int p4), .val (.int p5), .val (.int (2 : Int32)), .val (.ref b1), .val (.ref b6_b1), .val (.ref b15_b4)] [(.int p3), (.int (1 : Int32)), (.ref b15_b4)])) _
    refine st18 _ ?_
    show Steps p.tables e below (T18.setTop (mkF m 183 #[.val (.int p1), .val (.int p2), .val (.int p3), .val (.int p4), .val (.int p5), .val (.int (2 : Int32)), .val (.ref b1), .val (.ref b6_b1), .val (.ref b15_b4)] [(.int (1 : Int32))])) _
    refine XS.ifNo X18.here hx rfl (hb hby at_183) rfl ((if0 _ _).trans (feq ((by decide) : ¬ ((1 : Int32) = (0 : Int32)))).1) ?_
    show Steps p.tables e below (T18.setTop (mkF m 186 #[.val (.int p1), .val (.int p2), .val (.int p3), .val (.int p4), .val (.int p5), .val (.int (2 : Int32)), .val (.ref b1), .val (.ref b6_b1), .val (.ref b15_b4)] [])) _
    refine XS.aload X18.here hx rfl (hb hby at_186) rfl rfl ?_
    show Steps p.tables e below (T18.setTop (mkF m 188 #[.val (.int p1), .val (.int p2), .val (.int p3), .val (.int p4), .val (.int p5), .val (.int (2 : Int32)), .val (.ref b1), .val (.ref b6_b1), .val (.ref b15_b4)] [(.ref b15_b4)])) _
    refine XS.iconst X18.here hx rfl (hb hby at_188) ?_
    show Steps p.tables e below (T18.setTop (mkF m 189 #[.val (.int p1), .val (.int p2), .val (.int p3), .val (.int p4), .val (.int p5), .val (.int (2 : Int32)), .val (.ref b1), .val (.ref b6_b1), .val (.ref b15_b4)] [(.int (2 : Int32)), (.ref b15_b4)])) _
    refine XS.iloadN X18.here hx rfl (hb hby at_189) rfl ?_
    show Steps p.tables e below (T18.setTop (mkF m 190 #[.val (.int p1), .val (.int p2), .val (.int p3), .val (.int p4), .val (.int p5), .val (.int (2 : Int32)), .val (.ref b1), .val (.ref b6_b1), .val (.ref b15_b4)] [(.int p4), (.int (2 : Int32)), (.ref b15_b4)])) _
    refine st19 _ ?_
    show Steps p.tables e below (T19.setTop (mkF m 193 #[.val (.int p1), .val (.int p2), .val (.int p3), .val (.int p4), .val (.int p5), .val (.int (2 : Int32)), .val (.ref b1), .val (.ref b6_b1), .val (.ref b15_b4)] [(.int (1 : Int32))])) _
    refine XS.ifNo X19.here hx rfl (hb hby at_193) rfl ((if0 _ _).trans (feq ((by decide) : ¬ ((1 : Int32) = (0 : Int32)))).1) ?_
    show Steps p.tables e below (T19.setTop (mkF m 196 #[.val (.int p1), .val (.int p2), .val (.int p3), .val (.int p4), .val (.int p5), .val (.int (2 : Int32)), .val (.ref b1), .val (.ref b6_b1), .val (.ref b15_b4)] [])) _
    refine XS.aload X19.here hx rfl (hb hby at_196) rfl rfl ?_
    show Steps p.tables e below (T19.setTop (mkF m 198 #[.val (.int p1), .val (.int p2), .val (.int p3), .val (.int p4), .val (.int p5), .val (.int (2 : Int32)), .val (.ref b1), .val (.ref b6_b1), .val (.ref b15_b4)] [(.ref b15_b4)])) _
    refine XS.iconst X19.here hx rfl (hb hby at_198) ?_
    show Steps p.tables e below (T19.setTop (mkF m 199 #[.val (.int p1), .val (.int p2), .val (.int p3), .val (.int p4), .val (.int p5), .val (.int (2 : Int32)), .val (.ref b1), .val (.ref b6_b1), .val (.ref b15_b4)] [(.int (3 : Int32)), (.ref b15_b4)])) _
    refine XS.iload X19.here hx rfl (hb hby at_199) rfl ?_
    show Steps p.tables e below (T19.setTop (mkF m 201 #[.val (.int p1), .val (.int p2), .val (.int p3), .val (.int p4), .val (.int p5), .val (.int (2 : Int32)), .val (.ref b1), .val (.ref b6_b1), .val (.ref b15_b4)] [(.int p5), (.int (3 : Int32)), (.ref b15_b4)])) _
    refine st20 _ ?_
    show Steps p.tables e below (T20.setTop (mkF m 204 #[.val (.int p1), .val (.int p2), .val (.int p3), .val (.int p4), .val (.int p5), .val (.int (2 : Int32)), .val (.ref b1), .val (.ref b6_b1), .val (.ref b15_b4)] [(.int (1 : Int32))])) _
    refine XS.ifNo X20.here hx rfl (hb hby at_204) rfl ((if0 _ _).trans (feq ((by decide) : ¬ ((1 : Int32) = (0 : Int32)))).1) ?_
    show Steps p.tables e below (T20.setTop (mkF m 207 #[.val (.int p1), .val (.int p2), .val (.int p3), .val (.int p4), .val (.int p5), .val (.int (2 : Int32)), .val (.ref b1), .val (.ref b6_b1), .val (.ref b15_b4)] [])) _
    refine XS.iconst X20.here hx rfl (hb hby at_207) ?_
    show Steps p.tables e below (T20.setTop (mkF m 208 #[.val (.int p1), .val (.int p2), .val (.int p3), .val (.int p4), .val (.int p5), .val (.int (2 : Int32)), .val (.ref b1), .val (.ref b6_b1), .val (.ref b15_b4)] [(.int (1 : Int32))])) _
    refine XS.goto X20.here hx rfl (pc0 := 208) (pc' := 212) rfl (hb hby at_208) (by decide) (by decide) ?_
    show Steps p.tables e below (T20.setTop (mkF m 212 #[.val (.int p1), .val (.int p2), .val (.int p3), .val (.int p4), .val (.int p5), .val (.int (2 : Int32)), .val (.ref b1), .val (.ref b6_b1), .val (.ref b15_b4)] [(.int (1 : Int32))])) _
    exact retN X20 hx (t := .boolean) Bd.returns (by simp) (hb hby at_212) hr
  · show Q0 n0 _ T20.heap _
    rw [e20]
    exact ⟨rfl, N20⟩
set_option maxRecDepth 65536 in
set_option maxHeartbeats 40000000 in
theorem rm0_3 (l : Launch) (Z : State) (a0 : Array Value) (hw : ∀ d ∈ tables_1, d.before a0 Z = true) (ws : List Jvm.Cond) {w_n0 : Addr} (W : Wd Z w_n0) (p1 : Int32) (p2 : Int32) (p3 : Int32) (p4 : Int32) (p5 : Int32) (h0 : Heap) (n0 : Nat) (O0 : Old Z n0 h0) (hk : ((p1 &&& (7 : Int32)) % (5 : Int32)) = (3 : Int32)) :
    MetFree l x (head1 (Jvm.Cond.code x code maxLocals ret :: ws) room_1) (fun a U => a = #[(.int p1), (.int p2), (.int p3), (.int p4), (.int p5)] ∧ Z.Warmed39 U.vm ∧ U.heap = h0) (fun _ _ _ _ _ => True) (fun _ U o U' => ∃ v L, o = .returned v ∧ Q0 n0 v U'.heap L ∧ FrameEnd U o U' L room_1.cells room_1.slots) := by
  have W' := W; obtain ⟨S_n0, E_n0⟩ := W'
  refine MetFree.of_bodySF (plainFor_of_name pn_0) hisR ?_
  intro p e s m args below meth c s₁ Bd hml0 hP hK
  obtain ⟨rfl, hZ, hh⟩ := hP
  have hx := Bd.exec
  have hby := Bd.bytes
  have hml : c.maxLocals = 9 := hml0
  have hown : s.vm.findClass "com/example/keyfold/keyfold/client/ValueOfBinaryPinLaw" = some m.cls := findClass_of_methodNamed Bd.named
  have hnm := (name_of_methodNamed Bd.named Bd.method).1
  have X0 : Stand p l e room_1 s m #[(.int p1), (.int p2), (.int p3), (.int p4), (.int p5)] below meth c s₁ [] 0 0 := Stand.of_body Bd
  have e0 : s₁.heap = h0 := by rw [← hh, Bd.state]; rfl
  have N0 := Fr.nil n0
  have pre0 : ∀ t, Steps p.tables e below (s₁.setTop (mkF m 0 #[.val (.int p1), .val (.int p2), .val (.int p3), .val (.int p4), .val (.int p5), .unset, .unset, .unset, .unset] [])) t → Steps p.tables e below (s₁.setTop (entryFrame m #[(.int p1), (.int p2), (.int p3), (.int p4), (.int p5)] maxLocals)) t := fun t k => castTop (ef_0_6 m p1 p2 p3 p4 p5) k
  obtain ⟨T1, h1, k1, X1, e1, E1, A1, B1, st1⟩ := newPE X0 hx hZ (hw _ (List.mem_of_getElem? (i := 0) rfl)) e0 (g := (mkF m 10 #[.val (.int p1), .val (.int p2), .val (.int p3), .val (.int p4), .val (.int p5), .val (.int (3 : Int32)), .unset, .unset, .unset] [(.int (3 : Int32))])) rfl (hb hby at_10) rfl (by decide) (cap := 3) (by decide) (by decide) (by decide) (by decide) (ad := "[B") (by decide)
  obtain ⟨b1, g1⟩ : ∃ z, z = h0.size := ⟨_, rfl⟩
  rw [← g1] at A1 B1 st1
  have g_b1 : n0 ≤ b1 := by rw [g1]; exact O0.1 ▸ O0.2.1
  have O1 := O0.ext E1
  have fv1 : Arv Z h1 b1 k1 .byte (3 : Int32) [(.int (0 : Int32)), (.int (0 : Int32)), (.int (0 : Int32))] (.int (0 : Int32)) := (Arv.new A1 (by decide)).pad (pad_rep [] (.int (0 : Int32)) 3)
  obtain ⟨cl2, Ar2, qk2, Sz2, Nz2, Hs2, Gs2⟩ := id fv1
  have hin2 : ¬ ((0 : Int32) < 0 ∨ cl2.slots.size ≤ ((0 : Int32)).toNatClampNeg) := inb_of Sz2 ⟨by decide, by decide⟩
  obtain ⟨T3, h3, X3, e3, W3, st3⟩ := stB X1 hx hZ e1 Ar2 (j := (0 : Int32)) hin2  (g := (mkF m 24 #[.val (.int p1), .val (.int p2), .val (.int p3), .val (.int p4), .val (.int p5), .val (.int (3 : Int32)), .val (.ref b1), .unset, .unset] [(.int (p2.toInt8.toInt32)), (.int (0 : Int32)), (.ref b1)])) rfl rfl (hb hby at_24)
  rw [show nar .byte (p2.toInt8.toInt32) = (p2.toInt8.toInt32) from own_byte _] at W3
  have fw3 : Arv Z h3 b1 k1 .byte (3 : Int32) [(.int (p2.toInt8.toInt32)), (.int (0 : Int32)), (.int (0 : Int32))] (.int (0 : Int32)) := Arv.set Ar2 qk2 Sz2 Nz2 Hs2 Gs2 (fits_nar_byte _) W3 0 rfl (Nat.le_of_ble_eq_true rfl)
  have f3_0 : Exa Z h3 b1 "[B" := (B1).wr W3
  have O3 := O1.wr W3 g_b1
  have N3 := Fr.snoc X3 N0 g_b1
  obtain ⟨cl4, Ar4, qk4, Sz4, Nz4, Hs4, Gs4⟩ := id fw3
  have hin4 : ¬ ((1 : Int32) < 0 ∨ cl4.slots.size ≤ ((1 : Int32)).toNatClampNeg) := inb_of Sz4 ⟨by decide, by decide⟩
  obtain ⟨T5, h5, X5, e5, W5, st5⟩ := stB X3 hx hZ e3 Ar4 (j := (1 : Int32)) hin4  (g := (mkF m 36 #[.val (.int p1), .val (.int p2), .val (.int p3), .val (.int p4), .val (.int p5), .val (.int (3 : Int32)), .val (.ref b1), .unset, .unset] [(.int (p3.toInt8.toInt32)), (.int (1 : Int32)), (.ref b1)])) rfl rfl (hb hby at_36)
  rw [show nar .byte (p3.toInt8.toInt32) = (p3.toInt8.toInt32) from own_byte _] at W5
  have fw5 : Arv Z h5 b1 k1 .byte (3 : Int32) [(.int (p2.toInt8.toInt32)), (.int (p3.toInt8.toInt32)), (.int (0 : Int32))] (.int (0 : Int32)) := Arv.set Ar4 qk4 Sz4 Nz4 Hs4 Gs4 (fits_nar_byte _) W5 1 rfl (Nat.le_of_ble_eq_true rfl)
  have f5_0 : Exa Z h5 b1 "[B" := (f3_0).wr W5
  have O5 := O3.wr W5 g_b1
  have N5 := Fr.snoc X5 N3 g_b1
  obtain ⟨cl6, Ar6, qk6, Sz6, Nz6, Hs6, Gs6⟩ := id fw5
  have hin6 : ¬ ((2 : Int32) < 0 ∨ cl6.slots.size ≤ ((2 : Int32)).toNatClampNeg) := inb_of Sz6 ⟨by decide, by decide⟩
  obtain ⟨T7, h7, X7, e7, W7, st7⟩ := stB X5 hx hZ e5 Ar6 (j := (2 : Int32)) hin6  (g := (mkF m 48 #[.val (.int p1), .val (.int p2), .val (.int p3), .val (.int p4), .val (.int p5), .val (.int (3 : Int32)), .val (.ref b1), .unset, .unset] [(.int (p4.toInt8.toInt32)), (.int (2 : Int32)), (.ref b1)])) rfl rfl (hb hby at_48)
  rw [show nar .byte (p4.toInt8.toInt32) = (p4.toInt8.toInt32) from own_byte _] at W7
  have fw7 : Arv Z h7 b1 k1 .byte (3 : Int32) [(.int (p2.toInt8.toInt32)), (.int (p3.toInt8.toInt32)), (.int (p4.toInt8.toInt32))] (.int (0 : Int32)) := Arv.set Ar6 qk6 Sz6 Nz6 Hs6 Gs6 (fits_nar_byte _) W7 2 rfl (Nat.le_of_ble_eq_true rfl)
  have f7_0 : Exa Z h7 b1 "[B" := (f5_0).wr W7
  have O7 := O5.wr W7 g_b1
  have N7 := Fr.snoc X7 N5 g_b1
  obtain ⟨_, _, ⟨T8, L8, k8, n8⟩, -, X8, ⟨Lc8, hQ8, l8, y8, z8⟩, st8⟩ := Jvm.LawKit.callS X7 hx (y := (⟨"com/example/keyfold/keyfold/client/Value", "ofBinary", "([B)Lcom/example/keyfold/keyfold/client/Value;"⟩ : MethodName)) hown (mvT hZ (hw _ (List.mem_of_getElem? (i := 1) rfl))) (mvT hZ (hw _ (List.mem_of_getElem? (i := 2) rfl))) (mvT hZ (hw _ (List.mem_of_getElem? (i := 3) rfl))) (mvT hZ (hw _ (List.mem_of_getElem? (i := 4) rfl))) (by decide) (backOf (W := 0) (rm1_3 l Z a0 hw [] W b1 k1 (p2.toInt8.toInt32) (p3.toInt8.toInt32) (p4.toInt8.toInt32) h7 n0 O7 g_b1 f7_0 fw7) hZ (hw _ (List.mem_of_getElem? (i := 4) rfl)) (hw _ (List.mem_of_getElem? (i := 3) rfl)) (by decide) (by decide)) (g := (mkF m 64 #[.val (.int p1), .val (.int p2), .val (.int p3), .val (.int p4), .val (.int p5), .val (.int (3 : Int32)), .val (.ref b1), .unset, .unset] [(.ref b1)])) rfl (by rw [hml]; rfl) (argsL := [(.ref b1)]) (rest := []) (lenOf pd_2 rfl) rfl (by show 2 * 0 + _ ≤ _; exact Nat.le_of_eq rfl) (hb hby at_64) (fun _ _ => ⟨rfl, e7, (by decide : 1 + 2 ≤ _), (by decide : 3 + 5 ≤ _)⟩)
  dsimp only [Pt.U, Pt.locs, Pt.cells, Pt.slots] at X8 l8 y8 z8 st8 hQ8
  subst l8 y8 z8
  obtain ⟨N8q, hP8⟩ := hQ8
  have N8 := Fr.app N7 N8q
  obtain ⟨b8_b1, b8_b3, rfl, Kp8, g_b8_b1, si_b8_b1, g_b8_b3, si_b8_b3, fp8_0, fp8_1, fp8_2, fp8_3, fp8_4⟩ := hP8
  have f8_0 : Exa Z T8.heap b1 "[B" := (f7_0).keep Kp8
  have f8_1 : Arv Z T8.heap b1 k1 .byte (3 : Int32) [(.int (p2.toInt8.toInt32)), (.int (p3.toInt8.toInt32)), (.int (p4.toInt8.toInt32))] (.int (0 : Int32)) := (fw7).keep Kp8 nin0
  have O8 := O7.keep Kp8 all0
  obtain ⟨cl9, Ar9, qk9, Sz9, Nz9, Hs9, Gs9⟩ := id f8_1
  have hin9 : ¬ ((0 : Int32) < 0 ∨ cl9.slots.size ≤ ((0 : Int32)).toNatClampNeg) := inb_of Sz9 ⟨by decide, by decide⟩
  have hat9 : cl9.slots[((0 : Int32)).toNatClampNeg]? = some (.int (p2.toInt8.toInt32)) := Has.at Hs9 hin9 rfl
  obtain ⟨cl10, Ar10, qk10, Sz10, Nz10, Hs10, Gs10⟩ := id f8_1
  have hin10 : ¬ ((0 : Int32) < 0 ∨ cl10.slots.size ≤ ((0 : Int32)).toNatClampNeg) := inb_of Sz10 ⟨by decide, by decide⟩
  obtain ⟨T11, h11, X11, e11, W11, st11⟩ := stB X8 hx hZ rfl Ar10 (j := (0 : Int32)) hin10  (g := (mkF m 84 #[.val (.int p1), .val (.int p2), .val (.int p3), .val (.int p4), .val (.int p5), .val (.int (3 : Int32)), .val (.ref b1), .val (.ref b8_b1), .unset] [(.int (((p2.toInt8.toInt32) ^^^ (1 : Int32)).toInt8.toInt32)), (.int (0 : Int32)), (.ref b1)])) rfl rfl (hb hby at_84)
  rw [show nar .byte (((p2.toInt8.toInt32) ^^^ (1 : Int32)).toInt8.toInt32) = (((p2.toInt8.toInt32) ^^^ (1 : Int32)).toInt8.toInt32) from own_byte _] at W11
  have fw11 : Arv Z h11 b1 k1 .byte (3 : Int32) [(.int (((p2.toInt8.toInt32) ^^^ (1 : Int32)).toInt8.toInt32)), (.int (p3.toInt8.toInt32)), (.int (p4.toInt8.toInt32))] (.int (0 : Int32)) := Arv.set Ar10 qk10 Sz10 Nz10 Hs10 Gs10 (fits_nar_byte _) W11 0 rfl (Nat.le_of_ble_eq_true rfl)
  have f11_0 : Exa Z h11 b1 "[B" := (f8_0).wr W11
  have f11_1 : Exa Z h11 b8_b1 "com/example/keyfold/keyfold/client/Value" := (fp8_0).wr W11
  have f11_2 : Fld Z h11 b8_b1 "com/example/keyfold/keyfold/client/Value" "type" "Lcom/example/keyfold/keyfold/client/ValueType;" (.ref w_n0) := (fp8_1).other W11 (Or.inl (ne_exa fp8_0 f8_0 (by decide)))
  have f11_3 : Fld Z h11 b8_b1 "com/example/keyfold/keyfold/client/Value" "content" "Ljava/lang/Object;" (.ref b8_b3) := (fp8_2).other W11 (Or.inl (ne_exa fp8_0 f8_0 (by decide)))
  have f11_4 : Exa Z h11 b8_b3 "[B" := (fp8_3).wr W11
  have f11_5 : Arv Z h11 b8_b3 k1 .byte (3 : Int32) [(.int (p2.toInt8.toInt32)), (.int (p3.toInt8.toInt32)), (.int (p4.toInt8.toInt32))] (.int (0 : Int32)) := (fp8_4).other W11 (Ne.symm (Nat.ne_of_lt (Nat.lt_of_lt_of_le (f7_0).lt si_b8_b3)))
  have O11 := O8.wr W11 g_b1
  have N11 := Fr.snoc X11 N8 g_b1
  obtain ⟨cl12, Ar12, qk12, Sz12, Nz12, Hs12, Gs12⟩ := id fw11
  have hin12 : ¬ ((1 : Int32) < 0 ∨ cl12.slots.size ≤ ((1 : Int32)).toNatClampNeg) := inb_of Sz12 ⟨by decide, by decide⟩
  have hat12 : cl12.slots[((1 : Int32)).toNatClampNeg]? = some (.int (p3.toInt8.toInt32)) := Has.at Hs12 hin12 rfl
  obtain ⟨cl13, Ar13, qk13, Sz13, Nz13, Hs13, Gs13⟩ := id fw11
  have hin13 : ¬ ((1 : Int32) < 0 ∨ cl13.slots.size ≤ ((1 : Int32)).toNatClampNeg) := inb_of Sz13 ⟨by decide, by decide⟩
  obtain ⟨T14, h14, X14, e14, W14, st14⟩ := stB X11 hx hZ e11 Ar13 (j := (1 : Int32)) hin13  (g := (mkF m 101 #[.val (.int p1), .val (.int p2), .val (.int p3), .val (.int p4), .val (.int p5), .val (.int (3 : Int32)), .val (.ref b1), .val (.ref b8_b1), .unset] [(.int (((p3.toInt8.toInt32) ^^^ (1 : Int32)).toInt8.toInt32)), (.int (1 : Int32)), (.ref b1)])) rfl rfl (hb hby at_101)
  rw [show nar .byte (((p3.toInt8.toInt32) ^^^ (1 : Int32)).toInt8.toInt32) = (((p3.toInt8.toInt32) ^^^ (1 : Int32)).toInt8.toInt32) from own_byte _] at W14
  have fw14 : Arv Z h14 b1 k1 .byte (3 : Int32) [(.int (((p2.toInt8.toInt32) ^^^ (1 : Int32)).toInt8.toInt32)), (.int (((p3.toInt8.toInt32) ^^^ (1 : Int32)).toInt8.toInt32)), (.int (p4.toInt8.toInt32))] (.int (0 : Int32)) := Arv.set Ar13 qk13 Sz13 Nz13 Hs13 Gs13 (fits_nar_byte _) W14 1 rfl (Nat.le_of_ble_eq_true rfl)
  have f14_0 : Exa Z h14 b1 "[B" := (f11_0).wr W14
  have f14_1 : Exa Z h14 b8_b1 "com/example/keyfold/keyfold/client/Value" := (f11_1).wr W14
  have f14_2 : Fld Z h14 b8_b1 "com/example/keyfold/keyfold/client/Value" "type" "Lcom/example/keyfold/keyfold/client/ValueType;" (.ref w_n0) := (f11_2).other W14 (Or.inl (ne_exa f11_1 f11_0 (by decide)))
  have f14_3 : Fld Z h14 b8_b1 "com/example/keyfold/keyfold/client/Value" "content" "Ljava/lang/Object;" (.ref b8_b3) := (f11_3).other W14 (Or.inl (ne_exa f11_1 f11_0 (by decide)))
  have f14_4 : Exa Z h14 b8_b3 "[B" := (f11_4).wr W14
  have f14_5 : Arv Z h14 b8_b3 k1 .byte (3 : Int32) [(.int (p2.toInt8.toInt32)), (.int (p3.toInt8.toInt32)), (.int (p4.toInt8.toInt32))] (.int (0 : Int32)) := (f11_5).other W14 (Ne.symm (Nat.ne_of_lt (Nat.lt_of_lt_of_le (f7_0).lt si_b8_b3)))
  have O14 := O11.wr W14 g_b1
  have N14 := Fr.snoc X14 N11 g_b1
  obtain ⟨cl15, Ar15, qk15, Sz15, Nz15, Hs15, Gs15⟩ := id fw14
  have hin15 : ¬ ((2 : Int32) < 0 ∨ cl15.slots.size ≤ ((2 : Int32)).toNatClampNeg) := inb_of Sz15 ⟨by decide, by decide⟩
  have hat15 : cl15.slots[((2 : Int32)).toNatClampNeg]? = some (.int (p4.toInt8.toInt32)) := Has.at Hs15 hin15 rfl
  obtain ⟨cl16, Ar16, qk16, Sz16, Nz16, Hs16, Gs16⟩ := id fw14
  have hin16 : ¬ ((2 : Int32) < 0 ∨ cl16.slots.size ≤ ((2 : Int32)).toNatClampNeg) := inb_of Sz16 ⟨by decide, by decide⟩
  obtain ⟨T17, h17, X17, e17, W17, st17⟩ := stB X14 hx hZ e14 Ar16 (j := (2 : Int32)) hin16  (g := (mkF m 118 #[.val (.int p1), .val (.int p2), .val (.int p3), .val (.int p4), .val (.int p5), .val (.int (3 : Int32)), .val (.ref b1), .val (.ref b8_b1), .unset] [(.int (((p4.toInt8.toInt32) ^^^ (1 : Int32)).toInt8.toInt32)), (.int (2 : Int32)), (.ref b1)])) rfl rfl (hb hby at_118)
  rw [show nar .byte (((p4.toInt8.toInt32) ^^^ (1 : Int32)).toInt8.toInt32) = (((p4.toInt8.toInt32) ^^^ (1 : Int32)).toInt8.toInt32) from own_byte _] at W17
  have fw17 : Arv Z h17 b1 k1 .byte (3 : Int32) [(.int (((p2.toInt8.toInt32) ^^^ (1 : Int32)).toInt8.toInt32)), (.int (((p3.toInt8.toInt32) ^^^ (1 : Int32)).toInt8.toInt32)), (.int (((p4.toInt8.toInt32) ^^^ (1 : Int32)).toInt8.toInt32))] (.int (0 : Int32)) := Arv.set Ar16 qk16 Sz16 Nz16 Hs16 Gs16 (fits_nar_byte _) W17 2 rfl (Nat.le_of_ble_eq_true rfl)
  have f17_0 : Exa Z h17 b1 "[B" := (f14_0).wr W17
  have f17_1 : Exa Z h17 b8_b1 "com/example/keyfold/keyfold/client/Value" := (f14_1).wr W17
  have f17_2 : Fld Z h17 b8_b1 "com/example/keyfold/keyfold/client/Value" "type" "Lcom/example/keyfold/keyfold/client/ValueType;" (.ref w_n0) := (f14_2).other W17 (Or.inl (ne_exa f14_1 f14_0 (by decide)))
  have f17_3 : Fld Z h17 b8_b1 "com/example/keyfold/keyfold/client/Value" "content" "Ljava/lang/Object;" (.ref b8_b3) := (f14_3).other W17 (Or.inl (ne_exa f14_1 f14_0 (by decide)))
  have f17_4 : Exa Z h17 b8_b3 "[B" := (f14_4).wr W17
  have f17_5 : Arv Z h17 b8_b3 k1 .byte (3 : Int32) [(.int (p2.toInt8.toInt32)), (.int (p3.toInt8.toInt32)), (.int (p4.toInt8.toInt32))] (.int (0 : Int32)) := (f14_5).other W17 (Ne.symm (Nat.ne_of_lt (Nat.lt_of_lt_of_le (f7_0).lt si_b8_b3)))
  have O17 := O14.wr W17 g_b1
  have N17 := Fr.snoc X17 N14 g_b1
  obtain ⟨cq18, kq18, q18a, q18b, q18c⟩ := isOf hZ e17 f17_1
  obtain ⟨_, _, ⟨T18, L18, k18, n18⟩, -, X18, ⟨Lc18, hQ18, l18, y18, z18⟩, st18⟩ := X17.virtualBack hx (y := (⟨"com/example/keyfold/keyfold/client/Value", "type", "()Lcom/example/keyfold/keyfold/client/ValueType;"⟩ : MethodName)) (z := (⟨"com/example/keyfold/keyfold/client/Value", "type", "()Lcom/example/keyfold/keyfold/client/ValueType;"⟩ : MethodName)) hown (mvT hZ (hw _ (List.mem_of_getElem? (i := 27) rfl))) (mvT hZ (hw _ (List.mem_of_getElem? (i := 28) rfl))) (notFace_of_selects (args := #[]) (mvT hZ (hw _ (List.mem_of_getElem? (i := 30) rfl)))) (mvT hZ (hw _ (List.mem_of_getElem? (i := 30) rfl))) (mvT hZ (hw _ (List.mem_of_getElem? (i := 29) rfl))) (by decide) (backOf (W := 0) (rm4 l Z a0 hw [] W b8_b1 h17 n0 O17 f17_2) hZ (hw _ (List.mem_of_getElem? (i := 31) rfl)) (hw _ (List.mem_of_getElem? (i := 3) rfl)) (by decide) (by decide)) q18a q18c (g := (mkF m 138 #[.val (.int p1), .val (.int p2), .val (.int p3), .val (.int p4), .val (.int p5), .val (.int (3 : Int32)), .val (.ref b1), .val (.ref b8_b1), .unset] [(.ref b8_b1)])) rfl (by rw [hml]; rfl) (Steps.refl _) (argsL := []) (rest := []) (lenOf pd_3 rfl) rfl (by show 2 * 0 + _ ≤ _; exact Nat.le_of_eq rfl) (hb hby at_138) (fun _ _ => ⟨rfl, e17, (by decide : 3 + 0 ≤ _), (by decide : 8 + 0 ≤ _)⟩)
  dsimp only [Pt.U, Pt.locs, Pt.cells, Pt.slots] at X18 l18 y18 z18 st18 hQ18
  subst l18 y18 z18
  obtain ⟨rfl, N18q, e18⟩ := hQ18
  have N18 := Fr.app N17 N18q
  obtain ⟨T19, X19, e19, st19⟩ := getS2 X18 hx hZ hown (host := "") (Or.inl (hw _ (List.mem_of_getElem? (i := 32) rfl))) Via.refl e18 (S_n0.ext O17.2) (g := (mkF m 141 #[.val (.int p1), .val (.int p2), .val (.int p3), .val (.int p4), .val (.int p5), .val (.int (3 : Int32)), .val (.ref b1), .val (.ref b8_b1), .unset] [(.ref w_n0)])) rfl (hb hby at_141)
  obtain ⟨cq20, kq20, q20a, q20b, q20c⟩ := isOf hZ e19 f17_1
  obtain ⟨_, _, ⟨T20, L20, k20, n20⟩, -, X20, ⟨Lc20, hQ20, l20, y20, z20⟩, st20⟩ := X19.virtualBack hx (y := (⟨"com/example/keyfold/keyfold/client/Value", "asBinary", "()[B"⟩ : MethodName)) (z := (⟨"com/example/keyfold/keyfold/client/Value", "asBinary", "()[B"⟩ : MethodName)) hown (mvT hZ (hw _ (List.mem_of_getElem? (i := 33) rfl))) (mvT hZ (hw _ (List.mem_of_getElem? (i := 34) rfl))) (notFace_of_selects (args := #[]) (mvT hZ (hw _ (List.mem_of_getElem? (i := 36) rfl)))) (mvT hZ (hw _ (List.mem_of_getElem? (i := 36) rfl))) (mvT hZ (hw _ (List.mem_of_getElem? (i := 35) rfl))) (by decide) (backOf (W := 0) (rm5_3 l Z a0 hw [] W b8_b1 b8_b3 k1 (p2.toInt8.toInt32) (p3.toInt8.toInt32) (p4.toInt8.toInt32) h17 n0 O17 g_b8_b1 f17_1 f17_2 f17_3 g_b8_b3 f17_4 f17_5) hZ (hw _ (List.mem_of_getElem? (i := 37) rfl)) (hw _ (List.mem_of_getElem? (i := 3) rfl)) (by decide) (by decide)) q20a q20c (g := (mkF m 151 #[.val (.int p1), .val (.int p2), .val (.int p3), .val (.int p4), .val (.int p5), .val (.int (3 : Int32)), .val (.ref b1), .val (.ref b8_b1), .unset] [(.ref b8_b1)])) rfl (by rw [hml]; rfl) (Steps.refl _) (argsL := []) (rest := []) (lenOf pd_4 rfl) rfl (by show 2 * 0 + _ ≤ _; exact Nat.le_of_eq rfl) (hb hby at_151) (fun _ _ => ⟨rfl, e19, (by decide : 3 + 1 ≤ _), (by decide : 8 + 3 ≤ _)⟩)
  dsimp only [Pt.U, Pt.locs, Pt.cells, Pt.slots] at X20 l20 y20 z20 st20 hQ20
  subst l20 y20 z20
  obtain ⟨N20q, hP20⟩ := hQ20
  have N20 := Fr.app N18 N20q
  obtain ⟨b20_b4, rfl, Kp20, g_b20_b4, si_b20_b4, fp20_0, fp20_1⟩ := hP20
  have f20_0 : Exa Z T20.heap b1 "[B" := (f17_0).keep Kp20
  have f20_1 : Exa Z T20.heap b8_b1 "com/example/keyfold/keyfold/client/Value" := (f17_1).keep Kp20
  have f20_2 : Fld Z T20.heap b8_b1 "com/example/keyfold/keyfold/client/Value" "type" "Lcom/example/keyfold/keyfold/client/ValueType;" (.ref w_n0) := (f17_2).keep Kp20 nin0
  have f20_3 : Fld Z T20.heap b8_b1 "com/example/keyfold/keyfold/client/Value" "content" "Ljava/lang/Object;" (.ref b8_b3) := (f17_3).keep Kp20 nin0
  have f20_4 : Exa Z T20.heap b8_b3 "[B" := (f17_4).keep Kp20
  have f20_5 : Arv Z T20.heap b8_b3 k1 .byte (3 : Int32) [(.int (p2.toInt8.toInt32)), (.int (p3.toInt8.toInt32)), (.int (p4.toInt8.toInt32))] (.int (0 : Int32)) := (f17_5).keep Kp20 nin0
  have f20_6 : Arv Z T20.heap b1 k1 .byte (3 : Int32) [(.int (((p2.toInt8.toInt32) ^^^ (1 : Int32)).toInt8.toInt32)), (.int (((p3.toInt8.toInt32) ^^^ (1 : Int32)).toInt8.toInt32)), (.int (((p4.toInt8.toInt32) ^^^ (1 : Int32)).toInt8.toInt32))] (.int (0 : Int32)) := (fw17).keep Kp20 nin0
  have O20 := O17.keep Kp20 all0
  obtain ⟨cl21, Ar21, qk21, Sz21, Nz21, Hs21, Gs21⟩ := id fp20_1
  obtain ⟨_, _, ⟨T22, L22, k22, n22⟩, -, X22, ⟨Lc22, hQ22, l22, y22, z22⟩, st22⟩ := Jvm.LawKit.callS X20 hx (y := (⟨"com/example/keyfold/keyfold/client/ValueOfBinaryPinLaw", "at", "([BII)Z"⟩ : MethodName)) hown (mvT hZ (hw _ (List.mem_of_getElem? (i := 44) rfl))) (mvT hZ (hw _ (List.mem_of_getElem? (i := 45) rfl))) (mvT hZ (hw _ (List.mem_of_getElem? (i := 46) rfl))) (mvT hZ (hw _ (List.mem_of_getElem? (i := 47) rfl))) (by decide) (backOf (W := 0) (rm7_3_0 l Z a0 hw [] W b20_b4 p2 k1 (p2.toInt8.toInt32) (p3.toInt8.toInt32) (p4.toInt8.toInt32) T20.heap n0 O20 rfl fp20_1) hZ (hw _ (List.mem_of_getElem? (i := 47) rfl)) (hw _ (List.mem_of_getElem? (i := 46) rfl)) (by decide) (by decide)) (g := (mkF m 170 #[.val (.int p1), .val (.int p2), .val (.int p3), .val (.int p4), .val (.int p5), .val (.int (3 : Int32)), .val (.ref b1), .val (.ref b8_b1), .val (.ref b20_b4)] [(.int p2), (.int (0 : Int32)), (.ref b20_b4)])) rfl (by rw [hml]; rfl) (argsL := [(.ref b20_b4), (.int (0 : Int32)), (.int p2)]) (rest := []) (lenOf pd_5 rfl) rfl (by show 2 * 0 + _ ≤ _; exact Nat.le_of_eq rfl) (hb hby at_170) (fun _ _ => ⟨rfl, rfl, (by decide : 4 + 0 ≤ _), (by decide : 11 + 0 ≤ _)⟩)
  dsimp only [Pt.U, Pt.locs, Pt.cells, Pt.slots] at X22 l22 y22 z22 st22 hQ22
  subst l22 y22 z22
  obtain ⟨rfl, N22q, e22⟩ := hQ22
  have N22 := Fr.app N20 N22q
  obtain ⟨_, _, ⟨T23, L23, k23, n23⟩, -, X23, ⟨Lc23, hQ23, l23, y23, z23⟩, st23⟩ := Jvm.LawKit.callS X22 hx (y := (⟨"com/example/keyfold/keyfold/client/ValueOfBinaryPinLaw", "at", "([BII)Z"⟩ : MethodName)) hown (mvT hZ (hw _ (List.mem_of_getElem? (i := 44) rfl))) (mvT hZ (hw _ (List.mem_of_getElem? (i := 45) rfl))) (mvT hZ (hw _ (List.mem_of_getElem? (i := 46) rfl))) (mvT hZ (hw _ (List.mem_of_getElem? (i := 47) rfl))) (by decide) (backOf (W := 0) (rm7_3_1 l Z a0 hw [] W b20_b4 p3 k1 (p2.toInt8.toInt32) (p3.toInt8.toInt32) (p4.toInt8.toInt32) T20.heap n0 O20 rfl fp20_1) hZ (hw _ (List.mem_of_getElem? (i := 47) rfl)) (hw _ (List.mem_of_getElem? (i := 46) rfl)) (by decide) (by decide)) (g := (mkF m 180 #[.val (.int p1), .val (.int p2), .val (.int p3), .val (.int p4), .val (.int p5), .val (.int (3 : Int32)), .val (.ref b1), .val (.ref b8_b1), .val (.ref b20_b4)] [(.int p3), (.int (1 : Int32)), (.ref b20_b4)])) rfl (by rw [hml]; rfl) (argsL := [(.ref b20_b4), (.int (1 : Int32)), (.int p3)]) (rest := []) (lenOf pd_5 rfl) rfl (by show 2 * 0 + _ ≤ _; exact Nat.le_of_eq rfl) (hb hby at_180) (fun _ _ => ⟨rfl, e22, (by decide : 4 + 0 ≤ _), (by decide : 11 + 0 ≤ _)⟩)
  dsimp only [Pt.U, Pt.locs, Pt.cells, Pt.slots] at X23 l23 y23 z23 st23 hQ23
  subst l23 y23 z23
  obtain ⟨rfl, N23q, e23⟩ := hQ23
  have N23 := Fr.app N22 N23q
  obtain ⟨_, _, ⟨T24, L24, k24, n24⟩, -, X24, ⟨Lc24, hQ24, l24, y24, z24⟩, st24⟩ := Jvm.LawKit.callS X23 hx (y := (⟨"com/example/keyfold/keyfold/client/ValueOfBinaryPinLaw", "at", "([BII)Z"⟩ : MethodName)) hown (mvT hZ (hw _ (List.mem_of_getElem? (i := 44) rfl))) (mvT hZ (hw _ (List.mem_of_getElem? (i := 45) rfl))) (mvT hZ (hw _ (List.mem_of_getElem? (i := 46) rfl))) (mvT hZ (hw _ (List.mem_of_getElem? (i := 47) rfl))) (by decide) (backOf (W := 0) (rm7_3_2 l Z a0 hw [] W b20_b4 p4 k1 (p2.toInt8.toInt32) (p3.toInt8.toInt32) (p4.toInt8.toInt32) T20.heap n0 O20 rfl fp20_1) hZ (hw _ (List.mem_of_getElem? (i := 47) rfl)) (hw _ (List.mem_of_getElem? (i := 46) rfl)) (by decide) (by decide)) (g := (mkF m 190 #[.val (.int p1), .val (.int p2), .val (.int p3), .val (.int p4), .val (.int p5), .val (.int (3 : Int32)), .val (.ref b1), .val (.ref b8_b1), .val (.ref b20_b4)] [(.int p4), (.int (2 : Int32)), (.ref b20_b4)])) rfl (by rw [hml]; rfl) (argsL := [(.ref b20_b4), (.int (2 : Int32)), (.int p4)]) (rest := []) (lenOf pd_5 rfl) rfl (by show 2 * 0 + _ ≤ _; exact Nat.le_of_eq rfl) (hb hby at_190) (fun _ _ => ⟨rfl, e23, (by decide : 4 + 0 ≤ _), (by decide : 11 + 0 ≤ _)⟩)
  dsimp only [Pt.U, Pt.locs, Pt.cells, Pt.slots] at X24 l24 y24 z24 st24 hQ24
  subst l24 y24 z24
  obtain ⟨rfl, N24q, e24⟩ := hQ24
  have N24 := Fr.app N23 N24q
  obtain ⟨_, _, ⟨T25, L25, k25, n25⟩, -, X25, ⟨Lc25, hQ25, l25, y25, z25⟩, st25⟩ := Jvm.LawKit.callS X24 hx (y := (⟨"com/example/keyfold/keyfold/client/ValueOfBinaryPinLaw", "at", "([BII)Z"⟩ : MethodName)) hown (mvT hZ (hw _ (List.mem_of_getElem? (i := 44) rfl))) (mvT hZ (hw _ (List.mem_of_getElem? (i := 45) rfl))) (mvT hZ (hw _ (List.mem_of_getElem? (i := 46) rfl))) (mvT hZ (hw _ (List.mem_of_getElem? (i := 47) rfl))) (by decide) (backOf (W := 0) (rm7_3_3 l Z a0 hw [] W b20_b4 p5 k1 (p2.toInt8.toInt32) (p3.toInt8.toInt32) (p4.toInt8.toInt32) T20.heap n0 O20 fp20_1) hZ (hw _ (List.mem_of_getElem? (i := 47) rfl)) (hw _ (List.mem_of_getElem? (i := 46) rfl)) (by decide) (by decide)) (g := (mkF m 201 #[.val (.int p1), .val (.int p2), .val (.int p3), .val (.int p4), .val (.int p5), .val (.int (3 : Int32)), .val (.ref b1), .val (.ref b8_b1), .val (.ref b20_b4)] [(.int p5), (.int (3 : Int32)), (.ref b20_b4)])) rfl (by rw [hml]; rfl) (argsL := [(.ref b20_b4), (.int (3 : Int32)), (.int p5)]) (rest := []) (lenOf pd_5 rfl) rfl (by show 2 * 0 + _ ≤ _; exact Nat.le_of_eq rfl) (hb hby at_201) (fun _ _ => ⟨rfl, e24, (by decide : 4 + 0 ≤ _), (by decide : 11 + 0 ≤ _)⟩)
  dsimp only [Pt.U, Pt.locs, Pt.cells, Pt.slots] at X25 l25 y25 z25 st25 hQ25
  subst l25 y25 z25
  obtain ⟨rfl, N25q, e25⟩ := hQ25
  have N25 := Fr.app N24 N25q
  obtain ⟨fs, hr, hrun, hended, hW, hsame⟩ := X25.leave (v := some (.int (1 : Int32))) (fun h => by rw [Bd.returns] at h; cases h)
  refine ⟨_, _, pre0 _ ?_, hrun, hended, _, _, rfl, ?_, ⟨_, rfl⟩, hW, hsame.mono (by decide) (by decide)⟩
  · show Steps p.tables e below (s₁.setTop (mkF m 0 #[.val (.int p1), .val (.int p2), .val (.int p3), .val (.int p4), .val (.int p5), .unset, .unset, .unset, .unset] [])) _
    refine XS.iloadN X0.here hx rfl (hb hby at_0) rfl ?_
    show Steps p.tables e below (s₁.setTop (mkF m 1 #[.val (.int p1), .val (.int p2), .val (.int p3), .val (.int p4), .val (.int p5), .unset, .unset, .unset, .unset] [(.int p1)])) _
    refine XS.bipush X0.here hx rfl (hb hby at_1) ?_
    show Steps p.tables e below (s₁.setTop (mkF m 3 #[.val (.int p1), .val (.int p2), .val (.int p3), .val (.int p4), .val (.int p5), .unset, .unset, .unset, .unset] [(.int (7 : Int32)), (.int p1)])) _
    refine XS.iand X0.here hx rfl (hb hby at_3) rfl ?_
    show Steps p.tables e below (s₁.setTop (mkF m 4 #[.val (.int p1), .val (.int p2), .val (.int p3), .val (.int p4), .val (.int p5), .unset, .unset, .unset, .unset] [(.int (p1 &&& (7 : Int32)))])) _
    refine XS.iconst X0.here hx rfl (hb hby at_4) ?_
    show Steps p.tables e below (s₁.setTop (mkF m 5 #[.val (.int p1), .val (.int p2), .val (.int p3), .val (.int p4), .val (.int p5), .unset, .unset, .unset, .unset] [(.int (5 : Int32)), (.int (p1 &&& (7 : Int32)))])) _
    refine iremM X0 hx rfl (hb hby at_5) rfl (by decide) ?_
    show Steps p.tables e below (s₁.setTop (mkF m 6 #[.val (.int p1), .val (.int p2), .val (.int p3), .val (.int p4), .val (.int p5), .unset, .unset, .unset, .unset] [(.int ((p1 &&& (7 : Int32)) % (5 : Int32)))])) _
    rw [hk]
    show Steps p.tables e below (s₁.setTop (mkF m 6 #[.val (.int p1), .val (.int p2), .val (.int p3), .val (.int p4), .val (.int p5), .unset, .unset, .unset, .unset] [(.int (3 : Int32))])) _
    refine XS.istore X0.here hx rfl (hb hby at_6) rfl (l' := #[.val (.int p1), .val (.int p2), .val (.int p3), .val (.int p4), .val (.int p5), .val (.int (3 : Int32)), .unset, .unset, .unset]) rfl ?_
    show Steps p.tables e below (s₁.setTop (mkF m 8 #[.val (.int p1), .val (.int p2), .val (.int p3), .val (.int p4), .val (.int p5), .val (.int (3 : Int32)), .unset, .unset, .unset] [])) _
    refine XS.iload X0.here hx rfl (hb hby at_8) rfl ?_
    show Steps p.tables e below (s₁.setTop (mkF m 10 #[.val (.int p1), .val (.int p2), .val (.int p3), .val (.int p4), .val (.int p5), .val (.int (3 : Int32)), .unset, .unset, .unset] [(.int (3 : Int32))])) _
    refine st1 _ ?_
    show Steps p.tables e below (T1.setTop (mkF m 12 #[.val (.int p1), .val (.int p2), .val (.int p3), .val (.int p4), .val (.int p5), .val (.int (3 : Int32)), .unset, .unset, .unset] [(.ref b1)])) _
    refine XS.astore X1.here hx rfl (hb hby at_12) rfl rfl (l' := #[.val (.int p1), .val (.int p2), .val (.int p3), .val (.int p4), .val (.int p5), .val (.int (3 : Int32)), .val (.ref b1), .unset, .unset]) rfl ?_
    show Steps p.tables e below (T1.setTop (mkF m 14 #[.val (.int p1), .val (.int p2), .val (.int p3), .val (.int p4), .val (.int p5), .val (.int (3 : Int32)), .val (.ref b1), .unset, .unset] [])) _
    refine XS.iload X1.here hx rfl (hb hby at_14) rfl ?_
    show Steps p.tables e below (T1.setTop (mkF m 16 #[.val (.int p1), .val (.int p2), .val (.int p3), .val (.int p4), .val (.int p5), .val (.int (3 : Int32)), .val (.ref b1), .unset, .unset] [(.int (3 : Int32))])) _
    refine XS.ifNo X1.here hx rfl (hb hby at_16) rfl ((if0 _ _).trans (tlt ((by decide) : (0 : Int32) < (3 : Int32))).2.2.2) ?_
    show Steps p.tables e below (T1.setTop (mkF m 19 #[.val (.int p1), .val (.int p2), .val (.int p3), .val (.int p4), .val (.int p5), .val (.int (3 : Int32)), .val (.ref b1), .unset, .unset] [])) _
    refine XS.aload X1.here hx rfl (hb hby at_19) rfl rfl ?_
    show Steps p.tables e below (T1.setTop (mkF m 21 #[.val (.int p1), .val (.int p2), .val (.int p3), .val (.int p4), .val (.int p5), .val (.int (3 : Int32)), .val (.ref b1), .unset, .unset] [(.ref b1)])) _
    refine XS.iconst X1.here hx rfl (hb hby at_21) ?_
    show Steps p.tables e below (T1.setTop (mkF m 22 #[.val (.int p1), .val (.int p2), .val (.int p3), .val (.int p4), .val (.int p5), .val (.int (3 : Int32)), .val (.ref b1), .unset, .unset] [(.int (0 : Int32)), (.ref b1)])) _
    refine XS.iloadN X1.here hx rfl (hb hby at_22) rfl ?_
    show Steps p.tables e below (T1.setTop (mkF m 23 #[.val (.int p1), .val (.int p2), .val (.int p3), .val (.int p4), .val (.int p5), .val (.int (3 : Int32)), .val (.ref b1), .unset, .unset] [(.int p2), (.int (0 : Int32)), (.ref b1)])) _
    refine XS.i2b X1.here hx rfl (hb hby at_23) rfl ?_
    show Steps p.tables e below (T1.setTop (mkF m 24 #[.val (.int p1), .val (.int p2), .val (.int p3), .val (.int p4), .val (.int p5), .val (.int (3 : Int32)), .val (.ref b1), .unset, .unset] [(.int (p2.toInt8.toInt32)), (.int (0 : Int32)), (.ref b1)])) _
    refine st3 _ ?_
    show Steps p.tables e below (T3.setTop (mkF m 25 #[.val (.int p1), .val (.int p2), .val (.int p3), .val (.int p4), .val (.int p5), .val (.int (3 : Int32)), .val (.ref b1), .unset, .unset] [])) _
    refine XS.iload X3.here hx rfl (hb hby at_25) rfl ?_
    show Steps p.tables e below (T3.setTop (mkF m 27 #[.val (.int p1), .val (.int p2), .val (.int p3), .val (.int p4), .val (.int p5), .val (.int (3 : Int32)), .val (.ref b1), .unset, .unset] [(.int (3 : Int32))])) _
    refine XS.iconst X3.here hx rfl (hb hby at_27) ?_
    show Steps p.tables e below (T3.setTop (mkF m 28 #[.val (.int p1), .val (.int p2), .val (.int p3), .val (.int p4), .val (.int p5), .val (.int (3 : Int32)), .val (.ref b1), .unset, .unset] [(.int (1 : Int32)), (.int (3 : Int32))])) _
    refine XS.icmpNo X3.here hx rfl (hb hby at_28) rfl (tlt ((by decide) : (1 : Int32) < (3 : Int32))).2.2.2 ?_
    show Steps p.tables e below (T3.setTop (mkF m 31 #[.val (.int p1), .val (.int p2), .val (.int p3), .val (.int p4), .val (.int p5), .val (.int (3 : Int32)), .val (.ref b1), .unset, .unset] [])) _
    refine XS.aload X3.here hx rfl (hb hby at_31) rfl rfl ?_
    show Steps p.tables e below (T3.setTop (mkF m 33 #[.val (.int p1), .val (.int p2), .val (.int p3), .val (.int p4), .val (.int p5), .val (.int (3 : Int32)), .val (.ref b1), .unset, .unset] [(.ref b1)])) _
    refine XS.iconst X3.here hx rfl (hb hby at_33) ?_
    show Steps p.tables e below (T3.setTop (mkF m 34 #[.val (.int p1), .val (.int p2), .val (.int p3), .val (.int p4), .val (.int p5), .val (.int (3 : Int32)), .val (.ref b1), .unset, .unset] [(.int (1 : Int32)), (.ref b1)])) _
    refine XS.iloadN X3.here hx rfl (hb hby at_34) rfl ?_
    show Steps p.tables e below (T3.setTop (mkF m 35 #[.val (.int p1), .val (.int p2), .val (.int p3), .val (.int p4), .val (.int p5), .val (.int (3 : Int32)), .val (.ref b1), .unset, .unset] [(.int p3), (.int (1 : Int32)), (.ref b1)])) _
    refine XS.i2b X3.here hx rfl (hb hby at_35) rfl ?_
    show Steps p.tables e below (T3.setTop (mkF m 36 #[.val (.int p1), .val (.int p2), .val (.int p3), .val (.int p4), .val (.int p5), .val (.int (3 : Int32)), .val (.ref b1), .unset, .unset] [(.int (p3.toInt8.toInt32)), (.int (1 : Int32)), (.ref b1)])) _
    refine st5 _ ?_
    show Steps p.tables e below (T5.setTop (mkF m 37 #[.val (.int p1), .val (.int p2), .val (.int p3), .val (.int p4), .val (.int p5), .val (.int (3 : Int32)), .val (.ref b1), .unset, .unset] [])) _
    refine XS.iload X5.here hx rfl (hb hby at_37) rfl ?_
    show Steps p.tables e below (T5.setTop (mkF m 39 #[.val (.int p1), .val (.int p2), .val (.int p3), .val (.int p4), .val (.int p5), .val (.int (3 : Int32)), .val (.ref b1), .unset, .unset] [(.int (3 : Int32))])) _
    refine XS.iconst X5.here hx rfl (hb hby at_39) ?_
    show Steps p.tables e below (T5.setTop (mkF m 40 #[.val (.int p1), .val (.int p2), .val (.int p3), .val (.int p4), .val (.int p5), .val (.int (3 : Int32)), .val (.ref b1), .unset, .unset] [(.int (2 : Int32)), (.int (3 : Int32))])) _
    refine XS.icmpNo X5.here hx rfl (hb hby at_40) rfl (tlt ((by decide) : (2 : Int32) < (3 : Int32))).2.2.2 ?_
    show Steps p.tables e below (T5.setTop (mkF m 43 #[.val (.int p1), .val (.int p2), .val (.int p3), .val (.int p4), .val (.int p5), .val (.int (3 : Int32)), .val (.ref b1), .unset, .unset] [])) _
    refine XS.aload X5.here hx rfl (hb hby at_43) rfl rfl ?_
    show Steps p.tables e below (T5.setTop (mkF m 45 #[.val (.int p1), .val (.int p2), .val (.int p3), .val (.int p4), .val (.int p5), .val (.int (3 : Int32)), .val (.ref b1), .unset, .unset] [(.ref b1)])) _
    refine XS.iconst X5.here hx rfl (hb hby at_45) ?_
    show Steps p.tables e below (T5.setTop (mkF m 46 #[.val (.int p1), .val (.int p2), .val (.int p3), .val (.int p4), .val (.int p5), .val (.int (3 : Int32)), .val (.ref b1), .unset, .unset] [(.int (2 : Int32)), (.ref b1)])) _
    refine XS.iloadN X5.here hx rfl (hb hby at_46) rfl ?_
    show Steps p.tables e below (T5.setTop (mkF m 47 #[.val (.int p1), .val (.int p2), .val (.int p3), .val (.int p4), .val (.int p5), .val (.int (3 : Int32)), .val (.ref b1), .unset, .unset] [(.int p4), (.int (2 : Int32)), (.ref b1)])) _
    refine XS.i2b X5.here hx rfl (hb hby at_47) rfl ?_
    show Steps p.tables e below (T5.setTop (mkF m 48 #[.val (.int p1), .val (.int p2), .val (.int p3), .val (.int p4), .val (.int p5), .val (.int (3 : Int32)), .val (.ref b1), .unset, .unset] [(.int (p4.toInt8.toInt32)), (.int (2 : Int32)), (.ref b1)])) _
    refine st7 _ ?_
    show Steps p.tables e below (T7.setTop (mkF m 49 #[.val (.int p1), .val (.int p2), .val (.int p3), .val (.int p4), .val (.int p5), .val (.int (3 : Int32)), .val (.ref b1), .unset, .unset] [])) _
    refine XS.iload X7.here hx rfl (hb hby at_49) rfl ?_
    show Steps p.tables e below (T7.setTop (mkF m 51 #[.val (.int p1), .val (.int p2), .val (.int p3), .val (.int p4), .val (.int p5), .val (.int (3 : Int32)), .val (.ref b1), .unset, .unset] [(.int (3 : Int32))])) _
    refine XS.iconst X7.here hx rfl (hb hby at_51) ?_
    show Steps p.tables e below (T7.setTop (mkF m 52 #[.val (.int p1), .val (.int p2), .val (.int p3), .val (.int p4), .val (.int p5), .val (.int (3 : Int32)), .val (.ref b1), .unset, .unset] [(.int (3 : Int32)), (.int (3 : Int32))])) _
    refine XS.icmpYes X7.here hx rfl (pc0 := 52) (pc' := 62) rfl (hb hby at_52) rfl (flt ((by decide) : ¬ ((3 : Int32) < (3 : Int32)))).2.2.2 (by decide) (by decide) ?_
    show Steps p.tables e below (T7.setTop (mkF m 62 #[.val (.int p1), .val (.int p2), .val (.int p3), .val (.int p4), .val (.int p5), .val (.int (3 : Int32)), .val (.ref b1), .unset, .unset] [])) _
    refine XS.aload X7.here hx rfl (hb hby at_62) rfl rfl ?_
    show Steps p.tables e below (T7.setTop (mkF m 64 #[.val (.int p1), .val (.int p2), .val (.int p3), .val (.int p4), .val (.int p5), .val (.int (3 : Int32)), .val (.ref b1), .unset, .unset] [(.ref b1)])) _
    refine st8 _ ?_
    show Steps p.tables e below (T8.setTop (mkF m 67 #[.val (.int p1), .val (.int p2), .val (.int p3), .val (.int p4), .val (.int p5), .val (.int (3 : Int32)), .val (.ref b1), .unset, .unset] [(.ref b8_b1)])) _
    refine XS.astore X8.here hx rfl (hb hby at_67) rfl rfl (l' := #[.val (.int p1), .val (.int p2), .val (.int p3), .val (.int p4), .val (.int p5), .val (.int (3 : Int32)), .val (.ref b1), .val (.ref b8_b1), .unset]) rfl ?_
    show Steps p.tables e below (T8.setTop (mkF m 69 #[.val (.int p1), .val (.int p2), .val (.int p3), .val (.int p4), .val (.int p5), .val (.int (3 : Int32)), .val (.ref b1), .val (.ref b8_b1), .unset] [])) _
    refine XS.iload X8.here hx rfl (hb hby at_69) rfl ?_
    show Steps p.tables e below (T8.setTop (mkF m 71 #[.val (.int p1), .val (.int p2), .val (.int p3), .val (.int p4), .val (.int p5), .val (.int (3 : Int32)), .val (.ref b1), .val (.ref b8_b1), .unset] [(.int (3 : Int32))])) _
    refine XS.ifNo X8.here hx rfl (hb hby at_71) rfl ((if0 _ _).trans (tlt ((by decide) : (0 : Int32) < (3 : Int32))).2.2.2) ?_
    show Steps p.tables e below (T8.setTop (mkF m 74 #[.val (.int p1), .val (.int p2), .val (.int p3), .val (.int p4), .val (.int p5), .val (.int (3 : Int32)), .val (.ref b1), .val (.ref b8_b1), .unset] [])) _
    refine XS.aload X8.here hx rfl (hb hby at_74) rfl rfl ?_
    show Steps p.tables e below (T8.setTop (mkF m 76 #[.val (.int p1), .val (.int p2), .val (.int p3), .val (.int p4), .val (.int p5), .val (.int (3 : Int32)), .val (.ref b1), .val (.ref b8_b1), .unset] [(.ref b1)])) _
    refine XS.iconst X8.here hx rfl (hb hby at_76) ?_
    show Steps p.tables e below (T8.setTop (mkF m 77 #[.val (.int p1), .val (.int p2), .val (.int p3), .val (.int p4), .val (.int p5), .val (.int (3 : Int32)), .val (.ref b1), .val (.ref b8_b1), .unset] [(.int (0 : Int32)), (.ref b1)])) _
    refine XS.aload X8.here hx rfl (hb hby at_77) rfl rfl ?_
    show Steps p.tables e below (T8.setTop (mkF m 79 #[.val (.int p1), .val (.int p2), .val (.int p3), .val (.int p4), .val (.int p5), .val (.int (3 : Int32)), .val (.ref b1), .val (.ref b8_b1), .unset] [(.ref b1), (.int (0 : Int32)), (.ref b1)])) _
    refine XS.iconst X8.here hx rfl (hb hby at_79) ?_
    show Steps p.tables e below (T8.setTop (mkF m 80 #[.val (.int p1), .val (.int p2), .val (.int p3), .val (.int p4), .val (.int p5), .val (.int (3 : Int32)), .val (.ref b1), .val (.ref b8_b1), .unset] [(.int (0 : Int32)), (.ref b1), (.int (0 : Int32)), (.ref b1)])) _
    refine X8.baloadBytes hx (j := (0 : Int32)) (v := (.int (p2.toInt8.toInt32))) Ar9.1 (State.isArrayOf_alike hZ.alike Ar9.2.1) Ar9.2.2 hin9 hat9 (g := (mkF m 80 #[.val (.int p1), .val (.int p2), .val (.int p3), .val (.int p4), .val (.int p5), .val (.int (3 : Int32)), .val (.ref b1), .val (.ref b8_b1), .unset] [(.int (0 : Int32)), (.ref b1), (.int (0 : Int32)), (.ref b1)])) rfl rfl (hb hby at_80) _ ?_
    show Steps p.tables e below (T8.setTop (mkF m 81 #[.val (.int p1), .val (.int p2), .val (.int p3), .val (.int p4), .val (.int p5), .val (.int (3 : Int32)), .val (.ref b1), .val (.ref b8_b1), .unset] [(.int (p2.toInt8.toInt32)), (.int (0 : Int32)), (.ref b1)])) _
    refine XS.iconst X8.here hx rfl (hb hby at_81) ?_
    show Steps p.tables e below (T8.setTop (mkF m 82 #[.val (.int p1), .val (.int p2), .val (.int p3), .val (.int p4), .val (.int p5), .val (.int (3 : Int32)), .val (.ref b1), .val (.ref b8_b1), .unset] [(.int (1 : Int32)), (.int (p2.toInt8.toInt32)), (.int (0 : Int32)), (.ref b1)])) _
    refine XS.ixor X8.here hx rfl (hb hby at_82) rfl ?_
    show Steps p.tables e below (T8.setTop (mkF m 83 #[.val (.int p1), .val (.int p2), .val (.int p3), .val (.int p4), .val (.int p5), .val (.int (3 : Int32)), .val (.ref b1), .val (.ref b8_b1), .unset] [(.int ((p2.toInt8.toInt32) ^^^ (1 : Int32))), (.int (0 : Int32)), (.ref b1)])) _
    refine XS.i2b X8.here hx rfl (hb hby at_83) rfl ?_
    show Steps p.tables e below (T8.setTop (mkF m 84 #[.val (.int p1), .val (.int p2), .val (.int p3), .val (.int p4), .val (.int p5), .val (.int (3 : Int32)), .val (.ref b1), .val (.ref b8_b1), .unset] [(.int (((p2.toInt8.toInt32) ^^^ (1 : Int32)).toInt8.toInt32)), (.int (0 : Int32)), (.ref b1)])) _
    refine st11 _ ?_
    show Steps p.tables e below (T11.setTop (mkF m 85 #[.val (.int p1), .val (.int p2), .val (.int p3), .val (.int p4), .val (.int p5), .val (.int (3 : Int32)), .val (.ref b1), .val (.ref b8_b1), .unset] [])) _
    refine XS.iload X11.here hx rfl (hb hby at_85) rfl ?_
    show Steps p.tables e below (T11.setTop (mkF m 87 #[.val (.int p1), .val (.int p2), .val (.int p3), .val (.int p4), .val (.int p5), .val (.int (3 : Int32)), .val (.ref b1), .val (.ref b8_b1), .unset] [(.int (3 : Int32))])) _
    refine XS.iconst X11.here hx rfl (hb hby at_87) ?_
    show Steps p.tables e below (T11.setTop (mkF m 88 #[.val (.int p1), .val (.int p2), .val (.int p3), .val (.int p4), .val (.int p5), .val (.int (3 : Int32)), .val (.ref b1), .val (.ref b8_b1), .unset] [(.int (1 : Int32)), (.int (3 : Int32))])) _
    refine XS.icmpNo X11.here hx rfl (hb hby at_88) rfl (tlt ((by decide) : (1 : Int32) < (3 : Int32))).2.2.2 ?_
    show Steps p.tables e below (T11.setTop (mkF m 91 #[.val (.int p1), .val (.int p2), .val (.int p3), .val (.int p4), .val (.int p5), .val (.int (3 : Int32)), .val (.ref b1), .val (.ref b8_b1), .unset] [])) _
    refine XS.aload X11.here hx rfl (hb hby at_91) rfl rfl ?_
    show Steps p.tables e below (T11.setTop (mkF m 93 #[.val (.int p1), .val (.int p2), .val (.int p3), .val (.int p4), .val (.int p5), .val (.int (3 : Int32)), .val (.ref b1), .val (.ref b8_b1), .unset] [(.ref b1)])) _
    refine XS.iconst X11.here hx rfl (hb hby at_93) ?_
    show Steps p.tables e below (T11.setTop (mkF m 94 #[.val (.int p1), .val (.int p2), .val (.int p3), .val (.int p4), .val (.int p5), .val (.int (3 : Int32)), .val (.ref b1), .val (.ref b8_b1), .unset] [(.int (1 : Int32)), (.ref b1)])) _
    refine XS.aload X11.here hx rfl (hb hby at_94) rfl rfl ?_
    show Steps p.tables e below (T11.setTop (mkF m 96 #[.val (.int p1), .val (.int p2), .val (.int p3), .val (.int p4), .val (.int p5), .val (.int (3 : Int32)), .val (.ref b1), .val (.ref b8_b1), .unset] [(.ref b1), (.int (1 : Int32)), (.ref b1)])) _
    refine XS.iconst X11.here hx rfl (hb hby at_96) ?_
    show Steps p.tables e below (T11.setTop (mkF m 97 #[.val (.int p1), .val (.int p2), .val (.int p3), .val (.int p4), .val (.int p5), .val (.int (3 : Int32)), .val (.ref b1), .val (.ref b8_b1), .unset] [(.int (1 : Int32)), (.ref b1), (.int (1 : Int32)), (.ref b1)])) _
    refine X11.baloadBytes hx (j := (1 : Int32)) (v := (.int (p3.toInt8.toInt32))) (by rw [e11]; exact Ar12.1) (State.isArrayOf_alike hZ.alike Ar12.2.1) Ar12.2.2 hin12 hat12 (g := (mkF m 97 #[.val (.int p1), .val (.int p2), .val (.int p3), .val (.int p4), .val (.int p5), .val (.int (3 : Int32)), .val (.ref b1), .val (.ref b8_b1), .unset] [(.int (1 : Int32)), (.ref b1), (.int (1 : Int32)), (.ref b1)])) rfl rfl (hb hby at_97) _ ?_
    show Steps p.tables e below (T11.setTop (mkF m 98 #[.val (.int p1), .val (.int p2), .val (.int p3), .val (.int p4), .val (.int p5), .val (.int (3 : Int32)), .val (.ref b1), .val (.ref b8_b1), .unset] [(.int (p3.toInt8.toInt32)), (.int (1 : Int32)), (.ref b1)])) _
    refine XS.iconst X11.here hx rfl (hb hby at_98) ?_
    show Steps p.tables e below (T11.setTop (mkF m 99 #[.val (.int p1), .val (.int p2), .val (.int p3), .val (.int p4), .val (.int p5), .val (.int (3 : Int32)), .val (.ref b1), .val (.ref b8_b1), .unset] [(.int (1 : Int32)), (.int (p3.toInt8.toInt32)), (.int (1 : Int32)), (.ref b1)])) _
    refine XS.ixor X11.here hx rfl (hb hby at_99) rfl ?_
    show Steps p.tables e below (T11.setTop (mkF m 100 #[.val (.int p1), .val (.int p2), .val (.int p3), .val (.int p4), .val (.int p5), .val (.int (3 : Int32)), .val (.ref b1), .val (.ref b8_b1), .unset] [(.int ((p3.toInt8.toInt32) ^^^ (1 : Int32))), (.int (1 : Int32)), (.ref b1)])) _
    refine XS.i2b X11.here hx rfl (hb hby at_100) rfl ?_
    show Steps p.tables e below (T11.setTop (mkF m 101 #[.val (.int p1), .val (.int p2), .val (.int p3), .val (.int p4), .val (.int p5), .val (.int (3 : Int32)), .val (.ref b1), .val (.ref b8_b1), .unset] [(.int (((p3.toInt8.toInt32) ^^^ (1 : Int32)).toInt8.toInt32)), (.int (1 : Int32)), (.ref b1)])) _
    refine st14 _ ?_
    show Steps p.tables e below (T14.setTop (mkF m 102 #[.val (.int p1), .val (.int p2), .val (.int p3), .val (.int p4), .val (.int p5), .val (.int (3 : Int32)), .val (.ref b1), .val (.ref b8_b1), .unset] [])) _
    refine XS.iload X14.here hx rfl (hb hby at_102) rfl ?_
    show Steps p.tables e below (T14.setTop (mkF m 104 #[.val (.int p1), .val (.int p2), .val (.int p3), .val (.int p4), .val (.int p5), .val (.int (3 : Int32)), .val (.ref b1), .val (.ref b8_b1), .unset] [(.int (3 : Int32))])) _
    refine XS.iconst X14.here hx rfl (hb hby at_104) ?_
    show Steps p.tables e below (T14.setTop (mkF m 105 #[.val (.int p1), .val (.int p2), .val (.int p3), .val (.int p4), .val (.int p5), .val (.int (3 : Int32)), .val (.ref b1), .val (.ref b8_b1), .unset] [(.int (2 : Int32)), (.int (3 : Int32))])) _
    refine XS.icmpNo X14.here hx rfl (hb hby at_105) rfl (tlt ((by decide) : (2 : Int32) < (3 : Int32))).2.2.2 ?_
    show Steps p.tables e below (T14.setTop (mkF m 108 #[.val (.int p1), .val (.int p2), .val (.int p3), .val (.int p4), .val (.int p5), .val (.int (3 : Int32)), .val (.ref b1), .val (.ref b8_b1), .unset] [])) _
    refine XS.aload X14.here hx rfl (hb hby at_108) rfl rfl ?_
    show Steps p.tables e below (T14.setTop (mkF m 110 #[.val (.int p1), .val (.int p2), .val (.int p3), .val (.int p4), .val (.int p5), .val (.int (3 : Int32)), .val (.ref b1), .val (.ref b8_b1), .unset] [(.ref b1)])) _
    refine XS.iconst X14.here hx rfl (hb hby at_110) ?_
    show Steps p.tables e below (T14.setTop (mkF m 111 #[.val (.int p1), .val (.int p2), .val (.int p3), .val (.int p4), .val (.int p5), .val (.int (3 : Int32)), .val (.ref b1), .val (.ref b8_b1), .unset] [(.int (2 : Int32)), (.ref b1)])) _
    refine XS.aload X14.here hx rfl (hb hby at_111) rfl rfl ?_
    show Steps p.tables e below (T14.setTop (mkF m 113 #[.val (.int p1), .val (.int p2), .val (.int p3), .val (.int p4), .val (.int p5), .val (.int (3 : Int32)), .val (.ref b1), .val (.ref b8_b1), .unset] [(.ref b1), (.int (2 : Int32)), (.ref b1)])) _
    refine XS.iconst X14.here hx rfl (hb hby at_113) ?_
    show Steps p.tables e below (T14.setTop (mkF m 114 #[.val (.int p1), .val (.int p2), .val (.int p3), .val (.int p4), .val (.int p5), .val (.int (3 : Int32)), .val (.ref b1), .val (.ref b8_b1), .unset] [(.int (2 : Int32)), (.ref b1), (.int (2 : Int32)), (.ref b1)])) _
    refine X14.baloadBytes hx (j := (2 : Int32)) (v := (.int (p4.toInt8.toInt32))) (by rw [e14]; exact Ar15.1) (State.isArrayOf_alike hZ.alike Ar15.2.1) Ar15.2.2 hin15 hat15 (g := (mkF m 114 #[.val (.int p1), .val (.int p2), .val (.int p3), .val (.int p4), .val (.int p5), .val (.int (3 : Int32)), .val (.ref b1), .val (.ref b8_b1), .unset] [(.int (2 : Int32)), (.ref b1), (.int (2 : Int32)), (.ref b1)])) rfl rfl (hb hby at_114) _ ?_
    show Steps p.tables e below (T14.setTop (mkF m 115 #[.val (.int p1), .val (.int p2), .val (.int p3), .val (.int p4), .val (.int p5), .val (.int (3 : Int32)), .val (.ref b1), .val (.ref b8_b1), .unset] [(.int (p4.toInt8.toInt32)), (.int (2 : Int32)), (.ref b1)])) _
    refine XS.iconst X14.here hx rfl (hb hby at_115) ?_
    show Steps p.tables e below (T14.setTop (mkF m 116 #[.val (.int p1), .val (.int p2), .val (.int p3), .val (.int p4), .val (.int p5), .val (.int (3 : Int32)), .val (.ref b1), .val (.ref b8_b1), .unset] [(.int (1 : Int32)), (.int (p4.toInt8.toInt32)), (.int (2 : Int32)), (.ref b1)])) _
    refine XS.ixor X14.here hx rfl (hb hby at_116) rfl ?_
    show Steps p.tables e below (T14.setTop (mkF m 117 #[.val (.int p1), .val (.int p2), .val (.int p3), .val (.int p4), .val (.int p5), .val (.int (3 : Int32)), .val (.ref b1), .val (.ref b8_b1), .unset] [(.int ((p4.toInt8.toInt32) ^^^ (1 : Int32))), (.int (2 : Int32)), (.ref b1)])) _
    refine XS.i2b X14.here hx rfl (hb hby at_117) rfl ?_
    show Steps p.tables e below (T14.setTop (mkF m 118 #[.val (.int p1), .val (.int p2), .val (.int p3), .val (.int p4), .val (.int p5), .val (.int (3 : Int32)), .val (.ref b1), .val (.ref b8_b1), .unset] [(.int (((p4.toInt8.toInt32) ^^^ (1 : Int32)).toInt8.toInt32)), (.int (2 : Int32)), (.ref b1)])) _
    refine st17 _ ?_
    show Steps p.tables e below (T17.setTop (mkF m 119 #[.val (.int p1), .val (.int p2), .val (.int p3), .val (.int p4), .val (.int p5), .val (.int (3 : Int32)), .val (.ref b1), .val (.ref b8_b1), .unset] [])) _
    refine XS.iload X17.here hx rfl (hb hby at_119) rfl ?_
    show Steps p.tables e below (T17.setTop (mkF m 121 #[.val (.int p1), .val (.int p2), .val (.int p3), .val (.int p4), .val (.int p5), .val (.int (3 : Int32)), .val (.ref b1), .val (.ref b8_b1), .unset] [(.int (3 : Int32))])) _
    refine XS.iconst X17.here hx rfl (hb hby at_121) ?_
    show Steps p.tables e below (T17.setTop (mkF m 122 #[.val (.int p1), .val (.int p2), .val (.int p3), .val (.int p4), .val (.int p5), .val (.int (3 : Int32)), .val (.ref b1), .val (.ref b8_b1), .unset] [(.int (3 : Int32)), (.int (3 : Int32))])) _
    refine XS.icmpYes X17.here hx rfl (pc0 := 122) (pc' := 136) rfl (hb hby at_122) rfl (flt ((by decide) : ¬ ((3 : Int32) < (3 : Int32)))).2.2.2 (by decide) (by decide) ?_
    show Steps p.tables e below (T17.setTop (mkF m 136 #[.val (.int p1), .val (.int p2), .val (.int p3), .val (.int p4), .val (.int p5), .val (.int (3 : Int32)), .val (.ref b1), .val (.ref b8_b1), .unset] [])) _
    refine XS.aload X17.here hx rfl (hb hby at_136) rfl rfl ?_
    show Steps p.tables e below (T17.setTop (mkF m 138 #[.val (.int p1), .val (.int p2), .val (.int p3), .val (.int p4), .val (.int p5), .val (.int (3 : Int32)), .val (.ref b1), .val (.ref b8_b1), .unset] [(.ref b8_b1)])) _
    refine st18.trans ?_
    show Steps p.tables e below (T18.setTop (mkF m 141 #[.val (.int p1), .val (.int p2), .val (.int p3), .val (.int p4), .val (.int p5), .val (.int (3 : Int32)), .val (.ref b1), .val (.ref b8_b1), .unset] [(.ref w_n0)])) _
    refine st19 _ ?_
    show Steps p.tables e below (T19.setTop (mkF m 144 #[.val (.int p1), .val (.int p2), .val (.int p3), .val (.int p4), .val (.int p5), .val (.int (3 : Int32)), .val (.ref b1), .val (.ref b8_b1), .unset] [(.ref w_n0), (.ref w_n0)])) _
    refine Jvm.RoadKit.acmp (g := (mkF m 144 #[.val (.int p1), .val (.int p2), .val (.int p3), .val (.int p4), .val (.int p5), .val (.int (3 : Int32)), .val (.ref b1), .val (.ref b8_b1), .unset] [(.ref w_n0), (.ref w_n0)])) X19 hx rfl rfl rfl (pc0 := 144) (pc' := 149) (same := true) rfl (hb hby at_144) rfl (decide_eq_true rfl) (by decide) (by decide) ?_
    show Steps p.tables e below (T19.setTop (mkF m 149 #[.val (.int p1), .val (.int p2), .val (.int p3), .val (.int p4), .val (.int p5), .val (.int (3 : Int32)), .val (.ref b1), .val (.ref b8_b1), .unset] [])) _
    refine XS.aload X19.here hx rfl (hb hby at_149) rfl rfl ?_
    show Steps p.tables e below (T19.setTop (mkF m 151 #[.val (.int p1), .val (.int p2), .val (.int p3), .val (.int p4), .val (.int p5), .val (.int (3 : Int32)), .val (.ref b1), .val (.ref b8_b1), .unset] [(.ref b8_b1)])) _
    refine st20.trans ?_
    show Steps p.tables e below (T20.setTop (mkF m 154 #[.val (.int p1), .val (.int p2), .val (.int p3), .val (.int p4), .val (.int p5), .val (.int (3 : Int32)), .val (.ref b1), .val (.ref b8_b1), .unset] [(.ref b20_b4)])) _
    refine XS.astore X20.here hx rfl (hb hby at_154) rfl rfl (l' := #[.val (.int p1), .val (.int p2), .val (.int p3), .val (.int p4), .val (.int p5), .val (.int (3 : Int32)), .val (.ref b1), .val (.ref b8_b1), .val (.ref b20_b4)]) rfl ?_
    show Steps p.tables e below (T20.setTop (mkF m 156 #[.val (.int p1), .val (.int p2), .val (.int p3), .val (.int p4), .val (.int p5), .val (.int (3 : Int32)), .val (.ref b1), .val (.ref b8_b1), .val (.ref b20_b4)] [])) _
    refine XS.aload X20.here hx rfl (hb hby at_156) rfl rfl ?_
    show Steps p.tables e below (T20.setTop (mkF m 158 #[.val (.int p1), .val (.int p2), .val (.int p3), .val (.int p4), .val (.int p5), .val (.int (3 : Int32)), .val (.ref b1), .val (.ref b8_b1), .val (.ref b20_b4)] [(.ref b20_b4)])) _
    refine X20.arraylength hx Ar21.1 (State.isArrayOf_alike hZ.alike Ar21.2.1) (g := (mkF m 158 #[.val (.int p1), .val (.int p2), .val (.int p3), .val (.int p4), .val (.int p5), .val (.int (3 : Int32)), .val (.ref b1), .val (.ref b8_b1), .val (.ref b20_b4)] [(.ref b20_b4)])) rfl rfl (hb hby at_158) _ ?_
    rw [len_of Sz21 Nz21]
    show Steps p.tables e below (T20.setTop (mkF m 159 #[.val (.int p1), .val (.int p2), .val (.int p3), .val (.int p4), .val (.int p5), .val (.int (3 : Int32)), .val (.ref b1), .val (.ref b8_b1), .val (.ref b20_b4)] [(.int (3 : Int32))])) _
    refine XS.iload X20.here hx rfl (hb hby at_159) rfl ?_
    show Steps p.tables e below (T20.setTop (mkF m 161 #[.val (.int p1), .val (.int p2), .val (.int p3), .val (.int p4), .val (.int p5), .val (.int (3 : Int32)), .val (.ref b1), .val (.ref b8_b1), .val (.ref b20_b4)] [(.int (3 : Int32)), (.int (3 : Int32))])) _
    refine XS.icmpYes X20.here hx rfl (pc0 := 161) (pc' := 166) rfl (hb hby at_161) rfl (teq ((by decide) : (3 : Int32) = (3 : Int32))).1 (by decide) (by decide) ?_
    show Steps p.tables e below (T20.setTop (mkF m 166 #[.val (.int p1), .val (.int p2), .val (.int p3), .val (.int p4), .val (.int p5), .val (.int (3 : Int32)), .val (.ref b1), .val (.ref b8_b1), .val (.ref b20_b4)] [])) _
    refine XS.aload X20.here hx rfl (hb hby at_166) rfl rfl ?_
    show Steps p.tables e below (T20.setTop (mkF m 168 #[.val (.int p1), .val (.int p2), .val (.int p3), .val (.int p4), .val (.int p5), .val (.int (3 : Int32)), .val (.ref b1), .val (.ref b8_b1), .val (.ref b20_b4)] [(.ref b20_b4)])) _
    refine XS.iconst X20.here hx rfl (hb hby at_168) ?_
    show Steps p.tables e below (T20.setTop (mkF m 169 #[.val (.int p1), .val (.int p2), .val (.int p3), .val (.int p4), .val (.int p5), .val (.int (3 : Int32)), .val (.ref b1), .val (.ref b8_b1), .val (.ref b20_b4)] [(.int (0 : Int32)), (.ref b20_b4)])) _
    refine XS.iloadN X20.here hx rfl (hb hby at_169) rfl ?_
    show Steps p.tables e below (T20.setTop (mkF m 170 #[.val (.int p1), .val (.int p2), .val (.int p3), .val (.int p4), .val (.int p5), .val (.int (3 : Int32)), .val (.ref b1), .val (.ref b8_b1), .val (.ref b20_b4)] [(.int p2), (.int (0 : Int32)), (.ref b20_b4)])) _
    refine st22 _ ?_
    show Steps p.tables e below (T22.setTop (mkF m 173 #[.val (.int p1), .val (.int p2), .val (.int p3), .val (.int p4), .val (.int p5), .val (.int (3 : Int32)), .val (.ref b1), .val (.ref b8_b1), .val (.ref b20_b4)] [(.int (1 : Int32))])) _
    refine XS.ifNo X22.here hx rfl (hb hby at_173) rfl ((if0 _ _).trans (feq ((by decide) : ¬ ((1 : Int32) = (0 : Int32)))).1) ?_
    show Steps p.tables e below (T22.setTop (mkF m 176 #[.val (.int p1), .val (.int p2), .val (.int p3), .val (.int p4), .val (.int p5), .val (.int (3 : Int32)), .val (.ref b1), .val (.ref b8_b1), .val (.ref b20_b4)] [])) _
    refine XS.aload X22.here hx rfl (hb hby at_176) rfl rfl ?_
    show Steps p.tables e below (T22.setTop (mkF m 178 #[.val (.int p1), .val (.int p2), .val (.int p3), .val (.int p4), .val (.int p5), .val (.int (3 : Int32)), .val (.ref b1), .val (.ref b8_b1), .val (.ref b20_b4)] [(.ref b20_b4)])) _
    refine XS.iconst X22.here hx rfl (hb hby at_178) ?_
    show Steps p.tables e below (T22.setTop (mkF m 179 #[.val (.int p1), .val (.int p2), .val (.int p3), .val (.int p4), .val (.int p5), .val (.int (3 : Int32)), .val (.ref b1), .val (.ref b8_b1), .val (.ref b20_b4)] [(.int (1 : Int32)), (.ref b20_b4)])) _
    refine XS.iloadN X22.here hx rfl (hb hby at_179) rfl ?_
    show Steps p.tables e below (T22.setTop (mkF m 180 #[.val (.int p1), .val (.int p2), .val (.int p3), .val (.int p4), .val (.int p5), .val (.int (3 : Int32)), .val (.ref b1), .val (.ref b8_b1), .val (.ref b20_b4)] [(.int p3), (.int (1 : Int32)), (.ref b20_b4)])) _
    refine st23 _ ?_
    show Steps p.tables e below (T23.setTop (mkF m 183 #[.val (.int p1), .val (.int p2), .val (.int p3), .val (.int p4), .val (.int p5), .val (.int (3 : Int32)), .val (.ref b1), .val (.ref b8_b1), .val (.ref b20_b4)] [(.int (1 : Int32))])) _
    refine XS.ifNo X23.here hx rfl (hb hby at_183) rfl ((if0 _ _).trans (feq ((by decide) : ¬ ((1 : Int32) = (0 : Int32)))).1) ?_
    show Steps p.tables e below (T23.setTop (mkF m 186 #[.val (.int p1), .val (.int p2), .val (.int p3), .val (.int p4), .val (.int p5), .val (.int (3 : Int32)), .val (.ref b1), .val (.ref b8_b1), .val (.ref b20_b4)] [])) _
    refine XS.aload X23.here hx rfl (hb hby at_186) rfl rfl ?_
    show Steps p.tables e below (T23.setTop (mkF m 188 #[.val (.int p1), .val (.int p2), .val (.int p3), .val (.int p4), .val (.int p5), .val (.int (3 : Int32)), .val (.ref b1), .val (.ref b8_b1), .val (.ref b20_b4)] [(.ref b20_b4)])) _
    refine XS.iconst X23.here hx rfl (hb hby at_188) ?_
    show Steps p.tables e below (T23.setTop (mkF m 189 #[.val (.int p1), .val (.int p2), .val (.int p3), .val (.int p4), .val (.int p5), .val (.int (3 : Int32)), .val (.ref b1), .val (.ref b8_b1), .val (.ref b20_b4)] [(.int (2 : Int32)), (.ref b20_b4)])) _
    refine XS.iloadN X23.here hx rfl (hb hby at_189) rfl ?_
    show Steps p.tables e below (T23.setTop (mkF m 190 #[.val (.int p1), .val (.int p2), .val (.int p3), .val (.int p4), .val (.int p5), .val (.int (3 : Int32)), .val (.ref b1), .val (.ref b8_b1), .val (.ref b20_b4)] [(.int p4), (.int (2 : Int32)), (.ref b20_b4)])) _
    refine st24 _ ?_
    show Steps p.tables e below (T24.setTop (mkF m 193 #[.val (.int p1), .val (.int p2), .val (.int p3), .val (.int p4), .val (.int p5), .val (.int (3 : Int32)), .val (.ref b1), .val (.ref b8_b1), .val (.ref b20_b4)] [(.int (1 : Int32))])) _
    refine XS.ifNo X24.here hx rfl (hb hby at_193) rfl ((if0 _ _).trans (feq ((by decide) : ¬ ((1 : Int32) = (0 : Int32)))).1) ?_
    show Steps p.tables e below (T24.setTop (mkF m 196 #[.val (.int p1), .val (.int p2), .val (.int p3), .val (.int p4), .val (.int p5), .val (.int (3 : Int32)), .val (.ref b1), .val (.ref b8_b1), .val (.ref b20_b4)] [])) _
    refine XS.aload X24.here hx rfl (hb hby at_196) rfl rfl ?_
    show Steps p.tables e below (T24.setTop (mkF m 198 #[.val (.int p1), .val (.int p2), .val (.int p3), .val (.int p4), .val (.int p5), .val (.int (3 : Int32)), .val (.ref b1), .val (.ref b8_b1), .val (.ref b20_b4)] [(.ref b20_b4)])) _
    refine XS.iconst X24.here hx rfl (hb hby at_198) ?_
    show Steps p.tables e below (T24.setTop (mkF m 199 #[.val (.int p1), .val (.int p2), .val (.int p3), .val (.int p4), .val (.int p5), .val (.int (3 : Int32)), .val (.ref b1), .val (.ref b8_b1), .val (.ref b20_b4)] [(.int (3 : Int32)), (.ref b20_b4)])) _
    refine XS.iload X24.here hx rfl (hb hby at_199) rfl ?_
    show Steps p.tables e below (T24.setTop (mkF m 201 #[.val (.int p1), .val (.int p2), .val (.int p3), .val (.int p4), .val (.int p5), .val (.int (3 : Int32)), .val (.ref b1), .val (.ref b8_b1), .val (.ref b20_b4)] [(.int p5), (.int (3 : Int32)), (.ref b20_b4)])) _
    refine st25 _ ?_
    show Steps p.tables e below (T25.setTop (mkF m 204 #[.val (.int p1), .val (.int p2), .val (.int p3), .val (.int p4), .val (.int p5), .val (.int (3 : Int32)), .val (.ref b1), .val (.ref b8_b1), .val (.ref b20_b4)] [(.int (1 : Int32))])) _
    refine XS.ifNo X25.here hx rfl (hb hby at_204) rfl ((if0 _ _).trans (feq ((by decide) : ¬ ((1 : Int32) = (0 : Int32)))).1) ?_
    show Steps p.tables e below (T25.setTop (mkF m 207 #[.val (.int p1), .val (.int p2), .val (.int p3), .val (.int p4), .val (.int p5), .val (.int (3 : Int32)), .val (.ref b1), .val (.ref b8_b1), .val (.ref b20_b4)] [])) _
    refine XS.iconst X25.here hx rfl (hb hby at_207) ?_
    show Steps p.tables e below (T25.setTop (mkF m 208 #[.val (.int p1), .val (.int p2), .val (.int p3), .val (.int p4), .val (.int p5), .val (.int (3 : Int32)), .val (.ref b1), .val (.ref b8_b1), .val (.ref b20_b4)] [(.int (1 : Int32))])) _
    refine XS.goto X25.here hx rfl (pc0 := 208) (pc' := 212) rfl (hb hby at_208) (by decide) (by decide) ?_
    show Steps p.tables e below (T25.setTop (mkF m 212 #[.val (.int p1), .val (.int p2), .val (.int p3), .val (.int p4), .val (.int p5), .val (.int (3 : Int32)), .val (.ref b1), .val (.ref b8_b1), .val (.ref b20_b4)] [(.int (1 : Int32))])) _
    exact retN X25 hx (t := .boolean) Bd.returns (by simp) (hb hby at_212) hr
  · show Q0 n0 _ T25.heap _
    rw [e25]
    exact ⟨rfl, N25⟩
set_option maxRecDepth 65536 in
set_option maxHeartbeats 40000000 in
theorem rm0_4 (l : Launch) (Z : State) (a0 : Array Value) (hw : ∀ d ∈ tables_1, d.before a0 Z = true) (ws : List Jvm.Cond) {w_n0 : Addr} (W : Wd Z w_n0) (p1 : Int32) (p2 : Int32) (p3 : Int32) (p4 : Int32) (p5 : Int32) (h0 : Heap) (n0 : Nat) (O0 : Old Z n0 h0) (hk : ((p1 &&& (7 : Int32)) % (5 : Int32)) = (4 : Int32)) :
    MetFree l x (head1 (Jvm.Cond.code x code maxLocals ret :: ws) room_1) (fun a U => a = #[(.int p1), (.int p2), (.int p3), (.int p4), (.int p5)] ∧ Z.Warmed39 U.vm ∧ U.heap = h0) (fun _ _ _ _ _ => True) (fun _ U o U' => ∃ v L, o = .returned v ∧ Q0 n0 v U'.heap L ∧ FrameEnd U o U' L room_1.cells room_1.slots) := by
  have W' := W; obtain ⟨S_n0, E_n0⟩ := W'
  refine MetFree.of_bodySF (plainFor_of_name pn_0) hisR ?_
  intro p e s m args below meth c s₁ Bd hml0 hP hK
  obtain ⟨rfl, hZ, hh⟩ := hP
  have hx := Bd.exec
  have hby := Bd.bytes
  have hml : c.maxLocals = 9 := hml0
  have hown : s.vm.findClass "com/example/keyfold/keyfold/client/ValueOfBinaryPinLaw" = some m.cls := findClass_of_methodNamed Bd.named
  have hnm := (name_of_methodNamed Bd.named Bd.method).1
  have X0 : Stand p l e room_1 s m #[(.int p1), (.int p2), (.int p3), (.int p4), (.int p5)] below meth c s₁ [] 0 0 := Stand.of_body Bd
  have e0 : s₁.heap = h0 := by rw [← hh, Bd.state]; rfl
  have N0 := Fr.nil n0
  have pre0 : ∀ t, Steps p.tables e below (s₁.setTop (mkF m 0 #[.val (.int p1), .val (.int p2), .val (.int p3), .val (.int p4), .val (.int p5), .unset, .unset, .unset, .unset] [])) t → Steps p.tables e below (s₁.setTop (entryFrame m #[(.int p1), (.int p2), (.int p3), (.int p4), (.int p5)] maxLocals)) t := fun t k => castTop (ef_0_6 m p1 p2 p3 p4 p5) k
  obtain ⟨T1, h1, k1, X1, e1, E1, A1, B1, st1⟩ := newPE X0 hx hZ (hw _ (List.mem_of_getElem? (i := 0) rfl)) e0 (g := (mkF m 10 #[.val (.int p1), .val (.int p2), .val (.int p3), .val (.int p4), .val (.int p5), .val (.int (4 : Int32)), .unset, .unset, .unset] [(.int (4 : Int32))])) rfl (hb hby at_10) rfl (by decide) (cap := 4) (by decide) (by decide) (by decide) (by decide) (ad := "[B") (by decide)
  obtain ⟨b1, g1⟩ : ∃ z, z = h0.size := ⟨_, rfl⟩
  rw [← g1] at A1 B1 st1
  have g_b1 : n0 ≤ b1 := by rw [g1]; exact O0.1 ▸ O0.2.1
  have O1 := O0.ext E1
  have fv1 : Arv Z h1 b1 k1 .byte (4 : Int32) [(.int (0 : Int32)), (.int (0 : Int32)), (.int (0 : Int32)), (.int (0 : Int32))] (.int (0 : Int32)) := (Arv.new A1 (by decide)).pad (pad_rep [] (.int (0 : Int32)) 4)
  obtain ⟨cl2, Ar2, qk2, Sz2, Nz2, Hs2, Gs2⟩ := id fv1
  have hin2 : ¬ ((0 : Int32) < 0 ∨ cl2.slots.size ≤ ((0 : Int32)).toNatClampNeg) := inb_of Sz2 ⟨by decide, by decide⟩
  obtain ⟨T3, h3, X3, e3, W3, st3⟩ := stB X1 hx hZ e1 Ar2 (j := (0 : Int32)) hin2  (g := (mkF m 24 #[.val (.int p1), .val (.int p2), .val (.int p3), .val (.int p4), .val (.int p5), .val (.int (4 : Int32)), .val (.ref b1), .unset, .unset] [(.int (p2.toInt8.toInt32)), (.int (0 : Int32)), (.ref b1)])) rfl rfl (hb hby at_24)
  rw [show nar .byte (p2.toInt8.toInt32) = (p2.toInt8.toInt32) from own_byte _] at W3
  have fw3 : Arv Z h3 b1 k1 .byte (4 : Int32) [(.int (p2.toInt8.toInt32)), (.int (0 : Int32)), (.int (0 : Int32)), (.int (0 : Int32))] (.int (0 : Int32)) := Arv.set Ar2 qk2 Sz2 Nz2 Hs2 Gs2 (fits_nar_byte _) W3 0 rfl (Nat.le_of_ble_eq_true rfl)
  have f3_0 : Exa Z h3 b1 "[B" := (B1).wr W3
  have O3 := O1.wr W3 g_b1
  have N3 := Fr.snoc X3 N0 g_b1
  obtain ⟨cl4, Ar4, qk4, Sz4, Nz4, Hs4, Gs4⟩ := id fw3
  have hin4 : ¬ ((1 : Int32) < 0 ∨ cl4.slots.size ≤ ((1 : Int32)).toNatClampNeg) := inb_of Sz4 ⟨by decide, by decide⟩
  obtain ⟨T5, h5, X5, e5, W5, st5⟩ := stB X3 hx hZ e3 Ar4 (j := (1 : Int32)) hin4  (g := (mkF m 36 #[.val (.int p1), .val (.int p2), .val (.int p3), .val (.int p4), .val (.int p5), .val (.int (4 : Int32)), .val (.ref b1), .unset, .unset] [(.int (p3.toInt8.toInt32)), (.int (1 : Int32)), (.ref b1)])) rfl rfl (hb hby at_36)
  rw [show nar .byte (p3.toInt8.toInt32) = (p3.toInt8.toInt32) from own_byte _] at W5
  have fw5 : Arv Z h5 b1 k1 .byte (4 : Int32) [(.int (p2.toInt8.toInt32)), (.int (p3.toInt8.toInt32)), (.int (0 : Int32)), (.int (0 : Int32))] (.int (0 : Int32)) := Arv.set Ar4 qk4 Sz4 Nz4 Hs4 Gs4 (fits_nar_byte _) W5 1 rfl (Nat.le_of_ble_eq_true rfl)
  have f5_0 : Exa Z h5 b1 "[B" := (f3_0).wr W5
  have O5 := O3.wr W5 g_b1
  have N5 := Fr.snoc X5 N3 g_b1
  obtain ⟨cl6, Ar6, qk6, Sz6, Nz6, Hs6, Gs6⟩ := id fw5
  have hin6 : ¬ ((2 : Int32) < 0 ∨ cl6.slots.size ≤ ((2 : Int32)).toNatClampNeg) := inb_of Sz6 ⟨by decide, by decide⟩
  obtain ⟨T7, h7, X7, e7, W7, st7⟩ := stB X5 hx hZ e5 Ar6 (j := (2 : Int32)) hin6  (g := (mkF m 48 #[.val (.int p1), .val (.int p2), .val (.int p3), .val (.int p4), .val (.int p5), .val (.int (4 : Int32)), .val (.ref b1), .unset, .unset] [(.int (p4.toInt8.toInt32)), (.int (2 : Int32)), (.ref b1)])) rfl rfl (hb hby at_48)
  rw [show nar .byte (p4.toInt8.toInt32) = (p4.toInt8.toInt32) from own_byte _] at W7
  have fw7 : Arv Z h7 b1 k1 .byte (4 : Int32) [(.int (p2.toInt8.toInt32)), (.int (p3.toInt8.toInt32)), (.int (p4.toInt8.toInt32)), (.int (0 : Int32))] (.int (0 : Int32)) := Arv.set Ar6 qk6 Sz6 Nz6 Hs6 Gs6 (fits_nar_byte _) W7 2 rfl (Nat.le_of_ble_eq_true rfl)
  have f7_0 : Exa Z h7 b1 "[B" := (f5_0).wr W7
  have O7 := O5.wr W7 g_b1
  have N7 := Fr.snoc X7 N5 g_b1
  obtain ⟨cl8, Ar8, qk8, Sz8, Nz8, Hs8, Gs8⟩ := id fw7
  have hin8 : ¬ ((3 : Int32) < 0 ∨ cl8.slots.size ≤ ((3 : Int32)).toNatClampNeg) := inb_of Sz8 ⟨by decide, by decide⟩
  obtain ⟨T9, h9, X9, e9, W9, st9⟩ := stB X7 hx hZ e7 Ar8 (j := (3 : Int32)) hin8  (g := (mkF m 61 #[.val (.int p1), .val (.int p2), .val (.int p3), .val (.int p4), .val (.int p5), .val (.int (4 : Int32)), .val (.ref b1), .unset, .unset] [(.int (p5.toInt8.toInt32)), (.int (3 : Int32)), (.ref b1)])) rfl rfl (hb hby at_61)
  rw [show nar .byte (p5.toInt8.toInt32) = (p5.toInt8.toInt32) from own_byte _] at W9
  have fw9 : Arv Z h9 b1 k1 .byte (4 : Int32) [(.int (p2.toInt8.toInt32)), (.int (p3.toInt8.toInt32)), (.int (p4.toInt8.toInt32)), (.int (p5.toInt8.toInt32))] (.int (0 : Int32)) := Arv.set Ar8 qk8 Sz8 Nz8 Hs8 Gs8 (fits_nar_byte _) W9 3 rfl (Nat.le_of_ble_eq_true rfl)
  have f9_0 : Exa Z h9 b1 "[B" := (f7_0).wr W9
  have O9 := O7.wr W9 g_b1
  have N9 := Fr.snoc X9 N7 g_b1
  obtain ⟨_, _, ⟨T10, L10, k10, n10⟩, -, X10, ⟨Lc10, hQ10, l10, y10, z10⟩, st10⟩ := Jvm.LawKit.callS X9 hx (y := (⟨"com/example/keyfold/keyfold/client/Value", "ofBinary", "([B)Lcom/example/keyfold/keyfold/client/Value;"⟩ : MethodName)) hown (mvT hZ (hw _ (List.mem_of_getElem? (i := 1) rfl))) (mvT hZ (hw _ (List.mem_of_getElem? (i := 2) rfl))) (mvT hZ (hw _ (List.mem_of_getElem? (i := 3) rfl))) (mvT hZ (hw _ (List.mem_of_getElem? (i := 4) rfl))) (by decide) (backOf (W := 0) (rm1_4 l Z a0 hw [] W b1 k1 (p2.toInt8.toInt32) (p3.toInt8.toInt32) (p4.toInt8.toInt32) (p5.toInt8.toInt32) h9 n0 O9 g_b1 f9_0 fw9) hZ (hw _ (List.mem_of_getElem? (i := 4) rfl)) (hw _ (List.mem_of_getElem? (i := 3) rfl)) (by decide) (by decide)) (g := (mkF m 64 #[.val (.int p1), .val (.int p2), .val (.int p3), .val (.int p4), .val (.int p5), .val (.int (4 : Int32)), .val (.ref b1), .unset, .unset] [(.ref b1)])) rfl (by rw [hml]; rfl) (argsL := [(.ref b1)]) (rest := []) (lenOf pd_2 rfl) rfl (by show 2 * 0 + _ ≤ _; exact Nat.le_of_eq rfl) (hb hby at_64) (fun _ _ => ⟨rfl, e9, (by decide : 1 + 2 ≤ _), (by decide : 4 + 6 ≤ _)⟩)
  dsimp only [Pt.U, Pt.locs, Pt.cells, Pt.slots] at X10 l10 y10 z10 st10 hQ10
  subst l10 y10 z10
  obtain ⟨N10q, hP10⟩ := hQ10
  have N10 := Fr.app N9 N10q
  obtain ⟨b10_b1, b10_b3, rfl, Kp10, g_b10_b1, si_b10_b1, g_b10_b3, si_b10_b3, fp10_0, fp10_1, fp10_2, fp10_3, fp10_4⟩ := hP10
  have f10_0 : Exa Z T10.heap b1 "[B" := (f9_0).keep Kp10
  have f10_1 : Arv Z T10.heap b1 k1 .byte (4 : Int32) [(.int (p2.toInt8.toInt32)), (.int (p3.toInt8.toInt32)), (.int (p4.toInt8.toInt32)), (.int (p5.toInt8.toInt32))] (.int (0 : Int32)) := (fw9).keep Kp10 nin0
  have O10 := O9.keep Kp10 all0
  obtain ⟨cl11, Ar11, qk11, Sz11, Nz11, Hs11, Gs11⟩ := id f10_1
  have hin11 : ¬ ((0 : Int32) < 0 ∨ cl11.slots.size ≤ ((0 : Int32)).toNatClampNeg) := inb_of Sz11 ⟨by decide, by decide⟩
  have hat11 : cl11.slots[((0 : Int32)).toNatClampNeg]? = some (.int (p2.toInt8.toInt32)) := Has.at Hs11 hin11 rfl
  obtain ⟨cl12, Ar12, qk12, Sz12, Nz12, Hs12, Gs12⟩ := id f10_1
  have hin12 : ¬ ((0 : Int32) < 0 ∨ cl12.slots.size ≤ ((0 : Int32)).toNatClampNeg) := inb_of Sz12 ⟨by decide, by decide⟩
  obtain ⟨T13, h13, X13, e13, W13, st13⟩ := stB X10 hx hZ rfl Ar12 (j := (0 : Int32)) hin12  (g := (mkF m 84 #[.val (.int p1), .val (.int p2), .val (.int p3), .val (.int p4), .val (.int p5), .val (.int (4 : Int32)), .val (.ref b1), .val (.ref b10_b1), .unset] [(.int (((p2.toInt8.toInt32) ^^^ (1 : Int32)).toInt8.toInt32)), (.int (0 : Int32)), (.ref b1)])) rfl rfl (hb hby at_84)
  rw [show nar .byte (((p2.toInt8.toInt32) ^^^ (1 : Int32)).toInt8.toInt32) = (((p2.toInt8.toInt32) ^^^ (1 : Int32)).toInt8.toInt32) from own_byte _] at W13
  have fw13 : Arv Z h13 b1 k1 .byte (4 : Int32) [(.int (((p2.toInt8.toInt32) ^^^ (1 : Int32)).toInt8.toInt32)), (.int (p3.toInt8.toInt32)), (.int (p4.toInt8.toInt32)), (.int (p5.toInt8.toInt32))] (.int (0 : Int32)) := Arv.set Ar12 qk12 Sz12 Nz12 Hs12 Gs12 (fits_nar_byte _) W13 0 rfl (Nat.le_of_ble_eq_true rfl)
  have f13_0 : Exa Z h13 b1 "[B" := (f10_0).wr W13
  have f13_1 : Exa Z h13 b10_b1 "com/example/keyfold/keyfold/client/Value" := (fp10_0).wr W13
  have f13_2 : Fld Z h13 b10_b1 "com/example/keyfold/keyfold/client/Value" "type" "Lcom/example/keyfold/keyfold/client/ValueType;" (.ref w_n0) := (fp10_1).other W13 (Or.inl (ne_exa fp10_0 f10_0 (by decide)))
  have f13_3 : Fld Z h13 b10_b1 "com/example/keyfold/keyfold/client/Value" "content" "Ljava/lang/Object;" (.ref b10_b3) := (fp10_2).other W13 (Or.inl (ne_exa fp10_0 f10_0 (by decide)))
  have f13_4 : Exa Z h13 b10_b3 "[B" := (fp10_3).wr W13
  have f13_5 : Arv Z h13 b10_b3 k1 .byte (4 : Int32) [(.int (p2.toInt8.toInt32)), (.int (p3.toInt8.toInt32)), (.int (p4.toInt8.toInt32)), (.int (p5.toInt8.toInt32))] (.int (0 : Int32)) := (fp10_4).other W13 (Ne.symm (Nat.ne_of_lt (Nat.lt_of_lt_of_le (f9_0).lt si_b10_b3)))
  have O13 := O10.wr W13 g_b1
  have N13 := Fr.snoc X13 N10 g_b1
  obtain ⟨cl14, Ar14, qk14, Sz14, Nz14, Hs14, Gs14⟩ := id fw13
  have hin14 : ¬ ((1 : Int32) < 0 ∨ cl14.slots.size ≤ ((1 : Int32)).toNatClampNeg) := inb_of Sz14 ⟨by decide, by decide⟩
  have hat14 : cl14.slots[((1 : Int32)).toNatClampNeg]? = some (.int (p3.toInt8.toInt32)) := Has.at Hs14 hin14 rfl
  obtain ⟨cl15, Ar15, qk15, Sz15, Nz15, Hs15, Gs15⟩ := id fw13
  have hin15 : ¬ ((1 : Int32) < 0 ∨ cl15.slots.size ≤ ((1 : Int32)).toNatClampNeg) := inb_of Sz15 ⟨by decide, by decide⟩
  obtain ⟨T16, h16, X16, e16, W16, st16⟩ := stB X13 hx hZ e13 Ar15 (j := (1 : Int32)) hin15  (g := (mkF m 101 #[.val (.int p1), .val (.int p2), .val (.int p3), .val (.int p4), .val (.int p5), .val (.int (4 : Int32)), .val (.ref b1), .val (.ref b10_b1), .unset] [(.int (((p3.toInt8.toInt32) ^^^ (1 : Int32)).toInt8.toInt32)), (.int (1 : Int32)), (.ref b1)])) rfl rfl (hb hby at_101)
  rw [show nar .byte (((p3.toInt8.toInt32) ^^^ (1 : Int32)).toInt8.toInt32) = (((p3.toInt8.toInt32) ^^^ (1 : Int32)).toInt8.toInt32) from own_byte _] at W16
  have fw16 : Arv Z h16 b1 k1 .byte (4 : Int32) [(.int (((p2.toInt8.toInt32) ^^^ (1 : Int32)).toInt8.toInt32)), (.int (((p3.toInt8.toInt32) ^^^ (1 : Int32)).toInt8.toInt32)), (.int (p4.toInt8.toInt32)), (.int (p5.toInt8.toInt32))] (.int (0 : Int32)) := Arv.set Ar15 qk15 Sz15 Nz15 Hs15 Gs15 (fits_nar_byte _) W16 1 rfl (Nat.le_of_ble_eq_true rfl)
  have f16_0 : Exa Z h16 b1 "[B" := (f13_0).wr W16
  have f16_1 : Exa Z h16 b10_b1 "com/example/keyfold/keyfold/client/Value" := (f13_1).wr W16
  have f16_2 : Fld Z h16 b10_b1 "com/example/keyfold/keyfold/client/Value" "type" "Lcom/example/keyfold/keyfold/client/ValueType;" (.ref w_n0) := (f13_2).other W16 (Or.inl (ne_exa f13_1 f13_0 (by decide)))
  have f16_3 : Fld Z h16 b10_b1 "com/example/keyfold/keyfold/client/Value" "content" "Ljava/lang/Object;" (.ref b10_b3) := (f13_3).other W16 (Or.inl (ne_exa f13_1 f13_0 (by decide)))
  have f16_4 : Exa Z h16 b10_b3 "[B" := (f13_4).wr W16
  have f16_5 : Arv Z h16 b10_b3 k1 .byte (4 : Int32) [(.int (p2.toInt8.toInt32)), (.int (p3.toInt8.toInt32)), (.int (p4.toInt8.toInt32)), (.int (p5.toInt8.toInt32))] (.int (0 : Int32)) := (f13_5).other W16 (Ne.symm (Nat.ne_of_lt (Nat.lt_of_lt_of_le (f9_0).lt si_b10_b3)))
  have O16 := O13.wr W16 g_b1
  have N16 := Fr.snoc X16 N13 g_b1
  obtain ⟨cl17, Ar17, qk17, Sz17, Nz17, Hs17, Gs17⟩ := id fw16
  have hin17 : ¬ ((2 : Int32) < 0 ∨ cl17.slots.size ≤ ((2 : Int32)).toNatClampNeg) := inb_of Sz17 ⟨by decide, by decide⟩
  have hat17 : cl17.slots[((2 : Int32)).toNatClampNeg]? = some (.int (p4.toInt8.toInt32)) := Has.at Hs17 hin17 rfl
  obtain ⟨cl18, Ar18, qk18, Sz18, Nz18, Hs18, Gs18⟩ := id fw16
  have hin18 : ¬ ((2 : Int32) < 0 ∨ cl18.slots.size ≤ ((2 : Int32)).toNatClampNeg) := inb_of Sz18 ⟨by decide, by decide⟩
  obtain ⟨T19, h19, X19, e19, W19, st19⟩ := stB X16 hx hZ e16 Ar18 (j := (2 : Int32)) hin18  (g := (mkF m 118 #[.val (.int p1), .val (.int p2), .val (.int p3), .val (.int p4), .val (.int p5), .val (.int (4 : Int32)), .val (.ref b1), .val (.ref b10_b1), .unset] [(.int (((p4.toInt8.toInt32) ^^^ (1 : Int32)).toInt8.toInt32)), (.int (2 : Int32)), (.ref b1)])) rfl rfl (hb hby at_118)
  rw [show nar .byte (((p4.toInt8.toInt32) ^^^ (1 : Int32)).toInt8.toInt32) = (((p4.toInt8.toInt32) ^^^ (1 : Int32)).toInt8.toInt32) from own_byte _] at W19
  have fw19 : Arv Z h19 b1 k1 .byte (4 : Int32) [(.int (((p2.toInt8.toInt32) ^^^ (1 : Int32)).toInt8.toInt32)), (.int (((p3.toInt8.toInt32) ^^^ (1 : Int32)).toInt8.toInt32)), (.int (((p4.toInt8.toInt32) ^^^ (1 : Int32)).toInt8.toInt32)), (.int (p5.toInt8.toInt32))] (.int (0 : Int32)) := Arv.set Ar18 qk18 Sz18 Nz18 Hs18 Gs18 (fits_nar_byte _) W19 2 rfl (Nat.le_of_ble_eq_true rfl)
  have f19_0 : Exa Z h19 b1 "[B" := (f16_0).wr W19
  have f19_1 : Exa Z h19 b10_b1 "com/example/keyfold/keyfold/client/Value" := (f16_1).wr W19
  have f19_2 : Fld Z h19 b10_b1 "com/example/keyfold/keyfold/client/Value" "type" "Lcom/example/keyfold/keyfold/client/ValueType;" (.ref w_n0) := (f16_2).other W19 (Or.inl (ne_exa f16_1 f16_0 (by decide)))
  have f19_3 : Fld Z h19 b10_b1 "com/example/keyfold/keyfold/client/Value" "content" "Ljava/lang/Object;" (.ref b10_b3) := (f16_3).other W19 (Or.inl (ne_exa f16_1 f16_0 (by decide)))
  have f19_4 : Exa Z h19 b10_b3 "[B" := (f16_4).wr W19
  have f19_5 : Arv Z h19 b10_b3 k1 .byte (4 : Int32) [(.int (p2.toInt8.toInt32)), (.int (p3.toInt8.toInt32)), (.int (p4.toInt8.toInt32)), (.int (p5.toInt8.toInt32))] (.int (0 : Int32)) := (f16_5).other W19 (Ne.symm (Nat.ne_of_lt (Nat.lt_of_lt_of_le (f9_0).lt si_b10_b3)))
  have O19 := O16.wr W19 g_b1
  have N19 := Fr.snoc X19 N16 g_b1
  obtain ⟨cl20, Ar20, qk20, Sz20, Nz20, Hs20, Gs20⟩ := id fw19
  have hin20 : ¬ ((3 : Int32) < 0 ∨ cl20.slots.size ≤ ((3 : Int32)).toNatClampNeg) := inb_of Sz20 ⟨by decide, by decide⟩
  have hat20 : cl20.slots[((3 : Int32)).toNatClampNeg]? = some (.int (p5.toInt8.toInt32)) := Has.at Hs20 hin20 rfl
  obtain ⟨cl21, Ar21, qk21, Sz21, Nz21, Hs21, Gs21⟩ := id fw19
  have hin21 : ¬ ((3 : Int32) < 0 ∨ cl21.slots.size ≤ ((3 : Int32)).toNatClampNeg) := inb_of Sz21 ⟨by decide, by decide⟩
  obtain ⟨T22, h22, X22, e22, W22, st22⟩ := stB X19 hx hZ e19 Ar21 (j := (3 : Int32)) hin21  (g := (mkF m 135 #[.val (.int p1), .val (.int p2), .val (.int p3), .val (.int p4), .val (.int p5), .val (.int (4 : Int32)), .val (.ref b1), .val (.ref b10_b1), .unset] [(.int (((p5.toInt8.toInt32) ^^^ (1 : Int32)).toInt8.toInt32)), (.int (3 : Int32)), (.ref b1)])) rfl rfl (hb hby at_135)
  rw [show nar .byte (((p5.toInt8.toInt32) ^^^ (1 : Int32)).toInt8.toInt32) = (((p5.toInt8.toInt32) ^^^ (1 : Int32)).toInt8.toInt32) from own_byte _] at W22
  have fw22 : Arv Z h22 b1 k1 .byte (4 : Int32) [(.int (((p2.toInt8.toInt32) ^^^ (1 : Int32)).toInt8.toInt32)), (.int (((p3.toInt8.toInt32) ^^^ (1 : Int32)).toInt8.toInt32)), (.int (((p4.toInt8.toInt32) ^^^ (1 : Int32)).toInt8.toInt32)), (.int (((p5.toInt8.toInt32) ^^^ (1 : Int32)).toInt8.toInt32))] (.int (0 : Int32)) := Arv.set Ar21 qk21 Sz21 Nz21 Hs21 Gs21 (fits_nar_byte _) W22 3 rfl (Nat.le_of_ble_eq_true rfl)
  have f22_0 : Exa Z h22 b1 "[B" := (f19_0).wr W22
  have f22_1 : Exa Z h22 b10_b1 "com/example/keyfold/keyfold/client/Value" := (f19_1).wr W22
  have f22_2 : Fld Z h22 b10_b1 "com/example/keyfold/keyfold/client/Value" "type" "Lcom/example/keyfold/keyfold/client/ValueType;" (.ref w_n0) := (f19_2).other W22 (Or.inl (ne_exa f19_1 f19_0 (by decide)))
  have f22_3 : Fld Z h22 b10_b1 "com/example/keyfold/keyfold/client/Value" "content" "Ljava/lang/Object;" (.ref b10_b3) := (f19_3).other W22 (Or.inl (ne_exa f19_1 f19_0 (by decide)))
  have f22_4 : Exa Z h22 b10_b3 "[B" := (f19_4).wr W22
  have f22_5 : Arv Z h22 b10_b3 k1 .byte (4 : Int32) [(.int (p2.toInt8.toInt32)), (.int (p3.toInt8.toInt32)), (.int (p4.toInt8.toInt32)), (.int (p5.toInt8.toInt32))] (.int (0 : Int32)) := (f19_5).other W22 (Ne.symm (Nat.ne_of_lt (Nat.lt_of_lt_of_le (f9_0).lt si_b10_b3)))
  have O22 := O19.wr W22 g_b1
  have N22 := Fr.snoc X22 N19 g_b1
  obtain ⟨cq23, kq23, q23a, q23b, q23c⟩ := isOf hZ e22 f22_1
  obtain ⟨_, _, ⟨T23, L23, k23, n23⟩, -, X23, ⟨Lc23, hQ23, l23, y23, z23⟩, st23⟩ := X22.virtualBack hx (y := (⟨"com/example/keyfold/keyfold/client/Value", "type", "()Lcom/example/keyfold/keyfold/client/ValueType;"⟩ : MethodName)) (z := (⟨"com/example/keyfold/keyfold/client/Value", "type", "()Lcom/example/keyfold/keyfold/client/ValueType;"⟩ : MethodName)) hown (mvT hZ (hw _ (List.mem_of_getElem? (i := 27) rfl))) (mvT hZ (hw _ (List.mem_of_getElem? (i := 28) rfl))) (notFace_of_selects (args := #[]) (mvT hZ (hw _ (List.mem_of_getElem? (i := 30) rfl)))) (mvT hZ (hw _ (List.mem_of_getElem? (i := 30) rfl))) (mvT hZ (hw _ (List.mem_of_getElem? (i := 29) rfl))) (by decide) (backOf (W := 0) (rm4 l Z a0 hw [] W b10_b1 h22 n0 O22 f22_2) hZ (hw _ (List.mem_of_getElem? (i := 31) rfl)) (hw _ (List.mem_of_getElem? (i := 3) rfl)) (by decide) (by decide)) q23a q23c (g := (mkF m 138 #[.val (.int p1), .val (.int p2), .val (.int p3), .val (.int p4), .val (.int p5), .val (.int (4 : Int32)), .val (.ref b1), .val (.ref b10_b1), .unset] [(.ref b10_b1)])) rfl (by rw [hml]; rfl) (Steps.refl _) (argsL := []) (rest := []) (lenOf pd_3 rfl) rfl (by show 2 * 0 + _ ≤ _; exact Nat.le_of_eq rfl) (hb hby at_138) (fun _ _ => ⟨rfl, e22, (by decide : 3 + 0 ≤ _), (by decide : 10 + 0 ≤ _)⟩)
  dsimp only [Pt.U, Pt.locs, Pt.cells, Pt.slots] at X23 l23 y23 z23 st23 hQ23
  subst l23 y23 z23
  obtain ⟨rfl, N23q, e23⟩ := hQ23
  have N23 := Fr.app N22 N23q
  obtain ⟨T24, X24, e24, st24⟩ := getS2 X23 hx hZ hown (host := "") (Or.inl (hw _ (List.mem_of_getElem? (i := 32) rfl))) Via.refl e23 (S_n0.ext O22.2) (g := (mkF m 141 #[.val (.int p1), .val (.int p2), .val (.int p3), .val (.int p4), .val (.int p5), .val (.int (4 : Int32)), .val (.ref b1), .val (.ref b10_b1), .unset] [(.ref w_n0)])) rfl (hb hby at_141)
  obtain ⟨cq25, kq25, q25a, q25b, q25c⟩ := isOf hZ e24 f22_1
  obtain ⟨_, _, ⟨T25, L25, k25, n25⟩, -, X25, ⟨Lc25, hQ25, l25, y25, z25⟩, st25⟩ := X24.virtualBack hx (y := (⟨"com/example/keyfold/keyfold/client/Value", "asBinary", "()[B"⟩ : MethodName)) (z := (⟨"com/example/keyfold/keyfold/client/Value", "asBinary", "()[B"⟩ : MethodName)) hown (mvT hZ (hw _ (List.mem_of_getElem? (i := 33) rfl))) (mvT hZ (hw _ (List.mem_of_getElem? (i := 34) rfl))) (notFace_of_selects (args := #[]) (mvT hZ (hw _ (List.mem_of_getElem? (i := 36) rfl)))) (mvT hZ (hw _ (List.mem_of_getElem? (i := 36) rfl))) (mvT hZ (hw _ (List.mem_of_getElem? (i := 35) rfl))) (by decide) (backOf (W := 0) (rm5_4 l Z a0 hw [] W b10_b1 b10_b3 k1 (p2.toInt8.toInt32) (p3.toInt8.toInt32) (p4.toInt8.toInt32) (p5.toInt8.toInt32) h22 n0 O22 g_b10_b1 f22_1 f22_2 f22_3 g_b10_b3 f22_4 f22_5) hZ (hw _ (List.mem_of_getElem? (i := 37) rfl)) (hw _ (List.mem_of_getElem? (i := 3) rfl)) (by decide) (by decide)) q25a q25c (g := (mkF m 151 #[.val (.int p1), .val (.int p2), .val (.int p3), .val (.int p4), .val (.int p5), .val (.int (4 : Int32)), .val (.ref b1), .val (.ref b10_b1), .unset] [(.ref b10_b1)])) rfl (by rw [hml]; rfl) (Steps.refl _) (argsL := []) (rest := []) (lenOf pd_4 rfl) rfl (by show 2 * 0 + _ ≤ _; exact Nat.le_of_eq rfl) (hb hby at_151) (fun _ _ => ⟨rfl, e24, (by decide : 3 + 1 ≤ _), (by decide : 10 + 4 ≤ _)⟩)
  dsimp only [Pt.U, Pt.locs, Pt.cells, Pt.slots] at X25 l25 y25 z25 st25 hQ25
  subst l25 y25 z25
  obtain ⟨N25q, hP25⟩ := hQ25
  have N25 := Fr.app N23 N25q
  obtain ⟨b25_b4, rfl, Kp25, g_b25_b4, si_b25_b4, fp25_0, fp25_1⟩ := hP25
  have f25_0 : Exa Z T25.heap b1 "[B" := (f22_0).keep Kp25
  have f25_1 : Exa Z T25.heap b10_b1 "com/example/keyfold/keyfold/client/Value" := (f22_1).keep Kp25
  have f25_2 : Fld Z T25.heap b10_b1 "com/example/keyfold/keyfold/client/Value" "type" "Lcom/example/keyfold/keyfold/client/ValueType;" (.ref w_n0) := (f22_2).keep Kp25 nin0
  have f25_3 : Fld Z T25.heap b10_b1 "com/example/keyfold/keyfold/client/Value" "content" "Ljava/lang/Object;" (.ref b10_b3) := (f22_3).keep Kp25 nin0
  have f25_4 : Exa Z T25.heap b10_b3 "[B" := (f22_4).keep Kp25
  have f25_5 : Arv Z T25.heap b10_b3 k1 .byte (4 : Int32) [(.int (p2.toInt8.toInt32)), (.int (p3.toInt8.toInt32)), (.int (p4.toInt8.toInt32)), (.int (p5.toInt8.toInt32))] (.int (0 : Int32)) := (f22_5).keep Kp25 nin0
  have f25_6 : Arv Z T25.heap b1 k1 .byte (4 : Int32) [(.int (((p2.toInt8.toInt32) ^^^ (1 : Int32)).toInt8.toInt32)), (.int (((p3.toInt8.toInt32) ^^^ (1 : Int32)).toInt8.toInt32)), (.int (((p4.toInt8.toInt32) ^^^ (1 : Int32)).toInt8.toInt32)), (.int (((p5.toInt8.toInt32) ^^^ (1 : Int32)).toInt8.toInt32))] (.int (0 : Int32)) := (fw22).keep Kp25 nin0
  have O25 := O22.keep Kp25 all0
  obtain ⟨cl26, Ar26, qk26, Sz26, Nz26, Hs26, Gs26⟩ := id fp25_1
  obtain ⟨_, _, ⟨T27, L27, k27, n27⟩, -, X27, ⟨Lc27, hQ27, l27, y27, z27⟩, st27⟩ := Jvm.LawKit.callS X25 hx (y := (⟨"com/example/keyfold/keyfold/client/ValueOfBinaryPinLaw", "at", "([BII)Z"⟩ : MethodName)) hown (mvT hZ (hw _ (List.mem_of_getElem? (i := 44) rfl))) (mvT hZ (hw _ (List.mem_of_getElem? (i := 45) rfl))) (mvT hZ (hw _ (List.mem_of_getElem? (i := 46) rfl))) (mvT hZ (hw _ (List.mem_of_getElem? (i := 47) rfl))) (by decide) (backOf (W := 0) (rm7_4_0 l Z a0 hw [] W b25_b4 p2 k1 (p2.toInt8.toInt32) (p3.toInt8.toInt32) (p4.toInt8.toInt32) (p5.toInt8.toInt32) T25.heap n0 O25 rfl fp25_1) hZ (hw _ (List.mem_of_getElem? (i := 47) rfl)) (hw _ (List.mem_of_getElem? (i := 46) rfl)) (by decide) (by decide)) (g := (mkF m 170 #[.val (.int p1), .val (.int p2), .val (.int p3), .val (.int p4), .val (.int p5), .val (.int (4 : Int32)), .val (.ref b1), .val (.ref b10_b1), .val (.ref b25_b4)] [(.int p2), (.int (0 : Int32)), (.ref b25_b4)])) rfl (by rw [hml]; rfl) (argsL := [(.ref b25_b4), (.int (0 : Int32)), (.int p2)]) (rest := []) (lenOf pd_5 rfl) rfl (by show 2 * 0 + _ ≤ _; exact Nat.le_of_eq rfl) (hb hby at_170) (fun _ _ => ⟨rfl, rfl, (by decide : 4 + 0 ≤ _), (by decide : 14 + 0 ≤ _)⟩)
  dsimp only [Pt.U, Pt.locs, Pt.cells, Pt.slots] at X27 l27 y27 z27 st27 hQ27
  subst l27 y27 z27
  obtain ⟨rfl, N27q, e27⟩ := hQ27
  have N27 := Fr.app N25 N27q
  obtain ⟨_, _, ⟨T28, L28, k28, n28⟩, -, X28, ⟨Lc28, hQ28, l28, y28, z28⟩, st28⟩ := Jvm.LawKit.callS X27 hx (y := (⟨"com/example/keyfold/keyfold/client/ValueOfBinaryPinLaw", "at", "([BII)Z"⟩ : MethodName)) hown (mvT hZ (hw _ (List.mem_of_getElem? (i := 44) rfl))) (mvT hZ (hw _ (List.mem_of_getElem? (i := 45) rfl))) (mvT hZ (hw _ (List.mem_of_getElem? (i := 46) rfl))) (mvT hZ (hw _ (List.mem_of_getElem? (i := 47) rfl))) (by decide) (backOf (W := 0) (rm7_4_1 l Z a0 hw [] W b25_b4 p3 k1 (p2.toInt8.toInt32) (p3.toInt8.toInt32) (p4.toInt8.toInt32) (p5.toInt8.toInt32) T25.heap n0 O25 rfl fp25_1) hZ (hw _ (List.mem_of_getElem? (i := 47) rfl)) (hw _ (List.mem_of_getElem? (i := 46) rfl)) (by decide) (by decide)) (g := (mkF m 180 #[.val (.int p1), .val (.int p2), .val (.int p3), .val (.int p4), .val (.int p5), .val (.int (4 : Int32)), .val (.ref b1), .val (.ref b10_b1), .val (.ref b25_b4)] [(.int p3), (.int (1 : Int32)), (.ref b25_b4)])) rfl (by rw [hml]; rfl) (argsL := [(.ref b25_b4), (.int (1 : Int32)), (.int p3)]) (rest := []) (lenOf pd_5 rfl) rfl (by show 2 * 0 + _ ≤ _; exact Nat.le_of_eq rfl) (hb hby at_180) (fun _ _ => ⟨rfl, e27, (by decide : 4 + 0 ≤ _), (by decide : 14 + 0 ≤ _)⟩)
  dsimp only [Pt.U, Pt.locs, Pt.cells, Pt.slots] at X28 l28 y28 z28 st28 hQ28
  subst l28 y28 z28
  obtain ⟨rfl, N28q, e28⟩ := hQ28
  have N28 := Fr.app N27 N28q
  obtain ⟨_, _, ⟨T29, L29, k29, n29⟩, -, X29, ⟨Lc29, hQ29, l29, y29, z29⟩, st29⟩ := Jvm.LawKit.callS X28 hx (y := (⟨"com/example/keyfold/keyfold/client/ValueOfBinaryPinLaw", "at", "([BII)Z"⟩ : MethodName)) hown (mvT hZ (hw _ (List.mem_of_getElem? (i := 44) rfl))) (mvT hZ (hw _ (List.mem_of_getElem? (i := 45) rfl))) (mvT hZ (hw _ (List.mem_of_getElem? (i := 46) rfl))) (mvT hZ (hw _ (List.mem_of_getElem? (i := 47) rfl))) (by decide) (backOf (W := 0) (rm7_4_2 l Z a0 hw [] W b25_b4 p4 k1 (p2.toInt8.toInt32) (p3.toInt8.toInt32) (p4.toInt8.toInt32) (p5.toInt8.toInt32) T25.heap n0 O25 rfl fp25_1) hZ (hw _ (List.mem_of_getElem? (i := 47) rfl)) (hw _ (List.mem_of_getElem? (i := 46) rfl)) (by decide) (by decide)) (g := (mkF m 190 #[.val (.int p1), .val (.int p2), .val (.int p3), .val (.int p4), .val (.int p5), .val (.int (4 : Int32)), .val (.ref b1), .val (.ref b10_b1), .val (.ref b25_b4)] [(.int p4), (.int (2 : Int32)), (.ref b25_b4)])) rfl (by rw [hml]; rfl) (argsL := [(.ref b25_b4), (.int (2 : Int32)), (.int p4)]) (rest := []) (lenOf pd_5 rfl) rfl (by show 2 * 0 + _ ≤ _; exact Nat.le_of_eq rfl) (hb hby at_190) (fun _ _ => ⟨rfl, e28, (by decide : 4 + 0 ≤ _), (by decide : 14 + 0 ≤ _)⟩)
  dsimp only [Pt.U, Pt.locs, Pt.cells, Pt.slots] at X29 l29 y29 z29 st29 hQ29
  subst l29 y29 z29
  obtain ⟨rfl, N29q, e29⟩ := hQ29
  have N29 := Fr.app N28 N29q
  obtain ⟨_, _, ⟨T30, L30, k30, n30⟩, -, X30, ⟨Lc30, hQ30, l30, y30, z30⟩, st30⟩ := Jvm.LawKit.callS X29 hx (y := (⟨"com/example/keyfold/keyfold/client/ValueOfBinaryPinLaw", "at", "([BII)Z"⟩ : MethodName)) hown (mvT hZ (hw _ (List.mem_of_getElem? (i := 44) rfl))) (mvT hZ (hw _ (List.mem_of_getElem? (i := 45) rfl))) (mvT hZ (hw _ (List.mem_of_getElem? (i := 46) rfl))) (mvT hZ (hw _ (List.mem_of_getElem? (i := 47) rfl))) (by decide) (backOf (W := 0) (rm7_4_3 l Z a0 hw [] W b25_b4 p5 k1 (p2.toInt8.toInt32) (p3.toInt8.toInt32) (p4.toInt8.toInt32) (p5.toInt8.toInt32) T25.heap n0 O25 rfl fp25_1) hZ (hw _ (List.mem_of_getElem? (i := 47) rfl)) (hw _ (List.mem_of_getElem? (i := 46) rfl)) (by decide) (by decide)) (g := (mkF m 201 #[.val (.int p1), .val (.int p2), .val (.int p3), .val (.int p4), .val (.int p5), .val (.int (4 : Int32)), .val (.ref b1), .val (.ref b10_b1), .val (.ref b25_b4)] [(.int p5), (.int (3 : Int32)), (.ref b25_b4)])) rfl (by rw [hml]; rfl) (argsL := [(.ref b25_b4), (.int (3 : Int32)), (.int p5)]) (rest := []) (lenOf pd_5 rfl) rfl (by show 2 * 0 + _ ≤ _; exact Nat.le_of_eq rfl) (hb hby at_201) (fun _ _ => ⟨rfl, e29, (by decide : 4 + 0 ≤ _), (by decide : 14 + 0 ≤ _)⟩)
  dsimp only [Pt.U, Pt.locs, Pt.cells, Pt.slots] at X30 l30 y30 z30 st30 hQ30
  subst l30 y30 z30
  obtain ⟨rfl, N30q, e30⟩ := hQ30
  have N30 := Fr.app N29 N30q
  obtain ⟨fs, hr, hrun, hended, hW, hsame⟩ := X30.leave (v := some (.int (1 : Int32))) (fun h => by rw [Bd.returns] at h; cases h)
  refine ⟨_, _, pre0 _ ?_, hrun, hended, _, _, rfl, ?_, ⟨_, rfl⟩, hW, hsame.mono (by decide) (by decide)⟩
  · show Steps p.tables e below (s₁.setTop (mkF m 0 #[.val (.int p1), .val (.int p2), .val (.int p3), .val (.int p4), .val (.int p5), .unset, .unset, .unset, .unset] [])) _
    refine XS.iloadN X0.here hx rfl (hb hby at_0) rfl ?_
    show Steps p.tables e below (s₁.setTop (mkF m 1 #[.val (.int p1), .val (.int p2), .val (.int p3), .val (.int p4), .val (.int p5), .unset, .unset, .unset, .unset] [(.int p1)])) _
    refine XS.bipush X0.here hx rfl (hb hby at_1) ?_
    show Steps p.tables e below (s₁.setTop (mkF m 3 #[.val (.int p1), .val (.int p2), .val (.int p3), .val (.int p4), .val (.int p5), .unset, .unset, .unset, .unset] [(.int (7 : Int32)), (.int p1)])) _
    refine XS.iand X0.here hx rfl (hb hby at_3) rfl ?_
    show Steps p.tables e below (s₁.setTop (mkF m 4 #[.val (.int p1), .val (.int p2), .val (.int p3), .val (.int p4), .val (.int p5), .unset, .unset, .unset, .unset] [(.int (p1 &&& (7 : Int32)))])) _
    refine XS.iconst X0.here hx rfl (hb hby at_4) ?_
    show Steps p.tables e below (s₁.setTop (mkF m 5 #[.val (.int p1), .val (.int p2), .val (.int p3), .val (.int p4), .val (.int p5), .unset, .unset, .unset, .unset] [(.int (5 : Int32)), (.int (p1 &&& (7 : Int32)))])) _
    refine iremM X0 hx rfl (hb hby at_5) rfl (by decide) ?_
    show Steps p.tables e below (s₁.setTop (mkF m 6 #[.val (.int p1), .val (.int p2), .val (.int p3), .val (.int p4), .val (.int p5), .unset, .unset, .unset, .unset] [(.int ((p1 &&& (7 : Int32)) % (5 : Int32)))])) _
    rw [hk]
    show Steps p.tables e below (s₁.setTop (mkF m 6 #[.val (.int p1), .val (.int p2), .val (.int p3), .val (.int p4), .val (.int p5), .unset, .unset, .unset, .unset] [(.int (4 : Int32))])) _
    refine XS.istore X0.here hx rfl (hb hby at_6) rfl (l' := #[.val (.int p1), .val (.int p2), .val (.int p3), .val (.int p4), .val (.int p5), .val (.int (4 : Int32)), .unset, .unset, .unset]) rfl ?_
    show Steps p.tables e below (s₁.setTop (mkF m 8 #[.val (.int p1), .val (.int p2), .val (.int p3), .val (.int p4), .val (.int p5), .val (.int (4 : Int32)), .unset, .unset, .unset] [])) _
    refine XS.iload X0.here hx rfl (hb hby at_8) rfl ?_
    show Steps p.tables e below (s₁.setTop (mkF m 10 #[.val (.int p1), .val (.int p2), .val (.int p3), .val (.int p4), .val (.int p5), .val (.int (4 : Int32)), .unset, .unset, .unset] [(.int (4 : Int32))])) _
    refine st1 _ ?_
    show Steps p.tables e below (T1.setTop (mkF m 12 #[.val (.int p1), .val (.int p2), .val (.int p3), .val (.int p4), .val (.int p5), .val (.int (4 : Int32)), .unset, .unset, .unset] [(.ref b1)])) _
    refine XS.astore X1.here hx rfl (hb hby at_12) rfl rfl (l' := #[.val (.int p1), .val (.int p2), .val (.int p3), .val (.int p4), .val (.int p5), .val (.int (4 : Int32)), .val (.ref b1), .unset, .unset]) rfl ?_
    show Steps p.tables e below (T1.setTop (mkF m 14 #[.val (.int p1), .val (.int p2), .val (.int p3), .val (.int p4), .val (.int p5), .val (.int (4 : Int32)), .val (.ref b1), .unset, .unset] [])) _
    refine XS.iload X1.here hx rfl (hb hby at_14) rfl ?_
    show Steps p.tables e below (T1.setTop (mkF m 16 #[.val (.int p1), .val (.int p2), .val (.int p3), .val (.int p4), .val (.int p5), .val (.int (4 : Int32)), .val (.ref b1), .unset, .unset] [(.int (4 : Int32))])) _
    refine XS.ifNo X1.here hx rfl (hb hby at_16) rfl ((if0 _ _).trans (tlt ((by decide) : (0 : Int32) < (4 : Int32))).2.2.2) ?_
    show Steps p.tables e below (T1.setTop (mkF m 19 #[.val (.int p1), .val (.int p2), .val (.int p3), .val (.int p4), .val (.int p5), .val (.int (4 : Int32)), .val (.ref b1), .unset, .unset] [])) _
    refine XS.aload X1.here hx rfl (hb hby at_19) rfl rfl ?_
    show Steps p.tables e below (T1.setTop (mkF m 21 #[.val (.int p1), .val (.int p2), .val (.int p3), .val (.int p4), .val (.int p5), .val (.int (4 : Int32)), .val (.ref b1), .unset, .unset] [(.ref b1)])) _
    refine XS.iconst X1.here hx rfl (hb hby at_21) ?_
    show Steps p.tables e below (T1.setTop (mkF m 22 #[.val (.int p1), .val (.int p2), .val (.int p3), .val (.int p4), .val (.int p5), .val (.int (4 : Int32)), .val (.ref b1), .unset, .unset] [(.int (0 : Int32)), (.ref b1)])) _
    refine XS.iloadN X1.here hx rfl (hb hby at_22) rfl ?_
    show Steps p.tables e below (T1.setTop (mkF m 23 #[.val (.int p1), .val (.int p2), .val (.int p3), .val (.int p4), .val (.int p5), .val (.int (4 : Int32)), .val (.ref b1), .unset, .unset] [(.int p2), (.int (0 : Int32)), (.ref b1)])) _
    refine XS.i2b X1.here hx rfl (hb hby at_23) rfl ?_
    show Steps p.tables e below (T1.setTop (mkF m 24 #[.val (.int p1), .val (.int p2), .val (.int p3), .val (.int p4), .val (.int p5), .val (.int (4 : Int32)), .val (.ref b1), .unset, .unset] [(.int (p2.toInt8.toInt32)), (.int (0 : Int32)), (.ref b1)])) _
    refine st3 _ ?_
    show Steps p.tables e below (T3.setTop (mkF m 25 #[.val (.int p1), .val (.int p2), .val (.int p3), .val (.int p4), .val (.int p5), .val (.int (4 : Int32)), .val (.ref b1), .unset, .unset] [])) _
    refine XS.iload X3.here hx rfl (hb hby at_25) rfl ?_
    show Steps p.tables e below (T3.setTop (mkF m 27 #[.val (.int p1), .val (.int p2), .val (.int p3), .val (.int p4), .val (.int p5), .val (.int (4 : Int32)), .val (.ref b1), .unset, .unset] [(.int (4 : Int32))])) _
    refine XS.iconst X3.here hx rfl (hb hby at_27) ?_
    show Steps p.tables e below (T3.setTop (mkF m 28 #[.val (.int p1), .val (.int p2), .val (.int p3), .val (.int p4), .val (.int p5), .val (.int (4 : Int32)), .val (.ref b1), .unset, .unset] [(.int (1 : Int32)), (.int (4 : Int32))])) _
    refine XS.icmpNo X3.here hx rfl (hb hby at_28) rfl (tlt ((by decide) : (1 : Int32) < (4 : Int32))).2.2.2 ?_
    show Steps p.tables e below (T3.setTop (mkF m 31 #[.val (.int p1), .val (.int p2), .val (.int p3), .val (.int p4), .val (.int p5), .val (.int (4 : Int32)), .val (.ref b1), .unset, .unset] [])) _
    refine XS.aload X3.here hx rfl (hb hby at_31) rfl rfl ?_
    show Steps p.tables e below (T3.setTop (mkF m 33 #[.val (.int p1), .val (.int p2), .val (.int p3), .val (.int p4), .val (.int p5), .val (.int (4 : Int32)), .val (.ref b1), .unset, .unset] [(.ref b1)])) _
    refine XS.iconst X3.here hx rfl (hb hby at_33) ?_
    show Steps p.tables e below (T3.setTop (mkF m 34 #[.val (.int p1), .val (.int p2), .val (.int p3), .val (.int p4), .val (.int p5), .val (.int (4 : Int32)), .val (.ref b1), .unset, .unset] [(.int (1 : Int32)), (.ref b1)])) _
    refine XS.iloadN X3.here hx rfl (hb hby at_34) rfl ?_
    show Steps p.tables e below (T3.setTop (mkF m 35 #[.val (.int p1), .val (.int p2), .val (.int p3), .val (.int p4), .val (.int p5), .val (.int (4 : Int32)), .val (.ref b1), .unset, .unset] [(.int p3), (.int (1 : Int32)), (.ref b1)])) _
    refine XS.i2b X3.here hx rfl (hb hby at_35) rfl ?_
    show Steps p.tables e below (T3.setTop (mkF m 36 #[.val (.int p1), .val (.int p2), .val (.int p3), .val (.int p4), .val (.int p5), .val (.int (4 : Int32)), .val (.ref b1), .unset, .unset] [(.int (p3.toInt8.toInt32)), (.int (1 : Int32)), (.ref b1)])) _
    refine st5 _ ?_
    show Steps p.tables e below (T5.setTop (mkF m 37 #[.val (.int p1), .val (.int p2), .val (.int p3), .val (.int p4), .val (.int p5), .val (.int (4 : Int32)), .val (.ref b1), .unset, .unset] [])) _
    refine XS.iload X5.here hx rfl (hb hby at_37) rfl ?_
    show Steps p.tables e below (T5.setTop (mkF m 39 #[.val (.int p1), .val (.int p2), .val (.int p3), .val (.int p4), .val (.int p5), .val (.int (4 : Int32)), .val (.ref b1), .unset, .unset] [(.int (4 : Int32))])) _
    refine XS.iconst X5.here hx rfl (hb hby at_39) ?_
    show Steps p.tables e below (T5.setTop (mkF m 40 #[.val (.int p1), .val (.int p2), .val (.int p3), .val (.int p4), .val (.int p5), .val (.int (4 : Int32)), .val (.ref b1), .unset, .unset] [(.int (2 : Int32)), (.int (4 : Int32))])) _
    refine XS.icmpNo X5.here hx rfl (hb hby at_40) rfl (tlt ((by decide) : (2 : Int32) < (4 : Int32))).2.2.2 ?_
    show Steps p.tables e below (T5.setTop (mkF m 43 #[.val (.int p1), .val (.int p2), .val (.int p3), .val (.int p4), .val (.int p5), .val (.int (4 : Int32)), .val (.ref b1), .unset, .unset] [])) _
    refine XS.aload X5.here hx rfl (hb hby at_43) rfl rfl ?_
    show Steps p.tables e below (T5.setTop (mkF m 45 #[.val (.int p1), .val (.int p2), .val (.int p3), .val (.int p4), .val (.int p5), .val (.int (4 : Int32)), .val (.ref b1), .unset, .unset] [(.ref b1)])) _
    refine XS.iconst X5.here hx rfl (hb hby at_45) ?_
    show Steps p.tables e below (T5.setTop (mkF m 46 #[.val (.int p1), .val (.int p2), .val (.int p3), .val (.int p4), .val (.int p5), .val (.int (4 : Int32)), .val (.ref b1), .unset, .unset] [(.int (2 : Int32)), (.ref b1)])) _
    refine XS.iloadN X5.here hx rfl (hb hby at_46) rfl ?_
    show Steps p.tables e below (T5.setTop (mkF m 47 #[.val (.int p1), .val (.int p2), .val (.int p3), .val (.int p4), .val (.int p5), .val (.int (4 : Int32)), .val (.ref b1), .unset, .unset] [(.int p4), (.int (2 : Int32)), (.ref b1)])) _
    refine XS.i2b X5.here hx rfl (hb hby at_47) rfl ?_
    show Steps p.tables e below (T5.setTop (mkF m 48 #[.val (.int p1), .val (.int p2), .val (.int p3), .val (.int p4), .val (.int p5), .val (.int (4 : Int32)), .val (.ref b1), .unset, .unset] [(.int (p4.toInt8.toInt32)), (.int (2 : Int32)), (.ref b1)])) _
    refine st7 _ ?_
    show Steps p.tables e below (T7.setTop (mkF m 49 #[.val (.int p1), .val (.int p2), .val (.int p3), .val (.int p4), .val (.int p5), .val (.int (4 : Int32)), .val (.ref b1), .unset, .unset] [])) _
    refine XS.iload X7.here hx rfl (hb hby at_49) rfl ?_
    show Steps p.tables e below (T7.setTop (mkF m 51 #[.val (.int p1), .val (.int p2), .val (.int p3), .val (.int p4), .val (.int p5), .val (.int (4 : Int32)), .val (.ref b1), .unset, .unset] [(.int (4 : Int32))])) _
    refine XS.iconst X7.here hx rfl (hb hby at_51) ?_
    show Steps p.tables e below (T7.setTop (mkF m 52 #[.val (.int p1), .val (.int p2), .val (.int p3), .val (.int p4), .val (.int p5), .val (.int (4 : Int32)), .val (.ref b1), .unset, .unset] [(.int (3 : Int32)), (.int (4 : Int32))])) _
    refine XS.icmpNo X7.here hx rfl (hb hby at_52) rfl (tlt ((by decide) : (3 : Int32) < (4 : Int32))).2.2.2 ?_
    show Steps p.tables e below (T7.setTop (mkF m 55 #[.val (.int p1), .val (.int p2), .val (.int p3), .val (.int p4), .val (.int p5), .val (.int (4 : Int32)), .val (.ref b1), .unset, .unset] [])) _
    refine XS.aload X7.here hx rfl (hb hby at_55) rfl rfl ?_
    show Steps p.tables e below (T7.setTop (mkF m 57 #[.val (.int p1), .val (.int p2), .val (.int p3), .val (.int p4), .val (.int p5), .val (.int (4 : Int32)), .val (.ref b1), .unset, .unset] [(.ref b1)])) _
    refine XS.iconst X7.here hx rfl (hb hby at_57) ?_
    show Steps p.tables e below (T7.setTop (mkF m 58 #[.val (.int p1), .val (.int p2), .val (.int p3), .val (.int p4), .val (.int p5), .val (.int (4 : Int32)), .val (.ref b1), .unset, .unset] [(.int (3 : Int32)), (.ref b1)])) _
    refine XS.iload X7.here hx rfl (hb hby at_58) rfl ?_
    show Steps p.tables e below (T7.setTop (mkF m 60 #[.val (.int p1), .val (.int p2), .val (.int p3), .val (.int p4), .val (.int p5), .val (.int (4 : Int32)), .val (.ref b1), .unset, .unset] [(.int p5), (.int (3 : Int32)), (.ref b1)])) _
    refine XS.i2b X7.here hx rfl (hb hby at_60) rfl ?_
    show Steps p.tables e below (T7.setTop (mkF m 61 #[.val (.int p1), .val (.int p2), .val (.int p3), .val (.int p4), .val (.int p5), .val (.int (4 : Int32)), .val (.ref b1), .unset, .unset] [(.int (p5.toInt8.toInt32)), (.int (3 : Int32)), (.ref b1)])) _
    refine st9 _ ?_
    show Steps p.tables e below (T9.setTop (mkF m 62 #[.val (.int p1), .val (.int p2), .val (.int p3), .val (.int p4), .val (.int p5), .val (.int (4 : Int32)), .val (.ref b1), .unset, .unset] [])) _
    refine XS.aload X9.here hx rfl (hb hby at_62) rfl rfl ?_
    show Steps p.tables e below (T9.setTop (mkF m 64 #[.val (.int p1), .val (.int p2), .val (.int p3), .val (.int p4), .val (.int p5), .val (.int (4 : Int32)), .val (.ref b1), .unset, .unset] [(.ref b1)])) _
    refine st10 _ ?_
    show Steps p.tables e below (T10.setTop (mkF m 67 #[.val (.int p1), .val (.int p2), .val (.int p3), .val (.int p4), .val (.int p5), .val (.int (4 : Int32)), .val (.ref b1), .unset, .unset] [(.ref b10_b1)])) _
    refine XS.astore X10.here hx rfl (hb hby at_67) rfl rfl (l' := #[.val (.int p1), .val (.int p2), .val (.int p3), .val (.int p4), .val (.int p5), .val (.int (4 : Int32)), .val (.ref b1), .val (.ref b10_b1), .unset]) rfl ?_
    show Steps p.tables e below (T10.setTop (mkF m 69 #[.val (.int p1), .val (.int p2), .val (.int p3), .val (.int p4), .val (.int p5), .val (.int (4 : Int32)), .val (.ref b1), .val (.ref b10_b1), .unset] [])) _
    refine XS.iload X10.here hx rfl (hb hby at_69) rfl ?_
    show Steps p.tables e below (T10.setTop (mkF m 71 #[.val (.int p1), .val (.int p2), .val (.int p3), .val (.int p4), .val (.int p5), .val (.int (4 : Int32)), .val (.ref b1), .val (.ref b10_b1), .unset] [(.int (4 : Int32))])) _
    refine XS.ifNo X10.here hx rfl (hb hby at_71) rfl ((if0 _ _).trans (tlt ((by decide) : (0 : Int32) < (4 : Int32))).2.2.2) ?_
    show Steps p.tables e below (T10.setTop (mkF m 74 #[.val (.int p1), .val (.int p2), .val (.int p3), .val (.int p4), .val (.int p5), .val (.int (4 : Int32)), .val (.ref b1), .val (.ref b10_b1), .unset] [])) _
    refine XS.aload X10.here hx rfl (hb hby at_74) rfl rfl ?_
    show Steps p.tables e below (T10.setTop (mkF m 76 #[.val (.int p1), .val (.int p2), .val (.int p3), .val (.int p4), .val (.int p5), .val (.int (4 : Int32)), .val (.ref b1), .val (.ref b10_b1), .unset] [(.ref b1)])) _
    refine XS.iconst X10.here hx rfl (hb hby at_76) ?_
    show Steps p.tables e below (T10.setTop (mkF m 77 #[.val (.int p1), .val (.int p2), .val (.int p3), .val (.int p4), .val (.int p5), .val (.int (4 : Int32)), .val (.ref b1), .val (.ref b10_b1), .unset] [(.int (0 : Int32)), (.ref b1)])) _
    refine XS.aload X10.here hx rfl (hb hby at_77) rfl rfl ?_
    show Steps p.tables e below (T10.setTop (mkF m 79 #[.val (.int p1), .val (.int p2), .val (.int p3), .val (.int p4), .val (.int p5), .val (.int (4 : Int32)), .val (.ref b1), .val (.ref b10_b1), .unset] [(.ref b1), (.int (0 : Int32)), (.ref b1)])) _
    refine XS.iconst X10.here hx rfl (hb hby at_79) ?_
    show Steps p.tables e below (T10.setTop (mkF m 80 #[.val (.int p1), .val (.int p2), .val (.int p3), .val (.int p4), .val (.int p5), .val (.int (4 : Int32)), .val (.ref b1), .val (.ref b10_b1), .unset] [(.int (0 : Int32)), (.ref b1), (.int (0 : Int32)), (.ref b1)])) _
    refine X10.baloadBytes hx (j := (0 : Int32)) (v := (.int (p2.toInt8.toInt32))) Ar11.1 (State.isArrayOf_alike hZ.alike Ar11.2.1) Ar11.2.2 hin11 hat11 (g := (mkF m 80 #[.val (.int p1), .val (.int p2), .val (.int p3), .val (.int p4), .val (.int p5), .val (.int (4 : Int32)), .val (.ref b1), .val (.ref b10_b1), .unset] [(.int (0 : Int32)), (.ref b1), (.int (0 : Int32)), (.ref b1)])) rfl rfl (hb hby at_80) _ ?_
    show Steps p.tables e below (T10.setTop (mkF m 81 #[.val (.int p1), .val (.int p2), .val (.int p3), .val (.int p4), .val (.int p5), .val (.int (4 : Int32)), .val (.ref b1), .val (.ref b10_b1), .unset] [(.int (p2.toInt8.toInt32)), (.int (0 : Int32)), (.ref b1)])) _
    refine XS.iconst X10.here hx rfl (hb hby at_81) ?_
    show Steps p.tables e below (T10.setTop (mkF m 82 #[.val (.int p1), .val (.int p2), .val (.int p3), .val (.int p4), .val (.int p5), .val (.int (4 : Int32)), .val (.ref b1), .val (.ref b10_b1), .unset] [(.int (1 : Int32)), (.int (p2.toInt8.toInt32)), (.int (0 : Int32)), (.ref b1)])) _
    refine XS.ixor X10.here hx rfl (hb hby at_82) rfl ?_
    show Steps p.tables e below (T10.setTop (mkF m 83 #[.val (.int p1), .val (.int p2), .val (.int p3), .val (.int p4), .val (.int p5), .val (.int (4 : Int32)), .val (.ref b1), .val (.ref b10_b1), .unset] [(.int ((p2.toInt8.toInt32) ^^^ (1 : Int32))), (.int (0 : Int32)), (.ref b1)])) _
    refine XS.i2b X10.here hx rfl (hb hby at_83) rfl ?_
    show Steps p.tables e below (T10.setTop (mkF m 84 #[.val (.int p1), .val (.int p2), .val (.int p3), .val (.int p4), .val (.int p5), .val (.int (4 : Int32)), .val (.ref b1), .val (.ref b10_b1), .unset] [(.int (((p2.toInt8.toInt32) ^^^ (1 : Int32)).toInt8.toInt32)), (.int (0 : Int32)), (.ref b1)])) _
    refine st13 _ ?_
    show Steps p.tables e below (T13.setTop (mkF m 85 #[.val (.int p1), .val (.int p2), .val (.int p3), .val (.int p4), .val (.int p5), .val (.int (4 : Int32)), .val (.ref b1), .val (.ref b10_b1), .unset] [])) _
    refine XS.iload X13.here hx rfl (hb hby at_85) rfl ?_
    show Steps p.tables e below (T13.setTop (mkF m 87 #[.val (.int p1), .val (.int p2), .val (.int p3), .val (.int p4), .val (.int p5), .val (.int (4 : Int32)), .val (.ref b1), .val (.ref b10_b1), .unset] [(.int (4 : Int32))])) _
    refine XS.iconst X13.here hx rfl (hb hby at_87) ?_
    show Steps p.tables e below (T13.setTop (mkF m 88 #[.val (.int p1), .val (.int p2), .val (.int p3), .val (.int p4), .val (.int p5), .val (.int (4 : Int32)), .val (.ref b1), .val (.ref b10_b1), .unset] [(.int (1 : Int32)), (.int (4 : Int32))])) _
    refine XS.icmpNo X13.here hx rfl (hb hby at_88) rfl (tlt ((by decide) : (1 : Int32) < (4 : Int32))).2.2.2 ?_
    show Steps p.tables e below (T13.setTop (mkF m 91 #[.val (.int p1), .val (.int p2), .val (.int p3), .val (.int p4), .val (.int p5), .val (.int (4 : Int32)), .val (.ref b1), .val (.ref b10_b1), .unset] [])) _
    refine XS.aload X13.here hx rfl (hb hby at_91) rfl rfl ?_
    show Steps p.tables e below (T13.setTop (mkF m 93 #[.val (.int p1), .val (.int p2), .val (.int p3), .val (.int p4), .val (.int p5), .val (.int (4 : Int32)), .val (.ref b1), .val (.ref b10_b1), .unset] [(.ref b1)])) _
    refine XS.iconst X13.here hx rfl (hb hby at_93) ?_
    show Steps p.tables e below (T13.setTop (mkF m 94 #[.val (.int p1), .val (.int p2), .val (.int p3), .val (.int p4), .val (.int p5), .val (.int (4 : Int32)), .val (.ref b1), .val (.ref b10_b1), .unset] [(.int (1 : Int32)), (.ref b1)])) _
    refine XS.aload X13.here hx rfl (hb hby at_94) rfl rfl ?_
    show Steps p.tables e below (T13.setTop (mkF m 96 #[.val (.int p1), .val (.int p2), .val (.int p3), .val (.int p4), .val (.int p5), .val (.int (4 : Int32)), .val (.ref b1), .val (.ref b10_b1), .unset] [(.ref b1), (.int (1 : Int32)), (.ref b1)])) _
    refine XS.iconst X13.here hx rfl (hb hby at_96) ?_
    show Steps p.tables e below (T13.setTop (mkF m 97 #[.val (.int p1), .val (.int p2), .val (.int p3), .val (.int p4), .val (.int p5), .val (.int (4 : Int32)), .val (.ref b1), .val (.ref b10_b1), .unset] [(.int (1 : Int32)), (.ref b1), (.int (1 : Int32)), (.ref b1)])) _
    refine X13.baloadBytes hx (j := (1 : Int32)) (v := (.int (p3.toInt8.toInt32))) (by rw [e13]; exact Ar14.1) (State.isArrayOf_alike hZ.alike Ar14.2.1) Ar14.2.2 hin14 hat14 (g := (mkF m 97 #[.val (.int p1), .val (.int p2), .val (.int p3), .val (.int p4), .val (.int p5), .val (.int (4 : Int32)), .val (.ref b1), .val (.ref b10_b1), .unset] [(.int (1 : Int32)), (.ref b1), (.int (1 : Int32)), (.ref b1)])) rfl rfl (hb hby at_97) _ ?_
    show Steps p.tables e below (T13.setTop (mkF m 98 #[.val (.int p1), .val (.int p2), .val (.int p3), .val (.int p4), .val (.int p5), .val (.int (4 : Int32)), .val (.ref b1), .val (.ref b10_b1), .unset] [(.int (p3.toInt8.toInt32)), (.int (1 : Int32)), (.ref b1)])) _
    refine XS.iconst X13.here hx rfl (hb hby at_98) ?_
    show Steps p.tables e below (T13.setTop (mkF m 99 #[.val (.int p1), .val (.int p2), .val (.int p3), .val (.int p4), .val (.int p5), .val (.int (4 : Int32)), .val (.ref b1), .val (.ref b10_b1), .unset] [(.int (1 : Int32)), (.int (p3.toInt8.toInt32)), (.int (1 : Int32)), (.ref b1)])) _
    refine XS.ixor X13.here hx rfl (hb hby at_99) rfl ?_
    show Steps p.tables e below (T13.setTop (mkF m 100 #[.val (.int p1), .val (.int p2), .val (.int p3), .val (.int p4), .val (.int p5), .val (.int (4 : Int32)), .val (.ref b1), .val (.ref b10_b1), .unset] [(.int ((p3.toInt8.toInt32) ^^^ (1 : Int32))), (.int (1 : Int32)), (.ref b1)])) _
    refine XS.i2b X13.here hx rfl (hb hby at_100) rfl ?_
    show Steps p.tables e below (T13.setTop (mkF m 101 #[.val (.int p1), .val (.int p2), .val (.int p3), .val (.int p4), .val (.int p5), .val (.int (4 : Int32)), .val (.ref b1), .val (.ref b10_b1), .unset] [(.int (((p3.toInt8.toInt32) ^^^ (1 : Int32)).toInt8.toInt32)), (.int (1 : Int32)), (.ref b1)])) _
    refine st16 _ ?_
    show Steps p.tables e below (T16.setTop (mkF m 102 #[.val (.int p1), .val (.int p2), .val (.int p3), .val (.int p4), .val (.int p5), .val (.int (4 : Int32)), .val (.ref b1), .val (.ref b10_b1), .unset] [])) _
    refine XS.iload X16.here hx rfl (hb hby at_102) rfl ?_
    show Steps p.tables e below (T16.setTop (mkF m 104 #[.val (.int p1), .val (.int p2), .val (.int p3), .val (.int p4), .val (.int p5), .val (.int (4 : Int32)), .val (.ref b1), .val (.ref b10_b1), .unset] [(.int (4 : Int32))])) _
    refine XS.iconst X16.here hx rfl (hb hby at_104) ?_
    show Steps p.tables e below (T16.setTop (mkF m 105 #[.val (.int p1), .val (.int p2), .val (.int p3), .val (.int p4), .val (.int p5), .val (.int (4 : Int32)), .val (.ref b1), .val (.ref b10_b1), .unset] [(.int (2 : Int32)), (.int (4 : Int32))])) _
    refine XS.icmpNo X16.here hx rfl (hb hby at_105) rfl (tlt ((by decide) : (2 : Int32) < (4 : Int32))).2.2.2 ?_
    show Steps p.tables e below (T16.setTop (mkF m 108 #[.val (.int p1), .val (.int p2), .val (.int p3), .val (.int p4), .val (.int p5), .val (.int (4 : Int32)), .val (.ref b1), .val (.ref b10_b1), .unset] [])) _
    refine XS.aload X16.here hx rfl (hb hby at_108) rfl rfl ?_
    show Steps p.tables e below (T16.setTop (mkF m 110 #[.val (.int p1), .val (.int p2), .val (.int p3), .val (.int p4), .val (.int p5), .val (.int (4 : Int32)), .val (.ref b1), .val (.ref b10_b1), .unset] [(.ref b1)])) _
    refine XS.iconst X16.here hx rfl (hb hby at_110) ?_
    show Steps p.tables e below (T16.setTop (mkF m 111 #[.val (.int p1), .val (.int p2), .val (.int p3), .val (.int p4), .val (.int p5), .val (.int (4 : Int32)), .val (.ref b1), .val (.ref b10_b1), .unset] [(.int (2 : Int32)), (.ref b1)])) _
    refine XS.aload X16.here hx rfl (hb hby at_111) rfl rfl ?_
    show Steps p.tables e below (T16.setTop (mkF m 113 #[.val (.int p1), .val (.int p2), .val (.int p3), .val (.int p4), .val (.int p5), .val (.int (4 : Int32)), .val (.ref b1), .val (.ref b10_b1), .unset] [(.ref b1), (.int (2 : Int32)), (.ref b1)])) _
    refine XS.iconst X16.here hx rfl (hb hby at_113) ?_
    show Steps p.tables e below (T16.setTop (mkF m 114 #[.val (.int p1), .val (.int p2), .val (.int p3), .val (.int p4), .val (.int p5), .val (.int (4 : Int32)), .val (.ref b1), .val (.ref b10_b1), .unset] [(.int (2 : Int32)), (.ref b1), (.int (2 : Int32)), (.ref b1)])) _
    refine X16.baloadBytes hx (j := (2 : Int32)) (v := (.int (p4.toInt8.toInt32))) (by rw [e16]; exact Ar17.1) (State.isArrayOf_alike hZ.alike Ar17.2.1) Ar17.2.2 hin17 hat17 (g := (mkF m 114 #[.val (.int p1), .val (.int p2), .val (.int p3), .val (.int p4), .val (.int p5), .val (.int (4 : Int32)), .val (.ref b1), .val (.ref b10_b1), .unset] [(.int (2 : Int32)), (.ref b1), (.int (2 : Int32)), (.ref b1)])) rfl rfl (hb hby at_114) _ ?_
    show Steps p.tables e below (T16.setTop (mkF m 115 #[.val (.int p1), .val (.int p2), .val (.int p3), .val (.int p4), .val (.int p5), .val (.int (4 : Int32)), .val (.ref b1), .val (.ref b10_b1), .unset] [(.int (p4.toInt8.toInt32)), (.int (2 : Int32)), (.ref b1)])) _
    refine XS.iconst X16.here hx rfl (hb hby at_115) ?_
    show Steps p.tables e below (T16.setTop (mkF m 116 #[.val (.int p1), .val (.int p2), .val (.int p3), .val (.int p4), .val (.int p5), .val (.int (4 : Int32)), .val (.ref b1), .val (.ref b10_b1), .unset] [(.int (1 : Int32)), (.int (p4.toInt8.toInt32)), (.int (2 : Int32)), (.ref b1)])) _
    refine XS.ixor X16.here hx rfl (hb hby at_116) rfl ?_
    show Steps p.tables e below (T16.setTop (mkF m 117 #[.val (.int p1), .val (.int p2), .val (.int p3), .val (.int p4), .val (.int p5), .val (.int (4 : Int32)), .val (.ref b1), .val (.ref b10_b1), .unset] [(.int ((p4.toInt8.toInt32) ^^^ (1 : Int32))), (.int (2 : Int32)), (.ref b1)])) _
    refine XS.i2b X16.here hx rfl (hb hby at_117) rfl ?_
    show Steps p.tables e below (T16.setTop (mkF m 118 #[.val (.int p1), .val (.int p2), .val (.int p3), .val (.int p4), .val (.int p5), .val (.int (4 : Int32)), .val (.ref b1), .val (.ref b10_b1), .unset] [(.int (((p4.toInt8.toInt32) ^^^ (1 : Int32)).toInt8.toInt32)), (.int (2 : Int32)), (.ref b1)])) _
    refine st19 _ ?_
    show Steps p.tables e below (T19.setTop (mkF m 119 #[.val (.int p1), .val (.int p2), .val (.int p3), .val (.int p4), .val (.int p5), .val (.int (4 : Int32)), .val (.ref b1), .val (.ref b10_b1), .unset] [])) _
    refine XS.iload X19.here hx rfl (hb hby at_119) rfl ?_
    show Steps p.tables e below (T19.setTop (mkF m 121 #[.val (.int p1), .val (.int p2), .val (.int p3), .val (.int p4), .val (.int p5), .val (.int (4 : Int32)), .val (.ref b1), .val (.ref b10_b1), .unset] [(.int (4 : Int32))])) _
    refine XS.iconst X19.here hx rfl (hb hby at_121) ?_
    show Steps p.tables e below (T19.setTop (mkF m 122 #[.val (.int p1), .val (.int p2), .val (.int p3), .val (.int p4), .val (.int p5), .val (.int (4 : Int32)), .val (.ref b1), .val (.ref b10_b1), .unset] [(.int (3 : Int32)), (.int (4 : Int32))])) _
    refine XS.icmpNo X19.here hx rfl (hb hby at_122) rfl (tlt ((by decide) : (3 : Int32) < (4 : Int32))).2.2.2 ?_
    show Steps p.tables e below (T19.setTop (mkF m 125 #[.val (.int p1), .val (.int p2), .val (.int p3), .val (.int p4), .val (.int p5), .val (.int (4 : Int32)), .val (.ref b1), .val (.ref b10_b1), .unset] [])) _
    refine XS.aload X19.here hx rfl (hb hby at_125) rfl rfl ?_
    show Steps p.tables e below (T19.setTop (mkF m 127 #[.val (.int p1), .val (.int p2), .val (.int p3), .val (.int p4), .val (.int p5), .val (.int (4 : Int32)), .val (.ref b1), .val (.ref b10_b1), .unset] [(.ref b1)])) _
    refine XS.iconst X19.here hx rfl (hb hby at_127) ?_
    show Steps p.tables e below (T19.setTop (mkF m 128 #[.val (.int p1), .val (.int p2), .val (.int p3), .val (.int p4), .val (.int p5), .val (.int (4 : Int32)), .val (.ref b1), .val (.ref b10_b1), .unset] [(.int (3 : Int32)), (.ref b1)])) _
    refine XS.aload X19.here hx rfl (hb hby at_128) rfl rfl ?_
    show Steps p.tables e below (T19.setTop (mkF m 130 #[.val (.int p1), .val (.int p2), .val (.int p3), .val (.int p4), .val (.int p5), .val (.int (4 : Int32)), .val (.ref b1), .val (.ref b10_b1), .unset] [(.ref b1), (.int (3 : Int32)), (.ref b1)])) _
    refine XS.iconst X19.here hx rfl (hb hby at_130) ?_
    show Steps p.tables e below (T19.setTop (mkF m 131 #[.val (.int p1), .val (.int p2), .val (.int p3), .val (.int p4), .val (.int p5), .val (.int (4 : Int32)), .val (.ref b1), .val (.ref b10_b1), .unset] [(.int (3 : Int32)), (.ref b1), (.int (3 : Int32)), (.ref b1)])) _
    refine X19.baloadBytes hx (j := (3 : Int32)) (v := (.int (p5.toInt8.toInt32))) (by rw [e19]; exact Ar20.1) (State.isArrayOf_alike hZ.alike Ar20.2.1) Ar20.2.2 hin20 hat20 (g := (mkF m 131 #[.val (.int p1), .val (.int p2), .val (.int p3), .val (.int p4), .val (.int p5), .val (.int (4 : Int32)), .val (.ref b1), .val (.ref b10_b1), .unset] [(.int (3 : Int32)), (.ref b1), (.int (3 : Int32)), (.ref b1)])) rfl rfl (hb hby at_131) _ ?_
    show Steps p.tables e below (T19.setTop (mkF m 132 #[.val (.int p1), .val (.int p2), .val (.int p3), .val (.int p4), .val (.int p5), .val (.int (4 : Int32)), .val (.ref b1), .val (.ref b10_b1), .unset] [(.int (p5.toInt8.toInt32)), (.int (3 : Int32)), (.ref b1)])) _
    refine XS.iconst X19.here hx rfl (hb hby at_132) ?_
    show Steps p.tables e below (T19.setTop (mkF m 133 #[.val (.int p1), .val (.int p2), .val (.int p3), .val (.int p4), .val (.int p5), .val (.int (4 : Int32)), .val (.ref b1), .val (.ref b10_b1), .unset] [(.int (1 : Int32)), (.int (p5.toInt8.toInt32)), (.int (3 : Int32)), (.ref b1)])) _
    refine XS.ixor X19.here hx rfl (hb hby at_133) rfl ?_
    show Steps p.tables e below (T19.setTop (mkF m 134 #[.val (.int p1), .val (.int p2), .val (.int p3), .val (.int p4), .val (.int p5), .val (.int (4 : Int32)), .val (.ref b1), .val (.ref b10_b1), .unset] [(.int ((p5.toInt8.toInt32) ^^^ (1 : Int32))), (.int (3 : Int32)), (.ref b1)])) _
    refine XS.i2b X19.here hx rfl (hb hby at_134) rfl ?_
    show Steps p.tables e below (T19.setTop (mkF m 135 #[.val (.int p1), .val (.int p2), .val (.int p3), .val (.int p4), .val (.int p5), .val (.int (4 : Int32)), .val (.ref b1), .val (.ref b10_b1), .unset] [(.int (((p5.toInt8.toInt32) ^^^ (1 : Int32)).toInt8.toInt32)), (.int (3 : Int32)), (.ref b1)])) _
    refine st22 _ ?_
    show Steps p.tables e below (T22.setTop (mkF m 136 #[.val (.int p1), .val (.int p2), .val (.int p3), .val (.int p4), .val (.int p5), .val (.int (4 : Int32)), .val (.ref b1), .val (.ref b10_b1), .unset] [])) _
    refine XS.aload X22.here hx rfl (hb hby at_136) rfl rfl ?_
    show Steps p.tables e below (T22.setTop (mkF m 138 #[.val (.int p1), .val (.int p2), .val (.int p3), .val (.int p4), .val (.int p5), .val (.int (4 : Int32)), .val (.ref b1), .val (.ref b10_b1), .unset] [(.ref b10_b1)])) _
    refine st23.trans ?_
    show Steps p.tables e below (T23.setTop (mkF m 141 #[.val (.int p1), .val (.int p2), .val (.int p3), .val (.int p4), .val (.int p5), .val (.int (4 : Int32)), .val (.ref b1), .val (.ref b10_b1), .unset] [(.ref w_n0)])) _
    refine st24 _ ?_
    show Steps p.tables e below (T24.setTop (mkF m 144 #[.val (.int p1), .val (.int p2), .val (.int p3), .val (.int p4), .val (.int p5), .val (.int (4 : Int32)), .val (.ref b1), .val (.ref b10_b1), .unset] [(.ref w_n0), (.ref w_n0)])) _
    refine Jvm.RoadKit.acmp (g := (mkF m 144 #[.val (.int p1), .val (.int p2), .val (.int p3), .val (.int p4), .val (.int p5), .val (.int (4 : Int32)), .val (.ref b1), .val (.ref b10_b1), .unset] [(.ref w_n0), (.ref w_n0)])) X24 hx rfl rfl rfl (pc0 := 144) (pc' := 149) (same := true) rfl (hb hby at_144) rfl (decide_eq_true rfl) (by decide) (by decide) ?_
    show Steps p.tables e below (T24.setTop (mkF m 149 #[.val (.int p1), .val (.int p2), .val (.int p3), .val (.int p4), .val (.int p5), .val (.int (4 : Int32)), .val (.ref b1), .val (.ref b10_b1), .unset] [])) _
    refine XS.aload X24.here hx rfl (hb hby at_149) rfl rfl ?_
    show Steps p.tables e below (T24.setTop (mkF m 151 #[.val (.int p1), .val (.int p2), .val (.int p3), .val (.int p4), .val (.int p5), .val (.int (4 : Int32)), .val (.ref b1), .val (.ref b10_b1), .unset] [(.ref b10_b1)])) _
    refine st25.trans ?_
    show Steps p.tables e below (T25.setTop (mkF m 154 #[.val (.int p1), .val (.int p2), .val (.int p3), .val (.int p4), .val (.int p5), .val (.int (4 : Int32)), .val (.ref b1), .val (.ref b10_b1), .unset] [(.ref b25_b4)])) _
    refine XS.astore X25.here hx rfl (hb hby at_154) rfl rfl (l' := #[.val (.int p1), .val (.int p2), .val (.int p3), .val (.int p4), .val (.int p5), .val (.int (4 : Int32)), .val (.ref b1), .val (.ref b10_b1), .val (.ref b25_b4)]) rfl ?_
    show Steps p.tables e below (T25.setTop (mkF m 156 #[.val (.int p1), .val (.int p2), .val (.int p3), .val (.int p4), .val (.int p5), .val (.int (4 : Int32)), .val (.ref b1), .val (.ref b10_b1), .val (.ref b25_b4)] [])) _
    refine XS.aload X25.here hx rfl (hb hby at_156) rfl rfl ?_
    show Steps p.tables e below (T25.setTop (mkF m 158 #[.val (.int p1), .val (.int p2), .val (.int p3), .val (.int p4), .val (.int p5), .val (.int (4 : Int32)), .val (.ref b1), .val (.ref b10_b1), .val (.ref b25_b4)] [(.ref b25_b4)])) _
    refine X25.arraylength hx Ar26.1 (State.isArrayOf_alike hZ.alike Ar26.2.1) (g := (mkF m 158 #[.val (.int p1), .val (.int p2), .val (.int p3), .val (.int p4), .val (.int p5), .val (.int (4 : Int32)), .val (.ref b1), .val (.ref b10_b1), .val (.ref b25_b4)] [(.ref b25_b4)])) rfl rfl (hb hby at_158) _ ?_
    rw [len_of Sz26 Nz26]
    show Steps p.tables e below (T25.setTop (mkF m 159 #[.val (.int p1), .val (.int p2), .val (.int p3), .val (.int p4), .val (.int p5), .val (.int (4 : Int32)), .val (.ref b1), .val (.ref b10_b1), .val (.ref b25_b4)] [(.int (4 : Int32))])) _
    refine XS.iload X25.here hx rfl (hb hby at_159) rfl ?_
    show Steps p.tables e below (T25.setTop (mkF m 161 #[.val (.int p1), .val (.int p2), .val (.int p3), .val (.int p4), .val (.int p5), .val (.int (4 : Int32)), .val (.ref b1), .val (.ref b10_b1), .val (.ref b25_b4)] [(.int (4 : Int32)), (.int (4 : Int32))])) _
    refine XS.icmpYes X25.here hx rfl (pc0 := 161) (pc' := 166) rfl (hb hby at_161) rfl (teq ((by decide) : (4 : Int32) = (4 : Int32))).1 (by decide) (by decide) ?_
    show Steps p.tables e below (T25.setTop (mkF m 166 #[.val (.int p1), .val (.int p2), .val (.int p3), .val (.int p4), .val (.int p5), .val (.int (4 : Int32)), .val (.ref b1), .val (.ref b10_b1), .val (.ref b25_b4)] [])) _
    refine XS.aload X25.here hx rfl (hb hby at_166) rfl rfl ?_
    show Steps p.tables e below (T25.setTop (mkF m 168 #[.val (.int p1), .val (.int p2), .val (.int p3), .val (.int p4), .val (.int p5), .val (.int (4 : Int32)), .val (.ref b1), .val (.ref b10_b1), .val (.ref b25_b4)] [(.ref b25_b4)])) _
    refine XS.iconst X25.here hx rfl (hb hby at_168) ?_
    show Steps p.tables e below (T25.setTop (mkF m 169 #[.val (.int p1), .val (.int p2), .val (.int p3), .val (.int p4), .val (.int p5), .val (.int (4 : Int32)), .val (.ref b1), .val (.ref b10_b1), .val (.ref b25_b4)] [(.int (0 : Int32)), (.ref b25_b4)])) _
    refine XS.iloadN X25.here hx rfl (hb hby at_169) rfl ?_
    show Steps p.tables e below (T25.setTop (mkF m 170 #[.val (.int p1), .val (.int p2), .val (.int p3), .val (.int p4), .val (.int p5), .val (.int (4 : Int32)), .val (.ref b1), .val (.ref b10_b1), .val (.ref b25_b4)] [(.int p2), (.int (0 : Int32)), (.ref b25_b4)])) _
    refine st27 _ ?_
    show Steps p.tables e below (T27.setTop (mkF m 173 #[.val (.int p1), .val (.int p2), .val (.int p3), .val (.int p4), .val (.int p5), .val (.int (4 : Int32)), .val (.ref b1), .val (.ref b10_b1), .val (.ref b25_b4)] [(.int (1 : Int32))])) _
    refine XS.ifNo X27.here hx rfl (hb hby at_173) rfl ((if0 _ _).trans (feq ((by decide) : ¬ ((1 : Int32) = (0 : Int32)))).1) ?_
    show Steps p.tables e below (T27.setTop (mkF m 176 #[.val (.int p1), .val (.int p2), .val (.int p3), .val (.int p4), .val (.int p5), .val (.int (4 : Int32)), .val (.ref b1), .val (.ref b10_b1), .val (.ref b25_b4)] [])) _
    refine XS.aload X27.here hx rfl (hb hby at_176) rfl rfl ?_
    show Steps p.tables e below (T27.setTop (mkF m 178 #[.val (.int p1), .val (.int p2), .val (.int p3), .val (.int p4), .val (.int p5), .val (.int (4 : Int32)), .val (.ref b1), .val (.ref b10_b1), .val (.ref b25_b4)] [(.ref b25_b4)])) _
    refine XS.iconst X27.here hx rfl (hb hby at_178) ?_
    show Steps p.tables e below (T27.setTop (mkF m 179 #[.val (.int p1), .val (.int p2), .val (.int p3), .val (.int p4), .val (.int p5), .val (.int (4 : Int32)), .val (.ref b1), .val (.ref b10_b1), .val (.ref b25_b4)] [(.int (1 : Int32)), (.ref b25_b4)])) _
    refine XS.iloadN X27.here hx rfl (hb hby at_179) rfl ?_
    show Steps p.tables e below (T27.setTop (mkF m 180 #[.val (.int p1), .val (.int p2), .val (.int p3), .val (.int p4), .val (.int p5), .val (.int (4 : Int32)), .val (.ref b1), .val (.ref b10_b1), .val (.ref b25_b4)] [(.int p3), (.int (1 : Int32)), (.ref b25_b4)])) _
    refine st28 _ ?_
    show Steps p.tables e below (T28.setTop (mkF m 183 #[.val (.int p1), .val (.int p2), .val (.int p3), .val (.int p4), .val (.int p5), .val (.int (4 : Int32)), .val (.ref b1), .val (.ref b10_b1), .val (.ref b25_b4)] [(.int (1 : Int32))])) _
    refine XS.ifNo X28.here hx rfl (hb hby at_183) rfl ((if0 _ _).trans (feq ((by decide) : ¬ ((1 : Int32) = (0 : Int32)))).1) ?_
    show Steps p.tables e below (T28.setTop (mkF m 186 #[.val (.int p1), .val (.int p2), .val (.int p3), .val (.int p4), .val (.int p5), .val (.int (4 : Int32)), .val (.ref b1), .val (.ref b10_b1), .val (.ref b25_b4)] [])) _
    refine XS.aload X28.here hx rfl (hb hby at_186) rfl rfl ?_
    show Steps p.tables e below (T28.setTop (mkF m 188 #[.val (.int p1), .val (.int p2), .val (.int p3), .val (.int p4), .val (.int p5), .val (.int (4 : Int32)), .val (.ref b1), .val (.ref b10_b1), .val (.ref b25_b4)] [(.ref b25_b4)])) _
    refine XS.iconst X28.here hx rfl (hb hby at_188) ?_
    show Steps p.tables e below (T28.setTop (mkF m 189 #[.val (.int p1), .val (.int p2), .val (.int p3), .val (.int p4), .val (.int p5), .val (.int (4 : Int32)), .val (.ref b1), .val (.ref b10_b1), .val (.ref b25_b4)] [(.int (2 : Int32)), (.ref b25_b4)])) _
    refine XS.iloadN X28.here hx rfl (hb hby at_189) rfl ?_
    show Steps p.tables e below (T28.setTop (mkF m 190 #[.val (.int p1), .val (.int p2), .val (.int p3), .val (.int p4), .val (.int p5), .val (.int (4 : Int32)), .val (.ref b1), .val (.ref b10_b1), .val (.ref b25_b4)] [(.int p4), (.int (2 : Int32)), (.ref b25_b4)])) _
    refine st29 _ ?_
    show Steps p.tables e below (T29.setTop (mkF m 193 #[.val (.int p1), .val (.int p2), .val (.int p3), .val (.int p4), .val (.int p5), .val (.int (4 : Int32)), .val (.ref b1), .val (.ref b10_b1), .val (.ref b25_b4)] [(.int (1 : Int32))])) _
    refine XS.ifNo X29.here hx rfl (hb hby at_193) rfl ((if0 _ _).trans (feq ((by decide) : ¬ ((1 : Int32) = (0 : Int32)))).1) ?_
    show Steps p.tables e below (T29.setTop (mkF m 196 #[.val (.int p1), .val (.int p2), .val (.int p3), .val (.int p4), .val (.int p5), .val (.int (4 : Int32)), .val (.ref b1), .val (.ref b10_b1), .val (.ref b25_b4)] [])) _
    refine XS.aload X29.here hx rfl (hb hby at_196) rfl rfl ?_
    show Steps p.tables e below (T29.setTop (mkF m 198 #[.val (.int p1), .val (.int p2), .val (.int p3), .val (.int p4), .val (.int p5), .val (.int (4 : Int32)), .val (.ref b1), .val (.ref b10_b1), .val (.ref b25_b4)] [(.ref b25_b4)])) _
    refine XS.iconst X29.here hx rfl (hb hby at_198) ?_
    show Steps p.tables e below (T29.setTop (mkF m 199 #[.val (.int p1), .val (.int p2), .val (.int p3), .val (.int p4), .val (.int p5), .val (.int (4 : Int32)), .val (.ref b1), .val (.ref b10_b1), .val (.ref b25_b4)] [(.int (3 : Int32)), (.ref b25_b4)])) _
    refine XS.iload X29.here hx rfl (hb hby at_199) rfl ?_
    show Steps p.tables e below (T29.setTop (mkF m 201 #[.val (.int p1), .val (.int p2), .val (.int p3), .val (.int p4), .val (.int p5), .val (.int (4 : Int32)), .val (.ref b1), .val (.ref b10_b1), .val (.ref b25_b4)] [(.int p5), (.int (3 : Int32)), (.ref b25_b4)])) _
    refine st30 _ ?_
    show Steps p.tables e below (T30.setTop (mkF m 204 #[.val (.int p1), .val (.int p2), .val (.int p3), .val (.int p4), .val (.int p5), .val (.int (4 : Int32)), .val (.ref b1), .val (.ref b10_b1), .val (.ref b25_b4)] [(.int (1 : Int32))])) _
    refine XS.ifNo X30.here hx rfl (hb hby at_204) rfl ((if0 _ _).trans (feq ((by decide) : ¬ ((1 : Int32) = (0 : Int32)))).1) ?_
    show Steps p.tables e below (T30.setTop (mkF m 207 #[.val (.int p1), .val (.int p2), .val (.int p3), .val (.int p4), .val (.int p5), .val (.int (4 : Int32)), .val (.ref b1), .val (.ref b10_b1), .val (.ref b25_b4)] [])) _
    refine XS.iconst X30.here hx rfl (hb hby at_207) ?_
    show Steps p.tables e below (T30.setTop (mkF m 208 #[.val (.int p1), .val (.int p2), .val (.int p3), .val (.int p4), .val (.int p5), .val (.int (4 : Int32)), .val (.ref b1), .val (.ref b10_b1), .val (.ref b25_b4)] [(.int (1 : Int32))])) _
    refine XS.goto X30.here hx rfl (pc0 := 208) (pc' := 212) rfl (hb hby at_208) (by decide) (by decide) ?_
    show Steps p.tables e below (T30.setTop (mkF m 212 #[.val (.int p1), .val (.int p2), .val (.int p3), .val (.int p4), .val (.int p5), .val (.int (4 : Int32)), .val (.ref b1), .val (.ref b10_b1), .val (.ref b25_b4)] [(.int (1 : Int32))])) _
    exact retN X30 hx (t := .boolean) Bd.returns (by simp) (hb hby at_212) hr
  · show Q0 n0 _ T30.heap _
    rw [e30]
    exact ⟨rfl, N30⟩
theorem rm0 (l : Launch) (Z : State) (a0 : Array Value) (hw : ∀ d ∈ tables_1, d.before a0 Z = true) (ws : List Jvm.Cond) {w_n0 : Addr} (W : Wd Z w_n0) (p1 : Int32) (p2 : Int32) (p3 : Int32) (p4 : Int32) (p5 : Int32) (h0 : Heap) (n0 : Nat) (O0 : Old Z n0 h0) :
    MetFree l x (head1 (Jvm.Cond.code x code maxLocals ret :: ws) room_1) (fun a U => a = #[(.int p1), (.int p2), (.int p3), (.int p4), (.int p5)] ∧ Z.Warmed39 U.vm ∧ U.heap = h0) (fun _ _ _ _ _ => True) (fun _ U o U' => ∃ v L, o = .returned v ∧ Q0 n0 v U'.heap L ∧ FrameEnd U o U' L room_1.cells room_1.slots) := by
  have e : (p1 &&& (7 : Int32)).toInt = p1.toInt % (2 ^ 3 : Nat) := c_mask p1 7 3 (by decide) (by decide)
  have r := (c_irem (p1 &&& (7 : Int32)) (5 : Int32) 5 rfl).1 (by rw [e]; omega)
  have c : ((p1 &&& (7 : Int32)) % (5 : Int32)) = (0 : Int32) ∨ ((p1 &&& (7 : Int32)) % (5 : Int32)) = (1 : Int32) ∨ ((p1 &&& (7 : Int32)) % (5 : Int32)) = (2 : Int32) ∨ ((p1 &&& (7 : Int32)) % (5 : Int32)) = (3 : Int32) ∨ ((p1 &&& (7 : Int32)) % (5 : Int32)) = (4 : Int32) := by
    simp only [← Int32.toInt_inj]
    have q0 : (0 : Int32).toInt = 0 := rfl
    have q1 : (1 : Int32).toInt = 1 := rfl
    have q2 : (2 : Int32).toInt = 2 := rfl
    have q3 : (3 : Int32).toInt = 3 := rfl
    have q4 : (4 : Int32).toInt = 4 := rfl
    omega
  rcases c with h | h | h | h | h
  · exact rm0_0 l Z a0 hw ws W p1 p2 p3 p4 p5 h0 n0 O0 h
  · exact rm0_1 l Z a0 hw ws W p1 p2 p3 p4 p5 h0 n0 O0 h
  · exact rm0_2 l Z a0 hw ws W p1 p2 p3 p4 p5 h0 n0 O0 h
  · exact rm0_3 l Z a0 hw ws W p1 p2 p3 p4 p5 h0 n0 O0 h
  · exact rm0_4 l Z a0 hw ws W p1 p2 p3 p4 p5 h0 n0 O0 h
set_option maxRecDepth 65536 in
set_option maxHeartbeats 40000000 in
theorem comes_1 {Post : Tables → Env → Array Value → State → Outcome → State → Prop} (hpost : ∀ tb e args s v u, (limb_1_1.after args s (.returned v) u = true ∧ limb_1_2.after args s (.returned v) u = true ∧ True) → FrameEnd s (.returned v) u (Jvm.fieldLocs frame_1_writes args s ++ Jvm.arrayLocs frame_1_arrays args s ++ Jvm.staticLocs frame_1_statics s) 16 128 → Post tb e args s (.returned v) u) :
    ArmFor flags0 classFile x code maxLocals ret World_1 tables_1 room_1 Calls_1 rest_1 Pre_1 Post := by
  intro l hfl _ _ p e ha hc hk s m args below hf hA hF happ hP
  obtain ⟨hcalls, hrest, hpre⟩ := hP
  obtain ⟨-, -, -, hnamed, -, -, -, hat⟩ := (Spec.applies_iff hf).mp happ
  obtain ⟨hg, hn⟩ := and_e (Cond.before_iff.mp (show (Jvm.Cond.and given_1 narrow_1).before args s = true from hpre))
  obtain ⟨g0, r0⟩ := and_e hg
  obtain ⟨g1, r1⟩ := and_e r0
  obtain ⟨g2, r2⟩ := and_e r1
  obtain ⟨g3, r3⟩ := and_e r2
  obtain ⟨g4, r4⟩ := and_e r3
  have g5 := r4
  obtain ⟨w0, w1, w2, w3, w4, rfl⟩ : ∃ w0 w1 w2 w3 w4 : Value, args = #[w0, w1, w2, w3, w4] := by
    have hs : args.size = 5 := by simpa [Cond.value, given_1] using g0
    obtain ⟨L⟩ := args
    match L, hs with
    | [w0, w1, w2, w3, w4], _ => exact ⟨w0, w1, w2, w3, w4, rfl⟩
  have hw := fun d (hd : d ∈ tables_1) => atoms_spec (ws := Jvm.Cond.code x code maxLocals ret :: tables_1) hat d (List.mem_cons_of_mem _ hd)
  have hfit : Fit s := fun {y c} hc i hi => by
    obtain ⟨ha, rfl⟩ := Array.getElem?_eq_some_iff.mp hc
    have q := List.all_eq_true.mp ((Array.all_eq_true_iff_forall_mem.mp hF) _ (Array.getElem_mem ha)) i (List.mem_range.mpr hi)
    simpa [Array.getElem?_eq_getElem hi] using q
  obtain ⟨i0, ei0⟩ := is_v g1
  obtain rfl : w0 = (.int i0) := Option.some.inj ei0
  obtain ⟨i1, ei1⟩ := is_v g2
  obtain rfl : w1 = (.int i1) := Option.some.inj ei1
  obtain ⟨i2, ei2⟩ := is_v g3
  obtain rfl : w2 = (.int i2) := Option.some.inj ei2
  obtain ⟨i3, ei3⟩ := is_v g4
  obtain rfl : w3 = (.int i3) := Option.some.inj ei3
  obtain ⟨i4, ei4⟩ := is_v g5
  obtain rfl : w4 = (.int i4) := Option.some.inj ei4
  obtain ⟨w_n0, W⟩ := wd_start hfit hw hn
  obtain ⟨n, o, h1, h2, h3, _, L, rfl, ⟨rfl, N⟩, hq⟩ := rm0 l s _ hw tables_1 W i0 i1 i2 i3 i4 s.heap s.heap.size (Old.start s) p e ha hc hk s m _ below hf ((Spec.applies_iff_loose hf).mp happ).1 ⟨rfl, State.Warmed39.refl s, rfl⟩ trivial
  refine ⟨n, _, h1, h2, h3, hpost _ _ _ _ _ _ ⟨Cond.after_iff.mpr rfl, Cond.after_iff.mpr (eq_i res_at (Term.int_eval (1)) rfl), trivial⟩ ⟨hq.1, hq.2.1, (hq.2.2.sift fun y hy => Or.inr (N y hy)).mono (by decide) (by decide)⟩⟩
theorem main_1_1 : Claimed_1_1 := comes_1 fun _ _ _ _ _ _ h hF => ⟨h.1, hF⟩
theorem main_1_2 : Claimed_1_2 := comes_1 fun _ _ _ _ _ _ h hF => ⟨h.2.1, hF⟩
end Jvm.Pilot.@@N@@
namespace Jvm.Pilot.@@N@@
open Jvm Jvm.ClassFile Sem Op Lib Jvm.Free Jvm.Stand Jvm.Pilot.@@N@@.Jvm.D
/-! MADE BY PROGRAM (witnessworld.py) out of the Statement's table words and the real class files: 13 classes; the members and pool entries that the words name. The judged class is class 1, her method 1. -/
namespace start1
open Jvm.ClassFile
def u (s : String) : CpInfo := .utf8 (stringToUtf16 s)
/-- a pool by its gaps: so many unusable entries, then the entry; so many at the end -/
def gap : Nat → List CpInfo → List CpInfo
  | 0, r => r
  | n + 1, r => .unusable :: gap n r
def poolList (es : List (Nat × CpInfo)) (last : Nat) : List CpInfo := es.foldr (fun e r => gap e.1 (e.2 :: r)) (gap last [])
def pool (es : List (Nat × CpInfo)) (last : Nat) : Array CpInfo := ⟨poolList es last⟩
def fileOf (pool : Array CpInfo) (this : Nat) (attrs : Array Attribute := #[]) (ms : Array MethodInfo := #[]) (fl : Nat := 33) (sup : Nat := 0) (ifs : Array Nat := #[]) (fds : Array FieldInfo := #[]) : ClassFile where
  minorVersion := 0
  majorVersion := 65
  constantPool := pool
  accessFlags := fl
  thisClass := this
  superClass := sup
  interfaces := ifs
  fields := fds
  methods := ms
  attributes := attrs
def plain (name : String) (sup : Option ClassId) : Class where
  name := name
  kind := .ordinary
  loader := none
  accessFlags := 33
  super := sup
  interfaces := #[]
  cf := none
  fields := #[]
  methods := #[]
  instanceTypes := #[]
  staticTypes := #[]
  resolved := #[]
  callSites := []
  init := .initialized
  statics := none
  mirror := none

def pool0 : Array CpInfo := pool [(5, u "<init>"), (0, u "()V"), (1, .class_ 10), (1, u "java/lang/Object"), (85, u "clone"), (0, u "()Ljava/lang/Object;")] 26

def k0c0 : Code := { maxStack := 0, maxLocals := 1, code := object_method_1_code, exceptionTable := #[], attributes := #[] }
def k0m0 : Method := { name := "<init>", desc := "()V", sig := { parameters := [], returnType := none }, accessFlags := 1, code := some k0c0 }
def k0m1 : Method := { name := "clone", desc := "()Ljava/lang/Object;", sig := { parameters := [], returnType := some (.object "java/lang/Object") }, accessFlags := 260, code := none }
/-- java/lang/Object -/
def k0 : Class := { plain "java/lang/Object" none with
  accessFlags := 33
  interfaces := #[]
  cf := some (fileOf pool0 8 #[] #[{ accessFlags := 1, nameIndex := 5, descriptorIndex := 6, attributes := #[] }, { accessFlags := 260, nameIndex := 96, descriptorIndex := 97, attributes := #[] }] 33 0 #[] #[])
  fields := #[]
  methods := #[k0m0, k0m1]
  instanceTypes := #[]
  staticTypes := #[]
  resolved := Array.replicate 124 none
  statics := none }

def pool1 : Array CpInfo := pool [(2, .class_ 4), (1, u "java/lang/Object"), (0, u "<init>"), (0, u "()V"), (0, .methodref 8 9), (0, .class_ 10), (0, .nameAndType 11 12), (0, u "com/example/keyfold/keyfold/client/Value"), (0, u "ofBinary"), (0, u "([B)Lcom/example/keyfold/keyfold/client/Value;"), (0, .methodref 8 14), (0, .nameAndType 15 16), (0, u "type"), (0, u "()Lcom/example/keyfold/keyfold/client/ValueType;"), (0, .fieldref 18 19), (0, .class_ 20), (0, .nameAndType 21 22), (0, u "com/example/keyfold/keyfold/client/ValueType"), (0, u "BINARY"), (0, u "Lcom/example/keyfold/keyfold/client/ValueType;"), (0, .methodref 8 24), (0, .nameAndType 25 26), (0, u "asBinary"), (0, u "()[B"), (0, .methodref 28 29), (0, .class_ 30), (0, .nameAndType 31 32), (0, u "com/example/keyfold/keyfold/client/ValueOfBinaryPinLaw"), (0, u "at"), (0, u "([BII)Z"), (2, u "law"), (0, u "(IIIII)Z")] 5

def k1m0 : Method := { name := "<init>", desc := "()V", sig := { parameters := [], returnType := none }, accessFlags := 1, code := none }
def k1c1 : Code := { maxStack := 4, maxLocals := 9, code := code, exceptionTable := #[], attributes := #[] }
def k1m1 : Method := { name := "law", desc := "(IIIII)Z", sig := { parameters := [.int, .int, .int, .int, .int], returnType := some .boolean }, accessFlags := 9, code := some k1c1 }
def k1c2 : Code := { maxStack := 2, maxLocals := 3, code := method_3_code, exceptionTable := #[], attributes := #[] }
def k1m2 : Method := { name := "at", desc := "([BII)Z", sig := { parameters := [(.array .byte), .int, .int], returnType := some .boolean }, accessFlags := 10, code := some k1c2 }
/-- com/example/keyfold/keyfold/client/ValueOfBinaryPinLaw -/
def k1 : Class := { plain "com/example/keyfold/keyfold/client/ValueOfBinaryPinLaw" (some 0) with
  accessFlags := 49
  interfaces := #[]
  cf := some (fileOf pool1 28 #[] #[{ accessFlags := 1, nameIndex := 5, descriptorIndex := 6, attributes := #[] }, { accessFlags := 9, nameIndex := 35, descriptorIndex := 36, attributes := #[] }, { accessFlags := 10, nameIndex := 31, descriptorIndex := 32, attributes := #[] }] 49 2 #[] #[])
  fields := #[]
  methods := #[k1m0, k1m1, k1m2]
  instanceTypes := #[]
  staticTypes := #[]
  resolved := Array.replicate 42 none
  statics := none }

def pool2 : Array CpInfo := pool [(1, .methodref 2 3), (0, .class_ 4), (0, .nameAndType 5 6), (0, u "java/lang/Object"), (0, u "<init>"), (0, u "()V"), (0, .fieldref 8 9), (0, .class_ 10), (0, .nameAndType 11 12), (0, u "com/example/keyfold/keyfold/client/Value"), (0, u "type"), (0, u "Lcom/example/keyfold/keyfold/client/ValueType;"), (0, .fieldref 8 14), (0, .nameAndType 15 16), (0, u "content"), (0, u "Ljava/lang/Object;"), (1, .class_ 20), (1, u "com/example/keyfold/keyfold/client/ValueType"), (9, .methodref 8 31), (0, .nameAndType 5 32), (0, u "(Lcom/example/keyfold/keyfold/client/ValueType;Ljava/lang/Object;)V"), (38, .fieldref 18 72), (0, .nameAndType 73 12), (0, u "BINARY"), (0, .methodref 75 76), (0, .class_ 77), (0, .nameAndType 78 79), (0, u "[B"), (0, u "clone"), (0, u "()Ljava/lang/Object;"), (36, u "ofBinary"), (0, u "([B)Lcom/example/keyfold/keyfold/client/Value;"), (12, .methodref 8 131), (0, .nameAndType 132 133), (0, u "contentOf"), (0, u "(Lcom/example/keyfold/keyfold/client/ValueType;)Ljava/lang/Object;"), (25, .class_ 161), (1, u "com/example/keyfold/keyfold/client/Value$1"), (35, u "()Lcom/example/keyfold/keyfold/client/ValueType;"), (4, u "asBinary"), (0, u "()[B")] 27

def k2c0 : Code := { maxStack := 2, maxLocals := 3, code := prog_11_method_1_code, exceptionTable := #[], attributes := #[] }
def k2m0 : Method := { name := "<init>", desc := "(Lcom/example/keyfold/keyfold/client/ValueType;Ljava/lang/Object;)V", sig := { parameters := [(.object "com/example/keyfold/keyfold/client/ValueType"), (.object "java/lang/Object")], returnType := none }, accessFlags := 2, code := some k2c0 }
def k2c1 : Code := { maxStack := 4, maxLocals := 1, code := prog_11_method_6_code, exceptionTable := #[], attributes := #[] }
def k2m1 : Method := { name := "ofBinary", desc := "([B)Lcom/example/keyfold/keyfold/client/Value;", sig := { parameters := [(.array .byte)], returnType := some (.object "com/example/keyfold/keyfold/client/Value") }, accessFlags := 9, code := some k2c1 }
def k2c2 : Code := { maxStack := 1, maxLocals := 1, code := prog_11_method_8_code, exceptionTable := #[], attributes := #[] }
def k2m2 : Method := { name := "type", desc := "()Lcom/example/keyfold/keyfold/client/ValueType;", sig := { parameters := [], returnType := some (.object "com/example/keyfold/keyfold/client/ValueType") }, accessFlags := 1, code := some k2c2 }
def k2c3 : Code := { maxStack := 2, maxLocals := 1, code := prog_11_method_13_code, exceptionTable := #[], attributes := #[] }
def k2m3 : Method := { name := "asBinary", desc := "()[B", sig := { parameters := [], returnType := some (.array .byte) }, accessFlags := 1, code := some k2c3 }
def k2c4 : Code := { maxStack := 4, maxLocals := 2, code := prog_11_method_14_code, exceptionTable := #[], attributes := #[] }
def k2m4 : Method := { name := "contentOf", desc := "(Lcom/example/keyfold/keyfold/client/ValueType;)Ljava/lang/Object;", sig := { parameters := [(.object "com/example/keyfold/keyfold/client/ValueType")], returnType := some (.object "java/lang/Object") }, accessFlags := 2, code := some k2c4 }
/-- com/example/keyfold/keyfold/client/Value -/
def k2 : Class := { plain "com/example/keyfold/keyfold/client/Value" (some 0) with
  accessFlags := 49
  interfaces := #[]
  cf := some (fileOf pool2 8 #[.nestMembers #[159]] #[{ accessFlags := 2, nameIndex := 5, descriptorIndex := 32, attributes := #[] }, { accessFlags := 9, nameIndex := 116, descriptorIndex := 117, attributes := #[] }, { accessFlags := 1, nameIndex := 11, descriptorIndex := 197, attributes := #[] }, { accessFlags := 1, nameIndex := 202, descriptorIndex := 203, attributes := #[] }, { accessFlags := 2, nameIndex := 132, descriptorIndex := 133, attributes := #[] }] 49 2 #[] #[{ accessFlags := 18, nameIndex := 11, descriptorIndex := 12, attributes := #[] }, { accessFlags := 18, nameIndex := 15, descriptorIndex := 16, attributes := #[] }])
  fields := #[{ name := "type", type := (.object "com/example/keyfold/keyfold/client/ValueType"), accessFlags := 18, slot := 0, constantValue := 0 }, { name := "content", type := (.object "java/lang/Object"), accessFlags := 18, slot := 1, constantValue := 0 }]
  methods := #[k2m0, k2m1, k2m2, k2m3, k2m4]
  instanceTypes := #[(.object "com/example/keyfold/keyfold/client/ValueType"), (.object "java/lang/Object")]
  staticTypes := #[]
  resolved := Array.replicate 231 none
  statics := none }

def pool3 : Array CpInfo := pool [(1, .class_ 2), (0, u "java/lang/constant/Constable"), (0, .class_ 4), (0, u "java/lang/Object")] 6

/-- java/lang/constant/Constable -/
def k3 : Class := { plain "java/lang/constant/Constable" (some 0) with
  accessFlags := 1537
  interfaces := #[]
  cf := some (fileOf pool3 1 #[] #[] 1537 3 #[] #[])
  fields := #[]
  methods := #[]
  instanceTypes := #[]
  staticTypes := #[]
  resolved := Array.replicate 11 none
  statics := none }

def pool4 : Array CpInfo := pool [(1, .class_ 2), (0, u "java/lang/Comparable"), (0, .class_ 4), (0, u "java/lang/Object")] 7

/-- java/lang/Comparable -/
def k4 : Class := { plain "java/lang/Comparable" (some 0) with
  accessFlags := 1537
  interfaces := #[]
  cf := some (fileOf pool4 1 #[] #[] 1537 3 #[] #[])
  fields := #[]
  methods := #[]
  instanceTypes := #[]
  staticTypes := #[]
  resolved := Array.replicate 12 none
  statics := none }

def pool5 : Array CpInfo := pool [(1, .class_ 2), (0, u "java/io/Serializable"), (0, .class_ 4), (0, u "java/lang/Object")] 2

/-- java/io/Serializable -/
def k5 : Class := { plain "java/io/Serializable" (some 0) with
  accessFlags := 1537
  interfaces := #[]
  cf := some (fileOf pool5 1 #[] #[] 1537 3 #[] #[])
  fields := #[]
  methods := #[]
  instanceTypes := #[]
  staticTypes := #[]
  resolved := Array.replicate 7 none
  statics := none }

def pool6 : Array CpInfo := pool [(2, .class_ 4), (1, u "java/lang/Enum"), (0, u "name"), (0, u "Ljava/lang/String;"), (2, u "ordinal"), (0, u "I"), (1, .class_ 14), (1, u "java/lang/Object"), (4, u "hash"), (86, .class_ 108), (1, u "java/lang/Enum$EnumDesc"), (2, .class_ 112), (0, u "java/lang/constant/Constable"), (0, .class_ 114), (0, u "java/lang/Comparable"), (0, .class_ 116), (0, u "java/io/Serializable")] 87

/-- java/lang/Enum -/
def k6 : Class := { plain "java/lang/Enum" (some 0) with
  accessFlags := 1057
  interfaces := #[3, 4, 5]
  cf := some (fileOf pool6 2 #[.nestMembers #[106]] #[] 1057 12 #[111, 113, 115] #[{ accessFlags := 18, nameIndex := 5, descriptorIndex := 6, attributes := #[] }, { accessFlags := 18, nameIndex := 9, descriptorIndex := 10, attributes := #[] }, { accessFlags := 2, nameIndex := 19, descriptorIndex := 10, attributes := #[] }])
  fields := #[{ name := "name", type := (.object "java/lang/String"), accessFlags := 18, slot := 0, constantValue := 0 }, { name := "ordinal", type := .int, accessFlags := 18, slot := 1, constantValue := 0 }, { name := "hash", type := .int, accessFlags := 2, slot := 2, constantValue := 0 }]
  methods := #[]
  instanceTypes := #[(.object "java/lang/String"), .int, .int]
  staticTypes := #[]
  resolved := Array.replicate 204 none
  statics := none }

def pool7 : Array CpInfo := pool [(1, .class_ 2), (0, u "com/example/keyfold/keyfold/client/ValueType"), (2, u "STRING"), (0, u "Lcom/example/keyfold/keyfold/client/ValueType;"), (2, u "INTEGER"), (2, u "DOUBLE"), (2, u "BOOLEAN"), (2, u "BINARY"), (2, u "$VALUES"), (0, u "[Lcom/example/keyfold/keyfold/client/ValueType;"), (6, .class_ 31), (1, u "java/lang/Enum")] 27

/-- com/example/keyfold/keyfold/client/ValueType -/
def k7 : Class := { plain "com/example/keyfold/keyfold/client/ValueType" (some 6) with
  accessFlags := 16433
  interfaces := #[]
  cf := some (fileOf pool7 1 #[] #[] 16433 29 #[] #[{ accessFlags := 16409, nameIndex := 5, descriptorIndex := 6, attributes := #[] }, { accessFlags := 16409, nameIndex := 9, descriptorIndex := 6, attributes := #[] }, { accessFlags := 16409, nameIndex := 12, descriptorIndex := 6, attributes := #[] }, { accessFlags := 16409, nameIndex := 15, descriptorIndex := 6, attributes := #[] }, { accessFlags := 16409, nameIndex := 18, descriptorIndex := 6, attributes := #[] }, { accessFlags := 4122, nameIndex := 21, descriptorIndex := 22, attributes := #[] }])
  fields := #[{ name := "STRING", type := (.object "com/example/keyfold/keyfold/client/ValueType"), accessFlags := 16409, slot := 0, constantValue := 0 }, { name := "INTEGER", type := (.object "com/example/keyfold/keyfold/client/ValueType"), accessFlags := 16409, slot := 1, constantValue := 0 }, { name := "DOUBLE", type := (.object "com/example/keyfold/keyfold/client/ValueType"), accessFlags := 16409, slot := 2, constantValue := 0 }, { name := "BOOLEAN", type := (.object "com/example/keyfold/keyfold/client/ValueType"), accessFlags := 16409, slot := 3, constantValue := 0 }, { name := "BINARY", type := (.object "com/example/keyfold/keyfold/client/ValueType"), accessFlags := 16409, slot := 4, constantValue := 0 }, { name := "$VALUES", type := (.array (.object "com/example/keyfold/keyfold/client/ValueType")), accessFlags := 4122, slot := 5, constantValue := 0 }]
  methods := #[]
  instanceTypes := #[(.object "java/lang/String"), .int, .int]
  staticTypes := #[(.object "com/example/keyfold/keyfold/client/ValueType"), (.object "com/example/keyfold/keyfold/client/ValueType"), (.object "com/example/keyfold/keyfold/client/ValueType"), (.object "com/example/keyfold/keyfold/client/ValueType"), (.object "com/example/keyfold/keyfold/client/ValueType"), (.array (.object "com/example/keyfold/keyfold/client/ValueType"))]
  resolved := Array.replicate 59 none
  statics := some 0 }

def pool8 : Array CpInfo := pool [(1, .class_ 2), (0, u "java/lang/Cloneable"), (0, .class_ 4), (0, u "java/lang/Object")] 2

/-- java/lang/Cloneable -/
def k8 : Class := { plain "java/lang/Cloneable" (some 0) with
  accessFlags := 1537
  interfaces := #[]
  cf := some (fileOf pool8 1 #[] #[] 1537 3 #[] #[])
  fields := #[]
  methods := #[]
  instanceTypes := #[]
  staticTypes := #[]
  resolved := Array.replicate 7 none
  statics := none }

/-- the primitive byte -/
def k9 : Class := { plain "byte" none with kind := .primitive 'B', accessFlags := 0x411 }
/-- [B -/
def k10 : Class := { plain "[B" (some 0) with kind := .array 9 .byte, interfaces := #[8, 5], accessFlags := 1041 }

/-- the primitive int -/
def k11 : Class := { plain "int" none with kind := .primitive 'I', accessFlags := 0x411 }
/-- [I -/
def k12 : Class := { plain "[I" (some 0) with kind := .array 11 .int, interfaces := #[8, 5], accessFlags := 1041 }

def heap : Heap := #[{ cls := 7, slots := #[.null, .null, .null, .null, .ref 1, .null], vm := .statics 7 },
  { cls := 7, slots := #[.null, .int 0, .int 0], vm := .none }]
def classes : Array Class := #[k0, k1, k2, k3, k4, k5, k6, k7, k8, k9, k10, k11, k12]
def interned : List (Array UInt16 × Addr) := []
def slotsUsed : Nat := 9
def theMethod : MethodId := ⟨1, 1⟩
def args0 : Array Value := #[.int 3, .int 5, .int 300, .int 7, .int 9]
def aboutOver (below : List Frame) : State where
  vm := { classes := classes, interned := interned.toArray }
  heap := heap
  slotsUsed := slotsUsed
  threads := #[{ frames := .invoking theMethod args0 :: below }]
def below0 : List Frame := [.native { method := ⟨0, 0⟩, args := #[] }]
def about1 : State := aboutOver below0
def p0 : Program := .bare "" "" ""
def e0 : Env := launch0.env 0 0 0
theorem w_frames : about1.frames = Frame.invoking theMethod args0 :: below0 := rfl
set_option maxRecDepth 65536 in
theorem w_args : argsFit about1.vm theMethod args0 = true := by decide +kernel
set_option maxRecDepth 65536 in
theorem w_heap : heapFits about1 = true := by decide +kernel
set_option maxRecDepth 65536 in
theorem w_runnable : about1.curStatus? = some .runnable := by decide +kernel
set_option maxRecDepth 65536 in
theorem w_alone : about1.alone = true := by decide +kernel
set_option maxRecDepth 65536 in
theorem w_named : about1.methodNamed? x = some theMethod := by decide +kernel
set_option maxRecDepth 65536 in
theorem w_hears : about1.hears theMethod below0 = true := by decide +kernel
set_option maxRecDepth 65536 in
theorem w_ripe : about1.ripe theMethod args0 below0 = true := by decide +kernel
theorem w_running : about1.status = .running := rfl
set_option maxRecDepth 65536 in
theorem w_room : about1.hasRoom e0.platform room_1 = true :=
  launch0.hasRoom_least _ room_1 (by decide +kernel) (by decide +kernel) (by decide +kernel) (by decide +kernel) (by decide +kernel) (by decide +kernel)
theorem allAtoms_all (ts : List Jvm.Cond) (a : Array Jvm.Value) (st : Jvm.State) : (allAtoms ts).before a st = ts.all (fun c => c.before a st) := by
  induction ts with
  | nil => rfl
  | cons c t ih =>
    show (Jvm.Cond.and c (allAtoms t)).before a st = _
    rw [Jvm.Cond.before_and, ih, List.all_cons]
def words1 : List Jvm.Cond := Jvm.Cond.code x code maxLocals ret :: tables_1
/-- a 'code' word, met by the world's own term for the bytes: nothing is compared byte by byte -/
theorem code_word {y : MethodName} {bytes : ByteArray} {mx : Nat} {rt : Option FieldType} {a : Array Value} {s : State} {m : MethodId} {meth : Method} {c : Code} (h1 : s.methodNamed? y = some m) (h2 : s.vm.method? m = some meth) (h3 : meth.code = some c) (h4 : c.code = bytes)
    (h5 : (c.maxLocals == mx && c.exceptionTable.isEmpty && decide (c.maxStack ≤ mostOperands) && decide (meth.sig.returnType = rt) && !meth.locks && decide (parseMethodDescriptor y.desc = some meth.sig)) = true) : (Jvm.Cond.code y bytes mx rt).before a s = true := by
  simp only [Bool.and_eq_true, beq_iff_eq, Bool.not_eq_true', decide_eq_true_eq] at h5
  obtain ⟨⟨⟨⟨⟨g1, g2⟩, g3⟩, g4⟩, g5⟩, g6⟩ := h5
  simp [Cond.before, Cond.holds, Cond.value, h1, h2, h3, h4, g1, g2, g3, g4, g5, g6]
def isCode : Jvm.Cond → Bool
  | .code _ _ _ _ => true
  | _ => false
theorem all_split {L : List Jvm.Cond} {P : Jvm.Cond → Bool} (h1 : L.all (fun c => isCode c || P c) = true) (h2 : ∀ c ∈ L.filter isCode, P c = true) : L.all P = true := by
  refine List.all_eq_true.mpr fun c hc => ?_
  have h := List.all_eq_true.mp h1 c hc
  rcases Bool.eq_false_or_eq_true (isCode c) with hi | hi
  · exact h2 c (List.mem_filter.mpr ⟨hc, hi⟩)
  · simpa [hi] using h
set_option maxRecDepth 65536 in
theorem w_c0 : (Jvm.Cond.code x code maxLocals ret).before args0 about1 = true := code_word (m := ⟨1, 1⟩) (meth := k1m1) (c := k1c1) (by decide +kernel) rfl rfl rfl (by decide +kernel)
set_option maxRecDepth 65536 in
theorem w_c1 : (Jvm.Cond.code ({ cls := "com/example/keyfold/keyfold/client/Value", name := "ofBinary", desc := "([B)Lcom/example/keyfold/keyfold/client/Value;" } : Jvm.MethodName) prog_11_method_6_code (1 : Nat) (Option.some (Jvm.ClassFile.FieldType.object "com/example/keyfold/keyfold/client/Value"))).before args0 about1 = true := code_word (m := ⟨2, 1⟩) (meth := k2m1) (c := k2c1) (by decide +kernel) rfl rfl rfl (by decide +kernel)
set_option maxRecDepth 65536 in
theorem w_c2 : (Jvm.Cond.code ({ cls := "com/example/keyfold/keyfold/client/Value", name := "<init>", desc := "(Lcom/example/keyfold/keyfold/client/ValueType;Ljava/lang/Object;)V" } : Jvm.MethodName) prog_11_method_1_code (3 : Nat) (Option.none : Option Jvm.ClassFile.FieldType)).before args0 about1 = true := code_word (m := ⟨2, 0⟩) (meth := k2m0) (c := k2c0) (by decide +kernel) rfl rfl rfl (by decide +kernel)
set_option maxRecDepth 65536 in
theorem w_c3 : (Jvm.Cond.code ({ cls := "java/lang/Object", name := "<init>", desc := "()V" } : Jvm.MethodName) object_method_1_code (1 : Nat) (Option.none : Option Jvm.ClassFile.FieldType)).before args0 about1 = true := code_word (m := ⟨0, 0⟩) (meth := k0m0) (c := k0c0) (by decide +kernel) rfl rfl rfl (by decide +kernel)
set_option maxRecDepth 65536 in
theorem w_c4 : (Jvm.Cond.code ({ cls := "com/example/keyfold/keyfold/client/Value", name := "type", desc := "()Lcom/example/keyfold/keyfold/client/ValueType;" } : Jvm.MethodName) prog_11_method_8_code (1 : Nat) (Option.some (Jvm.ClassFile.FieldType.object "com/example/keyfold/keyfold/client/ValueType"))).before args0 about1 = true := code_word (m := ⟨2, 2⟩) (meth := k2m2) (c := k2c2) (by decide +kernel) rfl rfl rfl (by decide +kernel)
set_option maxRecDepth 65536 in
theorem w_c5 : (Jvm.Cond.code ({ cls := "com/example/keyfold/keyfold/client/Value", name := "asBinary", desc := "()[B" } : Jvm.MethodName) prog_11_method_13_code (1 : Nat) (Option.some (Jvm.ClassFile.FieldType.array Jvm.ClassFile.FieldType.byte))).before args0 about1 = true := code_word (m := ⟨2, 3⟩) (meth := k2m3) (c := k2c3) (by decide +kernel) rfl rfl rfl (by decide +kernel)
set_option maxRecDepth 65536 in
theorem w_c6 : (Jvm.Cond.code ({ cls := "com/example/keyfold/keyfold/client/Value", name := "contentOf", desc := "(Lcom/example/keyfold/keyfold/client/ValueType;)Ljava/lang/Object;" } : Jvm.MethodName) prog_11_method_14_code (2 : Nat) (Option.some (Jvm.ClassFile.FieldType.object "java/lang/Object"))).before args0 about1 = true := code_word (m := ⟨2, 4⟩) (meth := k2m4) (c := k2c4) (by decide +kernel) rfl rfl rfl (by decide +kernel)
set_option maxRecDepth 65536 in
theorem w_c7 : (Jvm.Cond.code ({ cls := "com/example/keyfold/keyfold/client/ValueOfBinaryPinLaw", name := "at", desc := "([BII)Z" } : Jvm.MethodName) method_3_code (3 : Nat) (Option.some Jvm.ClassFile.FieldType.boolean)).before args0 about1 = true := code_word (m := ⟨1, 2⟩) (meth := k1m2) (c := k1c2) (by decide +kernel) rfl rfl rfl (by decide +kernel)
def codes1 : List Jvm.Cond := [Jvm.Cond.code x code maxLocals ret, Jvm.Cond.code ({ cls := "com/example/keyfold/keyfold/client/Value", name := "ofBinary", desc := "([B)Lcom/example/keyfold/keyfold/client/Value;" } : Jvm.MethodName) prog_11_method_6_code (1 : Nat) (Option.some (Jvm.ClassFile.FieldType.object "com/example/keyfold/keyfold/client/Value")), Jvm.Cond.code ({ cls := "com/example/keyfold/keyfold/client/Value", name := "<init>", desc := "(Lcom/example/keyfold/keyfold/client/ValueType;Ljava/lang/Object;)V" } : Jvm.MethodName) prog_11_method_1_code (3 : Nat) (Option.none : Option Jvm.ClassFile.FieldType), Jvm.Cond.code ({ cls := "java/lang/Object", name := "<init>", desc := "()V" } : Jvm.MethodName) object_method_1_code (1 : Nat) (Option.none : Option Jvm.ClassFile.FieldType), Jvm.Cond.code ({ cls := "com/example/keyfold/keyfold/client/Value", name := "type", desc := "()Lcom/example/keyfold/keyfold/client/ValueType;" } : Jvm.MethodName) prog_11_method_8_code (1 : Nat) (Option.some (Jvm.ClassFile.FieldType.object "com/example/keyfold/keyfold/client/ValueType")), Jvm.Cond.code ({ cls := "com/example/keyfold/keyfold/client/Value", name := "asBinary", desc := "()[B" } : Jvm.MethodName) prog_11_method_13_code (1 : Nat) (Option.some (Jvm.ClassFile.FieldType.array Jvm.ClassFile.FieldType.byte)), Jvm.Cond.code ({ cls := "com/example/keyfold/keyfold/client/Value", name := "contentOf", desc := "(Lcom/example/keyfold/keyfold/client/ValueType;)Ljava/lang/Object;" } : Jvm.MethodName) prog_11_method_14_code (2 : Nat) (Option.some (Jvm.ClassFile.FieldType.object "java/lang/Object")), Jvm.Cond.code ({ cls := "com/example/keyfold/keyfold/client/ValueOfBinaryPinLaw", name := "at", desc := "([BII)Z" } : Jvm.MethodName) method_3_code (3 : Nat) (Option.some Jvm.ClassFile.FieldType.boolean)]
set_option maxRecDepth 65536 in
theorem codes_eq : words1.filter isCode = codes1 := rfl
theorem w_codes : ∀ c ∈ words1.filter isCode, c.before args0 about1 = true := by
  rw [codes_eq]
  intro c hc
  simp only [codes1, List.mem_cons, List.not_mem_nil, or_false] at hc
  rcases hc with rfl | rfl | rfl | rfl | rfl | rfl | rfl | rfl
  · exact w_c0
  · exact w_c1
  · exact w_c2
  · exact w_c3
  · exact w_c4
  · exact w_c5
  · exact w_c6
  · exact w_c7
set_option maxRecDepth 65536 in
theorem w_t1 : (words1.take 24).all (fun c => isCode c || c.before args0 about1) = true := by decide +kernel
set_option maxRecDepth 65536 in
theorem w_t2 : ((words1.drop 24).take 24).all (fun c => isCode c || c.before args0 about1) = true := by decide +kernel
set_option maxRecDepth 65536 in
theorem w_t3 : ((words1.drop 24).drop 24).all (fun c => isCode c || c.before args0 about1) = true := by decide +kernel
theorem w_tables : (allAtoms (Jvm.Cond.code x code maxLocals ret :: tables_1)).before args0 about1 = true := by
  rw [allAtoms_all]
  show words1.all (fun c => c.before args0 about1) = true
  refine all_split ?_ w_codes
  rw [← List.take_append_drop 24 words1, List.all_append, w_t1, ← List.take_append_drop 24 (words1.drop 24), List.all_append, w_t2, w_t3]
  rfl
set_option maxRecDepth 65536 in
theorem w_case : (Jvm.Cond.and given_1 narrow_1).before args0 about1 = true := by decide +kernel
theorem w_applies : (headSpec (Jvm.Cond.code x code maxLocals ret :: tables_1) room_1).applies x e0.platform about1 = true :=
  (Spec.applies_iff w_frames).mpr ⟨w_running, w_runnable, w_alone, w_named, w_hears, w_ripe, w_room, w_tables⟩
theorem atStart : AtStart classFile x code maxLocals ret World_1 tables_1 room_1 Calls_1 rest_1 Pre_1 launch0 p0 e0 about1 theMethod args0 below0 :=
  ⟨lists_1, trivial, launch0.admits_env _ _ _, launch0.least_env, fairChoices_fair.cas, fairChoices_fair.clock, w_frames, w_args, w_heap, w_applies, trivial, trivial, w_case⟩
end start1
theorem witness_1 : WitnessClaimed_1 := ⟨start1.p0, start1.e0, start1.about1, start1.theMethod, start1.args0, start1.below0, start1.atStart⟩
end Jvm.Pilot.@@N@@
