import JvmDerived
import JvmDerived.Pilot.@@N@@Statement
import JvmDerived.Pilot.@@N@@Code
set_option linter.unusedVariables false
set_option linter.unusedSimpArgs false
namespace Jvm.RoadKit
open Sem ClassFile Op Lib Jvm.Stand Jvm.Free Jvm.LawKit
section New
variable {p : Program} {l : Launch} {e : Env} {R : Room} {s : State} {m : MethodId} {args : Array Value} {below : List Frame} {meth : Method} {c : Code} {T : State} {locs : List Loc} {cells slots : Nat}
theorem retI (X : Stand p l e R s m args below meth c T locs cells slots) (hx : p.tables.exec = Jvm.exec) {pc : Nat} {Ls : Array Slot} {z : Int32} {rest : List Value} (hret : meth.sig.returnType = some .int) (hd : decode c.code pc = .ok (.ireturn, 1)) {fs : List Frame}
    (hl : ∀ (f : JFrame) (acts : List Action), f.method = m → f.locked = none → f.entered = [] → (doReturn e (T.setTop f) acts (some (.int z))).1 = T.setFrames fs) : Steps p.tables e below (T.setTop (mkF m pc Ls (.int z :: rest))) (T.setFrames fs) := by
  have hm' : T.vm.method? m = some meth := X.method'
  have hn : narrow .int (.int z) = .int z := rfl
  show Steps p.tables e below (T.setTop { method := m, pc := pc, locals := Ls, stack := _ :: rest, locked := none }) _
  jvm_step X.here [X.here.top, hx, hd, hm', hret, hn]
  first | (intro acts; rw [hl _ acts rfl rfl rfl]) | rw [hl _ _ rfl rfl rfl]
  exact Steps.refl _
end New
end Jvm.RoadKit
namespace Jvm.Pilot.@@N@@
open Jvm Jvm.ClassFile Sem Op Lib Jvm.Free Jvm.Stand Jvm.LawKit Jvm.RoadKit Bundle Jvm.Pilot.@@N@@.Jvm.D
def QP (r : Option Value) (h0 : Heap) (n0 : Nat) (v : Option Value) (h : Heap) (L : List Loc) : Prop := v = r ∧ Fr n0 L ∧ h = h0
def QW (P : Option Value → Heap → Prop) (n0 : Nat) (v : Option Value) (h : Heap) (L : List Loc) : Prop := Fr n0 L ∧ P v h
def Q0 (n0 : Nat) (v : Option Value) (h : Heap) (L : List Loc) : Prop := v = some (.int 1) ∧ Fr n0 L
theorem own_selP {Z s : State} {a0 args : Array Value} {C : String} {y z w : MethodName} (hZ : Z.Warmed39 s.vm) (hs : (Jvm.Cond.selects C z w).before a0 Z = true) (he : w.cls = y.cls) (hp : (Jvm.Cond.privateMethod y).before a0 Z = true) (hi : (Jvm.Cond.instanceMethod y).before a0 Z = true) (hy : y.cls ≠ "java/lang/invoke/MethodHandle" ∧ y.cls ≠ "java/lang/invoke/VarHandle") : (Jvm.Cond.selects y.cls y y).before args s = true := by
  obtain ⟨c, r, m, -, -, k2, -, k, hk, hki⟩ := Cond.selects_spec (mvT hZ hs (args := args))
  have hc := findClass_of_methodNamed k2
  rw [he] at hc
  exact Jvm.Stand.selects_self_of_private hc hk hki (Cond.privateMethod_at (mvP hZ hp (args := #[]))) (mvT hZ hi) hy
theorem own_byte (x : Int32) : x.toInt8.toInt32.toInt8.toInt32 = x.toInt8.toInt32 := by simp
theorem own_len {s : State} {args : Array Value} {t : Term} {a : Addr} {cl : Cell} {ty : FieldType} {n : Int32} (ev : t.eval args s none [] s = some (.ref a)) (A : Arr s s.heap a cl ty) (h : (Jvm.Cond.eq (Term.length t) (Term.int n)).value args s none s [] = some true) : cl.slots.size < 2 ^ 31 ∧ cl.slots.size.toInt32 = n := by
  have e := eqv_i (Term.int_eval _) h
  have ha := A.fin (Vm.Alike.refl _)
  by_cases q : cl.slots.size < 2 ^ 31
  · refine ⟨q, ?_⟩
    rw [len_f ev ha q] at e
    cases e; rfl
  · simp [Term.eval, ev, ha, q] at e
theorem own_eqr {s : State} {args : Array Value} {t u : Term} {y : Addr} (hu : u.eval args s none [] s = some (.ref y)) (h : (Jvm.Cond.eq t u).value args s none s [] = some true) : t.eval args s none [] s = some (.ref y) := by
  obtain ⟨x, y', e1, e2, k1, k2⟩ := cmp_v (Or.inl h)
  cases hu.symm.trans e2
  have hx : x.isRef = true := k2.2
  exact e1.trans (congrArg some (gotT (eq_R e1 hu hx rfl) h))
theorem own_sta_idx {s : State} {args : Array Value} {C n d : String} {v : Value} (h : (Term.static C n d).eval args s none [] s = some v) {idx : List Nat} : (Term.static C n d).eval args s none idx s = some v := h
theorem own_idx {s : State} {args : Array Value} {j : Int32} (hj : ¬ j < 0) : (Term.sub (Term.index 0) (Term.int 128)).eval args s none [j.toNatClampNeg] s = some (.int (j - (128 : Int32))) := by
  have e := idx_at (args := args) (s := s) (first := s) (o := none) hj
  show (do let x ← (Term.index 0).eval args s none [j.toNatClampNeg] s; let y ← (Term.int 128).eval args s none [j.toNatClampNeg] s; _) = _
  rw [e]; rfl
theorem own_plus1 {s : State} {args : Array Value} {t : Term} {a : Addr} {cl : Cell} {n : Int32} (hf : Fit s) (et : ∀ idx, t.eval args s none idx s = some (.ref a)) (A : Arr s s.heap a cl .int) (sz : cl.slots.size < 2 ^ 31) (z : cl.slots.size.toInt32 = n)
    (h : (Jvm.Cond.all t (.eq (.op1 .i2l (.elem t (.index 0))) (.op2 .ladd (.op1 .i2l (.index 0)) (.long 1)))).value args s none s [] = some true) (i : Nat) (k : Int32) (hi : i < n.toNatClampNeg) (hk : k.toInt64 = i.toInt32.toInt64 + 1) : cl.slots[i]? = some (.int k) := by
  have S : cl.slots.size = n.toNatClampNeg := by rw [← z]; simp only [Int32.toNatClampNeg, len_toInt sz]; rfl
  have hi' : i < cl.slots.size := S ▸ hi
  have e1 : (Nat.toInt32 i).toNatClampNeg = i := by simp only [Int32.toNatClampNeg, len_toInt (Nat.lt_trans hi' sz)]; rfl
  have hin : ¬ (i.toInt32 < 0 ∨ cl.slots.size ≤ i.toInt32.toNatClampNeg) := idx_in hi' sz
  have nn : ¬ i.toInt32 < 0 := fun q => hin (Or.inl q)
  have u := Cond.all_elim (et []) (A.fin (Vm.Alike.refl _)) h i hi'
  obtain ⟨v, hv, hfv⟩ := elem_fit hf A hin
  obtain ⟨x, rfl⟩ := fit_I hfv (Or.inl rfl)
  have ix : (Term.index 0).eval args s none [i] s = some (.int i.toInt32) := by
    have := idx_at (args := args) (s := s) (first := s) (o := none) nn
    rwa [e1] at this
  have el : (Term.elem t (.index 0)).eval args s none [i] s = some (.int x) := (elem_f (et _) ix (A.fin (Vm.Alike.refl _)) nn).trans hv
  have l1 := i2l_at el
  have l2 : (Term.op2 .ladd (.op1 .i2l (.index 0)) (.long 1)).eval args s none [i] s = some (.long (i.toInt32.toInt64 + 1)) := by
    rw [op2_f (i2l_at ix) (long_at 1)]; rfl
  have e := gotT (eq_L l1 l2) u
  have ex : x = k := by
    apply Int32.toInt_inj.mp
    have q := congrArg Int64.toInt (e.trans hk.symm)
    rwa [Int32.toInt_toInt64, Int32.toInt_toInt64] at q
  rw [e1] at hv
  rw [hv, ex]
def Wd (Z : State) (w_n2 : Addr) (w_n3 : Addr) (w_n1 : Addr) (w_n0 : Addr) : Prop := Sta Z Z.heap "com/example/nandi/nandi/proto/EventType" "CREATED" "Lcom/example/nandi/nandi/proto/EventType;" (.ref w_n2) ∧ Exa Z Z.heap w_n2 "com/example/nandi/nandi/proto/EventType" ∧ Sta Z Z.heap "com/example/nandi/nandi/proto/EventType" "DELETED" "Lcom/example/nandi/nandi/proto/EventType;" (.ref w_n3) ∧ Exa Z Z.heap w_n3 "com/example/nandi/nandi/proto/EventType" ∧ Sta Z Z.heap "com/example/nandi/nandi/proto/EventType" "CHANGED" "Lcom/example/nandi/nandi/proto/EventType;" (.ref w_n1) ∧ Exa Z Z.heap w_n1 "com/example/nandi/nandi/proto/EventType" ∧ Sta Z Z.heap "com/example/nandi/nandi/proto/EventType" "CHILDREN_CHANGED" "Lcom/example/nandi/nandi/proto/EventType;" (.ref w_n0) ∧ Exa Z Z.heap w_n0 "com/example/nandi/nandi/proto/EventType" ∧ Fld Z Z.heap w_n2 "java/lang/Enum" "ordinal" "I" (.int (0 : Int32)) ∧ Fld Z Z.heap w_n0 "java/lang/Enum" "ordinal" "I" (.int (3 : Int32)) ∧ Fld Z Z.heap w_n3 "java/lang/Enum" "ordinal" "I" (.int (1 : Int32)) ∧ Fld Z Z.heap w_n1 "java/lang/Enum" "ordinal" "I" (.int (2 : Int32))
set_option maxRecDepth 65536 in
set_option maxHeartbeats 4000000 in
theorem wd_start {s : State} {a0 : Array Value} (hfit : Fit s) (hw : ∀ d ∈ tables_1, d.before a0 s = true) (hn : narrow_1.value a0 s none s [] = some true) : ∃ (w_n2 : Addr) (w_n3 : Addr) (w_n1 : Addr) (w_n0 : Addr), Wd s w_n2 w_n3 w_n1 w_n0 := by
  obtain ⟨q0, hn0⟩ := and_e hn
  obtain ⟨q1, hn1⟩ := and_e hn0
  obtain ⟨q2, hn2⟩ := and_e hn1
  obtain ⟨q3, hn3⟩ := and_e hn2
  obtain ⟨q4, hn4⟩ := and_e hn3
  obtain ⟨q5, hn5⟩ := and_e hn4
  obtain ⟨q6, hn6⟩ := and_e hn5
  have q7 := hn6
  obtain ⟨w_n2, ew_n2⟩ := exa_v q0
  have S_n2 := Sta.start ew_n2 (Or.inr ⟨(hw _ (List.mem_of_getElem? (i := 3) rfl)), (hw _ (List.mem_of_getElem? (i := 4) rfl))⟩)
  have E_n2 := Exa.start ew_n2 q0
  obtain ⟨w_n3, ew_n3⟩ := exa_v q1
  have S_n3 := Sta.start ew_n3 (Or.inr ⟨(hw _ (List.mem_of_getElem? (i := 3) rfl)), (hw _ (List.mem_of_getElem? (i := 7) rfl))⟩)
  have E_n3 := Exa.start ew_n3 q1
  obtain ⟨w_n1, ew_n1⟩ := exa_v q2
  have S_n1 := Sta.start ew_n1 (Or.inr ⟨(hw _ (List.mem_of_getElem? (i := 3) rfl)), (hw _ (List.mem_of_getElem? (i := 9) rfl))⟩)
  have E_n1 := Exa.start ew_n1 q2
  obtain ⟨w_n0, ew_n0⟩ := exa_v q3
  have S_n0 := Sta.start ew_n0 (Or.inr ⟨(hw _ (List.mem_of_getElem? (i := 3) rfl)), (hw _ (List.mem_of_getElem? (i := 11) rfl))⟩)
  have E_n0 := Exa.start ew_n0 q3
  have F_n2_ordinal := Fld.start ((fld_at ew_n2).symm.trans (eqv_i (Term.int_eval _) q4))
  have F_n0_ordinal := Fld.start ((fld_at ew_n0).symm.trans (eqv_i (Term.int_eval _) q5))
  have F_n3_ordinal := Fld.start ((fld_at ew_n3).symm.trans (eqv_i (Term.int_eval _) q6))
  have F_n1_ordinal := Fld.start ((fld_at ew_n1).symm.trans (eqv_i (Term.int_eval _) q7))
  exact ⟨w_n2, w_n3, w_n1, w_n0, S_n2, E_n2, S_n3, E_n3, S_n1, E_n1, S_n0, E_n0, F_n2_ordinal, F_n0_ordinal, F_n3_ordinal, F_n1_ordinal⟩
theorem d1_0 : decode prog_29_method_7_code 0 = .ok (.aload_n 0, 1) := by decide +kernel
theorem d1_1 : decode prog_29_method_7_code 1 = .ok (.getstatic 13, 3) := by decide +kernel
theorem d1_4 : decode prog_29_method_7_code 4 = .ok (.if_acmp .eq 10, 3) := by decide +kernel
theorem d1_7 : decode prog_29_method_7_code 7 = .ok (.aload_n 0, 1) := by decide +kernel
theorem d1_8 : decode prog_29_method_7_code 8 = .ok (.getstatic 7, 3) := by decide +kernel
theorem d1_11 : decode prog_29_method_7_code 11 = .ok (.if_acmp .ne 7, 3) := by decide +kernel
theorem d1_18 : decode prog_29_method_7_code 18 = .ok (.iconst 0, 1) := by decide +kernel
theorem d1_19 : decode prog_29_method_7_code 19 = .ok (.ireturn, 1) := by decide +kernel
theorem ef_1_0 (m : MethodId) (x0 : Addr) : entryFrame m #[(.ref x0)] 1 = mkF m 0 #[.val (.ref x0)] [] := by first | (simp [entryFrame, mkF, argsToLocals, Value.category]; done) | rfl
theorem pn_1 : plainName "com/example/nandi/nandi/proto/EventType" = true := by first | (simp [plainName, overriddenIn]; done) | decide +kernel
set_option maxRecDepth 65536 in
set_option maxHeartbeats 40000000 in
theorem rm1_CREATED (l : Launch) (Z : State) (a0 : Array Value) (hw : ∀ d ∈ tables_1, d.before a0 Z = true) (ws : List Jvm.Cond) {w_n2 : Addr} {w_n3 : Addr} {w_n1 : Addr} {w_n0 : Addr} (W : Wd Z w_n2 w_n3 w_n1 w_n0) (h0 : Heap) (n0 : Nat) (O0 : Old Z n0 h0) :
    MetFree l (⟨"com/example/nandi/nandi/proto/EventType", "firesChildWatches", "()Z"⟩ : MethodName) (head1 (Jvm.Cond.code (⟨"com/example/nandi/nandi/proto/EventType", "firesChildWatches", "()Z"⟩ : MethodName) prog_29_method_7_code 1 (some .boolean) :: ws) ({ frames := 0, cells := 0, slots := 0, locals := 0 } : Room)) (fun a U => a = #[(.ref w_n2)] ∧ Z.Warmed39 U.vm ∧ U.heap = h0) (fun _ _ _ _ _ => True) (fun _ U o U' => ∃ v L, o = .returned v ∧ QP (some (.int (0 : Int32))) h0 n0 v U'.heap L ∧ FrameEnd U o U' L ({ frames := 0, cells := 0, slots := 0, locals := 0 } : Room).cells ({ frames := 0, cells := 0, slots := 0, locals := 0 } : Room).slots) := by
  have W' := W; obtain ⟨S_n2, E_n2, S_n3, E_n3, S_n1, E_n1, S_n0, E_n0, F_n2_ordinal, F_n0_ordinal, F_n3_ordinal, F_n1_ordinal⟩ := W'
  refine MetFree.of_bodySF (plainFor_of_name pn_1) hisR ?_
  intro p e s m args below meth c s₁ Bd hml0 hP hK
  obtain ⟨rfl, hZ, hh⟩ := hP
  have hx := Bd.exec
  have hby := Bd.bytes
  have hml : c.maxLocals = 1 := hml0
  have hown : s.vm.findClass "com/example/nandi/nandi/proto/EventType" = some m.cls := findClass_of_methodNamed Bd.named
  have hnm := (name_of_methodNamed Bd.named Bd.method).1
  have X0 : Stand p l e ({ frames := 0, cells := 0, slots := 0, locals := 0 } : Room) s m #[(.ref w_n2)] below meth c s₁ [] 0 0 := Stand.of_body Bd
  have e0 : s₁.heap = h0 := by rw [← hh, Bd.state]; rfl
  have N0 := Fr.nil n0
  have pre0 : ∀ t, Steps p.tables e below (s₁.setTop (mkF m 0 #[.val (.ref w_n2)] [])) t → Steps p.tables e below (s₁.setTop (entryFrame m #[(.ref w_n2)] 1)) t := fun t k => castTop (ef_1_0 m w_n2) k
  obtain ⟨T1, X1, e1, st1⟩ := getS2 X0 hx hZ hown (host := "") (Or.inl (hw _ (List.mem_of_getElem? (i := 17) rfl))) Via.refl e0 (S_n0.ext O0.2) (g := (mkF m 1 #[.val (.ref w_n2)] [(.ref w_n2)])) rfl (hb hby d1_1)
  obtain ⟨T2, X2, e2, st2⟩ := getS2 X1 hx hZ hown (host := "") (Or.inl (hw _ (List.mem_of_getElem? (i := 18) rfl))) Via.refl e1 (S_n3.ext O0.2) (g := (mkF m 8 #[.val (.ref w_n2)] [(.ref w_n2)])) rfl (hb hby d1_8)
  obtain ⟨fs, hr, hrun, hended, hW, hsame⟩ := X2.leave (v := some (.int (0 : Int32))) (fun h => by rw [Bd.returns] at h; cases h)
  refine ⟨_, _, pre0 _ ?_, hrun, hended, _, _, rfl, ?_, ⟨_, rfl⟩, hW, hsame.mono (by decide) (by decide)⟩
  · show Steps p.tables e below (s₁.setTop (mkF m 0 #[.val (.ref w_n2)] [])) _
    refine XS.aloadN X0.here hx rfl (hb hby d1_0) rfl rfl ?_
    show Steps p.tables e below (s₁.setTop (mkF m 1 #[.val (.ref w_n2)] [(.ref w_n2)])) _
    refine st1 _ ?_
    show Steps p.tables e below (T1.setTop (mkF m 4 #[.val (.ref w_n2)] [(.ref w_n0), (.ref w_n2)])) _
    refine Jvm.RoadKit.acmp (g := (mkF m 4 #[.val (.ref w_n2)] [(.ref w_n0), (.ref w_n2)])) X1 hx rfl rfl rfl (pc0 := 4) (pc' := 7) (same := false) rfl (hb hby d1_4) rfl (decide_eq_false fun q => (Fld.ne F_n2_ordinal F_n0_ordinal (fun q => absurd (Value.int.inj q) (by decide))) (Value.ref.inj q)) (by decide) (by decide) ?_
    show Steps p.tables e below (T1.setTop (mkF m 7 #[.val (.ref w_n2)] [])) _
    refine XS.aloadN X1.here hx rfl (hb hby d1_7) rfl rfl ?_
    show Steps p.tables e below (T1.setTop (mkF m 8 #[.val (.ref w_n2)] [(.ref w_n2)])) _
    refine st2 _ ?_
    show Steps p.tables e below (T2.setTop (mkF m 11 #[.val (.ref w_n2)] [(.ref w_n3), (.ref w_n2)])) _
    refine Jvm.RoadKit.acmp (g := (mkF m 11 #[.val (.ref w_n2)] [(.ref w_n3), (.ref w_n2)])) X2 hx rfl rfl rfl (pc0 := 11) (pc' := 18) (same := false) rfl (hb hby d1_11) rfl (decide_eq_false fun q => (Fld.ne F_n2_ordinal F_n3_ordinal (fun q => absurd (Value.int.inj q) (by decide))) (Value.ref.inj q)) (by decide) (by decide) ?_
    show Steps p.tables e below (T2.setTop (mkF m 18 #[.val (.ref w_n2)] [])) _
    refine XS.iconst X2.here hx rfl (hb hby d1_18) ?_
    show Steps p.tables e below (T2.setTop (mkF m 19 #[.val (.ref w_n2)] [(.int (0 : Int32))])) _
    exact retN X2 hx (t := .boolean) Bd.returns (by simp) (hb hby d1_19) hr
  · show QP (some (.int (0 : Int32))) h0 n0 _ T2.heap _
    rw [e2]
    exact ⟨rfl, N0, rfl⟩
theorem d1_14 : decode prog_29_method_7_code 14 = .ok (.iconst 1, 1) := by decide +kernel
theorem d1_15 : decode prog_29_method_7_code 15 = .ok (.goto 4, 3) := by decide +kernel
set_option maxRecDepth 65536 in
set_option maxHeartbeats 40000000 in
theorem rm1_DELETED (l : Launch) (Z : State) (a0 : Array Value) (hw : ∀ d ∈ tables_1, d.before a0 Z = true) (ws : List Jvm.Cond) {w_n2 : Addr} {w_n3 : Addr} {w_n1 : Addr} {w_n0 : Addr} (W : Wd Z w_n2 w_n3 w_n1 w_n0) (h0 : Heap) (n0 : Nat) (O0 : Old Z n0 h0) :
    MetFree l (⟨"com/example/nandi/nandi/proto/EventType", "firesChildWatches", "()Z"⟩ : MethodName) (head1 (Jvm.Cond.code (⟨"com/example/nandi/nandi/proto/EventType", "firesChildWatches", "()Z"⟩ : MethodName) prog_29_method_7_code 1 (some .boolean) :: ws) ({ frames := 0, cells := 0, slots := 0, locals := 0 } : Room)) (fun a U => a = #[(.ref w_n3)] ∧ Z.Warmed39 U.vm ∧ U.heap = h0) (fun _ _ _ _ _ => True) (fun _ U o U' => ∃ v L, o = .returned v ∧ QP (some (.int (1 : Int32))) h0 n0 v U'.heap L ∧ FrameEnd U o U' L ({ frames := 0, cells := 0, slots := 0, locals := 0 } : Room).cells ({ frames := 0, cells := 0, slots := 0, locals := 0 } : Room).slots) := by
  have W' := W; obtain ⟨S_n2, E_n2, S_n3, E_n3, S_n1, E_n1, S_n0, E_n0, F_n2_ordinal, F_n0_ordinal, F_n3_ordinal, F_n1_ordinal⟩ := W'
  refine MetFree.of_bodySF (plainFor_of_name pn_1) hisR ?_
  intro p e s m args below meth c s₁ Bd hml0 hP hK
  obtain ⟨rfl, hZ, hh⟩ := hP
  have hx := Bd.exec
  have hby := Bd.bytes
  have hml : c.maxLocals = 1 := hml0
  have hown : s.vm.findClass "com/example/nandi/nandi/proto/EventType" = some m.cls := findClass_of_methodNamed Bd.named
  have hnm := (name_of_methodNamed Bd.named Bd.method).1
  have X0 : Stand p l e ({ frames := 0, cells := 0, slots := 0, locals := 0 } : Room) s m #[(.ref w_n3)] below meth c s₁ [] 0 0 := Stand.of_body Bd
  have e0 : s₁.heap = h0 := by rw [← hh, Bd.state]; rfl
  have N0 := Fr.nil n0
  have pre0 : ∀ t, Steps p.tables e below (s₁.setTop (mkF m 0 #[.val (.ref w_n3)] [])) t → Steps p.tables e below (s₁.setTop (entryFrame m #[(.ref w_n3)] 1)) t := fun t k => castTop (ef_1_0 m w_n3) k
  obtain ⟨T1, X1, e1, st1⟩ := getS2 X0 hx hZ hown (host := "") (Or.inl (hw _ (List.mem_of_getElem? (i := 17) rfl))) Via.refl e0 (S_n0.ext O0.2) (g := (mkF m 1 #[.val (.ref w_n3)] [(.ref w_n3)])) rfl (hb hby d1_1)
  obtain ⟨T2, X2, e2, st2⟩ := getS2 X1 hx hZ hown (host := "") (Or.inl (hw _ (List.mem_of_getElem? (i := 18) rfl))) Via.refl e1 (S_n3.ext O0.2) (g := (mkF m 8 #[.val (.ref w_n3)] [(.ref w_n3)])) rfl (hb hby d1_8)
  obtain ⟨fs, hr, hrun, hended, hW, hsame⟩ := X2.leave (v := some (.int (1 : Int32))) (fun h => by rw [Bd.returns] at h; cases h)
  refine ⟨_, _, pre0 _ ?_, hrun, hended, _, _, rfl, ?_, ⟨_, rfl⟩, hW, hsame.mono (by decide) (by decide)⟩
  · show Steps p.tables e below (s₁.setTop (mkF m 0 #[.val (.ref w_n3)] [])) _
    refine XS.aloadN X0.here hx rfl (hb hby d1_0) rfl rfl ?_
    show Steps p.tables e below (s₁.setTop (mkF m 1 #[.val (.ref w_n3)] [(.ref w_n3)])) _
    refine st1 _ ?_
    show Steps p.tables e below (T1.setTop (mkF m 4 #[.val (.ref w_n3)] [(.ref w_n0), (.ref w_n3)])) _
    refine Jvm.RoadKit.acmp (g := (mkF m 4 #[.val (.ref w_n3)] [(.ref w_n0), (.ref w_n3)])) X1 hx rfl rfl rfl (pc0 := 4) (pc' := 7) (same := false) rfl (hb hby d1_4) rfl (decide_eq_false fun q => (Fld.ne F_n3_ordinal F_n0_ordinal (fun q => absurd (Value.int.inj q) (by decide))) (Value.ref.inj q)) (by decide) (by decide) ?_
    show Steps p.tables e below (T1.setTop (mkF m 7 #[.val (.ref w_n3)] [])) _
    refine XS.aloadN X1.here hx rfl (hb hby d1_7) rfl rfl ?_
    show Steps p.tables e below (T1.setTop (mkF m 8 #[.val (.ref w_n3)] [(.ref w_n3)])) _
    refine st2 _ ?_
    show Steps p.tables e below (T2.setTop (mkF m 11 #[.val (.ref w_n3)] [(.ref w_n3), (.ref w_n3)])) _
    refine Jvm.RoadKit.acmp (g := (mkF m 11 #[.val (.ref w_n3)] [(.ref w_n3), (.ref w_n3)])) X2 hx rfl rfl rfl (pc0 := 11) (pc' := 14) (same := true) rfl (hb hby d1_11) rfl (decide_eq_true rfl) (by decide) (by decide) ?_
    show Steps p.tables e below (T2.setTop (mkF m 14 #[.val (.ref w_n3)] [])) _
    refine XS.iconst X2.here hx rfl (hb hby d1_14) ?_
    show Steps p.tables e below (T2.setTop (mkF m 15 #[.val (.ref w_n3)] [(.int (1 : Int32))])) _
    refine XS.goto X2.here hx rfl (pc0 := 15) (pc' := 19) rfl (hb hby d1_15) (by decide) (by decide) ?_
    show Steps p.tables e below (T2.setTop (mkF m 19 #[.val (.ref w_n3)] [(.int (1 : Int32))])) _
    exact retN X2 hx (t := .boolean) Bd.returns (by simp) (hb hby d1_19) hr
  · show QP (some (.int (1 : Int32))) h0 n0 _ T2.heap _
    rw [e2]
    exact ⟨rfl, N0, rfl⟩
set_option maxRecDepth 65536 in
set_option maxHeartbeats 40000000 in
theorem rm1_CHANGED (l : Launch) (Z : State) (a0 : Array Value) (hw : ∀ d ∈ tables_1, d.before a0 Z = true) (ws : List Jvm.Cond) {w_n2 : Addr} {w_n3 : Addr} {w_n1 : Addr} {w_n0 : Addr} (W : Wd Z w_n2 w_n3 w_n1 w_n0) (h0 : Heap) (n0 : Nat) (O0 : Old Z n0 h0) :
    MetFree l (⟨"com/example/nandi/nandi/proto/EventType", "firesChildWatches", "()Z"⟩ : MethodName) (head1 (Jvm.Cond.code (⟨"com/example/nandi/nandi/proto/EventType", "firesChildWatches", "()Z"⟩ : MethodName) prog_29_method_7_code 1 (some .boolean) :: ws) ({ frames := 0, cells := 0, slots := 0, locals := 0 } : Room)) (fun a U => a = #[(.ref w_n1)] ∧ Z.Warmed39 U.vm ∧ U.heap = h0) (fun _ _ _ _ _ => True) (fun _ U o U' => ∃ v L, o = .returned v ∧ QP (some (.int (0 : Int32))) h0 n0 v U'.heap L ∧ FrameEnd U o U' L ({ frames := 0, cells := 0, slots := 0, locals := 0 } : Room).cells ({ frames := 0, cells := 0, slots := 0, locals := 0 } : Room).slots) := by
  have W' := W; obtain ⟨S_n2, E_n2, S_n3, E_n3, S_n1, E_n1, S_n0, E_n0, F_n2_ordinal, F_n0_ordinal, F_n3_ordinal, F_n1_ordinal⟩ := W'
  refine MetFree.of_bodySF (plainFor_of_name pn_1) hisR ?_
  intro p e s m args below meth c s₁ Bd hml0 hP hK
  obtain ⟨rfl, hZ, hh⟩ := hP
  have hx := Bd.exec
  have hby := Bd.bytes
  have hml : c.maxLocals = 1 := hml0
  have hown : s.vm.findClass "com/example/nandi/nandi/proto/EventType" = some m.cls := findClass_of_methodNamed Bd.named
  have hnm := (name_of_methodNamed Bd.named Bd.method).1
  have X0 : Stand p l e ({ frames := 0, cells := 0, slots := 0, locals := 0 } : Room) s m #[(.ref w_n1)] below meth c s₁ [] 0 0 := Stand.of_body Bd
  have e0 : s₁.heap = h0 := by rw [← hh, Bd.state]; rfl
  have N0 := Fr.nil n0
  have pre0 : ∀ t, Steps p.tables e below (s₁.setTop (mkF m 0 #[.val (.ref w_n1)] [])) t → Steps p.tables e below (s₁.setTop (entryFrame m #[(.ref w_n1)] 1)) t := fun t k => castTop (ef_1_0 m w_n1) k
  obtain ⟨T1, X1, e1, st1⟩ := getS2 X0 hx hZ hown (host := "") (Or.inl (hw _ (List.mem_of_getElem? (i := 17) rfl))) Via.refl e0 (S_n0.ext O0.2) (g := (mkF m 1 #[.val (.ref w_n1)] [(.ref w_n1)])) rfl (hb hby d1_1)
  obtain ⟨T2, X2, e2, st2⟩ := getS2 X1 hx hZ hown (host := "") (Or.inl (hw _ (List.mem_of_getElem? (i := 18) rfl))) Via.refl e1 (S_n3.ext O0.2) (g := (mkF m 8 #[.val (.ref w_n1)] [(.ref w_n1)])) rfl (hb hby d1_8)
  obtain ⟨fs, hr, hrun, hended, hW, hsame⟩ := X2.leave (v := some (.int (0 : Int32))) (fun h => by rw [Bd.returns] at h; cases h)
  refine ⟨_, _, pre0 _ ?_, hrun, hended, _, _, rfl, ?_, ⟨_, rfl⟩, hW, hsame.mono (by decide) (by decide)⟩
  · show Steps p.tables e below (s₁.setTop (mkF m 0 #[.val (.ref w_n1)] [])) _
    refine XS.aloadN X0.here hx rfl (hb hby d1_0) rfl rfl ?_
    show Steps p.tables e below (s₁.setTop (mkF m 1 #[.val (.ref w_n1)] [(.ref w_n1)])) _
    refine st1 _ ?_
    show Steps p.tables e below (T1.setTop (mkF m 4 #[.val (.ref w_n1)] [(.ref w_n0), (.ref w_n1)])) _
    refine Jvm.RoadKit.acmp (g := (mkF m 4 #[.val (.ref w_n1)] [(.ref w_n0), (.ref w_n1)])) X1 hx rfl rfl rfl (pc0 := 4) (pc' := 7) (same := false) rfl (hb hby d1_4) rfl (decide_eq_false fun q => (Fld.ne F_n1_ordinal F_n0_ordinal (fun q => absurd (Value.int.inj q) (by decide))) (Value.ref.inj q)) (by decide) (by decide) ?_
    show Steps p.tables e below (T1.setTop (mkF m 7 #[.val (.ref w_n1)] [])) _
    refine XS.aloadN X1.here hx rfl (hb hby d1_7) rfl rfl ?_
    show Steps p.tables e below (T1.setTop (mkF m 8 #[.val (.ref w_n1)] [(.ref w_n1)])) _
    refine st2 _ ?_
    show Steps p.tables e below (T2.setTop (mkF m 11 #[.val (.ref w_n1)] [(.ref w_n3), (.ref w_n1)])) _
    refine Jvm.RoadKit.acmp (g := (mkF m 11 #[.val (.ref w_n1)] [(.ref w_n3), (.ref w_n1)])) X2 hx rfl rfl rfl (pc0 := 11) (pc' := 18) (same := false) rfl (hb hby d1_11) rfl (decide_eq_false fun q => (Fld.ne F_n1_ordinal F_n3_ordinal (fun q => absurd (Value.int.inj q) (by decide))) (Value.ref.inj q)) (by decide) (by decide) ?_
    show Steps p.tables e below (T2.setTop (mkF m 18 #[.val (.ref w_n1)] [])) _
    refine XS.iconst X2.here hx rfl (hb hby d1_18) ?_
    show Steps p.tables e below (T2.setTop (mkF m 19 #[.val (.ref w_n1)] [(.int (0 : Int32))])) _
    exact retN X2 hx (t := .boolean) Bd.returns (by simp) (hb hby d1_19) hr
  · show QP (some (.int (0 : Int32))) h0 n0 _ T2.heap _
    rw [e2]
    exact ⟨rfl, N0, rfl⟩
set_option maxRecDepth 65536 in
set_option maxHeartbeats 40000000 in
theorem rm1_CHILDREN_CHANGED (l : Launch) (Z : State) (a0 : Array Value) (hw : ∀ d ∈ tables_1, d.before a0 Z = true) (ws : List Jvm.Cond) {w_n2 : Addr} {w_n3 : Addr} {w_n1 : Addr} {w_n0 : Addr} (W : Wd Z w_n2 w_n3 w_n1 w_n0) (h0 : Heap) (n0 : Nat) (O0 : Old Z n0 h0) :
    MetFree l (⟨"com/example/nandi/nandi/proto/EventType", "firesChildWatches", "()Z"⟩ : MethodName) (head1 (Jvm.Cond.code (⟨"com/example/nandi/nandi/proto/EventType", "firesChildWatches", "()Z"⟩ : MethodName) prog_29_method_7_code 1 (some .boolean) :: ws) ({ frames := 0, cells := 0, slots := 0, locals := 0 } : Room)) (fun a U => a = #[(.ref w_n0)] ∧ Z.Warmed39 U.vm ∧ U.heap = h0) (fun _ _ _ _ _ => True) (fun _ U o U' => ∃ v L, o = .returned v ∧ QP (some (.int (1 : Int32))) h0 n0 v U'.heap L ∧ FrameEnd U o U' L ({ frames := 0, cells := 0, slots := 0, locals := 0 } : Room).cells ({ frames := 0, cells := 0, slots := 0, locals := 0 } : Room).slots) := by
  have W' := W; obtain ⟨S_n2, E_n2, S_n3, E_n3, S_n1, E_n1, S_n0, E_n0, F_n2_ordinal, F_n0_ordinal, F_n3_ordinal, F_n1_ordinal⟩ := W'
  refine MetFree.of_bodySF (plainFor_of_name pn_1) hisR ?_
  intro p e s m args below meth c s₁ Bd hml0 hP hK
  obtain ⟨rfl, hZ, hh⟩ := hP
  have hx := Bd.exec
  have hby := Bd.bytes
  have hml : c.maxLocals = 1 := hml0
  have hown : s.vm.findClass "com/example/nandi/nandi/proto/EventType" = some m.cls := findClass_of_methodNamed Bd.named
  have hnm := (name_of_methodNamed Bd.named Bd.method).1
  have X0 : Stand p l e ({ frames := 0, cells := 0, slots := 0, locals := 0 } : Room) s m #[(.ref w_n0)] below meth c s₁ [] 0 0 := Stand.of_body Bd
  have e0 : s₁.heap = h0 := by rw [← hh, Bd.state]; rfl
  have N0 := Fr.nil n0
  have pre0 : ∀ t, Steps p.tables e below (s₁.setTop (mkF m 0 #[.val (.ref w_n0)] [])) t → Steps p.tables e below (s₁.setTop (entryFrame m #[(.ref w_n0)] 1)) t := fun t k => castTop (ef_1_0 m w_n0) k
  obtain ⟨T1, X1, e1, st1⟩ := getS2 X0 hx hZ hown (host := "") (Or.inl (hw _ (List.mem_of_getElem? (i := 17) rfl))) Via.refl e0 (S_n0.ext O0.2) (g := (mkF m 1 #[.val (.ref w_n0)] [(.ref w_n0)])) rfl (hb hby d1_1)
  obtain ⟨fs, hr, hrun, hended, hW, hsame⟩ := X1.leave (v := some (.int (1 : Int32))) (fun h => by rw [Bd.returns] at h; cases h)
  refine ⟨_, _, pre0 _ ?_, hrun, hended, _, _, rfl, ?_, ⟨_, rfl⟩, hW, hsame.mono (by decide) (by decide)⟩
  · show Steps p.tables e below (s₁.setTop (mkF m 0 #[.val (.ref w_n0)] [])) _
    refine XS.aloadN X0.here hx rfl (hb hby d1_0) rfl rfl ?_
    show Steps p.tables e below (s₁.setTop (mkF m 1 #[.val (.ref w_n0)] [(.ref w_n0)])) _
    refine st1 _ ?_
    show Steps p.tables e below (T1.setTop (mkF m 4 #[.val (.ref w_n0)] [(.ref w_n0), (.ref w_n0)])) _
    refine Jvm.RoadKit.acmp (g := (mkF m 4 #[.val (.ref w_n0)] [(.ref w_n0), (.ref w_n0)])) X1 hx rfl rfl rfl (pc0 := 4) (pc' := 14) (same := true) rfl (hb hby d1_4) rfl (decide_eq_true rfl) (by decide) (by decide) ?_
    show Steps p.tables e below (T1.setTop (mkF m 14 #[.val (.ref w_n0)] [])) _
    refine XS.iconst X1.here hx rfl (hb hby d1_14) ?_
    show Steps p.tables e below (T1.setTop (mkF m 15 #[.val (.ref w_n0)] [(.int (1 : Int32))])) _
    refine XS.goto X1.here hx rfl (pc0 := 15) (pc' := 19) rfl (hb hby d1_15) (by decide) (by decide) ?_
    show Steps p.tables e below (T1.setTop (mkF m 19 #[.val (.ref w_n0)] [(.int (1 : Int32))])) _
    exact retN X1 hx (t := .boolean) Bd.returns (by simp) (hb hby d1_19) hr
  · show QP (some (.int (1 : Int32))) h0 n0 _ T1.heap _
    rw [e1]
    exact ⟨rfl, N0, rfl⟩
theorem d2_0 : decode prog_29_method_6_code 0 = .ok (.aload_n 0, 1) := by decide +kernel
theorem d2_1 : decode prog_29_method_6_code 1 = .ok (.getstatic 13, 3) := by decide +kernel
theorem d2_4 : decode prog_29_method_6_code 4 = .ok (.if_acmp .eq 7, 3) := by decide +kernel
theorem d2_7 : decode prog_29_method_6_code 7 = .ok (.iconst 1, 1) := by decide +kernel
theorem d2_8 : decode prog_29_method_6_code 8 = .ok (.goto 4, 3) := by decide +kernel
theorem d2_12 : decode prog_29_method_6_code 12 = .ok (.ireturn, 1) := by decide +kernel
theorem ef_2_1 (m : MethodId) (x0 : Addr) : entryFrame m #[(.ref x0)] 1 = mkF m 0 #[.val (.ref x0)] [] := by first | (simp [entryFrame, mkF, argsToLocals, Value.category]; done) | rfl
theorem pn_2 : plainName "com/example/nandi/nandi/proto/EventType" = true := by first | (simp [plainName, overriddenIn]; done) | decide +kernel
set_option maxRecDepth 65536 in
set_option maxHeartbeats 40000000 in
theorem rm2_CREATED (l : Launch) (Z : State) (a0 : Array Value) (hw : ∀ d ∈ tables_1, d.before a0 Z = true) (ws : List Jvm.Cond) {w_n2 : Addr} {w_n3 : Addr} {w_n1 : Addr} {w_n0 : Addr} (W : Wd Z w_n2 w_n3 w_n1 w_n0) (h0 : Heap) (n0 : Nat) (O0 : Old Z n0 h0) :
    MetFree l (⟨"com/example/nandi/nandi/proto/EventType", "firesDataWatches", "()Z"⟩ : MethodName) (head1 (Jvm.Cond.code (⟨"com/example/nandi/nandi/proto/EventType", "firesDataWatches", "()Z"⟩ : MethodName) prog_29_method_6_code 1 (some .boolean) :: ws) ({ frames := 0, cells := 0, slots := 0, locals := 0 } : Room)) (fun a U => a = #[(.ref w_n2)] ∧ Z.Warmed39 U.vm ∧ U.heap = h0) (fun _ _ _ _ _ => True) (fun _ U o U' => ∃ v L, o = .returned v ∧ QP (some (.int (1 : Int32))) h0 n0 v U'.heap L ∧ FrameEnd U o U' L ({ frames := 0, cells := 0, slots := 0, locals := 0 } : Room).cells ({ frames := 0, cells := 0, slots := 0, locals := 0 } : Room).slots) := by
  have W' := W; obtain ⟨S_n2, E_n2, S_n3, E_n3, S_n1, E_n1, S_n0, E_n0, F_n2_ordinal, F_n0_ordinal, F_n3_ordinal, F_n1_ordinal⟩ := W'
  refine MetFree.of_bodySF (plainFor_of_name pn_2) hisR ?_
  intro p e s m args below meth c s₁ Bd hml0 hP hK
  obtain ⟨rfl, hZ, hh⟩ := hP
  have hx := Bd.exec
  have hby := Bd.bytes
  have hml : c.maxLocals = 1 := hml0
  have hown : s.vm.findClass "com/example/nandi/nandi/proto/EventType" = some m.cls := findClass_of_methodNamed Bd.named
  have hnm := (name_of_methodNamed Bd.named Bd.method).1
  have X0 : Stand p l e ({ frames := 0, cells := 0, slots := 0, locals := 0 } : Room) s m #[(.ref w_n2)] below meth c s₁ [] 0 0 := Stand.of_body Bd
  have e0 : s₁.heap = h0 := by rw [← hh, Bd.state]; rfl
  have N0 := Fr.nil n0
  have pre0 : ∀ t, Steps p.tables e below (s₁.setTop (mkF m 0 #[.val (.ref w_n2)] [])) t → Steps p.tables e below (s₁.setTop (entryFrame m #[(.ref w_n2)] 1)) t := fun t k => castTop (ef_2_1 m w_n2) k
  obtain ⟨T1, X1, e1, st1⟩ := getS2 X0 hx hZ hown (host := "") (Or.inl (hw _ (List.mem_of_getElem? (i := 17) rfl))) Via.refl e0 (S_n0.ext O0.2) (g := (mkF m 1 #[.val (.ref w_n2)] [(.ref w_n2)])) rfl (hb hby d2_1)
  obtain ⟨fs, hr, hrun, hended, hW, hsame⟩ := X1.leave (v := some (.int (1 : Int32))) (fun h => by rw [Bd.returns] at h; cases h)
  refine ⟨_, _, pre0 _ ?_, hrun, hended, _, _, rfl, ?_, ⟨_, rfl⟩, hW, hsame.mono (by decide) (by decide)⟩
  · show Steps p.tables e below (s₁.setTop (mkF m 0 #[.val (.ref w_n2)] [])) _
    refine XS.aloadN X0.here hx rfl (hb hby d2_0) rfl rfl ?_
    show Steps p.tables e below (s₁.setTop (mkF m 1 #[.val (.ref w_n2)] [(.ref w_n2)])) _
    refine st1 _ ?_
    show Steps p.tables e below (T1.setTop (mkF m 4 #[.val (.ref w_n2)] [(.ref w_n0), (.ref w_n2)])) _
    refine Jvm.RoadKit.acmp (g := (mkF m 4 #[.val (.ref w_n2)] [(.ref w_n0), (.ref w_n2)])) X1 hx rfl rfl rfl (pc0 := 4) (pc' := 7) (same := false) rfl (hb hby d2_4) rfl (decide_eq_false fun q => (Fld.ne F_n2_ordinal F_n0_ordinal (fun q => absurd (Value.int.inj q) (by decide))) (Value.ref.inj q)) (by decide) (by decide) ?_
    show Steps p.tables e below (T1.setTop (mkF m 7 #[.val (.ref w_n2)] [])) _
    refine XS.iconst X1.here hx rfl (hb hby d2_7) ?_
    show Steps p.tables e below (T1.setTop (mkF m 8 #[.val (.ref w_n2)] [(.int (1 : Int32))])) _
    refine XS.goto X1.here hx rfl (pc0 := 8) (pc' := 12) rfl (hb hby d2_8) (by decide) (by decide) ?_
    show Steps p.tables e below (T1.setTop (mkF m 12 #[.val (.ref w_n2)] [(.int (1 : Int32))])) _
    exact retN X1 hx (t := .boolean) Bd.returns (by simp) (hb hby d2_12) hr
  · show QP (some (.int (1 : Int32))) h0 n0 _ T1.heap _
    rw [e1]
    exact ⟨rfl, N0, rfl⟩
set_option maxRecDepth 65536 in
set_option maxHeartbeats 40000000 in
theorem rm2_DELETED (l : Launch) (Z : State) (a0 : Array Value) (hw : ∀ d ∈ tables_1, d.before a0 Z = true) (ws : List Jvm.Cond) {w_n2 : Addr} {w_n3 : Addr} {w_n1 : Addr} {w_n0 : Addr} (W : Wd Z w_n2 w_n3 w_n1 w_n0) (h0 : Heap) (n0 : Nat) (O0 : Old Z n0 h0) :
    MetFree l (⟨"com/example/nandi/nandi/proto/EventType", "firesDataWatches", "()Z"⟩ : MethodName) (head1 (Jvm.Cond.code (⟨"com/example/nandi/nandi/proto/EventType", "firesDataWatches", "()Z"⟩ : MethodName) prog_29_method_6_code 1 (some .boolean) :: ws) ({ frames := 0, cells := 0, slots := 0, locals := 0 } : Room)) (fun a U => a = #[(.ref w_n3)] ∧ Z.Warmed39 U.vm ∧ U.heap = h0) (fun _ _ _ _ _ => True) (fun _ U o U' => ∃ v L, o = .returned v ∧ QP (some (.int (1 : Int32))) h0 n0 v U'.heap L ∧ FrameEnd U o U' L ({ frames := 0, cells := 0, slots := 0, locals := 0 } : Room).cells ({ frames := 0, cells := 0, slots := 0, locals := 0 } : Room).slots) := by
  have W' := W; obtain ⟨S_n2, E_n2, S_n3, E_n3, S_n1, E_n1, S_n0, E_n0, F_n2_ordinal, F_n0_ordinal, F_n3_ordinal, F_n1_ordinal⟩ := W'
  refine MetFree.of_bodySF (plainFor_of_name pn_2) hisR ?_
  intro p e s m args below meth c s₁ Bd hml0 hP hK
  obtain ⟨rfl, hZ, hh⟩ := hP
  have hx := Bd.exec
  have hby := Bd.bytes
  have hml : c.maxLocals = 1 := hml0
  have hown : s.vm.findClass "com/example/nandi/nandi/proto/EventType" = some m.cls := findClass_of_methodNamed Bd.named
  have hnm := (name_of_methodNamed Bd.named Bd.method).1
  have X0 : Stand p l e ({ frames := 0, cells := 0, slots := 0, locals := 0 } : Room) s m #[(.ref w_n3)] below meth c s₁ [] 0 0 := Stand.of_body Bd
  have e0 : s₁.heap = h0 := by rw [← hh, Bd.state]; rfl
  have N0 := Fr.nil n0
  have pre0 : ∀ t, Steps p.tables e below (s₁.setTop (mkF m 0 #[.val (.ref w_n3)] [])) t → Steps p.tables e below (s₁.setTop (entryFrame m #[(.ref w_n3)] 1)) t := fun t k => castTop (ef_2_1 m w_n3) k
  obtain ⟨T1, X1, e1, st1⟩ := getS2 X0 hx hZ hown (host := "") (Or.inl (hw _ (List.mem_of_getElem? (i := 17) rfl))) Via.refl e0 (S_n0.ext O0.2) (g := (mkF m 1 #[.val (.ref w_n3)] [(.ref w_n3)])) rfl (hb hby d2_1)
  obtain ⟨fs, hr, hrun, hended, hW, hsame⟩ := X1.leave (v := some (.int (1 : Int32))) (fun h => by rw [Bd.returns] at h; cases h)
  refine ⟨_, _, pre0 _ ?_, hrun, hended, _, _, rfl, ?_, ⟨_, rfl⟩, hW, hsame.mono (by decide) (by decide)⟩
  · show Steps p.tables e below (s₁.setTop (mkF m 0 #[.val (.ref w_n3)] [])) _
    refine XS.aloadN X0.here hx rfl (hb hby d2_0) rfl rfl ?_
    show Steps p.tables e below (s₁.setTop (mkF m 1 #[.val (.ref w_n3)] [(.ref w_n3)])) _
    refine st1 _ ?_
    show Steps p.tables e below (T1.setTop (mkF m 4 #[.val (.ref w_n3)] [(.ref w_n0), (.ref w_n3)])) _
    refine Jvm.RoadKit.acmp (g := (mkF m 4 #[.val (.ref w_n3)] [(.ref w_n0), (.ref w_n3)])) X1 hx rfl rfl rfl (pc0 := 4) (pc' := 7) (same := false) rfl (hb hby d2_4) rfl (decide_eq_false fun q => (Fld.ne F_n3_ordinal F_n0_ordinal (fun q => absurd (Value.int.inj q) (by decide))) (Value.ref.inj q)) (by decide) (by decide) ?_
    show Steps p.tables e below (T1.setTop (mkF m 7 #[.val (.ref w_n3)] [])) _
    refine XS.iconst X1.here hx rfl (hb hby d2_7) ?_
    show Steps p.tables e below (T1.setTop (mkF m 8 #[.val (.ref w_n3)] [(.int (1 : Int32))])) _
    refine XS.goto X1.here hx rfl (pc0 := 8) (pc' := 12) rfl (hb hby d2_8) (by decide) (by decide) ?_
    show Steps p.tables e below (T1.setTop (mkF m 12 #[.val (.ref w_n3)] [(.int (1 : Int32))])) _
    exact retN X1 hx (t := .boolean) Bd.returns (by simp) (hb hby d2_12) hr
  · show QP (some (.int (1 : Int32))) h0 n0 _ T1.heap _
    rw [e1]
    exact ⟨rfl, N0, rfl⟩
set_option maxRecDepth 65536 in
set_option maxHeartbeats 40000000 in
theorem rm2_CHANGED (l : Launch) (Z : State) (a0 : Array Value) (hw : ∀ d ∈ tables_1, d.before a0 Z = true) (ws : List Jvm.Cond) {w_n2 : Addr} {w_n3 : Addr} {w_n1 : Addr} {w_n0 : Addr} (W : Wd Z w_n2 w_n3 w_n1 w_n0) (h0 : Heap) (n0 : Nat) (O0 : Old Z n0 h0) :
    MetFree l (⟨"com/example/nandi/nandi/proto/EventType", "firesDataWatches", "()Z"⟩ : MethodName) (head1 (Jvm.Cond.code (⟨"com/example/nandi/nandi/proto/EventType", "firesDataWatches", "()Z"⟩ : MethodName) prog_29_method_6_code 1 (some .boolean) :: ws) ({ frames := 0, cells := 0, slots := 0, locals := 0 } : Room)) (fun a U => a = #[(.ref w_n1)] ∧ Z.Warmed39 U.vm ∧ U.heap = h0) (fun _ _ _ _ _ => True) (fun _ U o U' => ∃ v L, o = .returned v ∧ QP (some (.int (1 : Int32))) h0 n0 v U'.heap L ∧ FrameEnd U o U' L ({ frames := 0, cells := 0, slots := 0, locals := 0 } : Room).cells ({ frames := 0, cells := 0, slots := 0, locals := 0 } : Room).slots) := by
  have W' := W; obtain ⟨S_n2, E_n2, S_n3, E_n3, S_n1, E_n1, S_n0, E_n0, F_n2_ordinal, F_n0_ordinal, F_n3_ordinal, F_n1_ordinal⟩ := W'
  refine MetFree.of_bodySF (plainFor_of_name pn_2) hisR ?_
  intro p e s m args below meth c s₁ Bd hml0 hP hK
  obtain ⟨rfl, hZ, hh⟩ := hP
  have hx := Bd.exec
  have hby := Bd.bytes
  have hml : c.maxLocals = 1 := hml0
  have hown : s.vm.findClass "com/example/nandi/nandi/proto/EventType" = some m.cls := findClass_of_methodNamed Bd.named
  have hnm := (name_of_methodNamed Bd.named Bd.method).1
  have X0 : Stand p l e ({ frames := 0, cells := 0, slots := 0, locals := 0 } : Room) s m #[(.ref w_n1)] below meth c s₁ [] 0 0 := Stand.of_body Bd
  have e0 : s₁.heap = h0 := by rw [← hh, Bd.state]; rfl
  have N0 := Fr.nil n0
  have pre0 : ∀ t, Steps p.tables e below (s₁.setTop (mkF m 0 #[.val (.ref w_n1)] [])) t → Steps p.tables e below (s₁.setTop (entryFrame m #[(.ref w_n1)] 1)) t := fun t k => castTop (ef_2_1 m w_n1) k
  obtain ⟨T1, X1, e1, st1⟩ := getS2 X0 hx hZ hown (host := "") (Or.inl (hw _ (List.mem_of_getElem? (i := 17) rfl))) Via.refl e0 (S_n0.ext O0.2) (g := (mkF m 1 #[.val (.ref w_n1)] [(.ref w_n1)])) rfl (hb hby d2_1)
  obtain ⟨fs, hr, hrun, hended, hW, hsame⟩ := X1.leave (v := some (.int (1 : Int32))) (fun h => by rw [Bd.returns] at h; cases h)
  refine ⟨_, _, pre0 _ ?_, hrun, hended, _, _, rfl, ?_, ⟨_, rfl⟩, hW, hsame.mono (by decide) (by decide)⟩
  · show Steps p.tables e below (s₁.setTop (mkF m 0 #[.val (.ref w_n1)] [])) _
    refine XS.aloadN X0.here hx rfl (hb hby d2_0) rfl rfl ?_
    show Steps p.tables e below (s₁.setTop (mkF m 1 #[.val (.ref w_n1)] [(.ref w_n1)])) _
    refine st1 _ ?_
    show Steps p.tables e below (T1.setTop (mkF m 4 #[.val (.ref w_n1)] [(.ref w_n0), (.ref w_n1)])) _
    refine Jvm.RoadKit.acmp (g := (mkF m 4 #[.val (.ref w_n1)] [(.ref w_n0), (.ref w_n1)])) X1 hx rfl rfl rfl (pc0 := 4) (pc' := 7) (same := false) rfl (hb hby d2_4) rfl (decide_eq_false fun q => (Fld.ne F_n1_ordinal F_n0_ordinal (fun q => absurd (Value.int.inj q) (by decide))) (Value.ref.inj q)) (by decide) (by decide) ?_
    show Steps p.tables e below (T1.setTop (mkF m 7 #[.val (.ref w_n1)] [])) _
    refine XS.iconst X1.here hx rfl (hb hby d2_7) ?_
    show Steps p.tables e below (T1.setTop (mkF m 8 #[.val (.ref w_n1)] [(.int (1 : Int32))])) _
    refine XS.goto X1.here hx rfl (pc0 := 8) (pc' := 12) rfl (hb hby d2_8) (by decide) (by decide) ?_
    show Steps p.tables e below (T1.setTop (mkF m 12 #[.val (.ref w_n1)] [(.int (1 : Int32))])) _
    exact retN X1 hx (t := .boolean) Bd.returns (by simp) (hb hby d2_12) hr
  · show QP (some (.int (1 : Int32))) h0 n0 _ T1.heap _
    rw [e1]
    exact ⟨rfl, N0, rfl⟩
theorem d2_11 : decode prog_29_method_6_code 11 = .ok (.iconst 0, 1) := by decide +kernel
set_option maxRecDepth 65536 in
set_option maxHeartbeats 40000000 in
theorem rm2_CHILDREN_CHANGED (l : Launch) (Z : State) (a0 : Array Value) (hw : ∀ d ∈ tables_1, d.before a0 Z = true) (ws : List Jvm.Cond) {w_n2 : Addr} {w_n3 : Addr} {w_n1 : Addr} {w_n0 : Addr} (W : Wd Z w_n2 w_n3 w_n1 w_n0) (h0 : Heap) (n0 : Nat) (O0 : Old Z n0 h0) :
    MetFree l (⟨"com/example/nandi/nandi/proto/EventType", "firesDataWatches", "()Z"⟩ : MethodName) (head1 (Jvm.Cond.code (⟨"com/example/nandi/nandi/proto/EventType", "firesDataWatches", "()Z"⟩ : MethodName) prog_29_method_6_code 1 (some .boolean) :: ws) ({ frames := 0, cells := 0, slots := 0, locals := 0 } : Room)) (fun a U => a = #[(.ref w_n0)] ∧ Z.Warmed39 U.vm ∧ U.heap = h0) (fun _ _ _ _ _ => True) (fun _ U o U' => ∃ v L, o = .returned v ∧ QP (some (.int (0 : Int32))) h0 n0 v U'.heap L ∧ FrameEnd U o U' L ({ frames := 0, cells := 0, slots := 0, locals := 0 } : Room).cells ({ frames := 0, cells := 0, slots := 0, locals := 0 } : Room).slots) := by
  have W' := W; obtain ⟨S_n2, E_n2, S_n3, E_n3, S_n1, E_n1, S_n0, E_n0, F_n2_ordinal, F_n0_ordinal, F_n3_ordinal, F_n1_ordinal⟩ := W'
  refine MetFree.of_bodySF (plainFor_of_name pn_2) hisR ?_
  intro p e s m args below meth c s₁ Bd hml0 hP hK
  obtain ⟨rfl, hZ, hh⟩ := hP
  have hx := Bd.exec
  have hby := Bd.bytes
  have hml : c.maxLocals = 1 := hml0
  have hown : s.vm.findClass "com/example/nandi/nandi/proto/EventType" = some m.cls := findClass_of_methodNamed Bd.named
  have hnm := (name_of_methodNamed Bd.named Bd.method).1
  have X0 : Stand p l e ({ frames := 0, cells := 0, slots := 0, locals := 0 } : Room) s m #[(.ref w_n0)] below meth c s₁ [] 0 0 := Stand.of_body Bd
  have e0 : s₁.heap = h0 := by rw [← hh, Bd.state]; rfl
  have N0 := Fr.nil n0
  have pre0 : ∀ t, Steps p.tables e below (s₁.setTop (mkF m 0 #[.val (.ref w_n0)] [])) t → Steps p.tables e below (s₁.setTop (entryFrame m #[(.ref w_n0)] 1)) t := fun t k => castTop (ef_2_1 m w_n0) k
  obtain ⟨T1, X1, e1, st1⟩ := getS2 X0 hx hZ hown (host := "") (Or.inl (hw _ (List.mem_of_getElem? (i := 17) rfl))) Via.refl e0 (S_n0.ext O0.2) (g := (mkF m 1 #[.val (.ref w_n0)] [(.ref w_n0)])) rfl (hb hby d2_1)
  obtain ⟨fs, hr, hrun, hended, hW, hsame⟩ := X1.leave (v := some (.int (0 : Int32))) (fun h => by rw [Bd.returns] at h; cases h)
  refine ⟨_, _, pre0 _ ?_, hrun, hended, _, _, rfl, ?_, ⟨_, rfl⟩, hW, hsame.mono (by decide) (by decide)⟩
  · show Steps p.tables e below (s₁.setTop (mkF m 0 #[.val (.ref w_n0)] [])) _
    refine XS.aloadN X0.here hx rfl (hb hby d2_0) rfl rfl ?_
    show Steps p.tables e below (s₁.setTop (mkF m 1 #[.val (.ref w_n0)] [(.ref w_n0)])) _
    refine st1 _ ?_
    show Steps p.tables e below (T1.setTop (mkF m 4 #[.val (.ref w_n0)] [(.ref w_n0), (.ref w_n0)])) _
    refine Jvm.RoadKit.acmp (g := (mkF m 4 #[.val (.ref w_n0)] [(.ref w_n0), (.ref w_n0)])) X1 hx rfl rfl rfl (pc0 := 4) (pc' := 11) (same := true) rfl (hb hby d2_4) rfl (decide_eq_true rfl) (by decide) (by decide) ?_
    show Steps p.tables e below (T1.setTop (mkF m 11 #[.val (.ref w_n0)] [])) _
    refine XS.iconst X1.here hx rfl (hb hby d2_11) ?_
    show Steps p.tables e below (T1.setTop (mkF m 12 #[.val (.ref w_n0)] [(.int (0 : Int32))])) _
    exact retN X1 hx (t := .boolean) Bd.returns (by simp) (hb hby d2_12) hr
  · show QP (some (.int (0 : Int32))) h0 n0 _ T1.heap _
    rw [e1]
    exact ⟨rfl, N0, rfl⟩
theorem pd_0 : parseMethodDescriptor "()Z" = some ⟨[], some .boolean⟩ := by decide +kernel
theorem ef_0_2 (m : MethodId) (x0 : Int32) : entryFrame m #[(.int x0)] maxLocals = mkF m 0 #[.val (.int x0), .unset, .unset, .unset, .unset, .unset] [] := by first | (simp [entryFrame, mkF, argsToLocals, Value.category, maxLocals]; done) | rfl
theorem pn_0 : plainName "com/example/nandi/nandi/proto/EventTypeFiresChildWatchesPinLaw" = true := by first | (simp [plainName, overriddenIn]; done) | decide +kernel
set_option maxRecDepth 65536 in
set_option maxHeartbeats 40000000 in
theorem rm0_0 (l : Launch) (Z : State) (a0 : Array Value) (hw : ∀ d ∈ tables_1, d.before a0 Z = true) (ws : List Jvm.Cond) {w_n2 : Addr} {w_n3 : Addr} {w_n1 : Addr} {w_n0 : Addr} (W : Wd Z w_n2 w_n3 w_n1 w_n0) (p1 : Int32) (h0 : Heap) (n0 : Nat) (O0 : Old Z n0 h0) (hk : (p1 &&& (3 : Int32)) = (0 : Int32)) :
    MetFree l x (head1 (Jvm.Cond.code x code maxLocals ret :: ws) room_1) (fun a U => a = #[(.int p1)] ∧ Z.Warmed39 U.vm ∧ U.heap = h0) (fun _ _ _ _ _ => True) (fun _ U o U' => ∃ v L, o = .returned v ∧ Q0 n0 v U'.heap L ∧ FrameEnd U o U' L room_1.cells room_1.slots) := by
  have W' := W; obtain ⟨S_n2, E_n2, S_n3, E_n3, S_n1, E_n1, S_n0, E_n0, F_n2_ordinal, F_n0_ordinal, F_n3_ordinal, F_n1_ordinal⟩ := W'
  refine MetFree.of_bodySF (plainFor_of_name pn_0) hisR ?_
  intro p e s m args below meth c s₁ Bd hml0 hP hK
  obtain ⟨rfl, hZ, hh⟩ := hP
  have hx := Bd.exec
  have hby := Bd.bytes
  have hml : c.maxLocals = 6 := hml0
  have hown : s.vm.findClass "com/example/nandi/nandi/proto/EventTypeFiresChildWatchesPinLaw" = some m.cls := findClass_of_methodNamed Bd.named
  have hnm := (name_of_methodNamed Bd.named Bd.method).1
  have X0 : Stand p l e room_1 s m #[(.int p1)] below meth c s₁ [] 0 0 := Stand.of_body Bd
  have e0 : s₁.heap = h0 := by rw [← hh, Bd.state]; rfl
  have N0 := Fr.nil n0
  have pre0 : ∀ t, Steps p.tables e below (s₁.setTop (mkF m 0 #[.val (.int p1), .unset, .unset, .unset, .unset, .unset] [])) t → Steps p.tables e below (s₁.setTop (entryFrame m #[(.int p1)] maxLocals)) t := fun t k => castTop (ef_0_2 m p1) k
  obtain ⟨T1, h1, k1, X1, e1, E1, A1, B1, Ov1, st1⟩ := newRE X0 hx hZ hown (hw _ (List.mem_of_getElem? (i := 0) rfl)) (hw _ (List.mem_of_getElem? (i := 1) rfl)) e0 (g := (mkF m 1 #[.val (.int p1), .unset, .unset, .unset, .unset, .unset] [(.int (4 : Int32))])) rfl (hb hby at_1) rfl (by decide) (cap := 4) (by decide) (by decide) (by decide) (by decide) (ad := "[Lcom/example/nandi/nandi/proto/EventType;") (by decide)
  obtain ⟨b1, g1⟩ : ∃ z, z = h0.size := ⟨_, rfl⟩
  rw [← g1] at A1 B1 st1
  have g_b1 : n0 ≤ b1 := by rw [g1]; exact O0.1 ▸ O0.2.1
  have O1 := O0.ext E1
  have ov_b1 := Ov1
  have fv1 : Arv Z h1 b1 k1 (.object "com/example/nandi/nandi/proto/EventType") (4 : Int32) [.null, .null, .null, .null] .null := (Arv.new A1 (by decide)).pad (pad_rep [] .null 4)
  obtain ⟨T2, X2, e2, st2⟩ := getS2 X1 hx hZ hown (host := "") (Or.inl (hw _ (List.mem_of_getElem? (i := 2) rfl))) Via.refl e1 (S_n2.ext O1.2) (g := (mkF m 6 #[.val (.int p1), .unset, .unset, .unset, .unset, .unset] [(.int (0 : Int32)), (.ref b1), (.ref b1)])) rfl (hb hby at_6)
  obtain ⟨cl3, Ar3, qk3, Sz3, Nz3, Hs3, Gs3⟩ := fv1
  have hin3 : ¬ ((0 : Int32) < 0 ∨ cl3.slots.size ≤ ((0 : Int32)).toNatClampNeg) := inb_of Sz3 ⟨by decide, by decide⟩
  obtain ⟨T4, h4, X4, e4, W4, st4⟩ := stR X2 hx hZ e2 Ar3 (j := (0 : Int32)) hin3 rfl (Sto.ofV Ar3 qk3 ov_b1 (Ins.self (E_n2.ext O1.2))) (g := (mkF m 9 #[.val (.int p1), .unset, .unset, .unset, .unset, .unset] [(.ref w_n2), (.int (0 : Int32)), (.ref b1), (.ref b1)])) rfl rfl (hb hby at_9)
  have fw4 : Arv Z h4 b1 k1 (.object "com/example/nandi/nandi/proto/EventType") (4 : Int32) [(.ref w_n2), .null, .null, .null] .null := Arv.set Ar3 qk3 Sz3 Nz3 Hs3 Gs3 rfl W4 0 rfl (Nat.le_of_ble_eq_true rfl)
  have f4_0 : Exa Z h4 b1 "[Lcom/example/nandi/nandi/proto/EventType;" := (B1).wr W4
  have O4 := O1.wr W4 g_b1
  have N4 := Fr.snoc X4 N0 g_b1
  obtain ⟨T5, X5, e5, st5⟩ := getS2 X4 hx hZ hown (host := "") (Or.inl (hw _ (List.mem_of_getElem? (i := 6) rfl))) Via.refl e4 (S_n3.ext O4.2) (g := (mkF m 12 #[.val (.int p1), .unset, .unset, .unset, .unset, .unset] [(.int (1 : Int32)), (.ref b1), (.ref b1)])) rfl (hb hby at_12)
  obtain ⟨cl6, Ar6, qk6, Sz6, Nz6, Hs6, Gs6⟩ := fw4
  have hin6 : ¬ ((1 : Int32) < 0 ∨ cl6.slots.size ≤ ((1 : Int32)).toNatClampNeg) := inb_of Sz6 ⟨by decide, by decide⟩
  obtain ⟨T7, h7, X7, e7, W7, st7⟩ := stR X5 hx hZ e5 Ar6 (j := (1 : Int32)) hin6 rfl (Sto.ofV Ar6 qk6 ov_b1 (Ins.self (E_n3.ext O4.2))) (g := (mkF m 15 #[.val (.int p1), .unset, .unset, .unset, .unset, .unset] [(.ref w_n3), (.int (1 : Int32)), (.ref b1), (.ref b1)])) rfl rfl (hb hby at_15)
  have fw7 : Arv Z h7 b1 k1 (.object "com/example/nandi/nandi/proto/EventType") (4 : Int32) [(.ref w_n2), (.ref w_n3), .null, .null] .null := Arv.set Ar6 qk6 Sz6 Nz6 Hs6 Gs6 rfl W7 1 rfl (Nat.le_of_ble_eq_true rfl)
  have f7_0 : Exa Z h7 b1 "[Lcom/example/nandi/nandi/proto/EventType;" := (f4_0).wr W7
  have O7 := O4.wr W7 g_b1
  have N7 := Fr.snoc X7 N4 g_b1
  obtain ⟨T8, X8, e8, st8⟩ := getS2 X7 hx hZ hown (host := "") (Or.inl (hw _ (List.mem_of_getElem? (i := 8) rfl))) Via.refl e7 (S_n1.ext O7.2) (g := (mkF m 18 #[.val (.int p1), .unset, .unset, .unset, .unset, .unset] [(.int (2 : Int32)), (.ref b1), (.ref b1)])) rfl (hb hby at_18)
  obtain ⟨cl9, Ar9, qk9, Sz9, Nz9, Hs9, Gs9⟩ := fw7
  have hin9 : ¬ ((2 : Int32) < 0 ∨ cl9.slots.size ≤ ((2 : Int32)).toNatClampNeg) := inb_of Sz9 ⟨by decide, by decide⟩
  obtain ⟨T10, h10, X10, e10, W10, st10⟩ := stR X8 hx hZ e8 Ar9 (j := (2 : Int32)) hin9 rfl (Sto.ofV Ar9 qk9 ov_b1 (Ins.self (E_n1.ext O7.2))) (g := (mkF m 21 #[.val (.int p1), .unset, .unset, .unset, .unset, .unset] [(.ref w_n1), (.int (2 : Int32)), (.ref b1), (.ref b1)])) rfl rfl (hb hby at_21)
  have fw10 : Arv Z h10 b1 k1 (.object "com/example/nandi/nandi/proto/EventType") (4 : Int32) [(.ref w_n2), (.ref w_n3), (.ref w_n1), .null] .null := Arv.set Ar9 qk9 Sz9 Nz9 Hs9 Gs9 rfl W10 2 rfl (Nat.le_of_ble_eq_true rfl)
  have f10_0 : Exa Z h10 b1 "[Lcom/example/nandi/nandi/proto/EventType;" := (f7_0).wr W10
  have O10 := O7.wr W10 g_b1
  have N10 := Fr.snoc X10 N7 g_b1
  obtain ⟨T11, X11, e11, st11⟩ := getS2 X10 hx hZ hown (host := "") (Or.inl (hw _ (List.mem_of_getElem? (i := 10) rfl))) Via.refl e10 (S_n0.ext O10.2) (g := (mkF m 24 #[.val (.int p1), .unset, .unset, .unset, .unset, .unset] [(.int (3 : Int32)), (.ref b1), (.ref b1)])) rfl (hb hby at_24)
  obtain ⟨cl12, Ar12, qk12, Sz12, Nz12, Hs12, Gs12⟩ := fw10
  have hin12 : ¬ ((3 : Int32) < 0 ∨ cl12.slots.size ≤ ((3 : Int32)).toNatClampNeg) := inb_of Sz12 ⟨by decide, by decide⟩
  obtain ⟨T13, h13, X13, e13, W13, st13⟩ := stR X11 hx hZ e11 Ar12 (j := (3 : Int32)) hin12 rfl (Sto.ofV Ar12 qk12 ov_b1 (Ins.self (E_n0.ext O10.2))) (g := (mkF m 27 #[.val (.int p1), .unset, .unset, .unset, .unset, .unset] [(.ref w_n0), (.int (3 : Int32)), (.ref b1), (.ref b1)])) rfl rfl (hb hby at_27)
  have fw13 : Arv Z h13 b1 k1 (.object "com/example/nandi/nandi/proto/EventType") (4 : Int32) [(.ref w_n2), (.ref w_n3), (.ref w_n1), (.ref w_n0)] .null := Arv.set Ar12 qk12 Sz12 Nz12 Hs12 Gs12 rfl W13 3 rfl (Nat.le_of_ble_eq_true rfl)
  have f13_0 : Exa Z h13 b1 "[Lcom/example/nandi/nandi/proto/EventType;" := (f10_0).wr W13
  have O13 := O10.wr W13 g_b1
  have N13 := Fr.snoc X13 N10 g_b1
  obtain ⟨cl14, Ar14, qk14, Sz14, Nz14, Hs14, Gs14⟩ := fw13
  have hin14 : ¬ ((0 : Int32) < 0 ∨ cl14.slots.size ≤ ((0 : Int32)).toNatClampNeg) := inb_of Sz14 ⟨by decide, by decide⟩
  have hat14 : cl14.slots[((0 : Int32)).toNatClampNeg]? = some (.ref w_n2) := Has.at Hs14 hin14 rfl
  obtain ⟨cq15, kq15, q15a, q15b, q15c⟩ := isOf hZ e13 (E_n2.ext O13.2)
  obtain ⟨_, _, ⟨T15, L15, k15, n15⟩, -, X15, ⟨Lc15, hQ15, l15, y15, z15⟩, st15⟩ := X13.virtualBack hx (y := (⟨"com/example/nandi/nandi/proto/EventType", "firesChildWatches", "()Z"⟩ : MethodName)) (z := (⟨"com/example/nandi/nandi/proto/EventType", "firesChildWatches", "()Z"⟩ : MethodName)) hown (mvT hZ (hw _ (List.mem_of_getElem? (i := 12) rfl))) (mvT hZ (hw _ (List.mem_of_getElem? (i := 13) rfl))) (notFace_of_selects (args := #[]) (mvT hZ (hw _ (List.mem_of_getElem? (i := 15) rfl)))) (mvT hZ (hw _ (List.mem_of_getElem? (i := 15) rfl))) (mvT hZ (hw _ (List.mem_of_getElem? (i := 14) rfl))) (by decide) (backOf (W := 0) (rm1_CREATED l Z a0 hw [] W  h13 n0 O13 ) hZ (hw _ (List.mem_of_getElem? (i := 16) rfl)) (hw _ (List.mem_of_getElem? (i := 3) rfl)) (by decide) (by decide)) q15a q15c (g := (mkF m 55 #[.val (.int p1), .val (.ref b1), .val (.int (0 : Int32)), .val (.ref w_n2), .val (.int (0 : Int32)), .unset] [(.ref w_n2)])) rfl (by rw [hml]; rfl) (Steps.refl _) (argsL := []) (rest := []) (lenOf pd_0 rfl) rfl (by show 2 * 0 + _ ≤ _; exact Nat.le_of_eq rfl) (hb hby at_55) (fun _ _ => ⟨rfl, e13, (by decide : 1 + 0 ≤ _), (by decide : 4 + 0 ≤ _)⟩)
  dsimp only [Pt.U, Pt.locs, Pt.cells, Pt.slots] at X15 l15 y15 z15 st15 hQ15
  subst l15 y15 z15
  obtain ⟨rfl, N15q, e15⟩ := hQ15
  have N15 := Fr.app N13 N15q
  obtain ⟨cq16, kq16, q16a, q16b, q16c⟩ := isOf hZ e15 (E_n2.ext O13.2)
  obtain ⟨_, _, ⟨T16, L16, k16, n16⟩, -, X16, ⟨Lc16, hQ16, l16, y16, z16⟩, st16⟩ := X15.virtualBack hx (y := (⟨"com/example/nandi/nandi/proto/EventType", "firesDataWatches", "()Z"⟩ : MethodName)) (z := (⟨"com/example/nandi/nandi/proto/EventType", "firesDataWatches", "()Z"⟩ : MethodName)) hown (mvT hZ (hw _ (List.mem_of_getElem? (i := 19) rfl))) (mvT hZ (hw _ (List.mem_of_getElem? (i := 20) rfl))) (notFace_of_selects (args := #[]) (mvT hZ (hw _ (List.mem_of_getElem? (i := 22) rfl)))) (mvT hZ (hw _ (List.mem_of_getElem? (i := 22) rfl))) (mvT hZ (hw _ (List.mem_of_getElem? (i := 21) rfl))) (by decide) (backOf (W := 0) (rm2_CREATED l Z a0 hw [] W  h13 n0 O13 ) hZ (hw _ (List.mem_of_getElem? (i := 23) rfl)) (hw _ (List.mem_of_getElem? (i := 3) rfl)) (by decide) (by decide)) q16a q16c (g := (mkF m 73 #[.val (.int p1), .val (.ref b1), .val (.int (0 : Int32)), .val (.ref w_n2), .val (.int (0 : Int32)), .val (.int (0 : Int32))] [(.ref w_n2)])) rfl (by rw [hml]; rfl) (Steps.refl _) (argsL := []) (rest := []) (lenOf pd_0 rfl) rfl (by show 2 * 0 + _ ≤ _; exact Nat.le_of_eq rfl) (hb hby at_73) (fun _ _ => ⟨rfl, e15, (by decide : 1 + 0 ≤ _), (by decide : 4 + 0 ≤ _)⟩)
  dsimp only [Pt.U, Pt.locs, Pt.cells, Pt.slots] at X16 l16 y16 z16 st16 hQ16
  subst l16 y16 z16
  obtain ⟨rfl, N16q, e16⟩ := hQ16
  have N16 := Fr.app N15 N16q
  obtain ⟨fs, hr, hrun, hended, hW, hsame⟩ := X16.leave (v := some (.int (1 : Int32))) (fun h => by rw [Bd.returns] at h; cases h)
  refine ⟨_, _, pre0 _ ?_, hrun, hended, _, _, rfl, ?_, ⟨_, rfl⟩, hW, hsame.mono (by decide) (by decide)⟩
  · show Steps p.tables e below (s₁.setTop (mkF m 0 #[.val (.int p1), .unset, .unset, .unset, .unset, .unset] [])) _
    refine XS.iconst X0.here hx rfl (hb hby at_0) ?_
    show Steps p.tables e below (s₁.setTop (mkF m 1 #[.val (.int p1), .unset, .unset, .unset, .unset, .unset] [(.int (4 : Int32))])) _
    refine st1 _ ?_
    show Steps p.tables e below (T1.setTop (mkF m 4 #[.val (.int p1), .unset, .unset, .unset, .unset, .unset] [(.ref b1)])) _
    refine XS.dup X1.here hx rfl (hb hby at_4) rfl rfl ?_
    show Steps p.tables e below (T1.setTop (mkF m 5 #[.val (.int p1), .unset, .unset, .unset, .unset, .unset] [(.ref b1), (.ref b1)])) _
    refine XS.iconst X1.here hx rfl (hb hby at_5) ?_
    show Steps p.tables e below (T1.setTop (mkF m 6 #[.val (.int p1), .unset, .unset, .unset, .unset, .unset] [(.int (0 : Int32)), (.ref b1), (.ref b1)])) _
    refine st2 _ ?_
    show Steps p.tables e below (T2.setTop (mkF m 9 #[.val (.int p1), .unset, .unset, .unset, .unset, .unset] [(.ref w_n2), (.int (0 : Int32)), (.ref b1), (.ref b1)])) _
    refine st4 _ ?_
    show Steps p.tables e below (T4.setTop (mkF m 10 #[.val (.int p1), .unset, .unset, .unset, .unset, .unset] [(.ref b1)])) _
    refine XS.dup X4.here hx rfl (hb hby at_10) rfl rfl ?_
    show Steps p.tables e below (T4.setTop (mkF m 11 #[.val (.int p1), .unset, .unset, .unset, .unset, .unset] [(.ref b1), (.ref b1)])) _
    refine XS.iconst X4.here hx rfl (hb hby at_11) ?_
    show Steps p.tables e below (T4.setTop (mkF m 12 #[.val (.int p1), .unset, .unset, .unset, .unset, .unset] [(.int (1 : Int32)), (.ref b1), (.ref b1)])) _
    refine st5 _ ?_
    show Steps p.tables e below (T5.setTop (mkF m 15 #[.val (.int p1), .unset, .unset, .unset, .unset, .unset] [(.ref w_n3), (.int (1 : Int32)), (.ref b1), (.ref b1)])) _
    refine st7 _ ?_
    show Steps p.tables e below (T7.setTop (mkF m 16 #[.val (.int p1), .unset, .unset, .unset, .unset, .unset] [(.ref b1)])) _
    refine XS.dup X7.here hx rfl (hb hby at_16) rfl rfl ?_
    show Steps p.tables e below (T7.setTop (mkF m 17 #[.val (.int p1), .unset, .unset, .unset, .unset, .unset] [(.ref b1), (.ref b1)])) _
    refine XS.iconst X7.here hx rfl (hb hby at_17) ?_
    show Steps p.tables e below (T7.setTop (mkF m 18 #[.val (.int p1), .unset, .unset, .unset, .unset, .unset] [(.int (2 : Int32)), (.ref b1), (.ref b1)])) _
    refine st8 _ ?_
    show Steps p.tables e below (T8.setTop (mkF m 21 #[.val (.int p1), .unset, .unset, .unset, .unset, .unset] [(.ref w_n1), (.int (2 : Int32)), (.ref b1), (.ref b1)])) _
    refine st10 _ ?_
    show Steps p.tables e below (T10.setTop (mkF m 22 #[.val (.int p1), .unset, .unset, .unset, .unset, .unset] [(.ref b1)])) _
    refine XS.dup X10.here hx rfl (hb hby at_22) rfl rfl ?_
    show Steps p.tables e below (T10.setTop (mkF m 23 #[.val (.int p1), .unset, .unset, .unset, .unset, .unset] [(.ref b1), (.ref b1)])) _
    refine XS.iconst X10.here hx rfl (hb hby at_23) ?_
    show Steps p.tables e below (T10.setTop (mkF m 24 #[.val (.int p1), .unset, .unset, .unset, .unset, .unset] [(.int (3 : Int32)), (.ref b1), (.ref b1)])) _
    refine st11 _ ?_
    show Steps p.tables e below (T11.setTop (mkF m 27 #[.val (.int p1), .unset, .unset, .unset, .unset, .unset] [(.ref w_n0), (.int (3 : Int32)), (.ref b1), (.ref b1)])) _
    refine st13 _ ?_
    show Steps p.tables e below (T13.setTop (mkF m 28 #[.val (.int p1), .unset, .unset, .unset, .unset, .unset] [(.ref b1)])) _
    refine XS.astoreN X13.here hx rfl (hb hby at_28) rfl rfl (l' := #[.val (.int p1), .val (.ref b1), .unset, .unset, .unset, .unset]) rfl ?_
    show Steps p.tables e below (T13.setTop (mkF m 29 #[.val (.int p1), .val (.ref b1), .unset, .unset, .unset, .unset] [])) _
    refine XS.iloadN X13.here hx rfl (hb hby at_29) rfl ?_
    show Steps p.tables e below (T13.setTop (mkF m 30 #[.val (.int p1), .val (.ref b1), .unset, .unset, .unset, .unset] [(.int p1)])) _
    refine XS.iconst X13.here hx rfl (hb hby at_30) ?_
    show Steps p.tables e below (T13.setTop (mkF m 31 #[.val (.int p1), .val (.ref b1), .unset, .unset, .unset, .unset] [(.int (3 : Int32)), (.int p1)])) _
    refine XS.iand X13.here hx rfl (hb hby at_31) rfl ?_
    show Steps p.tables e below (T13.setTop (mkF m 32 #[.val (.int p1), .val (.ref b1), .unset, .unset, .unset, .unset] [(.int (p1 &&& (3 : Int32)))])) _
    rw [hk]
    show Steps p.tables e below (T13.setTop (mkF m 32 #[.val (.int p1), .val (.ref b1), .unset, .unset, .unset, .unset] [(.int (0 : Int32))])) _
    refine XS.istoreN X13.here hx rfl (hb hby at_32) rfl (l' := #[.val (.int p1), .val (.ref b1), .val (.int (0 : Int32)), .unset, .unset, .unset]) rfl ?_
    show Steps p.tables e below (T13.setTop (mkF m 33 #[.val (.int p1), .val (.ref b1), .val (.int (0 : Int32)), .unset, .unset, .unset] [])) _
    refine XS.aloadN X13.here hx rfl (hb hby at_33) rfl rfl ?_
    show Steps p.tables e below (T13.setTop (mkF m 34 #[.val (.int p1), .val (.ref b1), .val (.int (0 : Int32)), .unset, .unset, .unset] [(.ref b1)])) _
    refine XS.iloadN X13.here hx rfl (hb hby at_34) rfl ?_
    show Steps p.tables e below (T13.setTop (mkF m 35 #[.val (.int p1), .val (.ref b1), .val (.int (0 : Int32)), .unset, .unset, .unset] [(.int (0 : Int32)), (.ref b1)])) _
    refine X13.aaload hx (j := (0 : Int32)) (v := (.ref w_n2)) (by rw [e13]; exact Ar14.1) (State.isArrayOf_alike hZ.alike Ar14.2.1) rfl Ar14.2.2 hin14 hat14 (g := (mkF m 35 #[.val (.int p1), .val (.ref b1), .val (.int (0 : Int32)), .unset, .unset, .unset] [(.int (0 : Int32)), (.ref b1)])) rfl rfl (hb hby at_35) _ ?_
    show Steps p.tables e below (T13.setTop (mkF m 36 #[.val (.int p1), .val (.ref b1), .val (.int (0 : Int32)), .unset, .unset, .unset] [(.ref w_n2)])) _
    refine XS.astoreN X13.here hx rfl (hb hby at_36) rfl rfl (l' := #[.val (.int p1), .val (.ref b1), .val (.int (0 : Int32)), .val (.ref w_n2), .unset, .unset]) rfl ?_
    show Steps p.tables e below (T13.setTop (mkF m 37 #[.val (.int p1), .val (.ref b1), .val (.int (0 : Int32)), .val (.ref w_n2), .unset, .unset] [])) _
    refine XS.iloadN X13.here hx rfl (hb hby at_37) rfl ?_
    show Steps p.tables e below (T13.setTop (mkF m 38 #[.val (.int p1), .val (.ref b1), .val (.int (0 : Int32)), .val (.ref w_n2), .unset, .unset] [(.int (0 : Int32))])) _
    refine XS.iconst X13.here hx rfl (hb hby at_38) ?_
    show Steps p.tables e below (T13.setTop (mkF m 39 #[.val (.int p1), .val (.ref b1), .val (.int (0 : Int32)), .val (.ref w_n2), .unset, .unset] [(.int (1 : Int32)), (.int (0 : Int32))])) _
    refine XS.icmpNo X13.here hx rfl (hb hby at_39) rfl (feq ((by decide) : ¬ ((0 : Int32) = (1 : Int32)))).1 ?_
    show Steps p.tables e below (T13.setTop (mkF m 42 #[.val (.int p1), .val (.ref b1), .val (.int (0 : Int32)), .val (.ref w_n2), .unset, .unset] [])) _
    refine XS.iloadN X13.here hx rfl (hb hby at_42) rfl ?_
    show Steps p.tables e below (T13.setTop (mkF m 43 #[.val (.int p1), .val (.ref b1), .val (.int (0 : Int32)), .val (.ref w_n2), .unset, .unset] [(.int (0 : Int32))])) _
    refine XS.iconst X13.here hx rfl (hb hby at_43) ?_
    show Steps p.tables e below (T13.setTop (mkF m 44 #[.val (.int p1), .val (.ref b1), .val (.int (0 : Int32)), .val (.ref w_n2), .unset, .unset] [(.int (3 : Int32)), (.int (0 : Int32))])) _
    refine XS.icmpYes X13.here hx rfl (pc0 := 44) (pc' := 51) rfl (hb hby at_44) rfl (feq ((by decide) : ¬ ((0 : Int32) = (3 : Int32)))).2 (by decide) (by decide) ?_
    show Steps p.tables e below (T13.setTop (mkF m 51 #[.val (.int p1), .val (.ref b1), .val (.int (0 : Int32)), .val (.ref w_n2), .unset, .unset] [])) _
    refine XS.iconst X13.here hx rfl (hb hby at_51) ?_
    show Steps p.tables e below (T13.setTop (mkF m 52 #[.val (.int p1), .val (.ref b1), .val (.int (0 : Int32)), .val (.ref w_n2), .unset, .unset] [(.int (0 : Int32))])) _
    refine XS.istore X13.here hx rfl (hb hby at_52) rfl (l' := #[.val (.int p1), .val (.ref b1), .val (.int (0 : Int32)), .val (.ref w_n2), .val (.int (0 : Int32)), .unset]) rfl ?_
    show Steps p.tables e below (T13.setTop (mkF m 54 #[.val (.int p1), .val (.ref b1), .val (.int (0 : Int32)), .val (.ref w_n2), .val (.int (0 : Int32)), .unset] [])) _
    refine XS.aloadN X13.here hx rfl (hb hby at_54) rfl rfl ?_
    show Steps p.tables e below (T13.setTop (mkF m 55 #[.val (.int p1), .val (.ref b1), .val (.int (0 : Int32)), .val (.ref w_n2), .val (.int (0 : Int32)), .unset] [(.ref w_n2)])) _
    refine st15.trans ?_
    show Steps p.tables e below (T15.setTop (mkF m 58 #[.val (.int p1), .val (.ref b1), .val (.int (0 : Int32)), .val (.ref w_n2), .val (.int (0 : Int32)), .unset] [(.int (0 : Int32))])) _
    refine XS.istore X15.here hx rfl (hb hby at_58) rfl (l' := #[.val (.int p1), .val (.ref b1), .val (.int (0 : Int32)), .val (.ref w_n2), .val (.int (0 : Int32)), .val (.int (0 : Int32))]) rfl ?_
    show Steps p.tables e below (T15.setTop (mkF m 60 #[.val (.int p1), .val (.ref b1), .val (.int (0 : Int32)), .val (.ref w_n2), .val (.int (0 : Int32)), .val (.int (0 : Int32))] [])) _
    refine XS.iload X15.here hx rfl (hb hby at_60) rfl ?_
    show Steps p.tables e below (T15.setTop (mkF m 62 #[.val (.int p1), .val (.ref b1), .val (.int (0 : Int32)), .val (.ref w_n2), .val (.int (0 : Int32)), .val (.int (0 : Int32))] [(.int (0 : Int32))])) _
    refine XS.iload X15.here hx rfl (hb hby at_62) rfl ?_
    show Steps p.tables e below (T15.setTop (mkF m 64 #[.val (.int p1), .val (.ref b1), .val (.int (0 : Int32)), .val (.ref w_n2), .val (.int (0 : Int32)), .val (.int (0 : Int32))] [(.int (0 : Int32)), (.int (0 : Int32))])) _
    refine XS.icmpNo X15.here hx rfl (hb hby at_64) rfl (teq ((by decide) : (0 : Int32) = (0 : Int32))).2 ?_
    show Steps p.tables e below (T15.setTop (mkF m 67 #[.val (.int p1), .val (.ref b1), .val (.int (0 : Int32)), .val (.ref w_n2), .val (.int (0 : Int32)), .val (.int (0 : Int32))] [])) _
    refine XS.iload X15.here hx rfl (hb hby at_67) rfl ?_
    show Steps p.tables e below (T15.setTop (mkF m 69 #[.val (.int p1), .val (.ref b1), .val (.int (0 : Int32)), .val (.ref w_n2), .val (.int (0 : Int32)), .val (.int (0 : Int32))] [(.int (0 : Int32))])) _
    refine XS.ifNo X15.here hx rfl (hb hby at_69) rfl ((if0 _ _).trans (teq ((by decide) : (0 : Int32) = (0 : Int32))).2) ?_
    show Steps p.tables e below (T15.setTop (mkF m 72 #[.val (.int p1), .val (.ref b1), .val (.int (0 : Int32)), .val (.ref w_n2), .val (.int (0 : Int32)), .val (.int (0 : Int32))] [])) _
    refine XS.aloadN X15.here hx rfl (hb hby at_72) rfl rfl ?_
    show Steps p.tables e below (T15.setTop (mkF m 73 #[.val (.int p1), .val (.ref b1), .val (.int (0 : Int32)), .val (.ref w_n2), .val (.int (0 : Int32)), .val (.int (0 : Int32))] [(.ref w_n2)])) _
    refine st16.trans ?_
    show Steps p.tables e below (T16.setTop (mkF m 76 #[.val (.int p1), .val (.ref b1), .val (.int (0 : Int32)), .val (.ref w_n2), .val (.int (0 : Int32)), .val (.int (0 : Int32))] [(.int (1 : Int32))])) _
    refine XS.ifNo X16.here hx rfl (hb hby at_76) rfl ((if0 _ _).trans (feq ((by decide) : ¬ ((1 : Int32) = (0 : Int32)))).1) ?_
    show Steps p.tables e below (T16.setTop (mkF m 79 #[.val (.int p1), .val (.ref b1), .val (.int (0 : Int32)), .val (.ref w_n2), .val (.int (0 : Int32)), .val (.int (0 : Int32))] [])) _
    refine XS.iconst X16.here hx rfl (hb hby at_79) ?_
    show Steps p.tables e below (T16.setTop (mkF m 80 #[.val (.int p1), .val (.ref b1), .val (.int (0 : Int32)), .val (.ref w_n2), .val (.int (0 : Int32)), .val (.int (0 : Int32))] [(.int (1 : Int32))])) _
    refine XS.goto X16.here hx rfl (pc0 := 80) (pc' := 84) rfl (hb hby at_80) (by decide) (by decide) ?_
    show Steps p.tables e below (T16.setTop (mkF m 84 #[.val (.int p1), .val (.ref b1), .val (.int (0 : Int32)), .val (.ref w_n2), .val (.int (0 : Int32)), .val (.int (0 : Int32))] [(.int (1 : Int32))])) _
    exact retN X16 hx (t := .boolean) Bd.returns (by simp) (hb hby at_84) hr
  · show Q0 n0 _ T16.heap _
    rw [e16]
    exact ⟨rfl, N16⟩
set_option maxRecDepth 65536 in
set_option maxHeartbeats 40000000 in
theorem rm0_1 (l : Launch) (Z : State) (a0 : Array Value) (hw : ∀ d ∈ tables_1, d.before a0 Z = true) (ws : List Jvm.Cond) {w_n2 : Addr} {w_n3 : Addr} {w_n1 : Addr} {w_n0 : Addr} (W : Wd Z w_n2 w_n3 w_n1 w_n0) (p1 : Int32) (h0 : Heap) (n0 : Nat) (O0 : Old Z n0 h0) (hk : (p1 &&& (3 : Int32)) = (1 : Int32)) :
    MetFree l x (head1 (Jvm.Cond.code x code maxLocals ret :: ws) room_1) (fun a U => a = #[(.int p1)] ∧ Z.Warmed39 U.vm ∧ U.heap = h0) (fun _ _ _ _ _ => True) (fun _ U o U' => ∃ v L, o = .returned v ∧ Q0 n0 v U'.heap L ∧ FrameEnd U o U' L room_1.cells room_1.slots) := by
  have W' := W; obtain ⟨S_n2, E_n2, S_n3, E_n3, S_n1, E_n1, S_n0, E_n0, F_n2_ordinal, F_n0_ordinal, F_n3_ordinal, F_n1_ordinal⟩ := W'
  refine MetFree.of_bodySF (plainFor_of_name pn_0) hisR ?_
  intro p e s m args below meth c s₁ Bd hml0 hP hK
  obtain ⟨rfl, hZ, hh⟩ := hP
  have hx := Bd.exec
  have hby := Bd.bytes
  have hml : c.maxLocals = 6 := hml0
  have hown : s.vm.findClass "com/example/nandi/nandi/proto/EventTypeFiresChildWatchesPinLaw" = some m.cls := findClass_of_methodNamed Bd.named
  have hnm := (name_of_methodNamed Bd.named Bd.method).1
  have X0 : Stand p l e room_1 s m #[(.int p1)] below meth c s₁ [] 0 0 := Stand.of_body Bd
  have e0 : s₁.heap = h0 := by rw [← hh, Bd.state]; rfl
  have N0 := Fr.nil n0
  have pre0 : ∀ t, Steps p.tables e below (s₁.setTop (mkF m 0 #[.val (.int p1), .unset, .unset, .unset, .unset, .unset] [])) t → Steps p.tables e below (s₁.setTop (entryFrame m #[(.int p1)] maxLocals)) t := fun t k => castTop (ef_0_2 m p1) k
  obtain ⟨T1, h1, k1, X1, e1, E1, A1, B1, Ov1, st1⟩ := newRE X0 hx hZ hown (hw _ (List.mem_of_getElem? (i := 0) rfl)) (hw _ (List.mem_of_getElem? (i := 1) rfl)) e0 (g := (mkF m 1 #[.val (.int p1), .unset, .unset, .unset, .unset, .unset] [(.int (4 : Int32))])) rfl (hb hby at_1) rfl (by decide) (cap := 4) (by decide) (by decide) (by decide) (by decide) (ad := "[Lcom/example/nandi/nandi/proto/EventType;") (by decide)
  obtain ⟨b1, g1⟩ : ∃ z, z = h0.size := ⟨_, rfl⟩
  rw [← g1] at A1 B1 st1
  have g_b1 : n0 ≤ b1 := by rw [g1]; exact O0.1 ▸ O0.2.1
  have O1 := O0.ext E1
  have ov_b1 := Ov1
  have fv1 : Arv Z h1 b1 k1 (.object "com/example/nandi/nandi/proto/EventType") (4 : Int32) [.null, .null, .null, .null] .null := (Arv.new A1 (by decide)).pad (pad_rep [] .null 4)
  obtain ⟨T2, X2, e2, st2⟩ := getS2 X1 hx hZ hown (host := "") (Or.inl (hw _ (List.mem_of_getElem? (i := 2) rfl))) Via.refl e1 (S_n2.ext O1.2) (g := (mkF m 6 #[.val (.int p1), .unset, .unset, .unset, .unset, .unset] [(.int (0 : Int32)), (.ref b1), (.ref b1)])) rfl (hb hby at_6)
  obtain ⟨cl3, Ar3, qk3, Sz3, Nz3, Hs3, Gs3⟩ := fv1
  have hin3 : ¬ ((0 : Int32) < 0 ∨ cl3.slots.size ≤ ((0 : Int32)).toNatClampNeg) := inb_of Sz3 ⟨by decide, by decide⟩
  obtain ⟨T4, h4, X4, e4, W4, st4⟩ := stR X2 hx hZ e2 Ar3 (j := (0 : Int32)) hin3 rfl (Sto.ofV Ar3 qk3 ov_b1 (Ins.self (E_n2.ext O1.2))) (g := (mkF m 9 #[.val (.int p1), .unset, .unset, .unset, .unset, .unset] [(.ref w_n2), (.int (0 : Int32)), (.ref b1), (.ref b1)])) rfl rfl (hb hby at_9)
  have fw4 : Arv Z h4 b1 k1 (.object "com/example/nandi/nandi/proto/EventType") (4 : Int32) [(.ref w_n2), .null, .null, .null] .null := Arv.set Ar3 qk3 Sz3 Nz3 Hs3 Gs3 rfl W4 0 rfl (Nat.le_of_ble_eq_true rfl)
  have f4_0 : Exa Z h4 b1 "[Lcom/example/nandi/nandi/proto/EventType;" := (B1).wr W4
  have O4 := O1.wr W4 g_b1
  have N4 := Fr.snoc X4 N0 g_b1
  obtain ⟨T5, X5, e5, st5⟩ := getS2 X4 hx hZ hown (host := "") (Or.inl (hw _ (List.mem_of_getElem? (i := 6) rfl))) Via.refl e4 (S_n3.ext O4.2) (g := (mkF m 12 #[.val (.int p1), .unset, .unset, .unset, .unset, .unset] [(.int (1 : Int32)), (.ref b1), (.ref b1)])) rfl (hb hby at_12)
  obtain ⟨cl6, Ar6, qk6, Sz6, Nz6, Hs6, Gs6⟩ := fw4
  have hin6 : ¬ ((1 : Int32) < 0 ∨ cl6.slots.size ≤ ((1 : Int32)).toNatClampNeg) := inb_of Sz6 ⟨by decide, by decide⟩
  obtain ⟨T7, h7, X7, e7, W7, st7⟩ := stR X5 hx hZ e5 Ar6 (j := (1 : Int32)) hin6 rfl (Sto.ofV Ar6 qk6 ov_b1 (Ins.self (E_n3.ext O4.2))) (g := (mkF m 15 #[.val (.int p1), .unset, .unset, .unset, .unset, .unset] [(.ref w_n3), (.int (1 : Int32)), (.ref b1), (.ref b1)])) rfl rfl (hb hby at_15)
  have fw7 : Arv Z h7 b1 k1 (.object "com/example/nandi/nandi/proto/EventType") (4 : Int32) [(.ref w_n2), (.ref w_n3), .null, .null] .null := Arv.set Ar6 qk6 Sz6 Nz6 Hs6 Gs6 rfl W7 1 rfl (Nat.le_of_ble_eq_true rfl)
  have f7_0 : Exa Z h7 b1 "[Lcom/example/nandi/nandi/proto/EventType;" := (f4_0).wr W7
  have O7 := O4.wr W7 g_b1
  have N7 := Fr.snoc X7 N4 g_b1
  obtain ⟨T8, X8, e8, st8⟩ := getS2 X7 hx hZ hown (host := "") (Or.inl (hw _ (List.mem_of_getElem? (i := 8) rfl))) Via.refl e7 (S_n1.ext O7.2) (g := (mkF m 18 #[.val (.int p1), .unset, .unset, .unset, .unset, .unset] [(.int (2 : Int32)), (.ref b1), (.ref b1)])) rfl (hb hby at_18)
  obtain ⟨cl9, Ar9, qk9, Sz9, Nz9, Hs9, Gs9⟩ := fw7
  have hin9 : ¬ ((2 : Int32) < 0 ∨ cl9.slots.size ≤ ((2 : Int32)).toNatClampNeg) := inb_of Sz9 ⟨by decide, by decide⟩
  obtain ⟨T10, h10, X10, e10, W10, st10⟩ := stR X8 hx hZ e8 Ar9 (j := (2 : Int32)) hin9 rfl (Sto.ofV Ar9 qk9 ov_b1 (Ins.self (E_n1.ext O7.2))) (g := (mkF m 21 #[.val (.int p1), .unset, .unset, .unset, .unset, .unset] [(.ref w_n1), (.int (2 : Int32)), (.ref b1), (.ref b1)])) rfl rfl (hb hby at_21)
  have fw10 : Arv Z h10 b1 k1 (.object "com/example/nandi/nandi/proto/EventType") (4 : Int32) [(.ref w_n2), (.ref w_n3), (.ref w_n1), .null] .null := Arv.set Ar9 qk9 Sz9 Nz9 Hs9 Gs9 rfl W10 2 rfl (Nat.le_of_ble_eq_true rfl)
  have f10_0 : Exa Z h10 b1 "[Lcom/example/nandi/nandi/proto/EventType;" := (f7_0).wr W10
  have O10 := O7.wr W10 g_b1
  have N10 := Fr.snoc X10 N7 g_b1
  obtain ⟨T11, X11, e11, st11⟩ := getS2 X10 hx hZ hown (host := "") (Or.inl (hw _ (List.mem_of_getElem? (i := 10) rfl))) Via.refl e10 (S_n0.ext O10.2) (g := (mkF m 24 #[.val (.int p1), .unset, .unset, .unset, .unset, .unset] [(.int (3 : Int32)), (.ref b1), (.ref b1)])) rfl (hb hby at_24)
  obtain ⟨cl12, Ar12, qk12, Sz12, Nz12, Hs12, Gs12⟩ := fw10
  have hin12 : ¬ ((3 : Int32) < 0 ∨ cl12.slots.size ≤ ((3 : Int32)).toNatClampNeg) := inb_of Sz12 ⟨by decide, by decide⟩
  obtain ⟨T13, h13, X13, e13, W13, st13⟩ := stR X11 hx hZ e11 Ar12 (j := (3 : Int32)) hin12 rfl (Sto.ofV Ar12 qk12 ov_b1 (Ins.self (E_n0.ext O10.2))) (g := (mkF m 27 #[.val (.int p1), .unset, .unset, .unset, .unset, .unset] [(.ref w_n0), (.int (3 : Int32)), (.ref b1), (.ref b1)])) rfl rfl (hb hby at_27)
  have fw13 : Arv Z h13 b1 k1 (.object "com/example/nandi/nandi/proto/EventType") (4 : Int32) [(.ref w_n2), (.ref w_n3), (.ref w_n1), (.ref w_n0)] .null := Arv.set Ar12 qk12 Sz12 Nz12 Hs12 Gs12 rfl W13 3 rfl (Nat.le_of_ble_eq_true rfl)
  have f13_0 : Exa Z h13 b1 "[Lcom/example/nandi/nandi/proto/EventType;" := (f10_0).wr W13
  have O13 := O10.wr W13 g_b1
  have N13 := Fr.snoc X13 N10 g_b1
  obtain ⟨cl14, Ar14, qk14, Sz14, Nz14, Hs14, Gs14⟩ := fw13
  have hin14 : ¬ ((1 : Int32) < 0 ∨ cl14.slots.size ≤ ((1 : Int32)).toNatClampNeg) := inb_of Sz14 ⟨by decide, by decide⟩
  have hat14 : cl14.slots[((1 : Int32)).toNatClampNeg]? = some (.ref w_n3) := Has.at Hs14 hin14 rfl
  obtain ⟨cq15, kq15, q15a, q15b, q15c⟩ := isOf hZ e13 (E_n3.ext O13.2)
  obtain ⟨_, _, ⟨T15, L15, k15, n15⟩, -, X15, ⟨Lc15, hQ15, l15, y15, z15⟩, st15⟩ := X13.virtualBack hx (y := (⟨"com/example/nandi/nandi/proto/EventType", "firesChildWatches", "()Z"⟩ : MethodName)) (z := (⟨"com/example/nandi/nandi/proto/EventType", "firesChildWatches", "()Z"⟩ : MethodName)) hown (mvT hZ (hw _ (List.mem_of_getElem? (i := 12) rfl))) (mvT hZ (hw _ (List.mem_of_getElem? (i := 13) rfl))) (notFace_of_selects (args := #[]) (mvT hZ (hw _ (List.mem_of_getElem? (i := 15) rfl)))) (mvT hZ (hw _ (List.mem_of_getElem? (i := 15) rfl))) (mvT hZ (hw _ (List.mem_of_getElem? (i := 14) rfl))) (by decide) (backOf (W := 0) (rm1_DELETED l Z a0 hw [] W  h13 n0 O13 ) hZ (hw _ (List.mem_of_getElem? (i := 16) rfl)) (hw _ (List.mem_of_getElem? (i := 3) rfl)) (by decide) (by decide)) q15a q15c (g := (mkF m 55 #[.val (.int p1), .val (.ref b1), .val (.int (1 : Int32)), .val (.ref w_n3), .val (.int (1 : Int32)), .unset] [(.ref w_n3)])) rfl (by rw [hml]; rfl) (Steps.refl _) (argsL := []) (rest := []) (lenOf pd_0 rfl) rfl (by show 2 * 0 + _ ≤ _; exact Nat.le_of_eq rfl) (hb hby at_55) (fun _ _ => ⟨rfl, e13, (by decide : 1 + 0 ≤ _), (by decide : 4 + 0 ≤ _)⟩)
  dsimp only [Pt.U, Pt.locs, Pt.cells, Pt.slots] at X15 l15 y15 z15 st15 hQ15
  subst l15 y15 z15
  obtain ⟨rfl, N15q, e15⟩ := hQ15
  have N15 := Fr.app N13 N15q
  obtain ⟨fs, hr, hrun, hended, hW, hsame⟩ := X15.leave (v := some (.int (1 : Int32))) (fun h => by rw [Bd.returns] at h; cases h)
  refine ⟨_, _, pre0 _ ?_, hrun, hended, _, _, rfl, ?_, ⟨_, rfl⟩, hW, hsame.mono (by decide) (by decide)⟩
  · show Steps p.tables e below (s₁.setTop (mkF m 0 #[.val (.int p1), .unset, .unset, .unset, .unset, .unset] [])) _
    refine XS.iconst X0.here hx rfl (hb hby at_0) ?_
    show Steps p.tables e below (s₁.setTop (mkF m 1 #[.val (.int p1), .unset, .unset, .unset, .unset, .unset] [(.int (4 : Int32))])) _
    refine st1 _ ?_
    show Steps p.tables e below (T1.setTop (mkF m 4 #[.val (.int p1), .unset, .unset, .unset, .unset, .unset] [(.ref b1)])) _
    refine XS.dup X1.here hx rfl (hb hby at_4) rfl rfl ?_
    show Steps p.tables e below (T1.setTop (mkF m 5 #[.val (.int p1), .unset, .unset, .unset, .unset, .unset] [(.ref b1), (.ref b1)])) _
    refine XS.iconst X1.here hx rfl (hb hby at_5) ?_
    show Steps p.tables e below (T1.setTop (mkF m 6 #[.val (.int p1), .unset, .unset, .unset, .unset, .unset] [(.int (0 : Int32)), (.ref b1), (.ref b1)])) _
    refine st2 _ ?_
    show Steps p.tables e below (T2.setTop (mkF m 9 #[.val (.int p1), .unset, .unset, .unset, .unset, .unset] [(.ref w_n2), (.int (0 : Int32)), (.ref b1), (.ref b1)])) _
    refine st4 _ ?_
    show Steps p.tables e below (T4.setTop (mkF m 10 #[.val (.int p1), .unset, .unset, .unset, .unset, .unset] [(.ref b1)])) _
    refine XS.dup X4.here hx rfl (hb hby at_10) rfl rfl ?_
    show Steps p.tables e below (T4.setTop (mkF m 11 #[.val (.int p1), .unset, .unset, .unset, .unset, .unset] [(.ref b1), (.ref b1)])) _
    refine XS.iconst X4.here hx rfl (hb hby at_11) ?_
    show Steps p.tables e below (T4.setTop (mkF m 12 #[.val (.int p1), .unset, .unset, .unset, .unset, .unset] [(.int (1 : Int32)), (.ref b1), (.ref b1)])) _
    refine st5 _ ?_
    show Steps p.tables e below (T5.setTop (mkF m 15 #[.val (.int p1), .unset, .unset, .unset, .unset, .unset] [(.ref w_n3), (.int (1 : Int32)), (.ref b1), (.ref b1)])) _
    refine st7 _ ?_
    show Steps p.tables e below (T7.setTop (mkF m 16 #[.val (.int p1), .unset, .unset, .unset, .unset, .unset] [(.ref b1)])) _
    refine XS.dup X7.here hx rfl (hb hby at_16) rfl rfl ?_
    show Steps p.tables e below (T7.setTop (mkF m 17 #[.val (.int p1), .unset, .unset, .unset, .unset, .unset] [(.ref b1), (.ref b1)])) _
    refine XS.iconst X7.here hx rfl (hb hby at_17) ?_
    show Steps p.tables e below (T7.setTop (mkF m 18 #[.val (.int p1), .unset, .unset, .unset, .unset, .unset] [(.int (2 : Int32)), (.ref b1), (.ref b1)])) _
    refine st8 _ ?_
    show Steps p.tables e below (T8.setTop (mkF m 21 #[.val (.int p1), .unset, .unset, .unset, .unset, .unset] [(.ref w_n1), (.int (2 : Int32)), (.ref b1), (.ref b1)])) _
    refine st10 _ ?_
    show Steps p.tables e below (T10.setTop (mkF m 22 #[.val (.int p1), .unset, .unset, .unset, .unset, .unset] [(.ref b1)])) _
    refine XS.dup X10.here hx rfl (hb hby at_22) rfl rfl ?_
    show Steps p.tables e below (T10.setTop (mkF m 23 #[.val (.int p1), .unset, .unset, .unset, .unset, .unset] [(.ref b1), (.ref b1)])) _
    refine XS.iconst X10.here hx rfl (hb hby at_23) ?_
    show Steps p.tables e below (T10.setTop (mkF m 24 #[.val (.int p1), .unset, .unset, .unset, .unset, .unset] [(.int (3 : Int32)), (.ref b1), (.ref b1)])) _
    refine st11 _ ?_
    show Steps p.tables e below (T11.setTop (mkF m 27 #[.val (.int p1), .unset, .unset, .unset, .unset, .unset] [(.ref w_n0), (.int (3 : Int32)), (.ref b1), (.ref b1)])) _
    refine st13 _ ?_
    show Steps p.tables e below (T13.setTop (mkF m 28 #[.val (.int p1), .unset, .unset, .unset, .unset, .unset] [(.ref b1)])) _
    refine XS.astoreN X13.here hx rfl (hb hby at_28) rfl rfl (l' := #[.val (.int p1), .val (.ref b1), .unset, .unset, .unset, .unset]) rfl ?_
    show Steps p.tables e below (T13.setTop (mkF m 29 #[.val (.int p1), .val (.ref b1), .unset, .unset, .unset, .unset] [])) _
    refine XS.iloadN X13.here hx rfl (hb hby at_29) rfl ?_
    show Steps p.tables e below (T13.setTop (mkF m 30 #[.val (.int p1), .val (.ref b1), .unset, .unset, .unset, .unset] [(.int p1)])) _
    refine XS.iconst X13.here hx rfl (hb hby at_30) ?_
    show Steps p.tables e below (T13.setTop (mkF m 31 #[.val (.int p1), .val (.ref b1), .unset, .unset, .unset, .unset] [(.int (3 : Int32)), (.int p1)])) _
    refine XS.iand X13.here hx rfl (hb hby at_31) rfl ?_
    show Steps p.tables e below (T13.setTop (mkF m 32 #[.val (.int p1), .val (.ref b1), .unset, .unset, .unset, .unset] [(.int (p1 &&& (3 : Int32)))])) _
    rw [hk]
    show Steps p.tables e below (T13.setTop (mkF m 32 #[.val (.int p1), .val (.ref b1), .unset, .unset, .unset, .unset] [(.int (1 : Int32))])) _
    refine XS.istoreN X13.here hx rfl (hb hby at_32) rfl (l' := #[.val (.int p1), .val (.ref b1), .val (.int (1 : Int32)), .unset, .unset, .unset]) rfl ?_
    show Steps p.tables e below (T13.setTop (mkF m 33 #[.val (.int p1), .val (.ref b1), .val (.int (1 : Int32)), .unset, .unset, .unset] [])) _
    refine XS.aloadN X13.here hx rfl (hb hby at_33) rfl rfl ?_
    show Steps p.tables e below (T13.setTop (mkF m 34 #[.val (.int p1), .val (.ref b1), .val (.int (1 : Int32)), .unset, .unset, .unset] [(.ref b1)])) _
    refine XS.iloadN X13.here hx rfl (hb hby at_34) rfl ?_
    show Steps p.tables e below (T13.setTop (mkF m 35 #[.val (.int p1), .val (.ref b1), .val (.int (1 : Int32)), .unset, .unset, .unset] [(.int (1 : Int32)), (.ref b1)])) _
    refine X13.aaload hx (j := (1 : Int32)) (v := (.ref w_n3)) (by rw [e13]; exact Ar14.1) (State.isArrayOf_alike hZ.alike Ar14.2.1) rfl Ar14.2.2 hin14 hat14 (g := (mkF m 35 #[.val (.int p1), .val (.ref b1), .val (.int (1 : Int32)), .unset, .unset, .unset] [(.int (1 : Int32)), (.ref b1)])) rfl rfl (hb hby at_35) _ ?_
    show Steps p.tables e below (T13.setTop (mkF m 36 #[.val (.int p1), .val (.ref b1), .val (.int (1 : Int32)), .unset, .unset, .unset] [(.ref w_n3)])) _
    refine XS.astoreN X13.here hx rfl (hb hby at_36) rfl rfl (l' := #[.val (.int p1), .val (.ref b1), .val (.int (1 : Int32)), .val (.ref w_n3), .unset, .unset]) rfl ?_
    show Steps p.tables e below (T13.setTop (mkF m 37 #[.val (.int p1), .val (.ref b1), .val (.int (1 : Int32)), .val (.ref w_n3), .unset, .unset] [])) _
    refine XS.iloadN X13.here hx rfl (hb hby at_37) rfl ?_
    show Steps p.tables e below (T13.setTop (mkF m 38 #[.val (.int p1), .val (.ref b1), .val (.int (1 : Int32)), .val (.ref w_n3), .unset, .unset] [(.int (1 : Int32))])) _
    refine XS.iconst X13.here hx rfl (hb hby at_38) ?_
    show Steps p.tables e below (T13.setTop (mkF m 39 #[.val (.int p1), .val (.ref b1), .val (.int (1 : Int32)), .val (.ref w_n3), .unset, .unset] [(.int (1 : Int32)), (.int (1 : Int32))])) _
    refine XS.icmpYes X13.here hx rfl (pc0 := 39) (pc' := 47) rfl (hb hby at_39) rfl (teq ((by decide) : (1 : Int32) = (1 : Int32))).1 (by decide) (by decide) ?_
    show Steps p.tables e below (T13.setTop (mkF m 47 #[.val (.int p1), .val (.ref b1), .val (.int (1 : Int32)), .val (.ref w_n3), .unset, .unset] [])) _
    refine XS.iconst X13.here hx rfl (hb hby at_47) ?_
    show Steps p.tables e below (T13.setTop (mkF m 48 #[.val (.int p1), .val (.ref b1), .val (.int (1 : Int32)), .val (.ref w_n3), .unset, .unset] [(.int (1 : Int32))])) _
    refine XS.goto X13.here hx rfl (pc0 := 48) (pc' := 52) rfl (hb hby at_48) (by decide) (by decide) ?_
    show Steps p.tables e below (T13.setTop (mkF m 52 #[.val (.int p1), .val (.ref b1), .val (.int (1 : Int32)), .val (.ref w_n3), .unset, .unset] [(.int (1 : Int32))])) _
    refine XS.istore X13.here hx rfl (hb hby at_52) rfl (l' := #[.val (.int p1), .val (.ref b1), .val (.int (1 : Int32)), .val (.ref w_n3), .val (.int (1 : Int32)), .unset]) rfl ?_
    show Steps p.tables e below (T13.setTop (mkF m 54 #[.val (.int p1), .val (.ref b1), .val (.int (1 : Int32)), .val (.ref w_n3), .val (.int (1 : Int32)), .unset] [])) _
    refine XS.aloadN X13.here hx rfl (hb hby at_54) rfl rfl ?_
    show Steps p.tables e below (T13.setTop (mkF m 55 #[.val (.int p1), .val (.ref b1), .val (.int (1 : Int32)), .val (.ref w_n3), .val (.int (1 : Int32)), .unset] [(.ref w_n3)])) _
    refine st15.trans ?_
    show Steps p.tables e below (T15.setTop (mkF m 58 #[.val (.int p1), .val (.ref b1), .val (.int (1 : Int32)), .val (.ref w_n3), .val (.int (1 : Int32)), .unset] [(.int (1 : Int32))])) _
    refine XS.istore X15.here hx rfl (hb hby at_58) rfl (l' := #[.val (.int p1), .val (.ref b1), .val (.int (1 : Int32)), .val (.ref w_n3), .val (.int (1 : Int32)), .val (.int (1 : Int32))]) rfl ?_
    show Steps p.tables e below (T15.setTop (mkF m 60 #[.val (.int p1), .val (.ref b1), .val (.int (1 : Int32)), .val (.ref w_n3), .val (.int (1 : Int32)), .val (.int (1 : Int32))] [])) _
    refine XS.iload X15.here hx rfl (hb hby at_60) rfl ?_
    show Steps p.tables e below (T15.setTop (mkF m 62 #[.val (.int p1), .val (.ref b1), .val (.int (1 : Int32)), .val (.ref w_n3), .val (.int (1 : Int32)), .val (.int (1 : Int32))] [(.int (1 : Int32))])) _
    refine XS.iload X15.here hx rfl (hb hby at_62) rfl ?_
    show Steps p.tables e below (T15.setTop (mkF m 64 #[.val (.int p1), .val (.ref b1), .val (.int (1 : Int32)), .val (.ref w_n3), .val (.int (1 : Int32)), .val (.int (1 : Int32))] [(.int (1 : Int32)), (.int (1 : Int32))])) _
    refine XS.icmpNo X15.here hx rfl (hb hby at_64) rfl (teq ((by decide) : (1 : Int32) = (1 : Int32))).2 ?_
    show Steps p.tables e below (T15.setTop (mkF m 67 #[.val (.int p1), .val (.ref b1), .val (.int (1 : Int32)), .val (.ref w_n3), .val (.int (1 : Int32)), .val (.int (1 : Int32))] [])) _
    refine XS.iload X15.here hx rfl (hb hby at_67) rfl ?_
    show Steps p.tables e below (T15.setTop (mkF m 69 #[.val (.int p1), .val (.ref b1), .val (.int (1 : Int32)), .val (.ref w_n3), .val (.int (1 : Int32)), .val (.int (1 : Int32))] [(.int (1 : Int32))])) _
    refine XS.ifYes X15.here hx rfl (pc0 := 69) (pc' := 79) rfl (hb hby at_69) rfl ((if0 _ _).trans (feq ((by decide) : ¬ ((1 : Int32) = (0 : Int32)))).2) (by decide) (by decide) ?_
    show Steps p.tables e below (T15.setTop (mkF m 79 #[.val (.int p1), .val (.ref b1), .val (.int (1 : Int32)), .val (.ref w_n3), .val (.int (1 : Int32)), .val (.int (1 : Int32))] [])) _
    refine XS.iconst X15.here hx rfl (hb hby at_79) ?_
    show Steps p.tables e below (T15.setTop (mkF m 80 #[.val (.int p1), .val (.ref b1), .val (.int (1 : Int32)), .val (.ref w_n3), .val (.int (1 : Int32)), .val (.int (1 : Int32))] [(.int (1 : Int32))])) _
    refine XS.goto X15.here hx rfl (pc0 := 80) (pc' := 84) rfl (hb hby at_80) (by decide) (by decide) ?_
    show Steps p.tables e below (T15.setTop (mkF m 84 #[.val (.int p1), .val (.ref b1), .val (.int (1 : Int32)), .val (.ref w_n3), .val (.int (1 : Int32)), .val (.int (1 : Int32))] [(.int (1 : Int32))])) _
    exact retN X15 hx (t := .boolean) Bd.returns (by simp) (hb hby at_84) hr
  · show Q0 n0 _ T15.heap _
    rw [e15]
    exact ⟨rfl, N15⟩
set_option maxRecDepth 65536 in
set_option maxHeartbeats 40000000 in
theorem rm0_2 (l : Launch) (Z : State) (a0 : Array Value) (hw : ∀ d ∈ tables_1, d.before a0 Z = true) (ws : List Jvm.Cond) {w_n2 : Addr} {w_n3 : Addr} {w_n1 : Addr} {w_n0 : Addr} (W : Wd Z w_n2 w_n3 w_n1 w_n0) (p1 : Int32) (h0 : Heap) (n0 : Nat) (O0 : Old Z n0 h0) (hk : (p1 &&& (3 : Int32)) = (2 : Int32)) :
    MetFree l x (head1 (Jvm.Cond.code x code maxLocals ret :: ws) room_1) (fun a U => a = #[(.int p1)] ∧ Z.Warmed39 U.vm ∧ U.heap = h0) (fun _ _ _ _ _ => True) (fun _ U o U' => ∃ v L, o = .returned v ∧ Q0 n0 v U'.heap L ∧ FrameEnd U o U' L room_1.cells room_1.slots) := by
  have W' := W; obtain ⟨S_n2, E_n2, S_n3, E_n3, S_n1, E_n1, S_n0, E_n0, F_n2_ordinal, F_n0_ordinal, F_n3_ordinal, F_n1_ordinal⟩ := W'
  refine MetFree.of_bodySF (plainFor_of_name pn_0) hisR ?_
  intro p e s m args below meth c s₁ Bd hml0 hP hK
  obtain ⟨rfl, hZ, hh⟩ := hP
  have hx := Bd.exec
  have hby := Bd.bytes
  have hml : c.maxLocals = 6 := hml0
  have hown : s.vm.findClass "com/example/nandi/nandi/proto/EventTypeFiresChildWatchesPinLaw" = some m.cls := findClass_of_methodNamed Bd.named
  have hnm := (name_of_methodNamed Bd.named Bd.method).1
  have X0 : Stand p l e room_1 s m #[(.int p1)] below meth c s₁ [] 0 0 := Stand.of_body Bd
  have e0 : s₁.heap = h0 := by rw [← hh, Bd.state]; rfl
  have N0 := Fr.nil n0
  have pre0 : ∀ t, Steps p.tables e below (s₁.setTop (mkF m 0 #[.val (.int p1), .unset, .unset, .unset, .unset, .unset] [])) t → Steps p.tables e below (s₁.setTop (entryFrame m #[(.int p1)] maxLocals)) t := fun t k => castTop (ef_0_2 m p1) k
  obtain ⟨T1, h1, k1, X1, e1, E1, A1, B1, Ov1, st1⟩ := newRE X0 hx hZ hown (hw _ (List.mem_of_getElem? (i := 0) rfl)) (hw _ (List.mem_of_getElem? (i := 1) rfl)) e0 (g := (mkF m 1 #[.val (.int p1), .unset, .unset, .unset, .unset, .unset] [(.int (4 : Int32))])) rfl (hb hby at_1) rfl (by decide) (cap := 4) (by decide) (by decide) (by decide) (by decide) (ad := "[Lcom/example/nandi/nandi/proto/EventType;") (by decide)
  obtain ⟨b1, g1⟩ : ∃ z, z = h0.size := ⟨_, rfl⟩
  rw [← g1] at A1 B1 st1
  have g_b1 : n0 ≤ b1 := by rw [g1]; exact O0.1 ▸ O0.2.1
  have O1 := O0.ext E1
  have ov_b1 := Ov1
  have fv1 : Arv Z h1 b1 k1 (.object "com/example/nandi/nandi/proto/EventType") (4 : Int32) [.null, .null, .null, .null] .null := (Arv.new A1 (by decide)).pad (pad_rep [] .null 4)
  obtain ⟨T2, X2, e2, st2⟩ := getS2 X1 hx hZ hown (host := "") (Or.inl (hw _ (List.mem_of_getElem? (i := 2) rfl))) Via.refl e1 (S_n2.ext O1.2) (g := (mkF m 6 #[.val (.int p1), .unset, .unset, .unset, .unset, .unset] [(.int (0 : Int32)), (.ref b1), (.ref b1)])) rfl (hb hby at_6)
  obtain ⟨cl3, Ar3, qk3, Sz3, Nz3, Hs3, Gs3⟩ := fv1
  have hin3 : ¬ ((0 : Int32) < 0 ∨ cl3.slots.size ≤ ((0 : Int32)).toNatClampNeg) := inb_of Sz3 ⟨by decide, by decide⟩
  obtain ⟨T4, h4, X4, e4, W4, st4⟩ := stR X2 hx hZ e2 Ar3 (j := (0 : Int32)) hin3 rfl (Sto.ofV Ar3 qk3 ov_b1 (Ins.self (E_n2.ext O1.2))) (g := (mkF m 9 #[.val (.int p1), .unset, .unset, .unset, .unset, .unset] [(.ref w_n2), (.int (0 : Int32)), (.ref b1), (.ref b1)])) rfl rfl (hb hby at_9)
  have fw4 : Arv Z h4 b1 k1 (.object "com/example/nandi/nandi/proto/EventType") (4 : Int32) [(.ref w_n2), .null, .null, .null] .null := Arv.set Ar3 qk3 Sz3 Nz3 Hs3 Gs3 rfl W4 0 rfl (Nat.le_of_ble_eq_true rfl)
  have f4_0 : Exa Z h4 b1 "[Lcom/example/nandi/nandi/proto/EventType;" := (B1).wr W4
  have O4 := O1.wr W4 g_b1
  have N4 := Fr.snoc X4 N0 g_b1
  obtain ⟨T5, X5, e5, st5⟩ := getS2 X4 hx hZ hown (host := "") (Or.inl (hw _ (List.mem_of_getElem? (i := 6) rfl))) Via.refl e4 (S_n3.ext O4.2) (g := (mkF m 12 #[.val (.int p1), .unset, .unset, .unset, .unset, .unset] [(.int (1 : Int32)), (.ref b1), (.ref b1)])) rfl (hb hby at_12)
  obtain ⟨cl6, Ar6, qk6, Sz6, Nz6, Hs6, Gs6⟩ := fw4
  have hin6 : ¬ ((1 : Int32) < 0 ∨ cl6.slots.size ≤ ((1 : Int32)).toNatClampNeg) := inb_of Sz6 ⟨by decide, by decide⟩
  obtain ⟨T7, h7, X7, e7, W7, st7⟩ := stR X5 hx hZ e5 Ar6 (j := (1 : Int32)) hin6 rfl (Sto.ofV Ar6 qk6 ov_b1 (Ins.self (E_n3.ext O4.2))) (g := (mkF m 15 #[.val (.int p1), .unset, .unset, .unset, .unset, .unset] [(.ref w_n3), (.int (1 : Int32)), (.ref b1), (.ref b1)])) rfl rfl (hb hby at_15)
  have fw7 : Arv Z h7 b1 k1 (.object "com/example/nandi/nandi/proto/EventType") (4 : Int32) [(.ref w_n2), (.ref w_n3), .null, .null] .null := Arv.set Ar6 qk6 Sz6 Nz6 Hs6 Gs6 rfl W7 1 rfl (Nat.le_of_ble_eq_true rfl)
  have f7_0 : Exa Z h7 b1 "[Lcom/example/nandi/nandi/proto/EventType;" := (f4_0).wr W7
  have O7 := O4.wr W7 g_b1
  have N7 := Fr.snoc X7 N4 g_b1
  obtain ⟨T8, X8, e8, st8⟩ := getS2 X7 hx hZ hown (host := "") (Or.inl (hw _ (List.mem_of_getElem? (i := 8) rfl))) Via.refl e7 (S_n1.ext O7.2) (g := (mkF m 18 #[.val (.int p1), .unset, .unset, .unset, .unset, .unset] [(.int (2 : Int32)), (.ref b1), (.ref b1)])) rfl (hb hby at_18)
  obtain ⟨cl9, Ar9, qk9, Sz9, Nz9, Hs9, Gs9⟩ := fw7
  have hin9 : ¬ ((2 : Int32) < 0 ∨ cl9.slots.size ≤ ((2 : Int32)).toNatClampNeg) := inb_of Sz9 ⟨by decide, by decide⟩
  obtain ⟨T10, h10, X10, e10, W10, st10⟩ := stR X8 hx hZ e8 Ar9 (j := (2 : Int32)) hin9 rfl (Sto.ofV Ar9 qk9 ov_b1 (Ins.self (E_n1.ext O7.2))) (g := (mkF m 21 #[.val (.int p1), .unset, .unset, .unset, .unset, .unset] [(.ref w_n1), (.int (2 : Int32)), (.ref b1), (.ref b1)])) rfl rfl (hb hby at_21)
  have fw10 : Arv Z h10 b1 k1 (.object "com/example/nandi/nandi/proto/EventType") (4 : Int32) [(.ref w_n2), (.ref w_n3), (.ref w_n1), .null] .null := Arv.set Ar9 qk9 Sz9 Nz9 Hs9 Gs9 rfl W10 2 rfl (Nat.le_of_ble_eq_true rfl)
  have f10_0 : Exa Z h10 b1 "[Lcom/example/nandi/nandi/proto/EventType;" := (f7_0).wr W10
  have O10 := O7.wr W10 g_b1
  have N10 := Fr.snoc X10 N7 g_b1
  obtain ⟨T11, X11, e11, st11⟩ := getS2 X10 hx hZ hown (host := "") (Or.inl (hw _ (List.mem_of_getElem? (i := 10) rfl))) Via.refl e10 (S_n0.ext O10.2) (g := (mkF m 24 #[.val (.int p1), .unset, .unset, .unset, .unset, .unset] [(.int (3 : Int32)), (.ref b1), (.ref b1)])) rfl (hb hby at_24)
  obtain ⟨cl12, Ar12, qk12, Sz12, Nz12, Hs12, Gs12⟩ := fw10
  have hin12 : ¬ ((3 : Int32) < 0 ∨ cl12.slots.size ≤ ((3 : Int32)).toNatClampNeg) := inb_of Sz12 ⟨by decide, by decide⟩
  obtain ⟨T13, h13, X13, e13, W13, st13⟩ := stR X11 hx hZ e11 Ar12 (j := (3 : Int32)) hin12 rfl (Sto.ofV Ar12 qk12 ov_b1 (Ins.self (E_n0.ext O10.2))) (g := (mkF m 27 #[.val (.int p1), .unset, .unset, .unset, .unset, .unset] [(.ref w_n0), (.int (3 : Int32)), (.ref b1), (.ref b1)])) rfl rfl (hb hby at_27)
  have fw13 : Arv Z h13 b1 k1 (.object "com/example/nandi/nandi/proto/EventType") (4 : Int32) [(.ref w_n2), (.ref w_n3), (.ref w_n1), (.ref w_n0)] .null := Arv.set Ar12 qk12 Sz12 Nz12 Hs12 Gs12 rfl W13 3 rfl (Nat.le_of_ble_eq_true rfl)
  have f13_0 : Exa Z h13 b1 "[Lcom/example/nandi/nandi/proto/EventType;" := (f10_0).wr W13
  have O13 := O10.wr W13 g_b1
  have N13 := Fr.snoc X13 N10 g_b1
  obtain ⟨cl14, Ar14, qk14, Sz14, Nz14, Hs14, Gs14⟩ := fw13
  have hin14 : ¬ ((2 : Int32) < 0 ∨ cl14.slots.size ≤ ((2 : Int32)).toNatClampNeg) := inb_of Sz14 ⟨by decide, by decide⟩
  have hat14 : cl14.slots[((2 : Int32)).toNatClampNeg]? = some (.ref w_n1) := Has.at Hs14 hin14 rfl
  obtain ⟨cq15, kq15, q15a, q15b, q15c⟩ := isOf hZ e13 (E_n1.ext O13.2)
  obtain ⟨_, _, ⟨T15, L15, k15, n15⟩, -, X15, ⟨Lc15, hQ15, l15, y15, z15⟩, st15⟩ := X13.virtualBack hx (y := (⟨"com/example/nandi/nandi/proto/EventType", "firesChildWatches", "()Z"⟩ : MethodName)) (z := (⟨"com/example/nandi/nandi/proto/EventType", "firesChildWatches", "()Z"⟩ : MethodName)) hown (mvT hZ (hw _ (List.mem_of_getElem? (i := 12) rfl))) (mvT hZ (hw _ (List.mem_of_getElem? (i := 13) rfl))) (notFace_of_selects (args := #[]) (mvT hZ (hw _ (List.mem_of_getElem? (i := 15) rfl)))) (mvT hZ (hw _ (List.mem_of_getElem? (i := 15) rfl))) (mvT hZ (hw _ (List.mem_of_getElem? (i := 14) rfl))) (by decide) (backOf (W := 0) (rm1_CHANGED l Z a0 hw [] W  h13 n0 O13 ) hZ (hw _ (List.mem_of_getElem? (i := 16) rfl)) (hw _ (List.mem_of_getElem? (i := 3) rfl)) (by decide) (by decide)) q15a q15c (g := (mkF m 55 #[.val (.int p1), .val (.ref b1), .val (.int (2 : Int32)), .val (.ref w_n1), .val (.int (0 : Int32)), .unset] [(.ref w_n1)])) rfl (by rw [hml]; rfl) (Steps.refl _) (argsL := []) (rest := []) (lenOf pd_0 rfl) rfl (by show 2 * 0 + _ ≤ _; exact Nat.le_of_eq rfl) (hb hby at_55) (fun _ _ => ⟨rfl, e13, (by decide : 1 + 0 ≤ _), (by decide : 4 + 0 ≤ _)⟩)
  dsimp only [Pt.U, Pt.locs, Pt.cells, Pt.slots] at X15 l15 y15 z15 st15 hQ15
  subst l15 y15 z15
  obtain ⟨rfl, N15q, e15⟩ := hQ15
  have N15 := Fr.app N13 N15q
  obtain ⟨cq16, kq16, q16a, q16b, q16c⟩ := isOf hZ e15 (E_n1.ext O13.2)
  obtain ⟨_, _, ⟨T16, L16, k16, n16⟩, -, X16, ⟨Lc16, hQ16, l16, y16, z16⟩, st16⟩ := X15.virtualBack hx (y := (⟨"com/example/nandi/nandi/proto/EventType", "firesDataWatches", "()Z"⟩ : MethodName)) (z := (⟨"com/example/nandi/nandi/proto/EventType", "firesDataWatches", "()Z"⟩ : MethodName)) hown (mvT hZ (hw _ (List.mem_of_getElem? (i := 19) rfl))) (mvT hZ (hw _ (List.mem_of_getElem? (i := 20) rfl))) (notFace_of_selects (args := #[]) (mvT hZ (hw _ (List.mem_of_getElem? (i := 22) rfl)))) (mvT hZ (hw _ (List.mem_of_getElem? (i := 22) rfl))) (mvT hZ (hw _ (List.mem_of_getElem? (i := 21) rfl))) (by decide) (backOf (W := 0) (rm2_CHANGED l Z a0 hw [] W  h13 n0 O13 ) hZ (hw _ (List.mem_of_getElem? (i := 23) rfl)) (hw _ (List.mem_of_getElem? (i := 3) rfl)) (by decide) (by decide)) q16a q16c (g := (mkF m 73 #[.val (.int p1), .val (.ref b1), .val (.int (2 : Int32)), .val (.ref w_n1), .val (.int (0 : Int32)), .val (.int (0 : Int32))] [(.ref w_n1)])) rfl (by rw [hml]; rfl) (Steps.refl _) (argsL := []) (rest := []) (lenOf pd_0 rfl) rfl (by show 2 * 0 + _ ≤ _; exact Nat.le_of_eq rfl) (hb hby at_73) (fun _ _ => ⟨rfl, e15, (by decide : 1 + 0 ≤ _), (by decide : 4 + 0 ≤ _)⟩)
  dsimp only [Pt.U, Pt.locs, Pt.cells, Pt.slots] at X16 l16 y16 z16 st16 hQ16
  subst l16 y16 z16
  obtain ⟨rfl, N16q, e16⟩ := hQ16
  have N16 := Fr.app N15 N16q
  obtain ⟨fs, hr, hrun, hended, hW, hsame⟩ := X16.leave (v := some (.int (1 : Int32))) (fun h => by rw [Bd.returns] at h; cases h)
  refine ⟨_, _, pre0 _ ?_, hrun, hended, _, _, rfl, ?_, ⟨_, rfl⟩, hW, hsame.mono (by decide) (by decide)⟩
  · show Steps p.tables e below (s₁.setTop (mkF m 0 #[.val (.int p1), .unset, .unset, .unset, .unset, .unset] [])) _
    refine XS.iconst X0.here hx rfl (hb hby at_0) ?_
    show Steps p.tables e below (s₁.setTop (mkF m 1 #[.val (.int p1), .unset, .unset, .unset, .unset, .unset] [(.int (4 : Int32))])) _
    refine st1 _ ?_
    show Steps p.tables e below (T1.setTop (mkF m 4 #[.val (.int p1), .unset, .unset, .unset, .unset, .unset] [(.ref b1)])) _
    refine XS.dup X1.here hx rfl (hb hby at_4) rfl rfl ?_
    show Steps p.tables e below (T1.setTop (mkF m 5 #[.val (.int p1), .unset, .unset, .unset, .unset, .unset] [(.ref b1), (.ref b1)])) _
    refine XS.iconst X1.here hx rfl (hb hby at_5) ?_
    show Steps p.tables e below (T1.setTop (mkF m 6 #[.val (.int p1), .unset, .unset, .unset, .unset, .unset] [(.int (0 : Int32)), (.ref b1), (.ref b1)])) _
    refine st2 _ ?_
    show Steps p.tables e below (T2.setTop (mkF m 9 #[.val (.int p1), .unset, .unset, .unset, .unset, .unset] [(.ref w_n2), (.int (0 : Int32)), (.ref b1), (.ref b1)])) _
    refine st4 _ ?_
    show Steps p.tables e below (T4.setTop (mkF m 10 #[.val (.int p1), .unset, .unset, .unset, .unset, .unset] [(.ref b1)])) _
    refine XS.dup X4.here hx rfl (hb hby at_10) rfl rfl ?_
    show Steps p.tables e below (T4.setTop (mkF m 11 #[.val (.int p1), .unset, .unset, .unset, .unset, .unset] [(.ref b1), (.ref b1)])) _
    refine XS.iconst X4.here hx rfl (hb hby at_11) ?_
    show Steps p.tables e below (T4.setTop (mkF m 12 #[.val (.int p1), .unset, .unset, .unset, .unset, .unset] [(.int (1 : Int32)), (.ref b1), (.ref b1)])) _
    refine st5 _ ?_
    show Steps p.tables e below (T5.setTop (mkF m 15 #[.val (.int p1), .unset, .unset, .unset, .unset, .unset] [(.ref w_n3), (.int (1 : Int32)), (.ref b1), (.ref b1)])) _
    refine st7 _ ?_
    show Steps p.tables e below (T7.setTop (mkF m 16 #[.val (.int p1), .unset, .unset, .unset, .unset, .unset] [(.ref b1)])) _
    refine XS.dup X7.here hx rfl (hb hby at_16) rfl rfl ?_
    show Steps p.tables e below (T7.setTop (mkF m 17 #[.val (.int p1), .unset, .unset, .unset, .unset, .unset] [(.ref b1), (.ref b1)])) _
    refine XS.iconst X7.here hx rfl (hb hby at_17) ?_
    show Steps p.tables e below (T7.setTop (mkF m 18 #[.val (.int p1), .unset, .unset, .unset, .unset, .unset] [(.int (2 : Int32)), (.ref b1), (.ref b1)])) _
    refine st8 _ ?_
    show Steps p.tables e below (T8.setTop (mkF m 21 #[.val (.int p1), .unset, .unset, .unset, .unset, .unset] [(.ref w_n1), (.int (2 : Int32)), (.ref b1), (.ref b1)])) _
    refine st10 _ ?_
    show Steps p.tables e below (T10.setTop (mkF m 22 #[.val (.int p1), .unset, .unset, .unset, .unset, .unset] [(.ref b1)])) _
    refine XS.dup X10.here hx rfl (hb hby at_22) rfl rfl ?_
    show Steps p.tables e below (T10.setTop (mkF m 23 #[.val (.int p1), .unset, .unset, .unset, .unset, .unset] [(.ref b1), (.ref b1)])) _
    refine XS.iconst X10.here hx rfl (hb hby at_23) ?_
    show Steps p.tables e below (T10.setTop (mkF m 24 #[.val (.int p1), .unset, .unset, .unset, .unset, .unset] [(.int (3 : Int32)), (.ref b1), (.ref b1)])) _
    refine st11 _ ?_
    show Steps p.tables e below (T11.setTop (mkF m 27 #[.val (.int p1), .unset, .unset, .unset, .unset, .unset] [(.ref w_n0), (.int (3 : Int32)), (.ref b1), (.ref b1)])) _
    refine st13 _ ?_
    show Steps p.tables e below (T13.setTop (mkF m 28 #[.val (.int p1), .unset, .unset, .unset, .unset, .unset] [(.ref b1)])) _
    refine XS.astoreN X13.here hx rfl (hb hby at_28) rfl rfl (l' := #[.val (.int p1), .val (.ref b1), .unset, .unset, .unset, .unset]) rfl ?_
    show Steps p.tables e below (T13.setTop (mkF m 29 #[.val (.int p1), .val (.ref b1), .unset, .unset, .unset, .unset] [])) _
    refine XS.iloadN X13.here hx rfl (hb hby at_29) rfl ?_
    show Steps p.tables e below (T13.setTop (mkF m 30 #[.val (.int p1), .val (.ref b1), .unset, .unset, .unset, .unset] [(.int p1)])) _
    refine XS.iconst X13.here hx rfl (hb hby at_30) ?_
    show Steps p.tables e below (T13.setTop (mkF m 31 #[.val (.int p1), .val (.ref b1), .unset, .unset, .unset, .unset] [(.int (3 : Int32)), (.int p1)])) _
    refine XS.iand X13.here hx rfl (hb hby at_31) rfl ?_
    show Steps p.tables e below (T13.setTop (mkF m 32 #[.val (.int p1), .val (.ref b1), .unset, .unset, .unset, .unset] [(.int (p1 &&& (3 : Int32)))])) _
    rw [hk]
    show Steps p.tables e below (T13.setTop (mkF m 32 #[.val (.int p1), .val (.ref b1), .unset, .unset, .unset, .unset] [(.int (2 : Int32))])) _
    refine XS.istoreN X13.here hx rfl (hb hby at_32) rfl (l' := #[.val (.int p1), .val (.ref b1), .val (.int (2 : Int32)), .unset, .unset, .unset]) rfl ?_
    show Steps p.tables e below (T13.setTop (mkF m 33 #[.val (.int p1), .val (.ref b1), .val (.int (2 : Int32)), .unset, .unset, .unset] [])) _
    refine XS.aloadN X13.here hx rfl (hb hby at_33) rfl rfl ?_
    show Steps p.tables e below (T13.setTop (mkF m 34 #[.val (.int p1), .val (.ref b1), .val (.int (2 : Int32)), .unset, .unset, .unset] [(.ref b1)])) _
    refine XS.iloadN X13.here hx rfl (hb hby at_34) rfl ?_
    show Steps p.tables e below (T13.setTop (mkF m 35 #[.val (.int p1), .val (.ref b1), .val (.int (2 : Int32)), .unset, .unset, .unset] [(.int (2 : Int32)), (.ref b1)])) _
    refine X13.aaload hx (j := (2 : Int32)) (v := (.ref w_n1)) (by rw [e13]; exact Ar14.1) (State.isArrayOf_alike hZ.alike Ar14.2.1) rfl Ar14.2.2 hin14 hat14 (g := (mkF m 35 #[.val (.int p1), .val (.ref b1), .val (.int (2 : Int32)), .unset, .unset, .unset] [(.int (2 : Int32)), (.ref b1)])) rfl rfl (hb hby at_35) _ ?_
    show Steps p.tables e below (T13.setTop (mkF m 36 #[.val (.int p1), .val (.ref b1), .val (.int (2 : Int32)), .unset, .unset, .unset] [(.ref w_n1)])) _
    refine XS.astoreN X13.here hx rfl (hb hby at_36) rfl rfl (l' := #[.val (.int p1), .val (.ref b1), .val (.int (2 : Int32)), .val (.ref w_n1), .unset, .unset]) rfl ?_
    show Steps p.tables e below (T13.setTop (mkF m 37 #[.val (.int p1), .val (.ref b1), .val (.int (2 : Int32)), .val (.ref w_n1), .unset, .unset] [])) _
    refine XS.iloadN X13.here hx rfl (hb hby at_37) rfl ?_
    show Steps p.tables e below (T13.setTop (mkF m 38 #[.val (.int p1), .val (.ref b1), .val (.int (2 : Int32)), .val (.ref w_n1), .unset, .unset] [(.int (2 : Int32))])) _
    refine XS.iconst X13.here hx rfl (hb hby at_38) ?_
    show Steps p.tables e below (T13.setTop (mkF m 39 #[.val (.int p1), .val (.ref b1), .val (.int (2 : Int32)), .val (.ref w_n1), .unset, .unset] [(.int (1 : Int32)), (.int (2 : Int32))])) _
    refine XS.icmpNo X13.here hx rfl (hb hby at_39) rfl (feq ((by decide) : ¬ ((2 : Int32) = (1 : Int32)))).1 ?_
    show Steps p.tables e below (T13.setTop (mkF m 42 #[.val (.int p1), .val (.ref b1), .val (.int (2 : Int32)), .val (.ref w_n1), .unset, .unset] [])) _
    refine XS.iloadN X13.here hx rfl (hb hby at_42) rfl ?_
    show Steps p.tables e below (T13.setTop (mkF m 43 #[.val (.int p1), .val (.ref b1), .val (.int (2 : Int32)), .val (.ref w_n1), .unset, .unset] [(.int (2 : Int32))])) _
    refine XS.iconst X13.here hx rfl (hb hby at_43) ?_
    show Steps p.tables e below (T13.setTop (mkF m 44 #[.val (.int p1), .val (.ref b1), .val (.int (2 : Int32)), .val (.ref w_n1), .unset, .unset] [(.int (3 : Int32)), (.int (2 : Int32))])) _
    refine XS.icmpYes X13.here hx rfl (pc0 := 44) (pc' := 51) rfl (hb hby at_44) rfl (feq ((by decide) : ¬ ((2 : Int32) = (3 : Int32)))).2 (by decide) (by decide) ?_
    show Steps p.tables e below (T13.setTop (mkF m 51 #[.val (.int p1), .val (.ref b1), .val (.int (2 : Int32)), .val (.ref w_n1), .unset, .unset] [])) _
    refine XS.iconst X13.here hx rfl (hb hby at_51) ?_
    show Steps p.tables e below (T13.setTop (mkF m 52 #[.val (.int p1), .val (.ref b1), .val (.int (2 : Int32)), .val (.ref w_n1), .unset, .unset] [(.int (0 : Int32))])) _
    refine XS.istore X13.here hx rfl (hb hby at_52) rfl (l' := #[.val (.int p1), .val (.ref b1), .val (.int (2 : Int32)), .val (.ref w_n1), .val (.int (0 : Int32)), .unset]) rfl ?_
    show Steps p.tables e below (T13.setTop (mkF m 54 #[.val (.int p1), .val (.ref b1), .val (.int (2 : Int32)), .val (.ref w_n1), .val (.int (0 : Int32)), .unset] [])) _
    refine XS.aloadN X13.here hx rfl (hb hby at_54) rfl rfl ?_
    show Steps p.tables e below (T13.setTop (mkF m 55 #[.val (.int p1), .val (.ref b1), .val (.int (2 : Int32)), .val (.ref w_n1), .val (.int (0 : Int32)), .unset] [(.ref w_n1)])) _
    refine st15.trans ?_
    show Steps p.tables e below (T15.setTop (mkF m 58 #[.val (.int p1), .val (.ref b1), .val (.int (2 : Int32)), .val (.ref w_n1), .val (.int (0 : Int32)), .unset] [(.int (0 : Int32))])) _
    refine XS.istore X15.here hx rfl (hb hby at_58) rfl (l' := #[.val (.int p1), .val (.ref b1), .val (.int (2 : Int32)), .val (.ref w_n1), .val (.int (0 : Int32)), .val (.int (0 : Int32))]) rfl ?_
    show Steps p.tables e below (T15.setTop (mkF m 60 #[.val (.int p1), .val (.ref b1), .val (.int (2 : Int32)), .val (.ref w_n1), .val (.int (0 : Int32)), .val (.int (0 : Int32))] [])) _
    refine XS.iload X15.here hx rfl (hb hby at_60) rfl ?_
    show Steps p.tables e below (T15.setTop (mkF m 62 #[.val (.int p1), .val (.ref b1), .val (.int (2 : Int32)), .val (.ref w_n1), .val (.int (0 : Int32)), .val (.int (0 : Int32))] [(.int (0 : Int32))])) _
    refine XS.iload X15.here hx rfl (hb hby at_62) rfl ?_
    show Steps p.tables e below (T15.setTop (mkF m 64 #[.val (.int p1), .val (.ref b1), .val (.int (2 : Int32)), .val (.ref w_n1), .val (.int (0 : Int32)), .val (.int (0 : Int32))] [(.int (0 : Int32)), (.int (0 : Int32))])) _
    refine XS.icmpNo X15.here hx rfl (hb hby at_64) rfl (teq ((by decide) : (0 : Int32) = (0 : Int32))).2 ?_
    show Steps p.tables e below (T15.setTop (mkF m 67 #[.val (.int p1), .val (.ref b1), .val (.int (2 : Int32)), .val (.ref w_n1), .val (.int (0 : Int32)), .val (.int (0 : Int32))] [])) _
    refine XS.iload X15.here hx rfl (hb hby at_67) rfl ?_
    show Steps p.tables e below (T15.setTop (mkF m 69 #[.val (.int p1), .val (.ref b1), .val (.int (2 : Int32)), .val (.ref w_n1), .val (.int (0 : Int32)), .val (.int (0 : Int32))] [(.int (0 : Int32))])) _
    refine XS.ifNo X15.here hx rfl (hb hby at_69) rfl ((if0 _ _).trans (teq ((by decide) : (0 : Int32) = (0 : Int32))).2) ?_
    show Steps p.tables e below (T15.setTop (mkF m 72 #[.val (.int p1), .val (.ref b1), .val (.int (2 : Int32)), .val (.ref w_n1), .val (.int (0 : Int32)), .val (.int (0 : Int32))] [])) _
    refine XS.aloadN X15.here hx rfl (hb hby at_72) rfl rfl ?_
    show Steps p.tables e below (T15.setTop (mkF m 73 #[.val (.int p1), .val (.ref b1), .val (.int (2 : Int32)), .val (.ref w_n1), .val (.int (0 : Int32)), .val (.int (0 : Int32))] [(.ref w_n1)])) _
    refine st16.trans ?_
    show Steps p.tables e below (T16.setTop (mkF m 76 #[.val (.int p1), .val (.ref b1), .val (.int (2 : Int32)), .val (.ref w_n1), .val (.int (0 : Int32)), .val (.int (0 : Int32))] [(.int (1 : Int32))])) _
    refine XS.ifNo X16.here hx rfl (hb hby at_76) rfl ((if0 _ _).trans (feq ((by decide) : ¬ ((1 : Int32) = (0 : Int32)))).1) ?_
    show Steps p.tables e below (T16.setTop (mkF m 79 #[.val (.int p1), .val (.ref b1), .val (.int (2 : Int32)), .val (.ref w_n1), .val (.int (0 : Int32)), .val (.int (0 : Int32))] [])) _
    refine XS.iconst X16.here hx rfl (hb hby at_79) ?_
    show Steps p.tables e below (T16.setTop (mkF m 80 #[.val (.int p1), .val (.ref b1), .val (.int (2 : Int32)), .val (.ref w_n1), .val (.int (0 : Int32)), .val (.int (0 : Int32))] [(.int (1 : Int32))])) _
    refine XS.goto X16.here hx rfl (pc0 := 80) (pc' := 84) rfl (hb hby at_80) (by decide) (by decide) ?_
    show Steps p.tables e below (T16.setTop (mkF m 84 #[.val (.int p1), .val (.ref b1), .val (.int (2 : Int32)), .val (.ref w_n1), .val (.int (0 : Int32)), .val (.int (0 : Int32))] [(.int (1 : Int32))])) _
    exact retN X16 hx (t := .boolean) Bd.returns (by simp) (hb hby at_84) hr
  · show Q0 n0 _ T16.heap _
    rw [e16]
    exact ⟨rfl, N16⟩
set_option maxRecDepth 65536 in
set_option maxHeartbeats 40000000 in
theorem rm0_3 (l : Launch) (Z : State) (a0 : Array Value) (hw : ∀ d ∈ tables_1, d.before a0 Z = true) (ws : List Jvm.Cond) {w_n2 : Addr} {w_n3 : Addr} {w_n1 : Addr} {w_n0 : Addr} (W : Wd Z w_n2 w_n3 w_n1 w_n0) (p1 : Int32) (h0 : Heap) (n0 : Nat) (O0 : Old Z n0 h0) (hk : (p1 &&& (3 : Int32)) = (3 : Int32)) :
    MetFree l x (head1 (Jvm.Cond.code x code maxLocals ret :: ws) room_1) (fun a U => a = #[(.int p1)] ∧ Z.Warmed39 U.vm ∧ U.heap = h0) (fun _ _ _ _ _ => True) (fun _ U o U' => ∃ v L, o = .returned v ∧ Q0 n0 v U'.heap L ∧ FrameEnd U o U' L room_1.cells room_1.slots) := by
  have W' := W; obtain ⟨S_n2, E_n2, S_n3, E_n3, S_n1, E_n1, S_n0, E_n0, F_n2_ordinal, F_n0_ordinal, F_n3_ordinal, F_n1_ordinal⟩ := W'
  refine MetFree.of_bodySF (plainFor_of_name pn_0) hisR ?_
  intro p e s m args below meth c s₁ Bd hml0 hP hK
  obtain ⟨rfl, hZ, hh⟩ := hP
  have hx := Bd.exec
  have hby := Bd.bytes
  have hml : c.maxLocals = 6 := hml0
  have hown : s.vm.findClass "com/example/nandi/nandi/proto/EventTypeFiresChildWatchesPinLaw" = some m.cls := findClass_of_methodNamed Bd.named
  have hnm := (name_of_methodNamed Bd.named Bd.method).1
  have X0 : Stand p l e room_1 s m #[(.int p1)] below meth c s₁ [] 0 0 := Stand.of_body Bd
  have e0 : s₁.heap = h0 := by rw [← hh, Bd.state]; rfl
  have N0 := Fr.nil n0
  have pre0 : ∀ t, Steps p.tables e below (s₁.setTop (mkF m 0 #[.val (.int p1), .unset, .unset, .unset, .unset, .unset] [])) t → Steps p.tables e below (s₁.setTop (entryFrame m #[(.int p1)] maxLocals)) t := fun t k => castTop (ef_0_2 m p1) k
  obtain ⟨T1, h1, k1, X1, e1, E1, A1, B1, Ov1, st1⟩ := newRE X0 hx hZ hown (hw _ (List.mem_of_getElem? (i := 0) rfl)) (hw _ (List.mem_of_getElem? (i := 1) rfl)) e0 (g := (mkF m 1 #[.val (.int p1), .unset, .unset, .unset, .unset, .unset] [(.int (4 : Int32))])) rfl (hb hby at_1) rfl (by decide) (cap := 4) (by decide) (by decide) (by decide) (by decide) (ad := "[Lcom/example/nandi/nandi/proto/EventType;") (by decide)
  obtain ⟨b1, g1⟩ : ∃ z, z = h0.size := ⟨_, rfl⟩
  rw [← g1] at A1 B1 st1
  have g_b1 : n0 ≤ b1 := by rw [g1]; exact O0.1 ▸ O0.2.1
  have O1 := O0.ext E1
  have ov_b1 := Ov1
  have fv1 : Arv Z h1 b1 k1 (.object "com/example/nandi/nandi/proto/EventType") (4 : Int32) [.null, .null, .null, .null] .null := (Arv.new A1 (by decide)).pad (pad_rep [] .null 4)
  obtain ⟨T2, X2, e2, st2⟩ := getS2 X1 hx hZ hown (host := "") (Or.inl (hw _ (List.mem_of_getElem? (i := 2) rfl))) Via.refl e1 (S_n2.ext O1.2) (g := (mkF m 6 #[.val (.int p1), .unset, .unset, .unset, .unset, .unset] [(.int (0 : Int32)), (.ref b1), (.ref b1)])) rfl (hb hby at_6)
  obtain ⟨cl3, Ar3, qk3, Sz3, Nz3, Hs3, Gs3⟩ := fv1
  have hin3 : ¬ ((0 : Int32) < 0 ∨ cl3.slots.size ≤ ((0 : Int32)).toNatClampNeg) := inb_of Sz3 ⟨by decide, by decide⟩
  obtain ⟨T4, h4, X4, e4, W4, st4⟩ := stR X2 hx hZ e2 Ar3 (j := (0 : Int32)) hin3 rfl (Sto.ofV Ar3 qk3 ov_b1 (Ins.self (E_n2.ext O1.2))) (g := (mkF m 9 #[.val (.int p1), .unset, .unset, .unset, .unset, .unset] [(.ref w_n2), (.int (0 : Int32)), (.ref b1), (.ref b1)])) rfl rfl (hb hby at_9)
  have fw4 : Arv Z h4 b1 k1 (.object "com/example/nandi/nandi/proto/EventType") (4 : Int32) [(.ref w_n2), .null, .null, .null] .null := Arv.set Ar3 qk3 Sz3 Nz3 Hs3 Gs3 rfl W4 0 rfl (Nat.le_of_ble_eq_true rfl)
  have f4_0 : Exa Z h4 b1 "[Lcom/example/nandi/nandi/proto/EventType;" := (B1).wr W4
  have O4 := O1.wr W4 g_b1
  have N4 := Fr.snoc X4 N0 g_b1
  obtain ⟨T5, X5, e5, st5⟩ := getS2 X4 hx hZ hown (host := "") (Or.inl (hw _ (List.mem_of_getElem? (i := 6) rfl))) Via.refl e4 (S_n3.ext O4.2) (g := (mkF m 12 #[.val (.int p1), .unset, .unset, .unset, .unset, .unset] [(.int (1 : Int32)), (.ref b1), (.ref b1)])) rfl (hb hby at_12)
  obtain ⟨cl6, Ar6, qk6, Sz6, Nz6, Hs6, Gs6⟩ := fw4
  have hin6 : ¬ ((1 : Int32) < 0 ∨ cl6.slots.size ≤ ((1 : Int32)).toNatClampNeg) := inb_of Sz6 ⟨by decide, by decide⟩
  obtain ⟨T7, h7, X7, e7, W7, st7⟩ := stR X5 hx hZ e5 Ar6 (j := (1 : Int32)) hin6 rfl (Sto.ofV Ar6 qk6 ov_b1 (Ins.self (E_n3.ext O4.2))) (g := (mkF m 15 #[.val (.int p1), .unset, .unset, .unset, .unset, .unset] [(.ref w_n3), (.int (1 : Int32)), (.ref b1), (.ref b1)])) rfl rfl (hb hby at_15)
  have fw7 : Arv Z h7 b1 k1 (.object "com/example/nandi/nandi/proto/EventType") (4 : Int32) [(.ref w_n2), (.ref w_n3), .null, .null] .null := Arv.set Ar6 qk6 Sz6 Nz6 Hs6 Gs6 rfl W7 1 rfl (Nat.le_of_ble_eq_true rfl)
  have f7_0 : Exa Z h7 b1 "[Lcom/example/nandi/nandi/proto/EventType;" := (f4_0).wr W7
  have O7 := O4.wr W7 g_b1
  have N7 := Fr.snoc X7 N4 g_b1
  obtain ⟨T8, X8, e8, st8⟩ := getS2 X7 hx hZ hown (host := "") (Or.inl (hw _ (List.mem_of_getElem? (i := 8) rfl))) Via.refl e7 (S_n1.ext O7.2) (g := (mkF m 18 #[.val (.int p1), .unset, .unset, .unset, .unset, .unset] [(.int (2 : Int32)), (.ref b1), (.ref b1)])) rfl (hb hby at_18)
  obtain ⟨cl9, Ar9, qk9, Sz9, Nz9, Hs9, Gs9⟩ := fw7
  have hin9 : ¬ ((2 : Int32) < 0 ∨ cl9.slots.size ≤ ((2 : Int32)).toNatClampNeg) := inb_of Sz9 ⟨by decide, by decide⟩
  obtain ⟨T10, h10, X10, e10, W10, st10⟩ := stR X8 hx hZ e8 Ar9 (j := (2 : Int32)) hin9 rfl (Sto.ofV Ar9 qk9 ov_b1 (Ins.self (E_n1.ext O7.2))) (g := (mkF m 21 #[.val (.int p1), .unset, .unset, .unset, .unset, .unset] [(.ref w_n1), (.int (2 : Int32)), (.ref b1), (.ref b1)])) rfl rfl (hb hby at_21)
  have fw10 : Arv Z h10 b1 k1 (.object "com/example/nandi/nandi/proto/EventType") (4 : Int32) [(.ref w_n2), (.ref w_n3), (.ref w_n1), .null] .null := Arv.set Ar9 qk9 Sz9 Nz9 Hs9 Gs9 rfl W10 2 rfl (Nat.le_of_ble_eq_true rfl)
  have f10_0 : Exa Z h10 b1 "[Lcom/example/nandi/nandi/proto/EventType;" := (f7_0).wr W10
  have O10 := O7.wr W10 g_b1
  have N10 := Fr.snoc X10 N7 g_b1
  obtain ⟨T11, X11, e11, st11⟩ := getS2 X10 hx hZ hown (host := "") (Or.inl (hw _ (List.mem_of_getElem? (i := 10) rfl))) Via.refl e10 (S_n0.ext O10.2) (g := (mkF m 24 #[.val (.int p1), .unset, .unset, .unset, .unset, .unset] [(.int (3 : Int32)), (.ref b1), (.ref b1)])) rfl (hb hby at_24)
  obtain ⟨cl12, Ar12, qk12, Sz12, Nz12, Hs12, Gs12⟩ := fw10
  have hin12 : ¬ ((3 : Int32) < 0 ∨ cl12.slots.size ≤ ((3 : Int32)).toNatClampNeg) := inb_of Sz12 ⟨by decide, by decide⟩
  obtain ⟨T13, h13, X13, e13, W13, st13⟩ := stR X11 hx hZ e11 Ar12 (j := (3 : Int32)) hin12 rfl (Sto.ofV Ar12 qk12 ov_b1 (Ins.self (E_n0.ext O10.2))) (g := (mkF m 27 #[.val (.int p1), .unset, .unset, .unset, .unset, .unset] [(.ref w_n0), (.int (3 : Int32)), (.ref b1), (.ref b1)])) rfl rfl (hb hby at_27)
  have fw13 : Arv Z h13 b1 k1 (.object "com/example/nandi/nandi/proto/EventType") (4 : Int32) [(.ref w_n2), (.ref w_n3), (.ref w_n1), (.ref w_n0)] .null := Arv.set Ar12 qk12 Sz12 Nz12 Hs12 Gs12 rfl W13 3 rfl (Nat.le_of_ble_eq_true rfl)
  have f13_0 : Exa Z h13 b1 "[Lcom/example/nandi/nandi/proto/EventType;" := (f10_0).wr W13
  have O13 := O10.wr W13 g_b1
  have N13 := Fr.snoc X13 N10 g_b1
  obtain ⟨cl14, Ar14, qk14, Sz14, Nz14, Hs14, Gs14⟩ := fw13
  have hin14 : ¬ ((3 : Int32) < 0 ∨ cl14.slots.size ≤ ((3 : Int32)).toNatClampNeg) := inb_of Sz14 ⟨by decide, by decide⟩
  have hat14 : cl14.slots[((3 : Int32)).toNatClampNeg]? = some (.ref w_n0) := Has.at Hs14 hin14 rfl
  obtain ⟨cq15, kq15, q15a, q15b, q15c⟩ := isOf hZ e13 (E_n0.ext O13.2)
  obtain ⟨_, _, ⟨T15, L15, k15, n15⟩, -, X15, ⟨Lc15, hQ15, l15, y15, z15⟩, st15⟩ := X13.virtualBack hx (y := (⟨"com/example/nandi/nandi/proto/EventType", "firesChildWatches", "()Z"⟩ : MethodName)) (z := (⟨"com/example/nandi/nandi/proto/EventType", "firesChildWatches", "()Z"⟩ : MethodName)) hown (mvT hZ (hw _ (List.mem_of_getElem? (i := 12) rfl))) (mvT hZ (hw _ (List.mem_of_getElem? (i := 13) rfl))) (notFace_of_selects (args := #[]) (mvT hZ (hw _ (List.mem_of_getElem? (i := 15) rfl)))) (mvT hZ (hw _ (List.mem_of_getElem? (i := 15) rfl))) (mvT hZ (hw _ (List.mem_of_getElem? (i := 14) rfl))) (by decide) (backOf (W := 0) (rm1_CHILDREN_CHANGED l Z a0 hw [] W  h13 n0 O13 ) hZ (hw _ (List.mem_of_getElem? (i := 16) rfl)) (hw _ (List.mem_of_getElem? (i := 3) rfl)) (by decide) (by decide)) q15a q15c (g := (mkF m 55 #[.val (.int p1), .val (.ref b1), .val (.int (3 : Int32)), .val (.ref w_n0), .val (.int (1 : Int32)), .unset] [(.ref w_n0)])) rfl (by rw [hml]; rfl) (Steps.refl _) (argsL := []) (rest := []) (lenOf pd_0 rfl) rfl (by show 2 * 0 + _ ≤ _; exact Nat.le_of_eq rfl) (hb hby at_55) (fun _ _ => ⟨rfl, e13, (by decide : 1 + 0 ≤ _), (by decide : 4 + 0 ≤ _)⟩)
  dsimp only [Pt.U, Pt.locs, Pt.cells, Pt.slots] at X15 l15 y15 z15 st15 hQ15
  subst l15 y15 z15
  obtain ⟨rfl, N15q, e15⟩ := hQ15
  have N15 := Fr.app N13 N15q
  obtain ⟨fs, hr, hrun, hended, hW, hsame⟩ := X15.leave (v := some (.int (1 : Int32))) (fun h => by rw [Bd.returns] at h; cases h)
  refine ⟨_, _, pre0 _ ?_, hrun, hended, _, _, rfl, ?_, ⟨_, rfl⟩, hW, hsame.mono (by decide) (by decide)⟩
  · show Steps p.tables e below (s₁.setTop (mkF m 0 #[.val (.int p1), .unset, .unset, .unset, .unset, .unset] [])) _
    refine XS.iconst X0.here hx rfl (hb hby at_0) ?_
    show Steps p.tables e below (s₁.setTop (mkF m 1 #[.val (.int p1), .unset, .unset, .unset, .unset, .unset] [(.int (4 : Int32))])) _
    refine st1 _ ?_
    show Steps p.tables e below (T1.setTop (mkF m 4 #[.val (.int p1), .unset, .unset, .unset, .unset, .unset] [(.ref b1)])) _
    refine XS.dup X1.here hx rfl (hb hby at_4) rfl rfl ?_
    show Steps p.tables e below (T1.setTop (mkF m 5 #[.val (.int p1), .unset, .unset, .unset, .unset, .unset] [(.ref b1), (.ref b1)])) _
    refine XS.iconst X1.here hx rfl (hb hby at_5) ?_
    show Steps p.tables e below (T1.setTop (mkF m 6 #[.val (.int p1), .unset, .unset, .unset, .unset, .unset] [(.int (0 : Int32)), (.ref b1), (.ref b1)])) _
    refine st2 _ ?_
    show Steps p.tables e below (T2.setTop (mkF m 9 #[.val (.int p1), .unset, .unset, .unset, .unset, .unset] [(.ref w_n2), (.int (0 : Int32)), (.ref b1), (.ref b1)])) _
    refine st4 _ ?_
    show Steps p.tables e below (T4.setTop (mkF m 10 #[.val (.int p1), .unset, .unset, .unset, .unset, .unset] [(.ref b1)])) _
    refine XS.dup X4.here hx rfl (hb hby at_10) rfl rfl ?_
    show Steps p.tables e below (T4.setTop (mkF m 11 #[.val (.int p1), .unset, .unset, .unset, .unset, .unset] [(.ref b1), (.ref b1)])) _
    refine XS.iconst X4.here hx rfl (hb hby at_11) ?_
    show Steps p.tables e below (T4.setTop (mkF m 12 #[.val (.int p1), .unset, .unset, .unset, .unset, .unset] [(.int (1 : Int32)), (.ref b1), (.ref b1)])) _
    refine st5 _ ?_
    show Steps p.tables e below (T5.setTop (mkF m 15 #[.val (.int p1), .unset, .unset, .unset, .unset, .unset] [(.ref w_n3), (.int (1 : Int32)), (.ref b1), (.ref b1)])) _
    refine st7 _ ?_
    show Steps p.tables e below (T7.setTop (mkF m 16 #[.val (.int p1), .unset, .unset, .unset, .unset, .unset] [(.ref b1)])) _
    refine XS.dup X7.here hx rfl (hb hby at_16) rfl rfl ?_
    show Steps p.tables e below (T7.setTop (mkF m 17 #[.val (.int p1), .unset, .unset, .unset, .unset, .unset] [(.ref b1), (.ref b1)])) _
    refine XS.iconst X7.here hx rfl (hb hby at_17) ?_
    show Steps p.tables e below (T7.setTop (mkF m 18 #[.val (.int p1), .unset, .unset, .unset, .unset, .unset] [(.int (2 : Int32)), (.ref b1), (.ref b1)])) _
    refine st8 _ ?_
    show Steps p.tables e below (T8.setTop (mkF m 21 #[.val (.int p1), .unset, .unset, .unset, .unset, .unset] [(.ref w_n1), (.int (2 : Int32)), (.ref b1), (.ref b1)])) _
    refine st10 _ ?_
    show Steps p.tables e below (T10.setTop (mkF m 22 #[.val (.int p1), .unset, .unset, .unset, .unset, .unset] [(.ref b1)])) _
    refine XS.dup X10.here hx rfl (hb hby at_22) rfl rfl ?_
    show Steps p.tables e below (T10.setTop (mkF m 23 #[.val (.int p1), .unset, .unset, .unset, .unset, .unset] [(.ref b1), (.ref b1)])) _
    refine XS.iconst X10.here hx rfl (hb hby at_23) ?_
    show Steps p.tables e below (T10.setTop (mkF m 24 #[.val (.int p1), .unset, .unset, .unset, .unset, .unset] [(.int (3 : Int32)), (.ref b1), (.ref b1)])) _
    refine st11 _ ?_
    show Steps p.tables e below (T11.setTop (mkF m 27 #[.val (.int p1), .unset, .unset, .unset, .unset, .unset] [(.ref w_n0), (.int (3 : Int32)), (.ref b1), (.ref b1)])) _
    refine st13 _ ?_
    show Steps p.tables e below (T13.setTop (mkF m 28 #[.val (.int p1), .unset, .unset, .unset, .unset, .unset] [(.ref b1)])) _
    refine XS.astoreN X13.here hx rfl (hb hby at_28) rfl rfl (l' := #[.val (.int p1), .val (.ref b1), .unset, .unset, .unset, .unset]) rfl ?_
    show Steps p.tables e below (T13.setTop (mkF m 29 #[.val (.int p1), .val (.ref b1), .unset, .unset, .unset, .unset] [])) _
    refine XS.iloadN X13.here hx rfl (hb hby at_29) rfl ?_
    show Steps p.tables e below (T13.setTop (mkF m 30 #[.val (.int p1), .val (.ref b1), .unset, .unset, .unset, .unset] [(.int p1)])) _
    refine XS.iconst X13.here hx rfl (hb hby at_30) ?_
    show Steps p.tables e below (T13.setTop (mkF m 31 #[.val (.int p1), .val (.ref b1), .unset, .unset, .unset, .unset] [(.int (3 : Int32)), (.int p1)])) _
    refine XS.iand X13.here hx rfl (hb hby at_31) rfl ?_
    show Steps p.tables e below (T13.setTop (mkF m 32 #[.val (.int p1), .val (.ref b1), .unset, .unset, .unset, .unset] [(.int (p1 &&& (3 : Int32)))])) _
    rw [hk]
    show Steps p.tables e below (T13.setTop (mkF m 32 #[.val (.int p1), .val (.ref b1), .unset, .unset, .unset, .unset] [(.int (3 : Int32))])) _
    refine XS.istoreN X13.here hx rfl (hb hby at_32) rfl (l' := #[.val (.int p1), .val (.ref b1), .val (.int (3 : Int32)), .unset, .unset, .unset]) rfl ?_
    show Steps p.tables e below (T13.setTop (mkF m 33 #[.val (.int p1), .val (.ref b1), .val (.int (3 : Int32)), .unset, .unset, .unset] [])) _
    refine XS.aloadN X13.here hx rfl (hb hby at_33) rfl rfl ?_
    show Steps p.tables e below (T13.setTop (mkF m 34 #[.val (.int p1), .val (.ref b1), .val (.int (3 : Int32)), .unset, .unset, .unset] [(.ref b1)])) _
    refine XS.iloadN X13.here hx rfl (hb hby at_34) rfl ?_
    show Steps p.tables e below (T13.setTop (mkF m 35 #[.val (.int p1), .val (.ref b1), .val (.int (3 : Int32)), .unset, .unset, .unset] [(.int (3 : Int32)), (.ref b1)])) _
    refine X13.aaload hx (j := (3 : Int32)) (v := (.ref w_n0)) (by rw [e13]; exact Ar14.1) (State.isArrayOf_alike hZ.alike Ar14.2.1) rfl Ar14.2.2 hin14 hat14 (g := (mkF m 35 #[.val (.int p1), .val (.ref b1), .val (.int (3 : Int32)), .unset, .unset, .unset] [(.int (3 : Int32)), (.ref b1)])) rfl rfl (hb hby at_35) _ ?_
    show Steps p.tables e below (T13.setTop (mkF m 36 #[.val (.int p1), .val (.ref b1), .val (.int (3 : Int32)), .unset, .unset, .unset] [(.ref w_n0)])) _
    refine XS.astoreN X13.here hx rfl (hb hby at_36) rfl rfl (l' := #[.val (.int p1), .val (.ref b1), .val (.int (3 : Int32)), .val (.ref w_n0), .unset, .unset]) rfl ?_
    show Steps p.tables e below (T13.setTop (mkF m 37 #[.val (.int p1), .val (.ref b1), .val (.int (3 : Int32)), .val (.ref w_n0), .unset, .unset] [])) _
    refine XS.iloadN X13.here hx rfl (hb hby at_37) rfl ?_
    show Steps p.tables e below (T13.setTop (mkF m 38 #[.val (.int p1), .val (.ref b1), .val (.int (3 : Int32)), .val (.ref w_n0), .unset, .unset] [(.int (3 : Int32))])) _
    refine XS.iconst X13.here hx rfl (hb hby at_38) ?_
    show Steps p.tables e below (T13.setTop (mkF m 39 #[.val (.int p1), .val (.ref b1), .val (.int (3 : Int32)), .val (.ref w_n0), .unset, .unset] [(.int (1 : Int32)), (.int (3 : Int32))])) _
    refine XS.icmpNo X13.here hx rfl (hb hby at_39) rfl (feq ((by decide) : ¬ ((3 : Int32) = (1 : Int32)))).1 ?_
    show Steps p.tables e below (T13.setTop (mkF m 42 #[.val (.int p1), .val (.ref b1), .val (.int (3 : Int32)), .val (.ref w_n0), .unset, .unset] [])) _
    refine XS.iloadN X13.here hx rfl (hb hby at_42) rfl ?_
    show Steps p.tables e below (T13.setTop (mkF m 43 #[.val (.int p1), .val (.ref b1), .val (.int (3 : Int32)), .val (.ref w_n0), .unset, .unset] [(.int (3 : Int32))])) _
    refine XS.iconst X13.here hx rfl (hb hby at_43) ?_
    show Steps p.tables e below (T13.setTop (mkF m 44 #[.val (.int p1), .val (.ref b1), .val (.int (3 : Int32)), .val (.ref w_n0), .unset, .unset] [(.int (3 : Int32)), (.int (3 : Int32))])) _
    refine XS.icmpNo X13.here hx rfl (hb hby at_44) rfl (teq ((by decide) : (3 : Int32) = (3 : Int32))).2 ?_
    show Steps p.tables e below (T13.setTop (mkF m 47 #[.val (.int p1), .val (.ref b1), .val (.int (3 : Int32)), .val (.ref w_n0), .unset, .unset] [])) _
    refine XS.iconst X13.here hx rfl (hb hby at_47) ?_
    show Steps p.tables e below (T13.setTop (mkF m 48 #[.val (.int p1), .val (.ref b1), .val (.int (3 : Int32)), .val (.ref w_n0), .unset, .unset] [(.int (1 : Int32))])) _
    refine XS.goto X13.here hx rfl (pc0 := 48) (pc' := 52) rfl (hb hby at_48) (by decide) (by decide) ?_
    show Steps p.tables e below (T13.setTop (mkF m 52 #[.val (.int p1), .val (.ref b1), .val (.int (3 : Int32)), .val (.ref w_n0), .unset, .unset] [(.int (1 : Int32))])) _
    refine XS.istore X13.here hx rfl (hb hby at_52) rfl (l' := #[.val (.int p1), .val (.ref b1), .val (.int (3 : Int32)), .val (.ref w_n0), .val (.int (1 : Int32)), .unset]) rfl ?_
    show Steps p.tables e below (T13.setTop (mkF m 54 #[.val (.int p1), .val (.ref b1), .val (.int (3 : Int32)), .val (.ref w_n0), .val (.int (1 : Int32)), .unset] [])) _
    refine XS.aloadN X13.here hx rfl (hb hby at_54) rfl rfl ?_
    show Steps p.tables e below (T13.setTop (mkF m 55 #[.val (.int p1), .val (.ref b1), .val (.int (3 : Int32)), .val (.ref w_n0), .val (.int (1 : Int32)), .unset] [(.ref w_n0)])) _
    refine st15.trans ?_
    show Steps p.tables e below (T15.setTop (mkF m 58 #[.val (.int p1), .val (.ref b1), .val (.int (3 : Int32)), .val (.ref w_n0), .val (.int (1 : Int32)), .unset] [(.int (1 : Int32))])) _
    refine XS.istore X15.here hx rfl (hb hby at_58) rfl (l' := #[.val (.int p1), .val (.ref b1), .val (.int (3 : Int32)), .val (.ref w_n0), .val (.int (1 : Int32)), .val (.int (1 : Int32))]) rfl ?_
    show Steps p.tables e below (T15.setTop (mkF m 60 #[.val (.int p1), .val (.ref b1), .val (.int (3 : Int32)), .val (.ref w_n0), .val (.int (1 : Int32)), .val (.int (1 : Int32))] [])) _
    refine XS.iload X15.here hx rfl (hb hby at_60) rfl ?_
    show Steps p.tables e below (T15.setTop (mkF m 62 #[.val (.int p1), .val (.ref b1), .val (.int (3 : Int32)), .val (.ref w_n0), .val (.int (1 : Int32)), .val (.int (1 : Int32))] [(.int (1 : Int32))])) _
    refine XS.iload X15.here hx rfl (hb hby at_62) rfl ?_
    show Steps p.tables e below (T15.setTop (mkF m 64 #[.val (.int p1), .val (.ref b1), .val (.int (3 : Int32)), .val (.ref w_n0), .val (.int (1 : Int32)), .val (.int (1 : Int32))] [(.int (1 : Int32)), (.int (1 : Int32))])) _
    refine XS.icmpNo X15.here hx rfl (hb hby at_64) rfl (teq ((by decide) : (1 : Int32) = (1 : Int32))).2 ?_
    show Steps p.tables e below (T15.setTop (mkF m 67 #[.val (.int p1), .val (.ref b1), .val (.int (3 : Int32)), .val (.ref w_n0), .val (.int (1 : Int32)), .val (.int (1 : Int32))] [])) _
    refine XS.iload X15.here hx rfl (hb hby at_67) rfl ?_
    show Steps p.tables e below (T15.setTop (mkF m 69 #[.val (.int p1), .val (.ref b1), .val (.int (3 : Int32)), .val (.ref w_n0), .val (.int (1 : Int32)), .val (.int (1 : Int32))] [(.int (1 : Int32))])) _
    refine XS.ifYes X15.here hx rfl (pc0 := 69) (pc' := 79) rfl (hb hby at_69) rfl ((if0 _ _).trans (feq ((by decide) : ¬ ((1 : Int32) = (0 : Int32)))).2) (by decide) (by decide) ?_
    show Steps p.tables e below (T15.setTop (mkF m 79 #[.val (.int p1), .val (.ref b1), .val (.int (3 : Int32)), .val (.ref w_n0), .val (.int (1 : Int32)), .val (.int (1 : Int32))] [])) _
    refine XS.iconst X15.here hx rfl (hb hby at_79) ?_
    show Steps p.tables e below (T15.setTop (mkF m 80 #[.val (.int p1), .val (.ref b1), .val (.int (3 : Int32)), .val (.ref w_n0), .val (.int (1 : Int32)), .val (.int (1 : Int32))] [(.int (1 : Int32))])) _
    refine XS.goto X15.here hx rfl (pc0 := 80) (pc' := 84) rfl (hb hby at_80) (by decide) (by decide) ?_
    show Steps p.tables e below (T15.setTop (mkF m 84 #[.val (.int p1), .val (.ref b1), .val (.int (3 : Int32)), .val (.ref w_n0), .val (.int (1 : Int32)), .val (.int (1 : Int32))] [(.int (1 : Int32))])) _
    exact retN X15 hx (t := .boolean) Bd.returns (by simp) (hb hby at_84) hr
  · show Q0 n0 _ T15.heap _
    rw [e15]
    exact ⟨rfl, N15⟩
theorem rm0 (l : Launch) (Z : State) (a0 : Array Value) (hw : ∀ d ∈ tables_1, d.before a0 Z = true) (ws : List Jvm.Cond) {w_n2 : Addr} {w_n3 : Addr} {w_n1 : Addr} {w_n0 : Addr} (W : Wd Z w_n2 w_n3 w_n1 w_n0) (p1 : Int32) (h0 : Heap) (n0 : Nat) (O0 : Old Z n0 h0) :
    MetFree l x (head1 (Jvm.Cond.code x code maxLocals ret :: ws) room_1) (fun a U => a = #[(.int p1)] ∧ Z.Warmed39 U.vm ∧ U.heap = h0) (fun _ _ _ _ _ => True) (fun _ U o U' => ∃ v L, o = .returned v ∧ Q0 n0 v U'.heap L ∧ FrameEnd U o U' L room_1.cells room_1.slots) := by
  have e : (p1 &&& (3 : Int32)).toInt = p1.toInt % (2 ^ 2 : Nat) := c_mask p1 3 2 (by decide) (by decide)
  have c : (p1 &&& (3 : Int32)) = (0 : Int32) ∨ (p1 &&& (3 : Int32)) = (1 : Int32) ∨ (p1 &&& (3 : Int32)) = (2 : Int32) ∨ (p1 &&& (3 : Int32)) = (3 : Int32) := by
    simp only [← Int32.toInt_inj]
    have q0 : (0 : Int32).toInt = 0 := rfl
    have q1 : (1 : Int32).toInt = 1 := rfl
    have q2 : (2 : Int32).toInt = 2 := rfl
    have q3 : (3 : Int32).toInt = 3 := rfl
    omega
  rcases c with h | h | h | h
  · exact rm0_0 l Z a0 hw ws W p1 h0 n0 O0 h
  · exact rm0_1 l Z a0 hw ws W p1 h0 n0 O0 h
  · exact rm0_2 l Z a0 hw ws W p1 h0 n0 O0 h
  · exact rm0_3 l Z a0 hw ws W p1 h0 n0 O0 h
set_option maxRecDepth 65536 in
set_option maxHeartbeats 40000000 in
theorem comes_1 {Post : Tables → Env → Array Value → State → Outcome → State → Prop} (hpost : ∀ tb e args s v u, (limb_1_1.after args s (.returned v) u = true ∧ limb_1_2.after args s (.returned v) u = true ∧ True) → FrameEnd s (.returned v) u (Jvm.fieldLocs frame_1_writes args s ++ Jvm.arrayLocs frame_1_arrays args s ++ Jvm.staticLocs frame_1_statics s) 16 128 → Post tb e args s (.returned v) u) :
    ArmFor flags0 classFile x code maxLocals ret World_1 tables_1 room_1 Calls_1 rest_1 Pre_1 Post := by
  intro l hfl _ _ p e ha hc hk s m args below hf hA hF happ hP
  obtain ⟨hcalls, hrest, hpre⟩ := hP
  obtain ⟨-, -, -, hnamed, -, -, -, hat⟩ := (Spec.applies_iff hf).mp happ
  obtain ⟨hg, hn⟩ := and_e (Cond.before_iff.mp (show (Jvm.Cond.and given_1 narrow_1).before args s = true from hpre))
  obtain ⟨g0, r0⟩ := and_e hg
  have g1 := r0
  obtain ⟨w0, rfl⟩ : ∃ w0 : Value, args = #[w0] := by
    have hs : args.size = 1 := by simpa [Cond.value, given_1] using g0
    obtain ⟨L⟩ := args
    match L, hs with
    | [w0], _ => exact ⟨w0, rfl⟩
  have hw := fun d (hd : d ∈ tables_1) => atoms_spec (ws := Jvm.Cond.code x code maxLocals ret :: tables_1) hat d (List.mem_cons_of_mem _ hd)
  have hfit : Fit s := fun {y c} hc i hi => by
    obtain ⟨ha, rfl⟩ := Array.getElem?_eq_some_iff.mp hc
    have q := List.all_eq_true.mp ((Array.all_eq_true_iff_forall_mem.mp hF) _ (Array.getElem_mem ha)) i (List.mem_range.mpr hi)
    simpa [Array.getElem?_eq_getElem hi] using q
  obtain ⟨i0, ei0⟩ := is_v g1
  obtain rfl : w0 = (.int i0) := Option.some.inj ei0
  obtain ⟨w_n2, w_n3, w_n1, w_n0, W⟩ := wd_start hfit hw hn
  obtain ⟨n, o, h1, h2, h3, _, L, rfl, ⟨rfl, N⟩, hq⟩ := rm0 l s _ hw tables_1 W i0 s.heap s.heap.size (Old.start s) p e ha hc hk s m _ below hf ((Spec.applies_iff_loose hf).mp happ).1 ⟨rfl, State.Warmed39.refl s, rfl⟩ trivial
  refine ⟨n, _, h1, h2, h3, hpost _ _ _ _ _ _ ⟨Cond.after_iff.mpr rfl, Cond.after_iff.mpr (eq_i res_at (Term.int_eval (1)) rfl), trivial⟩ ⟨hq.1, hq.2.1, (hq.2.2.sift fun y hy => Or.inr (N y hy)).mono (by decide) (by decide)⟩⟩
theorem main_1_1 : Claimed_1_1 := comes_1 fun _ _ _ _ _ _ h hF => ⟨h.1, hF⟩
theorem main_1_2 : Claimed_1_2 := comes_1 fun _ _ _ _ _ _ h hF => ⟨h.2.1, hF⟩
end Jvm.Pilot.@@N@@
namespace Jvm.Pilot.@@N@@
open Jvm Jvm.ClassFile Sem Op Lib Jvm.Free Jvm.Stand Jvm.Pilot.@@N@@.Jvm.D
/-! MADE BY PROGRAM (witnessworld.py) out of the Statement's table words and the real class files: 13 classes; the members and pool entries that the words name. The judged class is class 1, her method 1. -/
namespace start1
open Jvm.ClassFile
def u (s : String) : CpInfo := .utf8 (stringToUtf16 s)
/-- a pool by its gaps: so many unusable entries, then the entry; so many at the end -/
def gap : Nat → List CpInfo → List CpInfo
  | 0, r => r
  | n + 1, r => .unusable :: gap n r
def poolList (es : List (Nat × CpInfo)) (last : Nat) : List CpInfo := es.foldr (fun e r => gap e.1 (e.2 :: r)) (gap last [])
def pool (es : List (Nat × CpInfo)) (last : Nat) : Array CpInfo := ⟨poolList es last⟩
def fileOf (pool : Array CpInfo) (this : Nat) (attrs : Array Attribute := #[]) (ms : Array MethodInfo := #[]) (fl : Nat := 33) (sup : Nat := 0) (ifs : Array Nat := #[]) (fds : Array FieldInfo := #[]) : ClassFile where
  minorVersion := 0
  majorVersion := 65
  constantPool := pool
  accessFlags := fl
  thisClass := this
  superClass := sup
  interfaces := ifs
  fields := fds
  methods := ms
  attributes := attrs
def plain (name : String) (sup : Option ClassId) : Class where
  name := name
  kind := .ordinary
  loader := none
  accessFlags := 33
  super := sup
  interfaces := #[]
  cf := none
  fields := #[]
  methods := #[]
  instanceTypes := #[]
  staticTypes := #[]
  resolved := #[]
  callSites := []
  init := .initialized
  statics := none
  mirror := none

def pool0 : Array CpInfo := pool [(5, u "<init>"), (0, u "()V"), (1, .class_ 10), (1, u "java/lang/Object")] 113

def k0m0 : Method := { name := "<init>", desc := "()V", sig := { parameters := [], returnType := none }, accessFlags := 1, code := none }
/-- java/lang/Object -/
def k0 : Class := { plain "java/lang/Object" none with
  accessFlags := 33
  interfaces := #[]
  cf := some (fileOf pool0 8 #[] #[{ accessFlags := 1, nameIndex := 5, descriptorIndex := 6, attributes := #[] }] 33 0 #[] #[])
  fields := #[]
  methods := #[k0m0]
  instanceTypes := #[]
  staticTypes := #[]
  resolved := Array.replicate 124 none
  statics := none }

def pool1 : Array CpInfo := pool [(2, .class_ 4), (1, u "java/lang/Object"), (0, u "<init>"), (0, u "()V"), (0, .class_ 8), (0, u "com/example/nandi/nandi/proto/EventType"), (0, .fieldref 7 10), (0, .nameAndType 11 12), (0, u "CREATED"), (0, u "Lcom/example/nandi/nandi/proto/EventType;"), (0, .fieldref 7 14), (0, .nameAndType 15 12), (0, u "DELETED"), (0, .fieldref 7 17), (0, .nameAndType 18 12), (0, u "CHANGED"), (0, .fieldref 7 20), (0, .nameAndType 21 12), (0, u "CHILDREN_CHANGED"), (0, .methodref 7 23), (0, .nameAndType 24 25), (0, u "firesChildWatches"), (0, u "()Z"), (0, .methodref 7 27), (0, .nameAndType 28 25), (0, u "firesDataWatches"), (0, .class_ 30), (0, u "com/example/nandi/nandi/proto/EventTypeFiresChildWatchesPinLaw"), (2, u "law"), (0, u "(I)Z")] 5

def k1m0 : Method := { name := "<init>", desc := "()V", sig := { parameters := [], returnType := none }, accessFlags := 1, code := none }
def k1c1 : Code := { maxStack := 4, maxLocals := 6, code := code, exceptionTable := #[], attributes := #[] }
def k1m1 : Method := { name := "law", desc := "(I)Z", sig := { parameters := [.int], returnType := some .boolean }, accessFlags := 9, code := some k1c1 }
/-- com/example/nandi/nandi/proto/EventTypeFiresChildWatchesPinLaw -/
def k1 : Class := { plain "com/example/nandi/nandi/proto/EventTypeFiresChildWatchesPinLaw" (some 0) with
  accessFlags := 49
  interfaces := #[]
  cf := some (fileOf pool1 29 #[] #[{ accessFlags := 1, nameIndex := 5, descriptorIndex := 6, attributes := #[] }, { accessFlags := 9, nameIndex := 33, descriptorIndex := 34, attributes := #[] }] 49 2 #[] #[])
  fields := #[]
  methods := #[k1m0, k1m1]
  instanceTypes := #[]
  staticTypes := #[]
  resolved := Array.replicate 40 none
  statics := none }

def pool2 : Array CpInfo := pool [(1, .class_ 2), (0, u "java/lang/constant/Constable"), (0, .class_ 4), (0, u "java/lang/Object")] 6

/-- java/lang/constant/Constable -/
def k2 : Class := { plain "java/lang/constant/Constable" (some 0) with
  accessFlags := 1537
  interfaces := #[]
  cf := some (fileOf pool2 1 #[] #[] 1537 3 #[] #[])
  fields := #[]
  methods := #[]
  instanceTypes := #[]
  staticTypes := #[]
  resolved := Array.replicate 11 none
  statics := none }

def pool3 : Array CpInfo := pool [(1, .class_ 2), (0, u "java/lang/Comparable"), (0, .class_ 4), (0, u "java/lang/Object")] 7

/-- java/lang/Comparable -/
def k3 : Class := { plain "java/lang/Comparable" (some 0) with
  accessFlags := 1537
  interfaces := #[]
  cf := some (fileOf pool3 1 #[] #[] 1537 3 #[] #[])
  fields := #[]
  methods := #[]
  instanceTypes := #[]
  staticTypes := #[]
  resolved := Array.replicate 12 none
  statics := none }

def pool4 : Array CpInfo := pool [(1, .class_ 2), (0, u "java/io/Serializable"), (0, .class_ 4), (0, u "java/lang/Object")] 2

/-- java/io/Serializable -/
def k4 : Class := { plain "java/io/Serializable" (some 0) with
  accessFlags := 1537
  interfaces := #[]
  cf := some (fileOf pool4 1 #[] #[] 1537 3 #[] #[])
  fields := #[]
  methods := #[]
  instanceTypes := #[]
  staticTypes := #[]
  resolved := Array.replicate 7 none
  statics := none }

def pool5 : Array CpInfo := pool [(2, .class_ 4), (1, u "java/lang/Enum"), (0, u "name"), (0, u "Ljava/lang/String;"), (2, u "ordinal"), (0, u "I"), (1, .class_ 14), (1, u "java/lang/Object"), (4, u "hash"), (86, .class_ 108), (1, u "java/lang/Enum$EnumDesc"), (2, .class_ 112), (0, u "java/lang/constant/Constable"), (0, .class_ 114), (0, u "java/lang/Comparable"), (0, .class_ 116), (0, u "java/io/Serializable")] 87

/-- java/lang/Enum -/
def k5 : Class := { plain "java/lang/Enum" (some 0) with
  accessFlags := 1057
  interfaces := #[2, 3, 4]
  cf := some (fileOf pool5 2 #[.nestMembers #[106]] #[] 1057 12 #[111, 113, 115] #[{ accessFlags := 18, nameIndex := 5, descriptorIndex := 6, attributes := #[] }, { accessFlags := 18, nameIndex := 9, descriptorIndex := 10, attributes := #[] }, { accessFlags := 2, nameIndex := 19, descriptorIndex := 10, attributes := #[] }])
  fields := #[{ name := "name", type := (.object "java/lang/String"), accessFlags := 18, slot := 0, constantValue := 0 }, { name := "ordinal", type := .int, accessFlags := 18, slot := 1, constantValue := 0 }, { name := "hash", type := .int, accessFlags := 2, slot := 2, constantValue := 0 }]
  methods := #[]
  instanceTypes := #[(.object "java/lang/String"), .int, .int]
  staticTypes := #[]
  resolved := Array.replicate 204 none
  statics := none }

def pool6 : Array CpInfo := pool [(1, .class_ 2), (0, u "com/example/nandi/nandi/proto/EventType"), (2, u "CREATED"), (0, u "Lcom/example/nandi/nandi/proto/EventType;"), (0, .fieldref 1 8), (0, .nameAndType 9 6), (0, u "DELETED"), (2, u "CHANGED"), (0, .fieldref 1 14), (0, .nameAndType 15 6), (0, u "CHILDREN_CHANGED"), (2, u "$VALUES"), (0, u "[Lcom/example/nandi/nandi/proto/EventType;"), (6, .class_ 28), (1, u "java/lang/Enum"), (8, u "code"), (0, u "I"), (33, u "firesDataWatches"), (0, u "()Z"), (0, u "firesChildWatches")] 20

def k6c0 : Code := { maxStack := 2, maxLocals := 1, code := prog_29_method_6_code, exceptionTable := #[], attributes := #[] }
def k6m0 : Method := { name := "firesDataWatches", desc := "()Z", sig := { parameters := [], returnType := some .boolean }, accessFlags := 1, code := some k6c0 }
def k6c1 : Code := { maxStack := 2, maxLocals := 1, code := prog_29_method_7_code, exceptionTable := #[], attributes := #[] }
def k6m1 : Method := { name := "firesChildWatches", desc := "()Z", sig := { parameters := [], returnType := some .boolean }, accessFlags := 1, code := some k6c1 }
/-- com/example/nandi/nandi/proto/EventType -/
def k6 : Class := { plain "com/example/nandi/nandi/proto/EventType" (some 5) with
  accessFlags := 16433
  interfaces := #[]
  cf := some (fileOf pool6 1 #[] #[{ accessFlags := 1, nameIndex := 72, descriptorIndex := 73, attributes := #[] }, { accessFlags := 1, nameIndex := 74, descriptorIndex := 73, attributes := #[] }] 16433 26 #[] #[{ accessFlags := 16409, nameIndex := 5, descriptorIndex := 6, attributes := #[] }, { accessFlags := 16409, nameIndex := 9, descriptorIndex := 6, attributes := #[] }, { accessFlags := 16409, nameIndex := 12, descriptorIndex := 6, attributes := #[] }, { accessFlags := 16409, nameIndex := 15, descriptorIndex := 6, attributes := #[] }, { accessFlags := 18, nameIndex := 37, descriptorIndex := 38, attributes := #[] }, { accessFlags := 4122, nameIndex := 18, descriptorIndex := 19, attributes := #[] }])
  fields := #[{ name := "CREATED", type := (.object "com/example/nandi/nandi/proto/EventType"), accessFlags := 16409, slot := 0, constantValue := 0 }, { name := "DELETED", type := (.object "com/example/nandi/nandi/proto/EventType"), accessFlags := 16409, slot := 1, constantValue := 0 }, { name := "CHANGED", type := (.object "com/example/nandi/nandi/proto/EventType"), accessFlags := 16409, slot := 2, constantValue := 0 }, { name := "CHILDREN_CHANGED", type := (.object "com/example/nandi/nandi/proto/EventType"), accessFlags := 16409, slot := 3, constantValue := 0 }, { name := "code", type := .int, accessFlags := 18, slot := 3, constantValue := 0 }, { name := "$VALUES", type := (.array (.object "com/example/nandi/nandi/proto/EventType")), accessFlags := 4122, slot := 4, constantValue := 0 }]
  methods := #[k6m0, k6m1]
  instanceTypes := #[(.object "java/lang/String"), .int, .int, .int]
  staticTypes := #[(.object "com/example/nandi/nandi/proto/EventType"), (.object "com/example/nandi/nandi/proto/EventType"), (.object "com/example/nandi/nandi/proto/EventType"), (.object "com/example/nandi/nandi/proto/EventType"), (.array (.object "com/example/nandi/nandi/proto/EventType"))]
  resolved := Array.replicate 95 none
  statics := some 0 }

def pool7 : Array CpInfo := pool [(1, u "java/lang/Cloneable"), (0, .class_ 1), (0, u "java/lang/Object"), (0, .class_ 3)] 3

/-- java/lang/Cloneable -/
def k7 : Class := { plain "java/lang/Cloneable" (some 0) with
  accessFlags := 1537
  interfaces := #[]
  cf := some (fileOf pool7 2 #[] #[] 1537 4 #[] #[])
  fields := #[]
  methods := #[]
  instanceTypes := #[]
  staticTypes := #[]
  resolved := Array.replicate 8 none
  statics := none }

/-- the primitive byte -/
def k8 : Class := { plain "byte" none with kind := .primitive 'B', accessFlags := 0x411 }
/-- [B -/
def k9 : Class := { plain "[B" (some 0) with kind := .array 8 .byte, interfaces := #[7, 4], accessFlags := 1041 }

/-- the primitive int -/
def k10 : Class := { plain "int" none with kind := .primitive 'I', accessFlags := 0x411 }
/-- [I -/
def k11 : Class := { plain "[I" (some 0) with kind := .array 10 .int, interfaces := #[7, 4], accessFlags := 1041 }

/-- [Lcom/example/nandi/nandi/proto/EventType; -/
def k12 : Class := { plain "[Lcom/example/nandi/nandi/proto/EventType;" (some 0) with kind := .array 6 (.object "com/example/nandi/nandi/proto/EventType"), interfaces := #[7, 4], accessFlags := 1041 }

def heap : Heap := #[{ cls := 6, slots := #[.ref 1, .ref 2, .ref 3, .ref 4, .null], vm := .statics 6 },
  { cls := 6, slots := #[.null, .int 0, .int 0, .int 0], vm := .none },
  { cls := 6, slots := #[.null, .int 1, .int 0, .int 0], vm := .none },
  { cls := 6, slots := #[.null, .int 2, .int 0, .int 0], vm := .none },
  { cls := 6, slots := #[.null, .int 3, .int 0, .int 0], vm := .none }]
def classes : Array Class := #[k0, k1, k2, k3, k4, k5, k6, k7, k8, k9, k10, k11, k12]
def interned : List (Array UInt16 × Addr) := []
def slotsUsed : Nat := 21
def theMethod : MethodId := ⟨1, 1⟩
def args0 : Array Value := #[.int 5]
def aboutOver (below : List Frame) : State where
  vm := { classes := classes, interned := interned.toArray }
  heap := heap
  slotsUsed := slotsUsed
  threads := #[{ frames := .invoking theMethod args0 :: below }]
def below0 : List Frame := [.native { method := ⟨0, 0⟩, args := #[] }]
def about1 : State := aboutOver below0
def p0 : Program := .bare "" "" ""
def e0 : Env := launch0.env 0 0 0
theorem w_frames : about1.frames = Frame.invoking theMethod args0 :: below0 := rfl
set_option maxRecDepth 65536 in
theorem w_args : argsFit about1.vm theMethod args0 = true := by decide +kernel
set_option maxRecDepth 65536 in
theorem w_heap : heapFits about1 = true := by decide +kernel
set_option maxRecDepth 65536 in
theorem w_runnable : about1.curStatus? = some .runnable := by decide +kernel
set_option maxRecDepth 65536 in
theorem w_alone : about1.alone = true := by decide +kernel
set_option maxRecDepth 65536 in
theorem w_named : about1.methodNamed? x = some theMethod := by decide +kernel
set_option maxRecDepth 65536 in
theorem w_hears : about1.hears theMethod below0 = true := by decide +kernel
set_option maxRecDepth 65536 in
theorem w_ripe : about1.ripe theMethod args0 below0 = true := by decide +kernel
theorem w_running : about1.status = .running := rfl
set_option maxRecDepth 65536 in
theorem w_room : about1.hasRoom e0.platform room_1 = true :=
  launch0.hasRoom_least _ room_1 (by decide +kernel) (by decide +kernel) (by decide +kernel) (by decide +kernel) (by decide +kernel) (by decide +kernel)
theorem allAtoms_all (ts : List Jvm.Cond) (a : Array Jvm.Value) (st : Jvm.State) : (allAtoms ts).before a st = ts.all (fun c => c.before a st) := by
  induction ts with
  | nil => rfl
  | cons c t ih =>
    show (Jvm.Cond.and c (allAtoms t)).before a st = _
    rw [Jvm.Cond.before_and, ih, List.all_cons]
def words1 : List Jvm.Cond := Jvm.Cond.code x code maxLocals ret :: tables_1
/-- a 'code' word, met by the world's own term for the bytes: nothing is compared byte by byte -/
theorem code_word {y : MethodName} {bytes : ByteArray} {mx : Nat} {rt : Option FieldType} {a : Array Value} {s : State} {m : MethodId} {meth : Method} {c : Code} (h1 : s.methodNamed? y = some m) (h2 : s.vm.method? m = some meth) (h3 : meth.code = some c) (h4 : c.code = bytes)
    (h5 : (c.maxLocals == mx && c.exceptionTable.isEmpty && decide (c.maxStack ≤ mostOperands) && decide (meth.sig.returnType = rt) && !meth.locks && decide (parseMethodDescriptor y.desc = some meth.sig)) = true) : (Jvm.Cond.code y bytes mx rt).before a s = true := by
  simp only [Bool.and_eq_true, beq_iff_eq, Bool.not_eq_true', decide_eq_true_eq] at h5
  obtain ⟨⟨⟨⟨⟨g1, g2⟩, g3⟩, g4⟩, g5⟩, g6⟩ := h5
  simp [Cond.before, Cond.holds, Cond.value, h1, h2, h3, h4, g1, g2, g3, g4, g5, g6]
def isCode : Jvm.Cond → Bool
  | .code _ _ _ _ => true
  | _ => false
theorem all_split {L : List Jvm.Cond} {P : Jvm.Cond → Bool} (h1 : L.all (fun c => isCode c || P c) = true) (h2 : ∀ c ∈ L.filter isCode, P c = true) : L.all P = true := by
  refine List.all_eq_true.mpr fun c hc => ?_
  have h := List.all_eq_true.mp h1 c hc
  rcases Bool.eq_false_or_eq_true (isCode c) with hi | hi
  · exact h2 c (List.mem_filter.mpr ⟨hc, hi⟩)
  · simpa [hi] using h
set_option maxRecDepth 65536 in
theorem w_c0 : (Jvm.Cond.code x code maxLocals ret).before args0 about1 = true := code_word (m := ⟨1, 1⟩) (meth := k1m1) (c := k1c1) (by decide +kernel) rfl rfl rfl (by decide +kernel)
set_option maxRecDepth 65536 in
theorem w_c1 : (Jvm.Cond.code ({ cls := "com/example/nandi/nandi/proto/EventType", name := "firesChildWatches", desc := "()Z" } : Jvm.MethodName) prog_29_method_7_code (1 : Nat) (Option.some Jvm.ClassFile.FieldType.boolean)).before args0 about1 = true := code_word (m := ⟨6, 1⟩) (meth := k6m1) (c := k6c1) (by decide +kernel) rfl rfl rfl (by decide +kernel)
set_option maxRecDepth 65536 in
theorem w_c2 : (Jvm.Cond.code ({ cls := "com/example/nandi/nandi/proto/EventType", name := "firesDataWatches", desc := "()Z" } : Jvm.MethodName) prog_29_method_6_code (1 : Nat) (Option.some Jvm.ClassFile.FieldType.boolean)).before args0 about1 = true := code_word (m := ⟨6, 0⟩) (meth := k6m0) (c := k6c0) (by decide +kernel) rfl rfl rfl (by decide +kernel)
def codes1 : List Jvm.Cond := [Jvm.Cond.code x code maxLocals ret, Jvm.Cond.code ({ cls := "com/example/nandi/nandi/proto/EventType", name := "firesChildWatches", desc := "()Z" } : Jvm.MethodName) prog_29_method_7_code (1 : Nat) (Option.some Jvm.ClassFile.FieldType.boolean), Jvm.Cond.code ({ cls := "com/example/nandi/nandi/proto/EventType", name := "firesDataWatches", desc := "()Z" } : Jvm.MethodName) prog_29_method_6_code (1 : Nat) (Option.some Jvm.ClassFile.FieldType.boolean)]
set_option maxRecDepth 65536 in
theorem codes_eq : words1.filter isCode = codes1 := rfl
theorem w_codes : ∀ c ∈ words1.filter isCode, c.before args0 about1 = true := by
  rw [codes_eq]
  intro c hc
  simp only [codes1, List.mem_cons, List.not_mem_nil, or_false] at hc
  rcases hc with rfl | rfl | rfl
  · exact w_c0
  · exact w_c1
  · exact w_c2
set_option maxRecDepth 65536 in
theorem w_t1 : (words1.take 24).all (fun c => isCode c || c.before args0 about1) = true := by decide +kernel
set_option maxRecDepth 65536 in
theorem w_t2 : (words1.drop 24).all (fun c => isCode c || c.before args0 about1) = true := by decide +kernel
theorem w_tables : (allAtoms (Jvm.Cond.code x code maxLocals ret :: tables_1)).before args0 about1 = true := by
  rw [allAtoms_all]
  show words1.all (fun c => c.before args0 about1) = true
  refine all_split ?_ w_codes
  rw [← List.take_append_drop 24 words1, List.all_append, w_t1, w_t2]
  rfl
set_option maxRecDepth 65536 in
theorem w_case : (Jvm.Cond.and given_1 narrow_1).before args0 about1 = true := by decide +kernel
theorem w_applies : (headSpec (Jvm.Cond.code x code maxLocals ret :: tables_1) room_1).applies x e0.platform about1 = true :=
  (Spec.applies_iff w_frames).mpr ⟨w_running, w_runnable, w_alone, w_named, w_hears, w_ripe, w_room, w_tables⟩
theorem atStart : AtStart classFile x code maxLocals ret World_1 tables_1 room_1 Calls_1 rest_1 Pre_1 launch0 p0 e0 about1 theMethod args0 below0 :=
  ⟨lists_1, trivial, launch0.admits_env _ _ _, launch0.least_env, fairChoices_fair.cas, fairChoices_fair.clock, w_frames, w_args, w_heap, w_applies, trivial, trivial, w_case⟩
end start1
theorem witness_1 : WitnessClaimed_1 := ⟨start1.p0, start1.e0, start1.about1, start1.theMethod, start1.args0, start1.below0, start1.atStart⟩
end Jvm.Pilot.@@N@@
