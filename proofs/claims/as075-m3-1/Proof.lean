import JvmDerived
import JvmDerived.Pilot.@@N@@Statement
import JvmDerived.Pilot.@@N@@Code
set_option linter.unusedVariables false
set_option linter.unusedSimpArgs false
namespace Jvm.RoadKit
open Sem ClassFile Op Lib Jvm.Stand Jvm.Free Jvm.LawKit
section New
variable {p : Program} {l : Launch} {e : Env} {R : Room} {s : State} {m : MethodId} {args : Array Value} {below : List Frame} {meth : Method} {c : Code} {T : State} {locs : List Loc} {cells slots : Nat}
theorem retI (X : Stand p l e R s m args below meth c T locs cells slots) (hx : p.tables.exec = Jvm.exec) {pc : Nat} {Ls : Array Slot} {z : Int32} {rest : List Value} (hret : meth.sig.returnType = some .int) (hd : decode c.code pc = .ok (.ireturn, 1)) {fs : List Frame}
    (hl : ∀ (f : JFrame) (acts : List Action), f.method = m → f.locked = none → f.entered = [] → (doReturn e (T.setTop f) acts (some (.int z))).1 = T.setFrames fs) : Steps p.tables e below (T.setTop (mkF m pc Ls (.int z :: rest))) (T.setFrames fs) := by
  have hm' : T.vm.method? m = some meth := X.method'
  have hn : narrow .int (.int z) = .int z := rfl
  show Steps p.tables e below (T.setTop { method := m, pc := pc, locals := Ls, stack := _ :: rest, locked := none }) _
  jvm_step X.here [X.here.top, hx, hd, hm', hret, hn]
  first | (intro acts; rw [hl _ acts rfl rfl rfl]) | rw [hl _ _ rfl rfl rfl]
  exact Steps.refl _
end New
end Jvm.RoadKit
namespace Jvm.Pilot.@@N@@
open Jvm Jvm.ClassFile Sem Op Lib Jvm.Free Jvm.Stand Jvm.LawKit Jvm.RoadKit Bundle Jvm.Pilot.@@N@@.Jvm.D

theorem own_eqI {args : Array Value} {s : State} {t : Term} {k : Int32} (h : (Jvm.Cond.eq t (Term.int k)).value args s none s [] = some true) : t.eval args s none [] s = some (.int k) := by
  obtain ⟨x, y, hx, hy, k1, k2⟩ := cmp_v (Or.inl h)
  obtain rfl : y = .int k := Option.some.inj (hy.symm.trans rfl)
  obtain ⟨z, rfl⟩ : ∃ z, x = .int z := k2
  have q : z = k := by simpa [Jvm.Cond.value, hx, hy] using h
  rw [hx, q]
theorem own_eqR {args : Array Value} {s : State} {t u : Term} {a : Addr} (h : (Jvm.Cond.eq t u).value args s none s [] = some true) (hu : u.eval args s none [] s = some (.ref a)) : t.eval args s none [] s = some (.ref a) := by
  obtain ⟨x, y, hx, hy, k1, k2⟩ := cmp_v (Or.inl h)
  obtain rfl : y = .ref a := Option.some.inj (hy.symm.trans hu)
  have q : x.isRef = true ∧ (Value.ref a).isRef = true := ⟨k2.2, k2.1⟩
  have r := gotT (eq_R hx hy q.1 q.2) h
  rw [hx, r]
theorem own_len {args : Array Value} {s : State} {t : Term} {a : Addr} {c : Cell} {ty : FieldType} {n : Int32} (ev : t.eval args s none [] s = some (.ref a)) (A : Arr s s.heap a c ty) (h : (Jvm.Cond.eq (Term.length t) (Term.int n)).value args s none s [] = some true) : c.slots.size < 2 ^ 31 ∧ c.slots.size.toInt32 = n := by
  have e := own_eqI h
  have ha : s.arrayAt? a = some c := A.fin (Vm.Alike.refl _)
  simp only [Term.eval, Option.bind_eq_bind, ev, ha, Option.bind_some] at e
  by_cases q : c.slots.size < 2147483648
  · rw [if_pos q] at e
    exact ⟨q, by simpa using e⟩
  · rw [if_neg q] at e; cases e
theorem own_size {c : Cell} {n : Int32} (h : c.slots.size < 2 ^ 31 ∧ c.slots.size.toInt32 = n) : c.slots.size = n.toNatClampNeg ∧ ¬ n < 0 := by
  have q : n.toInt = c.slots.size := by rw [← h.2]; exact Int32.toInt_ofNat_small h.1
  refine ⟨?_, fun hn => ?_⟩
  · show c.slots.size = n.toInt.toNat
    omega
  · rw [Int32.lt_iff_toInt_lt] at hn
    have : (0 : Int32).toInt = 0 := rfl
    omega
theorem own_elem {args : Array Value} {s : State} {t : Term} {a y : Addr} {c : Cell} {ty : FieldType} {k : Int32} {u : Term} (ev : t.eval args s none [] s = some (.ref a)) (A : Arr s s.heap a c ty) (hu : u.eval args s none [] s = some (.ref y)) (h : (Jvm.Cond.eq (Term.elem t (Term.int k)) u).value args s none s [] = some true) : ¬ (k < 0 ∨ c.slots.size ≤ k.toNatClampNeg) ∧ c.slots[k.toNatClampNeg]? = some (.ref y) :=
  elem_in (own_eqR h hu) ev rfl A.1
def own_ret (V : Value) (n0 : Nat) (h0 : Heap) (v : Option Value) (h : Heap) (L : List Loc) : Prop := v = some V ∧ Fr n0 L ∧ h = h0
abbrev own_M (l : Launch) (y : MethodName) (bytes : ByteArray) (maxL : Nat) (ret : Option FieldType) (rm : Room) (Z : State) (as' : Array Value) (h0 : Heap) (Q : Option Value → Heap → List Loc → Prop) : Prop :=
  MetFree l y (head1 [Jvm.Cond.code y bytes maxL ret] rm) (fun a U => a = as' ∧ Z.Warmed39 U.vm ∧ U.heap = h0) (fun _ _ _ _ _ => True) (fun _ U o U' => ∃ v L, o = .returned v ∧ Q v U'.heap L ∧ FrameEnd U o U' L rm.cells rm.slots)
def own_one (n0 : Nat) (v : Option Value) (h : Heap) (L : List Loc) : Prop := v = some (.int (1 : Int32)) ∧ Fr n0 L
def own_kret (V : Value) (n0 : Nat) (h0 : Heap) (v : Option Value) (h : Heap) (L : List Loc) : Prop := v = some V ∧ Fr n0 L ∧ Keep h0 h []
theorem own_ext {h0 h : Heap} (K : Keep h0 h []) : Ext h0 h := ⟨K.1, fun a c q => K.2.1 a c q nin0⟩
theorem d2_0 : decode prog_15_method_1_code 0 = .ok (.getstatic 28, 3) := by decide +kernel
theorem d2_3 : decode prog_15_method_1_code 3 = .ok (.invokevirtual 32, 3) := by decide +kernel
theorem d2_6 : decode prog_15_method_1_code 6 = .ok (.checkcast 33, 3) := by decide +kernel
theorem d2_9 : decode prog_15_method_1_code 9 = .ok (.areturn, 1) := by decide +kernel
theorem pn_2 : plainName "com/example/framewire/framewire/protocol/FrameType" = true := by first | (simp [plainName, overriddenIn]; done) | decide +kernel
theorem ef_2 (m : MethodId)  : entryFrame m #[] 0 = mkF m 0 #[] [] := by first | (simp [entryFrame, mkF, argsToLocals, Value.category]; done) | rfl
def own_QV (Z : State) (clV : Cell) (n0 : Nat) (h0 : Heap) (v : Option Value) (h : Heap) (L : List Loc) : Prop := v = some (.ref h0.size) ∧ Fr n0 L ∧ Keep h0 h [] ∧ Arr Z h h0.size (cloneOf clV) (.object "com/example/framewire/framewire/protocol/FrameType")
set_option maxRecDepth 65536 in
set_option maxHeartbeats 40000000 in
theorem own_values (l : Launch) (Z : State) (a0 : Array Value) (hw : ∀ d ∈ tables_1, d.before a0 Z = true) (ws : List Jvm.Cond) (wV : Addr) (clV : Cell) (h0 : Heap) (n0 : Nat) (Z0 : n0 ≤ h0.size) (S_V : Sta Z h0 "com/example/framewire/framewire/protocol/FrameType" "$VALUES" "[Lcom/example/framewire/framewire/protocol/FrameType;" (.ref wV)) (A_V : Arr Z h0 wV clV (.object "com/example/framewire/framewire/protocol/FrameType")) (Ex_V : Exa Z h0 wV "[Lcom/example/framewire/framewire/protocol/FrameType;") (Ft_V : FitC Z clV) (S_Vz : clV.slots.size = 8) :
    MetFree l (⟨"com/example/framewire/framewire/protocol/FrameType", "values", "()[Lcom/example/framewire/framewire/protocol/FrameType;"⟩ : MethodName) (head1 (Jvm.Cond.code (⟨"com/example/framewire/framewire/protocol/FrameType", "values", "()[Lcom/example/framewire/framewire/protocol/FrameType;"⟩ : MethodName) prog_15_method_1_code 0 (some (.array (.object "com/example/framewire/framewire/protocol/FrameType"))) :: ws) ({ frames := 1, cells := 1, slots := 8, locals := 14 } : Room)) (fun a U => a = #[] ∧ Z.Warmed39 U.vm ∧ U.heap = h0) (fun _ _ _ _ _ => True) (fun _ U o U' => ∃ v L, o = .returned v ∧ (own_QV Z clV n0 h0) v U'.heap L ∧ FrameEnd U o U' L ({ frames := 1, cells := 1, slots := 8, locals := 14 } : Room).cells ({ frames := 1, cells := 1, slots := 8, locals := 14 } : Room).slots) := by
  refine MetFree.of_bodySF (plainFor_of_name pn_2) hisR ?_
  intro p e s m args below meth c s₁ Bd hml0 hP hK
  obtain ⟨rfl, hZ, hh⟩ := hP
  have hx := Bd.exec
  have hby := Bd.bytes
  have hml : c.maxLocals = 0 := hml0
  have hown : s.vm.findClass "com/example/framewire/framewire/protocol/FrameType" = some m.cls := findClass_of_methodNamed Bd.named
  have hnm := (name_of_methodNamed Bd.named Bd.method).1
  have X0 : Stand p l e ({ frames := 1, cells := 1, slots := 8, locals := 14 } : Room) s m #[] below meth c s₁ [] 0 0 := Stand.of_body Bd
  have e0 : s₁.heap = h0 := by rw [← hh, Bd.state]; rfl
  have N0 := Fr.nil n0
  have pre0 : ∀ t, Steps p.tables e below (s₁.setTop (mkF m 0 #[] [])) t → Steps p.tables e below (s₁.setTop (entryFrame m #[] 0)) t := fun t k => castTop (ef_2 m) k
  obtain ⟨T2, X2, e2, st2⟩ := getS2 X0 hx hZ hown (host := "") (Or.inl (hw _ (List.mem_of_getElem? (i := 7) rfl))) Via.refl e0 S_V (g := (mkF m 0 #[] [])) rfl (hb hby d2_0)
  obtain ⟨T3, h3, X3, e3, E3, A3, Ex3, st3⟩ := cloneA X2 hx hZ hown (hw _ (List.mem_of_getElem? (i := 9) rfl)) (hw _ (List.mem_of_getElem? (i := 10) rfl)) (hw _ (List.mem_of_getElem? (i := 14) rfl)) (hw _ (List.mem_of_getElem? (i := 12) rfl)) (hw _ (List.mem_of_getElem? (i := 13) rfl)) (hw _ (List.mem_of_getElem? (i := 15) rfl)) e2 A_V Ex_V Ft_V (g := (mkF m 3 #[] [(.ref wV)])) rfl (by rw [hml]; rfl) rfl (hb hby d2_3) (by decide) (W := 0) (cap := 8) (by show 2 * 0 + _ ≤ _; exact Nat.le_of_eq rfl) (by decide) (Nat.le_of_eq S_Vz) (by decide) (by decide)
  obtain ⟨T4, X4, e4, st4⟩ := castY X3 hx hZ hown (hw _ (List.mem_of_getElem? (i := 25) rfl)) e3 (Ins.self Ex3) (g := (mkF m 6 #[] [(.ref h0.size)])) rfl rfl (hb hby d2_6)
  obtain ⟨fs, hr, hrun, hended, hW, hsame⟩ := X4.leave (v := some (.ref h0.size)) (fun h => by rw [Bd.returns] at h; cases h)
  refine ⟨_, _, pre0 _ ?_, hrun, hended, _, _, rfl, ?_, ⟨_, rfl⟩, hW, hsame.mono (by decide) (by decide)⟩
  · show Steps p.tables e below (s₁.setTop (mkF m 0 #[] [])) _
    refine st2 _ ?_
    show Steps p.tables e below (T2.setTop (mkF m 3 #[] [(.ref wV)])) _
    refine st3 _ ?_
    show Steps p.tables e below (T3.setTop (mkF m 6 #[] [(.ref h0.size)])) _
    refine st4 _ ?_
    show Steps p.tables e below (T4.setTop (mkF m 9 #[] [(.ref h0.size)])) _
    jvm_step X4.here [X4.here.top, hx, (hb hby d2_9), X4.method', Bd.returns, Value.isRef, FieldType.isReference]
    first | (intro acts; rw [hr _ acts rfl rfl rfl]) | rw [hr _ _ rfl rfl rfl]
    exact Steps.refl _
  · show (own_QV Z clV n0 h0) _ T4.heap _
    rw [e4]
    exact ⟨rfl, N0, (Keep.refl h0 []).ext E3, A3⟩
theorem d1_9 : decode prog_15_method_4_code 9 = .ok (.iload_n 3, 1) := by decide +kernel
theorem d1_10 : decode prog_15_method_4_code 10 = .ok (.iload_n 2, 1) := by decide +kernel
theorem d1_11 : decode prog_15_method_4_code 11 = .ok (.if_icmp .ge 26, 3) := by decide +kernel
theorem d1_14 : decode prog_15_method_4_code 14 = .ok (.aload_n 1, 1) := by decide +kernel
theorem d1_15 : decode prog_15_method_4_code 15 = .ok (.iload_n 3, 1) := by decide +kernel
theorem d1_16 : decode prog_15_method_4_code 16 = .ok (.aaload, 1) := by decide +kernel
theorem d1_17 : decode prog_15_method_4_code 17 = .ok (.astore 4, 2) := by decide +kernel
theorem d1_19 : decode prog_15_method_4_code 19 = .ok (.aload 4, 2) := by decide +kernel
theorem d1_21 : decode prog_15_method_4_code 21 = .ok (.getfield 47, 3) := by decide +kernel
theorem d1_24 : decode prog_15_method_4_code 24 = .ok (.iload_n 0, 1) := by decide +kernel
theorem d1_25 : decode prog_15_method_4_code 25 = .ok (.if_icmp .ne 6, 3) := by decide +kernel
theorem d1_31 : decode prog_15_method_4_code 31 = .ok (.iinc 3 1, 3) := by decide +kernel
theorem d1_34 : decode prog_15_method_4_code 34 = .ok (.goto (-25), 3) := by decide +kernel
theorem os1_17 {z0 : Value} {z1 : Value} {z2 : Value} {z3 : Value} {s4 : Slot} {v : Addr} (h : One s4) : storeLocals #[.val z0, .val z1, .val z2, .val z3, s4] 4 (.ref v) = some #[.val z0, .val z1, .val z2, .val z3, .val (.ref v)] := by
  rcases h with rfl | ⟨w, rfl, hw⟩
  · rfl
  · cases w <;> first | rfl | (simp [Value.category] at hw)
set_option maxRecDepth 65536 in
set_option maxHeartbeats 40000000 in
theorem tn1_9_9 {p : Program} {l : Launch} {e : Env} {R : Room} {s : State} {m : MethodId} {args : Array Value} {below : List Frame} {meth : Method} {c : Code} {T0 : State} {locs : List Loc} {cells slots : Nat} {Z : State} {a0 : Array Value} {h0 : Heap} (i0 : Int32) (o1 : Addr) (i2 : Int32) (i3 : Int32) (s4 : Slot) (w2 : Addr) (cl_o1 : Cell) (w3 : Int32)
    (X0 : Stand p l e R s m args below meth c T0 locs cells slots) (hx : p.tables.exec = Jvm.exec) (hZ : Z.Warmed39 s.vm) (hw : ∀ d ∈ tables_1, d.before a0 Z = true) (hby : c.code = prog_15_method_4_code) (hml : c.maxLocals = 5) (hown : s.vm.findClass "com/example/framewire/framewire/protocol/FrameType" = some m.cls) (e0 : T0.heap = h0) (Ar_o1 : Arr Z h0 o1 cl_o1 (.object "com/example/framewire/framewire/protocol/FrameType")) (hin16 : ¬ (i3 < 0 ∨ cl_o1.slots.size ≤ (i3).toNatClampNeg)) (hat16 : cl_o1.slots[(i3).toNatClampNeg]? = some (.ref w2)) (hs4 : One s4) (F_code_w2 : Fld Z h0 w2 "com/example/framewire/framewire/protocol/FrameType" "code" "I" (.int w3)) (hc11 : i3 < i2) (hc25 : ¬ (w3 = i0)) :
    ∃ (T' : State), Stand p l e R s m args below meth c T' locs cells slots ∧ T'.heap = h0 ∧
      ∀ target, Steps p.tables e below (T'.setTop (mkF m 9 #[.val (.int i0), .val (.ref o1), .val (.int i2), .val (.int (i3 + (1 : Int32))), .val (.ref w2)] [])) target → Steps p.tables e below (T0.setTop (mkF m 9 #[.val (.int i0), .val (.ref o1), .val (.int i2), .val (.int i3), s4] [])) target := by
  obtain ⟨T4, X4, e4, st4⟩ := getF X0 hx hZ hown (host := "") (Or.inl (hw _ (List.mem_of_getElem? (i := 27) rfl))) Via.refl e0 F_code_w2 (g := (mkF m 21 #[.val (.int i0), .val (.ref o1), .val (.int i2), .val (.int i3), .val (.ref w2)] [(.ref w2)])) rfl rfl (hb hby d1_21)
  refine ⟨T4, X4, e4, fun target kt => ?_⟩
  show Steps p.tables e below (T0.setTop (mkF m 9 #[.val (.int i0), .val (.ref o1), .val (.int i2), .val (.int i3), s4] [])) _
  refine XS.iloadN X0.here hx rfl (hb hby d1_9) rfl ?_
  show Steps p.tables e below (T0.setTop (mkF m 10 #[.val (.int i0), .val (.ref o1), .val (.int i2), .val (.int i3), s4] [(.int i3)])) _
  refine XS.iloadN X0.here hx rfl (hb hby d1_10) rfl ?_
  show Steps p.tables e below (T0.setTop (mkF m 11 #[.val (.int i0), .val (.ref o1), .val (.int i2), .val (.int i3), s4] [(.int i2), (.int i3)])) _
  refine XS.icmpNo X0.here hx rfl (hb hby d1_11) rfl (tlt hc11).2.1 ?_
  show Steps p.tables e below (T0.setTop (mkF m 14 #[.val (.int i0), .val (.ref o1), .val (.int i2), .val (.int i3), s4] [])) _
  refine XS.aloadN X0.here hx rfl (hb hby d1_14) rfl rfl ?_
  show Steps p.tables e below (T0.setTop (mkF m 15 #[.val (.int i0), .val (.ref o1), .val (.int i2), .val (.int i3), s4] [(.ref o1)])) _
  refine XS.iloadN X0.here hx rfl (hb hby d1_15) rfl ?_
  show Steps p.tables e below (T0.setTop (mkF m 16 #[.val (.int i0), .val (.ref o1), .val (.int i2), .val (.int i3), s4] [(.int i3), (.ref o1)])) _
  refine X0.aaload hx (j := i3) (v := (.ref w2)) (by rw [e0]; exact Ar_o1.1) (State.isArrayOf_alike hZ.alike Ar_o1.2.1) rfl Ar_o1.2.2 hin16 hat16 (g := (mkF m 16 #[.val (.int i0), .val (.ref o1), .val (.int i2), .val (.int i3), s4] [(.int i3), (.ref o1)])) rfl rfl (hb hby d1_16) _ ?_
  show Steps p.tables e below (T0.setTop (mkF m 17 #[.val (.int i0), .val (.ref o1), .val (.int i2), .val (.int i3), s4] [(.ref w2)])) _
  refine XS.astore X0.here hx rfl (hb hby d1_17) rfl rfl (l' := #[.val (.int i0), .val (.ref o1), .val (.int i2), .val (.int i3), .val (.ref w2)]) (os1_17 hs4) ?_
  show Steps p.tables e below (T0.setTop (mkF m 19 #[.val (.int i0), .val (.ref o1), .val (.int i2), .val (.int i3), .val (.ref w2)] [])) _
  refine XS.aload X0.here hx rfl (hb hby d1_19) rfl rfl ?_
  show Steps p.tables e below (T0.setTop (mkF m 21 #[.val (.int i0), .val (.ref o1), .val (.int i2), .val (.int i3), .val (.ref w2)] [(.ref w2)])) _
  refine st4 _ ?_
  show Steps p.tables e below (T4.setTop (mkF m 24 #[.val (.int i0), .val (.ref o1), .val (.int i2), .val (.int i3), .val (.ref w2)] [(.int w3)])) _
  refine XS.iloadN X4.here hx rfl (hb hby d1_24) rfl ?_
  show Steps p.tables e below (T4.setTop (mkF m 25 #[.val (.int i0), .val (.ref o1), .val (.int i2), .val (.int i3), .val (.ref w2)] [(.int i0), (.int w3)])) _
  refine XS.icmpYes X4.here hx rfl (pc0 := 25) (pc' := 31) rfl (hb hby d1_25) rfl (feq hc25).2 (by decide) (by decide) ?_
  show Steps p.tables e below (T4.setTop (mkF m 31 #[.val (.int i0), .val (.ref o1), .val (.int i2), .val (.int i3), .val (.ref w2)] [])) _
  refine XS.iinc X4.here hx rfl (hb hby d1_31) rfl (l' := #[.val (.int i0), .val (.ref o1), .val (.int i2), .val (.int (i3 + (1 : Int32))), .val (.ref w2)]) rfl ?_
  show Steps p.tables e below (T4.setTop (mkF m 34 #[.val (.int i0), .val (.ref o1), .val (.int i2), .val (.int (i3 + (1 : Int32))), .val (.ref w2)] [])) _
  refine XS.goto X4.here hx rfl (pc0 := 34) (pc' := 9) rfl (hb hby d1_34) (by decide) (by decide) ?_
  exact kt
theorem d1_28 : decode prog_15_method_4_code 28 = .ok (.aload 4, 2) := by decide +kernel
set_option maxRecDepth 65536 in
set_option maxHeartbeats 40000000 in
theorem tn1_9_30 {p : Program} {l : Launch} {e : Env} {R : Room} {s : State} {m : MethodId} {args : Array Value} {below : List Frame} {meth : Method} {c : Code} {T0 : State} {locs : List Loc} {cells slots : Nat} {Z : State} {a0 : Array Value} {h0 : Heap} (i0 : Int32) (o1 : Addr) (i2 : Int32) (i3 : Int32) (s4 : Slot) (w2 : Addr) (cl_o1 : Cell) (w3 : Int32)
    (X0 : Stand p l e R s m args below meth c T0 locs cells slots) (hx : p.tables.exec = Jvm.exec) (hZ : Z.Warmed39 s.vm) (hw : ∀ d ∈ tables_1, d.before a0 Z = true) (hby : c.code = prog_15_method_4_code) (hml : c.maxLocals = 5) (hown : s.vm.findClass "com/example/framewire/framewire/protocol/FrameType" = some m.cls) (e0 : T0.heap = h0) (Ar_o1 : Arr Z h0 o1 cl_o1 (.object "com/example/framewire/framewire/protocol/FrameType")) (hin16 : ¬ (i3 < 0 ∨ cl_o1.slots.size ≤ (i3).toNatClampNeg)) (hat16 : cl_o1.slots[(i3).toNatClampNeg]? = some (.ref w2)) (hs4 : One s4) (F_code_w2 : Fld Z h0 w2 "com/example/framewire/framewire/protocol/FrameType" "code" "I" (.int w3)) (hc11 : i3 < i2) (hc25 : w3 = i0) :
    ∃ (T' : State), Stand p l e R s m args below meth c T' locs cells slots ∧ T'.heap = h0 ∧
      ∀ target, Steps p.tables e below (T'.setTop (mkF m 30 #[.val (.int i0), .val (.ref o1), .val (.int i2), .val (.int i3), .val (.ref w2)] [(.ref w2)])) target → Steps p.tables e below (T0.setTop (mkF m 9 #[.val (.int i0), .val (.ref o1), .val (.int i2), .val (.int i3), s4] [])) target := by
  obtain ⟨T4, X4, e4, st4⟩ := getF X0 hx hZ hown (host := "") (Or.inl (hw _ (List.mem_of_getElem? (i := 27) rfl))) Via.refl e0 F_code_w2 (g := (mkF m 21 #[.val (.int i0), .val (.ref o1), .val (.int i2), .val (.int i3), .val (.ref w2)] [(.ref w2)])) rfl rfl (hb hby d1_21)
  refine ⟨T4, X4, e4, fun target kt => ?_⟩
  show Steps p.tables e below (T0.setTop (mkF m 9 #[.val (.int i0), .val (.ref o1), .val (.int i2), .val (.int i3), s4] [])) _
  refine XS.iloadN X0.here hx rfl (hb hby d1_9) rfl ?_
  show Steps p.tables e below (T0.setTop (mkF m 10 #[.val (.int i0), .val (.ref o1), .val (.int i2), .val (.int i3), s4] [(.int i3)])) _
  refine XS.iloadN X0.here hx rfl (hb hby d1_10) rfl ?_
  show Steps p.tables e below (T0.setTop (mkF m 11 #[.val (.int i0), .val (.ref o1), .val (.int i2), .val (.int i3), s4] [(.int i2), (.int i3)])) _
  refine XS.icmpNo X0.here hx rfl (hb hby d1_11) rfl (tlt hc11).2.1 ?_
  show Steps p.tables e below (T0.setTop (mkF m 14 #[.val (.int i0), .val (.ref o1), .val (.int i2), .val (.int i3), s4] [])) _
  refine XS.aloadN X0.here hx rfl (hb hby d1_14) rfl rfl ?_
  show Steps p.tables e below (T0.setTop (mkF m 15 #[.val (.int i0), .val (.ref o1), .val (.int i2), .val (.int i3), s4] [(.ref o1)])) _
  refine XS.iloadN X0.here hx rfl (hb hby d1_15) rfl ?_
  show Steps p.tables e below (T0.setTop (mkF m 16 #[.val (.int i0), .val (.ref o1), .val (.int i2), .val (.int i3), s4] [(.int i3), (.ref o1)])) _
  refine X0.aaload hx (j := i3) (v := (.ref w2)) (by rw [e0]; exact Ar_o1.1) (State.isArrayOf_alike hZ.alike Ar_o1.2.1) rfl Ar_o1.2.2 hin16 hat16 (g := (mkF m 16 #[.val (.int i0), .val (.ref o1), .val (.int i2), .val (.int i3), s4] [(.int i3), (.ref o1)])) rfl rfl (hb hby d1_16) _ ?_
  show Steps p.tables e below (T0.setTop (mkF m 17 #[.val (.int i0), .val (.ref o1), .val (.int i2), .val (.int i3), s4] [(.ref w2)])) _
  refine XS.astore X0.here hx rfl (hb hby d1_17) rfl rfl (l' := #[.val (.int i0), .val (.ref o1), .val (.int i2), .val (.int i3), .val (.ref w2)]) (os1_17 hs4) ?_
  show Steps p.tables e below (T0.setTop (mkF m 19 #[.val (.int i0), .val (.ref o1), .val (.int i2), .val (.int i3), .val (.ref w2)] [])) _
  refine XS.aload X0.here hx rfl (hb hby d1_19) rfl rfl ?_
  show Steps p.tables e below (T0.setTop (mkF m 21 #[.val (.int i0), .val (.ref o1), .val (.int i2), .val (.int i3), .val (.ref w2)] [(.ref w2)])) _
  refine st4 _ ?_
  show Steps p.tables e below (T4.setTop (mkF m 24 #[.val (.int i0), .val (.ref o1), .val (.int i2), .val (.int i3), .val (.ref w2)] [(.int w3)])) _
  refine XS.iloadN X4.here hx rfl (hb hby d1_24) rfl ?_
  show Steps p.tables e below (T4.setTop (mkF m 25 #[.val (.int i0), .val (.ref o1), .val (.int i2), .val (.int i3), .val (.ref w2)] [(.int i0), (.int w3)])) _
  refine XS.icmpNo X4.here hx rfl (hb hby d1_25) rfl (teq hc25).2 ?_
  show Steps p.tables e below (T4.setTop (mkF m 28 #[.val (.int i0), .val (.ref o1), .val (.int i2), .val (.int i3), .val (.ref w2)] [])) _
  refine XS.aload X4.here hx rfl (hb hby d1_28) rfl rfl ?_
  exact kt
set_option maxRecDepth 65536 in
set_option maxHeartbeats 40000000 in
theorem tn1_9_37 {p : Program} {l : Launch} {e : Env} {R : Room} {s : State} {m : MethodId} {args : Array Value} {below : List Frame} {meth : Method} {c : Code} {T0 : State} {locs : List Loc} {cells slots : Nat} {Z : State} {a0 : Array Value} {h0 : Heap} (s0 : Slot) (s1 : Slot) (i2 : Int32) (i3 : Int32) (s4 : Slot)
    (X0 : Stand p l e R s m args below meth c T0 locs cells slots) (hx : p.tables.exec = Jvm.exec) (hZ : Z.Warmed39 s.vm) (hw : ∀ d ∈ tables_1, d.before a0 Z = true) (hby : c.code = prog_15_method_4_code) (hml : c.maxLocals = 5) (hown : s.vm.findClass "com/example/framewire/framewire/protocol/FrameType" = some m.cls) (e0 : T0.heap = h0) (hc11 : ¬ (i3 < i2)) :
    ∃ (T' : State), Stand p l e R s m args below meth c T' locs cells slots ∧ T'.heap = h0 ∧
      ∀ target, Steps p.tables e below (T'.setTop (mkF m 37 #[s0, s1, .val (.int i2), .val (.int i3), s4] [])) target → Steps p.tables e below (T0.setTop (mkF m 9 #[s0, s1, .val (.int i2), .val (.int i3), s4] [])) target := by
  refine ⟨T0, X0, e0, fun target kt => ?_⟩
  show Steps p.tables e below (T0.setTop (mkF m 9 #[s0, s1, .val (.int i2), .val (.int i3), s4] [])) _
  refine XS.iloadN X0.here hx rfl (hb hby d1_9) rfl ?_
  show Steps p.tables e below (T0.setTop (mkF m 10 #[s0, s1, .val (.int i2), .val (.int i3), s4] [(.int i3)])) _
  refine XS.iloadN X0.here hx rfl (hb hby d1_10) rfl ?_
  show Steps p.tables e below (T0.setTop (mkF m 11 #[s0, s1, .val (.int i2), .val (.int i3), s4] [(.int i2), (.int i3)])) _
  refine XS.icmpYes X0.here hx rfl (pc0 := 11) (pc' := 37) rfl (hb hby d1_11) rfl (flt hc11).2.1 (by decide) (by decide) ?_
  exact kt
theorem d1_0 : decode prog_15_method_4_code 0 = .ok (.invokestatic 59, 3) := by decide +kernel
theorem d1_3 : decode prog_15_method_4_code 3 = .ok (.astore_n 1, 1) := by decide +kernel
theorem d1_4 : decode prog_15_method_4_code 4 = .ok (.aload_n 1, 1) := by decide +kernel
theorem d1_5 : decode prog_15_method_4_code 5 = .ok (.arraylength, 1) := by decide +kernel
theorem d1_6 : decode prog_15_method_4_code 6 = .ok (.istore_n 2, 1) := by decide +kernel
theorem d1_7 : decode prog_15_method_4_code 7 = .ok (.iconst 0, 1) := by decide +kernel
theorem d1_8 : decode prog_15_method_4_code 8 = .ok (.istore_n 3, 1) := by decide +kernel
theorem d1_30 : decode prog_15_method_4_code 30 = .ok (.areturn, 1) := by decide +kernel
theorem pn_1 : plainName "com/example/framewire/framewire/protocol/FrameType" = true := by first | (simp [plainName, overriddenIn]; done) | decide +kernel
theorem ef_1 (m : MethodId) (x0 : Int32) : entryFrame m #[(.int x0)] 5 = mkF m 0 #[.val (.int x0), .unset, .unset, .unset, .unset] [] := by first | (simp [entryFrame, mkF, argsToLocals, Value.category]; done) | rfl
theorem d1_37 : decode prog_15_method_4_code 37 = .ok (.aconst_null, 1) := by decide +kernel
theorem d1_38 : decode prog_15_method_4_code 38 = .ok (.areturn, 1) := by decide +kernel
theorem pd_v : parseMethodDescriptor "()[Lcom/example/framewire/framewire/protocol/FrameType;" = some ⟨[], some (.array (.object "com/example/framewire/framewire/protocol/FrameType"))⟩ := by decide +kernel
set_option maxRecDepth 65536 in
set_option maxHeartbeats 40000000 in
theorem own_of_0 (l : Launch) (Z : State) (a0 : Array Value) (hw : ∀ d ∈ tables_1, d.before a0 Z = true) (ws : List Jvm.Cond) (p1 : Int32) (wV : Addr) (clV : Cell) (h0 : Heap) (n0 : Nat) (Z0 : n0 ≤ h0.size) (S_V : Sta Z h0 "com/example/framewire/framewire/protocol/FrameType" "$VALUES" "[Lcom/example/framewire/framewire/protocol/FrameType;" (.ref wV)) (A_V : Arr Z h0 wV clV (.object "com/example/framewire/framewire/protocol/FrameType")) (Ex_V : Exa Z h0 wV "[Lcom/example/framewire/framewire/protocol/FrameType;") (Ft_V : FitC Z clV) (S_Vz : clV.slots.size = 8) (w_COMMAND_REQUEST : Addr) (F_COMMAND_REQUEST : Fld Z h0 w_COMMAND_REQUEST "com/example/framewire/framewire/protocol/FrameType" "code" "I" (.int (1 : Int32))) (P_COMMAND_REQUEST : ¬ ((0 : Int32) < 0 ∨ clV.slots.size ≤ (0 : Int32).toNatClampNeg) ∧ clV.slots[(0 : Int32).toNatClampNeg]? = some (.ref w_COMMAND_REQUEST)) (h_eq : (1 : Int32) = p1) :
    MetFree l (⟨"com/example/framewire/framewire/protocol/FrameType", "of", "(I)Lcom/example/framewire/framewire/protocol/FrameType;"⟩ : MethodName) (head1 (Jvm.Cond.code (⟨"com/example/framewire/framewire/protocol/FrameType", "of", "(I)Lcom/example/framewire/framewire/protocol/FrameType;"⟩ : MethodName) prog_15_method_4_code 5 (some (.object "com/example/framewire/framewire/protocol/FrameType")) :: ws) ({ frames := 2, cells := 1, slots := 8, locals := 25 } : Room)) (fun a U => a = #[(.int p1)] ∧ Z.Warmed39 U.vm ∧ U.heap = h0) (fun _ _ _ _ _ => True) (fun _ U o U' => ∃ v L, o = .returned v ∧ (own_kret (.ref w_COMMAND_REQUEST) n0 h0) v U'.heap L ∧ FrameEnd U o U' L ({ frames := 2, cells := 1, slots := 8, locals := 25 } : Room).cells ({ frames := 2, cells := 1, slots := 8, locals := 25 } : Room).slots) := by
  refine MetFree.of_bodySF (plainFor_of_name pn_1) hisR ?_
  intro p e s m args below meth c s₁ Bd hml0 hP hK
  obtain ⟨rfl, hZ, hh⟩ := hP
  have hx := Bd.exec
  have hby := Bd.bytes
  have hml : c.maxLocals = 5 := hml0
  have hown : s.vm.findClass "com/example/framewire/framewire/protocol/FrameType" = some m.cls := findClass_of_methodNamed Bd.named
  have hnm := (name_of_methodNamed Bd.named Bd.method).1
  have X0 : Stand p l e ({ frames := 2, cells := 1, slots := 8, locals := 25 } : Room) s m #[(.int p1)] below meth c s₁ [] 0 0 := Stand.of_body Bd
  have e0 : s₁.heap = h0 := by rw [← hh, Bd.state]; rfl
  have N0 := Fr.nil n0
  have pre0 : ∀ t, Steps p.tables e below (s₁.setTop (mkF m 0 #[.val (.int p1), .unset, .unset, .unset, .unset] [])) t → Steps p.tables e below (s₁.setTop (entryFrame m #[(.int p1)] 5)) t := fun t k => castTop (ef_1 m p1) k
  obtain ⟨_, _, ⟨T2, L2, k2, n2⟩, -, X2, ⟨Lc2, hQ2, l2, y2, z2⟩, st2⟩ := Jvm.LawKit.callS X0 hx (y := (⟨"com/example/framewire/framewire/protocol/FrameType", "values", "()[Lcom/example/framewire/framewire/protocol/FrameType;"⟩ : MethodName)) hown (mvT hZ (hw _ (List.mem_of_getElem? (i := 4) rfl))) (mvT hZ (hw _ (List.mem_of_getElem? (i := 5) rfl))) (mvT hZ (hw _ (List.mem_of_getElem? (i := 2) rfl))) (mvT hZ (hw _ (List.mem_of_getElem? (i := 6) rfl))) (by decide) (backOf (W := 0) (own_values l Z a0 hw [] wV clV h0 n0 Z0 S_V A_V Ex_V Ft_V S_Vz) hZ (hw _ (List.mem_of_getElem? (i := 6) rfl)) (hw _ (List.mem_of_getElem? (i := 2) rfl)) (by decide) (by decide)) (g := (mkF m 0 #[.val (.int p1), .unset, .unset, .unset, .unset] [])) rfl (by rw [hml]; rfl) (argsL := []) (rest := []) (lenOf pd_v rfl) rfl (by show 2 * 0 + _ ≤ _; exact Nat.le_of_eq rfl) (hb hby d1_0) (fun _ _ => ⟨rfl, e0, (by decide : 0 + 1 ≤ _), (by decide : 0 + 8 ≤ _)⟩)
  dsimp only [Pt.U, Pt.locs, Pt.cells, Pt.slots] at X2 l2 y2 z2 st2 hQ2
  subst l2 y2 z2
  obtain ⟨rfl, N2q, K2, A2⟩ := hQ2
  have e2 : T2.heap = T2.heap := rfl
  have S2 : (cloneOf clV).slots.size = (8 : Int32).toNatClampNeg := S_Vz
  have M2 : ¬ (8 : Int32) < 0 := by decide
  have N2 := Fr.app N0 N2q
  obtain ⟨T3, X3, e3, st3⟩ := tn1_9_30 p1 h0.size (8 : Int32) (0 : Int32) (.unset) w_COMMAND_REQUEST (cloneOf clV) (1 : Int32) X2 hx hZ hw hby hml hown e2 A2 P_COMMAND_REQUEST.1 P_COMMAND_REQUEST.2 (One.u) (F_COMMAND_REQUEST.ext (own_ext K2)) (by decide) h_eq
  obtain ⟨fs, hr, hrun, hended, hW, hsame⟩ := X3.leave (v := some (.ref w_COMMAND_REQUEST)) (fun h => by rw [Bd.returns] at h; cases h)
  refine ⟨_, _, pre0 _ ?_, hrun, hended, _, _, rfl, ?_, ⟨_, rfl⟩, hW, hsame.mono (by decide) (by decide)⟩
  · show Steps p.tables e below (s₁.setTop (mkF m 0 #[.val (.int p1), .unset, .unset, .unset, .unset] [])) _
    refine st2 _ ?_
    show Steps p.tables e below (T2.setTop (mkF m 3 #[.val (.int p1), .unset, .unset, .unset, .unset] [(.ref h0.size)])) _
    refine XS.astoreN X2.here hx rfl (hb hby d1_3) rfl rfl (l' := #[.val (.int p1), .val (.ref h0.size), .unset, .unset, .unset]) rfl ?_
    show Steps p.tables e below (T2.setTop (mkF m 4 #[.val (.int p1), .val (.ref h0.size), .unset, .unset, .unset] [])) _
    refine XS.aloadN X2.here hx rfl (hb hby d1_4) rfl rfl ?_
    show Steps p.tables e below (T2.setTop (mkF m 5 #[.val (.int p1), .val (.ref h0.size), .unset, .unset, .unset] [(.ref h0.size)])) _
    refine X2.arraylength hx (by rw [e2]; exact A2.1) (State.isArrayOf_alike hZ.alike A2.2.1) (g := (mkF m 5 #[.val (.int p1), .val (.ref h0.size), .unset, .unset, .unset] [(.ref h0.size)])) rfl rfl (hb hby d1_5) _ ?_
    rw [len_of S2 M2]
    show Steps p.tables e below (T2.setTop (mkF m 6 #[.val (.int p1), .val (.ref h0.size), .unset, .unset, .unset] [(.int (8 : Int32))])) _
    refine XS.istoreN X2.here hx rfl (hb hby d1_6) rfl (l' := #[.val (.int p1), .val (.ref h0.size), .val (.int (8 : Int32)), .unset, .unset]) rfl ?_
    show Steps p.tables e below (T2.setTop (mkF m 7 #[.val (.int p1), .val (.ref h0.size), .val (.int (8 : Int32)), .unset, .unset] [])) _
    refine XS.iconst X2.here hx rfl (hb hby d1_7) ?_
    show Steps p.tables e below (T2.setTop (mkF m 8 #[.val (.int p1), .val (.ref h0.size), .val (.int (8 : Int32)), .unset, .unset] [(.int (0 : Int32))])) _
    refine XS.istoreN X2.here hx rfl (hb hby d1_8) rfl (l' := #[.val (.int p1), .val (.ref h0.size), .val (.int (8 : Int32)), .val (.int (0 : Int32)), .unset]) rfl ?_
    show Steps p.tables e below (T2.setTop (mkF m 9 #[.val (.int p1), .val (.ref h0.size), .val (.int (8 : Int32)), .val (.int (0 : Int32)), .unset] [])) _
    refine st3 _ ?_
    show Steps p.tables e below (T3.setTop (mkF m 30 #[.val (.int p1), .val (.ref h0.size), .val (.int (8 : Int32)), .val (.int (0 : Int32)), .val (.ref w_COMMAND_REQUEST)] [(.ref w_COMMAND_REQUEST)])) _
    jvm_step X3.here [X3.here.top, hx, (hb hby d1_30), X3.method', Bd.returns, Value.isRef, FieldType.isReference]
    first | (intro acts; rw [hr _ acts rfl rfl rfl]) | rw [hr _ _ rfl rfl rfl]
    exact Steps.refl _
  · show (own_kret (.ref w_COMMAND_REQUEST) n0 h0) _ T3.heap _
    rw [e3]
    exact ⟨rfl, N2, K2⟩
set_option maxRecDepth 65536 in
set_option maxHeartbeats 40000000 in
theorem own_of_1 (l : Launch) (Z : State) (a0 : Array Value) (hw : ∀ d ∈ tables_1, d.before a0 Z = true) (ws : List Jvm.Cond) (p1 : Int32) (wV : Addr) (clV : Cell) (h0 : Heap) (n0 : Nat) (Z0 : n0 ≤ h0.size) (S_V : Sta Z h0 "com/example/framewire/framewire/protocol/FrameType" "$VALUES" "[Lcom/example/framewire/framewire/protocol/FrameType;" (.ref wV)) (A_V : Arr Z h0 wV clV (.object "com/example/framewire/framewire/protocol/FrameType")) (Ex_V : Exa Z h0 wV "[Lcom/example/framewire/framewire/protocol/FrameType;") (Ft_V : FitC Z clV) (S_Vz : clV.slots.size = 8) (w_COMMAND_REQUEST : Addr) (F_COMMAND_REQUEST : Fld Z h0 w_COMMAND_REQUEST "com/example/framewire/framewire/protocol/FrameType" "code" "I" (.int (1 : Int32))) (P_COMMAND_REQUEST : ¬ ((0 : Int32) < 0 ∨ clV.slots.size ≤ (0 : Int32).toNatClampNeg) ∧ clV.slots[(0 : Int32).toNatClampNeg]? = some (.ref w_COMMAND_REQUEST)) (h_COMMAND_REQUEST : ¬ (1 : Int32) = p1) (w_COMMAND_DATA : Addr) (F_COMMAND_DATA : Fld Z h0 w_COMMAND_DATA "com/example/framewire/framewire/protocol/FrameType" "code" "I" (.int (2 : Int32))) (P_COMMAND_DATA : ¬ ((1 : Int32) < 0 ∨ clV.slots.size ≤ (1 : Int32).toNatClampNeg) ∧ clV.slots[(1 : Int32).toNatClampNeg]? = some (.ref w_COMMAND_DATA)) (h_eq : (2 : Int32) = p1) :
    MetFree l (⟨"com/example/framewire/framewire/protocol/FrameType", "of", "(I)Lcom/example/framewire/framewire/protocol/FrameType;"⟩ : MethodName) (head1 (Jvm.Cond.code (⟨"com/example/framewire/framewire/protocol/FrameType", "of", "(I)Lcom/example/framewire/framewire/protocol/FrameType;"⟩ : MethodName) prog_15_method_4_code 5 (some (.object "com/example/framewire/framewire/protocol/FrameType")) :: ws) ({ frames := 2, cells := 1, slots := 8, locals := 25 } : Room)) (fun a U => a = #[(.int p1)] ∧ Z.Warmed39 U.vm ∧ U.heap = h0) (fun _ _ _ _ _ => True) (fun _ U o U' => ∃ v L, o = .returned v ∧ (own_kret (.ref w_COMMAND_DATA) n0 h0) v U'.heap L ∧ FrameEnd U o U' L ({ frames := 2, cells := 1, slots := 8, locals := 25 } : Room).cells ({ frames := 2, cells := 1, slots := 8, locals := 25 } : Room).slots) := by
  refine MetFree.of_bodySF (plainFor_of_name pn_1) hisR ?_
  intro p e s m args below meth c s₁ Bd hml0 hP hK
  obtain ⟨rfl, hZ, hh⟩ := hP
  have hx := Bd.exec
  have hby := Bd.bytes
  have hml : c.maxLocals = 5 := hml0
  have hown : s.vm.findClass "com/example/framewire/framewire/protocol/FrameType" = some m.cls := findClass_of_methodNamed Bd.named
  have hnm := (name_of_methodNamed Bd.named Bd.method).1
  have X0 : Stand p l e ({ frames := 2, cells := 1, slots := 8, locals := 25 } : Room) s m #[(.int p1)] below meth c s₁ [] 0 0 := Stand.of_body Bd
  have e0 : s₁.heap = h0 := by rw [← hh, Bd.state]; rfl
  have N0 := Fr.nil n0
  have pre0 : ∀ t, Steps p.tables e below (s₁.setTop (mkF m 0 #[.val (.int p1), .unset, .unset, .unset, .unset] [])) t → Steps p.tables e below (s₁.setTop (entryFrame m #[(.int p1)] 5)) t := fun t k => castTop (ef_1 m p1) k
  obtain ⟨_, _, ⟨T2, L2, k2, n2⟩, -, X2, ⟨Lc2, hQ2, l2, y2, z2⟩, st2⟩ := Jvm.LawKit.callS X0 hx (y := (⟨"com/example/framewire/framewire/protocol/FrameType", "values", "()[Lcom/example/framewire/framewire/protocol/FrameType;"⟩ : MethodName)) hown (mvT hZ (hw _ (List.mem_of_getElem? (i := 4) rfl))) (mvT hZ (hw _ (List.mem_of_getElem? (i := 5) rfl))) (mvT hZ (hw _ (List.mem_of_getElem? (i := 2) rfl))) (mvT hZ (hw _ (List.mem_of_getElem? (i := 6) rfl))) (by decide) (backOf (W := 0) (own_values l Z a0 hw [] wV clV h0 n0 Z0 S_V A_V Ex_V Ft_V S_Vz) hZ (hw _ (List.mem_of_getElem? (i := 6) rfl)) (hw _ (List.mem_of_getElem? (i := 2) rfl)) (by decide) (by decide)) (g := (mkF m 0 #[.val (.int p1), .unset, .unset, .unset, .unset] [])) rfl (by rw [hml]; rfl) (argsL := []) (rest := []) (lenOf pd_v rfl) rfl (by show 2 * 0 + _ ≤ _; exact Nat.le_of_eq rfl) (hb hby d1_0) (fun _ _ => ⟨rfl, e0, (by decide : 0 + 1 ≤ _), (by decide : 0 + 8 ≤ _)⟩)
  dsimp only [Pt.U, Pt.locs, Pt.cells, Pt.slots] at X2 l2 y2 z2 st2 hQ2
  subst l2 y2 z2
  obtain ⟨rfl, N2q, K2, A2⟩ := hQ2
  have e2 : T2.heap = T2.heap := rfl
  have S2 : (cloneOf clV).slots.size = (8 : Int32).toNatClampNeg := S_Vz
  have M2 : ¬ (8 : Int32) < 0 := by decide
  have N2 := Fr.app N0 N2q
  obtain ⟨T3, X3, e3, st3⟩ := tn1_9_9 p1 h0.size (8 : Int32) (0 : Int32) (.unset) w_COMMAND_REQUEST (cloneOf clV) (1 : Int32) X2 hx hZ hw hby hml hown e2 A2 P_COMMAND_REQUEST.1 P_COMMAND_REQUEST.2 (One.u) (F_COMMAND_REQUEST.ext (own_ext K2)) (by decide) h_COMMAND_REQUEST
  have i3 : (0 : Int32) + (1 : Int32) = (1 : Int32) := by decide
  obtain ⟨T4, X4, e4, st4⟩ := tn1_9_30 p1 h0.size (8 : Int32) (1 : Int32) (.val (.ref w_COMMAND_REQUEST)) w_COMMAND_DATA (cloneOf clV) (2 : Int32) X3 hx hZ hw hby hml hown e3 A2 P_COMMAND_DATA.1 P_COMMAND_DATA.2 (One.val rfl) (F_COMMAND_DATA.ext (own_ext K2)) (by decide) h_eq
  obtain ⟨fs, hr, hrun, hended, hW, hsame⟩ := X4.leave (v := some (.ref w_COMMAND_DATA)) (fun h => by rw [Bd.returns] at h; cases h)
  refine ⟨_, _, pre0 _ ?_, hrun, hended, _, _, rfl, ?_, ⟨_, rfl⟩, hW, hsame.mono (by decide) (by decide)⟩
  · show Steps p.tables e below (s₁.setTop (mkF m 0 #[.val (.int p1), .unset, .unset, .unset, .unset] [])) _
    refine st2 _ ?_
    show Steps p.tables e below (T2.setTop (mkF m 3 #[.val (.int p1), .unset, .unset, .unset, .unset] [(.ref h0.size)])) _
    refine XS.astoreN X2.here hx rfl (hb hby d1_3) rfl rfl (l' := #[.val (.int p1), .val (.ref h0.size), .unset, .unset, .unset]) rfl ?_
    show Steps p.tables e below (T2.setTop (mkF m 4 #[.val (.int p1), .val (.ref h0.size), .unset, .unset, .unset] [])) _
    refine XS.aloadN X2.here hx rfl (hb hby d1_4) rfl rfl ?_
    show Steps p.tables e below (T2.setTop (mkF m 5 #[.val (.int p1), .val (.ref h0.size), .unset, .unset, .unset] [(.ref h0.size)])) _
    refine X2.arraylength hx (by rw [e2]; exact A2.1) (State.isArrayOf_alike hZ.alike A2.2.1) (g := (mkF m 5 #[.val (.int p1), .val (.ref h0.size), .unset, .unset, .unset] [(.ref h0.size)])) rfl rfl (hb hby d1_5) _ ?_
    rw [len_of S2 M2]
    show Steps p.tables e below (T2.setTop (mkF m 6 #[.val (.int p1), .val (.ref h0.size), .unset, .unset, .unset] [(.int (8 : Int32))])) _
    refine XS.istoreN X2.here hx rfl (hb hby d1_6) rfl (l' := #[.val (.int p1), .val (.ref h0.size), .val (.int (8 : Int32)), .unset, .unset]) rfl ?_
    show Steps p.tables e below (T2.setTop (mkF m 7 #[.val (.int p1), .val (.ref h0.size), .val (.int (8 : Int32)), .unset, .unset] [])) _
    refine XS.iconst X2.here hx rfl (hb hby d1_7) ?_
    show Steps p.tables e below (T2.setTop (mkF m 8 #[.val (.int p1), .val (.ref h0.size), .val (.int (8 : Int32)), .unset, .unset] [(.int (0 : Int32))])) _
    refine XS.istoreN X2.here hx rfl (hb hby d1_8) rfl (l' := #[.val (.int p1), .val (.ref h0.size), .val (.int (8 : Int32)), .val (.int (0 : Int32)), .unset]) rfl ?_
    show Steps p.tables e below (T2.setTop (mkF m 9 #[.val (.int p1), .val (.ref h0.size), .val (.int (8 : Int32)), .val (.int (0 : Int32)), .unset] [])) _
    refine st3 _ ?_
    rw [i3]
    show Steps p.tables e below (T3.setTop (mkF m 9 #[.val (.int p1), .val (.ref h0.size), .val (.int (8 : Int32)), .val (.int (1 : Int32)), .val (.ref w_COMMAND_REQUEST)] [])) _
    refine st4 _ ?_
    show Steps p.tables e below (T4.setTop (mkF m 30 #[.val (.int p1), .val (.ref h0.size), .val (.int (8 : Int32)), .val (.int (1 : Int32)), .val (.ref w_COMMAND_DATA)] [(.ref w_COMMAND_DATA)])) _
    jvm_step X4.here [X4.here.top, hx, (hb hby d1_30), X4.method', Bd.returns, Value.isRef, FieldType.isReference]
    first | (intro acts; rw [hr _ acts rfl rfl rfl]) | rw [hr _ _ rfl rfl rfl]
    exact Steps.refl _
  · show (own_kret (.ref w_COMMAND_DATA) n0 h0) _ T4.heap _
    rw [e4]
    exact ⟨rfl, N2, K2⟩
set_option maxRecDepth 65536 in
set_option maxHeartbeats 40000000 in
theorem own_of_2 (l : Launch) (Z : State) (a0 : Array Value) (hw : ∀ d ∈ tables_1, d.before a0 Z = true) (ws : List Jvm.Cond) (p1 : Int32) (wV : Addr) (clV : Cell) (h0 : Heap) (n0 : Nat) (Z0 : n0 ≤ h0.size) (S_V : Sta Z h0 "com/example/framewire/framewire/protocol/FrameType" "$VALUES" "[Lcom/example/framewire/framewire/protocol/FrameType;" (.ref wV)) (A_V : Arr Z h0 wV clV (.object "com/example/framewire/framewire/protocol/FrameType")) (Ex_V : Exa Z h0 wV "[Lcom/example/framewire/framewire/protocol/FrameType;") (Ft_V : FitC Z clV) (S_Vz : clV.slots.size = 8) (w_COMMAND_REQUEST : Addr) (F_COMMAND_REQUEST : Fld Z h0 w_COMMAND_REQUEST "com/example/framewire/framewire/protocol/FrameType" "code" "I" (.int (1 : Int32))) (P_COMMAND_REQUEST : ¬ ((0 : Int32) < 0 ∨ clV.slots.size ≤ (0 : Int32).toNatClampNeg) ∧ clV.slots[(0 : Int32).toNatClampNeg]? = some (.ref w_COMMAND_REQUEST)) (h_COMMAND_REQUEST : ¬ (1 : Int32) = p1) (w_COMMAND_DATA : Addr) (F_COMMAND_DATA : Fld Z h0 w_COMMAND_DATA "com/example/framewire/framewire/protocol/FrameType" "code" "I" (.int (2 : Int32))) (P_COMMAND_DATA : ¬ ((1 : Int32) < 0 ∨ clV.slots.size ≤ (1 : Int32).toNatClampNeg) ∧ clV.slots[(1 : Int32).toNatClampNeg]? = some (.ref w_COMMAND_DATA)) (h_COMMAND_DATA : ¬ (2 : Int32) = p1) (w_COMMAND_RESPONSE : Addr) (F_COMMAND_RESPONSE : Fld Z h0 w_COMMAND_RESPONSE "com/example/framewire/framewire/protocol/FrameType" "code" "I" (.int (3 : Int32))) (P_COMMAND_RESPONSE : ¬ ((2 : Int32) < 0 ∨ clV.slots.size ≤ (2 : Int32).toNatClampNeg) ∧ clV.slots[(2 : Int32).toNatClampNeg]? = some (.ref w_COMMAND_RESPONSE)) (h_eq : (3 : Int32) = p1) :
    MetFree l (⟨"com/example/framewire/framewire/protocol/FrameType", "of", "(I)Lcom/example/framewire/framewire/protocol/FrameType;"⟩ : MethodName) (head1 (Jvm.Cond.code (⟨"com/example/framewire/framewire/protocol/FrameType", "of", "(I)Lcom/example/framewire/framewire/protocol/FrameType;"⟩ : MethodName) prog_15_method_4_code 5 (some (.object "com/example/framewire/framewire/protocol/FrameType")) :: ws) ({ frames := 2, cells := 1, slots := 8, locals := 25 } : Room)) (fun a U => a = #[(.int p1)] ∧ Z.Warmed39 U.vm ∧ U.heap = h0) (fun _ _ _ _ _ => True) (fun _ U o U' => ∃ v L, o = .returned v ∧ (own_kret (.ref w_COMMAND_RESPONSE) n0 h0) v U'.heap L ∧ FrameEnd U o U' L ({ frames := 2, cells := 1, slots := 8, locals := 25 } : Room).cells ({ frames := 2, cells := 1, slots := 8, locals := 25 } : Room).slots) := by
  refine MetFree.of_bodySF (plainFor_of_name pn_1) hisR ?_
  intro p e s m args below meth c s₁ Bd hml0 hP hK
  obtain ⟨rfl, hZ, hh⟩ := hP
  have hx := Bd.exec
  have hby := Bd.bytes
  have hml : c.maxLocals = 5 := hml0
  have hown : s.vm.findClass "com/example/framewire/framewire/protocol/FrameType" = some m.cls := findClass_of_methodNamed Bd.named
  have hnm := (name_of_methodNamed Bd.named Bd.method).1
  have X0 : Stand p l e ({ frames := 2, cells := 1, slots := 8, locals := 25 } : Room) s m #[(.int p1)] below meth c s₁ [] 0 0 := Stand.of_body Bd
  have e0 : s₁.heap = h0 := by rw [← hh, Bd.state]; rfl
  have N0 := Fr.nil n0
  have pre0 : ∀ t, Steps p.tables e below (s₁.setTop (mkF m 0 #[.val (.int p1), .unset, .unset, .unset, .unset] [])) t → Steps p.tables e below (s₁.setTop (entryFrame m #[(.int p1)] 5)) t := fun t k => castTop (ef_1 m p1) k
  obtain ⟨_, _, ⟨T2, L2, k2, n2⟩, -, X2, ⟨Lc2, hQ2, l2, y2, z2⟩, st2⟩ := Jvm.LawKit.callS X0 hx (y := (⟨"com/example/framewire/framewire/protocol/FrameType", "values", "()[Lcom/example/framewire/framewire/protocol/FrameType;"⟩ : MethodName)) hown (mvT hZ (hw _ (List.mem_of_getElem? (i := 4) rfl))) (mvT hZ (hw _ (List.mem_of_getElem? (i := 5) rfl))) (mvT hZ (hw _ (List.mem_of_getElem? (i := 2) rfl))) (mvT hZ (hw _ (List.mem_of_getElem? (i := 6) rfl))) (by decide) (backOf (W := 0) (own_values l Z a0 hw [] wV clV h0 n0 Z0 S_V A_V Ex_V Ft_V S_Vz) hZ (hw _ (List.mem_of_getElem? (i := 6) rfl)) (hw _ (List.mem_of_getElem? (i := 2) rfl)) (by decide) (by decide)) (g := (mkF m 0 #[.val (.int p1), .unset, .unset, .unset, .unset] [])) rfl (by rw [hml]; rfl) (argsL := []) (rest := []) (lenOf pd_v rfl) rfl (by show 2 * 0 + _ ≤ _; exact Nat.le_of_eq rfl) (hb hby d1_0) (fun _ _ => ⟨rfl, e0, (by decide : 0 + 1 ≤ _), (by decide : 0 + 8 ≤ _)⟩)
  dsimp only [Pt.U, Pt.locs, Pt.cells, Pt.slots] at X2 l2 y2 z2 st2 hQ2
  subst l2 y2 z2
  obtain ⟨rfl, N2q, K2, A2⟩ := hQ2
  have e2 : T2.heap = T2.heap := rfl
  have S2 : (cloneOf clV).slots.size = (8 : Int32).toNatClampNeg := S_Vz
  have M2 : ¬ (8 : Int32) < 0 := by decide
  have N2 := Fr.app N0 N2q
  obtain ⟨T3, X3, e3, st3⟩ := tn1_9_9 p1 h0.size (8 : Int32) (0 : Int32) (.unset) w_COMMAND_REQUEST (cloneOf clV) (1 : Int32) X2 hx hZ hw hby hml hown e2 A2 P_COMMAND_REQUEST.1 P_COMMAND_REQUEST.2 (One.u) (F_COMMAND_REQUEST.ext (own_ext K2)) (by decide) h_COMMAND_REQUEST
  have i3 : (0 : Int32) + (1 : Int32) = (1 : Int32) := by decide
  obtain ⟨T4, X4, e4, st4⟩ := tn1_9_9 p1 h0.size (8 : Int32) (1 : Int32) (.val (.ref w_COMMAND_REQUEST)) w_COMMAND_DATA (cloneOf clV) (2 : Int32) X3 hx hZ hw hby hml hown e3 A2 P_COMMAND_DATA.1 P_COMMAND_DATA.2 (One.val rfl) (F_COMMAND_DATA.ext (own_ext K2)) (by decide) h_COMMAND_DATA
  have i4 : (1 : Int32) + (1 : Int32) = (2 : Int32) := by decide
  obtain ⟨T5, X5, e5, st5⟩ := tn1_9_30 p1 h0.size (8 : Int32) (2 : Int32) (.val (.ref w_COMMAND_DATA)) w_COMMAND_RESPONSE (cloneOf clV) (3 : Int32) X4 hx hZ hw hby hml hown e4 A2 P_COMMAND_RESPONSE.1 P_COMMAND_RESPONSE.2 (One.val rfl) (F_COMMAND_RESPONSE.ext (own_ext K2)) (by decide) h_eq
  obtain ⟨fs, hr, hrun, hended, hW, hsame⟩ := X5.leave (v := some (.ref w_COMMAND_RESPONSE)) (fun h => by rw [Bd.returns] at h; cases h)
  refine ⟨_, _, pre0 _ ?_, hrun, hended, _, _, rfl, ?_, ⟨_, rfl⟩, hW, hsame.mono (by decide) (by decide)⟩
  · show Steps p.tables e below (s₁.setTop (mkF m 0 #[.val (.int p1), .unset, .unset, .unset, .unset] [])) _
    refine st2 _ ?_
    show Steps p.tables e below (T2.setTop (mkF m 3 #[.val (.int p1), .unset, .unset, .unset, .unset] [(.ref h0.size)])) _
    refine XS.astoreN X2.here hx rfl (hb hby d1_3) rfl rfl (l' := #[.val (.int p1), .val (.ref h0.size), .unset, .unset, .unset]) rfl ?_
    show Steps p.tables e below (T2.setTop (mkF m 4 #[.val (.int p1), .val (.ref h0.size), .unset, .unset, .unset] [])) _
    refine XS.aloadN X2.here hx rfl (hb hby d1_4) rfl rfl ?_
    show Steps p.tables e below (T2.setTop (mkF m 5 #[.val (.int p1), .val (.ref h0.size), .unset, .unset, .unset] [(.ref h0.size)])) _
    refine X2.arraylength hx (by rw [e2]; exact A2.1) (State.isArrayOf_alike hZ.alike A2.2.1) (g := (mkF m 5 #[.val (.int p1), .val (.ref h0.size), .unset, .unset, .unset] [(.ref h0.size)])) rfl rfl (hb hby d1_5) _ ?_
    rw [len_of S2 M2]
    show Steps p.tables e below (T2.setTop (mkF m 6 #[.val (.int p1), .val (.ref h0.size), .unset, .unset, .unset] [(.int (8 : Int32))])) _
    refine XS.istoreN X2.here hx rfl (hb hby d1_6) rfl (l' := #[.val (.int p1), .val (.ref h0.size), .val (.int (8 : Int32)), .unset, .unset]) rfl ?_
    show Steps p.tables e below (T2.setTop (mkF m 7 #[.val (.int p1), .val (.ref h0.size), .val (.int (8 : Int32)), .unset, .unset] [])) _
    refine XS.iconst X2.here hx rfl (hb hby d1_7) ?_
    show Steps p.tables e below (T2.setTop (mkF m 8 #[.val (.int p1), .val (.ref h0.size), .val (.int (8 : Int32)), .unset, .unset] [(.int (0 : Int32))])) _
    refine XS.istoreN X2.here hx rfl (hb hby d1_8) rfl (l' := #[.val (.int p1), .val (.ref h0.size), .val (.int (8 : Int32)), .val (.int (0 : Int32)), .unset]) rfl ?_
    show Steps p.tables e below (T2.setTop (mkF m 9 #[.val (.int p1), .val (.ref h0.size), .val (.int (8 : Int32)), .val (.int (0 : Int32)), .unset] [])) _
    refine st3 _ ?_
    rw [i3]
    show Steps p.tables e below (T3.setTop (mkF m 9 #[.val (.int p1), .val (.ref h0.size), .val (.int (8 : Int32)), .val (.int (1 : Int32)), .val (.ref w_COMMAND_REQUEST)] [])) _
    refine st4 _ ?_
    rw [i4]
    show Steps p.tables e below (T4.setTop (mkF m 9 #[.val (.int p1), .val (.ref h0.size), .val (.int (8 : Int32)), .val (.int (2 : Int32)), .val (.ref w_COMMAND_DATA)] [])) _
    refine st5 _ ?_
    show Steps p.tables e below (T5.setTop (mkF m 30 #[.val (.int p1), .val (.ref h0.size), .val (.int (8 : Int32)), .val (.int (2 : Int32)), .val (.ref w_COMMAND_RESPONSE)] [(.ref w_COMMAND_RESPONSE)])) _
    jvm_step X5.here [X5.here.top, hx, (hb hby d1_30), X5.method', Bd.returns, Value.isRef, FieldType.isReference]
    first | (intro acts; rw [hr _ acts rfl rfl rfl]) | rw [hr _ _ rfl rfl rfl]
    exact Steps.refl _
  · show (own_kret (.ref w_COMMAND_RESPONSE) n0 h0) _ T5.heap _
    rw [e5]
    exact ⟨rfl, N2, K2⟩
set_option maxRecDepth 65536 in
set_option maxHeartbeats 40000000 in
theorem own_of_3 (l : Launch) (Z : State) (a0 : Array Value) (hw : ∀ d ∈ tables_1, d.before a0 Z = true) (ws : List Jvm.Cond) (p1 : Int32) (wV : Addr) (clV : Cell) (h0 : Heap) (n0 : Nat) (Z0 : n0 ≤ h0.size) (S_V : Sta Z h0 "com/example/framewire/framewire/protocol/FrameType" "$VALUES" "[Lcom/example/framewire/framewire/protocol/FrameType;" (.ref wV)) (A_V : Arr Z h0 wV clV (.object "com/example/framewire/framewire/protocol/FrameType")) (Ex_V : Exa Z h0 wV "[Lcom/example/framewire/framewire/protocol/FrameType;") (Ft_V : FitC Z clV) (S_Vz : clV.slots.size = 8) (w_COMMAND_REQUEST : Addr) (F_COMMAND_REQUEST : Fld Z h0 w_COMMAND_REQUEST "com/example/framewire/framewire/protocol/FrameType" "code" "I" (.int (1 : Int32))) (P_COMMAND_REQUEST : ¬ ((0 : Int32) < 0 ∨ clV.slots.size ≤ (0 : Int32).toNatClampNeg) ∧ clV.slots[(0 : Int32).toNatClampNeg]? = some (.ref w_COMMAND_REQUEST)) (h_COMMAND_REQUEST : ¬ (1 : Int32) = p1) (w_COMMAND_DATA : Addr) (F_COMMAND_DATA : Fld Z h0 w_COMMAND_DATA "com/example/framewire/framewire/protocol/FrameType" "code" "I" (.int (2 : Int32))) (P_COMMAND_DATA : ¬ ((1 : Int32) < 0 ∨ clV.slots.size ≤ (1 : Int32).toNatClampNeg) ∧ clV.slots[(1 : Int32).toNatClampNeg]? = some (.ref w_COMMAND_DATA)) (h_COMMAND_DATA : ¬ (2 : Int32) = p1) (w_COMMAND_RESPONSE : Addr) (F_COMMAND_RESPONSE : Fld Z h0 w_COMMAND_RESPONSE "com/example/framewire/framewire/protocol/FrameType" "code" "I" (.int (3 : Int32))) (P_COMMAND_RESPONSE : ¬ ((2 : Int32) < 0 ∨ clV.slots.size ≤ (2 : Int32).toNatClampNeg) ∧ clV.slots[(2 : Int32).toNatClampNeg]? = some (.ref w_COMMAND_RESPONSE)) (h_COMMAND_RESPONSE : ¬ (3 : Int32) = p1) (w_ERROR_OCCURRED : Addr) (F_ERROR_OCCURRED : Fld Z h0 w_ERROR_OCCURRED "com/example/framewire/framewire/protocol/FrameType" "code" "I" (.int (5 : Int32))) (P_ERROR_OCCURRED : ¬ ((3 : Int32) < 0 ∨ clV.slots.size ≤ (3 : Int32).toNatClampNeg) ∧ clV.slots[(3 : Int32).toNatClampNeg]? = some (.ref w_ERROR_OCCURRED)) (h_eq : (5 : Int32) = p1) :
    MetFree l (⟨"com/example/framewire/framewire/protocol/FrameType", "of", "(I)Lcom/example/framewire/framewire/protocol/FrameType;"⟩ : MethodName) (head1 (Jvm.Cond.code (⟨"com/example/framewire/framewire/protocol/FrameType", "of", "(I)Lcom/example/framewire/framewire/protocol/FrameType;"⟩ : MethodName) prog_15_method_4_code 5 (some (.object "com/example/framewire/framewire/protocol/FrameType")) :: ws) ({ frames := 2, cells := 1, slots := 8, locals := 25 } : Room)) (fun a U => a = #[(.int p1)] ∧ Z.Warmed39 U.vm ∧ U.heap = h0) (fun _ _ _ _ _ => True) (fun _ U o U' => ∃ v L, o = .returned v ∧ (own_kret (.ref w_ERROR_OCCURRED) n0 h0) v U'.heap L ∧ FrameEnd U o U' L ({ frames := 2, cells := 1, slots := 8, locals := 25 } : Room).cells ({ frames := 2, cells := 1, slots := 8, locals := 25 } : Room).slots) := by
  refine MetFree.of_bodySF (plainFor_of_name pn_1) hisR ?_
  intro p e s m args below meth c s₁ Bd hml0 hP hK
  obtain ⟨rfl, hZ, hh⟩ := hP
  have hx := Bd.exec
  have hby := Bd.bytes
  have hml : c.maxLocals = 5 := hml0
  have hown : s.vm.findClass "com/example/framewire/framewire/protocol/FrameType" = some m.cls := findClass_of_methodNamed Bd.named
  have hnm := (name_of_methodNamed Bd.named Bd.method).1
  have X0 : Stand p l e ({ frames := 2, cells := 1, slots := 8, locals := 25 } : Room) s m #[(.int p1)] below meth c s₁ [] 0 0 := Stand.of_body Bd
  have e0 : s₁.heap = h0 := by rw [← hh, Bd.state]; rfl
  have N0 := Fr.nil n0
  have pre0 : ∀ t, Steps p.tables e below (s₁.setTop (mkF m 0 #[.val (.int p1), .unset, .unset, .unset, .unset] [])) t → Steps p.tables e below (s₁.setTop (entryFrame m #[(.int p1)] 5)) t := fun t k => castTop (ef_1 m p1) k
  obtain ⟨_, _, ⟨T2, L2, k2, n2⟩, -, X2, ⟨Lc2, hQ2, l2, y2, z2⟩, st2⟩ := Jvm.LawKit.callS X0 hx (y := (⟨"com/example/framewire/framewire/protocol/FrameType", "values", "()[Lcom/example/framewire/framewire/protocol/FrameType;"⟩ : MethodName)) hown (mvT hZ (hw _ (List.mem_of_getElem? (i := 4) rfl))) (mvT hZ (hw _ (List.mem_of_getElem? (i := 5) rfl))) (mvT hZ (hw _ (List.mem_of_getElem? (i := 2) rfl))) (mvT hZ (hw _ (List.mem_of_getElem? (i := 6) rfl))) (by decide) (backOf (W := 0) (own_values l Z a0 hw [] wV clV h0 n0 Z0 S_V A_V Ex_V Ft_V S_Vz) hZ (hw _ (List.mem_of_getElem? (i := 6) rfl)) (hw _ (List.mem_of_getElem? (i := 2) rfl)) (by decide) (by decide)) (g := (mkF m 0 #[.val (.int p1), .unset, .unset, .unset, .unset] [])) rfl (by rw [hml]; rfl) (argsL := []) (rest := []) (lenOf pd_v rfl) rfl (by show 2 * 0 + _ ≤ _; exact Nat.le_of_eq rfl) (hb hby d1_0) (fun _ _ => ⟨rfl, e0, (by decide : 0 + 1 ≤ _), (by decide : 0 + 8 ≤ _)⟩)
  dsimp only [Pt.U, Pt.locs, Pt.cells, Pt.slots] at X2 l2 y2 z2 st2 hQ2
  subst l2 y2 z2
  obtain ⟨rfl, N2q, K2, A2⟩ := hQ2
  have e2 : T2.heap = T2.heap := rfl
  have S2 : (cloneOf clV).slots.size = (8 : Int32).toNatClampNeg := S_Vz
  have M2 : ¬ (8 : Int32) < 0 := by decide
  have N2 := Fr.app N0 N2q
  obtain ⟨T3, X3, e3, st3⟩ := tn1_9_9 p1 h0.size (8 : Int32) (0 : Int32) (.unset) w_COMMAND_REQUEST (cloneOf clV) (1 : Int32) X2 hx hZ hw hby hml hown e2 A2 P_COMMAND_REQUEST.1 P_COMMAND_REQUEST.2 (One.u) (F_COMMAND_REQUEST.ext (own_ext K2)) (by decide) h_COMMAND_REQUEST
  have i3 : (0 : Int32) + (1 : Int32) = (1 : Int32) := by decide
  obtain ⟨T4, X4, e4, st4⟩ := tn1_9_9 p1 h0.size (8 : Int32) (1 : Int32) (.val (.ref w_COMMAND_REQUEST)) w_COMMAND_DATA (cloneOf clV) (2 : Int32) X3 hx hZ hw hby hml hown e3 A2 P_COMMAND_DATA.1 P_COMMAND_DATA.2 (One.val rfl) (F_COMMAND_DATA.ext (own_ext K2)) (by decide) h_COMMAND_DATA
  have i4 : (1 : Int32) + (1 : Int32) = (2 : Int32) := by decide
  obtain ⟨T5, X5, e5, st5⟩ := tn1_9_9 p1 h0.size (8 : Int32) (2 : Int32) (.val (.ref w_COMMAND_DATA)) w_COMMAND_RESPONSE (cloneOf clV) (3 : Int32) X4 hx hZ hw hby hml hown e4 A2 P_COMMAND_RESPONSE.1 P_COMMAND_RESPONSE.2 (One.val rfl) (F_COMMAND_RESPONSE.ext (own_ext K2)) (by decide) h_COMMAND_RESPONSE
  have i5 : (2 : Int32) + (1 : Int32) = (3 : Int32) := by decide
  obtain ⟨T6, X6, e6, st6⟩ := tn1_9_30 p1 h0.size (8 : Int32) (3 : Int32) (.val (.ref w_COMMAND_RESPONSE)) w_ERROR_OCCURRED (cloneOf clV) (5 : Int32) X5 hx hZ hw hby hml hown e5 A2 P_ERROR_OCCURRED.1 P_ERROR_OCCURRED.2 (One.val rfl) (F_ERROR_OCCURRED.ext (own_ext K2)) (by decide) h_eq
  obtain ⟨fs, hr, hrun, hended, hW, hsame⟩ := X6.leave (v := some (.ref w_ERROR_OCCURRED)) (fun h => by rw [Bd.returns] at h; cases h)
  refine ⟨_, _, pre0 _ ?_, hrun, hended, _, _, rfl, ?_, ⟨_, rfl⟩, hW, hsame.mono (by decide) (by decide)⟩
  · show Steps p.tables e below (s₁.setTop (mkF m 0 #[.val (.int p1), .unset, .unset, .unset, .unset] [])) _
    refine st2 _ ?_
    show Steps p.tables e below (T2.setTop (mkF m 3 #[.val (.int p1), .unset, .unset, .unset, .unset] [(.ref h0.size)])) _
    refine XS.astoreN X2.here hx rfl (hb hby d1_3) rfl rfl (l' := #[.val (.int p1), .val (.ref h0.size), .unset, .unset, .unset]) rfl ?_
    show Steps p.tables e below (T2.setTop (mkF m 4 #[.val (.int p1), .val (.ref h0.size), .unset, .unset, .unset] [])) _
    refine XS.aloadN X2.here hx rfl (hb hby d1_4) rfl rfl ?_
    show Steps p.tables e below (T2.setTop (mkF m 5 #[.val (.int p1), .val (.ref h0.size), .unset, .unset, .unset] [(.ref h0.size)])) _
    refine X2.arraylength hx (by rw [e2]; exact A2.1) (State.isArrayOf_alike hZ.alike A2.2.1) (g := (mkF m 5 #[.val (.int p1), .val (.ref h0.size), .unset, .unset, .unset] [(.ref h0.size)])) rfl rfl (hb hby d1_5) _ ?_
    rw [len_of S2 M2]
    show Steps p.tables e below (T2.setTop (mkF m 6 #[.val (.int p1), .val (.ref h0.size), .unset, .unset, .unset] [(.int (8 : Int32))])) _
    refine XS.istoreN X2.here hx rfl (hb hby d1_6) rfl (l' := #[.val (.int p1), .val (.ref h0.size), .val (.int (8 : Int32)), .unset, .unset]) rfl ?_
    show Steps p.tables e below (T2.setTop (mkF m 7 #[.val (.int p1), .val (.ref h0.size), .val (.int (8 : Int32)), .unset, .unset] [])) _
    refine XS.iconst X2.here hx rfl (hb hby d1_7) ?_
    show Steps p.tables e below (T2.setTop (mkF m 8 #[.val (.int p1), .val (.ref h0.size), .val (.int (8 : Int32)), .unset, .unset] [(.int (0 : Int32))])) _
    refine XS.istoreN X2.here hx rfl (hb hby d1_8) rfl (l' := #[.val (.int p1), .val (.ref h0.size), .val (.int (8 : Int32)), .val (.int (0 : Int32)), .unset]) rfl ?_
    show Steps p.tables e below (T2.setTop (mkF m 9 #[.val (.int p1), .val (.ref h0.size), .val (.int (8 : Int32)), .val (.int (0 : Int32)), .unset] [])) _
    refine st3 _ ?_
    rw [i3]
    show Steps p.tables e below (T3.setTop (mkF m 9 #[.val (.int p1), .val (.ref h0.size), .val (.int (8 : Int32)), .val (.int (1 : Int32)), .val (.ref w_COMMAND_REQUEST)] [])) _
    refine st4 _ ?_
    rw [i4]
    show Steps p.tables e below (T4.setTop (mkF m 9 #[.val (.int p1), .val (.ref h0.size), .val (.int (8 : Int32)), .val (.int (2 : Int32)), .val (.ref w_COMMAND_DATA)] [])) _
    refine st5 _ ?_
    rw [i5]
    show Steps p.tables e below (T5.setTop (mkF m 9 #[.val (.int p1), .val (.ref h0.size), .val (.int (8 : Int32)), .val (.int (3 : Int32)), .val (.ref w_COMMAND_RESPONSE)] [])) _
    refine st6 _ ?_
    show Steps p.tables e below (T6.setTop (mkF m 30 #[.val (.int p1), .val (.ref h0.size), .val (.int (8 : Int32)), .val (.int (3 : Int32)), .val (.ref w_ERROR_OCCURRED)] [(.ref w_ERROR_OCCURRED)])) _
    jvm_step X6.here [X6.here.top, hx, (hb hby d1_30), X6.method', Bd.returns, Value.isRef, FieldType.isReference]
    first | (intro acts; rw [hr _ acts rfl rfl rfl]) | rw [hr _ _ rfl rfl rfl]
    exact Steps.refl _
  · show (own_kret (.ref w_ERROR_OCCURRED) n0 h0) _ T6.heap _
    rw [e6]
    exact ⟨rfl, N2, K2⟩
set_option maxRecDepth 65536 in
set_option maxHeartbeats 40000000 in
theorem own_of_4 (l : Launch) (Z : State) (a0 : Array Value) (hw : ∀ d ∈ tables_1, d.before a0 Z = true) (ws : List Jvm.Cond) (p1 : Int32) (wV : Addr) (clV : Cell) (h0 : Heap) (n0 : Nat) (Z0 : n0 ≤ h0.size) (S_V : Sta Z h0 "com/example/framewire/framewire/protocol/FrameType" "$VALUES" "[Lcom/example/framewire/framewire/protocol/FrameType;" (.ref wV)) (A_V : Arr Z h0 wV clV (.object "com/example/framewire/framewire/protocol/FrameType")) (Ex_V : Exa Z h0 wV "[Lcom/example/framewire/framewire/protocol/FrameType;") (Ft_V : FitC Z clV) (S_Vz : clV.slots.size = 8) (w_COMMAND_REQUEST : Addr) (F_COMMAND_REQUEST : Fld Z h0 w_COMMAND_REQUEST "com/example/framewire/framewire/protocol/FrameType" "code" "I" (.int (1 : Int32))) (P_COMMAND_REQUEST : ¬ ((0 : Int32) < 0 ∨ clV.slots.size ≤ (0 : Int32).toNatClampNeg) ∧ clV.slots[(0 : Int32).toNatClampNeg]? = some (.ref w_COMMAND_REQUEST)) (h_COMMAND_REQUEST : ¬ (1 : Int32) = p1) (w_COMMAND_DATA : Addr) (F_COMMAND_DATA : Fld Z h0 w_COMMAND_DATA "com/example/framewire/framewire/protocol/FrameType" "code" "I" (.int (2 : Int32))) (P_COMMAND_DATA : ¬ ((1 : Int32) < 0 ∨ clV.slots.size ≤ (1 : Int32).toNatClampNeg) ∧ clV.slots[(1 : Int32).toNatClampNeg]? = some (.ref w_COMMAND_DATA)) (h_COMMAND_DATA : ¬ (2 : Int32) = p1) (w_COMMAND_RESPONSE : Addr) (F_COMMAND_RESPONSE : Fld Z h0 w_COMMAND_RESPONSE "com/example/framewire/framewire/protocol/FrameType" "code" "I" (.int (3 : Int32))) (P_COMMAND_RESPONSE : ¬ ((2 : Int32) < 0 ∨ clV.slots.size ≤ (2 : Int32).toNatClampNeg) ∧ clV.slots[(2 : Int32).toNatClampNeg]? = some (.ref w_COMMAND_RESPONSE)) (h_COMMAND_RESPONSE : ¬ (3 : Int32) = p1) (w_ERROR_OCCURRED : Addr) (F_ERROR_OCCURRED : Fld Z h0 w_ERROR_OCCURRED "com/example/framewire/framewire/protocol/FrameType" "code" "I" (.int (5 : Int32))) (P_ERROR_OCCURRED : ¬ ((3 : Int32) < 0 ∨ clV.slots.size ≤ (3 : Int32).toNatClampNeg) ∧ clV.slots[(3 : Int32).toNatClampNeg]? = some (.ref w_ERROR_OCCURRED)) (h_ERROR_OCCURRED : ¬ (5 : Int32) = p1) (w_HUMAN_OUTPUT : Addr) (F_HUMAN_OUTPUT : Fld Z h0 w_HUMAN_OUTPUT "com/example/framewire/framewire/protocol/FrameType" "code" "I" (.int (6 : Int32))) (P_HUMAN_OUTPUT : ¬ ((4 : Int32) < 0 ∨ clV.slots.size ≤ (4 : Int32).toNatClampNeg) ∧ clV.slots[(4 : Int32).toNatClampNeg]? = some (.ref w_HUMAN_OUTPUT)) (h_eq : (6 : Int32) = p1) :
    MetFree l (⟨"com/example/framewire/framewire/protocol/FrameType", "of", "(I)Lcom/example/framewire/framewire/protocol/FrameType;"⟩ : MethodName) (head1 (Jvm.Cond.code (⟨"com/example/framewire/framewire/protocol/FrameType", "of", "(I)Lcom/example/framewire/framewire/protocol/FrameType;"⟩ : MethodName) prog_15_method_4_code 5 (some (.object "com/example/framewire/framewire/protocol/FrameType")) :: ws) ({ frames := 2, cells := 1, slots := 8, locals := 25 } : Room)) (fun a U => a = #[(.int p1)] ∧ Z.Warmed39 U.vm ∧ U.heap = h0) (fun _ _ _ _ _ => True) (fun _ U o U' => ∃ v L, o = .returned v ∧ (own_kret (.ref w_HUMAN_OUTPUT) n0 h0) v U'.heap L ∧ FrameEnd U o U' L ({ frames := 2, cells := 1, slots := 8, locals := 25 } : Room).cells ({ frames := 2, cells := 1, slots := 8, locals := 25 } : Room).slots) := by
  refine MetFree.of_bodySF (plainFor_of_name pn_1) hisR ?_
  intro p e s m args below meth c s₁ Bd hml0 hP hK
  obtain ⟨rfl, hZ, hh⟩ := hP
  have hx := Bd.exec
  have hby := Bd.bytes
  have hml : c.maxLocals = 5 := hml0
  have hown : s.vm.findClass "com/example/framewire/framewire/protocol/FrameType" = some m.cls := findClass_of_methodNamed Bd.named
  have hnm := (name_of_methodNamed Bd.named Bd.method).1
  have X0 : Stand p l e ({ frames := 2, cells := 1, slots := 8, locals := 25 } : Room) s m #[(.int p1)] below meth c s₁ [] 0 0 := Stand.of_body Bd
  have e0 : s₁.heap = h0 := by rw [← hh, Bd.state]; rfl
  have N0 := Fr.nil n0
  have pre0 : ∀ t, Steps p.tables e below (s₁.setTop (mkF m 0 #[.val (.int p1), .unset, .unset, .unset, .unset] [])) t → Steps p.tables e below (s₁.setTop (entryFrame m #[(.int p1)] 5)) t := fun t k => castTop (ef_1 m p1) k
  obtain ⟨_, _, ⟨T2, L2, k2, n2⟩, -, X2, ⟨Lc2, hQ2, l2, y2, z2⟩, st2⟩ := Jvm.LawKit.callS X0 hx (y := (⟨"com/example/framewire/framewire/protocol/FrameType", "values", "()[Lcom/example/framewire/framewire/protocol/FrameType;"⟩ : MethodName)) hown (mvT hZ (hw _ (List.mem_of_getElem? (i := 4) rfl))) (mvT hZ (hw _ (List.mem_of_getElem? (i := 5) rfl))) (mvT hZ (hw _ (List.mem_of_getElem? (i := 2) rfl))) (mvT hZ (hw _ (List.mem_of_getElem? (i := 6) rfl))) (by decide) (backOf (W := 0) (own_values l Z a0 hw [] wV clV h0 n0 Z0 S_V A_V Ex_V Ft_V S_Vz) hZ (hw _ (List.mem_of_getElem? (i := 6) rfl)) (hw _ (List.mem_of_getElem? (i := 2) rfl)) (by decide) (by decide)) (g := (mkF m 0 #[.val (.int p1), .unset, .unset, .unset, .unset] [])) rfl (by rw [hml]; rfl) (argsL := []) (rest := []) (lenOf pd_v rfl) rfl (by show 2 * 0 + _ ≤ _; exact Nat.le_of_eq rfl) (hb hby d1_0) (fun _ _ => ⟨rfl, e0, (by decide : 0 + 1 ≤ _), (by decide : 0 + 8 ≤ _)⟩)
  dsimp only [Pt.U, Pt.locs, Pt.cells, Pt.slots] at X2 l2 y2 z2 st2 hQ2
  subst l2 y2 z2
  obtain ⟨rfl, N2q, K2, A2⟩ := hQ2
  have e2 : T2.heap = T2.heap := rfl
  have S2 : (cloneOf clV).slots.size = (8 : Int32).toNatClampNeg := S_Vz
  have M2 : ¬ (8 : Int32) < 0 := by decide
  have N2 := Fr.app N0 N2q
  obtain ⟨T3, X3, e3, st3⟩ := tn1_9_9 p1 h0.size (8 : Int32) (0 : Int32) (.unset) w_COMMAND_REQUEST (cloneOf clV) (1 : Int32) X2 hx hZ hw hby hml hown e2 A2 P_COMMAND_REQUEST.1 P_COMMAND_REQUEST.2 (One.u) (F_COMMAND_REQUEST.ext (own_ext K2)) (by decide) h_COMMAND_REQUEST
  have i3 : (0 : Int32) + (1 : Int32) = (1 : Int32) := by decide
  obtain ⟨T4, X4, e4, st4⟩ := tn1_9_9 p1 h0.size (8 : Int32) (1 : Int32) (.val (.ref w_COMMAND_REQUEST)) w_COMMAND_DATA (cloneOf clV) (2 : Int32) X3 hx hZ hw hby hml hown e3 A2 P_COMMAND_DATA.1 P_COMMAND_DATA.2 (One.val rfl) (F_COMMAND_DATA.ext (own_ext K2)) (by decide) h_COMMAND_DATA
  have i4 : (1 : Int32) + (1 : Int32) = (2 : Int32) := by decide
  obtain ⟨T5, X5, e5, st5⟩ := tn1_9_9 p1 h0.size (8 : Int32) (2 : Int32) (.val (.ref w_COMMAND_DATA)) w_COMMAND_RESPONSE (cloneOf clV) (3 : Int32) X4 hx hZ hw hby hml hown e4 A2 P_COMMAND_RESPONSE.1 P_COMMAND_RESPONSE.2 (One.val rfl) (F_COMMAND_RESPONSE.ext (own_ext K2)) (by decide) h_COMMAND_RESPONSE
  have i5 : (2 : Int32) + (1 : Int32) = (3 : Int32) := by decide
  obtain ⟨T6, X6, e6, st6⟩ := tn1_9_9 p1 h0.size (8 : Int32) (3 : Int32) (.val (.ref w_COMMAND_RESPONSE)) w_ERROR_OCCURRED (cloneOf clV) (5 : Int32) X5 hx hZ hw hby hml hown e5 A2 P_ERROR_OCCURRED.1 P_ERROR_OCCURRED.2 (One.val rfl) (F_ERROR_OCCURRED.ext (own_ext K2)) (by decide) h_ERROR_OCCURRED
  have i6 : (3 : Int32) + (1 : Int32) = (4 : Int32) := by decide
  obtain ⟨T7, X7, e7, st7⟩ := tn1_9_30 p1 h0.size (8 : Int32) (4 : Int32) (.val (.ref w_ERROR_OCCURRED)) w_HUMAN_OUTPUT (cloneOf clV) (6 : Int32) X6 hx hZ hw hby hml hown e6 A2 P_HUMAN_OUTPUT.1 P_HUMAN_OUTPUT.2 (One.val rfl) (F_HUMAN_OUTPUT.ext (own_ext K2)) (by decide) h_eq
  obtain ⟨fs, hr, hrun, hended, hW, hsame⟩ := X7.leave (v := some (.ref w_HUMAN_OUTPUT)) (fun h => by rw [Bd.returns] at h; cases h)
  refine ⟨_, _, pre0 _ ?_, hrun, hended, _, _, rfl, ?_, ⟨_, rfl⟩, hW, hsame.mono (by decide) (by decide)⟩
  · show Steps p.tables e below (s₁.setTop (mkF m 0 #[.val (.int p1), .unset, .unset, .unset, .unset] [])) _
    refine st2 _ ?_
    show Steps p.tables e below (T2.setTop (mkF m 3 #[.val (.int p1), .unset, .unset, .unset, .unset] [(.ref h0.size)])) _
    refine XS.astoreN X2.here hx rfl (hb hby d1_3) rfl rfl (l' := #[.val (.int p1), .val (.ref h0.size), .unset, .unset, .unset]) rfl ?_
    show Steps p.tables e below (T2.setTop (mkF m 4 #[.val (.int p1), .val (.ref h0.size), .unset, .unset, .unset] [])) _
    refine XS.aloadN X2.here hx rfl (hb hby d1_4) rfl rfl ?_
    show Steps p.tables e below (T2.setTop (mkF m 5 #[.val (.int p1), .val (.ref h0.size), .unset, .unset, .unset] [(.ref h0.size)])) _
    refine X2.arraylength hx (by rw [e2]; exact A2.1) (State.isArrayOf_alike hZ.alike A2.2.1) (g := (mkF m 5 #[.val (.int p1), .val (.ref h0.size), .unset, .unset, .unset] [(.ref h0.size)])) rfl rfl (hb hby d1_5) _ ?_
    rw [len_of S2 M2]
    show Steps p.tables e below (T2.setTop (mkF m 6 #[.val (.int p1), .val (.ref h0.size), .unset, .unset, .unset] [(.int (8 : Int32))])) _
    refine XS.istoreN X2.here hx rfl (hb hby d1_6) rfl (l' := #[.val (.int p1), .val (.ref h0.size), .val (.int (8 : Int32)), .unset, .unset]) rfl ?_
    show Steps p.tables e below (T2.setTop (mkF m 7 #[.val (.int p1), .val (.ref h0.size), .val (.int (8 : Int32)), .unset, .unset] [])) _
    refine XS.iconst X2.here hx rfl (hb hby d1_7) ?_
    show Steps p.tables e below (T2.setTop (mkF m 8 #[.val (.int p1), .val (.ref h0.size), .val (.int (8 : Int32)), .unset, .unset] [(.int (0 : Int32))])) _
    refine XS.istoreN X2.here hx rfl (hb hby d1_8) rfl (l' := #[.val (.int p1), .val (.ref h0.size), .val (.int (8 : Int32)), .val (.int (0 : Int32)), .unset]) rfl ?_
    show Steps p.tables e below (T2.setTop (mkF m 9 #[.val (.int p1), .val (.ref h0.size), .val (.int (8 : Int32)), .val (.int (0 : Int32)), .unset] [])) _
    refine st3 _ ?_
    rw [i3]
    show Steps p.tables e below (T3.setTop (mkF m 9 #[.val (.int p1), .val (.ref h0.size), .val (.int (8 : Int32)), .val (.int (1 : Int32)), .val (.ref w_COMMAND_REQUEST)] [])) _
    refine st4 _ ?_
    rw [i4]
    show Steps p.tables e below (T4.setTop (mkF m 9 #[.val (.int p1), .val (.ref h0.size), .val (.int (8 : Int32)), .val (.int (2 : Int32)), .val (.ref w_COMMAND_DATA)] [])) _
    refine st5 _ ?_
    rw [i5]
    show Steps p.tables e below (T5.setTop (mkF m 9 #[.val (.int p1), .val (.ref h0.size), .val (.int (8 : Int32)), .val (.int (3 : Int32)), .val (.ref w_COMMAND_RESPONSE)] [])) _
    refine st6 _ ?_
    rw [i6]
    show Steps p.tables e below (T6.setTop (mkF m 9 #[.val (.int p1), .val (.ref h0.size), .val (.int (8 : Int32)), .val (.int (4 : Int32)), .val (.ref w_ERROR_OCCURRED)] [])) _
    refine st7 _ ?_
    show Steps p.tables e below (T7.setTop (mkF m 30 #[.val (.int p1), .val (.ref h0.size), .val (.int (8 : Int32)), .val (.int (4 : Int32)), .val (.ref w_HUMAN_OUTPUT)] [(.ref w_HUMAN_OUTPUT)])) _
    jvm_step X7.here [X7.here.top, hx, (hb hby d1_30), X7.method', Bd.returns, Value.isRef, FieldType.isReference]
    first | (intro acts; rw [hr _ acts rfl rfl rfl]) | rw [hr _ _ rfl rfl rfl]
    exact Steps.refl _
  · show (own_kret (.ref w_HUMAN_OUTPUT) n0 h0) _ T7.heap _
    rw [e7]
    exact ⟨rfl, N2, K2⟩
set_option maxRecDepth 65536 in
set_option maxHeartbeats 40000000 in
theorem own_of_5 (l : Launch) (Z : State) (a0 : Array Value) (hw : ∀ d ∈ tables_1, d.before a0 Z = true) (ws : List Jvm.Cond) (p1 : Int32) (wV : Addr) (clV : Cell) (h0 : Heap) (n0 : Nat) (Z0 : n0 ≤ h0.size) (S_V : Sta Z h0 "com/example/framewire/framewire/protocol/FrameType" "$VALUES" "[Lcom/example/framewire/framewire/protocol/FrameType;" (.ref wV)) (A_V : Arr Z h0 wV clV (.object "com/example/framewire/framewire/protocol/FrameType")) (Ex_V : Exa Z h0 wV "[Lcom/example/framewire/framewire/protocol/FrameType;") (Ft_V : FitC Z clV) (S_Vz : clV.slots.size = 8) (w_COMMAND_REQUEST : Addr) (F_COMMAND_REQUEST : Fld Z h0 w_COMMAND_REQUEST "com/example/framewire/framewire/protocol/FrameType" "code" "I" (.int (1 : Int32))) (P_COMMAND_REQUEST : ¬ ((0 : Int32) < 0 ∨ clV.slots.size ≤ (0 : Int32).toNatClampNeg) ∧ clV.slots[(0 : Int32).toNatClampNeg]? = some (.ref w_COMMAND_REQUEST)) (h_COMMAND_REQUEST : ¬ (1 : Int32) = p1) (w_COMMAND_DATA : Addr) (F_COMMAND_DATA : Fld Z h0 w_COMMAND_DATA "com/example/framewire/framewire/protocol/FrameType" "code" "I" (.int (2 : Int32))) (P_COMMAND_DATA : ¬ ((1 : Int32) < 0 ∨ clV.slots.size ≤ (1 : Int32).toNatClampNeg) ∧ clV.slots[(1 : Int32).toNatClampNeg]? = some (.ref w_COMMAND_DATA)) (h_COMMAND_DATA : ¬ (2 : Int32) = p1) (w_COMMAND_RESPONSE : Addr) (F_COMMAND_RESPONSE : Fld Z h0 w_COMMAND_RESPONSE "com/example/framewire/framewire/protocol/FrameType" "code" "I" (.int (3 : Int32))) (P_COMMAND_RESPONSE : ¬ ((2 : Int32) < 0 ∨ clV.slots.size ≤ (2 : Int32).toNatClampNeg) ∧ clV.slots[(2 : Int32).toNatClampNeg]? = some (.ref w_COMMAND_RESPONSE)) (h_COMMAND_RESPONSE : ¬ (3 : Int32) = p1) (w_ERROR_OCCURRED : Addr) (F_ERROR_OCCURRED : Fld Z h0 w_ERROR_OCCURRED "com/example/framewire/framewire/protocol/FrameType" "code" "I" (.int (5 : Int32))) (P_ERROR_OCCURRED : ¬ ((3 : Int32) < 0 ∨ clV.slots.size ≤ (3 : Int32).toNatClampNeg) ∧ clV.slots[(3 : Int32).toNatClampNeg]? = some (.ref w_ERROR_OCCURRED)) (h_ERROR_OCCURRED : ¬ (5 : Int32) = p1) (w_HUMAN_OUTPUT : Addr) (F_HUMAN_OUTPUT : Fld Z h0 w_HUMAN_OUTPUT "com/example/framewire/framewire/protocol/FrameType" "code" "I" (.int (6 : Int32))) (P_HUMAN_OUTPUT : ¬ ((4 : Int32) < 0 ∨ clV.slots.size ≤ (4 : Int32).toNatClampNeg) ∧ clV.slots[(4 : Int32).toNatClampNeg]? = some (.ref w_HUMAN_OUTPUT)) (h_HUMAN_OUTPUT : ¬ (6 : Int32) = p1) (w_PROGRESS : Addr) (F_PROGRESS : Fld Z h0 w_PROGRESS "com/example/framewire/framewire/protocol/FrameType" "code" "I" (.int (7 : Int32))) (P_PROGRESS : ¬ ((5 : Int32) < 0 ∨ clV.slots.size ≤ (5 : Int32).toNatClampNeg) ∧ clV.slots[(5 : Int32).toNatClampNeg]? = some (.ref w_PROGRESS)) (h_eq : (7 : Int32) = p1) :
    MetFree l (⟨"com/example/framewire/framewire/protocol/FrameType", "of", "(I)Lcom/example/framewire/framewire/protocol/FrameType;"⟩ : MethodName) (head1 (Jvm.Cond.code (⟨"com/example/framewire/framewire/protocol/FrameType", "of", "(I)Lcom/example/framewire/framewire/protocol/FrameType;"⟩ : MethodName) prog_15_method_4_code 5 (some (.object "com/example/framewire/framewire/protocol/FrameType")) :: ws) ({ frames := 2, cells := 1, slots := 8, locals := 25 } : Room)) (fun a U => a = #[(.int p1)] ∧ Z.Warmed39 U.vm ∧ U.heap = h0) (fun _ _ _ _ _ => True) (fun _ U o U' => ∃ v L, o = .returned v ∧ (own_kret (.ref w_PROGRESS) n0 h0) v U'.heap L ∧ FrameEnd U o U' L ({ frames := 2, cells := 1, slots := 8, locals := 25 } : Room).cells ({ frames := 2, cells := 1, slots := 8, locals := 25 } : Room).slots) := by
  refine MetFree.of_bodySF (plainFor_of_name pn_1) hisR ?_
  intro p e s m args below meth c s₁ Bd hml0 hP hK
  obtain ⟨rfl, hZ, hh⟩ := hP
  have hx := Bd.exec
  have hby := Bd.bytes
  have hml : c.maxLocals = 5 := hml0
  have hown : s.vm.findClass "com/example/framewire/framewire/protocol/FrameType" = some m.cls := findClass_of_methodNamed Bd.named
  have hnm := (name_of_methodNamed Bd.named Bd.method).1
  have X0 : Stand p l e ({ frames := 2, cells := 1, slots := 8, locals := 25 } : Room) s m #[(.int p1)] below meth c s₁ [] 0 0 := Stand.of_body Bd
  have e0 : s₁.heap = h0 := by rw [← hh, Bd.state]; rfl
  have N0 := Fr.nil n0
  have pre0 : ∀ t, Steps p.tables e below (s₁.setTop (mkF m 0 #[.val (.int p1), .unset, .unset, .unset, .unset] [])) t → Steps p.tables e below (s₁.setTop (entryFrame m #[(.int p1)] 5)) t := fun t k => castTop (ef_1 m p1) k
  obtain ⟨_, _, ⟨T2, L2, k2, n2⟩, -, X2, ⟨Lc2, hQ2, l2, y2, z2⟩, st2⟩ := Jvm.LawKit.callS X0 hx (y := (⟨"com/example/framewire/framewire/protocol/FrameType", "values", "()[Lcom/example/framewire/framewire/protocol/FrameType;"⟩ : MethodName)) hown (mvT hZ (hw _ (List.mem_of_getElem? (i := 4) rfl))) (mvT hZ (hw _ (List.mem_of_getElem? (i := 5) rfl))) (mvT hZ (hw _ (List.mem_of_getElem? (i := 2) rfl))) (mvT hZ (hw _ (List.mem_of_getElem? (i := 6) rfl))) (by decide) (backOf (W := 0) (own_values l Z a0 hw [] wV clV h0 n0 Z0 S_V A_V Ex_V Ft_V S_Vz) hZ (hw _ (List.mem_of_getElem? (i := 6) rfl)) (hw _ (List.mem_of_getElem? (i := 2) rfl)) (by decide) (by decide)) (g := (mkF m 0 #[.val (.int p1), .unset, .unset, .unset, .unset] [])) rfl (by rw [hml]; rfl) (argsL := []) (rest := []) (lenOf pd_v rfl) rfl (by show 2 * 0 + _ ≤ _; exact Nat.le_of_eq rfl) (hb hby d1_0) (fun _ _ => ⟨rfl, e0, (by decide : 0 + 1 ≤ _), (by decide : 0 + 8 ≤ _)⟩)
  dsimp only [Pt.U, Pt.locs, Pt.cells, Pt.slots] at X2 l2 y2 z2 st2 hQ2
  subst l2 y2 z2
  obtain ⟨rfl, N2q, K2, A2⟩ := hQ2
  have e2 : T2.heap = T2.heap := rfl
  have S2 : (cloneOf clV).slots.size = (8 : Int32).toNatClampNeg := S_Vz
  have M2 : ¬ (8 : Int32) < 0 := by decide
  have N2 := Fr.app N0 N2q
  obtain ⟨T3, X3, e3, st3⟩ := tn1_9_9 p1 h0.size (8 : Int32) (0 : Int32) (.unset) w_COMMAND_REQUEST (cloneOf clV) (1 : Int32) X2 hx hZ hw hby hml hown e2 A2 P_COMMAND_REQUEST.1 P_COMMAND_REQUEST.2 (One.u) (F_COMMAND_REQUEST.ext (own_ext K2)) (by decide) h_COMMAND_REQUEST
  have i3 : (0 : Int32) + (1 : Int32) = (1 : Int32) := by decide
  obtain ⟨T4, X4, e4, st4⟩ := tn1_9_9 p1 h0.size (8 : Int32) (1 : Int32) (.val (.ref w_COMMAND_REQUEST)) w_COMMAND_DATA (cloneOf clV) (2 : Int32) X3 hx hZ hw hby hml hown e3 A2 P_COMMAND_DATA.1 P_COMMAND_DATA.2 (One.val rfl) (F_COMMAND_DATA.ext (own_ext K2)) (by decide) h_COMMAND_DATA
  have i4 : (1 : Int32) + (1 : Int32) = (2 : Int32) := by decide
  obtain ⟨T5, X5, e5, st5⟩ := tn1_9_9 p1 h0.size (8 : Int32) (2 : Int32) (.val (.ref w_COMMAND_DATA)) w_COMMAND_RESPONSE (cloneOf clV) (3 : Int32) X4 hx hZ hw hby hml hown e4 A2 P_COMMAND_RESPONSE.1 P_COMMAND_RESPONSE.2 (One.val rfl) (F_COMMAND_RESPONSE.ext (own_ext K2)) (by decide) h_COMMAND_RESPONSE
  have i5 : (2 : Int32) + (1 : Int32) = (3 : Int32) := by decide
  obtain ⟨T6, X6, e6, st6⟩ := tn1_9_9 p1 h0.size (8 : Int32) (3 : Int32) (.val (.ref w_COMMAND_RESPONSE)) w_ERROR_OCCURRED (cloneOf clV) (5 : Int32) X5 hx hZ hw hby hml hown e5 A2 P_ERROR_OCCURRED.1 P_ERROR_OCCURRED.2 (One.val rfl) (F_ERROR_OCCURRED.ext (own_ext K2)) (by decide) h_ERROR_OCCURRED
  have i6 : (3 : Int32) + (1 : Int32) = (4 : Int32) := by decide
  obtain ⟨T7, X7, e7, st7⟩ := tn1_9_9 p1 h0.size (8 : Int32) (4 : Int32) (.val (.ref w_ERROR_OCCURRED)) w_HUMAN_OUTPUT (cloneOf clV) (6 : Int32) X6 hx hZ hw hby hml hown e6 A2 P_HUMAN_OUTPUT.1 P_HUMAN_OUTPUT.2 (One.val rfl) (F_HUMAN_OUTPUT.ext (own_ext K2)) (by decide) h_HUMAN_OUTPUT
  have i7 : (4 : Int32) + (1 : Int32) = (5 : Int32) := by decide
  obtain ⟨T8, X8, e8, st8⟩ := tn1_9_30 p1 h0.size (8 : Int32) (5 : Int32) (.val (.ref w_HUMAN_OUTPUT)) w_PROGRESS (cloneOf clV) (7 : Int32) X7 hx hZ hw hby hml hown e7 A2 P_PROGRESS.1 P_PROGRESS.2 (One.val rfl) (F_PROGRESS.ext (own_ext K2)) (by decide) h_eq
  obtain ⟨fs, hr, hrun, hended, hW, hsame⟩ := X8.leave (v := some (.ref w_PROGRESS)) (fun h => by rw [Bd.returns] at h; cases h)
  refine ⟨_, _, pre0 _ ?_, hrun, hended, _, _, rfl, ?_, ⟨_, rfl⟩, hW, hsame.mono (by decide) (by decide)⟩
  · show Steps p.tables e below (s₁.setTop (mkF m 0 #[.val (.int p1), .unset, .unset, .unset, .unset] [])) _
    refine st2 _ ?_
    show Steps p.tables e below (T2.setTop (mkF m 3 #[.val (.int p1), .unset, .unset, .unset, .unset] [(.ref h0.size)])) _
    refine XS.astoreN X2.here hx rfl (hb hby d1_3) rfl rfl (l' := #[.val (.int p1), .val (.ref h0.size), .unset, .unset, .unset]) rfl ?_
    show Steps p.tables e below (T2.setTop (mkF m 4 #[.val (.int p1), .val (.ref h0.size), .unset, .unset, .unset] [])) _
    refine XS.aloadN X2.here hx rfl (hb hby d1_4) rfl rfl ?_
    show Steps p.tables e below (T2.setTop (mkF m 5 #[.val (.int p1), .val (.ref h0.size), .unset, .unset, .unset] [(.ref h0.size)])) _
    refine X2.arraylength hx (by rw [e2]; exact A2.1) (State.isArrayOf_alike hZ.alike A2.2.1) (g := (mkF m 5 #[.val (.int p1), .val (.ref h0.size), .unset, .unset, .unset] [(.ref h0.size)])) rfl rfl (hb hby d1_5) _ ?_
    rw [len_of S2 M2]
    show Steps p.tables e below (T2.setTop (mkF m 6 #[.val (.int p1), .val (.ref h0.size), .unset, .unset, .unset] [(.int (8 : Int32))])) _
    refine XS.istoreN X2.here hx rfl (hb hby d1_6) rfl (l' := #[.val (.int p1), .val (.ref h0.size), .val (.int (8 : Int32)), .unset, .unset]) rfl ?_
    show Steps p.tables e below (T2.setTop (mkF m 7 #[.val (.int p1), .val (.ref h0.size), .val (.int (8 : Int32)), .unset, .unset] [])) _
    refine XS.iconst X2.here hx rfl (hb hby d1_7) ?_
    show Steps p.tables e below (T2.setTop (mkF m 8 #[.val (.int p1), .val (.ref h0.size), .val (.int (8 : Int32)), .unset, .unset] [(.int (0 : Int32))])) _
    refine XS.istoreN X2.here hx rfl (hb hby d1_8) rfl (l' := #[.val (.int p1), .val (.ref h0.size), .val (.int (8 : Int32)), .val (.int (0 : Int32)), .unset]) rfl ?_
    show Steps p.tables e below (T2.setTop (mkF m 9 #[.val (.int p1), .val (.ref h0.size), .val (.int (8 : Int32)), .val (.int (0 : Int32)), .unset] [])) _
    refine st3 _ ?_
    rw [i3]
    show Steps p.tables e below (T3.setTop (mkF m 9 #[.val (.int p1), .val (.ref h0.size), .val (.int (8 : Int32)), .val (.int (1 : Int32)), .val (.ref w_COMMAND_REQUEST)] [])) _
    refine st4 _ ?_
    rw [i4]
    show Steps p.tables e below (T4.setTop (mkF m 9 #[.val (.int p1), .val (.ref h0.size), .val (.int (8 : Int32)), .val (.int (2 : Int32)), .val (.ref w_COMMAND_DATA)] [])) _
    refine st5 _ ?_
    rw [i5]
    show Steps p.tables e below (T5.setTop (mkF m 9 #[.val (.int p1), .val (.ref h0.size), .val (.int (8 : Int32)), .val (.int (3 : Int32)), .val (.ref w_COMMAND_RESPONSE)] [])) _
    refine st6 _ ?_
    rw [i6]
    show Steps p.tables e below (T6.setTop (mkF m 9 #[.val (.int p1), .val (.ref h0.size), .val (.int (8 : Int32)), .val (.int (4 : Int32)), .val (.ref w_ERROR_OCCURRED)] [])) _
    refine st7 _ ?_
    rw [i7]
    show Steps p.tables e below (T7.setTop (mkF m 9 #[.val (.int p1), .val (.ref h0.size), .val (.int (8 : Int32)), .val (.int (5 : Int32)), .val (.ref w_HUMAN_OUTPUT)] [])) _
    refine st8 _ ?_
    show Steps p.tables e below (T8.setTop (mkF m 30 #[.val (.int p1), .val (.ref h0.size), .val (.int (8 : Int32)), .val (.int (5 : Int32)), .val (.ref w_PROGRESS)] [(.ref w_PROGRESS)])) _
    jvm_step X8.here [X8.here.top, hx, (hb hby d1_30), X8.method', Bd.returns, Value.isRef, FieldType.isReference]
    first | (intro acts; rw [hr _ acts rfl rfl rfl]) | rw [hr _ _ rfl rfl rfl]
    exact Steps.refl _
  · show (own_kret (.ref w_PROGRESS) n0 h0) _ T8.heap _
    rw [e8]
    exact ⟨rfl, N2, K2⟩
set_option maxRecDepth 65536 in
set_option maxHeartbeats 40000000 in
theorem own_of_6 (l : Launch) (Z : State) (a0 : Array Value) (hw : ∀ d ∈ tables_1, d.before a0 Z = true) (ws : List Jvm.Cond) (p1 : Int32) (wV : Addr) (clV : Cell) (h0 : Heap) (n0 : Nat) (Z0 : n0 ≤ h0.size) (S_V : Sta Z h0 "com/example/framewire/framewire/protocol/FrameType" "$VALUES" "[Lcom/example/framewire/framewire/protocol/FrameType;" (.ref wV)) (A_V : Arr Z h0 wV clV (.object "com/example/framewire/framewire/protocol/FrameType")) (Ex_V : Exa Z h0 wV "[Lcom/example/framewire/framewire/protocol/FrameType;") (Ft_V : FitC Z clV) (S_Vz : clV.slots.size = 8) (w_COMMAND_REQUEST : Addr) (F_COMMAND_REQUEST : Fld Z h0 w_COMMAND_REQUEST "com/example/framewire/framewire/protocol/FrameType" "code" "I" (.int (1 : Int32))) (P_COMMAND_REQUEST : ¬ ((0 : Int32) < 0 ∨ clV.slots.size ≤ (0 : Int32).toNatClampNeg) ∧ clV.slots[(0 : Int32).toNatClampNeg]? = some (.ref w_COMMAND_REQUEST)) (h_COMMAND_REQUEST : ¬ (1 : Int32) = p1) (w_COMMAND_DATA : Addr) (F_COMMAND_DATA : Fld Z h0 w_COMMAND_DATA "com/example/framewire/framewire/protocol/FrameType" "code" "I" (.int (2 : Int32))) (P_COMMAND_DATA : ¬ ((1 : Int32) < 0 ∨ clV.slots.size ≤ (1 : Int32).toNatClampNeg) ∧ clV.slots[(1 : Int32).toNatClampNeg]? = some (.ref w_COMMAND_DATA)) (h_COMMAND_DATA : ¬ (2 : Int32) = p1) (w_COMMAND_RESPONSE : Addr) (F_COMMAND_RESPONSE : Fld Z h0 w_COMMAND_RESPONSE "com/example/framewire/framewire/protocol/FrameType" "code" "I" (.int (3 : Int32))) (P_COMMAND_RESPONSE : ¬ ((2 : Int32) < 0 ∨ clV.slots.size ≤ (2 : Int32).toNatClampNeg) ∧ clV.slots[(2 : Int32).toNatClampNeg]? = some (.ref w_COMMAND_RESPONSE)) (h_COMMAND_RESPONSE : ¬ (3 : Int32) = p1) (w_ERROR_OCCURRED : Addr) (F_ERROR_OCCURRED : Fld Z h0 w_ERROR_OCCURRED "com/example/framewire/framewire/protocol/FrameType" "code" "I" (.int (5 : Int32))) (P_ERROR_OCCURRED : ¬ ((3 : Int32) < 0 ∨ clV.slots.size ≤ (3 : Int32).toNatClampNeg) ∧ clV.slots[(3 : Int32).toNatClampNeg]? = some (.ref w_ERROR_OCCURRED)) (h_ERROR_OCCURRED : ¬ (5 : Int32) = p1) (w_HUMAN_OUTPUT : Addr) (F_HUMAN_OUTPUT : Fld Z h0 w_HUMAN_OUTPUT "com/example/framewire/framewire/protocol/FrameType" "code" "I" (.int (6 : Int32))) (P_HUMAN_OUTPUT : ¬ ((4 : Int32) < 0 ∨ clV.slots.size ≤ (4 : Int32).toNatClampNeg) ∧ clV.slots[(4 : Int32).toNatClampNeg]? = some (.ref w_HUMAN_OUTPUT)) (h_HUMAN_OUTPUT : ¬ (6 : Int32) = p1) (w_PROGRESS : Addr) (F_PROGRESS : Fld Z h0 w_PROGRESS "com/example/framewire/framewire/protocol/FrameType" "code" "I" (.int (7 : Int32))) (P_PROGRESS : ¬ ((5 : Int32) < 0 ∨ clV.slots.size ≤ (5 : Int32).toNatClampNeg) ∧ clV.slots[(5 : Int32).toNatClampNeg]? = some (.ref w_PROGRESS)) (h_PROGRESS : ¬ (7 : Int32) = p1) (w_SENDER_PROTOCOL_SETTINGS : Addr) (F_SENDER_PROTOCOL_SETTINGS : Fld Z h0 w_SENDER_PROTOCOL_SETTINGS "com/example/framewire/framewire/protocol/FrameType" "code" "I" (.int (8 : Int32))) (P_SENDER_PROTOCOL_SETTINGS : ¬ ((6 : Int32) < 0 ∨ clV.slots.size ≤ (6 : Int32).toNatClampNeg) ∧ clV.slots[(6 : Int32).toNatClampNeg]? = some (.ref w_SENDER_PROTOCOL_SETTINGS)) (h_eq : (8 : Int32) = p1) :
    MetFree l (⟨"com/example/framewire/framewire/protocol/FrameType", "of", "(I)Lcom/example/framewire/framewire/protocol/FrameType;"⟩ : MethodName) (head1 (Jvm.Cond.code (⟨"com/example/framewire/framewire/protocol/FrameType", "of", "(I)Lcom/example/framewire/framewire/protocol/FrameType;"⟩ : MethodName) prog_15_method_4_code 5 (some (.object "com/example/framewire/framewire/protocol/FrameType")) :: ws) ({ frames := 2, cells := 1, slots := 8, locals := 25 } : Room)) (fun a U => a = #[(.int p1)] ∧ Z.Warmed39 U.vm ∧ U.heap = h0) (fun _ _ _ _ _ => True) (fun _ U o U' => ∃ v L, o = .returned v ∧ (own_kret (.ref w_SENDER_PROTOCOL_SETTINGS) n0 h0) v U'.heap L ∧ FrameEnd U o U' L ({ frames := 2, cells := 1, slots := 8, locals := 25 } : Room).cells ({ frames := 2, cells := 1, slots := 8, locals := 25 } : Room).slots) := by
  refine MetFree.of_bodySF (plainFor_of_name pn_1) hisR ?_
  intro p e s m args below meth c s₁ Bd hml0 hP hK
  obtain ⟨rfl, hZ, hh⟩ := hP
  have hx := Bd.exec
  have hby := Bd.bytes
  have hml : c.maxLocals = 5 := hml0
  have hown : s.vm.findClass "com/example/framewire/framewire/protocol/FrameType" = some m.cls := findClass_of_methodNamed Bd.named
  have hnm := (name_of_methodNamed Bd.named Bd.method).1
  have X0 : Stand p l e ({ frames := 2, cells := 1, slots := 8, locals := 25 } : Room) s m #[(.int p1)] below meth c s₁ [] 0 0 := Stand.of_body Bd
  have e0 : s₁.heap = h0 := by rw [← hh, Bd.state]; rfl
  have N0 := Fr.nil n0
  have pre0 : ∀ t, Steps p.tables e below (s₁.setTop (mkF m 0 #[.val (.int p1), .unset, .unset, .unset, .unset] [])) t → Steps p.tables e below (s₁.setTop (entryFrame m #[(.int p1)] 5)) t := fun t k => castTop (ef_1 m p1) k
  obtain ⟨_, _, ⟨T2, L2, k2, n2⟩, -, X2, ⟨Lc2, hQ2, l2, y2, z2⟩, st2⟩ := Jvm.LawKit.callS X0 hx (y := (⟨"com/example/framewire/framewire/protocol/FrameType", "values", "()[Lcom/example/framewire/framewire/protocol/FrameType;"⟩ : MethodName)) hown (mvT hZ (hw _ (List.mem_of_getElem? (i := 4) rfl))) (mvT hZ (hw _ (List.mem_of_getElem? (i := 5) rfl))) (mvT hZ (hw _ (List.mem_of_getElem? (i := 2) rfl))) (mvT hZ (hw _ (List.mem_of_getElem? (i := 6) rfl))) (by decide) (backOf (W := 0) (own_values l Z a0 hw [] wV clV h0 n0 Z0 S_V A_V Ex_V Ft_V S_Vz) hZ (hw _ (List.mem_of_getElem? (i := 6) rfl)) (hw _ (List.mem_of_getElem? (i := 2) rfl)) (by decide) (by decide)) (g := (mkF m 0 #[.val (.int p1), .unset, .unset, .unset, .unset] [])) rfl (by rw [hml]; rfl) (argsL := []) (rest := []) (lenOf pd_v rfl) rfl (by show 2 * 0 + _ ≤ _; exact Nat.le_of_eq rfl) (hb hby d1_0) (fun _ _ => ⟨rfl, e0, (by decide : 0 + 1 ≤ _), (by decide : 0 + 8 ≤ _)⟩)
  dsimp only [Pt.U, Pt.locs, Pt.cells, Pt.slots] at X2 l2 y2 z2 st2 hQ2
  subst l2 y2 z2
  obtain ⟨rfl, N2q, K2, A2⟩ := hQ2
  have e2 : T2.heap = T2.heap := rfl
  have S2 : (cloneOf clV).slots.size = (8 : Int32).toNatClampNeg := S_Vz
  have M2 : ¬ (8 : Int32) < 0 := by decide
  have N2 := Fr.app N0 N2q
  obtain ⟨T3, X3, e3, st3⟩ := tn1_9_9 p1 h0.size (8 : Int32) (0 : Int32) (.unset) w_COMMAND_REQUEST (cloneOf clV) (1 : Int32) X2 hx hZ hw hby hml hown e2 A2 P_COMMAND_REQUEST.1 P_COMMAND_REQUEST.2 (One.u) (F_COMMAND_REQUEST.ext (own_ext K2)) (by decide) h_COMMAND_REQUEST
  have i3 : (0 : Int32) + (1 : Int32) = (1 : Int32) := by decide
  obtain ⟨T4, X4, e4, st4⟩ := tn1_9_9 p1 h0.size (8 : Int32) (1 : Int32) (.val (.ref w_COMMAND_REQUEST)) w_COMMAND_DATA (cloneOf clV) (2 : Int32) X3 hx hZ hw hby hml hown e3 A2 P_COMMAND_DATA.1 P_COMMAND_DATA.2 (One.val rfl) (F_COMMAND_DATA.ext (own_ext K2)) (by decide) h_COMMAND_DATA
  have i4 : (1 : Int32) + (1 : Int32) = (2 : Int32) := by decide
  obtain ⟨T5, X5, e5, st5⟩ := tn1_9_9 p1 h0.size (8 : Int32) (2 : Int32) (.val (.ref w_COMMAND_DATA)) w_COMMAND_RESPONSE (cloneOf clV) (3 : Int32) X4 hx hZ hw hby hml hown e4 A2 P_COMMAND_RESPONSE.1 P_COMMAND_RESPONSE.2 (One.val rfl) (F_COMMAND_RESPONSE.ext (own_ext K2)) (by decide) h_COMMAND_RESPONSE
  have i5 : (2 : Int32) + (1 : Int32) = (3 : Int32) := by decide
  obtain ⟨T6, X6, e6, st6⟩ := tn1_9_9 p1 h0.size (8 : Int32) (3 : Int32) (.val (.ref w_COMMAND_RESPONSE)) w_ERROR_OCCURRED (cloneOf clV) (5 : Int32) X5 hx hZ hw hby hml hown e5 A2 P_ERROR_OCCURRED.1 P_ERROR_OCCURRED.2 (One.val rfl) (F_ERROR_OCCURRED.ext (own_ext K2)) (by decide) h_ERROR_OCCURRED
  have i6 : (3 : Int32) + (1 : Int32) = (4 : Int32) := by decide
  obtain ⟨T7, X7, e7, st7⟩ := tn1_9_9 p1 h0.size (8 : Int32) (4 : Int32) (.val (.ref w_ERROR_OCCURRED)) w_HUMAN_OUTPUT (cloneOf clV) (6 : Int32) X6 hx hZ hw hby hml hown e6 A2 P_HUMAN_OUTPUT.1 P_HUMAN_OUTPUT.2 (One.val rfl) (F_HUMAN_OUTPUT.ext (own_ext K2)) (by decide) h_HUMAN_OUTPUT
  have i7 : (4 : Int32) + (1 : Int32) = (5 : Int32) := by decide
  obtain ⟨T8, X8, e8, st8⟩ := tn1_9_9 p1 h0.size (8 : Int32) (5 : Int32) (.val (.ref w_HUMAN_OUTPUT)) w_PROGRESS (cloneOf clV) (7 : Int32) X7 hx hZ hw hby hml hown e7 A2 P_PROGRESS.1 P_PROGRESS.2 (One.val rfl) (F_PROGRESS.ext (own_ext K2)) (by decide) h_PROGRESS
  have i8 : (5 : Int32) + (1 : Int32) = (6 : Int32) := by decide
  obtain ⟨T9, X9, e9, st9⟩ := tn1_9_30 p1 h0.size (8 : Int32) (6 : Int32) (.val (.ref w_PROGRESS)) w_SENDER_PROTOCOL_SETTINGS (cloneOf clV) (8 : Int32) X8 hx hZ hw hby hml hown e8 A2 P_SENDER_PROTOCOL_SETTINGS.1 P_SENDER_PROTOCOL_SETTINGS.2 (One.val rfl) (F_SENDER_PROTOCOL_SETTINGS.ext (own_ext K2)) (by decide) h_eq
  obtain ⟨fs, hr, hrun, hended, hW, hsame⟩ := X9.leave (v := some (.ref w_SENDER_PROTOCOL_SETTINGS)) (fun h => by rw [Bd.returns] at h; cases h)
  refine ⟨_, _, pre0 _ ?_, hrun, hended, _, _, rfl, ?_, ⟨_, rfl⟩, hW, hsame.mono (by decide) (by decide)⟩
  · show Steps p.tables e below (s₁.setTop (mkF m 0 #[.val (.int p1), .unset, .unset, .unset, .unset] [])) _
    refine st2 _ ?_
    show Steps p.tables e below (T2.setTop (mkF m 3 #[.val (.int p1), .unset, .unset, .unset, .unset] [(.ref h0.size)])) _
    refine XS.astoreN X2.here hx rfl (hb hby d1_3) rfl rfl (l' := #[.val (.int p1), .val (.ref h0.size), .unset, .unset, .unset]) rfl ?_
    show Steps p.tables e below (T2.setTop (mkF m 4 #[.val (.int p1), .val (.ref h0.size), .unset, .unset, .unset] [])) _
    refine XS.aloadN X2.here hx rfl (hb hby d1_4) rfl rfl ?_
    show Steps p.tables e below (T2.setTop (mkF m 5 #[.val (.int p1), .val (.ref h0.size), .unset, .unset, .unset] [(.ref h0.size)])) _
    refine X2.arraylength hx (by rw [e2]; exact A2.1) (State.isArrayOf_alike hZ.alike A2.2.1) (g := (mkF m 5 #[.val (.int p1), .val (.ref h0.size), .unset, .unset, .unset] [(.ref h0.size)])) rfl rfl (hb hby d1_5) _ ?_
    rw [len_of S2 M2]
    show Steps p.tables e below (T2.setTop (mkF m 6 #[.val (.int p1), .val (.ref h0.size), .unset, .unset, .unset] [(.int (8 : Int32))])) _
    refine XS.istoreN X2.here hx rfl (hb hby d1_6) rfl (l' := #[.val (.int p1), .val (.ref h0.size), .val (.int (8 : Int32)), .unset, .unset]) rfl ?_
    show Steps p.tables e below (T2.setTop (mkF m 7 #[.val (.int p1), .val (.ref h0.size), .val (.int (8 : Int32)), .unset, .unset] [])) _
    refine XS.iconst X2.here hx rfl (hb hby d1_7) ?_
    show Steps p.tables e below (T2.setTop (mkF m 8 #[.val (.int p1), .val (.ref h0.size), .val (.int (8 : Int32)), .unset, .unset] [(.int (0 : Int32))])) _
    refine XS.istoreN X2.here hx rfl (hb hby d1_8) rfl (l' := #[.val (.int p1), .val (.ref h0.size), .val (.int (8 : Int32)), .val (.int (0 : Int32)), .unset]) rfl ?_
    show Steps p.tables e below (T2.setTop (mkF m 9 #[.val (.int p1), .val (.ref h0.size), .val (.int (8 : Int32)), .val (.int (0 : Int32)), .unset] [])) _
    refine st3 _ ?_
    rw [i3]
    show Steps p.tables e below (T3.setTop (mkF m 9 #[.val (.int p1), .val (.ref h0.size), .val (.int (8 : Int32)), .val (.int (1 : Int32)), .val (.ref w_COMMAND_REQUEST)] [])) _
    refine st4 _ ?_
    rw [i4]
    show Steps p.tables e below (T4.setTop (mkF m 9 #[.val (.int p1), .val (.ref h0.size), .val (.int (8 : Int32)), .val (.int (2 : Int32)), .val (.ref w_COMMAND_DATA)] [])) _
    refine st5 _ ?_
    rw [i5]
    show Steps p.tables e below (T5.setTop (mkF m 9 #[.val (.int p1), .val (.ref h0.size), .val (.int (8 : Int32)), .val (.int (3 : Int32)), .val (.ref w_COMMAND_RESPONSE)] [])) _
    refine st6 _ ?_
    rw [i6]
    show Steps p.tables e below (T6.setTop (mkF m 9 #[.val (.int p1), .val (.ref h0.size), .val (.int (8 : Int32)), .val (.int (4 : Int32)), .val (.ref w_ERROR_OCCURRED)] [])) _
    refine st7 _ ?_
    rw [i7]
    show Steps p.tables e below (T7.setTop (mkF m 9 #[.val (.int p1), .val (.ref h0.size), .val (.int (8 : Int32)), .val (.int (5 : Int32)), .val (.ref w_HUMAN_OUTPUT)] [])) _
    refine st8 _ ?_
    rw [i8]
    show Steps p.tables e below (T8.setTop (mkF m 9 #[.val (.int p1), .val (.ref h0.size), .val (.int (8 : Int32)), .val (.int (6 : Int32)), .val (.ref w_PROGRESS)] [])) _
    refine st9 _ ?_
    show Steps p.tables e below (T9.setTop (mkF m 30 #[.val (.int p1), .val (.ref h0.size), .val (.int (8 : Int32)), .val (.int (6 : Int32)), .val (.ref w_SENDER_PROTOCOL_SETTINGS)] [(.ref w_SENDER_PROTOCOL_SETTINGS)])) _
    jvm_step X9.here [X9.here.top, hx, (hb hby d1_30), X9.method', Bd.returns, Value.isRef, FieldType.isReference]
    first | (intro acts; rw [hr _ acts rfl rfl rfl]) | rw [hr _ _ rfl rfl rfl]
    exact Steps.refl _
  · show (own_kret (.ref w_SENDER_PROTOCOL_SETTINGS) n0 h0) _ T9.heap _
    rw [e9]
    exact ⟨rfl, N2, K2⟩
set_option maxRecDepth 65536 in
set_option maxHeartbeats 40000000 in
theorem own_of_7 (l : Launch) (Z : State) (a0 : Array Value) (hw : ∀ d ∈ tables_1, d.before a0 Z = true) (ws : List Jvm.Cond) (p1 : Int32) (wV : Addr) (clV : Cell) (h0 : Heap) (n0 : Nat) (Z0 : n0 ≤ h0.size) (S_V : Sta Z h0 "com/example/framewire/framewire/protocol/FrameType" "$VALUES" "[Lcom/example/framewire/framewire/protocol/FrameType;" (.ref wV)) (A_V : Arr Z h0 wV clV (.object "com/example/framewire/framewire/protocol/FrameType")) (Ex_V : Exa Z h0 wV "[Lcom/example/framewire/framewire/protocol/FrameType;") (Ft_V : FitC Z clV) (S_Vz : clV.slots.size = 8) (w_COMMAND_REQUEST : Addr) (F_COMMAND_REQUEST : Fld Z h0 w_COMMAND_REQUEST "com/example/framewire/framewire/protocol/FrameType" "code" "I" (.int (1 : Int32))) (P_COMMAND_REQUEST : ¬ ((0 : Int32) < 0 ∨ clV.slots.size ≤ (0 : Int32).toNatClampNeg) ∧ clV.slots[(0 : Int32).toNatClampNeg]? = some (.ref w_COMMAND_REQUEST)) (h_COMMAND_REQUEST : ¬ (1 : Int32) = p1) (w_COMMAND_DATA : Addr) (F_COMMAND_DATA : Fld Z h0 w_COMMAND_DATA "com/example/framewire/framewire/protocol/FrameType" "code" "I" (.int (2 : Int32))) (P_COMMAND_DATA : ¬ ((1 : Int32) < 0 ∨ clV.slots.size ≤ (1 : Int32).toNatClampNeg) ∧ clV.slots[(1 : Int32).toNatClampNeg]? = some (.ref w_COMMAND_DATA)) (h_COMMAND_DATA : ¬ (2 : Int32) = p1) (w_COMMAND_RESPONSE : Addr) (F_COMMAND_RESPONSE : Fld Z h0 w_COMMAND_RESPONSE "com/example/framewire/framewire/protocol/FrameType" "code" "I" (.int (3 : Int32))) (P_COMMAND_RESPONSE : ¬ ((2 : Int32) < 0 ∨ clV.slots.size ≤ (2 : Int32).toNatClampNeg) ∧ clV.slots[(2 : Int32).toNatClampNeg]? = some (.ref w_COMMAND_RESPONSE)) (h_COMMAND_RESPONSE : ¬ (3 : Int32) = p1) (w_ERROR_OCCURRED : Addr) (F_ERROR_OCCURRED : Fld Z h0 w_ERROR_OCCURRED "com/example/framewire/framewire/protocol/FrameType" "code" "I" (.int (5 : Int32))) (P_ERROR_OCCURRED : ¬ ((3 : Int32) < 0 ∨ clV.slots.size ≤ (3 : Int32).toNatClampNeg) ∧ clV.slots[(3 : Int32).toNatClampNeg]? = some (.ref w_ERROR_OCCURRED)) (h_ERROR_OCCURRED : ¬ (5 : Int32) = p1) (w_HUMAN_OUTPUT : Addr) (F_HUMAN_OUTPUT : Fld Z h0 w_HUMAN_OUTPUT "com/example/framewire/framewire/protocol/FrameType" "code" "I" (.int (6 : Int32))) (P_HUMAN_OUTPUT : ¬ ((4 : Int32) < 0 ∨ clV.slots.size ≤ (4 : Int32).toNatClampNeg) ∧ clV.slots[(4 : Int32).toNatClampNeg]? = some (.ref w_HUMAN_OUTPUT)) (h_HUMAN_OUTPUT : ¬ (6 : Int32) = p1) (w_PROGRESS : Addr) (F_PROGRESS : Fld Z h0 w_PROGRESS "com/example/framewire/framewire/protocol/FrameType" "code" "I" (.int (7 : Int32))) (P_PROGRESS : ¬ ((5 : Int32) < 0 ∨ clV.slots.size ≤ (5 : Int32).toNatClampNeg) ∧ clV.slots[(5 : Int32).toNatClampNeg]? = some (.ref w_PROGRESS)) (h_PROGRESS : ¬ (7 : Int32) = p1) (w_SENDER_PROTOCOL_SETTINGS : Addr) (F_SENDER_PROTOCOL_SETTINGS : Fld Z h0 w_SENDER_PROTOCOL_SETTINGS "com/example/framewire/framewire/protocol/FrameType" "code" "I" (.int (8 : Int32))) (P_SENDER_PROTOCOL_SETTINGS : ¬ ((6 : Int32) < 0 ∨ clV.slots.size ≤ (6 : Int32).toNatClampNeg) ∧ clV.slots[(6 : Int32).toNatClampNeg]? = some (.ref w_SENDER_PROTOCOL_SETTINGS)) (h_SENDER_PROTOCOL_SETTINGS : ¬ (8 : Int32) = p1) (w_STREAM_ENCODING_SETTINGS : Addr) (F_STREAM_ENCODING_SETTINGS : Fld Z h0 w_STREAM_ENCODING_SETTINGS "com/example/framewire/framewire/protocol/FrameType" "code" "I" (.int (9 : Int32))) (P_STREAM_ENCODING_SETTINGS : ¬ ((7 : Int32) < 0 ∨ clV.slots.size ≤ (7 : Int32).toNatClampNeg) ∧ clV.slots[(7 : Int32).toNatClampNeg]? = some (.ref w_STREAM_ENCODING_SETTINGS)) (h_eq : (9 : Int32) = p1) :
    MetFree l (⟨"com/example/framewire/framewire/protocol/FrameType", "of", "(I)Lcom/example/framewire/framewire/protocol/FrameType;"⟩ : MethodName) (head1 (Jvm.Cond.code (⟨"com/example/framewire/framewire/protocol/FrameType", "of", "(I)Lcom/example/framewire/framewire/protocol/FrameType;"⟩ : MethodName) prog_15_method_4_code 5 (some (.object "com/example/framewire/framewire/protocol/FrameType")) :: ws) ({ frames := 2, cells := 1, slots := 8, locals := 25 } : Room)) (fun a U => a = #[(.int p1)] ∧ Z.Warmed39 U.vm ∧ U.heap = h0) (fun _ _ _ _ _ => True) (fun _ U o U' => ∃ v L, o = .returned v ∧ (own_kret (.ref w_STREAM_ENCODING_SETTINGS) n0 h0) v U'.heap L ∧ FrameEnd U o U' L ({ frames := 2, cells := 1, slots := 8, locals := 25 } : Room).cells ({ frames := 2, cells := 1, slots := 8, locals := 25 } : Room).slots) := by
  refine MetFree.of_bodySF (plainFor_of_name pn_1) hisR ?_
  intro p e s m args below meth c s₁ Bd hml0 hP hK
  obtain ⟨rfl, hZ, hh⟩ := hP
  have hx := Bd.exec
  have hby := Bd.bytes
  have hml : c.maxLocals = 5 := hml0
  have hown : s.vm.findClass "com/example/framewire/framewire/protocol/FrameType" = some m.cls := findClass_of_methodNamed Bd.named
  have hnm := (name_of_methodNamed Bd.named Bd.method).1
  have X0 : Stand p l e ({ frames := 2, cells := 1, slots := 8, locals := 25 } : Room) s m #[(.int p1)] below meth c s₁ [] 0 0 := Stand.of_body Bd
  have e0 : s₁.heap = h0 := by rw [← hh, Bd.state]; rfl
  have N0 := Fr.nil n0
  have pre0 : ∀ t, Steps p.tables e below (s₁.setTop (mkF m 0 #[.val (.int p1), .unset, .unset, .unset, .unset] [])) t → Steps p.tables e below (s₁.setTop (entryFrame m #[(.int p1)] 5)) t := fun t k => castTop (ef_1 m p1) k
  obtain ⟨_, _, ⟨T2, L2, k2, n2⟩, -, X2, ⟨Lc2, hQ2, l2, y2, z2⟩, st2⟩ := Jvm.LawKit.callS X0 hx (y := (⟨"com/example/framewire/framewire/protocol/FrameType", "values", "()[Lcom/example/framewire/framewire/protocol/FrameType;"⟩ : MethodName)) hown (mvT hZ (hw _ (List.mem_of_getElem? (i := 4) rfl))) (mvT hZ (hw _ (List.mem_of_getElem? (i := 5) rfl))) (mvT hZ (hw _ (List.mem_of_getElem? (i := 2) rfl))) (mvT hZ (hw _ (List.mem_of_getElem? (i := 6) rfl))) (by decide) (backOf (W := 0) (own_values l Z a0 hw [] wV clV h0 n0 Z0 S_V A_V Ex_V Ft_V S_Vz) hZ (hw _ (List.mem_of_getElem? (i := 6) rfl)) (hw _ (List.mem_of_getElem? (i := 2) rfl)) (by decide) (by decide)) (g := (mkF m 0 #[.val (.int p1), .unset, .unset, .unset, .unset] [])) rfl (by rw [hml]; rfl) (argsL := []) (rest := []) (lenOf pd_v rfl) rfl (by show 2 * 0 + _ ≤ _; exact Nat.le_of_eq rfl) (hb hby d1_0) (fun _ _ => ⟨rfl, e0, (by decide : 0 + 1 ≤ _), (by decide : 0 + 8 ≤ _)⟩)
  dsimp only [Pt.U, Pt.locs, Pt.cells, Pt.slots] at X2 l2 y2 z2 st2 hQ2
  subst l2 y2 z2
  obtain ⟨rfl, N2q, K2, A2⟩ := hQ2
  have e2 : T2.heap = T2.heap := rfl
  have S2 : (cloneOf clV).slots.size = (8 : Int32).toNatClampNeg := S_Vz
  have M2 : ¬ (8 : Int32) < 0 := by decide
  have N2 := Fr.app N0 N2q
  obtain ⟨T3, X3, e3, st3⟩ := tn1_9_9 p1 h0.size (8 : Int32) (0 : Int32) (.unset) w_COMMAND_REQUEST (cloneOf clV) (1 : Int32) X2 hx hZ hw hby hml hown e2 A2 P_COMMAND_REQUEST.1 P_COMMAND_REQUEST.2 (One.u) (F_COMMAND_REQUEST.ext (own_ext K2)) (by decide) h_COMMAND_REQUEST
  have i3 : (0 : Int32) + (1 : Int32) = (1 : Int32) := by decide
  obtain ⟨T4, X4, e4, st4⟩ := tn1_9_9 p1 h0.size (8 : Int32) (1 : Int32) (.val (.ref w_COMMAND_REQUEST)) w_COMMAND_DATA (cloneOf clV) (2 : Int32) X3 hx hZ hw hby hml hown e3 A2 P_COMMAND_DATA.1 P_COMMAND_DATA.2 (One.val rfl) (F_COMMAND_DATA.ext (own_ext K2)) (by decide) h_COMMAND_DATA
  have i4 : (1 : Int32) + (1 : Int32) = (2 : Int32) := by decide
  obtain ⟨T5, X5, e5, st5⟩ := tn1_9_9 p1 h0.size (8 : Int32) (2 : Int32) (.val (.ref w_COMMAND_DATA)) w_COMMAND_RESPONSE (cloneOf clV) (3 : Int32) X4 hx hZ hw hby hml hown e4 A2 P_COMMAND_RESPONSE.1 P_COMMAND_RESPONSE.2 (One.val rfl) (F_COMMAND_RESPONSE.ext (own_ext K2)) (by decide) h_COMMAND_RESPONSE
  have i5 : (2 : Int32) + (1 : Int32) = (3 : Int32) := by decide
  obtain ⟨T6, X6, e6, st6⟩ := tn1_9_9 p1 h0.size (8 : Int32) (3 : Int32) (.val (.ref w_COMMAND_RESPONSE)) w_ERROR_OCCURRED (cloneOf clV) (5 : Int32) X5 hx hZ hw hby hml hown e5 A2 P_ERROR_OCCURRED.1 P_ERROR_OCCURRED.2 (One.val rfl) (F_ERROR_OCCURRED.ext (own_ext K2)) (by decide) h_ERROR_OCCURRED
  have i6 : (3 : Int32) + (1 : Int32) = (4 : Int32) := by decide
  obtain ⟨T7, X7, e7, st7⟩ := tn1_9_9 p1 h0.size (8 : Int32) (4 : Int32) (.val (.ref w_ERROR_OCCURRED)) w_HUMAN_OUTPUT (cloneOf clV) (6 : Int32) X6 hx hZ hw hby hml hown e6 A2 P_HUMAN_OUTPUT.1 P_HUMAN_OUTPUT.2 (One.val rfl) (F_HUMAN_OUTPUT.ext (own_ext K2)) (by decide) h_HUMAN_OUTPUT
  have i7 : (4 : Int32) + (1 : Int32) = (5 : Int32) := by decide
  obtain ⟨T8, X8, e8, st8⟩ := tn1_9_9 p1 h0.size (8 : Int32) (5 : Int32) (.val (.ref w_HUMAN_OUTPUT)) w_PROGRESS (cloneOf clV) (7 : Int32) X7 hx hZ hw hby hml hown e7 A2 P_PROGRESS.1 P_PROGRESS.2 (One.val rfl) (F_PROGRESS.ext (own_ext K2)) (by decide) h_PROGRESS
  have i8 : (5 : Int32) + (1 : Int32) = (6 : Int32) := by decide
  obtain ⟨T9, X9, e9, st9⟩ := tn1_9_9 p1 h0.size (8 : Int32) (6 : Int32) (.val (.ref w_PROGRESS)) w_SENDER_PROTOCOL_SETTINGS (cloneOf clV) (8 : Int32) X8 hx hZ hw hby hml hown e8 A2 P_SENDER_PROTOCOL_SETTINGS.1 P_SENDER_PROTOCOL_SETTINGS.2 (One.val rfl) (F_SENDER_PROTOCOL_SETTINGS.ext (own_ext K2)) (by decide) h_SENDER_PROTOCOL_SETTINGS
  have i9 : (6 : Int32) + (1 : Int32) = (7 : Int32) := by decide
  obtain ⟨T10, X10, e10, st10⟩ := tn1_9_30 p1 h0.size (8 : Int32) (7 : Int32) (.val (.ref w_SENDER_PROTOCOL_SETTINGS)) w_STREAM_ENCODING_SETTINGS (cloneOf clV) (9 : Int32) X9 hx hZ hw hby hml hown e9 A2 P_STREAM_ENCODING_SETTINGS.1 P_STREAM_ENCODING_SETTINGS.2 (One.val rfl) (F_STREAM_ENCODING_SETTINGS.ext (own_ext K2)) (by decide) h_eq
  obtain ⟨fs, hr, hrun, hended, hW, hsame⟩ := X10.leave (v := some (.ref w_STREAM_ENCODING_SETTINGS)) (fun h => by rw [Bd.returns] at h; cases h)
  refine ⟨_, _, pre0 _ ?_, hrun, hended, _, _, rfl, ?_, ⟨_, rfl⟩, hW, hsame.mono (by decide) (by decide)⟩
  · show Steps p.tables e below (s₁.setTop (mkF m 0 #[.val (.int p1), .unset, .unset, .unset, .unset] [])) _
    refine st2 _ ?_
    show Steps p.tables e below (T2.setTop (mkF m 3 #[.val (.int p1), .unset, .unset, .unset, .unset] [(.ref h0.size)])) _
    refine XS.astoreN X2.here hx rfl (hb hby d1_3) rfl rfl (l' := #[.val (.int p1), .val (.ref h0.size), .unset, .unset, .unset]) rfl ?_
    show Steps p.tables e below (T2.setTop (mkF m 4 #[.val (.int p1), .val (.ref h0.size), .unset, .unset, .unset] [])) _
    refine XS.aloadN X2.here hx rfl (hb hby d1_4) rfl rfl ?_
    show Steps p.tables e below (T2.setTop (mkF m 5 #[.val (.int p1), .val (.ref h0.size), .unset, .unset, .unset] [(.ref h0.size)])) _
    refine X2.arraylength hx (by rw [e2]; exact A2.1) (State.isArrayOf_alike hZ.alike A2.2.1) (g := (mkF m 5 #[.val (.int p1), .val (.ref h0.size), .unset, .unset, .unset] [(.ref h0.size)])) rfl rfl (hb hby d1_5) _ ?_
    rw [len_of S2 M2]
    show Steps p.tables e below (T2.setTop (mkF m 6 #[.val (.int p1), .val (.ref h0.size), .unset, .unset, .unset] [(.int (8 : Int32))])) _
    refine XS.istoreN X2.here hx rfl (hb hby d1_6) rfl (l' := #[.val (.int p1), .val (.ref h0.size), .val (.int (8 : Int32)), .unset, .unset]) rfl ?_
    show Steps p.tables e below (T2.setTop (mkF m 7 #[.val (.int p1), .val (.ref h0.size), .val (.int (8 : Int32)), .unset, .unset] [])) _
    refine XS.iconst X2.here hx rfl (hb hby d1_7) ?_
    show Steps p.tables e below (T2.setTop (mkF m 8 #[.val (.int p1), .val (.ref h0.size), .val (.int (8 : Int32)), .unset, .unset] [(.int (0 : Int32))])) _
    refine XS.istoreN X2.here hx rfl (hb hby d1_8) rfl (l' := #[.val (.int p1), .val (.ref h0.size), .val (.int (8 : Int32)), .val (.int (0 : Int32)), .unset]) rfl ?_
    show Steps p.tables e below (T2.setTop (mkF m 9 #[.val (.int p1), .val (.ref h0.size), .val (.int (8 : Int32)), .val (.int (0 : Int32)), .unset] [])) _
    refine st3 _ ?_
    rw [i3]
    show Steps p.tables e below (T3.setTop (mkF m 9 #[.val (.int p1), .val (.ref h0.size), .val (.int (8 : Int32)), .val (.int (1 : Int32)), .val (.ref w_COMMAND_REQUEST)] [])) _
    refine st4 _ ?_
    rw [i4]
    show Steps p.tables e below (T4.setTop (mkF m 9 #[.val (.int p1), .val (.ref h0.size), .val (.int (8 : Int32)), .val (.int (2 : Int32)), .val (.ref w_COMMAND_DATA)] [])) _
    refine st5 _ ?_
    rw [i5]
    show Steps p.tables e below (T5.setTop (mkF m 9 #[.val (.int p1), .val (.ref h0.size), .val (.int (8 : Int32)), .val (.int (3 : Int32)), .val (.ref w_COMMAND_RESPONSE)] [])) _
    refine st6 _ ?_
    rw [i6]
    show Steps p.tables e below (T6.setTop (mkF m 9 #[.val (.int p1), .val (.ref h0.size), .val (.int (8 : Int32)), .val (.int (4 : Int32)), .val (.ref w_ERROR_OCCURRED)] [])) _
    refine st7 _ ?_
    rw [i7]
    show Steps p.tables e below (T7.setTop (mkF m 9 #[.val (.int p1), .val (.ref h0.size), .val (.int (8 : Int32)), .val (.int (5 : Int32)), .val (.ref w_HUMAN_OUTPUT)] [])) _
    refine st8 _ ?_
    rw [i8]
    show Steps p.tables e below (T8.setTop (mkF m 9 #[.val (.int p1), .val (.ref h0.size), .val (.int (8 : Int32)), .val (.int (6 : Int32)), .val (.ref w_PROGRESS)] [])) _
    refine st9 _ ?_
    rw [i9]
    show Steps p.tables e below (T9.setTop (mkF m 9 #[.val (.int p1), .val (.ref h0.size), .val (.int (8 : Int32)), .val (.int (7 : Int32)), .val (.ref w_SENDER_PROTOCOL_SETTINGS)] [])) _
    refine st10 _ ?_
    show Steps p.tables e below (T10.setTop (mkF m 30 #[.val (.int p1), .val (.ref h0.size), .val (.int (8 : Int32)), .val (.int (7 : Int32)), .val (.ref w_STREAM_ENCODING_SETTINGS)] [(.ref w_STREAM_ENCODING_SETTINGS)])) _
    jvm_step X10.here [X10.here.top, hx, (hb hby d1_30), X10.method', Bd.returns, Value.isRef, FieldType.isReference]
    first | (intro acts; rw [hr _ acts rfl rfl rfl]) | rw [hr _ _ rfl rfl rfl]
    exact Steps.refl _
  · show (own_kret (.ref w_STREAM_ENCODING_SETTINGS) n0 h0) _ T10.heap _
    rw [e10]
    exact ⟨rfl, N2, K2⟩
set_option maxRecDepth 65536 in
set_option maxHeartbeats 40000000 in
theorem own_of_8 (l : Launch) (Z : State) (a0 : Array Value) (hw : ∀ d ∈ tables_1, d.before a0 Z = true) (ws : List Jvm.Cond) (p1 : Int32) (wV : Addr) (clV : Cell) (h0 : Heap) (n0 : Nat) (Z0 : n0 ≤ h0.size) (S_V : Sta Z h0 "com/example/framewire/framewire/protocol/FrameType" "$VALUES" "[Lcom/example/framewire/framewire/protocol/FrameType;" (.ref wV)) (A_V : Arr Z h0 wV clV (.object "com/example/framewire/framewire/protocol/FrameType")) (Ex_V : Exa Z h0 wV "[Lcom/example/framewire/framewire/protocol/FrameType;") (Ft_V : FitC Z clV) (S_Vz : clV.slots.size = 8) (w_COMMAND_REQUEST : Addr) (F_COMMAND_REQUEST : Fld Z h0 w_COMMAND_REQUEST "com/example/framewire/framewire/protocol/FrameType" "code" "I" (.int (1 : Int32))) (P_COMMAND_REQUEST : ¬ ((0 : Int32) < 0 ∨ clV.slots.size ≤ (0 : Int32).toNatClampNeg) ∧ clV.slots[(0 : Int32).toNatClampNeg]? = some (.ref w_COMMAND_REQUEST)) (h_COMMAND_REQUEST : ¬ (1 : Int32) = p1) (w_COMMAND_DATA : Addr) (F_COMMAND_DATA : Fld Z h0 w_COMMAND_DATA "com/example/framewire/framewire/protocol/FrameType" "code" "I" (.int (2 : Int32))) (P_COMMAND_DATA : ¬ ((1 : Int32) < 0 ∨ clV.slots.size ≤ (1 : Int32).toNatClampNeg) ∧ clV.slots[(1 : Int32).toNatClampNeg]? = some (.ref w_COMMAND_DATA)) (h_COMMAND_DATA : ¬ (2 : Int32) = p1) (w_COMMAND_RESPONSE : Addr) (F_COMMAND_RESPONSE : Fld Z h0 w_COMMAND_RESPONSE "com/example/framewire/framewire/protocol/FrameType" "code" "I" (.int (3 : Int32))) (P_COMMAND_RESPONSE : ¬ ((2 : Int32) < 0 ∨ clV.slots.size ≤ (2 : Int32).toNatClampNeg) ∧ clV.slots[(2 : Int32).toNatClampNeg]? = some (.ref w_COMMAND_RESPONSE)) (h_COMMAND_RESPONSE : ¬ (3 : Int32) = p1) (w_ERROR_OCCURRED : Addr) (F_ERROR_OCCURRED : Fld Z h0 w_ERROR_OCCURRED "com/example/framewire/framewire/protocol/FrameType" "code" "I" (.int (5 : Int32))) (P_ERROR_OCCURRED : ¬ ((3 : Int32) < 0 ∨ clV.slots.size ≤ (3 : Int32).toNatClampNeg) ∧ clV.slots[(3 : Int32).toNatClampNeg]? = some (.ref w_ERROR_OCCURRED)) (h_ERROR_OCCURRED : ¬ (5 : Int32) = p1) (w_HUMAN_OUTPUT : Addr) (F_HUMAN_OUTPUT : Fld Z h0 w_HUMAN_OUTPUT "com/example/framewire/framewire/protocol/FrameType" "code" "I" (.int (6 : Int32))) (P_HUMAN_OUTPUT : ¬ ((4 : Int32) < 0 ∨ clV.slots.size ≤ (4 : Int32).toNatClampNeg) ∧ clV.slots[(4 : Int32).toNatClampNeg]? = some (.ref w_HUMAN_OUTPUT)) (h_HUMAN_OUTPUT : ¬ (6 : Int32) = p1) (w_PROGRESS : Addr) (F_PROGRESS : Fld Z h0 w_PROGRESS "com/example/framewire/framewire/protocol/FrameType" "code" "I" (.int (7 : Int32))) (P_PROGRESS : ¬ ((5 : Int32) < 0 ∨ clV.slots.size ≤ (5 : Int32).toNatClampNeg) ∧ clV.slots[(5 : Int32).toNatClampNeg]? = some (.ref w_PROGRESS)) (h_PROGRESS : ¬ (7 : Int32) = p1) (w_SENDER_PROTOCOL_SETTINGS : Addr) (F_SENDER_PROTOCOL_SETTINGS : Fld Z h0 w_SENDER_PROTOCOL_SETTINGS "com/example/framewire/framewire/protocol/FrameType" "code" "I" (.int (8 : Int32))) (P_SENDER_PROTOCOL_SETTINGS : ¬ ((6 : Int32) < 0 ∨ clV.slots.size ≤ (6 : Int32).toNatClampNeg) ∧ clV.slots[(6 : Int32).toNatClampNeg]? = some (.ref w_SENDER_PROTOCOL_SETTINGS)) (h_SENDER_PROTOCOL_SETTINGS : ¬ (8 : Int32) = p1) (w_STREAM_ENCODING_SETTINGS : Addr) (F_STREAM_ENCODING_SETTINGS : Fld Z h0 w_STREAM_ENCODING_SETTINGS "com/example/framewire/framewire/protocol/FrameType" "code" "I" (.int (9 : Int32))) (P_STREAM_ENCODING_SETTINGS : ¬ ((7 : Int32) < 0 ∨ clV.slots.size ≤ (7 : Int32).toNatClampNeg) ∧ clV.slots[(7 : Int32).toNatClampNeg]? = some (.ref w_STREAM_ENCODING_SETTINGS)) (h_STREAM_ENCODING_SETTINGS : ¬ (9 : Int32) = p1) :
    MetFree l (⟨"com/example/framewire/framewire/protocol/FrameType", "of", "(I)Lcom/example/framewire/framewire/protocol/FrameType;"⟩ : MethodName) (head1 (Jvm.Cond.code (⟨"com/example/framewire/framewire/protocol/FrameType", "of", "(I)Lcom/example/framewire/framewire/protocol/FrameType;"⟩ : MethodName) prog_15_method_4_code 5 (some (.object "com/example/framewire/framewire/protocol/FrameType")) :: ws) ({ frames := 2, cells := 1, slots := 8, locals := 25 } : Room)) (fun a U => a = #[(.int p1)] ∧ Z.Warmed39 U.vm ∧ U.heap = h0) (fun _ _ _ _ _ => True) (fun _ U o U' => ∃ v L, o = .returned v ∧ (own_kret .null n0 h0) v U'.heap L ∧ FrameEnd U o U' L ({ frames := 2, cells := 1, slots := 8, locals := 25 } : Room).cells ({ frames := 2, cells := 1, slots := 8, locals := 25 } : Room).slots) := by
  refine MetFree.of_bodySF (plainFor_of_name pn_1) hisR ?_
  intro p e s m args below meth c s₁ Bd hml0 hP hK
  obtain ⟨rfl, hZ, hh⟩ := hP
  have hx := Bd.exec
  have hby := Bd.bytes
  have hml : c.maxLocals = 5 := hml0
  have hown : s.vm.findClass "com/example/framewire/framewire/protocol/FrameType" = some m.cls := findClass_of_methodNamed Bd.named
  have hnm := (name_of_methodNamed Bd.named Bd.method).1
  have X0 : Stand p l e ({ frames := 2, cells := 1, slots := 8, locals := 25 } : Room) s m #[(.int p1)] below meth c s₁ [] 0 0 := Stand.of_body Bd
  have e0 : s₁.heap = h0 := by rw [← hh, Bd.state]; rfl
  have N0 := Fr.nil n0
  have pre0 : ∀ t, Steps p.tables e below (s₁.setTop (mkF m 0 #[.val (.int p1), .unset, .unset, .unset, .unset] [])) t → Steps p.tables e below (s₁.setTop (entryFrame m #[(.int p1)] 5)) t := fun t k => castTop (ef_1 m p1) k
  obtain ⟨_, _, ⟨T2, L2, k2, n2⟩, -, X2, ⟨Lc2, hQ2, l2, y2, z2⟩, st2⟩ := Jvm.LawKit.callS X0 hx (y := (⟨"com/example/framewire/framewire/protocol/FrameType", "values", "()[Lcom/example/framewire/framewire/protocol/FrameType;"⟩ : MethodName)) hown (mvT hZ (hw _ (List.mem_of_getElem? (i := 4) rfl))) (mvT hZ (hw _ (List.mem_of_getElem? (i := 5) rfl))) (mvT hZ (hw _ (List.mem_of_getElem? (i := 2) rfl))) (mvT hZ (hw _ (List.mem_of_getElem? (i := 6) rfl))) (by decide) (backOf (W := 0) (own_values l Z a0 hw [] wV clV h0 n0 Z0 S_V A_V Ex_V Ft_V S_Vz) hZ (hw _ (List.mem_of_getElem? (i := 6) rfl)) (hw _ (List.mem_of_getElem? (i := 2) rfl)) (by decide) (by decide)) (g := (mkF m 0 #[.val (.int p1), .unset, .unset, .unset, .unset] [])) rfl (by rw [hml]; rfl) (argsL := []) (rest := []) (lenOf pd_v rfl) rfl (by show 2 * 0 + _ ≤ _; exact Nat.le_of_eq rfl) (hb hby d1_0) (fun _ _ => ⟨rfl, e0, (by decide : 0 + 1 ≤ _), (by decide : 0 + 8 ≤ _)⟩)
  dsimp only [Pt.U, Pt.locs, Pt.cells, Pt.slots] at X2 l2 y2 z2 st2 hQ2
  subst l2 y2 z2
  obtain ⟨rfl, N2q, K2, A2⟩ := hQ2
  have e2 : T2.heap = T2.heap := rfl
  have S2 : (cloneOf clV).slots.size = (8 : Int32).toNatClampNeg := S_Vz
  have M2 : ¬ (8 : Int32) < 0 := by decide
  have N2 := Fr.app N0 N2q
  obtain ⟨T3, X3, e3, st3⟩ := tn1_9_9 p1 h0.size (8 : Int32) (0 : Int32) (.unset) w_COMMAND_REQUEST (cloneOf clV) (1 : Int32) X2 hx hZ hw hby hml hown e2 A2 P_COMMAND_REQUEST.1 P_COMMAND_REQUEST.2 (One.u) (F_COMMAND_REQUEST.ext (own_ext K2)) (by decide) h_COMMAND_REQUEST
  have i3 : (0 : Int32) + (1 : Int32) = (1 : Int32) := by decide
  obtain ⟨T4, X4, e4, st4⟩ := tn1_9_9 p1 h0.size (8 : Int32) (1 : Int32) (.val (.ref w_COMMAND_REQUEST)) w_COMMAND_DATA (cloneOf clV) (2 : Int32) X3 hx hZ hw hby hml hown e3 A2 P_COMMAND_DATA.1 P_COMMAND_DATA.2 (One.val rfl) (F_COMMAND_DATA.ext (own_ext K2)) (by decide) h_COMMAND_DATA
  have i4 : (1 : Int32) + (1 : Int32) = (2 : Int32) := by decide
  obtain ⟨T5, X5, e5, st5⟩ := tn1_9_9 p1 h0.size (8 : Int32) (2 : Int32) (.val (.ref w_COMMAND_DATA)) w_COMMAND_RESPONSE (cloneOf clV) (3 : Int32) X4 hx hZ hw hby hml hown e4 A2 P_COMMAND_RESPONSE.1 P_COMMAND_RESPONSE.2 (One.val rfl) (F_COMMAND_RESPONSE.ext (own_ext K2)) (by decide) h_COMMAND_RESPONSE
  have i5 : (2 : Int32) + (1 : Int32) = (3 : Int32) := by decide
  obtain ⟨T6, X6, e6, st6⟩ := tn1_9_9 p1 h0.size (8 : Int32) (3 : Int32) (.val (.ref w_COMMAND_RESPONSE)) w_ERROR_OCCURRED (cloneOf clV) (5 : Int32) X5 hx hZ hw hby hml hown e5 A2 P_ERROR_OCCURRED.1 P_ERROR_OCCURRED.2 (One.val rfl) (F_ERROR_OCCURRED.ext (own_ext K2)) (by decide) h_ERROR_OCCURRED
  have i6 : (3 : Int32) + (1 : Int32) = (4 : Int32) := by decide
  obtain ⟨T7, X7, e7, st7⟩ := tn1_9_9 p1 h0.size (8 : Int32) (4 : Int32) (.val (.ref w_ERROR_OCCURRED)) w_HUMAN_OUTPUT (cloneOf clV) (6 : Int32) X6 hx hZ hw hby hml hown e6 A2 P_HUMAN_OUTPUT.1 P_HUMAN_OUTPUT.2 (One.val rfl) (F_HUMAN_OUTPUT.ext (own_ext K2)) (by decide) h_HUMAN_OUTPUT
  have i7 : (4 : Int32) + (1 : Int32) = (5 : Int32) := by decide
  obtain ⟨T8, X8, e8, st8⟩ := tn1_9_9 p1 h0.size (8 : Int32) (5 : Int32) (.val (.ref w_HUMAN_OUTPUT)) w_PROGRESS (cloneOf clV) (7 : Int32) X7 hx hZ hw hby hml hown e7 A2 P_PROGRESS.1 P_PROGRESS.2 (One.val rfl) (F_PROGRESS.ext (own_ext K2)) (by decide) h_PROGRESS
  have i8 : (5 : Int32) + (1 : Int32) = (6 : Int32) := by decide
  obtain ⟨T9, X9, e9, st9⟩ := tn1_9_9 p1 h0.size (8 : Int32) (6 : Int32) (.val (.ref w_PROGRESS)) w_SENDER_PROTOCOL_SETTINGS (cloneOf clV) (8 : Int32) X8 hx hZ hw hby hml hown e8 A2 P_SENDER_PROTOCOL_SETTINGS.1 P_SENDER_PROTOCOL_SETTINGS.2 (One.val rfl) (F_SENDER_PROTOCOL_SETTINGS.ext (own_ext K2)) (by decide) h_SENDER_PROTOCOL_SETTINGS
  have i9 : (6 : Int32) + (1 : Int32) = (7 : Int32) := by decide
  obtain ⟨T10, X10, e10, st10⟩ := tn1_9_9 p1 h0.size (8 : Int32) (7 : Int32) (.val (.ref w_SENDER_PROTOCOL_SETTINGS)) w_STREAM_ENCODING_SETTINGS (cloneOf clV) (9 : Int32) X9 hx hZ hw hby hml hown e9 A2 P_STREAM_ENCODING_SETTINGS.1 P_STREAM_ENCODING_SETTINGS.2 (One.val rfl) (F_STREAM_ENCODING_SETTINGS.ext (own_ext K2)) (by decide) h_STREAM_ENCODING_SETTINGS
  have i10 : (7 : Int32) + (1 : Int32) = (8 : Int32) := by decide
  obtain ⟨T11, X11, e11, st11⟩ := tn1_9_37 (.val (.int p1)) (.val (.ref h0.size)) (8 : Int32) (8 : Int32) (.val (.ref w_STREAM_ENCODING_SETTINGS)) X10 hx hZ hw hby hml hown e10 (by decide)
  obtain ⟨fs, hr, hrun, hended, hW, hsame⟩ := X11.leave (v := some .null) (fun h => by rw [Bd.returns] at h; cases h)
  refine ⟨_, _, pre0 _ ?_, hrun, hended, _, _, rfl, ?_, ⟨_, rfl⟩, hW, hsame.mono (by decide) (by decide)⟩
  · show Steps p.tables e below (s₁.setTop (mkF m 0 #[.val (.int p1), .unset, .unset, .unset, .unset] [])) _
    refine st2 _ ?_
    show Steps p.tables e below (T2.setTop (mkF m 3 #[.val (.int p1), .unset, .unset, .unset, .unset] [(.ref h0.size)])) _
    refine XS.astoreN X2.here hx rfl (hb hby d1_3) rfl rfl (l' := #[.val (.int p1), .val (.ref h0.size), .unset, .unset, .unset]) rfl ?_
    show Steps p.tables e below (T2.setTop (mkF m 4 #[.val (.int p1), .val (.ref h0.size), .unset, .unset, .unset] [])) _
    refine XS.aloadN X2.here hx rfl (hb hby d1_4) rfl rfl ?_
    show Steps p.tables e below (T2.setTop (mkF m 5 #[.val (.int p1), .val (.ref h0.size), .unset, .unset, .unset] [(.ref h0.size)])) _
    refine X2.arraylength hx (by rw [e2]; exact A2.1) (State.isArrayOf_alike hZ.alike A2.2.1) (g := (mkF m 5 #[.val (.int p1), .val (.ref h0.size), .unset, .unset, .unset] [(.ref h0.size)])) rfl rfl (hb hby d1_5) _ ?_
    rw [len_of S2 M2]
    show Steps p.tables e below (T2.setTop (mkF m 6 #[.val (.int p1), .val (.ref h0.size), .unset, .unset, .unset] [(.int (8 : Int32))])) _
    refine XS.istoreN X2.here hx rfl (hb hby d1_6) rfl (l' := #[.val (.int p1), .val (.ref h0.size), .val (.int (8 : Int32)), .unset, .unset]) rfl ?_
    show Steps p.tables e below (T2.setTop (mkF m 7 #[.val (.int p1), .val (.ref h0.size), .val (.int (8 : Int32)), .unset, .unset] [])) _
    refine XS.iconst X2.here hx rfl (hb hby d1_7) ?_
    show Steps p.tables e below (T2.setTop (mkF m 8 #[.val (.int p1), .val (.ref h0.size), .val (.int (8 : Int32)), .unset, .unset] [(.int (0 : Int32))])) _
    refine XS.istoreN X2.here hx rfl (hb hby d1_8) rfl (l' := #[.val (.int p1), .val (.ref h0.size), .val (.int (8 : Int32)), .val (.int (0 : Int32)), .unset]) rfl ?_
    show Steps p.tables e below (T2.setTop (mkF m 9 #[.val (.int p1), .val (.ref h0.size), .val (.int (8 : Int32)), .val (.int (0 : Int32)), .unset] [])) _
    refine st3 _ ?_
    rw [i3]
    show Steps p.tables e below (T3.setTop (mkF m 9 #[.val (.int p1), .val (.ref h0.size), .val (.int (8 : Int32)), .val (.int (1 : Int32)), .val (.ref w_COMMAND_REQUEST)] [])) _
    refine st4 _ ?_
    rw [i4]
    show Steps p.tables e below (T4.setTop (mkF m 9 #[.val (.int p1), .val (.ref h0.size), .val (.int (8 : Int32)), .val (.int (2 : Int32)), .val (.ref w_COMMAND_DATA)] [])) _
    refine st5 _ ?_
    rw [i5]
    show Steps p.tables e below (T5.setTop (mkF m 9 #[.val (.int p1), .val (.ref h0.size), .val (.int (8 : Int32)), .val (.int (3 : Int32)), .val (.ref w_COMMAND_RESPONSE)] [])) _
    refine st6 _ ?_
    rw [i6]
    show Steps p.tables e below (T6.setTop (mkF m 9 #[.val (.int p1), .val (.ref h0.size), .val (.int (8 : Int32)), .val (.int (4 : Int32)), .val (.ref w_ERROR_OCCURRED)] [])) _
    refine st7 _ ?_
    rw [i7]
    show Steps p.tables e below (T7.setTop (mkF m 9 #[.val (.int p1), .val (.ref h0.size), .val (.int (8 : Int32)), .val (.int (5 : Int32)), .val (.ref w_HUMAN_OUTPUT)] [])) _
    refine st8 _ ?_
    rw [i8]
    show Steps p.tables e below (T8.setTop (mkF m 9 #[.val (.int p1), .val (.ref h0.size), .val (.int (8 : Int32)), .val (.int (6 : Int32)), .val (.ref w_PROGRESS)] [])) _
    refine st9 _ ?_
    rw [i9]
    show Steps p.tables e below (T9.setTop (mkF m 9 #[.val (.int p1), .val (.ref h0.size), .val (.int (8 : Int32)), .val (.int (7 : Int32)), .val (.ref w_SENDER_PROTOCOL_SETTINGS)] [])) _
    refine st10 _ ?_
    rw [i10]
    show Steps p.tables e below (T10.setTop (mkF m 9 #[.val (.int p1), .val (.ref h0.size), .val (.int (8 : Int32)), .val (.int (8 : Int32)), .val (.ref w_STREAM_ENCODING_SETTINGS)] [])) _
    refine st11 _ ?_
    show Steps p.tables e below (T11.setTop (mkF m 37 #[.val (.int p1), .val (.ref h0.size), .val (.int (8 : Int32)), .val (.int (8 : Int32)), .val (.ref w_STREAM_ENCODING_SETTINGS)] [])) _
    refine XS.aconstNull X11.here hx rfl (hb hby d1_37) ?_
    show Steps p.tables e below (T11.setTop (mkF m 38 #[.val (.int p1), .val (.ref h0.size), .val (.int (8 : Int32)), .val (.int (8 : Int32)), .val (.ref w_STREAM_ENCODING_SETTINGS)] [.null])) _
    jvm_step X11.here [X11.here.top, hx, (hb hby d1_38), X11.method', Bd.returns, Value.isRef, FieldType.isReference]
    first | (intro acts; rw [hr _ acts rfl rfl rfl]) | rw [hr _ _ rfl rfl rfl]
    exact Steps.refl _
  · show (own_kret .null n0 h0) _ T11.heap _
    rw [e11]
    exact ⟨rfl, N2, K2⟩
theorem d3_0 : decode method_3_code 0 = .ok (.iload_n 0, 1) := by decide +kernel
theorem d3_1 : decode method_3_code 1 = .ok (.iconst 1, 1) := by decide +kernel
theorem d3_2 : decode method_3_code 2 = .ok (.if_icmp .ne 7, 3) := by decide +kernel
theorem d3_5 : decode method_3_code 5 = .ok (.getstatic 18, 3) := by decide +kernel
theorem d3_8 : decode method_3_code 8 = .ok (.areturn, 1) := by decide +kernel
theorem pn_3 : plainName "com/example/framewire/framewire/protocol/FrameTypeOfPinLaw" = true := by first | (simp [plainName, overriddenIn]; done) | decide +kernel
theorem ef_3 (m : MethodId) (x0 : Int32) : entryFrame m #[(.int x0)] 1 = mkF m 0 #[.val (.int x0)] [] := by first | (simp [entryFrame, mkF, argsToLocals, Value.category]; done) | rfl
set_option maxRecDepth 65536 in
set_option maxHeartbeats 40000000 in
theorem own_ex_0 (l : Launch) (Z : State) (a0 : Array Value) (hw : ∀ d ∈ tables_1, d.before a0 Z = true) (ws : List Jvm.Cond) (p1 : Int32) (w2 : Addr) (h0 : Heap) (n0 : Nat) (Z0 : n0 ≤ h0.size) (S_COMMAND_REQUEST : Sta Z h0 "com/example/framewire/framewire/protocol/FrameType" "COMMAND_REQUEST" "Lcom/example/framewire/framewire/protocol/FrameType;" (.ref w2)) (hc2 : p1 = (1 : Int32)) :
    MetFree l (⟨"com/example/framewire/framewire/protocol/FrameTypeOfPinLaw", "expected", "(I)Lcom/example/framewire/framewire/protocol/FrameType;"⟩ : MethodName) (head1 (Jvm.Cond.code (⟨"com/example/framewire/framewire/protocol/FrameTypeOfPinLaw", "expected", "(I)Lcom/example/framewire/framewire/protocol/FrameType;"⟩ : MethodName) method_3_code 1 (some (.object "com/example/framewire/framewire/protocol/FrameType")) :: ws) ({ frames := 0, cells := 0, slots := 0, locals := 0 } : Room)) (fun a U => a = #[(.int p1)] ∧ Z.Warmed39 U.vm ∧ U.heap = h0) (fun _ _ _ _ _ => True) (fun _ U o U' => ∃ v L, o = .returned v ∧ (own_ret (.ref w2) n0 h0) v U'.heap L ∧ FrameEnd U o U' L ({ frames := 0, cells := 0, slots := 0, locals := 0 } : Room).cells ({ frames := 0, cells := 0, slots := 0, locals := 0 } : Room).slots) := by
  refine MetFree.of_bodySF (plainFor_of_name pn_3) hisR ?_
  intro p e s m args below meth c s₁ Bd hml0 hP hK
  obtain ⟨rfl, hZ, hh⟩ := hP
  have hx := Bd.exec
  have hby := Bd.bytes
  have hml : c.maxLocals = 1 := hml0
  have hown : s.vm.findClass "com/example/framewire/framewire/protocol/FrameTypeOfPinLaw" = some m.cls := findClass_of_methodNamed Bd.named
  have hnm := (name_of_methodNamed Bd.named Bd.method).1
  have X0 : Stand p l e ({ frames := 0, cells := 0, slots := 0, locals := 0 } : Room) s m #[(.int p1)] below meth c s₁ [] 0 0 := Stand.of_body Bd
  have e0 : s₁.heap = h0 := by rw [← hh, Bd.state]; rfl
  have N0 := Fr.nil n0
  have pre0 : ∀ t, Steps p.tables e below (s₁.setTop (mkF m 0 #[.val (.int p1)] [])) t → Steps p.tables e below (s₁.setTop (entryFrame m #[(.int p1)] 1)) t := fun t k => castTop (ef_3 m p1) k
  obtain ⟨T3, X3, e3, st3⟩ := getS2 X0 hx hZ hown (host := "") (Or.inl (hw _ (List.mem_of_getElem? (i := 36) rfl))) Via.refl e0 S_COMMAND_REQUEST (g := (mkF m 5 #[.val (.int p1)] [])) rfl (hb hby d3_5)
  obtain ⟨fs, hr, hrun, hended, hW, hsame⟩ := X3.leave (v := some (.ref w2)) (fun h => by rw [Bd.returns] at h; cases h)
  refine ⟨_, _, pre0 _ ?_, hrun, hended, _, _, rfl, ?_, ⟨_, rfl⟩, hW, hsame.mono (by decide) (by decide)⟩
  · show Steps p.tables e below (s₁.setTop (mkF m 0 #[.val (.int p1)] [])) _
    refine XS.iloadN X0.here hx rfl (hb hby d3_0) rfl ?_
    show Steps p.tables e below (s₁.setTop (mkF m 1 #[.val (.int p1)] [(.int p1)])) _
    refine XS.iconst X0.here hx rfl (hb hby d3_1) ?_
    show Steps p.tables e below (s₁.setTop (mkF m 2 #[.val (.int p1)] [(.int (1 : Int32)), (.int p1)])) _
    refine XS.icmpNo X0.here hx rfl (hb hby d3_2) rfl (teq hc2).2 ?_
    show Steps p.tables e below (s₁.setTop (mkF m 5 #[.val (.int p1)] [])) _
    refine st3 _ ?_
    show Steps p.tables e below (T3.setTop (mkF m 8 #[.val (.int p1)] [(.ref w2)])) _
    jvm_step X3.here [X3.here.top, hx, (hb hby d3_8), X3.method', Bd.returns, Value.isRef, FieldType.isReference]
    first | (intro acts; rw [hr _ acts rfl rfl rfl]) | rw [hr _ _ rfl rfl rfl]
    exact Steps.refl _
  · show (own_ret (.ref w2) n0 h0) _ T3.heap _
    rw [e3]
    exact ⟨rfl, N0, rfl⟩
theorem d3_9 : decode method_3_code 9 = .ok (.iload_n 0, 1) := by decide +kernel
theorem d3_10 : decode method_3_code 10 = .ok (.iconst 2, 1) := by decide +kernel
theorem d3_11 : decode method_3_code 11 = .ok (.if_icmp .ne 7, 3) := by decide +kernel
theorem d3_14 : decode method_3_code 14 = .ok (.getstatic 22, 3) := by decide +kernel
theorem d3_17 : decode method_3_code 17 = .ok (.areturn, 1) := by decide +kernel
set_option maxRecDepth 65536 in
set_option maxHeartbeats 40000000 in
theorem own_ex_1 (l : Launch) (Z : State) (a0 : Array Value) (hw : ∀ d ∈ tables_1, d.before a0 Z = true) (ws : List Jvm.Cond) (p1 : Int32) (w2 : Addr) (h0 : Heap) (n0 : Nat) (Z0 : n0 ≤ h0.size) (S_COMMAND_DATA : Sta Z h0 "com/example/framewire/framewire/protocol/FrameType" "COMMAND_DATA" "Lcom/example/framewire/framewire/protocol/FrameType;" (.ref w2)) (hc2 : ¬ (p1 = (1 : Int32))) (hc11 : p1 = (2 : Int32)) :
    MetFree l (⟨"com/example/framewire/framewire/protocol/FrameTypeOfPinLaw", "expected", "(I)Lcom/example/framewire/framewire/protocol/FrameType;"⟩ : MethodName) (head1 (Jvm.Cond.code (⟨"com/example/framewire/framewire/protocol/FrameTypeOfPinLaw", "expected", "(I)Lcom/example/framewire/framewire/protocol/FrameType;"⟩ : MethodName) method_3_code 1 (some (.object "com/example/framewire/framewire/protocol/FrameType")) :: ws) ({ frames := 0, cells := 0, slots := 0, locals := 0 } : Room)) (fun a U => a = #[(.int p1)] ∧ Z.Warmed39 U.vm ∧ U.heap = h0) (fun _ _ _ _ _ => True) (fun _ U o U' => ∃ v L, o = .returned v ∧ (own_ret (.ref w2) n0 h0) v U'.heap L ∧ FrameEnd U o U' L ({ frames := 0, cells := 0, slots := 0, locals := 0 } : Room).cells ({ frames := 0, cells := 0, slots := 0, locals := 0 } : Room).slots) := by
  refine MetFree.of_bodySF (plainFor_of_name pn_3) hisR ?_
  intro p e s m args below meth c s₁ Bd hml0 hP hK
  obtain ⟨rfl, hZ, hh⟩ := hP
  have hx := Bd.exec
  have hby := Bd.bytes
  have hml : c.maxLocals = 1 := hml0
  have hown : s.vm.findClass "com/example/framewire/framewire/protocol/FrameTypeOfPinLaw" = some m.cls := findClass_of_methodNamed Bd.named
  have hnm := (name_of_methodNamed Bd.named Bd.method).1
  have X0 : Stand p l e ({ frames := 0, cells := 0, slots := 0, locals := 0 } : Room) s m #[(.int p1)] below meth c s₁ [] 0 0 := Stand.of_body Bd
  have e0 : s₁.heap = h0 := by rw [← hh, Bd.state]; rfl
  have N0 := Fr.nil n0
  have pre0 : ∀ t, Steps p.tables e below (s₁.setTop (mkF m 0 #[.val (.int p1)] [])) t → Steps p.tables e below (s₁.setTop (entryFrame m #[(.int p1)] 1)) t := fun t k => castTop (ef_3 m p1) k
  obtain ⟨T3, X3, e3, st3⟩ := getS2 X0 hx hZ hown (host := "") (Or.inl (hw _ (List.mem_of_getElem? (i := 37) rfl))) Via.refl e0 S_COMMAND_DATA (g := (mkF m 14 #[.val (.int p1)] [])) rfl (hb hby d3_14)
  obtain ⟨fs, hr, hrun, hended, hW, hsame⟩ := X3.leave (v := some (.ref w2)) (fun h => by rw [Bd.returns] at h; cases h)
  refine ⟨_, _, pre0 _ ?_, hrun, hended, _, _, rfl, ?_, ⟨_, rfl⟩, hW, hsame.mono (by decide) (by decide)⟩
  · show Steps p.tables e below (s₁.setTop (mkF m 0 #[.val (.int p1)] [])) _
    refine XS.iloadN X0.here hx rfl (hb hby d3_0) rfl ?_
    show Steps p.tables e below (s₁.setTop (mkF m 1 #[.val (.int p1)] [(.int p1)])) _
    refine XS.iconst X0.here hx rfl (hb hby d3_1) ?_
    show Steps p.tables e below (s₁.setTop (mkF m 2 #[.val (.int p1)] [(.int (1 : Int32)), (.int p1)])) _
    refine XS.icmpYes X0.here hx rfl (pc0 := 2) (pc' := 9) rfl (hb hby d3_2) rfl (feq hc2).2 (by decide) (by decide) ?_
    show Steps p.tables e below (s₁.setTop (mkF m 9 #[.val (.int p1)] [])) _
    refine XS.iloadN X0.here hx rfl (hb hby d3_9) rfl ?_
    show Steps p.tables e below (s₁.setTop (mkF m 10 #[.val (.int p1)] [(.int p1)])) _
    refine XS.iconst X0.here hx rfl (hb hby d3_10) ?_
    show Steps p.tables e below (s₁.setTop (mkF m 11 #[.val (.int p1)] [(.int (2 : Int32)), (.int p1)])) _
    refine XS.icmpNo X0.here hx rfl (hb hby d3_11) rfl (teq hc11).2 ?_
    show Steps p.tables e below (s₁.setTop (mkF m 14 #[.val (.int p1)] [])) _
    refine st3 _ ?_
    show Steps p.tables e below (T3.setTop (mkF m 17 #[.val (.int p1)] [(.ref w2)])) _
    jvm_step X3.here [X3.here.top, hx, (hb hby d3_17), X3.method', Bd.returns, Value.isRef, FieldType.isReference]
    first | (intro acts; rw [hr _ acts rfl rfl rfl]) | rw [hr _ _ rfl rfl rfl]
    exact Steps.refl _
  · show (own_ret (.ref w2) n0 h0) _ T3.heap _
    rw [e3]
    exact ⟨rfl, N0, rfl⟩
theorem d3_18 : decode method_3_code 18 = .ok (.iload_n 0, 1) := by decide +kernel
theorem d3_19 : decode method_3_code 19 = .ok (.iconst 3, 1) := by decide +kernel
theorem d3_20 : decode method_3_code 20 = .ok (.if_icmp .ne 7, 3) := by decide +kernel
theorem d3_23 : decode method_3_code 23 = .ok (.getstatic 25, 3) := by decide +kernel
theorem d3_26 : decode method_3_code 26 = .ok (.areturn, 1) := by decide +kernel
set_option maxRecDepth 65536 in
set_option maxHeartbeats 40000000 in
theorem own_ex_2 (l : Launch) (Z : State) (a0 : Array Value) (hw : ∀ d ∈ tables_1, d.before a0 Z = true) (ws : List Jvm.Cond) (p1 : Int32) (w2 : Addr) (h0 : Heap) (n0 : Nat) (Z0 : n0 ≤ h0.size) (S_COMMAND_RESPONSE : Sta Z h0 "com/example/framewire/framewire/protocol/FrameType" "COMMAND_RESPONSE" "Lcom/example/framewire/framewire/protocol/FrameType;" (.ref w2)) (hc2 : ¬ (p1 = (1 : Int32))) (hc11 : ¬ (p1 = (2 : Int32))) (hc20 : p1 = (3 : Int32)) :
    MetFree l (⟨"com/example/framewire/framewire/protocol/FrameTypeOfPinLaw", "expected", "(I)Lcom/example/framewire/framewire/protocol/FrameType;"⟩ : MethodName) (head1 (Jvm.Cond.code (⟨"com/example/framewire/framewire/protocol/FrameTypeOfPinLaw", "expected", "(I)Lcom/example/framewire/framewire/protocol/FrameType;"⟩ : MethodName) method_3_code 1 (some (.object "com/example/framewire/framewire/protocol/FrameType")) :: ws) ({ frames := 0, cells := 0, slots := 0, locals := 0 } : Room)) (fun a U => a = #[(.int p1)] ∧ Z.Warmed39 U.vm ∧ U.heap = h0) (fun _ _ _ _ _ => True) (fun _ U o U' => ∃ v L, o = .returned v ∧ (own_ret (.ref w2) n0 h0) v U'.heap L ∧ FrameEnd U o U' L ({ frames := 0, cells := 0, slots := 0, locals := 0 } : Room).cells ({ frames := 0, cells := 0, slots := 0, locals := 0 } : Room).slots) := by
  refine MetFree.of_bodySF (plainFor_of_name pn_3) hisR ?_
  intro p e s m args below meth c s₁ Bd hml0 hP hK
  obtain ⟨rfl, hZ, hh⟩ := hP
  have hx := Bd.exec
  have hby := Bd.bytes
  have hml : c.maxLocals = 1 := hml0
  have hown : s.vm.findClass "com/example/framewire/framewire/protocol/FrameTypeOfPinLaw" = some m.cls := findClass_of_methodNamed Bd.named
  have hnm := (name_of_methodNamed Bd.named Bd.method).1
  have X0 : Stand p l e ({ frames := 0, cells := 0, slots := 0, locals := 0 } : Room) s m #[(.int p1)] below meth c s₁ [] 0 0 := Stand.of_body Bd
  have e0 : s₁.heap = h0 := by rw [← hh, Bd.state]; rfl
  have N0 := Fr.nil n0
  have pre0 : ∀ t, Steps p.tables e below (s₁.setTop (mkF m 0 #[.val (.int p1)] [])) t → Steps p.tables e below (s₁.setTop (entryFrame m #[(.int p1)] 1)) t := fun t k => castTop (ef_3 m p1) k
  obtain ⟨T3, X3, e3, st3⟩ := getS2 X0 hx hZ hown (host := "") (Or.inl (hw _ (List.mem_of_getElem? (i := 35) rfl))) Via.refl e0 S_COMMAND_RESPONSE (g := (mkF m 23 #[.val (.int p1)] [])) rfl (hb hby d3_23)
  obtain ⟨fs, hr, hrun, hended, hW, hsame⟩ := X3.leave (v := some (.ref w2)) (fun h => by rw [Bd.returns] at h; cases h)
  refine ⟨_, _, pre0 _ ?_, hrun, hended, _, _, rfl, ?_, ⟨_, rfl⟩, hW, hsame.mono (by decide) (by decide)⟩
  · show Steps p.tables e below (s₁.setTop (mkF m 0 #[.val (.int p1)] [])) _
    refine XS.iloadN X0.here hx rfl (hb hby d3_0) rfl ?_
    show Steps p.tables e below (s₁.setTop (mkF m 1 #[.val (.int p1)] [(.int p1)])) _
    refine XS.iconst X0.here hx rfl (hb hby d3_1) ?_
    show Steps p.tables e below (s₁.setTop (mkF m 2 #[.val (.int p1)] [(.int (1 : Int32)), (.int p1)])) _
    refine XS.icmpYes X0.here hx rfl (pc0 := 2) (pc' := 9) rfl (hb hby d3_2) rfl (feq hc2).2 (by decide) (by decide) ?_
    show Steps p.tables e below (s₁.setTop (mkF m 9 #[.val (.int p1)] [])) _
    refine XS.iloadN X0.here hx rfl (hb hby d3_9) rfl ?_
    show Steps p.tables e below (s₁.setTop (mkF m 10 #[.val (.int p1)] [(.int p1)])) _
    refine XS.iconst X0.here hx rfl (hb hby d3_10) ?_
    show Steps p.tables e below (s₁.setTop (mkF m 11 #[.val (.int p1)] [(.int (2 : Int32)), (.int p1)])) _
    refine XS.icmpYes X0.here hx rfl (pc0 := 11) (pc' := 18) rfl (hb hby d3_11) rfl (feq hc11).2 (by decide) (by decide) ?_
    show Steps p.tables e below (s₁.setTop (mkF m 18 #[.val (.int p1)] [])) _
    refine XS.iloadN X0.here hx rfl (hb hby d3_18) rfl ?_
    show Steps p.tables e below (s₁.setTop (mkF m 19 #[.val (.int p1)] [(.int p1)])) _
    refine XS.iconst X0.here hx rfl (hb hby d3_19) ?_
    show Steps p.tables e below (s₁.setTop (mkF m 20 #[.val (.int p1)] [(.int (3 : Int32)), (.int p1)])) _
    refine XS.icmpNo X0.here hx rfl (hb hby d3_20) rfl (teq hc20).2 ?_
    show Steps p.tables e below (s₁.setTop (mkF m 23 #[.val (.int p1)] [])) _
    refine st3 _ ?_
    show Steps p.tables e below (T3.setTop (mkF m 26 #[.val (.int p1)] [(.ref w2)])) _
    jvm_step X3.here [X3.here.top, hx, (hb hby d3_26), X3.method', Bd.returns, Value.isRef, FieldType.isReference]
    first | (intro acts; rw [hr _ acts rfl rfl rfl]) | rw [hr _ _ rfl rfl rfl]
    exact Steps.refl _
  · show (own_ret (.ref w2) n0 h0) _ T3.heap _
    rw [e3]
    exact ⟨rfl, N0, rfl⟩
theorem d3_27 : decode method_3_code 27 = .ok (.iload_n 0, 1) := by decide +kernel
theorem d3_28 : decode method_3_code 28 = .ok (.iconst 5, 1) := by decide +kernel
theorem d3_29 : decode method_3_code 29 = .ok (.if_icmp .ne 7, 3) := by decide +kernel
theorem d3_32 : decode method_3_code 32 = .ok (.getstatic 28, 3) := by decide +kernel
theorem d3_35 : decode method_3_code 35 = .ok (.areturn, 1) := by decide +kernel
set_option maxRecDepth 65536 in
set_option maxHeartbeats 40000000 in
theorem own_ex_3 (l : Launch) (Z : State) (a0 : Array Value) (hw : ∀ d ∈ tables_1, d.before a0 Z = true) (ws : List Jvm.Cond) (p1 : Int32) (w2 : Addr) (h0 : Heap) (n0 : Nat) (Z0 : n0 ≤ h0.size) (S_ERROR_OCCURRED : Sta Z h0 "com/example/framewire/framewire/protocol/FrameType" "ERROR_OCCURRED" "Lcom/example/framewire/framewire/protocol/FrameType;" (.ref w2)) (hc2 : ¬ (p1 = (1 : Int32))) (hc11 : ¬ (p1 = (2 : Int32))) (hc20 : ¬ (p1 = (3 : Int32))) (hc29 : p1 = (5 : Int32)) :
    MetFree l (⟨"com/example/framewire/framewire/protocol/FrameTypeOfPinLaw", "expected", "(I)Lcom/example/framewire/framewire/protocol/FrameType;"⟩ : MethodName) (head1 (Jvm.Cond.code (⟨"com/example/framewire/framewire/protocol/FrameTypeOfPinLaw", "expected", "(I)Lcom/example/framewire/framewire/protocol/FrameType;"⟩ : MethodName) method_3_code 1 (some (.object "com/example/framewire/framewire/protocol/FrameType")) :: ws) ({ frames := 0, cells := 0, slots := 0, locals := 0 } : Room)) (fun a U => a = #[(.int p1)] ∧ Z.Warmed39 U.vm ∧ U.heap = h0) (fun _ _ _ _ _ => True) (fun _ U o U' => ∃ v L, o = .returned v ∧ (own_ret (.ref w2) n0 h0) v U'.heap L ∧ FrameEnd U o U' L ({ frames := 0, cells := 0, slots := 0, locals := 0 } : Room).cells ({ frames := 0, cells := 0, slots := 0, locals := 0 } : Room).slots) := by
  refine MetFree.of_bodySF (plainFor_of_name pn_3) hisR ?_
  intro p e s m args below meth c s₁ Bd hml0 hP hK
  obtain ⟨rfl, hZ, hh⟩ := hP
  have hx := Bd.exec
  have hby := Bd.bytes
  have hml : c.maxLocals = 1 := hml0
  have hown : s.vm.findClass "com/example/framewire/framewire/protocol/FrameTypeOfPinLaw" = some m.cls := findClass_of_methodNamed Bd.named
  have hnm := (name_of_methodNamed Bd.named Bd.method).1
  have X0 : Stand p l e ({ frames := 0, cells := 0, slots := 0, locals := 0 } : Room) s m #[(.int p1)] below meth c s₁ [] 0 0 := Stand.of_body Bd
  have e0 : s₁.heap = h0 := by rw [← hh, Bd.state]; rfl
  have N0 := Fr.nil n0
  have pre0 : ∀ t, Steps p.tables e below (s₁.setTop (mkF m 0 #[.val (.int p1)] [])) t → Steps p.tables e below (s₁.setTop (entryFrame m #[(.int p1)] 1)) t := fun t k => castTop (ef_3 m p1) k
  obtain ⟨T3, X3, e3, st3⟩ := getS2 X0 hx hZ hown (host := "") (Or.inl (hw _ (List.mem_of_getElem? (i := 38) rfl))) Via.refl e0 S_ERROR_OCCURRED (g := (mkF m 32 #[.val (.int p1)] [])) rfl (hb hby d3_32)
  obtain ⟨fs, hr, hrun, hended, hW, hsame⟩ := X3.leave (v := some (.ref w2)) (fun h => by rw [Bd.returns] at h; cases h)
  refine ⟨_, _, pre0 _ ?_, hrun, hended, _, _, rfl, ?_, ⟨_, rfl⟩, hW, hsame.mono (by decide) (by decide)⟩
  · show Steps p.tables e below (s₁.setTop (mkF m 0 #[.val (.int p1)] [])) _
    refine XS.iloadN X0.here hx rfl (hb hby d3_0) rfl ?_
    show Steps p.tables e below (s₁.setTop (mkF m 1 #[.val (.int p1)] [(.int p1)])) _
    refine XS.iconst X0.here hx rfl (hb hby d3_1) ?_
    show Steps p.tables e below (s₁.setTop (mkF m 2 #[.val (.int p1)] [(.int (1 : Int32)), (.int p1)])) _
    refine XS.icmpYes X0.here hx rfl (pc0 := 2) (pc' := 9) rfl (hb hby d3_2) rfl (feq hc2).2 (by decide) (by decide) ?_
    show Steps p.tables e below (s₁.setTop (mkF m 9 #[.val (.int p1)] [])) _
    refine XS.iloadN X0.here hx rfl (hb hby d3_9) rfl ?_
    show Steps p.tables e below (s₁.setTop (mkF m 10 #[.val (.int p1)] [(.int p1)])) _
    refine XS.iconst X0.here hx rfl (hb hby d3_10) ?_
    show Steps p.tables e below (s₁.setTop (mkF m 11 #[.val (.int p1)] [(.int (2 : Int32)), (.int p1)])) _
    refine XS.icmpYes X0.here hx rfl (pc0 := 11) (pc' := 18) rfl (hb hby d3_11) rfl (feq hc11).2 (by decide) (by decide) ?_
    show Steps p.tables e below (s₁.setTop (mkF m 18 #[.val (.int p1)] [])) _
    refine XS.iloadN X0.here hx rfl (hb hby d3_18) rfl ?_
    show Steps p.tables e below (s₁.setTop (mkF m 19 #[.val (.int p1)] [(.int p1)])) _
    refine XS.iconst X0.here hx rfl (hb hby d3_19) ?_
    show Steps p.tables e below (s₁.setTop (mkF m 20 #[.val (.int p1)] [(.int (3 : Int32)), (.int p1)])) _
    refine XS.icmpYes X0.here hx rfl (pc0 := 20) (pc' := 27) rfl (hb hby d3_20) rfl (feq hc20).2 (by decide) (by decide) ?_
    show Steps p.tables e below (s₁.setTop (mkF m 27 #[.val (.int p1)] [])) _
    refine XS.iloadN X0.here hx rfl (hb hby d3_27) rfl ?_
    show Steps p.tables e below (s₁.setTop (mkF m 28 #[.val (.int p1)] [(.int p1)])) _
    refine XS.iconst X0.here hx rfl (hb hby d3_28) ?_
    show Steps p.tables e below (s₁.setTop (mkF m 29 #[.val (.int p1)] [(.int (5 : Int32)), (.int p1)])) _
    refine XS.icmpNo X0.here hx rfl (hb hby d3_29) rfl (teq hc29).2 ?_
    show Steps p.tables e below (s₁.setTop (mkF m 32 #[.val (.int p1)] [])) _
    refine st3 _ ?_
    show Steps p.tables e below (T3.setTop (mkF m 35 #[.val (.int p1)] [(.ref w2)])) _
    jvm_step X3.here [X3.here.top, hx, (hb hby d3_35), X3.method', Bd.returns, Value.isRef, FieldType.isReference]
    first | (intro acts; rw [hr _ acts rfl rfl rfl]) | rw [hr _ _ rfl rfl rfl]
    exact Steps.refl _
  · show (own_ret (.ref w2) n0 h0) _ T3.heap _
    rw [e3]
    exact ⟨rfl, N0, rfl⟩
theorem d3_36 : decode method_3_code 36 = .ok (.iload_n 0, 1) := by decide +kernel
theorem d3_37 : decode method_3_code 37 = .ok (.bipush 6, 2) := by decide +kernel
theorem d3_39 : decode method_3_code 39 = .ok (.if_icmp .ne 7, 3) := by decide +kernel
theorem d3_42 : decode method_3_code 42 = .ok (.getstatic 31, 3) := by decide +kernel
theorem d3_45 : decode method_3_code 45 = .ok (.areturn, 1) := by decide +kernel
set_option maxRecDepth 65536 in
set_option maxHeartbeats 40000000 in
theorem own_ex_4 (l : Launch) (Z : State) (a0 : Array Value) (hw : ∀ d ∈ tables_1, d.before a0 Z = true) (ws : List Jvm.Cond) (p1 : Int32) (w2 : Addr) (h0 : Heap) (n0 : Nat) (Z0 : n0 ≤ h0.size) (S_HUMAN_OUTPUT : Sta Z h0 "com/example/framewire/framewire/protocol/FrameType" "HUMAN_OUTPUT" "Lcom/example/framewire/framewire/protocol/FrameType;" (.ref w2)) (hc2 : ¬ (p1 = (1 : Int32))) (hc11 : ¬ (p1 = (2 : Int32))) (hc20 : ¬ (p1 = (3 : Int32))) (hc29 : ¬ (p1 = (5 : Int32))) (hc39 : p1 = (6 : Int32)) :
    MetFree l (⟨"com/example/framewire/framewire/protocol/FrameTypeOfPinLaw", "expected", "(I)Lcom/example/framewire/framewire/protocol/FrameType;"⟩ : MethodName) (head1 (Jvm.Cond.code (⟨"com/example/framewire/framewire/protocol/FrameTypeOfPinLaw", "expected", "(I)Lcom/example/framewire/framewire/protocol/FrameType;"⟩ : MethodName) method_3_code 1 (some (.object "com/example/framewire/framewire/protocol/FrameType")) :: ws) ({ frames := 0, cells := 0, slots := 0, locals := 0 } : Room)) (fun a U => a = #[(.int p1)] ∧ Z.Warmed39 U.vm ∧ U.heap = h0) (fun _ _ _ _ _ => True) (fun _ U o U' => ∃ v L, o = .returned v ∧ (own_ret (.ref w2) n0 h0) v U'.heap L ∧ FrameEnd U o U' L ({ frames := 0, cells := 0, slots := 0, locals := 0 } : Room).cells ({ frames := 0, cells := 0, slots := 0, locals := 0 } : Room).slots) := by
  refine MetFree.of_bodySF (plainFor_of_name pn_3) hisR ?_
  intro p e s m args below meth c s₁ Bd hml0 hP hK
  obtain ⟨rfl, hZ, hh⟩ := hP
  have hx := Bd.exec
  have hby := Bd.bytes
  have hml : c.maxLocals = 1 := hml0
  have hown : s.vm.findClass "com/example/framewire/framewire/protocol/FrameTypeOfPinLaw" = some m.cls := findClass_of_methodNamed Bd.named
  have hnm := (name_of_methodNamed Bd.named Bd.method).1
  have X0 : Stand p l e ({ frames := 0, cells := 0, slots := 0, locals := 0 } : Room) s m #[(.int p1)] below meth c s₁ [] 0 0 := Stand.of_body Bd
  have e0 : s₁.heap = h0 := by rw [← hh, Bd.state]; rfl
  have N0 := Fr.nil n0
  have pre0 : ∀ t, Steps p.tables e below (s₁.setTop (mkF m 0 #[.val (.int p1)] [])) t → Steps p.tables e below (s₁.setTop (entryFrame m #[(.int p1)] 1)) t := fun t k => castTop (ef_3 m p1) k
  obtain ⟨T3, X3, e3, st3⟩ := getS2 X0 hx hZ hown (host := "") (Or.inl (hw _ (List.mem_of_getElem? (i := 33) rfl))) Via.refl e0 S_HUMAN_OUTPUT (g := (mkF m 42 #[.val (.int p1)] [])) rfl (hb hby d3_42)
  obtain ⟨fs, hr, hrun, hended, hW, hsame⟩ := X3.leave (v := some (.ref w2)) (fun h => by rw [Bd.returns] at h; cases h)
  refine ⟨_, _, pre0 _ ?_, hrun, hended, _, _, rfl, ?_, ⟨_, rfl⟩, hW, hsame.mono (by decide) (by decide)⟩
  · show Steps p.tables e below (s₁.setTop (mkF m 0 #[.val (.int p1)] [])) _
    refine XS.iloadN X0.here hx rfl (hb hby d3_0) rfl ?_
    show Steps p.tables e below (s₁.setTop (mkF m 1 #[.val (.int p1)] [(.int p1)])) _
    refine XS.iconst X0.here hx rfl (hb hby d3_1) ?_
    show Steps p.tables e below (s₁.setTop (mkF m 2 #[.val (.int p1)] [(.int (1 : Int32)), (.int p1)])) _
    refine XS.icmpYes X0.here hx rfl (pc0 := 2) (pc' := 9) rfl (hb hby d3_2) rfl (feq hc2).2 (by decide) (by decide) ?_
    show Steps p.tables e below (s₁.setTop (mkF m 9 #[.val (.int p1)] [])) _
    refine XS.iloadN X0.here hx rfl (hb hby d3_9) rfl ?_
    show Steps p.tables e below (s₁.setTop (mkF m 10 #[.val (.int p1)] [(.int p1)])) _
    refine XS.iconst X0.here hx rfl (hb hby d3_10) ?_
    show Steps p.tables e below (s₁.setTop (mkF m 11 #[.val (.int p1)] [(.int (2 : Int32)), (.int p1)])) _
    refine XS.icmpYes X0.here hx rfl (pc0 := 11) (pc' := 18) rfl (hb hby d3_11) rfl (feq hc11).2 (by decide) (by decide) ?_
    show Steps p.tables e below (s₁.setTop (mkF m 18 #[.val (.int p1)] [])) _
    refine XS.iloadN X0.here hx rfl (hb hby d3_18) rfl ?_
    show Steps p.tables e below (s₁.setTop (mkF m 19 #[.val (.int p1)] [(.int p1)])) _
    refine XS.iconst X0.here hx rfl (hb hby d3_19) ?_
    show Steps p.tables e below (s₁.setTop (mkF m 20 #[.val (.int p1)] [(.int (3 : Int32)), (.int p1)])) _
    refine XS.icmpYes X0.here hx rfl (pc0 := 20) (pc' := 27) rfl (hb hby d3_20) rfl (feq hc20).2 (by decide) (by decide) ?_
    show Steps p.tables e below (s₁.setTop (mkF m 27 #[.val (.int p1)] [])) _
    refine XS.iloadN X0.here hx rfl (hb hby d3_27) rfl ?_
    show Steps p.tables e below (s₁.setTop (mkF m 28 #[.val (.int p1)] [(.int p1)])) _
    refine XS.iconst X0.here hx rfl (hb hby d3_28) ?_
    show Steps p.tables e below (s₁.setTop (mkF m 29 #[.val (.int p1)] [(.int (5 : Int32)), (.int p1)])) _
    refine XS.icmpYes X0.here hx rfl (pc0 := 29) (pc' := 36) rfl (hb hby d3_29) rfl (feq hc29).2 (by decide) (by decide) ?_
    show Steps p.tables e below (s₁.setTop (mkF m 36 #[.val (.int p1)] [])) _
    refine XS.iloadN X0.here hx rfl (hb hby d3_36) rfl ?_
    show Steps p.tables e below (s₁.setTop (mkF m 37 #[.val (.int p1)] [(.int p1)])) _
    refine XS.bipush X0.here hx rfl (hb hby d3_37) ?_
    show Steps p.tables e below (s₁.setTop (mkF m 39 #[.val (.int p1)] [(.int (6 : Int32)), (.int p1)])) _
    refine XS.icmpNo X0.here hx rfl (hb hby d3_39) rfl (teq hc39).2 ?_
    show Steps p.tables e below (s₁.setTop (mkF m 42 #[.val (.int p1)] [])) _
    refine st3 _ ?_
    show Steps p.tables e below (T3.setTop (mkF m 45 #[.val (.int p1)] [(.ref w2)])) _
    jvm_step X3.here [X3.here.top, hx, (hb hby d3_45), X3.method', Bd.returns, Value.isRef, FieldType.isReference]
    first | (intro acts; rw [hr _ acts rfl rfl rfl]) | rw [hr _ _ rfl rfl rfl]
    exact Steps.refl _
  · show (own_ret (.ref w2) n0 h0) _ T3.heap _
    rw [e3]
    exact ⟨rfl, N0, rfl⟩
theorem d3_46 : decode method_3_code 46 = .ok (.iload_n 0, 1) := by decide +kernel
theorem d3_47 : decode method_3_code 47 = .ok (.bipush 7, 2) := by decide +kernel
theorem d3_49 : decode method_3_code 49 = .ok (.if_icmp .ne 7, 3) := by decide +kernel
theorem d3_52 : decode method_3_code 52 = .ok (.getstatic 34, 3) := by decide +kernel
theorem d3_55 : decode method_3_code 55 = .ok (.areturn, 1) := by decide +kernel
set_option maxRecDepth 65536 in
set_option maxHeartbeats 40000000 in
theorem own_ex_5 (l : Launch) (Z : State) (a0 : Array Value) (hw : ∀ d ∈ tables_1, d.before a0 Z = true) (ws : List Jvm.Cond) (p1 : Int32) (w2 : Addr) (h0 : Heap) (n0 : Nat) (Z0 : n0 ≤ h0.size) (S_PROGRESS : Sta Z h0 "com/example/framewire/framewire/protocol/FrameType" "PROGRESS" "Lcom/example/framewire/framewire/protocol/FrameType;" (.ref w2)) (hc2 : ¬ (p1 = (1 : Int32))) (hc11 : ¬ (p1 = (2 : Int32))) (hc20 : ¬ (p1 = (3 : Int32))) (hc29 : ¬ (p1 = (5 : Int32))) (hc39 : ¬ (p1 = (6 : Int32))) (hc49 : p1 = (7 : Int32)) :
    MetFree l (⟨"com/example/framewire/framewire/protocol/FrameTypeOfPinLaw", "expected", "(I)Lcom/example/framewire/framewire/protocol/FrameType;"⟩ : MethodName) (head1 (Jvm.Cond.code (⟨"com/example/framewire/framewire/protocol/FrameTypeOfPinLaw", "expected", "(I)Lcom/example/framewire/framewire/protocol/FrameType;"⟩ : MethodName) method_3_code 1 (some (.object "com/example/framewire/framewire/protocol/FrameType")) :: ws) ({ frames := 0, cells := 0, slots := 0, locals := 0 } : Room)) (fun a U => a = #[(.int p1)] ∧ Z.Warmed39 U.vm ∧ U.heap = h0) (fun _ _ _ _ _ => True) (fun _ U o U' => ∃ v L, o = .returned v ∧ (own_ret (.ref w2) n0 h0) v U'.heap L ∧ FrameEnd U o U' L ({ frames := 0, cells := 0, slots := 0, locals := 0 } : Room).cells ({ frames := 0, cells := 0, slots := 0, locals := 0 } : Room).slots) := by
  refine MetFree.of_bodySF (plainFor_of_name pn_3) hisR ?_
  intro p e s m args below meth c s₁ Bd hml0 hP hK
  obtain ⟨rfl, hZ, hh⟩ := hP
  have hx := Bd.exec
  have hby := Bd.bytes
  have hml : c.maxLocals = 1 := hml0
  have hown : s.vm.findClass "com/example/framewire/framewire/protocol/FrameTypeOfPinLaw" = some m.cls := findClass_of_methodNamed Bd.named
  have hnm := (name_of_methodNamed Bd.named Bd.method).1
  have X0 : Stand p l e ({ frames := 0, cells := 0, slots := 0, locals := 0 } : Room) s m #[(.int p1)] below meth c s₁ [] 0 0 := Stand.of_body Bd
  have e0 : s₁.heap = h0 := by rw [← hh, Bd.state]; rfl
  have N0 := Fr.nil n0
  have pre0 : ∀ t, Steps p.tables e below (s₁.setTop (mkF m 0 #[.val (.int p1)] [])) t → Steps p.tables e below (s₁.setTop (entryFrame m #[(.int p1)] 1)) t := fun t k => castTop (ef_3 m p1) k
  obtain ⟨T3, X3, e3, st3⟩ := getS2 X0 hx hZ hown (host := "") (Or.inl (hw _ (List.mem_of_getElem? (i := 40) rfl))) Via.refl e0 S_PROGRESS (g := (mkF m 52 #[.val (.int p1)] [])) rfl (hb hby d3_52)
  obtain ⟨fs, hr, hrun, hended, hW, hsame⟩ := X3.leave (v := some (.ref w2)) (fun h => by rw [Bd.returns] at h; cases h)
  refine ⟨_, _, pre0 _ ?_, hrun, hended, _, _, rfl, ?_, ⟨_, rfl⟩, hW, hsame.mono (by decide) (by decide)⟩
  · show Steps p.tables e below (s₁.setTop (mkF m 0 #[.val (.int p1)] [])) _
    refine XS.iloadN X0.here hx rfl (hb hby d3_0) rfl ?_
    show Steps p.tables e below (s₁.setTop (mkF m 1 #[.val (.int p1)] [(.int p1)])) _
    refine XS.iconst X0.here hx rfl (hb hby d3_1) ?_
    show Steps p.tables e below (s₁.setTop (mkF m 2 #[.val (.int p1)] [(.int (1 : Int32)), (.int p1)])) _
    refine XS.icmpYes X0.here hx rfl (pc0 := 2) (pc' := 9) rfl (hb hby d3_2) rfl (feq hc2).2 (by decide) (by decide) ?_
    show Steps p.tables e below (s₁.setTop (mkF m 9 #[.val (.int p1)] [])) _
    refine XS.iloadN X0.here hx rfl (hb hby d3_9) rfl ?_
    show Steps p.tables e below (s₁.setTop (mkF m 10 #[.val (.int p1)] [(.int p1)])) _
    refine XS.iconst X0.here hx rfl (hb hby d3_10) ?_
    show Steps p.tables e below (s₁.setTop (mkF m 11 #[.val (.int p1)] [(.int (2 : Int32)), (.int p1)])) _
    refine XS.icmpYes X0.here hx rfl (pc0 := 11) (pc' := 18) rfl (hb hby d3_11) rfl (feq hc11).2 (by decide) (by decide) ?_
    show Steps p.tables e below (s₁.setTop (mkF m 18 #[.val (.int p1)] [])) _
    refine XS.iloadN X0.here hx rfl (hb hby d3_18) rfl ?_
    show Steps p.tables e below (s₁.setTop (mkF m 19 #[.val (.int p1)] [(.int p1)])) _
    refine XS.iconst X0.here hx rfl (hb hby d3_19) ?_
    show Steps p.tables e below (s₁.setTop (mkF m 20 #[.val (.int p1)] [(.int (3 : Int32)), (.int p1)])) _
    refine XS.icmpYes X0.here hx rfl (pc0 := 20) (pc' := 27) rfl (hb hby d3_20) rfl (feq hc20).2 (by decide) (by decide) ?_
    show Steps p.tables e below (s₁.setTop (mkF m 27 #[.val (.int p1)] [])) _
    refine XS.iloadN X0.here hx rfl (hb hby d3_27) rfl ?_
    show Steps p.tables e below (s₁.setTop (mkF m 28 #[.val (.int p1)] [(.int p1)])) _
    refine XS.iconst X0.here hx rfl (hb hby d3_28) ?_
    show Steps p.tables e below (s₁.setTop (mkF m 29 #[.val (.int p1)] [(.int (5 : Int32)), (.int p1)])) _
    refine XS.icmpYes X0.here hx rfl (pc0 := 29) (pc' := 36) rfl (hb hby d3_29) rfl (feq hc29).2 (by decide) (by decide) ?_
    show Steps p.tables e below (s₁.setTop (mkF m 36 #[.val (.int p1)] [])) _
    refine XS.iloadN X0.here hx rfl (hb hby d3_36) rfl ?_
    show Steps p.tables e below (s₁.setTop (mkF m 37 #[.val (.int p1)] [(.int p1)])) _
    refine XS.bipush X0.here hx rfl (hb hby d3_37) ?_
    show Steps p.tables e below (s₁.setTop (mkF m 39 #[.val (.int p1)] [(.int (6 : Int32)), (.int p1)])) _
    refine XS.icmpYes X0.here hx rfl (pc0 := 39) (pc' := 46) rfl (hb hby d3_39) rfl (feq hc39).2 (by decide) (by decide) ?_
    show Steps p.tables e below (s₁.setTop (mkF m 46 #[.val (.int p1)] [])) _
    refine XS.iloadN X0.here hx rfl (hb hby d3_46) rfl ?_
    show Steps p.tables e below (s₁.setTop (mkF m 47 #[.val (.int p1)] [(.int p1)])) _
    refine XS.bipush X0.here hx rfl (hb hby d3_47) ?_
    show Steps p.tables e below (s₁.setTop (mkF m 49 #[.val (.int p1)] [(.int (7 : Int32)), (.int p1)])) _
    refine XS.icmpNo X0.here hx rfl (hb hby d3_49) rfl (teq hc49).2 ?_
    show Steps p.tables e below (s₁.setTop (mkF m 52 #[.val (.int p1)] [])) _
    refine st3 _ ?_
    show Steps p.tables e below (T3.setTop (mkF m 55 #[.val (.int p1)] [(.ref w2)])) _
    jvm_step X3.here [X3.here.top, hx, (hb hby d3_55), X3.method', Bd.returns, Value.isRef, FieldType.isReference]
    first | (intro acts; rw [hr _ acts rfl rfl rfl]) | rw [hr _ _ rfl rfl rfl]
    exact Steps.refl _
  · show (own_ret (.ref w2) n0 h0) _ T3.heap _
    rw [e3]
    exact ⟨rfl, N0, rfl⟩
theorem d3_56 : decode method_3_code 56 = .ok (.iload_n 0, 1) := by decide +kernel
theorem d3_57 : decode method_3_code 57 = .ok (.bipush 8, 2) := by decide +kernel
theorem d3_59 : decode method_3_code 59 = .ok (.if_icmp .ne 7, 3) := by decide +kernel
theorem d3_62 : decode method_3_code 62 = .ok (.getstatic 37, 3) := by decide +kernel
theorem d3_65 : decode method_3_code 65 = .ok (.areturn, 1) := by decide +kernel
set_option maxRecDepth 65536 in
set_option maxHeartbeats 40000000 in
theorem own_ex_6 (l : Launch) (Z : State) (a0 : Array Value) (hw : ∀ d ∈ tables_1, d.before a0 Z = true) (ws : List Jvm.Cond) (p1 : Int32) (w2 : Addr) (h0 : Heap) (n0 : Nat) (Z0 : n0 ≤ h0.size) (S_SENDER_PROTOCOL_SETTINGS : Sta Z h0 "com/example/framewire/framewire/protocol/FrameType" "SENDER_PROTOCOL_SETTINGS" "Lcom/example/framewire/framewire/protocol/FrameType;" (.ref w2)) (hc2 : ¬ (p1 = (1 : Int32))) (hc11 : ¬ (p1 = (2 : Int32))) (hc20 : ¬ (p1 = (3 : Int32))) (hc29 : ¬ (p1 = (5 : Int32))) (hc39 : ¬ (p1 = (6 : Int32))) (hc49 : ¬ (p1 = (7 : Int32))) (hc59 : p1 = (8 : Int32)) :
    MetFree l (⟨"com/example/framewire/framewire/protocol/FrameTypeOfPinLaw", "expected", "(I)Lcom/example/framewire/framewire/protocol/FrameType;"⟩ : MethodName) (head1 (Jvm.Cond.code (⟨"com/example/framewire/framewire/protocol/FrameTypeOfPinLaw", "expected", "(I)Lcom/example/framewire/framewire/protocol/FrameType;"⟩ : MethodName) method_3_code 1 (some (.object "com/example/framewire/framewire/protocol/FrameType")) :: ws) ({ frames := 0, cells := 0, slots := 0, locals := 0 } : Room)) (fun a U => a = #[(.int p1)] ∧ Z.Warmed39 U.vm ∧ U.heap = h0) (fun _ _ _ _ _ => True) (fun _ U o U' => ∃ v L, o = .returned v ∧ (own_ret (.ref w2) n0 h0) v U'.heap L ∧ FrameEnd U o U' L ({ frames := 0, cells := 0, slots := 0, locals := 0 } : Room).cells ({ frames := 0, cells := 0, slots := 0, locals := 0 } : Room).slots) := by
  refine MetFree.of_bodySF (plainFor_of_name pn_3) hisR ?_
  intro p e s m args below meth c s₁ Bd hml0 hP hK
  obtain ⟨rfl, hZ, hh⟩ := hP
  have hx := Bd.exec
  have hby := Bd.bytes
  have hml : c.maxLocals = 1 := hml0
  have hown : s.vm.findClass "com/example/framewire/framewire/protocol/FrameTypeOfPinLaw" = some m.cls := findClass_of_methodNamed Bd.named
  have hnm := (name_of_methodNamed Bd.named Bd.method).1
  have X0 : Stand p l e ({ frames := 0, cells := 0, slots := 0, locals := 0 } : Room) s m #[(.int p1)] below meth c s₁ [] 0 0 := Stand.of_body Bd
  have e0 : s₁.heap = h0 := by rw [← hh, Bd.state]; rfl
  have N0 := Fr.nil n0
  have pre0 : ∀ t, Steps p.tables e below (s₁.setTop (mkF m 0 #[.val (.int p1)] [])) t → Steps p.tables e below (s₁.setTop (entryFrame m #[(.int p1)] 1)) t := fun t k => castTop (ef_3 m p1) k
  obtain ⟨T3, X3, e3, st3⟩ := getS2 X0 hx hZ hown (host := "") (Or.inl (hw _ (List.mem_of_getElem? (i := 34) rfl))) Via.refl e0 S_SENDER_PROTOCOL_SETTINGS (g := (mkF m 62 #[.val (.int p1)] [])) rfl (hb hby d3_62)
  obtain ⟨fs, hr, hrun, hended, hW, hsame⟩ := X3.leave (v := some (.ref w2)) (fun h => by rw [Bd.returns] at h; cases h)
  refine ⟨_, _, pre0 _ ?_, hrun, hended, _, _, rfl, ?_, ⟨_, rfl⟩, hW, hsame.mono (by decide) (by decide)⟩
  · show Steps p.tables e below (s₁.setTop (mkF m 0 #[.val (.int p1)] [])) _
    refine XS.iloadN X0.here hx rfl (hb hby d3_0) rfl ?_
    show Steps p.tables e below (s₁.setTop (mkF m 1 #[.val (.int p1)] [(.int p1)])) _
    refine XS.iconst X0.here hx rfl (hb hby d3_1) ?_
    show Steps p.tables e below (s₁.setTop (mkF m 2 #[.val (.int p1)] [(.int (1 : Int32)), (.int p1)])) _
    refine XS.icmpYes X0.here hx rfl (pc0 := 2) (pc' := 9) rfl (hb hby d3_2) rfl (feq hc2).2 (by decide) (by decide) ?_
    show Steps p.tables e below (s₁.setTop (mkF m 9 #[.val (.int p1)] [])) _
    refine XS.iloadN X0.here hx rfl (hb hby d3_9) rfl ?_
    show Steps p.tables e below (s₁.setTop (mkF m 10 #[.val (.int p1)] [(.int p1)])) _
    refine XS.iconst X0.here hx rfl (hb hby d3_10) ?_
    show Steps p.tables e below (s₁.setTop (mkF m 11 #[.val (.int p1)] [(.int (2 : Int32)), (.int p1)])) _
    refine XS.icmpYes X0.here hx rfl (pc0 := 11) (pc' := 18) rfl (hb hby d3_11) rfl (feq hc11).2 (by decide) (by decide) ?_
    show Steps p.tables e below (s₁.setTop (mkF m 18 #[.val (.int p1)] [])) _
    refine XS.iloadN X0.here hx rfl (hb hby d3_18) rfl ?_
    show Steps p.tables e below (s₁.setTop (mkF m 19 #[.val (.int p1)] [(.int p1)])) _
    refine XS.iconst X0.here hx rfl (hb hby d3_19) ?_
    show Steps p.tables e below (s₁.setTop (mkF m 20 #[.val (.int p1)] [(.int (3 : Int32)), (.int p1)])) _
    refine XS.icmpYes X0.here hx rfl (pc0 := 20) (pc' := 27) rfl (hb hby d3_20) rfl (feq hc20).2 (by decide) (by decide) ?_
    show Steps p.tables e below (s₁.setTop (mkF m 27 #[.val (.int p1)] [])) _
    refine XS.iloadN X0.here hx rfl (hb hby d3_27) rfl ?_
    show Steps p.tables e below (s₁.setTop (mkF m 28 #[.val (.int p1)] [(.int p1)])) _
    refine XS.iconst X0.here hx rfl (hb hby d3_28) ?_
    show Steps p.tables e below (s₁.setTop (mkF m 29 #[.val (.int p1)] [(.int (5 : Int32)), (.int p1)])) _
    refine XS.icmpYes X0.here hx rfl (pc0 := 29) (pc' := 36) rfl (hb hby d3_29) rfl (feq hc29).2 (by decide) (by decide) ?_
    show Steps p.tables e below (s₁.setTop (mkF m 36 #[.val (.int p1)] [])) _
    refine XS.iloadN X0.here hx rfl (hb hby d3_36) rfl ?_
    show Steps p.tables e below (s₁.setTop (mkF m 37 #[.val (.int p1)] [(.int p1)])) _
    refine XS.bipush X0.here hx rfl (hb hby d3_37) ?_
    show Steps p.tables e below (s₁.setTop (mkF m 39 #[.val (.int p1)] [(.int (6 : Int32)), (.int p1)])) _
    refine XS.icmpYes X0.here hx rfl (pc0 := 39) (pc' := 46) rfl (hb hby d3_39) rfl (feq hc39).2 (by decide) (by decide) ?_
    show Steps p.tables e below (s₁.setTop (mkF m 46 #[.val (.int p1)] [])) _
    refine XS.iloadN X0.here hx rfl (hb hby d3_46) rfl ?_
    show Steps p.tables e below (s₁.setTop (mkF m 47 #[.val (.int p1)] [(.int p1)])) _
    refine XS.bipush X0.here hx rfl (hb hby d3_47) ?_
    show Steps p.tables e below (s₁.setTop (mkF m 49 #[.val (.int p1)] [(.int (7 : Int32)), (.int p1)])) _
    refine XS.icmpYes X0.here hx rfl (pc0 := 49) (pc' := 56) rfl (hb hby d3_49) rfl (feq hc49).2 (by decide) (by decide) ?_
    show Steps p.tables e below (s₁.setTop (mkF m 56 #[.val (.int p1)] [])) _
    refine XS.iloadN X0.here hx rfl (hb hby d3_56) rfl ?_
    show Steps p.tables e below (s₁.setTop (mkF m 57 #[.val (.int p1)] [(.int p1)])) _
    refine XS.bipush X0.here hx rfl (hb hby d3_57) ?_
    show Steps p.tables e below (s₁.setTop (mkF m 59 #[.val (.int p1)] [(.int (8 : Int32)), (.int p1)])) _
    refine XS.icmpNo X0.here hx rfl (hb hby d3_59) rfl (teq hc59).2 ?_
    show Steps p.tables e below (s₁.setTop (mkF m 62 #[.val (.int p1)] [])) _
    refine st3 _ ?_
    show Steps p.tables e below (T3.setTop (mkF m 65 #[.val (.int p1)] [(.ref w2)])) _
    jvm_step X3.here [X3.here.top, hx, (hb hby d3_65), X3.method', Bd.returns, Value.isRef, FieldType.isReference]
    first | (intro acts; rw [hr _ acts rfl rfl rfl]) | rw [hr _ _ rfl rfl rfl]
    exact Steps.refl _
  · show (own_ret (.ref w2) n0 h0) _ T3.heap _
    rw [e3]
    exact ⟨rfl, N0, rfl⟩
theorem d3_66 : decode method_3_code 66 = .ok (.iload_n 0, 1) := by decide +kernel
theorem d3_67 : decode method_3_code 67 = .ok (.bipush 9, 2) := by decide +kernel
theorem d3_69 : decode method_3_code 69 = .ok (.if_icmp .ne 7, 3) := by decide +kernel
theorem d3_72 : decode method_3_code 72 = .ok (.getstatic 40, 3) := by decide +kernel
theorem d3_75 : decode method_3_code 75 = .ok (.areturn, 1) := by decide +kernel
set_option maxRecDepth 65536 in
set_option maxHeartbeats 40000000 in
theorem own_ex_7 (l : Launch) (Z : State) (a0 : Array Value) (hw : ∀ d ∈ tables_1, d.before a0 Z = true) (ws : List Jvm.Cond) (p1 : Int32) (w2 : Addr) (h0 : Heap) (n0 : Nat) (Z0 : n0 ≤ h0.size) (S_STREAM_ENCODING_SETTINGS : Sta Z h0 "com/example/framewire/framewire/protocol/FrameType" "STREAM_ENCODING_SETTINGS" "Lcom/example/framewire/framewire/protocol/FrameType;" (.ref w2)) (hc2 : ¬ (p1 = (1 : Int32))) (hc11 : ¬ (p1 = (2 : Int32))) (hc20 : ¬ (p1 = (3 : Int32))) (hc29 : ¬ (p1 = (5 : Int32))) (hc39 : ¬ (p1 = (6 : Int32))) (hc49 : ¬ (p1 = (7 : Int32))) (hc59 : ¬ (p1 = (8 : Int32))) (hc69 : p1 = (9 : Int32)) :
    MetFree l (⟨"com/example/framewire/framewire/protocol/FrameTypeOfPinLaw", "expected", "(I)Lcom/example/framewire/framewire/protocol/FrameType;"⟩ : MethodName) (head1 (Jvm.Cond.code (⟨"com/example/framewire/framewire/protocol/FrameTypeOfPinLaw", "expected", "(I)Lcom/example/framewire/framewire/protocol/FrameType;"⟩ : MethodName) method_3_code 1 (some (.object "com/example/framewire/framewire/protocol/FrameType")) :: ws) ({ frames := 0, cells := 0, slots := 0, locals := 0 } : Room)) (fun a U => a = #[(.int p1)] ∧ Z.Warmed39 U.vm ∧ U.heap = h0) (fun _ _ _ _ _ => True) (fun _ U o U' => ∃ v L, o = .returned v ∧ (own_ret (.ref w2) n0 h0) v U'.heap L ∧ FrameEnd U o U' L ({ frames := 0, cells := 0, slots := 0, locals := 0 } : Room).cells ({ frames := 0, cells := 0, slots := 0, locals := 0 } : Room).slots) := by
  refine MetFree.of_bodySF (plainFor_of_name pn_3) hisR ?_
  intro p e s m args below meth c s₁ Bd hml0 hP hK
  obtain ⟨rfl, hZ, hh⟩ := hP
  have hx := Bd.exec
  have hby := Bd.bytes
  have hml : c.maxLocals = 1 := hml0
  have hown : s.vm.findClass "com/example/framewire/framewire/protocol/FrameTypeOfPinLaw" = some m.cls := findClass_of_methodNamed Bd.named
  have hnm := (name_of_methodNamed Bd.named Bd.method).1
  have X0 : Stand p l e ({ frames := 0, cells := 0, slots := 0, locals := 0 } : Room) s m #[(.int p1)] below meth c s₁ [] 0 0 := Stand.of_body Bd
  have e0 : s₁.heap = h0 := by rw [← hh, Bd.state]; rfl
  have N0 := Fr.nil n0
  have pre0 : ∀ t, Steps p.tables e below (s₁.setTop (mkF m 0 #[.val (.int p1)] [])) t → Steps p.tables e below (s₁.setTop (entryFrame m #[(.int p1)] 1)) t := fun t k => castTop (ef_3 m p1) k
  obtain ⟨T3, X3, e3, st3⟩ := getS2 X0 hx hZ hown (host := "") (Or.inl (hw _ (List.mem_of_getElem? (i := 39) rfl))) Via.refl e0 S_STREAM_ENCODING_SETTINGS (g := (mkF m 72 #[.val (.int p1)] [])) rfl (hb hby d3_72)
  obtain ⟨fs, hr, hrun, hended, hW, hsame⟩ := X3.leave (v := some (.ref w2)) (fun h => by rw [Bd.returns] at h; cases h)
  refine ⟨_, _, pre0 _ ?_, hrun, hended, _, _, rfl, ?_, ⟨_, rfl⟩, hW, hsame.mono (by decide) (by decide)⟩
  · show Steps p.tables e below (s₁.setTop (mkF m 0 #[.val (.int p1)] [])) _
    refine XS.iloadN X0.here hx rfl (hb hby d3_0) rfl ?_
    show Steps p.tables e below (s₁.setTop (mkF m 1 #[.val (.int p1)] [(.int p1)])) _
    refine XS.iconst X0.here hx rfl (hb hby d3_1) ?_
    show Steps p.tables e below (s₁.setTop (mkF m 2 #[.val (.int p1)] [(.int (1 : Int32)), (.int p1)])) _
    refine XS.icmpYes X0.here hx rfl (pc0 := 2) (pc' := 9) rfl (hb hby d3_2) rfl (feq hc2).2 (by decide) (by decide) ?_
    show Steps p.tables e below (s₁.setTop (mkF m 9 #[.val (.int p1)] [])) _
    refine XS.iloadN X0.here hx rfl (hb hby d3_9) rfl ?_
    show Steps p.tables e below (s₁.setTop (mkF m 10 #[.val (.int p1)] [(.int p1)])) _
    refine XS.iconst X0.here hx rfl (hb hby d3_10) ?_
    show Steps p.tables e below (s₁.setTop (mkF m 11 #[.val (.int p1)] [(.int (2 : Int32)), (.int p1)])) _
    refine XS.icmpYes X0.here hx rfl (pc0 := 11) (pc' := 18) rfl (hb hby d3_11) rfl (feq hc11).2 (by decide) (by decide) ?_
    show Steps p.tables e below (s₁.setTop (mkF m 18 #[.val (.int p1)] [])) _
    refine XS.iloadN X0.here hx rfl (hb hby d3_18) rfl ?_
    show Steps p.tables e below (s₁.setTop (mkF m 19 #[.val (.int p1)] [(.int p1)])) _
    refine XS.iconst X0.here hx rfl (hb hby d3_19) ?_
    show Steps p.tables e below (s₁.setTop (mkF m 20 #[.val (.int p1)] [(.int (3 : Int32)), (.int p1)])) _
    refine XS.icmpYes X0.here hx rfl (pc0 := 20) (pc' := 27) rfl (hb hby d3_20) rfl (feq hc20).2 (by decide) (by decide) ?_
    show Steps p.tables e below (s₁.setTop (mkF m 27 #[.val (.int p1)] [])) _
    refine XS.iloadN X0.here hx rfl (hb hby d3_27) rfl ?_
    show Steps p.tables e below (s₁.setTop (mkF m 28 #[.val (.int p1)] [(.int p1)])) _
    refine XS.iconst X0.here hx rfl (hb hby d3_28) ?_
    show Steps p.tables e below (s₁.setTop (mkF m 29 #[.val (.int p1)] [(.int (5 : Int32)), (.int p1)])) _
    refine XS.icmpYes X0.here hx rfl (pc0 := 29) (pc' := 36) rfl (hb hby d3_29) rfl (feq hc29).2 (by decide) (by decide) ?_
    show Steps p.tables e below (s₁.setTop (mkF m 36 #[.val (.int p1)] [])) _
    refine XS.iloadN X0.here hx rfl (hb hby d3_36) rfl ?_
    show Steps p.tables e below (s₁.setTop (mkF m 37 #[.val (.int p1)] [(.int p1)])) _
    refine XS.bipush X0.here hx rfl (hb hby d3_37) ?_
    show Steps p.tables e below (s₁.setTop (mkF m 39 #[.val (.int p1)] [(.int (6 : Int32)), (.int p1)])) _
    refine XS.icmpYes X0.here hx rfl (pc0 := 39) (pc' := 46) rfl (hb hby d3_39) rfl (feq hc39).2 (by decide) (by decide) ?_
    show Steps p.tables e below (s₁.setTop (mkF m 46 #[.val (.int p1)] [])) _
    refine XS.iloadN X0.here hx rfl (hb hby d3_46) rfl ?_
    show Steps p.tables e below (s₁.setTop (mkF m 47 #[.val (.int p1)] [(.int p1)])) _
    refine XS.bipush X0.here hx rfl (hb hby d3_47) ?_
    show Steps p.tables e below (s₁.setTop (mkF m 49 #[.val (.int p1)] [(.int (7 : Int32)), (.int p1)])) _
    refine XS.icmpYes X0.here hx rfl (pc0 := 49) (pc' := 56) rfl (hb hby d3_49) rfl (feq hc49).2 (by decide) (by decide) ?_
    show Steps p.tables e below (s₁.setTop (mkF m 56 #[.val (.int p1)] [])) _
    refine XS.iloadN X0.here hx rfl (hb hby d3_56) rfl ?_
    show Steps p.tables e below (s₁.setTop (mkF m 57 #[.val (.int p1)] [(.int p1)])) _
    refine XS.bipush X0.here hx rfl (hb hby d3_57) ?_
    show Steps p.tables e below (s₁.setTop (mkF m 59 #[.val (.int p1)] [(.int (8 : Int32)), (.int p1)])) _
    refine XS.icmpYes X0.here hx rfl (pc0 := 59) (pc' := 66) rfl (hb hby d3_59) rfl (feq hc59).2 (by decide) (by decide) ?_
    show Steps p.tables e below (s₁.setTop (mkF m 66 #[.val (.int p1)] [])) _
    refine XS.iloadN X0.here hx rfl (hb hby d3_66) rfl ?_
    show Steps p.tables e below (s₁.setTop (mkF m 67 #[.val (.int p1)] [(.int p1)])) _
    refine XS.bipush X0.here hx rfl (hb hby d3_67) ?_
    show Steps p.tables e below (s₁.setTop (mkF m 69 #[.val (.int p1)] [(.int (9 : Int32)), (.int p1)])) _
    refine XS.icmpNo X0.here hx rfl (hb hby d3_69) rfl (teq hc69).2 ?_
    show Steps p.tables e below (s₁.setTop (mkF m 72 #[.val (.int p1)] [])) _
    refine st3 _ ?_
    show Steps p.tables e below (T3.setTop (mkF m 75 #[.val (.int p1)] [(.ref w2)])) _
    jvm_step X3.here [X3.here.top, hx, (hb hby d3_75), X3.method', Bd.returns, Value.isRef, FieldType.isReference]
    first | (intro acts; rw [hr _ acts rfl rfl rfl]) | rw [hr _ _ rfl rfl rfl]
    exact Steps.refl _
  · show (own_ret (.ref w2) n0 h0) _ T3.heap _
    rw [e3]
    exact ⟨rfl, N0, rfl⟩
theorem d3_76 : decode method_3_code 76 = .ok (.aconst_null, 1) := by decide +kernel
theorem d3_77 : decode method_3_code 77 = .ok (.areturn, 1) := by decide +kernel
set_option maxRecDepth 65536 in
set_option maxHeartbeats 40000000 in
theorem own_ex_8 (l : Launch) (Z : State) (a0 : Array Value) (hw : ∀ d ∈ tables_1, d.before a0 Z = true) (ws : List Jvm.Cond) (p1 : Int32) (h0 : Heap) (n0 : Nat) (Z0 : n0 ≤ h0.size) (hc2 : ¬ (p1 = (1 : Int32))) (hc11 : ¬ (p1 = (2 : Int32))) (hc20 : ¬ (p1 = (3 : Int32))) (hc29 : ¬ (p1 = (5 : Int32))) (hc39 : ¬ (p1 = (6 : Int32))) (hc49 : ¬ (p1 = (7 : Int32))) (hc59 : ¬ (p1 = (8 : Int32))) (hc69 : ¬ (p1 = (9 : Int32))) :
    MetFree l (⟨"com/example/framewire/framewire/protocol/FrameTypeOfPinLaw", "expected", "(I)Lcom/example/framewire/framewire/protocol/FrameType;"⟩ : MethodName) (head1 (Jvm.Cond.code (⟨"com/example/framewire/framewire/protocol/FrameTypeOfPinLaw", "expected", "(I)Lcom/example/framewire/framewire/protocol/FrameType;"⟩ : MethodName) method_3_code 1 (some (.object "com/example/framewire/framewire/protocol/FrameType")) :: ws) ({ frames := 0, cells := 0, slots := 0, locals := 0 } : Room)) (fun a U => a = #[(.int p1)] ∧ Z.Warmed39 U.vm ∧ U.heap = h0) (fun _ _ _ _ _ => True) (fun _ U o U' => ∃ v L, o = .returned v ∧ (own_ret .null n0 h0) v U'.heap L ∧ FrameEnd U o U' L ({ frames := 0, cells := 0, slots := 0, locals := 0 } : Room).cells ({ frames := 0, cells := 0, slots := 0, locals := 0 } : Room).slots) := by
  refine MetFree.of_bodySF (plainFor_of_name pn_3) hisR ?_
  intro p e s m args below meth c s₁ Bd hml0 hP hK
  obtain ⟨rfl, hZ, hh⟩ := hP
  have hx := Bd.exec
  have hby := Bd.bytes
  have hml : c.maxLocals = 1 := hml0
  have hown : s.vm.findClass "com/example/framewire/framewire/protocol/FrameTypeOfPinLaw" = some m.cls := findClass_of_methodNamed Bd.named
  have hnm := (name_of_methodNamed Bd.named Bd.method).1
  have X0 : Stand p l e ({ frames := 0, cells := 0, slots := 0, locals := 0 } : Room) s m #[(.int p1)] below meth c s₁ [] 0 0 := Stand.of_body Bd
  have e0 : s₁.heap = h0 := by rw [← hh, Bd.state]; rfl
  have N0 := Fr.nil n0
  have pre0 : ∀ t, Steps p.tables e below (s₁.setTop (mkF m 0 #[.val (.int p1)] [])) t → Steps p.tables e below (s₁.setTop (entryFrame m #[(.int p1)] 1)) t := fun t k => castTop (ef_3 m p1) k
  obtain ⟨fs, hr, hrun, hended, hW, hsame⟩ := X0.leave (v := some .null) (fun h => by rw [Bd.returns] at h; cases h)
  refine ⟨_, _, pre0 _ ?_, hrun, hended, _, _, rfl, ?_, ⟨_, rfl⟩, hW, hsame.mono (by decide) (by decide)⟩
  · show Steps p.tables e below (s₁.setTop (mkF m 0 #[.val (.int p1)] [])) _
    refine XS.iloadN X0.here hx rfl (hb hby d3_0) rfl ?_
    show Steps p.tables e below (s₁.setTop (mkF m 1 #[.val (.int p1)] [(.int p1)])) _
    refine XS.iconst X0.here hx rfl (hb hby d3_1) ?_
    show Steps p.tables e below (s₁.setTop (mkF m 2 #[.val (.int p1)] [(.int (1 : Int32)), (.int p1)])) _
    refine XS.icmpYes X0.here hx rfl (pc0 := 2) (pc' := 9) rfl (hb hby d3_2) rfl (feq hc2).2 (by decide) (by decide) ?_
    show Steps p.tables e below (s₁.setTop (mkF m 9 #[.val (.int p1)] [])) _
    refine XS.iloadN X0.here hx rfl (hb hby d3_9) rfl ?_
    show Steps p.tables e below (s₁.setTop (mkF m 10 #[.val (.int p1)] [(.int p1)])) _
    refine XS.iconst X0.here hx rfl (hb hby d3_10) ?_
    show Steps p.tables e below (s₁.setTop (mkF m 11 #[.val (.int p1)] [(.int (2 : Int32)), (.int p1)])) _
    refine XS.icmpYes X0.here hx rfl (pc0 := 11) (pc' := 18) rfl (hb hby d3_11) rfl (feq hc11).2 (by decide) (by decide) ?_
    show Steps p.tables e below (s₁.setTop (mkF m 18 #[.val (.int p1)] [])) _
    refine XS.iloadN X0.here hx rfl (hb hby d3_18) rfl ?_
    show Steps p.tables e below (s₁.setTop (mkF m 19 #[.val (.int p1)] [(.int p1)])) _
    refine XS.iconst X0.here hx rfl (hb hby d3_19) ?_
    show Steps p.tables e below (s₁.setTop (mkF m 20 #[.val (.int p1)] [(.int (3 : Int32)), (.int p1)])) _
    refine XS.icmpYes X0.here hx rfl (pc0 := 20) (pc' := 27) rfl (hb hby d3_20) rfl (feq hc20).2 (by decide) (by decide) ?_
    show Steps p.tables e below (s₁.setTop (mkF m 27 #[.val (.int p1)] [])) _
    refine XS.iloadN X0.here hx rfl (hb hby d3_27) rfl ?_
    show Steps p.tables e below (s₁.setTop (mkF m 28 #[.val (.int p1)] [(.int p1)])) _
    refine XS.iconst X0.here hx rfl (hb hby d3_28) ?_
    show Steps p.tables e below (s₁.setTop (mkF m 29 #[.val (.int p1)] [(.int (5 : Int32)), (.int p1)])) _
    refine XS.icmpYes X0.here hx rfl (pc0 := 29) (pc' := 36) rfl (hb hby d3_29) rfl (feq hc29).2 (by decide) (by decide) ?_
    show Steps p.tables e below (s₁.setTop (mkF m 36 #[.val (.int p1)] [])) _
    refine XS.iloadN X0.here hx rfl (hb hby d3_36) rfl ?_
    show Steps p.tables e below (s₁.setTop (mkF m 37 #[.val (.int p1)] [(.int p1)])) _
    refine XS.bipush X0.here hx rfl (hb hby d3_37) ?_
    show Steps p.tables e below (s₁.setTop (mkF m 39 #[.val (.int p1)] [(.int (6 : Int32)), (.int p1)])) _
    refine XS.icmpYes X0.here hx rfl (pc0 := 39) (pc' := 46) rfl (hb hby d3_39) rfl (feq hc39).2 (by decide) (by decide) ?_
    show Steps p.tables e below (s₁.setTop (mkF m 46 #[.val (.int p1)] [])) _
    refine XS.iloadN X0.here hx rfl (hb hby d3_46) rfl ?_
    show Steps p.tables e below (s₁.setTop (mkF m 47 #[.val (.int p1)] [(.int p1)])) _
    refine XS.bipush X0.here hx rfl (hb hby d3_47) ?_
    show Steps p.tables e below (s₁.setTop (mkF m 49 #[.val (.int p1)] [(.int (7 : Int32)), (.int p1)])) _
    refine XS.icmpYes X0.here hx rfl (pc0 := 49) (pc' := 56) rfl (hb hby d3_49) rfl (feq hc49).2 (by decide) (by decide) ?_
    show Steps p.tables e below (s₁.setTop (mkF m 56 #[.val (.int p1)] [])) _
    refine XS.iloadN X0.here hx rfl (hb hby d3_56) rfl ?_
    show Steps p.tables e below (s₁.setTop (mkF m 57 #[.val (.int p1)] [(.int p1)])) _
    refine XS.bipush X0.here hx rfl (hb hby d3_57) ?_
    show Steps p.tables e below (s₁.setTop (mkF m 59 #[.val (.int p1)] [(.int (8 : Int32)), (.int p1)])) _
    refine XS.icmpYes X0.here hx rfl (pc0 := 59) (pc' := 66) rfl (hb hby d3_59) rfl (feq hc59).2 (by decide) (by decide) ?_
    show Steps p.tables e below (s₁.setTop (mkF m 66 #[.val (.int p1)] [])) _
    refine XS.iloadN X0.here hx rfl (hb hby d3_66) rfl ?_
    show Steps p.tables e below (s₁.setTop (mkF m 67 #[.val (.int p1)] [(.int p1)])) _
    refine XS.bipush X0.here hx rfl (hb hby d3_67) ?_
    show Steps p.tables e below (s₁.setTop (mkF m 69 #[.val (.int p1)] [(.int (9 : Int32)), (.int p1)])) _
    refine XS.icmpYes X0.here hx rfl (pc0 := 69) (pc' := 76) rfl (hb hby d3_69) rfl (feq hc69).2 (by decide) (by decide) ?_
    show Steps p.tables e below (s₁.setTop (mkF m 76 #[.val (.int p1)] [])) _
    refine XS.aconstNull X0.here hx rfl (hb hby d3_76) ?_
    show Steps p.tables e below (s₁.setTop (mkF m 77 #[.val (.int p1)] [.null])) _
    jvm_step X0.here [X0.here.top, hx, (hb hby d3_77), X0.method', Bd.returns, Value.isRef, FieldType.isReference]
    first | (intro acts; rw [hr _ acts rfl rfl rfl]) | rw [hr _ _ rfl rfl rfl]
    exact Steps.refl _
  · show (own_ret .null n0 h0) _ s₁.heap _
    rw [e0]
    exact ⟨rfl, N0, rfl⟩
set_option maxRecDepth 65536 in
theorem own_pick (l : Launch) (Z : State) (a0 : Array Value) (hw : ∀ d ∈ tables_1, d.before a0 Z = true) (h0 : Heap) (n0 : Nat) (Z0 : n0 ≤ h0.size) (wV : Addr) (clV : Cell) (S_V : Sta Z h0 "com/example/framewire/framewire/protocol/FrameType" "$VALUES" "[Lcom/example/framewire/framewire/protocol/FrameType;" (.ref wV)) (A_V : Arr Z h0 wV clV (.object "com/example/framewire/framewire/protocol/FrameType")) (Ex_V : Exa Z h0 wV "[Lcom/example/framewire/framewire/protocol/FrameType;") (Ft_V : FitC Z clV) (S_Vz : clV.slots.size = 8) (w_COMMAND_REQUEST : Addr) (S_COMMAND_REQUEST : Sta Z h0 "com/example/framewire/framewire/protocol/FrameType" "COMMAND_REQUEST" "Lcom/example/framewire/framewire/protocol/FrameType;" (.ref w_COMMAND_REQUEST)) (F_COMMAND_REQUEST : Fld Z h0 w_COMMAND_REQUEST "com/example/framewire/framewire/protocol/FrameType" "code" "I" (.int (1 : Int32))) (P_COMMAND_REQUEST : ¬ ((0 : Int32) < 0 ∨ clV.slots.size ≤ (0 : Int32).toNatClampNeg) ∧ clV.slots[(0 : Int32).toNatClampNeg]? = some (.ref w_COMMAND_REQUEST)) (w_COMMAND_DATA : Addr) (S_COMMAND_DATA : Sta Z h0 "com/example/framewire/framewire/protocol/FrameType" "COMMAND_DATA" "Lcom/example/framewire/framewire/protocol/FrameType;" (.ref w_COMMAND_DATA)) (F_COMMAND_DATA : Fld Z h0 w_COMMAND_DATA "com/example/framewire/framewire/protocol/FrameType" "code" "I" (.int (2 : Int32))) (P_COMMAND_DATA : ¬ ((1 : Int32) < 0 ∨ clV.slots.size ≤ (1 : Int32).toNatClampNeg) ∧ clV.slots[(1 : Int32).toNatClampNeg]? = some (.ref w_COMMAND_DATA)) (w_COMMAND_RESPONSE : Addr) (S_COMMAND_RESPONSE : Sta Z h0 "com/example/framewire/framewire/protocol/FrameType" "COMMAND_RESPONSE" "Lcom/example/framewire/framewire/protocol/FrameType;" (.ref w_COMMAND_RESPONSE)) (F_COMMAND_RESPONSE : Fld Z h0 w_COMMAND_RESPONSE "com/example/framewire/framewire/protocol/FrameType" "code" "I" (.int (3 : Int32))) (P_COMMAND_RESPONSE : ¬ ((2 : Int32) < 0 ∨ clV.slots.size ≤ (2 : Int32).toNatClampNeg) ∧ clV.slots[(2 : Int32).toNatClampNeg]? = some (.ref w_COMMAND_RESPONSE)) (w_ERROR_OCCURRED : Addr) (S_ERROR_OCCURRED : Sta Z h0 "com/example/framewire/framewire/protocol/FrameType" "ERROR_OCCURRED" "Lcom/example/framewire/framewire/protocol/FrameType;" (.ref w_ERROR_OCCURRED)) (F_ERROR_OCCURRED : Fld Z h0 w_ERROR_OCCURRED "com/example/framewire/framewire/protocol/FrameType" "code" "I" (.int (5 : Int32))) (P_ERROR_OCCURRED : ¬ ((3 : Int32) < 0 ∨ clV.slots.size ≤ (3 : Int32).toNatClampNeg) ∧ clV.slots[(3 : Int32).toNatClampNeg]? = some (.ref w_ERROR_OCCURRED)) (w_HUMAN_OUTPUT : Addr) (S_HUMAN_OUTPUT : Sta Z h0 "com/example/framewire/framewire/protocol/FrameType" "HUMAN_OUTPUT" "Lcom/example/framewire/framewire/protocol/FrameType;" (.ref w_HUMAN_OUTPUT)) (F_HUMAN_OUTPUT : Fld Z h0 w_HUMAN_OUTPUT "com/example/framewire/framewire/protocol/FrameType" "code" "I" (.int (6 : Int32))) (P_HUMAN_OUTPUT : ¬ ((4 : Int32) < 0 ∨ clV.slots.size ≤ (4 : Int32).toNatClampNeg) ∧ clV.slots[(4 : Int32).toNatClampNeg]? = some (.ref w_HUMAN_OUTPUT)) (w_PROGRESS : Addr) (S_PROGRESS : Sta Z h0 "com/example/framewire/framewire/protocol/FrameType" "PROGRESS" "Lcom/example/framewire/framewire/protocol/FrameType;" (.ref w_PROGRESS)) (F_PROGRESS : Fld Z h0 w_PROGRESS "com/example/framewire/framewire/protocol/FrameType" "code" "I" (.int (7 : Int32))) (P_PROGRESS : ¬ ((5 : Int32) < 0 ∨ clV.slots.size ≤ (5 : Int32).toNatClampNeg) ∧ clV.slots[(5 : Int32).toNatClampNeg]? = some (.ref w_PROGRESS)) (w_SENDER_PROTOCOL_SETTINGS : Addr) (S_SENDER_PROTOCOL_SETTINGS : Sta Z h0 "com/example/framewire/framewire/protocol/FrameType" "SENDER_PROTOCOL_SETTINGS" "Lcom/example/framewire/framewire/protocol/FrameType;" (.ref w_SENDER_PROTOCOL_SETTINGS)) (F_SENDER_PROTOCOL_SETTINGS : Fld Z h0 w_SENDER_PROTOCOL_SETTINGS "com/example/framewire/framewire/protocol/FrameType" "code" "I" (.int (8 : Int32))) (P_SENDER_PROTOCOL_SETTINGS : ¬ ((6 : Int32) < 0 ∨ clV.slots.size ≤ (6 : Int32).toNatClampNeg) ∧ clV.slots[(6 : Int32).toNatClampNeg]? = some (.ref w_SENDER_PROTOCOL_SETTINGS)) (w_STREAM_ENCODING_SETTINGS : Addr) (S_STREAM_ENCODING_SETTINGS : Sta Z h0 "com/example/framewire/framewire/protocol/FrameType" "STREAM_ENCODING_SETTINGS" "Lcom/example/framewire/framewire/protocol/FrameType;" (.ref w_STREAM_ENCODING_SETTINGS)) (F_STREAM_ENCODING_SETTINGS : Fld Z h0 w_STREAM_ENCODING_SETTINGS "com/example/framewire/framewire/protocol/FrameType" "code" "I" (.int (9 : Int32))) (P_STREAM_ENCODING_SETTINGS : ¬ ((7 : Int32) < 0 ∨ clV.slots.size ≤ (7 : Int32).toNatClampNeg) ∧ clV.slots[(7 : Int32).toNatClampNeg]? = some (.ref w_STREAM_ENCODING_SETTINGS)) (c : Int32) : ∃ V : Value, V.isRef = true ∧ (own_M l (⟨"com/example/framewire/framewire/protocol/FrameType", "of", "(I)Lcom/example/framewire/framewire/protocol/FrameType;"⟩ : MethodName) prog_15_method_4_code 5 (some (.object "com/example/framewire/framewire/protocol/FrameType")) ({ frames := 2, cells := 1, slots := 8, locals := 25 } : Room) Z #[(.int c)] h0 (own_kret V n0 h0)) ∧ (∀ hh : Heap, Keep h0 hh [] → own_M l (⟨"com/example/framewire/framewire/protocol/FrameTypeOfPinLaw", "expected", "(I)Lcom/example/framewire/framewire/protocol/FrameType;"⟩ : MethodName) method_3_code 1 (some (.object "com/example/framewire/framewire/protocol/FrameType")) ({ frames := 0, cells := 0, slots := 0, locals := 0 } : Room) Z #[(.int c)] hh (own_ret V n0 hh)) := by
  by_cases hq0 : c = (1 : Int32)
  · subst hq0
    exact ⟨.ref w_COMMAND_REQUEST, rfl, own_of_0 l Z a0 hw [] (1 : Int32) wV clV h0 n0 Z0 S_V A_V Ex_V Ft_V S_Vz w_COMMAND_REQUEST F_COMMAND_REQUEST P_COMMAND_REQUEST rfl, fun hh K => own_ex_0 l Z a0 hw [] (1 : Int32) w_COMMAND_REQUEST hh n0 (Nat.le_trans Z0 K.1) (S_COMMAND_REQUEST.ext (own_ext K))  rfl⟩
  by_cases hq1 : c = (2 : Int32)
  · subst hq1
    exact ⟨.ref w_COMMAND_DATA, rfl, own_of_1 l Z a0 hw [] (2 : Int32) wV clV h0 n0 Z0 S_V A_V Ex_V Ft_V S_Vz w_COMMAND_REQUEST F_COMMAND_REQUEST P_COMMAND_REQUEST (by decide) w_COMMAND_DATA F_COMMAND_DATA P_COMMAND_DATA rfl, fun hh K => own_ex_1 l Z a0 hw [] (2 : Int32) w_COMMAND_DATA hh n0 (Nat.le_trans Z0 K.1) (S_COMMAND_DATA.ext (own_ext K)) (by decide) rfl⟩
  by_cases hq2 : c = (3 : Int32)
  · subst hq2
    exact ⟨.ref w_COMMAND_RESPONSE, rfl, own_of_2 l Z a0 hw [] (3 : Int32) wV clV h0 n0 Z0 S_V A_V Ex_V Ft_V S_Vz w_COMMAND_REQUEST F_COMMAND_REQUEST P_COMMAND_REQUEST (by decide) w_COMMAND_DATA F_COMMAND_DATA P_COMMAND_DATA (by decide) w_COMMAND_RESPONSE F_COMMAND_RESPONSE P_COMMAND_RESPONSE rfl, fun hh K => own_ex_2 l Z a0 hw [] (3 : Int32) w_COMMAND_RESPONSE hh n0 (Nat.le_trans Z0 K.1) (S_COMMAND_RESPONSE.ext (own_ext K)) (by decide) (by decide) rfl⟩
  by_cases hq3 : c = (5 : Int32)
  · subst hq3
    exact ⟨.ref w_ERROR_OCCURRED, rfl, own_of_3 l Z a0 hw [] (5 : Int32) wV clV h0 n0 Z0 S_V A_V Ex_V Ft_V S_Vz w_COMMAND_REQUEST F_COMMAND_REQUEST P_COMMAND_REQUEST (by decide) w_COMMAND_DATA F_COMMAND_DATA P_COMMAND_DATA (by decide) w_COMMAND_RESPONSE F_COMMAND_RESPONSE P_COMMAND_RESPONSE (by decide) w_ERROR_OCCURRED F_ERROR_OCCURRED P_ERROR_OCCURRED rfl, fun hh K => own_ex_3 l Z a0 hw [] (5 : Int32) w_ERROR_OCCURRED hh n0 (Nat.le_trans Z0 K.1) (S_ERROR_OCCURRED.ext (own_ext K)) (by decide) (by decide) (by decide) rfl⟩
  by_cases hq4 : c = (6 : Int32)
  · subst hq4
    exact ⟨.ref w_HUMAN_OUTPUT, rfl, own_of_4 l Z a0 hw [] (6 : Int32) wV clV h0 n0 Z0 S_V A_V Ex_V Ft_V S_Vz w_COMMAND_REQUEST F_COMMAND_REQUEST P_COMMAND_REQUEST (by decide) w_COMMAND_DATA F_COMMAND_DATA P_COMMAND_DATA (by decide) w_COMMAND_RESPONSE F_COMMAND_RESPONSE P_COMMAND_RESPONSE (by decide) w_ERROR_OCCURRED F_ERROR_OCCURRED P_ERROR_OCCURRED (by decide) w_HUMAN_OUTPUT F_HUMAN_OUTPUT P_HUMAN_OUTPUT rfl, fun hh K => own_ex_4 l Z a0 hw [] (6 : Int32) w_HUMAN_OUTPUT hh n0 (Nat.le_trans Z0 K.1) (S_HUMAN_OUTPUT.ext (own_ext K)) (by decide) (by decide) (by decide) (by decide) rfl⟩
  by_cases hq5 : c = (7 : Int32)
  · subst hq5
    exact ⟨.ref w_PROGRESS, rfl, own_of_5 l Z a0 hw [] (7 : Int32) wV clV h0 n0 Z0 S_V A_V Ex_V Ft_V S_Vz w_COMMAND_REQUEST F_COMMAND_REQUEST P_COMMAND_REQUEST (by decide) w_COMMAND_DATA F_COMMAND_DATA P_COMMAND_DATA (by decide) w_COMMAND_RESPONSE F_COMMAND_RESPONSE P_COMMAND_RESPONSE (by decide) w_ERROR_OCCURRED F_ERROR_OCCURRED P_ERROR_OCCURRED (by decide) w_HUMAN_OUTPUT F_HUMAN_OUTPUT P_HUMAN_OUTPUT (by decide) w_PROGRESS F_PROGRESS P_PROGRESS rfl, fun hh K => own_ex_5 l Z a0 hw [] (7 : Int32) w_PROGRESS hh n0 (Nat.le_trans Z0 K.1) (S_PROGRESS.ext (own_ext K)) (by decide) (by decide) (by decide) (by decide) (by decide) rfl⟩
  by_cases hq6 : c = (8 : Int32)
  · subst hq6
    exact ⟨.ref w_SENDER_PROTOCOL_SETTINGS, rfl, own_of_6 l Z a0 hw [] (8 : Int32) wV clV h0 n0 Z0 S_V A_V Ex_V Ft_V S_Vz w_COMMAND_REQUEST F_COMMAND_REQUEST P_COMMAND_REQUEST (by decide) w_COMMAND_DATA F_COMMAND_DATA P_COMMAND_DATA (by decide) w_COMMAND_RESPONSE F_COMMAND_RESPONSE P_COMMAND_RESPONSE (by decide) w_ERROR_OCCURRED F_ERROR_OCCURRED P_ERROR_OCCURRED (by decide) w_HUMAN_OUTPUT F_HUMAN_OUTPUT P_HUMAN_OUTPUT (by decide) w_PROGRESS F_PROGRESS P_PROGRESS (by decide) w_SENDER_PROTOCOL_SETTINGS F_SENDER_PROTOCOL_SETTINGS P_SENDER_PROTOCOL_SETTINGS rfl, fun hh K => own_ex_6 l Z a0 hw [] (8 : Int32) w_SENDER_PROTOCOL_SETTINGS hh n0 (Nat.le_trans Z0 K.1) (S_SENDER_PROTOCOL_SETTINGS.ext (own_ext K)) (by decide) (by decide) (by decide) (by decide) (by decide) (by decide) rfl⟩
  by_cases hq7 : c = (9 : Int32)
  · subst hq7
    exact ⟨.ref w_STREAM_ENCODING_SETTINGS, rfl, own_of_7 l Z a0 hw [] (9 : Int32) wV clV h0 n0 Z0 S_V A_V Ex_V Ft_V S_Vz w_COMMAND_REQUEST F_COMMAND_REQUEST P_COMMAND_REQUEST (by decide) w_COMMAND_DATA F_COMMAND_DATA P_COMMAND_DATA (by decide) w_COMMAND_RESPONSE F_COMMAND_RESPONSE P_COMMAND_RESPONSE (by decide) w_ERROR_OCCURRED F_ERROR_OCCURRED P_ERROR_OCCURRED (by decide) w_HUMAN_OUTPUT F_HUMAN_OUTPUT P_HUMAN_OUTPUT (by decide) w_PROGRESS F_PROGRESS P_PROGRESS (by decide) w_SENDER_PROTOCOL_SETTINGS F_SENDER_PROTOCOL_SETTINGS P_SENDER_PROTOCOL_SETTINGS (by decide) w_STREAM_ENCODING_SETTINGS F_STREAM_ENCODING_SETTINGS P_STREAM_ENCODING_SETTINGS rfl, fun hh K => own_ex_7 l Z a0 hw [] (9 : Int32) w_STREAM_ENCODING_SETTINGS hh n0 (Nat.le_trans Z0 K.1) (S_STREAM_ENCODING_SETTINGS.ext (own_ext K)) (by decide) (by decide) (by decide) (by decide) (by decide) (by decide) (by decide) rfl⟩
  exact ⟨.null, rfl, own_of_8 l Z a0 hw [] c wV clV h0 n0 Z0 S_V A_V Ex_V Ft_V S_Vz w_COMMAND_REQUEST F_COMMAND_REQUEST P_COMMAND_REQUEST (fun q => hq0 q.symm) w_COMMAND_DATA F_COMMAND_DATA P_COMMAND_DATA (fun q => hq1 q.symm) w_COMMAND_RESPONSE F_COMMAND_RESPONSE P_COMMAND_RESPONSE (fun q => hq2 q.symm) w_ERROR_OCCURRED F_ERROR_OCCURRED P_ERROR_OCCURRED (fun q => hq3 q.symm) w_HUMAN_OUTPUT F_HUMAN_OUTPUT P_HUMAN_OUTPUT (fun q => hq4 q.symm) w_PROGRESS F_PROGRESS P_PROGRESS (fun q => hq5 q.symm) w_SENDER_PROTOCOL_SETTINGS F_SENDER_PROTOCOL_SETTINGS P_SENDER_PROTOCOL_SETTINGS (fun q => hq6 q.symm) w_STREAM_ENCODING_SETTINGS F_STREAM_ENCODING_SETTINGS P_STREAM_ENCODING_SETTINGS (fun q => hq7 q.symm), fun hh K => own_ex_8 l Z a0 hw [] c hh n0 (Nat.le_trans Z0 K.1) hq0 hq1 hq2 hq3 hq4 hq5 hq6 hq7⟩
theorem pn_0 : plainName "com/example/framewire/framewire/protocol/FrameTypeOfPinLaw" = true := by first | (simp [plainName, overriddenIn]; done) | decide +kernel
theorem ef_0 (m : MethodId) (x0 : Int32) (x1 : Int32) : entryFrame m #[(.int x0), (.int x1)] maxLocals = mkF m 0 #[.val (.int x0), .val (.int x1), .unset] [] := by first | (simp [entryFrame, mkF, argsToLocals, Value.category, maxLocals]; done) | rfl
theorem pd_o : parseMethodDescriptor "(I)Lcom/example/framewire/framewire/protocol/FrameType;" = some ⟨[.int], some (.object "com/example/framewire/framewire/protocol/FrameType")⟩ := by decide +kernel
set_option maxRecDepth 65536 in
set_option maxHeartbeats 40000000 in
theorem own_law_t (l : Launch) (Z : State) (a0 : Array Value) (hw : ∀ d ∈ tables_1, d.before a0 Z = true) (ws : List Jvm.Cond) (p1 p2 : Int32) (h0 : Heap) (n0 : Nat) (Z0 : n0 ≤ h0.size) (V : Value) (hV : V.isRef = true) (hm : (p2 &&& (1 : Int32)) = (0 : Int32)) (H1 : own_M l (⟨"com/example/framewire/framewire/protocol/FrameType", "of", "(I)Lcom/example/framewire/framewire/protocol/FrameType;"⟩ : MethodName) prog_15_method_4_code 5 (some (.object "com/example/framewire/framewire/protocol/FrameType")) ({ frames := 2, cells := 1, slots := 8, locals := 25 } : Room) Z #[(.int p1)] h0 (own_kret V n0 h0)) (H2 : ∀ hh : Heap, Keep h0 hh [] → own_M l (⟨"com/example/framewire/framewire/protocol/FrameTypeOfPinLaw", "expected", "(I)Lcom/example/framewire/framewire/protocol/FrameType;"⟩ : MethodName) method_3_code 1 (some (.object "com/example/framewire/framewire/protocol/FrameType")) ({ frames := 0, cells := 0, slots := 0, locals := 0 } : Room) Z #[(.int p1)] hh (own_ret V n0 hh)) :
    MetFree l x (head1 (Jvm.Cond.code x code maxLocals ret :: ws) room_1) (fun a U => a = #[(.int p1), (.int p2)] ∧ Z.Warmed39 U.vm ∧ U.heap = h0) (fun _ _ _ _ _ => True) (fun _ U o U' => ∃ v L, o = .returned v ∧ (own_one n0) v U'.heap L ∧ FrameEnd U o U' L room_1.cells room_1.slots) := by
  refine MetFree.of_bodySF (plainFor_of_name pn_0) hisR ?_
  intro p e s m args below meth c s₁ Bd hml0 hP hK
  obtain ⟨rfl, hZ, hh⟩ := hP
  have hx := Bd.exec
  have hby := Bd.bytes
  have hml : c.maxLocals = 3 := hml0
  have hown : s.vm.findClass "com/example/framewire/framewire/protocol/FrameTypeOfPinLaw" = some m.cls := findClass_of_methodNamed Bd.named
  have hnm := (name_of_methodNamed Bd.named Bd.method).1
  have X0 : Stand p l e room_1 s m #[(.int p1), (.int p2)] below meth c s₁ [] 0 0 := Stand.of_body Bd
  have e0 : s₁.heap = h0 := by rw [← hh, Bd.state]; rfl
  have N0 := Fr.nil n0
  have pre0 : ∀ t, Steps p.tables e below (s₁.setTop (mkF m 0 #[.val (.int p1), .val (.int p2), .unset] [])) t → Steps p.tables e below (s₁.setTop (entryFrame m #[(.int p1), (.int p2)] maxLocals)) t := fun t k => castTop (ef_0 m p1 p2) k
  obtain ⟨_, _, ⟨T2, L2, k2, n2⟩, -, X2, ⟨Lc2, hQ2, l2, y2, z2⟩, st2⟩ := Jvm.LawKit.callS X0 hx (y := (⟨"com/example/framewire/framewire/protocol/FrameType", "of", "(I)Lcom/example/framewire/framewire/protocol/FrameType;"⟩ : MethodName)) hown (mvT hZ (hw _ (List.mem_of_getElem? (i := 0) rfl))) (mvT hZ (hw _ (List.mem_of_getElem? (i := 1) rfl))) (mvT hZ (hw _ (List.mem_of_getElem? (i := 2) rfl))) (mvT hZ (hw _ (List.mem_of_getElem? (i := 3) rfl))) (by decide) (backOf (W := 0) (H1) hZ (hw _ (List.mem_of_getElem? (i := 3) rfl)) (hw _ (List.mem_of_getElem? (i := 2) rfl)) (by decide) (by decide)) (g := (mkF m 16 #[.val (.int p1), .val (.int p2), .val (.int p1)] [(.int p1)])) rfl (by rw [hml]; rfl) (argsL := [(.int p1)]) (rest := []) (lenOf pd_o rfl) rfl (by show 2 * 0 + _ ≤ _; exact Nat.le_of_eq rfl) (hb hby at_16) (fun _ _ => ⟨rfl, e0, (by decide : 0 + 1 ≤ _), (by decide : 0 + 8 ≤ _)⟩)
  dsimp only [Pt.U, Pt.locs, Pt.cells, Pt.slots] at X2 l2 y2 z2 st2 hQ2
  subst l2 y2 z2
  obtain ⟨rfl, N2q, K2⟩ := hQ2
  have e2 : T2.heap = T2.heap := rfl
  have N2 := Fr.app N0 N2q
  obtain ⟨_, _, ⟨T3, L3, k3, n3⟩, -, X3, ⟨Lc3, hQ3, l3, y3, z3⟩, st3⟩ := Jvm.LawKit.callS X2 hx (y := (⟨"com/example/framewire/framewire/protocol/FrameTypeOfPinLaw", "expected", "(I)Lcom/example/framewire/framewire/protocol/FrameType;"⟩ : MethodName)) hown (mvT hZ (hw _ (List.mem_of_getElem? (i := 29) rfl))) (mvT hZ (hw _ (List.mem_of_getElem? (i := 30) rfl))) (mvT hZ (hw _ (List.mem_of_getElem? (i := 31) rfl))) (mvT hZ (hw _ (List.mem_of_getElem? (i := 32) rfl))) (by decide) (backOf (W := 1) (H2 _ K2) hZ (hw _ (List.mem_of_getElem? (i := 32) rfl)) (hw _ (List.mem_of_getElem? (i := 31) rfl)) (by decide) (by decide)) (g := (mkF m 20 #[.val (.int p1), .val (.int p2), .val (.int p1)] [(.int p1), V])) rfl (by rw [hml]; rfl) (argsL := [(.int p1)]) (rest := [V]) (lenOf pd_o rfl) rfl (by show 2 * 0 + (List.map (fun v => v.category) [V]).sum ≤ 1; rcases ref_cases hV with rfl | ⟨y, rfl⟩ <;> exact Nat.le_of_eq rfl) (hb hby at_20) (fun _ _ => ⟨rfl, e2, (by decide : 1 + 0 ≤ _), (by decide : 8 + 0 ≤ _)⟩)
  dsimp only [Pt.U, Pt.locs, Pt.cells, Pt.slots] at X3 l3 y3 z3 st3 hQ3
  subst l3 y3 z3
  obtain ⟨rfl, N3q, e3⟩ := hQ3
  have N3 := Fr.app N2 N3q
  obtain ⟨fs, hr, hrun, hended, hW, hsame⟩ := X3.leave (v := some (.int (1 : Int32))) (fun h => by rw [Bd.returns] at h; cases h)
  refine ⟨_, _, pre0 _ ?_, hrun, hended, _, _, rfl, ?_, ⟨_, rfl⟩, hW, hsame.mono (by decide) (by decide)⟩
  · show Steps p.tables e below (s₁.setTop (mkF m 0 #[.val (.int p1), .val (.int p2), .unset] [])) _
    refine XS.iloadN X0.here hx rfl (hb hby at_0) rfl ?_
    show Steps p.tables e below (s₁.setTop (mkF m 1 #[.val (.int p1), .val (.int p2), .unset] [(.int p2)])) _
    refine XS.iconst X0.here hx rfl (hb hby at_1) ?_
    show Steps p.tables e below (s₁.setTop (mkF m 2 #[.val (.int p1), .val (.int p2), .unset] [(.int (1 : Int32)), (.int p2)])) _
    refine XS.iand X0.here hx rfl (hb hby at_2) rfl ?_
    show Steps p.tables e below (s₁.setTop (mkF m 3 #[.val (.int p1), .val (.int p2), .unset] [(.int (p2 &&& (1 : Int32)))])) _
    refine XS.ifYes X0.here hx rfl (pc0 := 3) (pc' := 13) rfl (hb hby at_3) rfl ((if0 _ _).trans (teq hm).1) (by decide) (by decide) ?_
    show Steps p.tables e below (s₁.setTop (mkF m 13 #[.val (.int p1), .val (.int p2), .unset] [])) _
    refine XS.iloadN X0.here hx rfl (hb hby at_13) rfl ?_
    show Steps p.tables e below (s₁.setTop (mkF m 14 #[.val (.int p1), .val (.int p2), .unset] [(.int p1)])) _
    refine XS.istoreN X0.here hx rfl (hb hby at_14) rfl (l' := #[.val (.int p1), .val (.int p2), .val (.int p1)]) rfl ?_
    show Steps p.tables e below (s₁.setTop (mkF m 15 #[.val (.int p1), .val (.int p2), .val (.int p1)] [])) _
    refine XS.iloadN X0.here hx rfl (hb hby at_15) rfl ?_
    show Steps p.tables e below (s₁.setTop (mkF m 16 #[.val (.int p1), .val (.int p2), .val (.int p1)] [(.int p1)])) _
    refine st2 _ ?_
    show Steps p.tables e below (T2.setTop (mkF m 19 #[.val (.int p1), .val (.int p2), .val (.int p1)] [V])) _
    refine XS.iloadN X2.here hx rfl (hb hby at_19) rfl ?_
    show Steps p.tables e below (T2.setTop (mkF m 20 #[.val (.int p1), .val (.int p2), .val (.int p1)] [(.int p1), V])) _
    refine st3 _ ?_
    show Steps p.tables e below (T3.setTop (mkF m 23 #[.val (.int p1), .val (.int p2), .val (.int p1)] [V, V])) _
    refine Jvm.RoadKit.acmp (g := (mkF m 23 #[.val (.int p1), .val (.int p2), .val (.int p1)] [V, V])) X3 hx rfl hV hV (pc0 := 23) (pc' := 26) (same := true) rfl (hb hby at_23) rfl (decide_eq_true rfl) (by decide) (by decide) ?_
    show Steps p.tables e below (T3.setTop (mkF m 26 #[.val (.int p1), .val (.int p2), .val (.int p1)] [])) _
    refine XS.iconst X3.here hx rfl (hb hby at_26) ?_
    show Steps p.tables e below (T3.setTop (mkF m 27 #[.val (.int p1), .val (.int p2), .val (.int p1)] [(.int (1 : Int32))])) _
    refine XS.goto X3.here hx rfl (pc0 := 27) (pc' := 31) rfl (hb hby at_27) (by decide) (by decide) ?_
    show Steps p.tables e below (T3.setTop (mkF m 31 #[.val (.int p1), .val (.int p2), .val (.int p1)] [(.int (1 : Int32))])) _
    exact retN X3 hx (t := .boolean) Bd.returns (by simp) (hb hby at_31) hr
  · show (own_one n0) _ T3.heap _
    exact ⟨rfl, N3⟩
set_option maxRecDepth 65536 in
set_option maxHeartbeats 40000000 in
theorem own_law_f (l : Launch) (Z : State) (a0 : Array Value) (hw : ∀ d ∈ tables_1, d.before a0 Z = true) (ws : List Jvm.Cond) (p1 p2 : Int32) (h0 : Heap) (n0 : Nat) (Z0 : n0 ≤ h0.size) (V : Value) (hV : V.isRef = true) (hm : ¬ (p2 &&& (1 : Int32)) = (0 : Int32)) (H1 : own_M l (⟨"com/example/framewire/framewire/protocol/FrameType", "of", "(I)Lcom/example/framewire/framewire/protocol/FrameType;"⟩ : MethodName) prog_15_method_4_code 5 (some (.object "com/example/framewire/framewire/protocol/FrameType")) ({ frames := 2, cells := 1, slots := 8, locals := 25 } : Room) Z #[(.int (p1 &&& (15 : Int32)))] h0 (own_kret V n0 h0)) (H2 : ∀ hh : Heap, Keep h0 hh [] → own_M l (⟨"com/example/framewire/framewire/protocol/FrameTypeOfPinLaw", "expected", "(I)Lcom/example/framewire/framewire/protocol/FrameType;"⟩ : MethodName) method_3_code 1 (some (.object "com/example/framewire/framewire/protocol/FrameType")) ({ frames := 0, cells := 0, slots := 0, locals := 0 } : Room) Z #[(.int (p1 &&& (15 : Int32)))] hh (own_ret V n0 hh)) :
    MetFree l x (head1 (Jvm.Cond.code x code maxLocals ret :: ws) room_1) (fun a U => a = #[(.int p1), (.int p2)] ∧ Z.Warmed39 U.vm ∧ U.heap = h0) (fun _ _ _ _ _ => True) (fun _ U o U' => ∃ v L, o = .returned v ∧ (own_one n0) v U'.heap L ∧ FrameEnd U o U' L room_1.cells room_1.slots) := by
  refine MetFree.of_bodySF (plainFor_of_name pn_0) hisR ?_
  intro p e s m args below meth c s₁ Bd hml0 hP hK
  obtain ⟨rfl, hZ, hh⟩ := hP
  have hx := Bd.exec
  have hby := Bd.bytes
  have hml : c.maxLocals = 3 := hml0
  have hown : s.vm.findClass "com/example/framewire/framewire/protocol/FrameTypeOfPinLaw" = some m.cls := findClass_of_methodNamed Bd.named
  have hnm := (name_of_methodNamed Bd.named Bd.method).1
  have X0 : Stand p l e room_1 s m #[(.int p1), (.int p2)] below meth c s₁ [] 0 0 := Stand.of_body Bd
  have e0 : s₁.heap = h0 := by rw [← hh, Bd.state]; rfl
  have N0 := Fr.nil n0
  have pre0 : ∀ t, Steps p.tables e below (s₁.setTop (mkF m 0 #[.val (.int p1), .val (.int p2), .unset] [])) t → Steps p.tables e below (s₁.setTop (entryFrame m #[(.int p1), (.int p2)] maxLocals)) t := fun t k => castTop (ef_0 m p1 p2) k
  obtain ⟨_, _, ⟨T2, L2, k2, n2⟩, -, X2, ⟨Lc2, hQ2, l2, y2, z2⟩, st2⟩ := Jvm.LawKit.callS X0 hx (y := (⟨"com/example/framewire/framewire/protocol/FrameType", "of", "(I)Lcom/example/framewire/framewire/protocol/FrameType;"⟩ : MethodName)) hown (mvT hZ (hw _ (List.mem_of_getElem? (i := 0) rfl))) (mvT hZ (hw _ (List.mem_of_getElem? (i := 1) rfl))) (mvT hZ (hw _ (List.mem_of_getElem? (i := 2) rfl))) (mvT hZ (hw _ (List.mem_of_getElem? (i := 3) rfl))) (by decide) (backOf (W := 0) (H1) hZ (hw _ (List.mem_of_getElem? (i := 3) rfl)) (hw _ (List.mem_of_getElem? (i := 2) rfl)) (by decide) (by decide)) (g := (mkF m 16 #[.val (.int p1), .val (.int p2), .val (.int (p1 &&& (15 : Int32)))] [(.int (p1 &&& (15 : Int32)))])) rfl (by rw [hml]; rfl) (argsL := [(.int (p1 &&& (15 : Int32)))]) (rest := []) (lenOf pd_o rfl) rfl (by show 2 * 0 + _ ≤ _; exact Nat.le_of_eq rfl) (hb hby at_16) (fun _ _ => ⟨rfl, e0, (by decide : 0 + 1 ≤ _), (by decide : 0 + 8 ≤ _)⟩)
  dsimp only [Pt.U, Pt.locs, Pt.cells, Pt.slots] at X2 l2 y2 z2 st2 hQ2
  subst l2 y2 z2
  obtain ⟨rfl, N2q, K2⟩ := hQ2
  have e2 : T2.heap = T2.heap := rfl
  have N2 := Fr.app N0 N2q
  obtain ⟨_, _, ⟨T3, L3, k3, n3⟩, -, X3, ⟨Lc3, hQ3, l3, y3, z3⟩, st3⟩ := Jvm.LawKit.callS X2 hx (y := (⟨"com/example/framewire/framewire/protocol/FrameTypeOfPinLaw", "expected", "(I)Lcom/example/framewire/framewire/protocol/FrameType;"⟩ : MethodName)) hown (mvT hZ (hw _ (List.mem_of_getElem? (i := 29) rfl))) (mvT hZ (hw _ (List.mem_of_getElem? (i := 30) rfl))) (mvT hZ (hw _ (List.mem_of_getElem? (i := 31) rfl))) (mvT hZ (hw _ (List.mem_of_getElem? (i := 32) rfl))) (by decide) (backOf (W := 1) (H2 _ K2) hZ (hw _ (List.mem_of_getElem? (i := 32) rfl)) (hw _ (List.mem_of_getElem? (i := 31) rfl)) (by decide) (by decide)) (g := (mkF m 20 #[.val (.int p1), .val (.int p2), .val (.int (p1 &&& (15 : Int32)))] [(.int (p1 &&& (15 : Int32))), V])) rfl (by rw [hml]; rfl) (argsL := [(.int (p1 &&& (15 : Int32)))]) (rest := [V]) (lenOf pd_o rfl) rfl (by show 2 * 0 + (List.map (fun v => v.category) [V]).sum ≤ 1; rcases ref_cases hV with rfl | ⟨y, rfl⟩ <;> exact Nat.le_of_eq rfl) (hb hby at_20) (fun _ _ => ⟨rfl, e2, (by decide : 1 + 0 ≤ _), (by decide : 8 + 0 ≤ _)⟩)
  dsimp only [Pt.U, Pt.locs, Pt.cells, Pt.slots] at X3 l3 y3 z3 st3 hQ3
  subst l3 y3 z3
  obtain ⟨rfl, N3q, e3⟩ := hQ3
  have N3 := Fr.app N2 N3q
  obtain ⟨fs, hr, hrun, hended, hW, hsame⟩ := X3.leave (v := some (.int (1 : Int32))) (fun h => by rw [Bd.returns] at h; cases h)
  refine ⟨_, _, pre0 _ ?_, hrun, hended, _, _, rfl, ?_, ⟨_, rfl⟩, hW, hsame.mono (by decide) (by decide)⟩
  · show Steps p.tables e below (s₁.setTop (mkF m 0 #[.val (.int p1), .val (.int p2), .unset] [])) _
    refine XS.iloadN X0.here hx rfl (hb hby at_0) rfl ?_
    show Steps p.tables e below (s₁.setTop (mkF m 1 #[.val (.int p1), .val (.int p2), .unset] [(.int p2)])) _
    refine XS.iconst X0.here hx rfl (hb hby at_1) ?_
    show Steps p.tables e below (s₁.setTop (mkF m 2 #[.val (.int p1), .val (.int p2), .unset] [(.int (1 : Int32)), (.int p2)])) _
    refine XS.iand X0.here hx rfl (hb hby at_2) rfl ?_
    show Steps p.tables e below (s₁.setTop (mkF m 3 #[.val (.int p1), .val (.int p2), .unset] [(.int (p2 &&& (1 : Int32)))])) _
    refine XS.ifNo X0.here hx rfl (hb hby at_3) rfl ((if0 _ _).trans (feq hm).1) ?_
    show Steps p.tables e below (s₁.setTop (mkF m 6 #[.val (.int p1), .val (.int p2), .unset] [])) _
    refine XS.iloadN X0.here hx rfl (hb hby at_6) rfl ?_
    show Steps p.tables e below (s₁.setTop (mkF m 7 #[.val (.int p1), .val (.int p2), .unset] [(.int p1)])) _
    refine XS.bipush X0.here hx rfl (hb hby at_7) ?_
    show Steps p.tables e below (s₁.setTop (mkF m 9 #[.val (.int p1), .val (.int p2), .unset] [(.int (15 : Int32)), (.int p1)])) _
    refine XS.iand X0.here hx rfl (hb hby at_9) rfl ?_
    show Steps p.tables e below (s₁.setTop (mkF m 10 #[.val (.int p1), .val (.int p2), .unset] [(.int (p1 &&& (15 : Int32)))])) _
    refine XS.goto X0.here hx rfl (pc0 := 10) (pc' := 14) rfl (hb hby at_10) (by decide) (by decide) ?_
    show Steps p.tables e below (s₁.setTop (mkF m 14 #[.val (.int p1), .val (.int p2), .unset] [(.int (p1 &&& (15 : Int32)))])) _
    refine XS.istoreN X0.here hx rfl (hb hby at_14) rfl (l' := #[.val (.int p1), .val (.int p2), .val (.int (p1 &&& (15 : Int32)))]) rfl ?_
    show Steps p.tables e below (s₁.setTop (mkF m 15 #[.val (.int p1), .val (.int p2), .val (.int (p1 &&& (15 : Int32)))] [])) _
    refine XS.iloadN X0.here hx rfl (hb hby at_15) rfl ?_
    show Steps p.tables e below (s₁.setTop (mkF m 16 #[.val (.int p1), .val (.int p2), .val (.int (p1 &&& (15 : Int32)))] [(.int (p1 &&& (15 : Int32)))])) _
    refine st2 _ ?_
    show Steps p.tables e below (T2.setTop (mkF m 19 #[.val (.int p1), .val (.int p2), .val (.int (p1 &&& (15 : Int32)))] [V])) _
    refine XS.iloadN X2.here hx rfl (hb hby at_19) rfl ?_
    show Steps p.tables e below (T2.setTop (mkF m 20 #[.val (.int p1), .val (.int p2), .val (.int (p1 &&& (15 : Int32)))] [(.int (p1 &&& (15 : Int32))), V])) _
    refine st3 _ ?_
    show Steps p.tables e below (T3.setTop (mkF m 23 #[.val (.int p1), .val (.int p2), .val (.int (p1 &&& (15 : Int32)))] [V, V])) _
    refine Jvm.RoadKit.acmp (g := (mkF m 23 #[.val (.int p1), .val (.int p2), .val (.int (p1 &&& (15 : Int32)))] [V, V])) X3 hx rfl hV hV (pc0 := 23) (pc' := 26) (same := true) rfl (hb hby at_23) rfl (decide_eq_true rfl) (by decide) (by decide) ?_
    show Steps p.tables e below (T3.setTop (mkF m 26 #[.val (.int p1), .val (.int p2), .val (.int (p1 &&& (15 : Int32)))] [])) _
    refine XS.iconst X3.here hx rfl (hb hby at_26) ?_
    show Steps p.tables e below (T3.setTop (mkF m 27 #[.val (.int p1), .val (.int p2), .val (.int (p1 &&& (15 : Int32)))] [(.int (1 : Int32))])) _
    refine XS.goto X3.here hx rfl (pc0 := 27) (pc' := 31) rfl (hb hby at_27) (by decide) (by decide) ?_
    show Steps p.tables e below (T3.setTop (mkF m 31 #[.val (.int p1), .val (.int p2), .val (.int (p1 &&& (15 : Int32)))] [(.int (1 : Int32))])) _
    exact retN X3 hx (t := .boolean) Bd.returns (by simp) (hb hby at_31) hr
  · show (own_one n0) _ T3.heap _
    exact ⟨rfl, N3⟩
set_option maxRecDepth 65536 in
set_option maxHeartbeats 40000000 in
theorem comes_1 {Post : Tables → Env → Array Value → State → Outcome → State → Prop} (hpost : ∀ tb e args s v u, (limb_1_1.after args s (.returned v) u = true ∧ limb_1_2.after args s (.returned v) u = true ∧ True) → FrameEnd s (.returned v) u (Jvm.fieldLocs frame_1_writes args s ++ Jvm.arrayLocs frame_1_arrays args s ++ Jvm.staticLocs frame_1_statics s) 16 128 → Post tb e args s (.returned v) u) :
    ArmFor flags0 classFile x code maxLocals ret World_1 tables_1 room_1 Calls_1 rest_1 Pre_1 Post := by
  intro l hfl _ _ p e ha hc hk s m args below hf hA hF happ hP
  obtain ⟨hcalls, hrest, hpre⟩ := hP
  obtain ⟨-, -, -, hnamed, -, -, -, hat⟩ := (Spec.applies_iff hf).mp happ
  obtain ⟨hg, hn⟩ := and_e (Cond.before_iff.mp (show (Jvm.Cond.and given_1 narrow_1).before args s = true from hpre))
  obtain ⟨g1, g2⟩ := and_e hg
  obtain ⟨g3, g4⟩ := and_e g2
  obtain ⟨w0, w1, rfl⟩ : ∃ w0 w1 : Value, args = #[w0, w1] := by
    have hs : args.size = 2 := by simpa [Cond.value, given_1] using g1
    obtain ⟨L⟩ := args
    match L, hs with
    | [w0, w1], _ => exact ⟨w0, w1, rfl⟩
  have hw := fun d (hd : d ∈ tables_1) => atoms_spec (ws := Jvm.Cond.code x code maxLocals ret :: tables_1) hat d (List.mem_cons_of_mem _ hd)
  have hfit : Fit s := fun {y c} hc i hi => by
    obtain ⟨ha, rfl⟩ := Array.getElem?_eq_some_iff.mp hc
    have q := List.all_eq_true.mp ((Array.all_eq_true_iff_forall_mem.mp hF) _ (Array.getElem_mem ha)) i (List.mem_range.mpr hi)
    simpa [Array.getElem?_eq_getElem hi] using q
  obtain ⟨i0, ei0⟩ := is_v g3
  obtain rfl : w0 = (.int i0) := Option.some.inj ei0
  obtain ⟨i1, ei1⟩ := is_v g4
  obtain rfl : w1 = (.int i1) := Option.some.inj ei1
  obtain ⟨m0, hn⟩ := and_e hn
  obtain ⟨m1, hn⟩ := and_e hn
  obtain ⟨m2, hn⟩ := and_e hn
  obtain ⟨m3, hn⟩ := and_e hn
  obtain ⟨m4, hn⟩ := and_e hn
  obtain ⟨m5, hn⟩ := and_e hn
  obtain ⟨m6, hn⟩ := and_e hn
  obtain ⟨m7, hn⟩ := and_e hn
  obtain ⟨m8, hn⟩ := and_e hn
  obtain ⟨m9, hn⟩ := and_e hn
  obtain ⟨m10, hn⟩ := and_e hn
  obtain ⟨m11, hn⟩ := and_e hn
  obtain ⟨m12, hn⟩ := and_e hn
  obtain ⟨m13, hn⟩ := and_e hn
  obtain ⟨m14, hn⟩ := and_e hn
  obtain ⟨m15, hn⟩ := and_e hn
  obtain ⟨m16, hn⟩ := and_e hn
  obtain ⟨m17, hn⟩ := and_e hn
  obtain ⟨m18, hn⟩ := and_e hn
  obtain ⟨m19, hn⟩ := and_e hn
  obtain ⟨m20, hn⟩ := and_e hn
  obtain ⟨m21, hn⟩ := and_e hn
  obtain ⟨m22, hn⟩ := and_e hn
  obtain ⟨m23, hn⟩ := and_e hn
  obtain ⟨m24, hn⟩ := and_e hn
  obtain ⟨m25, hn⟩ := and_e hn
  have m26 := hn
  obtain ⟨w_V, ev_V⟩ := arr_v m0
  obtain ⟨c_V, A_V⟩ := Arr.start ev_V m0
  have S_V : Sta s s.heap "com/example/framewire/framewire/protocol/FrameType" "$VALUES" "[Lcom/example/framewire/framewire/protocol/FrameType;" (.ref w_V) := Sta.start ev_V (Or.inr ⟨(hw _ (List.mem_of_getElem? (i := 2) rfl)), (hw _ (List.mem_of_getElem? (i := 8) rfl))⟩)
  have Ex_V : Exa s s.heap w_V "[Lcom/example/framewire/framewire/protocol/FrameType;" := Exa.start ev_V m1
  obtain ⟨w_COMMAND_REQUEST, ev_COMMAND_REQUEST⟩ := exa_v m3
  have E_COMMAND_REQUEST : Exa s s.heap w_COMMAND_REQUEST "com/example/framewire/framewire/protocol/FrameType" := Exa.start ev_COMMAND_REQUEST m3
  have S_COMMAND_REQUEST : Sta s s.heap "com/example/framewire/framewire/protocol/FrameType" "COMMAND_REQUEST" "Lcom/example/framewire/framewire/protocol/FrameType;" (.ref w_COMMAND_REQUEST) := Sta.start ev_COMMAND_REQUEST (Or.inr ⟨(hw _ (List.mem_of_getElem? (i := 2) rfl)), (hw _ (List.mem_of_getElem? (i := 16) rfl))⟩)
  obtain ⟨w_COMMAND_DATA, ev_COMMAND_DATA⟩ := exa_v m5
  have E_COMMAND_DATA : Exa s s.heap w_COMMAND_DATA "com/example/framewire/framewire/protocol/FrameType" := Exa.start ev_COMMAND_DATA m5
  have S_COMMAND_DATA : Sta s s.heap "com/example/framewire/framewire/protocol/FrameType" "COMMAND_DATA" "Lcom/example/framewire/framewire/protocol/FrameType;" (.ref w_COMMAND_DATA) := Sta.start ev_COMMAND_DATA (Or.inr ⟨(hw _ (List.mem_of_getElem? (i := 2) rfl)), (hw _ (List.mem_of_getElem? (i := 17) rfl))⟩)
  obtain ⟨w_COMMAND_RESPONSE, ev_COMMAND_RESPONSE⟩ := exa_v m7
  have E_COMMAND_RESPONSE : Exa s s.heap w_COMMAND_RESPONSE "com/example/framewire/framewire/protocol/FrameType" := Exa.start ev_COMMAND_RESPONSE m7
  have S_COMMAND_RESPONSE : Sta s s.heap "com/example/framewire/framewire/protocol/FrameType" "COMMAND_RESPONSE" "Lcom/example/framewire/framewire/protocol/FrameType;" (.ref w_COMMAND_RESPONSE) := Sta.start ev_COMMAND_RESPONSE (Or.inr ⟨(hw _ (List.mem_of_getElem? (i := 2) rfl)), (hw _ (List.mem_of_getElem? (i := 18) rfl))⟩)
  obtain ⟨w_ERROR_OCCURRED, ev_ERROR_OCCURRED⟩ := exa_v m9
  have E_ERROR_OCCURRED : Exa s s.heap w_ERROR_OCCURRED "com/example/framewire/framewire/protocol/FrameType" := Exa.start ev_ERROR_OCCURRED m9
  have S_ERROR_OCCURRED : Sta s s.heap "com/example/framewire/framewire/protocol/FrameType" "ERROR_OCCURRED" "Lcom/example/framewire/framewire/protocol/FrameType;" (.ref w_ERROR_OCCURRED) := Sta.start ev_ERROR_OCCURRED (Or.inr ⟨(hw _ (List.mem_of_getElem? (i := 2) rfl)), (hw _ (List.mem_of_getElem? (i := 19) rfl))⟩)
  obtain ⟨w_HUMAN_OUTPUT, ev_HUMAN_OUTPUT⟩ := exa_v m11
  have E_HUMAN_OUTPUT : Exa s s.heap w_HUMAN_OUTPUT "com/example/framewire/framewire/protocol/FrameType" := Exa.start ev_HUMAN_OUTPUT m11
  have S_HUMAN_OUTPUT : Sta s s.heap "com/example/framewire/framewire/protocol/FrameType" "HUMAN_OUTPUT" "Lcom/example/framewire/framewire/protocol/FrameType;" (.ref w_HUMAN_OUTPUT) := Sta.start ev_HUMAN_OUTPUT (Or.inr ⟨(hw _ (List.mem_of_getElem? (i := 2) rfl)), (hw _ (List.mem_of_getElem? (i := 20) rfl))⟩)
  obtain ⟨w_PROGRESS, ev_PROGRESS⟩ := exa_v m13
  have E_PROGRESS : Exa s s.heap w_PROGRESS "com/example/framewire/framewire/protocol/FrameType" := Exa.start ev_PROGRESS m13
  have S_PROGRESS : Sta s s.heap "com/example/framewire/framewire/protocol/FrameType" "PROGRESS" "Lcom/example/framewire/framewire/protocol/FrameType;" (.ref w_PROGRESS) := Sta.start ev_PROGRESS (Or.inr ⟨(hw _ (List.mem_of_getElem? (i := 2) rfl)), (hw _ (List.mem_of_getElem? (i := 21) rfl))⟩)
  obtain ⟨w_SENDER_PROTOCOL_SETTINGS, ev_SENDER_PROTOCOL_SETTINGS⟩ := exa_v m15
  have E_SENDER_PROTOCOL_SETTINGS : Exa s s.heap w_SENDER_PROTOCOL_SETTINGS "com/example/framewire/framewire/protocol/FrameType" := Exa.start ev_SENDER_PROTOCOL_SETTINGS m15
  have S_SENDER_PROTOCOL_SETTINGS : Sta s s.heap "com/example/framewire/framewire/protocol/FrameType" "SENDER_PROTOCOL_SETTINGS" "Lcom/example/framewire/framewire/protocol/FrameType;" (.ref w_SENDER_PROTOCOL_SETTINGS) := Sta.start ev_SENDER_PROTOCOL_SETTINGS (Or.inr ⟨(hw _ (List.mem_of_getElem? (i := 2) rfl)), (hw _ (List.mem_of_getElem? (i := 22) rfl))⟩)
  obtain ⟨w_STREAM_ENCODING_SETTINGS, ev_STREAM_ENCODING_SETTINGS⟩ := exa_v m17
  have E_STREAM_ENCODING_SETTINGS : Exa s s.heap w_STREAM_ENCODING_SETTINGS "com/example/framewire/framewire/protocol/FrameType" := Exa.start ev_STREAM_ENCODING_SETTINGS m17
  have S_STREAM_ENCODING_SETTINGS : Sta s s.heap "com/example/framewire/framewire/protocol/FrameType" "STREAM_ENCODING_SETTINGS" "Lcom/example/framewire/framewire/protocol/FrameType;" (.ref w_STREAM_ENCODING_SETTINGS) := Sta.start ev_STREAM_ENCODING_SETTINGS (Or.inr ⟨(hw _ (List.mem_of_getElem? (i := 2) rfl)), (hw _ (List.mem_of_getElem? (i := 23) rfl))⟩)
  have Z_V := own_len ev_V A_V m2
  have P_COMMAND_REQUEST := own_elem ev_V A_V ev_COMMAND_REQUEST m4
  have P_COMMAND_DATA := own_elem ev_V A_V ev_COMMAND_DATA m6
  have P_COMMAND_RESPONSE := own_elem ev_V A_V ev_COMMAND_RESPONSE m8
  have P_ERROR_OCCURRED := own_elem ev_V A_V ev_ERROR_OCCURRED m10
  have P_HUMAN_OUTPUT := own_elem ev_V A_V ev_HUMAN_OUTPUT m12
  have P_PROGRESS := own_elem ev_V A_V ev_PROGRESS m14
  have P_SENDER_PROTOCOL_SETTINGS := own_elem ev_V A_V ev_SENDER_PROTOCOL_SETTINGS m16
  have P_STREAM_ENCODING_SETTINGS := own_elem ev_V A_V ev_STREAM_ENCODING_SETTINGS m18
  have F_COMMAND_REQUEST_code : Fld s s.heap w_COMMAND_REQUEST "com/example/framewire/framewire/protocol/FrameType" "code" "I" (.int (1 : Int32)) := Fld.start ((fld_at ev_COMMAND_REQUEST).symm.trans (own_eqI m19))
  have F_COMMAND_DATA_code : Fld s s.heap w_COMMAND_DATA "com/example/framewire/framewire/protocol/FrameType" "code" "I" (.int (2 : Int32)) := Fld.start ((fld_at ev_COMMAND_DATA).symm.trans (own_eqI m20))
  have F_COMMAND_RESPONSE_code : Fld s s.heap w_COMMAND_RESPONSE "com/example/framewire/framewire/protocol/FrameType" "code" "I" (.int (3 : Int32)) := Fld.start ((fld_at ev_COMMAND_RESPONSE).symm.trans (own_eqI m21))
  have F_ERROR_OCCURRED_code : Fld s s.heap w_ERROR_OCCURRED "com/example/framewire/framewire/protocol/FrameType" "code" "I" (.int (5 : Int32)) := Fld.start ((fld_at ev_ERROR_OCCURRED).symm.trans (own_eqI m22))
  have F_HUMAN_OUTPUT_code : Fld s s.heap w_HUMAN_OUTPUT "com/example/framewire/framewire/protocol/FrameType" "code" "I" (.int (6 : Int32)) := Fld.start ((fld_at ev_HUMAN_OUTPUT).symm.trans (own_eqI m23))
  have F_PROGRESS_code : Fld s s.heap w_PROGRESS "com/example/framewire/framewire/protocol/FrameType" "code" "I" (.int (7 : Int32)) := Fld.start ((fld_at ev_PROGRESS).symm.trans (own_eqI m24))
  have F_SENDER_PROTOCOL_SETTINGS_code : Fld s s.heap w_SENDER_PROTOCOL_SETTINGS "com/example/framewire/framewire/protocol/FrameType" "code" "I" (.int (8 : Int32)) := Fld.start ((fld_at ev_SENDER_PROTOCOL_SETTINGS).symm.trans (own_eqI m25))
  have F_STREAM_ENCODING_SETTINGS_code : Fld s s.heap w_STREAM_ENCODING_SETTINGS "com/example/framewire/framewire/protocol/FrameType" "code" "I" (.int (9 : Int32)) := Fld.start ((fld_at ev_STREAM_ENCODING_SETTINGS).symm.trans (own_eqI m26))
  have S_Vz : c_V.slots.size = 8 := (own_size Z_V).1
  have Ft_V : FitC s c_V := FitC.start hfit A_V
  have pick := own_pick l s _ hw s.heap s.heap.size (Nat.le_refl _) w_V c_V S_V A_V Ex_V Ft_V S_Vz w_COMMAND_REQUEST S_COMMAND_REQUEST F_COMMAND_REQUEST_code P_COMMAND_REQUEST w_COMMAND_DATA S_COMMAND_DATA F_COMMAND_DATA_code P_COMMAND_DATA w_COMMAND_RESPONSE S_COMMAND_RESPONSE F_COMMAND_RESPONSE_code P_COMMAND_RESPONSE w_ERROR_OCCURRED S_ERROR_OCCURRED F_ERROR_OCCURRED_code P_ERROR_OCCURRED w_HUMAN_OUTPUT S_HUMAN_OUTPUT F_HUMAN_OUTPUT_code P_HUMAN_OUTPUT w_PROGRESS S_PROGRESS F_PROGRESS_code P_PROGRESS w_SENDER_PROTOCOL_SETTINGS S_SENDER_PROTOCOL_SETTINGS F_SENDER_PROTOCOL_SETTINGS_code P_SENDER_PROTOCOL_SETTINGS w_STREAM_ENCODING_SETTINGS S_STREAM_ENCODING_SETTINGS F_STREAM_ENCODING_SETTINGS_code P_STREAM_ENCODING_SETTINGS
  have hlaw : MetFree l x (head1 (Jvm.Cond.code x code maxLocals ret :: tables_1) room_1) (fun a U => a = #[(.int i0), (.int i1)] ∧ s.Warmed39 U.vm ∧ U.heap = s.heap) (fun _ _ _ _ _ => True) (fun _ U o U' => ∃ v L, o = .returned v ∧ own_one s.heap.size v U'.heap L ∧ FrameEnd U o U' L room_1.cells room_1.slots) := by
    by_cases hm : (i1 &&& (1 : Int32)) = (0 : Int32)
    · obtain ⟨V, hV, q1, q2⟩ := pick i0
      exact own_law_t l s _ hw tables_1 i0 i1 s.heap s.heap.size (Nat.le_refl _) V hV hm q1 q2
    · obtain ⟨V, hV, q1, q2⟩ := pick (i0 &&& (15 : Int32))
      exact own_law_f l s _ hw tables_1 i0 i1 s.heap s.heap.size (Nat.le_refl _) V hV hm q1 q2
  obtain ⟨n, o, h1, h2, h3, _, L, rfl, ⟨rfl, N⟩, hq⟩ := hlaw p e ha hc hk s m _ below hf ((Spec.applies_iff_loose hf).mp happ).1 ⟨rfl, State.Warmed39.refl s, rfl⟩ trivial
  refine ⟨n, _, h1, h2, h3, hpost _ _ _ _ _ _ ⟨Cond.after_iff.mpr rfl, Cond.after_iff.mpr (eq_i res_at (Term.int_eval (1)) rfl), trivial⟩ ⟨hq.1, hq.2.1, (hq.2.2.sift fun y hy => Or.inr (N y hy)).mono (by decide) (by decide)⟩⟩
theorem main_1_1 : Claimed_1_1 := comes_1 fun _ _ _ _ _ _ h hF => ⟨h.1, hF⟩
theorem main_1_2 : Claimed_1_2 := comes_1 fun _ _ _ _ _ _ h hF => ⟨h.2.1, hF⟩
end Jvm.Pilot.@@N@@
namespace Jvm.Pilot.@@N@@
open Jvm Jvm.ClassFile Sem Op Lib Jvm.Free Jvm.Stand Jvm.Pilot.@@N@@.Jvm.D
/-! MADE BY PROGRAM (witnessworld.py) out of the Statement's table words and the real class files: 13 classes; the members and pool entries that the words name. The judged class is class 1, her method 1. -/
namespace start1
open Jvm.ClassFile
def u (s : String) : CpInfo := .utf8 (stringToUtf16 s)
/-- a pool by its gaps: so many unusable entries, then the entry; so many at the end -/
def gap : Nat → List CpInfo → List CpInfo
  | 0, r => r
  | n + 1, r => .unusable :: gap n r
def poolList (es : List (Nat × CpInfo)) (last : Nat) : List CpInfo := es.foldr (fun e r => gap e.1 (e.2 :: r)) (gap last [])
def pool (es : List (Nat × CpInfo)) (last : Nat) : Array CpInfo := ⟨poolList es last⟩
def fileOf (pool : Array CpInfo) (this : Nat) (attrs : Array Attribute := #[]) (ms : Array MethodInfo := #[]) (fl : Nat := 33) (sup : Nat := 0) (ifs : Array Nat := #[]) (fds : Array FieldInfo := #[]) : ClassFile where
  minorVersion := 0
  majorVersion := 65
  constantPool := pool
  accessFlags := fl
  thisClass := this
  superClass := sup
  interfaces := ifs
  fields := fds
  methods := ms
  attributes := attrs
def plain (name : String) (sup : Option ClassId) : Class where
  name := name
  kind := .ordinary
  loader := none
  accessFlags := 33
  super := sup
  interfaces := #[]
  cf := none
  fields := #[]
  methods := #[]
  instanceTypes := #[]
  staticTypes := #[]
  resolved := #[]
  callSites := []
  init := .initialized
  statics := none
  mirror := none

def pool0 : Array CpInfo := pool [(5, u "<init>"), (0, u "()V"), (1, .class_ 10), (1, u "java/lang/Object"), (85, u "clone"), (0, u "()Ljava/lang/Object;")] 26

def k0m0 : Method := { name := "<init>", desc := "()V", sig := { parameters := [], returnType := none }, accessFlags := 1, code := none }
def k0m1 : Method := { name := "clone", desc := "()Ljava/lang/Object;", sig := { parameters := [], returnType := some (.object "java/lang/Object") }, accessFlags := 260, code := none }
/-- java/lang/Object -/
def k0 : Class := { plain "java/lang/Object" none with
  accessFlags := 33
  interfaces := #[]
  cf := some (fileOf pool0 8 #[] #[{ accessFlags := 1, nameIndex := 5, descriptorIndex := 6, attributes := #[] }, { accessFlags := 260, nameIndex := 96, descriptorIndex := 97, attributes := #[] }] 33 0 #[] #[])
  fields := #[]
  methods := #[k0m0, k0m1]
  instanceTypes := #[]
  staticTypes := #[]
  resolved := Array.replicate 124 none
  statics := none }

def pool1 : Array CpInfo := pool [(2, .class_ 4), (1, u "java/lang/Object"), (0, u "<init>"), (0, u "()V"), (0, .methodref 8 9), (0, .class_ 10), (0, .nameAndType 11 12), (0, u "com/example/framewire/framewire/protocol/FrameType"), (0, u "of"), (0, u "(I)Lcom/example/framewire/framewire/protocol/FrameType;"), (0, .methodref 14 15), (0, .class_ 16), (0, .nameAndType 17 12), (0, u "com/example/framewire/framewire/protocol/FrameTypeOfPinLaw"), (0, u "expected"), (0, .fieldref 8 19), (0, .nameAndType 20 21), (0, u "COMMAND_REQUEST"), (0, u "Lcom/example/framewire/framewire/protocol/FrameType;"), (0, .fieldref 8 23), (0, .nameAndType 24 21), (0, u "COMMAND_DATA"), (0, .fieldref 8 26), (0, .nameAndType 27 21), (0, u "COMMAND_RESPONSE"), (0, .fieldref 8 29), (0, .nameAndType 30 21), (0, u "ERROR_OCCURRED"), (0, .fieldref 8 32), (0, .nameAndType 33 21), (0, u "HUMAN_OUTPUT"), (0, .fieldref 8 35), (0, .nameAndType 36 21), (0, u "PROGRESS"), (0, .fieldref 8 38), (0, .nameAndType 39 21), (0, u "SENDER_PROTOCOL_SETTINGS"), (0, .fieldref 8 41), (0, .nameAndType 42 21), (0, u "STREAM_ENCODING_SETTINGS"), (2, u "law"), (0, u "(II)Z")] 3

def k1m0 : Method := { name := "<init>", desc := "()V", sig := { parameters := [], returnType := none }, accessFlags := 1, code := none }
def k1c1 : Code := { maxStack := 2, maxLocals := 3, code := code, exceptionTable := #[], attributes := #[] }
def k1m1 : Method := { name := "law", desc := "(II)Z", sig := { parameters := [.int, .int], returnType := some .boolean }, accessFlags := 9, code := some k1c1 }
def k1c2 : Code := { maxStack := 2, maxLocals := 1, code := method_3_code, exceptionTable := #[], attributes := #[] }
def k1m2 : Method := { name := "expected", desc := "(I)Lcom/example/framewire/framewire/protocol/FrameType;", sig := { parameters := [.int], returnType := some (.object "com/example/framewire/framewire/protocol/FrameType") }, accessFlags := 10, code := some k1c2 }
/-- com/example/framewire/framewire/protocol/FrameTypeOfPinLaw -/
def k1 : Class := { plain "com/example/framewire/framewire/protocol/FrameTypeOfPinLaw" (some 0) with
  accessFlags := 49
  interfaces := #[]
  cf := some (fileOf pool1 14 #[] #[{ accessFlags := 1, nameIndex := 5, descriptorIndex := 6, attributes := #[] }, { accessFlags := 9, nameIndex := 45, descriptorIndex := 46, attributes := #[] }, { accessFlags := 10, nameIndex := 17, descriptorIndex := 12, attributes := #[] }] 49 2 #[] #[])
  fields := #[]
  methods := #[k1m0, k1m1, k1m2]
  instanceTypes := #[]
  staticTypes := #[]
  resolved := Array.replicate 50 none
  statics := none }

def pool2 : Array CpInfo := pool [(1, .class_ 2), (0, u "java/lang/constant/Constable"), (0, .class_ 4), (0, u "java/lang/Object")] 6

/-- java/lang/constant/Constable -/
def k2 : Class := { plain "java/lang/constant/Constable" (some 0) with
  accessFlags := 1537
  interfaces := #[]
  cf := some (fileOf pool2 1 #[] #[] 1537 3 #[] #[])
  fields := #[]
  methods := #[]
  instanceTypes := #[]
  staticTypes := #[]
  resolved := Array.replicate 11 none
  statics := none }

def pool3 : Array CpInfo := pool [(1, .class_ 2), (0, u "java/lang/Comparable"), (0, .class_ 4), (0, u "java/lang/Object")] 7

/-- java/lang/Comparable -/
def k3 : Class := { plain "java/lang/Comparable" (some 0) with
  accessFlags := 1537
  interfaces := #[]
  cf := some (fileOf pool3 1 #[] #[] 1537 3 #[] #[])
  fields := #[]
  methods := #[]
  instanceTypes := #[]
  staticTypes := #[]
  resolved := Array.replicate 12 none
  statics := none }

def pool4 : Array CpInfo := pool [(1, .class_ 2), (0, u "java/io/Serializable"), (0, .class_ 4), (0, u "java/lang/Object")] 2

/-- java/io/Serializable -/
def k4 : Class := { plain "java/io/Serializable" (some 0) with
  accessFlags := 1537
  interfaces := #[]
  cf := some (fileOf pool4 1 #[] #[] 1537 3 #[] #[])
  fields := #[]
  methods := #[]
  instanceTypes := #[]
  staticTypes := #[]
  resolved := Array.replicate 7 none
  statics := none }

def pool5 : Array CpInfo := pool [(2, .class_ 4), (1, u "java/lang/Enum"), (0, u "name"), (0, u "Ljava/lang/String;"), (2, u "ordinal"), (0, u "I"), (1, .class_ 14), (1, u "java/lang/Object"), (4, u "hash"), (86, .class_ 108), (1, u "java/lang/Enum$EnumDesc"), (2, .class_ 112), (0, u "java/lang/constant/Constable"), (0, .class_ 114), (0, u "java/lang/Comparable"), (0, .class_ 116), (0, u "java/io/Serializable")] 87

/-- java/lang/Enum -/
def k5 : Class := { plain "java/lang/Enum" (some 0) with
  accessFlags := 1057
  interfaces := #[2, 3, 4]
  cf := some (fileOf pool5 2 #[.nestMembers #[106]] #[] 1057 12 #[111, 113, 115] #[{ accessFlags := 18, nameIndex := 5, descriptorIndex := 6, attributes := #[] }, { accessFlags := 18, nameIndex := 9, descriptorIndex := 10, attributes := #[] }, { accessFlags := 2, nameIndex := 19, descriptorIndex := 10, attributes := #[] }])
  fields := #[{ name := "name", type := (.object "java/lang/String"), accessFlags := 18, slot := 0, constantValue := 0 }, { name := "ordinal", type := .int, accessFlags := 18, slot := 1, constantValue := 0 }, { name := "hash", type := .int, accessFlags := 2, slot := 2, constantValue := 0 }]
  methods := #[]
  instanceTypes := #[(.object "java/lang/String"), .int, .int]
  staticTypes := #[]
  resolved := Array.replicate 204 none
  statics := none }

def pool6 : Array CpInfo := pool [(1, .class_ 2), (0, u "com/example/framewire/framewire/protocol/FrameType"), (2, u "COMMAND_REQUEST"), (0, u "Lcom/example/framewire/framewire/protocol/FrameType;"), (2, u "COMMAND_DATA"), (2, u "COMMAND_RESPONSE"), (2, u "ERROR_OCCURRED"), (2, u "HUMAN_OUTPUT"), (2, u "PROGRESS"), (2, u "SENDER_PROTOCOL_SETTINGS"), (2, u "STREAM_ENCODING_SETTINGS"), (0, .fieldref 1 29), (0, .nameAndType 30 31), (0, u "$VALUES"), (0, u "[Lcom/example/framewire/framewire/protocol/FrameType;"), (0, .methodref 33 34), (0, .class_ 31), (0, .nameAndType 35 36), (0, u "clone"), (0, u "()Ljava/lang/Object;"), (1, .class_ 40), (1, u "java/lang/Enum"), (6, .fieldref 1 48), (0, .nameAndType 49 50), (0, u "code"), (0, u "I"), (2, u "description"), (0, u "Ljava/lang/String;"), (2, u "sentByClients"), (0, u "Z"), (0, .methodref 1 60), (0, .nameAndType 61 62), (0, u "values"), (0, u "()[Lcom/example/framewire/framewire/protocol/FrameType;"), (51, u "of"), (0, u "(I)Lcom/example/framewire/framewire/protocol/FrameType;")] 12

def k6c0 : Code := { maxStack := 1, maxLocals := 0, code := prog_15_method_1_code, exceptionTable := #[], attributes := #[] }
def k6m0 : Method := { name := "values", desc := "()[Lcom/example/framewire/framewire/protocol/FrameType;", sig := { parameters := [], returnType := some (.array (.object "com/example/framewire/framewire/protocol/FrameType")) }, accessFlags := 9, code := some k6c0 }
def k6c1 : Code := { maxStack := 2, maxLocals := 5, code := prog_15_method_4_code, exceptionTable := #[], attributes := #[] }
def k6m1 : Method := { name := "of", desc := "(I)Lcom/example/framewire/framewire/protocol/FrameType;", sig := { parameters := [.int], returnType := some (.object "com/example/framewire/framewire/protocol/FrameType") }, accessFlags := 9, code := some k6c1 }
/-- com/example/framewire/framewire/protocol/FrameType -/
def k6 : Class := { plain "com/example/framewire/framewire/protocol/FrameType" (some 5) with
  accessFlags := 16433
  interfaces := #[]
  cf := some (fileOf pool6 1 #[] #[{ accessFlags := 9, nameIndex := 61, descriptorIndex := 62, attributes := #[] }, { accessFlags := 9, nameIndex := 114, descriptorIndex := 115, attributes := #[] }] 16433 38 #[] #[{ accessFlags := 16409, nameIndex := 5, descriptorIndex := 6, attributes := #[] }, { accessFlags := 16409, nameIndex := 9, descriptorIndex := 6, attributes := #[] }, { accessFlags := 16409, nameIndex := 12, descriptorIndex := 6, attributes := #[] }, { accessFlags := 16409, nameIndex := 15, descriptorIndex := 6, attributes := #[] }, { accessFlags := 16409, nameIndex := 18, descriptorIndex := 6, attributes := #[] }, { accessFlags := 16409, nameIndex := 21, descriptorIndex := 6, attributes := #[] }, { accessFlags := 16409, nameIndex := 24, descriptorIndex := 6, attributes := #[] }, { accessFlags := 16409, nameIndex := 27, descriptorIndex := 6, attributes := #[] }, { accessFlags := 18, nameIndex := 49, descriptorIndex := 50, attributes := #[] }, { accessFlags := 18, nameIndex := 53, descriptorIndex := 54, attributes := #[] }, { accessFlags := 18, nameIndex := 57, descriptorIndex := 58, attributes := #[] }, { accessFlags := 4122, nameIndex := 30, descriptorIndex := 31, attributes := #[] }])
  fields := #[{ name := "COMMAND_REQUEST", type := (.object "com/example/framewire/framewire/protocol/FrameType"), accessFlags := 16409, slot := 0, constantValue := 0 }, { name := "COMMAND_DATA", type := (.object "com/example/framewire/framewire/protocol/FrameType"), accessFlags := 16409, slot := 1, constantValue := 0 }, { name := "COMMAND_RESPONSE", type := (.object "com/example/framewire/framewire/protocol/FrameType"), accessFlags := 16409, slot := 2, constantValue := 0 }, { name := "ERROR_OCCURRED", type := (.object "com/example/framewire/framewire/protocol/FrameType"), accessFlags := 16409, slot := 3, constantValue := 0 }, { name := "HUMAN_OUTPUT", type := (.object "com/example/framewire/framewire/protocol/FrameType"), accessFlags := 16409, slot := 4, constantValue := 0 }, { name := "PROGRESS", type := (.object "com/example/framewire/framewire/protocol/FrameType"), accessFlags := 16409, slot := 5, constantValue := 0 }, { name := "SENDER_PROTOCOL_SETTINGS", type := (.object "com/example/framewire/framewire/protocol/FrameType"), accessFlags := 16409, slot := 6, constantValue := 0 }, { name := "STREAM_ENCODING_SETTINGS", type := (.object "com/example/framewire/framewire/protocol/FrameType"), accessFlags := 16409, slot := 7, constantValue := 0 }, { name := "code", type := .int, accessFlags := 18, slot := 3, constantValue := 0 }, { name := "description", type := (.object "java/lang/String"), accessFlags := 18, slot := 4, constantValue := 0 }, { name := "sentByClients", type := .boolean, accessFlags := 18, slot := 5, constantValue := 0 }, { name := "$VALUES", type := (.array (.object "com/example/framewire/framewire/protocol/FrameType")), accessFlags := 4122, slot := 8, constantValue := 0 }]
  methods := #[k6m0, k6m1]
  instanceTypes := #[(.object "java/lang/String"), .int, .int, .int, (.object "java/lang/String"), .boolean]
  staticTypes := #[(.object "com/example/framewire/framewire/protocol/FrameType"), (.object "com/example/framewire/framewire/protocol/FrameType"), (.object "com/example/framewire/framewire/protocol/FrameType"), (.object "com/example/framewire/framewire/protocol/FrameType"), (.object "com/example/framewire/framewire/protocol/FrameType"), (.object "com/example/framewire/framewire/protocol/FrameType"), (.object "com/example/framewire/framewire/protocol/FrameType"), (.object "com/example/framewire/framewire/protocol/FrameType"), (.array (.object "com/example/framewire/framewire/protocol/FrameType"))]
  resolved := Array.replicate 128 none
  statics := some 0 }

def pool7 : Array CpInfo := pool [(1, .class_ 2), (0, u "java/lang/Cloneable"), (0, .class_ 4), (0, u "java/lang/Object")] 2

/-- java/lang/Cloneable -/
def k7 : Class := { plain "java/lang/Cloneable" (some 0) with
  accessFlags := 1537
  interfaces := #[]
  cf := some (fileOf pool7 1 #[] #[] 1537 3 #[] #[])
  fields := #[]
  methods := #[]
  instanceTypes := #[]
  staticTypes := #[]
  resolved := Array.replicate 7 none
  statics := none }

/-- the primitive byte -/
def k8 : Class := { plain "byte" none with kind := .primitive 'B', accessFlags := 0x411 }
/-- [B -/
def k9 : Class := { plain "[B" (some 0) with kind := .array 8 .byte, interfaces := #[7, 4], accessFlags := 1041 }

/-- the primitive int -/
def k10 : Class := { plain "int" none with kind := .primitive 'I', accessFlags := 0x411 }
/-- [I -/
def k11 : Class := { plain "[I" (some 0) with kind := .array 10 .int, interfaces := #[7, 4], accessFlags := 1041 }

/-- [Lcom/example/framewire/framewire/protocol/FrameType; -/
def k12 : Class := { plain "[Lcom/example/framewire/framewire/protocol/FrameType;" (some 0) with kind := .array 6 (.object "com/example/framewire/framewire/protocol/FrameType"), interfaces := #[7, 4], accessFlags := 1041 }

def heap : Heap := #[{ cls := 6, slots := #[.ref 2, .ref 3, .ref 4, .ref 5, .ref 6, .ref 7, .ref 8, .ref 9, .ref 1], vm := .statics 6 },
  { cls := 12, slots := #[.ref 2, .ref 3, .ref 4, .ref 5, .ref 6, .ref 7, .ref 8, .ref 9], vm := .none },
  { cls := 6, slots := #[.null, .int 0, .int 0, .int 1, .null, .int 0], vm := .none },
  { cls := 6, slots := #[.null, .int 1, .int 0, .int 2, .null, .int 0], vm := .none },
  { cls := 6, slots := #[.null, .int 2, .int 0, .int 3, .null, .int 0], vm := .none },
  { cls := 6, slots := #[.null, .int 3, .int 0, .int 5, .null, .int 0], vm := .none },
  { cls := 6, slots := #[.null, .int 4, .int 0, .int 6, .null, .int 0], vm := .none },
  { cls := 6, slots := #[.null, .int 5, .int 0, .int 7, .null, .int 0], vm := .none },
  { cls := 6, slots := #[.null, .int 6, .int 0, .int 8, .null, .int 0], vm := .none },
  { cls := 6, slots := #[.null, .int 7, .int 0, .int 9, .null, .int 0], vm := .none }]
def classes : Array Class := #[k0, k1, k2, k3, k4, k5, k6, k7, k8, k9, k10, k11, k12]
def interned : List (Array UInt16 × Addr) := []
def slotsUsed : Nat := 65
def theMethod : MethodId := ⟨1, 1⟩
def args0 : Array Value := #[.int 5, .int 0]
def aboutOver (below : List Frame) : State where
  vm := { classes := classes, interned := interned.toArray }
  heap := heap
  slotsUsed := slotsUsed
  threads := #[{ frames := .invoking theMethod args0 :: below }]
def below0 : List Frame := [.native { method := ⟨0, 0⟩, args := #[] }]
def about1 : State := aboutOver below0
def p0 : Program := .bare "" "" ""
def e0 : Env := launch0.env 0 0 0
theorem w_frames : about1.frames = Frame.invoking theMethod args0 :: below0 := rfl
set_option maxRecDepth 65536 in
theorem w_args : argsFit about1.vm theMethod args0 = true := by decide +kernel
set_option maxRecDepth 65536 in
theorem w_heap : heapFits about1 = true := by decide +kernel
set_option maxRecDepth 65536 in
theorem w_runnable : about1.curStatus? = some .runnable := by decide +kernel
set_option maxRecDepth 65536 in
theorem w_alone : about1.alone = true := by decide +kernel
set_option maxRecDepth 65536 in
theorem w_named : about1.methodNamed? x = some theMethod := by decide +kernel
set_option maxRecDepth 65536 in
theorem w_hears : about1.hears theMethod below0 = true := by decide +kernel
set_option maxRecDepth 65536 in
theorem w_ripe : about1.ripe theMethod args0 below0 = true := by decide +kernel
theorem w_running : about1.status = .running := rfl
set_option maxRecDepth 65536 in
theorem w_room : about1.hasRoom e0.platform room_1 = true :=
  launch0.hasRoom_least _ room_1 (by decide +kernel) (by decide +kernel) (by decide +kernel) (by decide +kernel) (by decide +kernel) (by decide +kernel)
theorem allAtoms_all (ts : List Jvm.Cond) (a : Array Jvm.Value) (st : Jvm.State) : (allAtoms ts).before a st = ts.all (fun c => c.before a st) := by
  induction ts with
  | nil => rfl
  | cons c t ih =>
    show (Jvm.Cond.and c (allAtoms t)).before a st = _
    rw [Jvm.Cond.before_and, ih, List.all_cons]
def words1 : List Jvm.Cond := Jvm.Cond.code x code maxLocals ret :: tables_1
/-- a 'code' word, met by the world's own term for the bytes: nothing is compared byte by byte -/
theorem code_word {y : MethodName} {bytes : ByteArray} {mx : Nat} {rt : Option FieldType} {a : Array Value} {s : State} {m : MethodId} {meth : Method} {c : Code} (h1 : s.methodNamed? y = some m) (h2 : s.vm.method? m = some meth) (h3 : meth.code = some c) (h4 : c.code = bytes)
    (h5 : (c.maxLocals == mx && c.exceptionTable.isEmpty && decide (c.maxStack ≤ mostOperands) && decide (meth.sig.returnType = rt) && !meth.locks && decide (parseMethodDescriptor y.desc = some meth.sig)) = true) : (Jvm.Cond.code y bytes mx rt).before a s = true := by
  simp only [Bool.and_eq_true, beq_iff_eq, Bool.not_eq_true', decide_eq_true_eq] at h5
  obtain ⟨⟨⟨⟨⟨g1, g2⟩, g3⟩, g4⟩, g5⟩, g6⟩ := h5
  simp [Cond.before, Cond.holds, Cond.value, h1, h2, h3, h4, g1, g2, g3, g4, g5, g6]
def isCode : Jvm.Cond → Bool
  | .code _ _ _ _ => true
  | _ => false
theorem all_split {L : List Jvm.Cond} {P : Jvm.Cond → Bool} (h1 : L.all (fun c => isCode c || P c) = true) (h2 : ∀ c ∈ L.filter isCode, P c = true) : L.all P = true := by
  refine List.all_eq_true.mpr fun c hc => ?_
  have h := List.all_eq_true.mp h1 c hc
  rcases Bool.eq_false_or_eq_true (isCode c) with hi | hi
  · exact h2 c (List.mem_filter.mpr ⟨hc, hi⟩)
  · simpa [hi] using h
set_option maxRecDepth 65536 in
theorem w_c0 : (Jvm.Cond.code x code maxLocals ret).before args0 about1 = true := code_word (m := ⟨1, 1⟩) (meth := k1m1) (c := k1c1) (by decide +kernel) rfl rfl rfl (by decide +kernel)
set_option maxRecDepth 65536 in
theorem w_c1 : (Jvm.Cond.code ({ cls := "com/example/framewire/framewire/protocol/FrameType", name := "of", desc := "(I)Lcom/example/framewire/framewire/protocol/FrameType;" } : Jvm.MethodName) prog_15_method_4_code (5 : Nat) (Option.some (Jvm.ClassFile.FieldType.object "com/example/framewire/framewire/protocol/FrameType"))).before args0 about1 = true := code_word (m := ⟨6, 1⟩) (meth := k6m1) (c := k6c1) (by decide +kernel) rfl rfl rfl (by decide +kernel)
set_option maxRecDepth 65536 in
theorem w_c2 : (Jvm.Cond.code ({ cls := "com/example/framewire/framewire/protocol/FrameType", name := "values", desc := "()[Lcom/example/framewire/framewire/protocol/FrameType;" } : Jvm.MethodName) prog_15_method_1_code (0 : Nat) (Option.some (Jvm.ClassFile.FieldType.array (Jvm.ClassFile.FieldType.object "com/example/framewire/framewire/protocol/FrameType")))).before args0 about1 = true := code_word (m := ⟨6, 0⟩) (meth := k6m0) (c := k6c0) (by decide +kernel) rfl rfl rfl (by decide +kernel)
set_option maxRecDepth 65536 in
theorem w_c3 : (Jvm.Cond.code ({ cls := "com/example/framewire/framewire/protocol/FrameTypeOfPinLaw", name := "expected", desc := "(I)Lcom/example/framewire/framewire/protocol/FrameType;" } : Jvm.MethodName) method_3_code (1 : Nat) (Option.some (Jvm.ClassFile.FieldType.object "com/example/framewire/framewire/protocol/FrameType"))).before args0 about1 = true := code_word (m := ⟨1, 2⟩) (meth := k1m2) (c := k1c2) (by decide +kernel) rfl rfl rfl (by decide +kernel)
def codes1 : List Jvm.Cond := [Jvm.Cond.code x code maxLocals ret, Jvm.Cond.code ({ cls := "com/example/framewire/framewire/protocol/FrameType", name := "of", desc := "(I)Lcom/example/framewire/framewire/protocol/FrameType;" } : Jvm.MethodName) prog_15_method_4_code (5 : Nat) (Option.some (Jvm.ClassFile.FieldType.object "com/example/framewire/framewire/protocol/FrameType")), Jvm.Cond.code ({ cls := "com/example/framewire/framewire/protocol/FrameType", name := "values", desc := "()[Lcom/example/framewire/framewire/protocol/FrameType;" } : Jvm.MethodName) prog_15_method_1_code (0 : Nat) (Option.some (Jvm.ClassFile.FieldType.array (Jvm.ClassFile.FieldType.object "com/example/framewire/framewire/protocol/FrameType"))), Jvm.Cond.code ({ cls := "com/example/framewire/framewire/protocol/FrameTypeOfPinLaw", name := "expected", desc := "(I)Lcom/example/framewire/framewire/protocol/FrameType;" } : Jvm.MethodName) method_3_code (1 : Nat) (Option.some (Jvm.ClassFile.FieldType.object "com/example/framewire/framewire/protocol/FrameType"))]
set_option maxRecDepth 65536 in
theorem codes_eq : words1.filter isCode = codes1 := rfl
theorem w_codes : ∀ c ∈ words1.filter isCode, c.before args0 about1 = true := by
  rw [codes_eq]
  intro c hc
  simp only [codes1, List.mem_cons, List.not_mem_nil, or_false] at hc
  rcases hc with rfl | rfl | rfl | rfl
  · exact w_c0
  · exact w_c1
  · exact w_c2
  · exact w_c3
set_option maxRecDepth 65536 in
theorem w_t1 : (words1.take 24).all (fun c => isCode c || c.before args0 about1) = true := by decide +kernel
set_option maxRecDepth 65536 in
theorem w_t2 : (words1.drop 24).all (fun c => isCode c || c.before args0 about1) = true := by decide +kernel
theorem w_tables : (allAtoms (Jvm.Cond.code x code maxLocals ret :: tables_1)).before args0 about1 = true := by
  rw [allAtoms_all]
  show words1.all (fun c => c.before args0 about1) = true
  refine all_split ?_ w_codes
  rw [← List.take_append_drop 24 words1, List.all_append, w_t1, w_t2]
  rfl
set_option maxRecDepth 65536 in
theorem w_case : (Jvm.Cond.and given_1 narrow_1).before args0 about1 = true := by decide +kernel
theorem w_applies : (headSpec (Jvm.Cond.code x code maxLocals ret :: tables_1) room_1).applies x e0.platform about1 = true :=
  (Spec.applies_iff w_frames).mpr ⟨w_running, w_runnable, w_alone, w_named, w_hears, w_ripe, w_room, w_tables⟩
theorem atStart : AtStart classFile x code maxLocals ret World_1 tables_1 room_1 Calls_1 rest_1 Pre_1 launch0 p0 e0 about1 theMethod args0 below0 :=
  ⟨lists_1, trivial, launch0.admits_env _ _ _, launch0.least_env, fairChoices_fair.cas, fairChoices_fair.clock, w_frames, w_args, w_heap, w_applies, trivial, trivial, w_case⟩
end start1
theorem witness_1 : WitnessClaimed_1 := ⟨start1.p0, start1.e0, start1.about1, start1.theMethod, start1.args0, start1.below0, start1.atStart⟩
end Jvm.Pilot.@@N@@
