import JvmDerived
import JvmDerived.Pilot.@@N@@Statement
import JvmDerived.Pilot.@@N@@Code
set_option linter.unusedVariables false
set_option linter.unusedSimpArgs false
namespace Jvm.RoadKit
open Sem ClassFile Op Lib Jvm.Stand Jvm.Free Jvm.LawKit
section New
variable {p : Program} {l : Launch} {e : Env} {R : Room} {s : State} {m : MethodId} {args : Array Value} {below : List Frame} {meth : Method} {c : Code} {T : State} {locs : List Loc} {cells slots : Nat}
theorem retI (X : Stand p l e R s m args below meth c T locs cells slots) (hx : p.tables.exec = Jvm.exec) {pc : Nat} {Ls : Array Slot} {z : Int32} {rest : List Value} (hret : meth.sig.returnType = some .int) (hd : decode c.code pc = .ok (.ireturn, 1)) {fs : List Frame}
    (hl : ∀ (f : JFrame) (acts : List Action), f.method = m → f.locked = none → f.entered = [] → (doReturn e (T.setTop f) acts (some (.int z))).1 = T.setFrames fs) : Steps p.tables e below (T.setTop (mkF m pc Ls (.int z :: rest))) (T.setFrames fs) := by
  have hm' : T.vm.method? m = some meth := X.method'
  have hn : narrow .int (.int z) = .int z := rfl
  show Steps p.tables e below (T.setTop { method := m, pc := pc, locals := Ls, stack := _ :: rest, locked := none }) _
  jvm_step X.here [X.here.top, hx, hd, hm', hret, hn]
  first | (intro acts; rw [hl _ acts rfl rfl rfl]) | rw [hl _ _ rfl rfl rfl]
  exact Steps.refl _
end New
end Jvm.RoadKit
namespace Jvm.Pilot.@@N@@
open Jvm Jvm.ClassFile Sem Op Lib Jvm.Free Jvm.Stand Jvm.LawKit Jvm.RoadKit Bundle Jvm.Pilot.@@N@@.Jvm.D

theorem own_eqI {args : Array Value} {s : State} {t : Term} {k : Int32} (h : (Jvm.Cond.eq t (Term.int k)).value args s none s [] = some true) : t.eval args s none [] s = some (.int k) := by
  obtain ⟨x, y, hx, hy, k1, k2⟩ := cmp_v (Or.inl h)
  obtain rfl : y = .int k := Option.some.inj (hy.symm.trans rfl)
  obtain ⟨z, rfl⟩ : ∃ z, x = .int z := k2
  have q : z = k := by simpa [Jvm.Cond.value, hx, hy] using h
  rw [hx, q]
theorem own_eqR {args : Array Value} {s : State} {t u : Term} {a : Addr} (h : (Jvm.Cond.eq t u).value args s none s [] = some true) (hu : u.eval args s none [] s = some (.ref a)) : t.eval args s none [] s = some (.ref a) := by
  obtain ⟨x, y, hx, hy, k1, k2⟩ := cmp_v (Or.inl h)
  obtain rfl : y = .ref a := Option.some.inj (hy.symm.trans hu)
  have q : x.isRef = true ∧ (Value.ref a).isRef = true := ⟨k2.2, k2.1⟩
  have r := gotT (eq_R hx hy q.1 q.2) h
  rw [hx, r]
theorem own_len {args : Array Value} {s : State} {t : Term} {a : Addr} {c : Cell} {ty : FieldType} {n : Int32} (ev : t.eval args s none [] s = some (.ref a)) (A : Arr s s.heap a c ty) (h : (Jvm.Cond.eq (Term.length t) (Term.int n)).value args s none s [] = some true) : c.slots.size < 2 ^ 31 ∧ c.slots.size.toInt32 = n := by
  have e := own_eqI h
  have ha : s.arrayAt? a = some c := A.fin (Vm.Alike.refl _)
  simp only [Term.eval, Option.bind_eq_bind, ev, ha, Option.bind_some] at e
  by_cases q : c.slots.size < 2147483648
  · rw [if_pos q] at e
    exact ⟨q, by simpa using e⟩
  · rw [if_neg q] at e; cases e
theorem own_size {c : Cell} {n : Int32} (h : c.slots.size < 2 ^ 31 ∧ c.slots.size.toInt32 = n) : c.slots.size = n.toNatClampNeg ∧ ¬ n < 0 := by
  have q : n.toInt = c.slots.size := by rw [← h.2]; exact Int32.toInt_ofNat_small h.1
  refine ⟨?_, fun hn => ?_⟩
  · show c.slots.size = n.toInt.toNat
    omega
  · rw [Int32.lt_iff_toInt_lt] at hn
    have : (0 : Int32).toInt = 0 := rfl
    omega
theorem own_elem {args : Array Value} {s : State} {t : Term} {a y : Addr} {c : Cell} {ty : FieldType} {k : Int32} {u : Term} (ev : t.eval args s none [] s = some (.ref a)) (A : Arr s s.heap a c ty) (hu : u.eval args s none [] s = some (.ref y)) (h : (Jvm.Cond.eq (Term.elem t (Term.int k)) u).value args s none s [] = some true) : ¬ (k < 0 ∨ c.slots.size ≤ k.toNatClampNeg) ∧ c.slots[k.toNatClampNeg]? = some (.ref y) :=
  elem_in (own_eqR h hu) ev rfl A.1
theorem own_hide {p : Program} {l : Launch} {e : Env} {R : Room} {s : State} {m : MethodId} {args : Array Value} {below : List Frame} {meth : Method} {c : Code} {T : State} {locs : List Loc} {cells slots k : Nat} (X : Stand p l e R s m args below meth c T locs cells slots) (N : Fr k locs) : ∃ Lg, Stand p l e R s m args below meth c T Lg cells slots ∧ Fr k Lg := ⟨_, X, N⟩
def own_ret (V : Value) (n0 : Nat) (h0 : Heap) (v : Option Value) (h : Heap) (L : List Loc) : Prop := v = some V ∧ Fr n0 L ∧ h = h0
abbrev own_M (l : Launch) (y : MethodName) (bytes : ByteArray) (maxL : Nat) (ret : Option FieldType) (rm : Room) (Z : State) (as' : Array Value) (h0 : Heap) (Q : Option Value → Heap → List Loc → Prop) : Prop :=
  MetFree l y (head1 [Jvm.Cond.code y bytes maxL ret] rm) (fun a U => a = as' ∧ Z.Warmed39 U.vm ∧ U.heap = h0) (fun _ _ _ _ _ => True) (fun _ U o U' => ∃ v L, o = .returned v ∧ Q v U'.heap L ∧ FrameEnd U o U' L rm.cells rm.slots)
def own_one (n0 : Nat) (v : Option Value) (h : Heap) (L : List Loc) : Prop := v = some (.int (1 : Int32)) ∧ Fr n0 L
def own_kret (V : Value) (n0 : Nat) (h0 : Heap) (v : Option Value) (h : Heap) (L : List Loc) : Prop := v = some V ∧ Fr n0 L ∧ Keep h0 h []
theorem own_ext {h0 h : Heap} (K : Keep h0 h []) : Ext h0 h := ⟨K.1, fun a c q => K.2.1 a c q nin0⟩
theorem own_nar0 : nar .boolean (0 : Int32) = (0 : Int32) := by decide
theorem own_nar1 : nar .boolean (1 : Int32) = (1 : Int32) := by decide
theorem d1_0 : decode prog_48_method_6_code 0 = .ok (.aload_n 0, 1) := by decide +kernel
theorem d1_1 : decode prog_48_method_6_code 1 = .ok (.getfield 112, 3) := by decide +kernel
theorem d1_4 : decode prog_48_method_6_code 4 = .ok (.ifnull 7, 3) := by decide +kernel
theorem d1_7 : decode prog_48_method_6_code 7 = .ok (.iconst 1, 1) := by decide +kernel
theorem d1_8 : decode prog_48_method_6_code 8 = .ok (.goto 4, 3) := by decide +kernel
theorem d1_12 : decode prog_48_method_6_code 12 = .ok (.ireturn, 1) := by decide +kernel
theorem pn_1 : plainName "com/example/yangsmith/yangsmith/schema/BuiltInType" = true := by first | (simp [plainName, overriddenIn]; done) | decide +kernel
theorem ef_1 (m : MethodId) (x0 : Addr) : entryFrame m #[(.ref x0)] 1 = mkF m 0 #[.val (.ref x0)] [] := by first | (simp [entryFrame, mkF, argsToLocals, Value.category]; done) | rfl
set_option maxRecDepth 65536 in
set_option maxHeartbeats 40000000 in
theorem own_yes (l : Launch) (Z : State) (a0 : Array Value) (hw : ∀ d ∈ tables_1, d.before a0 Z = true) (ws : List Jvm.Cond) (a1 : Addr) (w2 : Addr) (h0 : Heap) (n0 : Nat) (Z0 : n0 ≤ h0.size) (F_lowest_a1 : Fld Z h0 a1 "com/example/yangsmith/yangsmith/schema/BuiltInType" "lowest" "Ljava/math/BigInteger;" (.ref w2)) :
    MetFree l (⟨"com/example/yangsmith/yangsmith/schema/BuiltInType", "isInteger", "()Z"⟩ : MethodName) (head1 (Jvm.Cond.code (⟨"com/example/yangsmith/yangsmith/schema/BuiltInType", "isInteger", "()Z"⟩ : MethodName) prog_48_method_6_code 1 (some .boolean) :: ws) ({ frames := 0, cells := 0, slots := 0, locals := 0 } : Room)) (fun a U => a = #[(.ref a1)] ∧ Z.Warmed39 U.vm ∧ U.heap = h0) (fun _ _ _ _ _ => True) (fun _ U o U' => ∃ v L, o = .returned v ∧ (own_ret (.int (1 : Int32)) n0 h0) v U'.heap L ∧ FrameEnd U o U' L ({ frames := 0, cells := 0, slots := 0, locals := 0 } : Room).cells ({ frames := 0, cells := 0, slots := 0, locals := 0 } : Room).slots) := by
  refine MetFree.of_bodySF (plainFor_of_name pn_1) hisR ?_
  intro p e s m args below meth c s₁ Bd hml0 hP hK
  obtain ⟨rfl, hZ, hh⟩ := hP
  have hx := Bd.exec
  have hby := Bd.bytes
  have hml : c.maxLocals = 1 := hml0
  have hown : s.vm.findClass "com/example/yangsmith/yangsmith/schema/BuiltInType" = some m.cls := findClass_of_methodNamed Bd.named
  have hnm := (name_of_methodNamed Bd.named Bd.method).1
  have X0 : Stand p l e ({ frames := 0, cells := 0, slots := 0, locals := 0 } : Room) s m #[(.ref a1)] below meth c s₁ [] 0 0 := Stand.of_body Bd
  have e0 : s₁.heap = h0 := by rw [← hh, Bd.state]; rfl
  have N0 := Fr.nil n0
  have pre0 : ∀ t, Steps p.tables e below (s₁.setTop (mkF m 0 #[.val (.ref a1)] [])) t → Steps p.tables e below (s₁.setTop (entryFrame m #[(.ref a1)] 1)) t := fun t k => castTop (ef_1 m a1) k
  obtain ⟨T3, X3, e3, st3⟩ := getF X0 hx hZ hown (host := "") (Or.inl (hw _ (List.mem_of_getElem? (i := 49) rfl))) Via.refl e0 F_lowest_a1 (g := (mkF m 1 #[.val (.ref a1)] [(.ref a1)])) rfl rfl (hb hby d1_1)
  obtain ⟨fs, hr, hrun, hended, hW, hsame⟩ := X3.leave (v := some (.int (1 : Int32))) (fun h => by rw [Bd.returns] at h; cases h)
  refine ⟨_, _, pre0 _ ?_, hrun, hended, _, _, rfl, ?_, ⟨_, rfl⟩, hW, hsame.mono (by decide) (by decide)⟩
  · show Steps p.tables e below (s₁.setTop (mkF m 0 #[.val (.ref a1)] [])) _
    refine XS.aloadN X0.here hx rfl (hb hby d1_0) rfl rfl ?_
    show Steps p.tables e below (s₁.setTop (mkF m 1 #[.val (.ref a1)] [(.ref a1)])) _
    refine st3 _ ?_
    show Steps p.tables e below (T3.setTop (mkF m 4 #[.val (.ref a1)] [(.ref w2)])) _
    refine XS.ifnullNo X3.here hx rfl (hb hby d1_4) rfl ?_
    show Steps p.tables e below (T3.setTop (mkF m 7 #[.val (.ref a1)] [])) _
    refine XS.iconst X3.here hx rfl (hb hby d1_7) ?_
    show Steps p.tables e below (T3.setTop (mkF m 8 #[.val (.ref a1)] [(.int (1 : Int32))])) _
    refine XS.goto X3.here hx rfl (pc0 := 8) (pc' := 12) rfl (hb hby d1_8) (by decide) (by decide) ?_
    show Steps p.tables e below (T3.setTop (mkF m 12 #[.val (.ref a1)] [(.int (1 : Int32))])) _
    exact retN X3 hx (t := .boolean) Bd.returns (by simp) (hb hby d1_12) hr
  · show (own_ret (.int (1 : Int32)) n0 h0) _ T3.heap _
    rw [e3]
    exact ⟨rfl, N0, rfl⟩
theorem d1_11 : decode prog_48_method_6_code 11 = .ok (.iconst 0, 1) := by decide +kernel
set_option maxRecDepth 65536 in
set_option maxHeartbeats 40000000 in
theorem own_no (l : Launch) (Z : State) (a0 : Array Value) (hw : ∀ d ∈ tables_1, d.before a0 Z = true) (ws : List Jvm.Cond) (a1 : Addr) (h0 : Heap) (n0 : Nat) (Z0 : n0 ≤ h0.size) (F_l : Fld Z h0 a1 "com/example/yangsmith/yangsmith/schema/BuiltInType" "lowest" "Ljava/math/BigInteger;" .null) :
    MetFree l (⟨"com/example/yangsmith/yangsmith/schema/BuiltInType", "isInteger", "()Z"⟩ : MethodName) (head1 (Jvm.Cond.code (⟨"com/example/yangsmith/yangsmith/schema/BuiltInType", "isInteger", "()Z"⟩ : MethodName) prog_48_method_6_code 1 (some .boolean) :: ws) ({ frames := 0, cells := 0, slots := 0, locals := 0 } : Room)) (fun a U => a = #[(.ref a1)] ∧ Z.Warmed39 U.vm ∧ U.heap = h0) (fun _ _ _ _ _ => True) (fun _ U o U' => ∃ v L, o = .returned v ∧ (own_ret (.int (0 : Int32)) n0 h0) v U'.heap L ∧ FrameEnd U o U' L ({ frames := 0, cells := 0, slots := 0, locals := 0 } : Room).cells ({ frames := 0, cells := 0, slots := 0, locals := 0 } : Room).slots) := by
  refine MetFree.of_bodySF (plainFor_of_name pn_1) hisR ?_
  intro p e s m args below meth c s₁ Bd hml0 hP hK
  obtain ⟨rfl, hZ, hh⟩ := hP
  have hx := Bd.exec
  have hby := Bd.bytes
  have hml : c.maxLocals = 1 := hml0
  have hown : s.vm.findClass "com/example/yangsmith/yangsmith/schema/BuiltInType" = some m.cls := findClass_of_methodNamed Bd.named
  have hnm := (name_of_methodNamed Bd.named Bd.method).1
  have X0 : Stand p l e ({ frames := 0, cells := 0, slots := 0, locals := 0 } : Room) s m #[(.ref a1)] below meth c s₁ [] 0 0 := Stand.of_body Bd
  have e0 : s₁.heap = h0 := by rw [← hh, Bd.state]; rfl
  have N0 := Fr.nil n0
  have pre0 : ∀ t, Steps p.tables e below (s₁.setTop (mkF m 0 #[.val (.ref a1)] [])) t → Steps p.tables e below (s₁.setTop (entryFrame m #[(.ref a1)] 1)) t := fun t k => castTop (ef_1 m a1) k
  obtain ⟨T1, X1, e1, st1⟩ := getF X0 hx hZ hown (host := "") (Or.inl (hw _ (List.mem_of_getElem? (i := 49) rfl))) Via.refl e0 F_l (g := (mkF m 1 #[.val (.ref a1)] [(.ref a1)])) rfl rfl (hb hby d1_1)
  obtain ⟨fs, hr, hrun, hended, hW, hsame⟩ := X1.leave (v := some (.int (0 : Int32))) (fun h => by rw [Bd.returns] at h; cases h)
  refine ⟨_, _, pre0 _ ?_, hrun, hended, _, _, rfl, ?_, ⟨_, rfl⟩, hW, hsame.mono (by decide) (by decide)⟩
  · show Steps p.tables e below (s₁.setTop (mkF m 0 #[.val (.ref a1)] [])) _
    refine XS.aloadN X0.here hx rfl (hb hby d1_0) rfl rfl ?_
    show Steps p.tables e below (s₁.setTop (mkF m 1 #[.val (.ref a1)] [(.ref a1)])) _
    refine st1 _ ?_
    show Steps p.tables e below (T1.setTop (mkF m 4 #[.val (.ref a1)] [.null])) _
    refine XS.ifnullYes X1.here hx rfl (pc0 := 4) (pc' := 11) rfl (hb hby d1_4) rfl (by decide) (by decide) ?_
    show Steps p.tables e below (T1.setTop (mkF m 11 #[.val (.ref a1)] [])) _
    refine XS.iconst X1.here hx rfl (hb hby d1_11) ?_
    show Steps p.tables e below (T1.setTop (mkF m 12 #[.val (.ref a1)] [(.int (0 : Int32))])) _
    exact retN X1 hx (t := .boolean) Bd.returns (by simp) (hb hby d1_12) hr
  · show (own_ret (.int (0 : Int32)) n0 h0) _ T1.heap _
    rw [e1]
    exact ⟨rfl, N0, rfl⟩
theorem pd_z : parseMethodDescriptor "()Z" = some ⟨[], some .boolean⟩ := by decide +kernel
theorem pn_0 : plainName "com/example/yangsmith/yangsmith/schema/BuiltInTypeIsIntegerPinLaw" = true := by first | (simp [plainName, overriddenIn]; done) | decide +kernel
theorem ef_0 (m : MethodId) (x0 : Int32) : entryFrame m #[(.int x0)] maxLocals = mkF m 0 #[.val (.int x0), .unset, .unset, .unset] [] := by first | (simp [entryFrame, mkF, argsToLocals, Value.category, maxLocals]; done) | rfl
set_option maxRecDepth 65536 in
set_option maxHeartbeats 40000000 in
theorem own_law (l : Launch) (Z : State) (a0 : Array Value) (hw : ∀ d ∈ tables_1, d.before a0 Z = true) (ws : List Jvm.Cond) (p1 : Int32) (h0 : Heap) (n0 : Nat) (Z0 : n0 ≤ h0.size) (w_BINARY : Addr) (S_BINARY : Sta Z h0 "com/example/yangsmith/yangsmith/schema/BuiltInType" "BINARY" "Lcom/example/yangsmith/yangsmith/schema/BuiltInType;" (.ref w_BINARY)) (E_BINARY : Exa Z h0 w_BINARY "com/example/yangsmith/yangsmith/schema/BuiltInType") (w_BITS : Addr) (S_BITS : Sta Z h0 "com/example/yangsmith/yangsmith/schema/BuiltInType" "BITS" "Lcom/example/yangsmith/yangsmith/schema/BuiltInType;" (.ref w_BITS)) (E_BITS : Exa Z h0 w_BITS "com/example/yangsmith/yangsmith/schema/BuiltInType") (w_BOOLEAN : Addr) (S_BOOLEAN : Sta Z h0 "com/example/yangsmith/yangsmith/schema/BuiltInType" "BOOLEAN" "Lcom/example/yangsmith/yangsmith/schema/BuiltInType;" (.ref w_BOOLEAN)) (E_BOOLEAN : Exa Z h0 w_BOOLEAN "com/example/yangsmith/yangsmith/schema/BuiltInType") (w_DECIMAL64 : Addr) (S_DECIMAL64 : Sta Z h0 "com/example/yangsmith/yangsmith/schema/BuiltInType" "DECIMAL64" "Lcom/example/yangsmith/yangsmith/schema/BuiltInType;" (.ref w_DECIMAL64)) (E_DECIMAL64 : Exa Z h0 w_DECIMAL64 "com/example/yangsmith/yangsmith/schema/BuiltInType") (w_EMPTY : Addr) (S_EMPTY : Sta Z h0 "com/example/yangsmith/yangsmith/schema/BuiltInType" "EMPTY" "Lcom/example/yangsmith/yangsmith/schema/BuiltInType;" (.ref w_EMPTY)) (E_EMPTY : Exa Z h0 w_EMPTY "com/example/yangsmith/yangsmith/schema/BuiltInType") (w_ENUMERATION : Addr) (S_ENUMERATION : Sta Z h0 "com/example/yangsmith/yangsmith/schema/BuiltInType" "ENUMERATION" "Lcom/example/yangsmith/yangsmith/schema/BuiltInType;" (.ref w_ENUMERATION)) (E_ENUMERATION : Exa Z h0 w_ENUMERATION "com/example/yangsmith/yangsmith/schema/BuiltInType") (w_IDENTITYREF : Addr) (S_IDENTITYREF : Sta Z h0 "com/example/yangsmith/yangsmith/schema/BuiltInType" "IDENTITYREF" "Lcom/example/yangsmith/yangsmith/schema/BuiltInType;" (.ref w_IDENTITYREF)) (E_IDENTITYREF : Exa Z h0 w_IDENTITYREF "com/example/yangsmith/yangsmith/schema/BuiltInType") (w_INSTANCE_IDENTIFIER : Addr) (S_INSTANCE_IDENTIFIER : Sta Z h0 "com/example/yangsmith/yangsmith/schema/BuiltInType" "INSTANCE_IDENTIFIER" "Lcom/example/yangsmith/yangsmith/schema/BuiltInType;" (.ref w_INSTANCE_IDENTIFIER)) (E_INSTANCE_IDENTIFIER : Exa Z h0 w_INSTANCE_IDENTIFIER "com/example/yangsmith/yangsmith/schema/BuiltInType") (w_INT8 : Addr) (S_INT8 : Sta Z h0 "com/example/yangsmith/yangsmith/schema/BuiltInType" "INT8" "Lcom/example/yangsmith/yangsmith/schema/BuiltInType;" (.ref w_INT8)) (E_INT8 : Exa Z h0 w_INT8 "com/example/yangsmith/yangsmith/schema/BuiltInType") (w_INT16 : Addr) (S_INT16 : Sta Z h0 "com/example/yangsmith/yangsmith/schema/BuiltInType" "INT16" "Lcom/example/yangsmith/yangsmith/schema/BuiltInType;" (.ref w_INT16)) (E_INT16 : Exa Z h0 w_INT16 "com/example/yangsmith/yangsmith/schema/BuiltInType") (w_INT32 : Addr) (S_INT32 : Sta Z h0 "com/example/yangsmith/yangsmith/schema/BuiltInType" "INT32" "Lcom/example/yangsmith/yangsmith/schema/BuiltInType;" (.ref w_INT32)) (E_INT32 : Exa Z h0 w_INT32 "com/example/yangsmith/yangsmith/schema/BuiltInType") (w_INT64 : Addr) (S_INT64 : Sta Z h0 "com/example/yangsmith/yangsmith/schema/BuiltInType" "INT64" "Lcom/example/yangsmith/yangsmith/schema/BuiltInType;" (.ref w_INT64)) (E_INT64 : Exa Z h0 w_INT64 "com/example/yangsmith/yangsmith/schema/BuiltInType") (w_LEAFREF : Addr) (S_LEAFREF : Sta Z h0 "com/example/yangsmith/yangsmith/schema/BuiltInType" "LEAFREF" "Lcom/example/yangsmith/yangsmith/schema/BuiltInType;" (.ref w_LEAFREF)) (E_LEAFREF : Exa Z h0 w_LEAFREF "com/example/yangsmith/yangsmith/schema/BuiltInType") (w_STRING : Addr) (S_STRING : Sta Z h0 "com/example/yangsmith/yangsmith/schema/BuiltInType" "STRING" "Lcom/example/yangsmith/yangsmith/schema/BuiltInType;" (.ref w_STRING)) (E_STRING : Exa Z h0 w_STRING "com/example/yangsmith/yangsmith/schema/BuiltInType") (w_UINT8 : Addr) (S_UINT8 : Sta Z h0 "com/example/yangsmith/yangsmith/schema/BuiltInType" "UINT8" "Lcom/example/yangsmith/yangsmith/schema/BuiltInType;" (.ref w_UINT8)) (E_UINT8 : Exa Z h0 w_UINT8 "com/example/yangsmith/yangsmith/schema/BuiltInType") (w_UINT16 : Addr) (S_UINT16 : Sta Z h0 "com/example/yangsmith/yangsmith/schema/BuiltInType" "UINT16" "Lcom/example/yangsmith/yangsmith/schema/BuiltInType;" (.ref w_UINT16)) (E_UINT16 : Exa Z h0 w_UINT16 "com/example/yangsmith/yangsmith/schema/BuiltInType") (w_UINT32 : Addr) (S_UINT32 : Sta Z h0 "com/example/yangsmith/yangsmith/schema/BuiltInType" "UINT32" "Lcom/example/yangsmith/yangsmith/schema/BuiltInType;" (.ref w_UINT32)) (E_UINT32 : Exa Z h0 w_UINT32 "com/example/yangsmith/yangsmith/schema/BuiltInType") (w_UINT64 : Addr) (S_UINT64 : Sta Z h0 "com/example/yangsmith/yangsmith/schema/BuiltInType" "UINT64" "Lcom/example/yangsmith/yangsmith/schema/BuiltInType;" (.ref w_UINT64)) (E_UINT64 : Exa Z h0 w_UINT64 "com/example/yangsmith/yangsmith/schema/BuiltInType") (w_UNION : Addr) (S_UNION : Sta Z h0 "com/example/yangsmith/yangsmith/schema/BuiltInType" "UNION" "Lcom/example/yangsmith/yangsmith/schema/BuiltInType;" (.ref w_UNION)) (E_UNION : Exa Z h0 w_UNION "com/example/yangsmith/yangsmith/schema/BuiltInType") (j : Int32) (hj : (p1 &&& (2147483647 : Int32)) % (19 : Int32) = j) (hlo : ¬ j < 0) (hhi : j < (19 : Int32)) (wj : Addr) (hu : ([(.ref w_BINARY), (.ref w_BITS), (.ref w_BOOLEAN), (.ref w_DECIMAL64), (.ref w_EMPTY), (.ref w_ENUMERATION), (.ref w_IDENTITYREF), (.ref w_INSTANCE_IDENTIFIER), (.ref w_INT8), (.ref w_INT16), (.ref w_INT32), (.ref w_INT64), (.ref w_LEAFREF), (.ref w_STRING), (.ref w_UINT8), (.ref w_UINT16), (.ref w_UINT32), (.ref w_UINT64), (.ref w_UNION)] : List Value).getD j.toNatClampNeg .null = (.ref wj)) (Ej : Exa Z h0 wj "com/example/yangsmith/yangsmith/schema/BuiltInType") (bj : Int32) (hv : ([(.int (0 : Int32)), (.int (0 : Int32)), (.int (0 : Int32)), (.int (0 : Int32)), (.int (0 : Int32)), (.int (0 : Int32)), (.int (0 : Int32)), (.int (0 : Int32)), (.int (1 : Int32)), (.int (1 : Int32)), (.int (1 : Int32)), (.int (1 : Int32)), (.int (0 : Int32)), (.int (0 : Int32)), (.int (1 : Int32)), (.int (1 : Int32)), (.int (1 : Int32)), (.int (1 : Int32)), (.int (0 : Int32))] : List Value).getD j.toNatClampNeg (.int (0 : Int32)) = (.int bj)) (H1 : ∀ hh : Heap, Keep h0 hh [] → own_M l (⟨"com/example/yangsmith/yangsmith/schema/BuiltInType", "isInteger", "()Z"⟩ : MethodName) prog_48_method_6_code 1 (some .boolean) ({ frames := 0, cells := 0, slots := 0, locals := 0 } : Room) Z #[(.ref wj)] hh (own_ret (.int bj) n0 hh)) :
    MetFree l x (head1 (Jvm.Cond.code x code maxLocals ret :: ws) room_1) (fun a U => a = #[(.int p1)] ∧ Z.Warmed39 U.vm ∧ U.heap = h0) (fun _ _ _ _ _ => True) (fun _ U o U' => ∃ v L, o = .returned v ∧ (own_one n0) v U'.heap L ∧ FrameEnd U o U' L room_1.cells room_1.slots) := by
  refine MetFree.of_bodySF (plainFor_of_name pn_0) hisR ?_
  intro p e s m args below meth c s₁ Bd hml0 hP hK
  obtain ⟨rfl, hZ, hh⟩ := hP
  have hx := Bd.exec
  have hby := Bd.bytes
  have hml : c.maxLocals = 4 := hml0
  have hown : s.vm.findClass "com/example/yangsmith/yangsmith/schema/BuiltInTypeIsIntegerPinLaw" = some m.cls := findClass_of_methodNamed Bd.named
  have hnm := (name_of_methodNamed Bd.named Bd.method).1
  have X0 : Stand p l e room_1 s m #[(.int p1)] below meth c s₁ [] 0 0 := Stand.of_body Bd
  have e0 : s₁.heap = h0 := by rw [← hh, Bd.state]; rfl
  have N0 := Fr.nil n0
  have pre0 : ∀ t, Steps p.tables e below (s₁.setTop (mkF m 0 #[.val (.int p1), .unset, .unset, .unset] [])) t → Steps p.tables e below (s₁.setTop (entryFrame m #[(.int p1)] maxLocals)) t := fun t k => castTop (ef_0 m p1) k
  obtain ⟨T2, h2, k2, X2, e2, E2, A2, O2, st2⟩ := newR X0 hx hZ hown (hw _ (List.mem_of_getElem? (i := 0) rfl)) (hw _ (List.mem_of_getElem? (i := 1) rfl)) e0 (g := (mkF m 2 #[.val (.int p1), .unset, .unset, .unset] [(.int (19 : Int32))])) rfl (hb hby at_2) rfl (by decide) (cap := 19) (by decide) (by decide) (by decide) (by decide)
  obtain ⟨b2, g2⟩ : ∃ z, z = h0.size := ⟨_, rfl⟩
  rw [← g2] at A2 st2
  have g_b2 : n0 ≤ b2 := Nat.le_trans Z0 (Nat.le_trans (Keep.refl h0 []).1 (Nat.le_of_eq g2.symm))
  have sz_b2 : h0.size ≤ b2 := Nat.le_trans (Keep.refl h0 []).1 (Nat.le_of_eq g2.symm)
  have K2 : Keep h0 h2 [] := (Keep.refl h0 []).ext E2
  have Vb2 : Arv Z h2 b2 k2 (.object "com/example/yangsmith/yangsmith/schema/BuiltInType") (19 : Int32) [.null, .null, .null, .null, .null, .null, .null, .null, .null, .null, .null, .null, .null, .null, .null, .null, .null, .null, .null] .null := (Arv.new A2 (by decide)).pad (pad_rep [] .null 19)
  obtain ⟨T3, X3, e3, st3⟩ := getS2 X2 hx hZ hown (host := "") (Or.inl (hw _ (List.mem_of_getElem? (i := 2) rfl))) Via.refl e2 (S_BINARY.ext (own_ext K2)) (g := (mkF m 7 #[.val (.int p1), .unset, .unset, .unset] [(.int (0 : Int32)), (.ref b2), (.ref b2)])) rfl (hb hby at_7)
  obtain ⟨cl4, Ar4, q4, S4, M4, H4, G4⟩ := Vb2
  have hin4 : ¬ ((0 : Int32) < 0 ∨ cl4.slots.size ≤ ((0 : Int32)).toNatClampNeg) := inb_of S4 ⟨by decide, by decide⟩
  obtain ⟨T4, h4, X4, e4, W4, st4⟩ := stR X3 hx hZ e3 Ar4 (j := (0 : Int32)) hin4 rfl (Sto.ofV Ar4 q4 O2 (Ins.self (E_BINARY.ext (own_ext K2)))) (g := (mkF m 10 #[.val (.int p1), .unset, .unset, .unset] [(.ref w_BINARY), (.int (0 : Int32)), (.ref b2), (.ref b2)])) rfl rfl (hb hby at_10)
  obtain ⟨Lg4, X4, N4⟩ := own_hide X4 (Fr.snoc X4 N0 g_b2)
  have Vb2_4 : Arv Z h4 b2 k2 (.object "com/example/yangsmith/yangsmith/schema/BuiltInType") (19 : Int32) [(.ref w_BINARY), .null, .null, .null, .null, .null, .null, .null, .null, .null, .null, .null, .null, .null, .null, .null, .null, .null, .null] .null := Arv.set Ar4 q4 S4 M4 H4 G4 rfl W4 0 rfl (Nat.le_of_ble_eq_true rfl)
  have K4 : Keep h0 h4 [] := K2.wr W4 (Or.inr sz_b2)
  obtain ⟨T5, X5, e5, st5⟩ := getS2 X4 hx hZ hown (host := "") (Or.inl (hw _ (List.mem_of_getElem? (i := 6) rfl))) Via.refl e4 (S_BITS.ext (own_ext K4)) (g := (mkF m 13 #[.val (.int p1), .unset, .unset, .unset] [(.int (1 : Int32)), (.ref b2), (.ref b2)])) rfl (hb hby at_13)
  obtain ⟨cl6, Ar6, q6, S6, M6, H6, G6⟩ := Vb2_4
  have hin6 : ¬ ((1 : Int32) < 0 ∨ cl6.slots.size ≤ ((1 : Int32)).toNatClampNeg) := inb_of S6 ⟨by decide, by decide⟩
  obtain ⟨T6, h6, X6, e6, W6, st6⟩ := stR X5 hx hZ e5 Ar6 (j := (1 : Int32)) hin6 rfl (Sto.ofV Ar6 q6 O2 (Ins.self (E_BITS.ext (own_ext K4)))) (g := (mkF m 16 #[.val (.int p1), .unset, .unset, .unset] [(.ref w_BITS), (.int (1 : Int32)), (.ref b2), (.ref b2)])) rfl rfl (hb hby at_16)
  obtain ⟨Lg6, X6, N6⟩ := own_hide X6 (Fr.snoc X6 N4 g_b2)
  have Vb2_6 : Arv Z h6 b2 k2 (.object "com/example/yangsmith/yangsmith/schema/BuiltInType") (19 : Int32) [(.ref w_BINARY), (.ref w_BITS), .null, .null, .null, .null, .null, .null, .null, .null, .null, .null, .null, .null, .null, .null, .null, .null, .null] .null := Arv.set Ar6 q6 S6 M6 H6 G6 rfl W6 1 rfl (Nat.le_of_ble_eq_true rfl)
  have K6 : Keep h0 h6 [] := K4.wr W6 (Or.inr sz_b2)
  obtain ⟨T7, X7, e7, st7⟩ := getS2 X6 hx hZ hown (host := "") (Or.inl (hw _ (List.mem_of_getElem? (i := 8) rfl))) Via.refl e6 (S_BOOLEAN.ext (own_ext K6)) (g := (mkF m 19 #[.val (.int p1), .unset, .unset, .unset] [(.int (2 : Int32)), (.ref b2), (.ref b2)])) rfl (hb hby at_19)
  obtain ⟨cl8, Ar8, q8, S8, M8, H8, G8⟩ := Vb2_6
  have hin8 : ¬ ((2 : Int32) < 0 ∨ cl8.slots.size ≤ ((2 : Int32)).toNatClampNeg) := inb_of S8 ⟨by decide, by decide⟩
  obtain ⟨T8, h8, X8, e8, W8, st8⟩ := stR X7 hx hZ e7 Ar8 (j := (2 : Int32)) hin8 rfl (Sto.ofV Ar8 q8 O2 (Ins.self (E_BOOLEAN.ext (own_ext K6)))) (g := (mkF m 22 #[.val (.int p1), .unset, .unset, .unset] [(.ref w_BOOLEAN), (.int (2 : Int32)), (.ref b2), (.ref b2)])) rfl rfl (hb hby at_22)
  obtain ⟨Lg8, X8, N8⟩ := own_hide X8 (Fr.snoc X8 N6 g_b2)
  have Vb2_8 : Arv Z h8 b2 k2 (.object "com/example/yangsmith/yangsmith/schema/BuiltInType") (19 : Int32) [(.ref w_BINARY), (.ref w_BITS), (.ref w_BOOLEAN), .null, .null, .null, .null, .null, .null, .null, .null, .null, .null, .null, .null, .null, .null, .null, .null] .null := Arv.set Ar8 q8 S8 M8 H8 G8 rfl W8 2 rfl (Nat.le_of_ble_eq_true rfl)
  have K8 : Keep h0 h8 [] := K6.wr W8 (Or.inr sz_b2)
  obtain ⟨T9, X9, e9, st9⟩ := getS2 X8 hx hZ hown (host := "") (Or.inl (hw _ (List.mem_of_getElem? (i := 10) rfl))) Via.refl e8 (S_DECIMAL64.ext (own_ext K8)) (g := (mkF m 25 #[.val (.int p1), .unset, .unset, .unset] [(.int (3 : Int32)), (.ref b2), (.ref b2)])) rfl (hb hby at_25)
  obtain ⟨cl10, Ar10, q10, S10, M10, H10, G10⟩ := Vb2_8
  have hin10 : ¬ ((3 : Int32) < 0 ∨ cl10.slots.size ≤ ((3 : Int32)).toNatClampNeg) := inb_of S10 ⟨by decide, by decide⟩
  obtain ⟨T10, h10, X10, e10, W10, st10⟩ := stR X9 hx hZ e9 Ar10 (j := (3 : Int32)) hin10 rfl (Sto.ofV Ar10 q10 O2 (Ins.self (E_DECIMAL64.ext (own_ext K8)))) (g := (mkF m 28 #[.val (.int p1), .unset, .unset, .unset] [(.ref w_DECIMAL64), (.int (3 : Int32)), (.ref b2), (.ref b2)])) rfl rfl (hb hby at_28)
  obtain ⟨Lg10, X10, N10⟩ := own_hide X10 (Fr.snoc X10 N8 g_b2)
  have Vb2_10 : Arv Z h10 b2 k2 (.object "com/example/yangsmith/yangsmith/schema/BuiltInType") (19 : Int32) [(.ref w_BINARY), (.ref w_BITS), (.ref w_BOOLEAN), (.ref w_DECIMAL64), .null, .null, .null, .null, .null, .null, .null, .null, .null, .null, .null, .null, .null, .null, .null] .null := Arv.set Ar10 q10 S10 M10 H10 G10 rfl W10 3 rfl (Nat.le_of_ble_eq_true rfl)
  have K10 : Keep h0 h10 [] := K8.wr W10 (Or.inr sz_b2)
  obtain ⟨T11, X11, e11, st11⟩ := getS2 X10 hx hZ hown (host := "") (Or.inl (hw _ (List.mem_of_getElem? (i := 12) rfl))) Via.refl e10 (S_EMPTY.ext (own_ext K10)) (g := (mkF m 31 #[.val (.int p1), .unset, .unset, .unset] [(.int (4 : Int32)), (.ref b2), (.ref b2)])) rfl (hb hby at_31)
  obtain ⟨cl12, Ar12, q12, S12, M12, H12, G12⟩ := Vb2_10
  have hin12 : ¬ ((4 : Int32) < 0 ∨ cl12.slots.size ≤ ((4 : Int32)).toNatClampNeg) := inb_of S12 ⟨by decide, by decide⟩
  obtain ⟨T12, h12, X12, e12, W12, st12⟩ := stR X11 hx hZ e11 Ar12 (j := (4 : Int32)) hin12 rfl (Sto.ofV Ar12 q12 O2 (Ins.self (E_EMPTY.ext (own_ext K10)))) (g := (mkF m 34 #[.val (.int p1), .unset, .unset, .unset] [(.ref w_EMPTY), (.int (4 : Int32)), (.ref b2), (.ref b2)])) rfl rfl (hb hby at_34)
  obtain ⟨Lg12, X12, N12⟩ := own_hide X12 (Fr.snoc X12 N10 g_b2)
  have Vb2_12 : Arv Z h12 b2 k2 (.object "com/example/yangsmith/yangsmith/schema/BuiltInType") (19 : Int32) [(.ref w_BINARY), (.ref w_BITS), (.ref w_BOOLEAN), (.ref w_DECIMAL64), (.ref w_EMPTY), .null, .null, .null, .null, .null, .null, .null, .null, .null, .null, .null, .null, .null, .null] .null := Arv.set Ar12 q12 S12 M12 H12 G12 rfl W12 4 rfl (Nat.le_of_ble_eq_true rfl)
  have K12 : Keep h0 h12 [] := K10.wr W12 (Or.inr sz_b2)
  obtain ⟨T13, X13, e13, st13⟩ := getS2 X12 hx hZ hown (host := "") (Or.inl (hw _ (List.mem_of_getElem? (i := 14) rfl))) Via.refl e12 (S_ENUMERATION.ext (own_ext K12)) (g := (mkF m 37 #[.val (.int p1), .unset, .unset, .unset] [(.int (5 : Int32)), (.ref b2), (.ref b2)])) rfl (hb hby at_37)
  obtain ⟨cl14, Ar14, q14, S14, M14, H14, G14⟩ := Vb2_12
  have hin14 : ¬ ((5 : Int32) < 0 ∨ cl14.slots.size ≤ ((5 : Int32)).toNatClampNeg) := inb_of S14 ⟨by decide, by decide⟩
  obtain ⟨T14, h14, X14, e14, W14, st14⟩ := stR X13 hx hZ e13 Ar14 (j := (5 : Int32)) hin14 rfl (Sto.ofV Ar14 q14 O2 (Ins.self (E_ENUMERATION.ext (own_ext K12)))) (g := (mkF m 40 #[.val (.int p1), .unset, .unset, .unset] [(.ref w_ENUMERATION), (.int (5 : Int32)), (.ref b2), (.ref b2)])) rfl rfl (hb hby at_40)
  obtain ⟨Lg14, X14, N14⟩ := own_hide X14 (Fr.snoc X14 N12 g_b2)
  have Vb2_14 : Arv Z h14 b2 k2 (.object "com/example/yangsmith/yangsmith/schema/BuiltInType") (19 : Int32) [(.ref w_BINARY), (.ref w_BITS), (.ref w_BOOLEAN), (.ref w_DECIMAL64), (.ref w_EMPTY), (.ref w_ENUMERATION), .null, .null, .null, .null, .null, .null, .null, .null, .null, .null, .null, .null, .null] .null := Arv.set Ar14 q14 S14 M14 H14 G14 rfl W14 5 rfl (Nat.le_of_ble_eq_true rfl)
  have K14 : Keep h0 h14 [] := K12.wr W14 (Or.inr sz_b2)
  obtain ⟨T15, X15, e15, st15⟩ := getS2 X14 hx hZ hown (host := "") (Or.inl (hw _ (List.mem_of_getElem? (i := 16) rfl))) Via.refl e14 (S_IDENTITYREF.ext (own_ext K14)) (g := (mkF m 44 #[.val (.int p1), .unset, .unset, .unset] [(.int (6 : Int32)), (.ref b2), (.ref b2)])) rfl (hb hby at_44)
  obtain ⟨cl16, Ar16, q16, S16, M16, H16, G16⟩ := Vb2_14
  have hin16 : ¬ ((6 : Int32) < 0 ∨ cl16.slots.size ≤ ((6 : Int32)).toNatClampNeg) := inb_of S16 ⟨by decide, by decide⟩
  obtain ⟨T16, h16, X16, e16, W16, st16⟩ := stR X15 hx hZ e15 Ar16 (j := (6 : Int32)) hin16 rfl (Sto.ofV Ar16 q16 O2 (Ins.self (E_IDENTITYREF.ext (own_ext K14)))) (g := (mkF m 47 #[.val (.int p1), .unset, .unset, .unset] [(.ref w_IDENTITYREF), (.int (6 : Int32)), (.ref b2), (.ref b2)])) rfl rfl (hb hby at_47)
  obtain ⟨Lg16, X16, N16⟩ := own_hide X16 (Fr.snoc X16 N14 g_b2)
  have Vb2_16 : Arv Z h16 b2 k2 (.object "com/example/yangsmith/yangsmith/schema/BuiltInType") (19 : Int32) [(.ref w_BINARY), (.ref w_BITS), (.ref w_BOOLEAN), (.ref w_DECIMAL64), (.ref w_EMPTY), (.ref w_ENUMERATION), (.ref w_IDENTITYREF), .null, .null, .null, .null, .null, .null, .null, .null, .null, .null, .null, .null] .null := Arv.set Ar16 q16 S16 M16 H16 G16 rfl W16 6 rfl (Nat.le_of_ble_eq_true rfl)
  have K16 : Keep h0 h16 [] := K14.wr W16 (Or.inr sz_b2)
  obtain ⟨T17, X17, e17, st17⟩ := getS2 X16 hx hZ hown (host := "") (Or.inl (hw _ (List.mem_of_getElem? (i := 18) rfl))) Via.refl e16 (S_INSTANCE_IDENTIFIER.ext (own_ext K16)) (g := (mkF m 51 #[.val (.int p1), .unset, .unset, .unset] [(.int (7 : Int32)), (.ref b2), (.ref b2)])) rfl (hb hby at_51)
  obtain ⟨cl18, Ar18, q18, S18, M18, H18, G18⟩ := Vb2_16
  have hin18 : ¬ ((7 : Int32) < 0 ∨ cl18.slots.size ≤ ((7 : Int32)).toNatClampNeg) := inb_of S18 ⟨by decide, by decide⟩
  obtain ⟨T18, h18, X18, e18, W18, st18⟩ := stR X17 hx hZ e17 Ar18 (j := (7 : Int32)) hin18 rfl (Sto.ofV Ar18 q18 O2 (Ins.self (E_INSTANCE_IDENTIFIER.ext (own_ext K16)))) (g := (mkF m 54 #[.val (.int p1), .unset, .unset, .unset] [(.ref w_INSTANCE_IDENTIFIER), (.int (7 : Int32)), (.ref b2), (.ref b2)])) rfl rfl (hb hby at_54)
  obtain ⟨Lg18, X18, N18⟩ := own_hide X18 (Fr.snoc X18 N16 g_b2)
  have Vb2_18 : Arv Z h18 b2 k2 (.object "com/example/yangsmith/yangsmith/schema/BuiltInType") (19 : Int32) [(.ref w_BINARY), (.ref w_BITS), (.ref w_BOOLEAN), (.ref w_DECIMAL64), (.ref w_EMPTY), (.ref w_ENUMERATION), (.ref w_IDENTITYREF), (.ref w_INSTANCE_IDENTIFIER), .null, .null, .null, .null, .null, .null, .null, .null, .null, .null, .null] .null := Arv.set Ar18 q18 S18 M18 H18 G18 rfl W18 7 rfl (Nat.le_of_ble_eq_true rfl)
  have K18 : Keep h0 h18 [] := K16.wr W18 (Or.inr sz_b2)
  obtain ⟨T19, X19, e19, st19⟩ := getS2 X18 hx hZ hown (host := "") (Or.inl (hw _ (List.mem_of_getElem? (i := 20) rfl))) Via.refl e18 (S_INT8.ext (own_ext K18)) (g := (mkF m 58 #[.val (.int p1), .unset, .unset, .unset] [(.int (8 : Int32)), (.ref b2), (.ref b2)])) rfl (hb hby at_58)
  obtain ⟨cl20, Ar20, q20, S20, M20, H20, G20⟩ := Vb2_18
  have hin20 : ¬ ((8 : Int32) < 0 ∨ cl20.slots.size ≤ ((8 : Int32)).toNatClampNeg) := inb_of S20 ⟨by decide, by decide⟩
  obtain ⟨T20, h20, X20, e20, W20, st20⟩ := stR X19 hx hZ e19 Ar20 (j := (8 : Int32)) hin20 rfl (Sto.ofV Ar20 q20 O2 (Ins.self (E_INT8.ext (own_ext K18)))) (g := (mkF m 61 #[.val (.int p1), .unset, .unset, .unset] [(.ref w_INT8), (.int (8 : Int32)), (.ref b2), (.ref b2)])) rfl rfl (hb hby at_61)
  obtain ⟨Lg20, X20, N20⟩ := own_hide X20 (Fr.snoc X20 N18 g_b2)
  have Vb2_20 : Arv Z h20 b2 k2 (.object "com/example/yangsmith/yangsmith/schema/BuiltInType") (19 : Int32) [(.ref w_BINARY), (.ref w_BITS), (.ref w_BOOLEAN), (.ref w_DECIMAL64), (.ref w_EMPTY), (.ref w_ENUMERATION), (.ref w_IDENTITYREF), (.ref w_INSTANCE_IDENTIFIER), (.ref w_INT8), .null, .null, .null, .null, .null, .null, .null, .null, .null, .null] .null := Arv.set Ar20 q20 S20 M20 H20 G20 rfl W20 8 rfl (Nat.le_of_ble_eq_true rfl)
  have K20 : Keep h0 h20 [] := K18.wr W20 (Or.inr sz_b2)
  obtain ⟨T21, X21, e21, st21⟩ := getS2 X20 hx hZ hown (host := "") (Or.inl (hw _ (List.mem_of_getElem? (i := 22) rfl))) Via.refl e20 (S_INT16.ext (own_ext K20)) (g := (mkF m 65 #[.val (.int p1), .unset, .unset, .unset] [(.int (9 : Int32)), (.ref b2), (.ref b2)])) rfl (hb hby at_65)
  obtain ⟨cl22, Ar22, q22, S22, M22, H22, G22⟩ := Vb2_20
  have hin22 : ¬ ((9 : Int32) < 0 ∨ cl22.slots.size ≤ ((9 : Int32)).toNatClampNeg) := inb_of S22 ⟨by decide, by decide⟩
  obtain ⟨T22, h22, X22, e22, W22, st22⟩ := stR X21 hx hZ e21 Ar22 (j := (9 : Int32)) hin22 rfl (Sto.ofV Ar22 q22 O2 (Ins.self (E_INT16.ext (own_ext K20)))) (g := (mkF m 68 #[.val (.int p1), .unset, .unset, .unset] [(.ref w_INT16), (.int (9 : Int32)), (.ref b2), (.ref b2)])) rfl rfl (hb hby at_68)
  obtain ⟨Lg22, X22, N22⟩ := own_hide X22 (Fr.snoc X22 N20 g_b2)
  have Vb2_22 : Arv Z h22 b2 k2 (.object "com/example/yangsmith/yangsmith/schema/BuiltInType") (19 : Int32) [(.ref w_BINARY), (.ref w_BITS), (.ref w_BOOLEAN), (.ref w_DECIMAL64), (.ref w_EMPTY), (.ref w_ENUMERATION), (.ref w_IDENTITYREF), (.ref w_INSTANCE_IDENTIFIER), (.ref w_INT8), (.ref w_INT16), .null, .null, .null, .null, .null, .null, .null, .null, .null] .null := Arv.set Ar22 q22 S22 M22 H22 G22 rfl W22 9 rfl (Nat.le_of_ble_eq_true rfl)
  have K22 : Keep h0 h22 [] := K20.wr W22 (Or.inr sz_b2)
  obtain ⟨T23, X23, e23, st23⟩ := getS2 X22 hx hZ hown (host := "") (Or.inl (hw _ (List.mem_of_getElem? (i := 24) rfl))) Via.refl e22 (S_INT32.ext (own_ext K22)) (g := (mkF m 72 #[.val (.int p1), .unset, .unset, .unset] [(.int (10 : Int32)), (.ref b2), (.ref b2)])) rfl (hb hby at_72)
  obtain ⟨cl24, Ar24, q24, S24, M24, H24, G24⟩ := Vb2_22
  have hin24 : ¬ ((10 : Int32) < 0 ∨ cl24.slots.size ≤ ((10 : Int32)).toNatClampNeg) := inb_of S24 ⟨by decide, by decide⟩
  obtain ⟨T24, h24, X24, e24, W24, st24⟩ := stR X23 hx hZ e23 Ar24 (j := (10 : Int32)) hin24 rfl (Sto.ofV Ar24 q24 O2 (Ins.self (E_INT32.ext (own_ext K22)))) (g := (mkF m 75 #[.val (.int p1), .unset, .unset, .unset] [(.ref w_INT32), (.int (10 : Int32)), (.ref b2), (.ref b2)])) rfl rfl (hb hby at_75)
  obtain ⟨Lg24, X24, N24⟩ := own_hide X24 (Fr.snoc X24 N22 g_b2)
  have Vb2_24 : Arv Z h24 b2 k2 (.object "com/example/yangsmith/yangsmith/schema/BuiltInType") (19 : Int32) [(.ref w_BINARY), (.ref w_BITS), (.ref w_BOOLEAN), (.ref w_DECIMAL64), (.ref w_EMPTY), (.ref w_ENUMERATION), (.ref w_IDENTITYREF), (.ref w_INSTANCE_IDENTIFIER), (.ref w_INT8), (.ref w_INT16), (.ref w_INT32), .null, .null, .null, .null, .null, .null, .null, .null] .null := Arv.set Ar24 q24 S24 M24 H24 G24 rfl W24 10 rfl (Nat.le_of_ble_eq_true rfl)
  have K24 : Keep h0 h24 [] := K22.wr W24 (Or.inr sz_b2)
  obtain ⟨T25, X25, e25, st25⟩ := getS2 X24 hx hZ hown (host := "") (Or.inl (hw _ (List.mem_of_getElem? (i := 26) rfl))) Via.refl e24 (S_INT64.ext (own_ext K24)) (g := (mkF m 79 #[.val (.int p1), .unset, .unset, .unset] [(.int (11 : Int32)), (.ref b2), (.ref b2)])) rfl (hb hby at_79)
  obtain ⟨cl26, Ar26, q26, S26, M26, H26, G26⟩ := Vb2_24
  have hin26 : ¬ ((11 : Int32) < 0 ∨ cl26.slots.size ≤ ((11 : Int32)).toNatClampNeg) := inb_of S26 ⟨by decide, by decide⟩
  obtain ⟨T26, h26, X26, e26, W26, st26⟩ := stR X25 hx hZ e25 Ar26 (j := (11 : Int32)) hin26 rfl (Sto.ofV Ar26 q26 O2 (Ins.self (E_INT64.ext (own_ext K24)))) (g := (mkF m 82 #[.val (.int p1), .unset, .unset, .unset] [(.ref w_INT64), (.int (11 : Int32)), (.ref b2), (.ref b2)])) rfl rfl (hb hby at_82)
  obtain ⟨Lg26, X26, N26⟩ := own_hide X26 (Fr.snoc X26 N24 g_b2)
  have Vb2_26 : Arv Z h26 b2 k2 (.object "com/example/yangsmith/yangsmith/schema/BuiltInType") (19 : Int32) [(.ref w_BINARY), (.ref w_BITS), (.ref w_BOOLEAN), (.ref w_DECIMAL64), (.ref w_EMPTY), (.ref w_ENUMERATION), (.ref w_IDENTITYREF), (.ref w_INSTANCE_IDENTIFIER), (.ref w_INT8), (.ref w_INT16), (.ref w_INT32), (.ref w_INT64), .null, .null, .null, .null, .null, .null, .null] .null := Arv.set Ar26 q26 S26 M26 H26 G26 rfl W26 11 rfl (Nat.le_of_ble_eq_true rfl)
  have K26 : Keep h0 h26 [] := K24.wr W26 (Or.inr sz_b2)
  obtain ⟨T27, X27, e27, st27⟩ := getS2 X26 hx hZ hown (host := "") (Or.inl (hw _ (List.mem_of_getElem? (i := 28) rfl))) Via.refl e26 (S_LEAFREF.ext (own_ext K26)) (g := (mkF m 86 #[.val (.int p1), .unset, .unset, .unset] [(.int (12 : Int32)), (.ref b2), (.ref b2)])) rfl (hb hby at_86)
  obtain ⟨cl28, Ar28, q28, S28, M28, H28, G28⟩ := Vb2_26
  have hin28 : ¬ ((12 : Int32) < 0 ∨ cl28.slots.size ≤ ((12 : Int32)).toNatClampNeg) := inb_of S28 ⟨by decide, by decide⟩
  obtain ⟨T28, h28, X28, e28, W28, st28⟩ := stR X27 hx hZ e27 Ar28 (j := (12 : Int32)) hin28 rfl (Sto.ofV Ar28 q28 O2 (Ins.self (E_LEAFREF.ext (own_ext K26)))) (g := (mkF m 89 #[.val (.int p1), .unset, .unset, .unset] [(.ref w_LEAFREF), (.int (12 : Int32)), (.ref b2), (.ref b2)])) rfl rfl (hb hby at_89)
  obtain ⟨Lg28, X28, N28⟩ := own_hide X28 (Fr.snoc X28 N26 g_b2)
  have Vb2_28 : Arv Z h28 b2 k2 (.object "com/example/yangsmith/yangsmith/schema/BuiltInType") (19 : Int32) [(.ref w_BINARY), (.ref w_BITS), (.ref w_BOOLEAN), (.ref w_DECIMAL64), (.ref w_EMPTY), (.ref w_ENUMERATION), (.ref w_IDENTITYREF), (.ref w_INSTANCE_IDENTIFIER), (.ref w_INT8), (.ref w_INT16), (.ref w_INT32), (.ref w_INT64), (.ref w_LEAFREF), .null, .null, .null, .null, .null, .null] .null := Arv.set Ar28 q28 S28 M28 H28 G28 rfl W28 12 rfl (Nat.le_of_ble_eq_true rfl)
  have K28 : Keep h0 h28 [] := K26.wr W28 (Or.inr sz_b2)
  obtain ⟨T29, X29, e29, st29⟩ := getS2 X28 hx hZ hown (host := "") (Or.inl (hw _ (List.mem_of_getElem? (i := 30) rfl))) Via.refl e28 (S_STRING.ext (own_ext K28)) (g := (mkF m 93 #[.val (.int p1), .unset, .unset, .unset] [(.int (13 : Int32)), (.ref b2), (.ref b2)])) rfl (hb hby at_93)
  obtain ⟨cl30, Ar30, q30, S30, M30, H30, G30⟩ := Vb2_28
  have hin30 : ¬ ((13 : Int32) < 0 ∨ cl30.slots.size ≤ ((13 : Int32)).toNatClampNeg) := inb_of S30 ⟨by decide, by decide⟩
  obtain ⟨T30, h30, X30, e30, W30, st30⟩ := stR X29 hx hZ e29 Ar30 (j := (13 : Int32)) hin30 rfl (Sto.ofV Ar30 q30 O2 (Ins.self (E_STRING.ext (own_ext K28)))) (g := (mkF m 96 #[.val (.int p1), .unset, .unset, .unset] [(.ref w_STRING), (.int (13 : Int32)), (.ref b2), (.ref b2)])) rfl rfl (hb hby at_96)
  obtain ⟨Lg30, X30, N30⟩ := own_hide X30 (Fr.snoc X30 N28 g_b2)
  have Vb2_30 : Arv Z h30 b2 k2 (.object "com/example/yangsmith/yangsmith/schema/BuiltInType") (19 : Int32) [(.ref w_BINARY), (.ref w_BITS), (.ref w_BOOLEAN), (.ref w_DECIMAL64), (.ref w_EMPTY), (.ref w_ENUMERATION), (.ref w_IDENTITYREF), (.ref w_INSTANCE_IDENTIFIER), (.ref w_INT8), (.ref w_INT16), (.ref w_INT32), (.ref w_INT64), (.ref w_LEAFREF), (.ref w_STRING), .null, .null, .null, .null, .null] .null := Arv.set Ar30 q30 S30 M30 H30 G30 rfl W30 13 rfl (Nat.le_of_ble_eq_true rfl)
  have K30 : Keep h0 h30 [] := K28.wr W30 (Or.inr sz_b2)
  obtain ⟨T31, X31, e31, st31⟩ := getS2 X30 hx hZ hown (host := "") (Or.inl (hw _ (List.mem_of_getElem? (i := 32) rfl))) Via.refl e30 (S_UINT8.ext (own_ext K30)) (g := (mkF m 100 #[.val (.int p1), .unset, .unset, .unset] [(.int (14 : Int32)), (.ref b2), (.ref b2)])) rfl (hb hby at_100)
  obtain ⟨cl32, Ar32, q32, S32, M32, H32, G32⟩ := Vb2_30
  have hin32 : ¬ ((14 : Int32) < 0 ∨ cl32.slots.size ≤ ((14 : Int32)).toNatClampNeg) := inb_of S32 ⟨by decide, by decide⟩
  obtain ⟨T32, h32, X32, e32, W32, st32⟩ := stR X31 hx hZ e31 Ar32 (j := (14 : Int32)) hin32 rfl (Sto.ofV Ar32 q32 O2 (Ins.self (E_UINT8.ext (own_ext K30)))) (g := (mkF m 103 #[.val (.int p1), .unset, .unset, .unset] [(.ref w_UINT8), (.int (14 : Int32)), (.ref b2), (.ref b2)])) rfl rfl (hb hby at_103)
  obtain ⟨Lg32, X32, N32⟩ := own_hide X32 (Fr.snoc X32 N30 g_b2)
  have Vb2_32 : Arv Z h32 b2 k2 (.object "com/example/yangsmith/yangsmith/schema/BuiltInType") (19 : Int32) [(.ref w_BINARY), (.ref w_BITS), (.ref w_BOOLEAN), (.ref w_DECIMAL64), (.ref w_EMPTY), (.ref w_ENUMERATION), (.ref w_IDENTITYREF), (.ref w_INSTANCE_IDENTIFIER), (.ref w_INT8), (.ref w_INT16), (.ref w_INT32), (.ref w_INT64), (.ref w_LEAFREF), (.ref w_STRING), (.ref w_UINT8), .null, .null, .null, .null] .null := Arv.set Ar32 q32 S32 M32 H32 G32 rfl W32 14 rfl (Nat.le_of_ble_eq_true rfl)
  have K32 : Keep h0 h32 [] := K30.wr W32 (Or.inr sz_b2)
  obtain ⟨T33, X33, e33, st33⟩ := getS2 X32 hx hZ hown (host := "") (Or.inl (hw _ (List.mem_of_getElem? (i := 34) rfl))) Via.refl e32 (S_UINT16.ext (own_ext K32)) (g := (mkF m 107 #[.val (.int p1), .unset, .unset, .unset] [(.int (15 : Int32)), (.ref b2), (.ref b2)])) rfl (hb hby at_107)
  obtain ⟨cl34, Ar34, q34, S34, M34, H34, G34⟩ := Vb2_32
  have hin34 : ¬ ((15 : Int32) < 0 ∨ cl34.slots.size ≤ ((15 : Int32)).toNatClampNeg) := inb_of S34 ⟨by decide, by decide⟩
  obtain ⟨T34, h34, X34, e34, W34, st34⟩ := stR X33 hx hZ e33 Ar34 (j := (15 : Int32)) hin34 rfl (Sto.ofV Ar34 q34 O2 (Ins.self (E_UINT16.ext (own_ext K32)))) (g := (mkF m 110 #[.val (.int p1), .unset, .unset, .unset] [(.ref w_UINT16), (.int (15 : Int32)), (.ref b2), (.ref b2)])) rfl rfl (hb hby at_110)
  obtain ⟨Lg34, X34, N34⟩ := own_hide X34 (Fr.snoc X34 N32 g_b2)
  have Vb2_34 : Arv Z h34 b2 k2 (.object "com/example/yangsmith/yangsmith/schema/BuiltInType") (19 : Int32) [(.ref w_BINARY), (.ref w_BITS), (.ref w_BOOLEAN), (.ref w_DECIMAL64), (.ref w_EMPTY), (.ref w_ENUMERATION), (.ref w_IDENTITYREF), (.ref w_INSTANCE_IDENTIFIER), (.ref w_INT8), (.ref w_INT16), (.ref w_INT32), (.ref w_INT64), (.ref w_LEAFREF), (.ref w_STRING), (.ref w_UINT8), (.ref w_UINT16), .null, .null, .null] .null := Arv.set Ar34 q34 S34 M34 H34 G34 rfl W34 15 rfl (Nat.le_of_ble_eq_true rfl)
  have K34 : Keep h0 h34 [] := K32.wr W34 (Or.inr sz_b2)
  obtain ⟨T35, X35, e35, st35⟩ := getS2 X34 hx hZ hown (host := "") (Or.inl (hw _ (List.mem_of_getElem? (i := 36) rfl))) Via.refl e34 (S_UINT32.ext (own_ext K34)) (g := (mkF m 114 #[.val (.int p1), .unset, .unset, .unset] [(.int (16 : Int32)), (.ref b2), (.ref b2)])) rfl (hb hby at_114)
  obtain ⟨cl36, Ar36, q36, S36, M36, H36, G36⟩ := Vb2_34
  have hin36 : ¬ ((16 : Int32) < 0 ∨ cl36.slots.size ≤ ((16 : Int32)).toNatClampNeg) := inb_of S36 ⟨by decide, by decide⟩
  obtain ⟨T36, h36, X36, e36, W36, st36⟩ := stR X35 hx hZ e35 Ar36 (j := (16 : Int32)) hin36 rfl (Sto.ofV Ar36 q36 O2 (Ins.self (E_UINT32.ext (own_ext K34)))) (g := (mkF m 117 #[.val (.int p1), .unset, .unset, .unset] [(.ref w_UINT32), (.int (16 : Int32)), (.ref b2), (.ref b2)])) rfl rfl (hb hby at_117)
  obtain ⟨Lg36, X36, N36⟩ := own_hide X36 (Fr.snoc X36 N34 g_b2)
  have Vb2_36 : Arv Z h36 b2 k2 (.object "com/example/yangsmith/yangsmith/schema/BuiltInType") (19 : Int32) [(.ref w_BINARY), (.ref w_BITS), (.ref w_BOOLEAN), (.ref w_DECIMAL64), (.ref w_EMPTY), (.ref w_ENUMERATION), (.ref w_IDENTITYREF), (.ref w_INSTANCE_IDENTIFIER), (.ref w_INT8), (.ref w_INT16), (.ref w_INT32), (.ref w_INT64), (.ref w_LEAFREF), (.ref w_STRING), (.ref w_UINT8), (.ref w_UINT16), (.ref w_UINT32), .null, .null] .null := Arv.set Ar36 q36 S36 M36 H36 G36 rfl W36 16 rfl (Nat.le_of_ble_eq_true rfl)
  have K36 : Keep h0 h36 [] := K34.wr W36 (Or.inr sz_b2)
  obtain ⟨T37, X37, e37, st37⟩ := getS2 X36 hx hZ hown (host := "") (Or.inl (hw _ (List.mem_of_getElem? (i := 38) rfl))) Via.refl e36 (S_UINT64.ext (own_ext K36)) (g := (mkF m 121 #[.val (.int p1), .unset, .unset, .unset] [(.int (17 : Int32)), (.ref b2), (.ref b2)])) rfl (hb hby at_121)
  obtain ⟨cl38, Ar38, q38, S38, M38, H38, G38⟩ := Vb2_36
  have hin38 : ¬ ((17 : Int32) < 0 ∨ cl38.slots.size ≤ ((17 : Int32)).toNatClampNeg) := inb_of S38 ⟨by decide, by decide⟩
  obtain ⟨T38, h38, X38, e38, W38, st38⟩ := stR X37 hx hZ e37 Ar38 (j := (17 : Int32)) hin38 rfl (Sto.ofV Ar38 q38 O2 (Ins.self (E_UINT64.ext (own_ext K36)))) (g := (mkF m 124 #[.val (.int p1), .unset, .unset, .unset] [(.ref w_UINT64), (.int (17 : Int32)), (.ref b2), (.ref b2)])) rfl rfl (hb hby at_124)
  obtain ⟨Lg38, X38, N38⟩ := own_hide X38 (Fr.snoc X38 N36 g_b2)
  have Vb2_38 : Arv Z h38 b2 k2 (.object "com/example/yangsmith/yangsmith/schema/BuiltInType") (19 : Int32) [(.ref w_BINARY), (.ref w_BITS), (.ref w_BOOLEAN), (.ref w_DECIMAL64), (.ref w_EMPTY), (.ref w_ENUMERATION), (.ref w_IDENTITYREF), (.ref w_INSTANCE_IDENTIFIER), (.ref w_INT8), (.ref w_INT16), (.ref w_INT32), (.ref w_INT64), (.ref w_LEAFREF), (.ref w_STRING), (.ref w_UINT8), (.ref w_UINT16), (.ref w_UINT32), (.ref w_UINT64), .null] .null := Arv.set Ar38 q38 S38 M38 H38 G38 rfl W38 17 rfl (Nat.le_of_ble_eq_true rfl)
  have K38 : Keep h0 h38 [] := K36.wr W38 (Or.inr sz_b2)
  obtain ⟨T39, X39, e39, st39⟩ := getS2 X38 hx hZ hown (host := "") (Or.inl (hw _ (List.mem_of_getElem? (i := 40) rfl))) Via.refl e38 (S_UNION.ext (own_ext K38)) (g := (mkF m 128 #[.val (.int p1), .unset, .unset, .unset] [(.int (18 : Int32)), (.ref b2), (.ref b2)])) rfl (hb hby at_128)
  obtain ⟨cl40, Ar40, q40, S40, M40, H40, G40⟩ := Vb2_38
  have hin40 : ¬ ((18 : Int32) < 0 ∨ cl40.slots.size ≤ ((18 : Int32)).toNatClampNeg) := inb_of S40 ⟨by decide, by decide⟩
  obtain ⟨T40, h40, X40, e40, W40, st40⟩ := stR X39 hx hZ e39 Ar40 (j := (18 : Int32)) hin40 rfl (Sto.ofV Ar40 q40 O2 (Ins.self (E_UNION.ext (own_ext K38)))) (g := (mkF m 131 #[.val (.int p1), .unset, .unset, .unset] [(.ref w_UNION), (.int (18 : Int32)), (.ref b2), (.ref b2)])) rfl rfl (hb hby at_131)
  obtain ⟨Lg40, X40, N40⟩ := own_hide X40 (Fr.snoc X40 N38 g_b2)
  have Vb2_40 : Arv Z h40 b2 k2 (.object "com/example/yangsmith/yangsmith/schema/BuiltInType") (19 : Int32) [(.ref w_BINARY), (.ref w_BITS), (.ref w_BOOLEAN), (.ref w_DECIMAL64), (.ref w_EMPTY), (.ref w_ENUMERATION), (.ref w_IDENTITYREF), (.ref w_INSTANCE_IDENTIFIER), (.ref w_INT8), (.ref w_INT16), (.ref w_INT32), (.ref w_INT64), (.ref w_LEAFREF), (.ref w_STRING), (.ref w_UINT8), (.ref w_UINT16), (.ref w_UINT32), (.ref w_UINT64), (.ref w_UNION)] .null := Arv.set Ar40 q40 S40 M40 H40 G40 rfl W40 18 rfl (Nat.le_of_ble_eq_true rfl)
  have K40 : Keep h0 h40 [] := K38.wr W40 (Or.inr sz_b2)
  obtain ⟨T41, h41, k41, X41, e41, E41, A41, st41⟩ := newP X40 hx hZ (hw _ (List.mem_of_getElem? (i := 42) rfl)) e40 (g := (mkF m 135 #[.val (.int p1), .val (.ref b2), .unset, .unset] [(.int (19 : Int32))])) rfl (hb hby at_135) rfl (by decide) (cap := 19) (by decide) (by decide) (by decide) (by decide)
  obtain ⟨b41, g41⟩ : ∃ z, z = h40.size := ⟨_, rfl⟩
  rw [← g41] at A41 st41
  have g_b41 : n0 ≤ b41 := Nat.le_trans Z0 (Nat.le_trans K40.1 (Nat.le_of_eq g41.symm))
  have sz_b41 : h0.size ≤ b41 := Nat.le_trans K40.1 (Nat.le_of_eq g41.symm)
  have ne_b2_b41 : b2 ≠ b41 := by rw [g41]; exact Nat.ne_of_lt Vb2_40.lt
  have K41 : Keep h0 h41 [] := K40.ext E41
  have Vb2_41 := Vb2_40.ext E41
  have Vb41 : Arv Z h41 b41 k41 .boolean (19 : Int32) [(.int (0 : Int32)), (.int (0 : Int32)), (.int (0 : Int32)), (.int (0 : Int32)), (.int (0 : Int32)), (.int (0 : Int32)), (.int (0 : Int32)), (.int (0 : Int32)), (.int (0 : Int32)), (.int (0 : Int32)), (.int (0 : Int32)), (.int (0 : Int32)), (.int (0 : Int32)), (.int (0 : Int32)), (.int (0 : Int32)), (.int (0 : Int32)), (.int (0 : Int32)), (.int (0 : Int32)), (.int (0 : Int32))] (.int (0 : Int32)) := (Arv.new A41 (by decide)).pad (pad_rep [] (.int (0 : Int32)) 19)
  obtain ⟨cl42, Ar42, q42, S42, M42, H42, G42⟩ := Vb41
  have hin42 : ¬ ((0 : Int32) < 0 ∨ cl42.slots.size ≤ ((0 : Int32)).toNatClampNeg) := inb_of S42 ⟨by decide, by decide⟩
  obtain ⟨T42, h42, X42, e42, W42, st42⟩ := stZ X41 hx hZ e41 Ar42 (j := (0 : Int32)) hin42 (g := (mkF m 140 #[.val (.int p1), .val (.ref b2), .unset, .unset] [(.int (0 : Int32)), (.int (0 : Int32)), (.ref b41), (.ref b41)])) rfl rfl (hb hby at_140)
  rw [own_nar0] at W42
  obtain ⟨Lg42, X42, N42⟩ := own_hide X42 (Fr.snoc X42 N40 g_b41)
  have Vb41_42 : Arv Z h42 b41 k41 .boolean (19 : Int32) [(.int (0 : Int32)), (.int (0 : Int32)), (.int (0 : Int32)), (.int (0 : Int32)), (.int (0 : Int32)), (.int (0 : Int32)), (.int (0 : Int32)), (.int (0 : Int32)), (.int (0 : Int32)), (.int (0 : Int32)), (.int (0 : Int32)), (.int (0 : Int32)), (.int (0 : Int32)), (.int (0 : Int32)), (.int (0 : Int32)), (.int (0 : Int32)), (.int (0 : Int32)), (.int (0 : Int32)), (.int (0 : Int32))] (.int (0 : Int32)) := Arv.set Ar42 q42 S42 M42 H42 G42 rfl W42 0 rfl (Nat.le_of_ble_eq_true rfl)
  have K42 : Keep h0 h42 [] := K41.wr W42 (Or.inr sz_b41)
  have Vb2_42 := Vb2_41.other W42 ne_b2_b41
  obtain ⟨cl43, Ar43, q43, S43, M43, H43, G43⟩ := Vb41_42
  have hin43 : ¬ ((1 : Int32) < 0 ∨ cl43.slots.size ≤ ((1 : Int32)).toNatClampNeg) := inb_of S43 ⟨by decide, by decide⟩
  obtain ⟨T43, h43, X43, e43, W43, st43⟩ := stZ X42 hx hZ e42 Ar43 (j := (1 : Int32)) hin43 (g := (mkF m 144 #[.val (.int p1), .val (.ref b2), .unset, .unset] [(.int (0 : Int32)), (.int (1 : Int32)), (.ref b41), (.ref b41)])) rfl rfl (hb hby at_144)
  rw [own_nar0] at W43
  obtain ⟨Lg43, X43, N43⟩ := own_hide X43 (Fr.snoc X43 N42 g_b41)
  have Vb41_43 : Arv Z h43 b41 k41 .boolean (19 : Int32) [(.int (0 : Int32)), (.int (0 : Int32)), (.int (0 : Int32)), (.int (0 : Int32)), (.int (0 : Int32)), (.int (0 : Int32)), (.int (0 : Int32)), (.int (0 : Int32)), (.int (0 : Int32)), (.int (0 : Int32)), (.int (0 : Int32)), (.int (0 : Int32)), (.int (0 : Int32)), (.int (0 : Int32)), (.int (0 : Int32)), (.int (0 : Int32)), (.int (0 : Int32)), (.int (0 : Int32)), (.int (0 : Int32))] (.int (0 : Int32)) := Arv.set Ar43 q43 S43 M43 H43 G43 rfl W43 1 rfl (Nat.le_of_ble_eq_true rfl)
  have K43 : Keep h0 h43 [] := K42.wr W43 (Or.inr sz_b41)
  have Vb2_43 := Vb2_42.other W43 ne_b2_b41
  obtain ⟨cl44, Ar44, q44, S44, M44, H44, G44⟩ := Vb41_43
  have hin44 : ¬ ((2 : Int32) < 0 ∨ cl44.slots.size ≤ ((2 : Int32)).toNatClampNeg) := inb_of S44 ⟨by decide, by decide⟩
  obtain ⟨T44, h44, X44, e44, W44, st44⟩ := stZ X43 hx hZ e43 Ar44 (j := (2 : Int32)) hin44 (g := (mkF m 148 #[.val (.int p1), .val (.ref b2), .unset, .unset] [(.int (0 : Int32)), (.int (2 : Int32)), (.ref b41), (.ref b41)])) rfl rfl (hb hby at_148)
  rw [own_nar0] at W44
  obtain ⟨Lg44, X44, N44⟩ := own_hide X44 (Fr.snoc X44 N43 g_b41)
  have Vb41_44 : Arv Z h44 b41 k41 .boolean (19 : Int32) [(.int (0 : Int32)), (.int (0 : Int32)), (.int (0 : Int32)), (.int (0 : Int32)), (.int (0 : Int32)), (.int (0 : Int32)), (.int (0 : Int32)), (.int (0 : Int32)), (.int (0 : Int32)), (.int (0 : Int32)), (.int (0 : Int32)), (.int (0 : Int32)), (.int (0 : Int32)), (.int (0 : Int32)), (.int (0 : Int32)), (.int (0 : Int32)), (.int (0 : Int32)), (.int (0 : Int32)), (.int (0 : Int32))] (.int (0 : Int32)) := Arv.set Ar44 q44 S44 M44 H44 G44 rfl W44 2 rfl (Nat.le_of_ble_eq_true rfl)
  have K44 : Keep h0 h44 [] := K43.wr W44 (Or.inr sz_b41)
  have Vb2_44 := Vb2_43.other W44 ne_b2_b41
  obtain ⟨cl45, Ar45, q45, S45, M45, H45, G45⟩ := Vb41_44
  have hin45 : ¬ ((3 : Int32) < 0 ∨ cl45.slots.size ≤ ((3 : Int32)).toNatClampNeg) := inb_of S45 ⟨by decide, by decide⟩
  obtain ⟨T45, h45, X45, e45, W45, st45⟩ := stZ X44 hx hZ e44 Ar45 (j := (3 : Int32)) hin45 (g := (mkF m 152 #[.val (.int p1), .val (.ref b2), .unset, .unset] [(.int (0 : Int32)), (.int (3 : Int32)), (.ref b41), (.ref b41)])) rfl rfl (hb hby at_152)
  rw [own_nar0] at W45
  obtain ⟨Lg45, X45, N45⟩ := own_hide X45 (Fr.snoc X45 N44 g_b41)
  have Vb41_45 : Arv Z h45 b41 k41 .boolean (19 : Int32) [(.int (0 : Int32)), (.int (0 : Int32)), (.int (0 : Int32)), (.int (0 : Int32)), (.int (0 : Int32)), (.int (0 : Int32)), (.int (0 : Int32)), (.int (0 : Int32)), (.int (0 : Int32)), (.int (0 : Int32)), (.int (0 : Int32)), (.int (0 : Int32)), (.int (0 : Int32)), (.int (0 : Int32)), (.int (0 : Int32)), (.int (0 : Int32)), (.int (0 : Int32)), (.int (0 : Int32)), (.int (0 : Int32))] (.int (0 : Int32)) := Arv.set Ar45 q45 S45 M45 H45 G45 rfl W45 3 rfl (Nat.le_of_ble_eq_true rfl)
  have K45 : Keep h0 h45 [] := K44.wr W45 (Or.inr sz_b41)
  have Vb2_45 := Vb2_44.other W45 ne_b2_b41
  obtain ⟨cl46, Ar46, q46, S46, M46, H46, G46⟩ := Vb41_45
  have hin46 : ¬ ((4 : Int32) < 0 ∨ cl46.slots.size ≤ ((4 : Int32)).toNatClampNeg) := inb_of S46 ⟨by decide, by decide⟩
  obtain ⟨T46, h46, X46, e46, W46, st46⟩ := stZ X45 hx hZ e45 Ar46 (j := (4 : Int32)) hin46 (g := (mkF m 156 #[.val (.int p1), .val (.ref b2), .unset, .unset] [(.int (0 : Int32)), (.int (4 : Int32)), (.ref b41), (.ref b41)])) rfl rfl (hb hby at_156)
  rw [own_nar0] at W46
  obtain ⟨Lg46, X46, N46⟩ := own_hide X46 (Fr.snoc X46 N45 g_b41)
  have Vb41_46 : Arv Z h46 b41 k41 .boolean (19 : Int32) [(.int (0 : Int32)), (.int (0 : Int32)), (.int (0 : Int32)), (.int (0 : Int32)), (.int (0 : Int32)), (.int (0 : Int32)), (.int (0 : Int32)), (.int (0 : Int32)), (.int (0 : Int32)), (.int (0 : Int32)), (.int (0 : Int32)), (.int (0 : Int32)), (.int (0 : Int32)), (.int (0 : Int32)), (.int (0 : Int32)), (.int (0 : Int32)), (.int (0 : Int32)), (.int (0 : Int32)), (.int (0 : Int32))] (.int (0 : Int32)) := Arv.set Ar46 q46 S46 M46 H46 G46 rfl W46 4 rfl (Nat.le_of_ble_eq_true rfl)
  have K46 : Keep h0 h46 [] := K45.wr W46 (Or.inr sz_b41)
  have Vb2_46 := Vb2_45.other W46 ne_b2_b41
  obtain ⟨cl47, Ar47, q47, S47, M47, H47, G47⟩ := Vb41_46
  have hin47 : ¬ ((5 : Int32) < 0 ∨ cl47.slots.size ≤ ((5 : Int32)).toNatClampNeg) := inb_of S47 ⟨by decide, by decide⟩
  obtain ⟨T47, h47, X47, e47, W47, st47⟩ := stZ X46 hx hZ e46 Ar47 (j := (5 : Int32)) hin47 (g := (mkF m 160 #[.val (.int p1), .val (.ref b2), .unset, .unset] [(.int (0 : Int32)), (.int (5 : Int32)), (.ref b41), (.ref b41)])) rfl rfl (hb hby at_160)
  rw [own_nar0] at W47
  obtain ⟨Lg47, X47, N47⟩ := own_hide X47 (Fr.snoc X47 N46 g_b41)
  have Vb41_47 : Arv Z h47 b41 k41 .boolean (19 : Int32) [(.int (0 : Int32)), (.int (0 : Int32)), (.int (0 : Int32)), (.int (0 : Int32)), (.int (0 : Int32)), (.int (0 : Int32)), (.int (0 : Int32)), (.int (0 : Int32)), (.int (0 : Int32)), (.int (0 : Int32)), (.int (0 : Int32)), (.int (0 : Int32)), (.int (0 : Int32)), (.int (0 : Int32)), (.int (0 : Int32)), (.int (0 : Int32)), (.int (0 : Int32)), (.int (0 : Int32)), (.int (0 : Int32))] (.int (0 : Int32)) := Arv.set Ar47 q47 S47 M47 H47 G47 rfl W47 5 rfl (Nat.le_of_ble_eq_true rfl)
  have K47 : Keep h0 h47 [] := K46.wr W47 (Or.inr sz_b41)
  have Vb2_47 := Vb2_46.other W47 ne_b2_b41
  obtain ⟨cl48, Ar48, q48, S48, M48, H48, G48⟩ := Vb41_47
  have hin48 : ¬ ((6 : Int32) < 0 ∨ cl48.slots.size ≤ ((6 : Int32)).toNatClampNeg) := inb_of S48 ⟨by decide, by decide⟩
  obtain ⟨T48, h48, X48, e48, W48, st48⟩ := stZ X47 hx hZ e47 Ar48 (j := (6 : Int32)) hin48 (g := (mkF m 165 #[.val (.int p1), .val (.ref b2), .unset, .unset] [(.int (0 : Int32)), (.int (6 : Int32)), (.ref b41), (.ref b41)])) rfl rfl (hb hby at_165)
  rw [own_nar0] at W48
  obtain ⟨Lg48, X48, N48⟩ := own_hide X48 (Fr.snoc X48 N47 g_b41)
  have Vb41_48 : Arv Z h48 b41 k41 .boolean (19 : Int32) [(.int (0 : Int32)), (.int (0 : Int32)), (.int (0 : Int32)), (.int (0 : Int32)), (.int (0 : Int32)), (.int (0 : Int32)), (.int (0 : Int32)), (.int (0 : Int32)), (.int (0 : Int32)), (.int (0 : Int32)), (.int (0 : Int32)), (.int (0 : Int32)), (.int (0 : Int32)), (.int (0 : Int32)), (.int (0 : Int32)), (.int (0 : Int32)), (.int (0 : Int32)), (.int (0 : Int32)), (.int (0 : Int32))] (.int (0 : Int32)) := Arv.set Ar48 q48 S48 M48 H48 G48 rfl W48 6 rfl (Nat.le_of_ble_eq_true rfl)
  have K48 : Keep h0 h48 [] := K47.wr W48 (Or.inr sz_b41)
  have Vb2_48 := Vb2_47.other W48 ne_b2_b41
  obtain ⟨cl49, Ar49, q49, S49, M49, H49, G49⟩ := Vb41_48
  have hin49 : ¬ ((7 : Int32) < 0 ∨ cl49.slots.size ≤ ((7 : Int32)).toNatClampNeg) := inb_of S49 ⟨by decide, by decide⟩
  obtain ⟨T49, h49, X49, e49, W49, st49⟩ := stZ X48 hx hZ e48 Ar49 (j := (7 : Int32)) hin49 (g := (mkF m 170 #[.val (.int p1), .val (.ref b2), .unset, .unset] [(.int (0 : Int32)), (.int (7 : Int32)), (.ref b41), (.ref b41)])) rfl rfl (hb hby at_170)
  rw [own_nar0] at W49
  obtain ⟨Lg49, X49, N49⟩ := own_hide X49 (Fr.snoc X49 N48 g_b41)
  have Vb41_49 : Arv Z h49 b41 k41 .boolean (19 : Int32) [(.int (0 : Int32)), (.int (0 : Int32)), (.int (0 : Int32)), (.int (0 : Int32)), (.int (0 : Int32)), (.int (0 : Int32)), (.int (0 : Int32)), (.int (0 : Int32)), (.int (0 : Int32)), (.int (0 : Int32)), (.int (0 : Int32)), (.int (0 : Int32)), (.int (0 : Int32)), (.int (0 : Int32)), (.int (0 : Int32)), (.int (0 : Int32)), (.int (0 : Int32)), (.int (0 : Int32)), (.int (0 : Int32))] (.int (0 : Int32)) := Arv.set Ar49 q49 S49 M49 H49 G49 rfl W49 7 rfl (Nat.le_of_ble_eq_true rfl)
  have K49 : Keep h0 h49 [] := K48.wr W49 (Or.inr sz_b41)
  have Vb2_49 := Vb2_48.other W49 ne_b2_b41
  obtain ⟨cl50, Ar50, q50, S50, M50, H50, G50⟩ := Vb41_49
  have hin50 : ¬ ((8 : Int32) < 0 ∨ cl50.slots.size ≤ ((8 : Int32)).toNatClampNeg) := inb_of S50 ⟨by decide, by decide⟩
  obtain ⟨T50, h50, X50, e50, W50, st50⟩ := stZ X49 hx hZ e49 Ar50 (j := (8 : Int32)) hin50 (g := (mkF m 175 #[.val (.int p1), .val (.ref b2), .unset, .unset] [(.int (1 : Int32)), (.int (8 : Int32)), (.ref b41), (.ref b41)])) rfl rfl (hb hby at_175)
  rw [own_nar1] at W50
  obtain ⟨Lg50, X50, N50⟩ := own_hide X50 (Fr.snoc X50 N49 g_b41)
  have Vb41_50 : Arv Z h50 b41 k41 .boolean (19 : Int32) [(.int (0 : Int32)), (.int (0 : Int32)), (.int (0 : Int32)), (.int (0 : Int32)), (.int (0 : Int32)), (.int (0 : Int32)), (.int (0 : Int32)), (.int (0 : Int32)), (.int (1 : Int32)), (.int (0 : Int32)), (.int (0 : Int32)), (.int (0 : Int32)), (.int (0 : Int32)), (.int (0 : Int32)), (.int (0 : Int32)), (.int (0 : Int32)), (.int (0 : Int32)), (.int (0 : Int32)), (.int (0 : Int32))] (.int (0 : Int32)) := Arv.set Ar50 q50 S50 M50 H50 G50 rfl W50 8 rfl (Nat.le_of_ble_eq_true rfl)
  have K50 : Keep h0 h50 [] := K49.wr W50 (Or.inr sz_b41)
  have Vb2_50 := Vb2_49.other W50 ne_b2_b41
  obtain ⟨cl51, Ar51, q51, S51, M51, H51, G51⟩ := Vb41_50
  have hin51 : ¬ ((9 : Int32) < 0 ∨ cl51.slots.size ≤ ((9 : Int32)).toNatClampNeg) := inb_of S51 ⟨by decide, by decide⟩
  obtain ⟨T51, h51, X51, e51, W51, st51⟩ := stZ X50 hx hZ e50 Ar51 (j := (9 : Int32)) hin51 (g := (mkF m 180 #[.val (.int p1), .val (.ref b2), .unset, .unset] [(.int (1 : Int32)), (.int (9 : Int32)), (.ref b41), (.ref b41)])) rfl rfl (hb hby at_180)
  rw [own_nar1] at W51
  obtain ⟨Lg51, X51, N51⟩ := own_hide X51 (Fr.snoc X51 N50 g_b41)
  have Vb41_51 : Arv Z h51 b41 k41 .boolean (19 : Int32) [(.int (0 : Int32)), (.int (0 : Int32)), (.int (0 : Int32)), (.int (0 : Int32)), (.int (0 : Int32)), (.int (0 : Int32)), (.int (0 : Int32)), (.int (0 : Int32)), (.int (1 : Int32)), (.int (1 : Int32)), (.int (0 : Int32)), (.int (0 : Int32)), (.int (0 : Int32)), (.int (0 : Int32)), (.int (0 : Int32)), (.int (0 : Int32)), (.int (0 : Int32)), (.int (0 : Int32)), (.int (0 : Int32))] (.int (0 : Int32)) := Arv.set Ar51 q51 S51 M51 H51 G51 rfl W51 9 rfl (Nat.le_of_ble_eq_true rfl)
  have K51 : Keep h0 h51 [] := K50.wr W51 (Or.inr sz_b41)
  have Vb2_51 := Vb2_50.other W51 ne_b2_b41
  obtain ⟨cl52, Ar52, q52, S52, M52, H52, G52⟩ := Vb41_51
  have hin52 : ¬ ((10 : Int32) < 0 ∨ cl52.slots.size ≤ ((10 : Int32)).toNatClampNeg) := inb_of S52 ⟨by decide, by decide⟩
  obtain ⟨T52, h52, X52, e52, W52, st52⟩ := stZ X51 hx hZ e51 Ar52 (j := (10 : Int32)) hin52 (g := (mkF m 185 #[.val (.int p1), .val (.ref b2), .unset, .unset] [(.int (1 : Int32)), (.int (10 : Int32)), (.ref b41), (.ref b41)])) rfl rfl (hb hby at_185)
  rw [own_nar1] at W52
  obtain ⟨Lg52, X52, N52⟩ := own_hide X52 (Fr.snoc X52 N51 g_b41)
  have Vb41_52 : Arv Z h52 b41 k41 .boolean (19 : Int32) [(.int (0 : Int32)), (.int (0 : Int32)), (.int (0 : Int32)), (.int (0 : Int32)), (.int (0 : Int32)), (.int (0 : Int32)), (.int (0 : Int32)), (.int (0 : Int32)), (.int (1 : Int32)), (.int (1 : Int32)), (.int (1 : Int32)), (.int (0 : Int32)), (.int (0 : Int32)), (.int (0 : Int32)), (.int (0 : Int32)), (.int (0 : Int32)), (.int (0 : Int32)), (.int (0 : Int32)), (.int (0 : Int32))] (.int (0 : Int32)) := Arv.set Ar52 q52 S52 M52 H52 G52 rfl W52 10 rfl (Nat.le_of_ble_eq_true rfl)
  have K52 : Keep h0 h52 [] := K51.wr W52 (Or.inr sz_b41)
  have Vb2_52 := Vb2_51.other W52 ne_b2_b41
  obtain ⟨cl53, Ar53, q53, S53, M53, H53, G53⟩ := Vb41_52
  have hin53 : ¬ ((11 : Int32) < 0 ∨ cl53.slots.size ≤ ((11 : Int32)).toNatClampNeg) := inb_of S53 ⟨by decide, by decide⟩
  obtain ⟨T53, h53, X53, e53, W53, st53⟩ := stZ X52 hx hZ e52 Ar53 (j := (11 : Int32)) hin53 (g := (mkF m 190 #[.val (.int p1), .val (.ref b2), .unset, .unset] [(.int (1 : Int32)), (.int (11 : Int32)), (.ref b41), (.ref b41)])) rfl rfl (hb hby at_190)
  rw [own_nar1] at W53
  obtain ⟨Lg53, X53, N53⟩ := own_hide X53 (Fr.snoc X53 N52 g_b41)
  have Vb41_53 : Arv Z h53 b41 k41 .boolean (19 : Int32) [(.int (0 : Int32)), (.int (0 : Int32)), (.int (0 : Int32)), (.int (0 : Int32)), (.int (0 : Int32)), (.int (0 : Int32)), (.int (0 : Int32)), (.int (0 : Int32)), (.int (1 : Int32)), (.int (1 : Int32)), (.int (1 : Int32)), (.int (1 : Int32)), (.int (0 : Int32)), (.int (0 : Int32)), (.int (0 : Int32)), (.int (0 : Int32)), (.int (0 : Int32)), (.int (0 : Int32)), (.int (0 : Int32))] (.int (0 : Int32)) := Arv.set Ar53 q53 S53 M53 H53 G53 rfl W53 11 rfl (Nat.le_of_ble_eq_true rfl)
  have K53 : Keep h0 h53 [] := K52.wr W53 (Or.inr sz_b41)
  have Vb2_53 := Vb2_52.other W53 ne_b2_b41
  obtain ⟨cl54, Ar54, q54, S54, M54, H54, G54⟩ := Vb41_53
  have hin54 : ¬ ((12 : Int32) < 0 ∨ cl54.slots.size ≤ ((12 : Int32)).toNatClampNeg) := inb_of S54 ⟨by decide, by decide⟩
  obtain ⟨T54, h54, X54, e54, W54, st54⟩ := stZ X53 hx hZ e53 Ar54 (j := (12 : Int32)) hin54 (g := (mkF m 195 #[.val (.int p1), .val (.ref b2), .unset, .unset] [(.int (0 : Int32)), (.int (12 : Int32)), (.ref b41), (.ref b41)])) rfl rfl (hb hby at_195)
  rw [own_nar0] at W54
  obtain ⟨Lg54, X54, N54⟩ := own_hide X54 (Fr.snoc X54 N53 g_b41)
  have Vb41_54 : Arv Z h54 b41 k41 .boolean (19 : Int32) [(.int (0 : Int32)), (.int (0 : Int32)), (.int (0 : Int32)), (.int (0 : Int32)), (.int (0 : Int32)), (.int (0 : Int32)), (.int (0 : Int32)), (.int (0 : Int32)), (.int (1 : Int32)), (.int (1 : Int32)), (.int (1 : Int32)), (.int (1 : Int32)), (.int (0 : Int32)), (.int (0 : Int32)), (.int (0 : Int32)), (.int (0 : Int32)), (.int (0 : Int32)), (.int (0 : Int32)), (.int (0 : Int32))] (.int (0 : Int32)) := Arv.set Ar54 q54 S54 M54 H54 G54 rfl W54 12 rfl (Nat.le_of_ble_eq_true rfl)
  have K54 : Keep h0 h54 [] := K53.wr W54 (Or.inr sz_b41)
  have Vb2_54 := Vb2_53.other W54 ne_b2_b41
  obtain ⟨cl55, Ar55, q55, S55, M55, H55, G55⟩ := Vb41_54
  have hin55 : ¬ ((13 : Int32) < 0 ∨ cl55.slots.size ≤ ((13 : Int32)).toNatClampNeg) := inb_of S55 ⟨by decide, by decide⟩
  obtain ⟨T55, h55, X55, e55, W55, st55⟩ := stZ X54 hx hZ e54 Ar55 (j := (13 : Int32)) hin55 (g := (mkF m 200 #[.val (.int p1), .val (.ref b2), .unset, .unset] [(.int (0 : Int32)), (.int (13 : Int32)), (.ref b41), (.ref b41)])) rfl rfl (hb hby at_200)
  rw [own_nar0] at W55
  obtain ⟨Lg55, X55, N55⟩ := own_hide X55 (Fr.snoc X55 N54 g_b41)
  have Vb41_55 : Arv Z h55 b41 k41 .boolean (19 : Int32) [(.int (0 : Int32)), (.int (0 : Int32)), (.int (0 : Int32)), (.int (0 : Int32)), (.int (0 : Int32)), (.int (0 : Int32)), (.int (0 : Int32)), (.int (0 : Int32)), (.int (1 : Int32)), (.int (1 : Int32)), (.int (1 : Int32)), (.int (1 : Int32)), (.int (0 : Int32)), (.int (0 : Int32)), (.int (0 : Int32)), (.int (0 : Int32)), (.int (0 : Int32)), (.int (0 : Int32)), (.int (0 : Int32))] (.int (0 : Int32)) := Arv.set Ar55 q55 S55 M55 H55 G55 rfl W55 13 rfl (Nat.le_of_ble_eq_true rfl)
  have K55 : Keep h0 h55 [] := K54.wr W55 (Or.inr sz_b41)
  have Vb2_55 := Vb2_54.other W55 ne_b2_b41
  obtain ⟨cl56, Ar56, q56, S56, M56, H56, G56⟩ := Vb41_55
  have hin56 : ¬ ((14 : Int32) < 0 ∨ cl56.slots.size ≤ ((14 : Int32)).toNatClampNeg) := inb_of S56 ⟨by decide, by decide⟩
  obtain ⟨T56, h56, X56, e56, W56, st56⟩ := stZ X55 hx hZ e55 Ar56 (j := (14 : Int32)) hin56 (g := (mkF m 205 #[.val (.int p1), .val (.ref b2), .unset, .unset] [(.int (1 : Int32)), (.int (14 : Int32)), (.ref b41), (.ref b41)])) rfl rfl (hb hby at_205)
  rw [own_nar1] at W56
  obtain ⟨Lg56, X56, N56⟩ := own_hide X56 (Fr.snoc X56 N55 g_b41)
  have Vb41_56 : Arv Z h56 b41 k41 .boolean (19 : Int32) [(.int (0 : Int32)), (.int (0 : Int32)), (.int (0 : Int32)), (.int (0 : Int32)), (.int (0 : Int32)), (.int (0 : Int32)), (.int (0 : Int32)), (.int (0 : Int32)), (.int (1 : Int32)), (.int (1 : Int32)), (.int (1 : Int32)), (.int (1 : Int32)), (.int (0 : Int32)), (.int (0 : Int32)), (.int (1 : Int32)), (.int (0 : Int32)), (.int (0 : Int32)), (.int (0 : Int32)), (.int (0 : Int32))] (.int (0 : Int32)) := Arv.set Ar56 q56 S56 M56 H56 G56 rfl W56 14 rfl (Nat.le_of_ble_eq_true rfl)
  have K56 : Keep h0 h56 [] := K55.wr W56 (Or.inr sz_b41)
  have Vb2_56 := Vb2_55.other W56 ne_b2_b41
  obtain ⟨cl57, Ar57, q57, S57, M57, H57, G57⟩ := Vb41_56
  have hin57 : ¬ ((15 : Int32) < 0 ∨ cl57.slots.size ≤ ((15 : Int32)).toNatClampNeg) := inb_of S57 ⟨by decide, by decide⟩
  obtain ⟨T57, h57, X57, e57, W57, st57⟩ := stZ X56 hx hZ e56 Ar57 (j := (15 : Int32)) hin57 (g := (mkF m 210 #[.val (.int p1), .val (.ref b2), .unset, .unset] [(.int (1 : Int32)), (.int (15 : Int32)), (.ref b41), (.ref b41)])) rfl rfl (hb hby at_210)
  rw [own_nar1] at W57
  obtain ⟨Lg57, X57, N57⟩ := own_hide X57 (Fr.snoc X57 N56 g_b41)
  have Vb41_57 : Arv Z h57 b41 k41 .boolean (19 : Int32) [(.int (0 : Int32)), (.int (0 : Int32)), (.int (0 : Int32)), (.int (0 : Int32)), (.int (0 : Int32)), (.int (0 : Int32)), (.int (0 : Int32)), (.int (0 : Int32)), (.int (1 : Int32)), (.int (1 : Int32)), (.int (1 : Int32)), (.int (1 : Int32)), (.int (0 : Int32)), (.int (0 : Int32)), (.int (1 : Int32)), (.int (1 : Int32)), (.int (0 : Int32)), (.int (0 : Int32)), (.int (0 : Int32))] (.int (0 : Int32)) := Arv.set Ar57 q57 S57 M57 H57 G57 rfl W57 15 rfl (Nat.le_of_ble_eq_true rfl)
  have K57 : Keep h0 h57 [] := K56.wr W57 (Or.inr sz_b41)
  have Vb2_57 := Vb2_56.other W57 ne_b2_b41
  obtain ⟨cl58, Ar58, q58, S58, M58, H58, G58⟩ := Vb41_57
  have hin58 : ¬ ((16 : Int32) < 0 ∨ cl58.slots.size ≤ ((16 : Int32)).toNatClampNeg) := inb_of S58 ⟨by decide, by decide⟩
  obtain ⟨T58, h58, X58, e58, W58, st58⟩ := stZ X57 hx hZ e57 Ar58 (j := (16 : Int32)) hin58 (g := (mkF m 215 #[.val (.int p1), .val (.ref b2), .unset, .unset] [(.int (1 : Int32)), (.int (16 : Int32)), (.ref b41), (.ref b41)])) rfl rfl (hb hby at_215)
  rw [own_nar1] at W58
  obtain ⟨Lg58, X58, N58⟩ := own_hide X58 (Fr.snoc X58 N57 g_b41)
  have Vb41_58 : Arv Z h58 b41 k41 .boolean (19 : Int32) [(.int (0 : Int32)), (.int (0 : Int32)), (.int (0 : Int32)), (.int (0 : Int32)), (.int (0 : Int32)), (.int (0 : Int32)), (.int (0 : Int32)), (.int (0 : Int32)), (.int (1 : Int32)), (.int (1 : Int32)), (.int (1 : Int32)), (.int (1 : Int32)), (.int (0 : Int32)), (.int (0 : Int32)), (.int (1 : Int32)), (.int (1 : Int32)), (.int (1 : Int32)), (.int (0 : Int32)), (.int (0 : Int32))] (.int (0 : Int32)) := Arv.set Ar58 q58 S58 M58 H58 G58 rfl W58 16 rfl (Nat.le_of_ble_eq_true rfl)
  have K58 : Keep h0 h58 [] := K57.wr W58 (Or.inr sz_b41)
  have Vb2_58 := Vb2_57.other W58 ne_b2_b41
  obtain ⟨cl59, Ar59, q59, S59, M59, H59, G59⟩ := Vb41_58
  have hin59 : ¬ ((17 : Int32) < 0 ∨ cl59.slots.size ≤ ((17 : Int32)).toNatClampNeg) := inb_of S59 ⟨by decide, by decide⟩
  obtain ⟨T59, h59, X59, e59, W59, st59⟩ := stZ X58 hx hZ e58 Ar59 (j := (17 : Int32)) hin59 (g := (mkF m 220 #[.val (.int p1), .val (.ref b2), .unset, .unset] [(.int (1 : Int32)), (.int (17 : Int32)), (.ref b41), (.ref b41)])) rfl rfl (hb hby at_220)
  rw [own_nar1] at W59
  obtain ⟨Lg59, X59, N59⟩ := own_hide X59 (Fr.snoc X59 N58 g_b41)
  have Vb41_59 : Arv Z h59 b41 k41 .boolean (19 : Int32) [(.int (0 : Int32)), (.int (0 : Int32)), (.int (0 : Int32)), (.int (0 : Int32)), (.int (0 : Int32)), (.int (0 : Int32)), (.int (0 : Int32)), (.int (0 : Int32)), (.int (1 : Int32)), (.int (1 : Int32)), (.int (1 : Int32)), (.int (1 : Int32)), (.int (0 : Int32)), (.int (0 : Int32)), (.int (1 : Int32)), (.int (1 : Int32)), (.int (1 : Int32)), (.int (1 : Int32)), (.int (0 : Int32))] (.int (0 : Int32)) := Arv.set Ar59 q59 S59 M59 H59 G59 rfl W59 17 rfl (Nat.le_of_ble_eq_true rfl)
  have K59 : Keep h0 h59 [] := K58.wr W59 (Or.inr sz_b41)
  have Vb2_59 := Vb2_58.other W59 ne_b2_b41
  obtain ⟨cl60, Ar60, q60, S60, M60, H60, G60⟩ := Vb41_59
  have hin60 : ¬ ((18 : Int32) < 0 ∨ cl60.slots.size ≤ ((18 : Int32)).toNatClampNeg) := inb_of S60 ⟨by decide, by decide⟩
  obtain ⟨T60, h60, X60, e60, W60, st60⟩ := stZ X59 hx hZ e59 Ar60 (j := (18 : Int32)) hin60 (g := (mkF m 225 #[.val (.int p1), .val (.ref b2), .unset, .unset] [(.int (0 : Int32)), (.int (18 : Int32)), (.ref b41), (.ref b41)])) rfl rfl (hb hby at_225)
  rw [own_nar0] at W60
  obtain ⟨Lg60, X60, N60⟩ := own_hide X60 (Fr.snoc X60 N59 g_b41)
  have Vb41_60 : Arv Z h60 b41 k41 .boolean (19 : Int32) [(.int (0 : Int32)), (.int (0 : Int32)), (.int (0 : Int32)), (.int (0 : Int32)), (.int (0 : Int32)), (.int (0 : Int32)), (.int (0 : Int32)), (.int (0 : Int32)), (.int (1 : Int32)), (.int (1 : Int32)), (.int (1 : Int32)), (.int (1 : Int32)), (.int (0 : Int32)), (.int (0 : Int32)), (.int (1 : Int32)), (.int (1 : Int32)), (.int (1 : Int32)), (.int (1 : Int32)), (.int (0 : Int32))] (.int (0 : Int32)) := Arv.set Ar60 q60 S60 M60 H60 G60 rfl W60 18 rfl (Nat.le_of_ble_eq_true rfl)
  have K60 : Keep h0 h60 [] := K59.wr W60 (Or.inr sz_b41)
  have Vb2_60 := Vb2_59.other W60 ne_b2_b41
  have Vb2_c61 := Vb2_60
  obtain ⟨cl61, Ar61, q61, S61, M61, H61, G61⟩ := Vb2_c61
  have hin61 : ¬ (j < 0 ∨ cl61.slots.size ≤ (j).toNatClampNeg) := inb_of S61 ⟨hlo, hhi⟩
  obtain ⟨cq62, kq62, q62a, q62b, q62c⟩ := isOf hZ e60 (Ej.ext (own_ext K60))
  obtain ⟨_, _, ⟨T62, L62, k62, n62⟩, -, X62, ⟨Lc62, hQ62, l62, y62, z62⟩, st62⟩ := X60.virtualBack hx (y := (⟨"com/example/yangsmith/yangsmith/schema/BuiltInType", "isInteger", "()Z"⟩ : MethodName)) (z := (⟨"com/example/yangsmith/yangsmith/schema/BuiltInType", "isInteger", "()Z"⟩ : MethodName)) hown (mvT hZ (hw _ (List.mem_of_getElem? (i := 44) rfl))) (mvT hZ (hw _ (List.mem_of_getElem? (i := 45) rfl))) (notFace_of_selects (args := #[]) (mvT hZ (hw _ (List.mem_of_getElem? (i := 47) rfl)))) (mvT hZ (hw _ (List.mem_of_getElem? (i := 47) rfl))) (mvT hZ (hw _ (List.mem_of_getElem? (i := 46) rfl))) (by decide) (backOf (W := 0) (H1 h60 K60) hZ (hw _ (List.mem_of_getElem? (i := 48) rfl)) (hw _ (List.mem_of_getElem? (i := 3) rfl)) (by decide) (by decide)) q62a q62c (g := (mkF m 238 #[.val (.int p1), .val (.ref b2), .val (.ref b41), .val (.int j)] [(.ref wj)])) rfl (by rw [hml]; rfl) (Steps.refl _) (argsL := []) (rest := []) (lenOf pd_z rfl) rfl (by show 2 * 0 + _ ≤ _; exact Nat.le_of_eq rfl) (hb hby at_238) (fun _ _ => ⟨rfl, e60, (by decide : 2 + 0 ≤ _), (by decide : 38 + 0 ≤ _)⟩)
  dsimp only [Pt.U, Pt.locs, Pt.cells, Pt.slots] at X62 l62 y62 z62 st62 hQ62
  subst l62 y62 z62
  obtain ⟨rfl, N62q, e62⟩ := hQ62
  have N62 := Fr.app N60 N62q
  have Vb41_c63 := Vb41_60
  obtain ⟨cl63, Ar63, q63, S63, M63, H63, G63⟩ := Vb41_c63
  have hin63 : ¬ (j < 0 ∨ cl63.slots.size ≤ (j).toNatClampNeg) := inb_of S63 ⟨hlo, hhi⟩
  obtain ⟨fs, hr, hrun, hended, hW, hsame⟩ := X62.leave (v := some (.int (1 : Int32))) (fun h => by rw [Bd.returns] at h; cases h)
  refine ⟨_, _, pre0 _ ?_, hrun, hended, _, _, rfl, ?_, ⟨_, rfl⟩, hW, hsame.mono (by decide) (by decide)⟩
  · show Steps p.tables e below (s₁.setTop (mkF m 0 #[.val (.int p1), .unset, .unset, .unset] [])) _
    refine XS.bipush X0.here hx rfl (hb hby at_0) ?_
    show Steps p.tables e below (s₁.setTop (mkF m 2 #[.val (.int p1), .unset, .unset, .unset] [(.int (19 : Int32))])) _
    refine st2 _ ?_
    show Steps p.tables e below (T2.setTop (mkF m 5 #[.val (.int p1), .unset, .unset, .unset] [(.ref b2)])) _
    refine XS.dup X2.here hx rfl (hb hby at_5) rfl rfl ?_
    show Steps p.tables e below (T2.setTop (mkF m 6 #[.val (.int p1), .unset, .unset, .unset] [(.ref b2), (.ref b2)])) _
    refine XS.iconst X2.here hx rfl (hb hby at_6) ?_
    show Steps p.tables e below (T2.setTop (mkF m 7 #[.val (.int p1), .unset, .unset, .unset] [(.int (0 : Int32)), (.ref b2), (.ref b2)])) _
    refine st3 _ ?_
    show Steps p.tables e below (T3.setTop (mkF m 10 #[.val (.int p1), .unset, .unset, .unset] [(.ref w_BINARY), (.int (0 : Int32)), (.ref b2), (.ref b2)])) _
    refine st4 _ ?_
    show Steps p.tables e below (T4.setTop (mkF m 11 #[.val (.int p1), .unset, .unset, .unset] [(.ref b2)])) _
    refine XS.dup X4.here hx rfl (hb hby at_11) rfl rfl ?_
    show Steps p.tables e below (T4.setTop (mkF m 12 #[.val (.int p1), .unset, .unset, .unset] [(.ref b2), (.ref b2)])) _
    refine XS.iconst X4.here hx rfl (hb hby at_12) ?_
    show Steps p.tables e below (T4.setTop (mkF m 13 #[.val (.int p1), .unset, .unset, .unset] [(.int (1 : Int32)), (.ref b2), (.ref b2)])) _
    refine st5 _ ?_
    show Steps p.tables e below (T5.setTop (mkF m 16 #[.val (.int p1), .unset, .unset, .unset] [(.ref w_BITS), (.int (1 : Int32)), (.ref b2), (.ref b2)])) _
    refine st6 _ ?_
    show Steps p.tables e below (T6.setTop (mkF m 17 #[.val (.int p1), .unset, .unset, .unset] [(.ref b2)])) _
    refine XS.dup X6.here hx rfl (hb hby at_17) rfl rfl ?_
    show Steps p.tables e below (T6.setTop (mkF m 18 #[.val (.int p1), .unset, .unset, .unset] [(.ref b2), (.ref b2)])) _
    refine XS.iconst X6.here hx rfl (hb hby at_18) ?_
    show Steps p.tables e below (T6.setTop (mkF m 19 #[.val (.int p1), .unset, .unset, .unset] [(.int (2 : Int32)), (.ref b2), (.ref b2)])) _
    refine st7 _ ?_
    show Steps p.tables e below (T7.setTop (mkF m 22 #[.val (.int p1), .unset, .unset, .unset] [(.ref w_BOOLEAN), (.int (2 : Int32)), (.ref b2), (.ref b2)])) _
    refine st8 _ ?_
    show Steps p.tables e below (T8.setTop (mkF m 23 #[.val (.int p1), .unset, .unset, .unset] [(.ref b2)])) _
    refine XS.dup X8.here hx rfl (hb hby at_23) rfl rfl ?_
    show Steps p.tables e below (T8.setTop (mkF m 24 #[.val (.int p1), .unset, .unset, .unset] [(.ref b2), (.ref b2)])) _
    refine XS.iconst X8.here hx rfl (hb hby at_24) ?_
    show Steps p.tables e below (T8.setTop (mkF m 25 #[.val (.int p1), .unset, .unset, .unset] [(.int (3 : Int32)), (.ref b2), (.ref b2)])) _
    refine st9 _ ?_
    show Steps p.tables e below (T9.setTop (mkF m 28 #[.val (.int p1), .unset, .unset, .unset] [(.ref w_DECIMAL64), (.int (3 : Int32)), (.ref b2), (.ref b2)])) _
    refine st10 _ ?_
    show Steps p.tables e below (T10.setTop (mkF m 29 #[.val (.int p1), .unset, .unset, .unset] [(.ref b2)])) _
    refine XS.dup X10.here hx rfl (hb hby at_29) rfl rfl ?_
    show Steps p.tables e below (T10.setTop (mkF m 30 #[.val (.int p1), .unset, .unset, .unset] [(.ref b2), (.ref b2)])) _
    refine XS.iconst X10.here hx rfl (hb hby at_30) ?_
    show Steps p.tables e below (T10.setTop (mkF m 31 #[.val (.int p1), .unset, .unset, .unset] [(.int (4 : Int32)), (.ref b2), (.ref b2)])) _
    refine st11 _ ?_
    show Steps p.tables e below (T11.setTop (mkF m 34 #[.val (.int p1), .unset, .unset, .unset] [(.ref w_EMPTY), (.int (4 : Int32)), (.ref b2), (.ref b2)])) _
    refine st12 _ ?_
    show Steps p.tables e below (T12.setTop (mkF m 35 #[.val (.int p1), .unset, .unset, .unset] [(.ref b2)])) _
    refine XS.dup X12.here hx rfl (hb hby at_35) rfl rfl ?_
    show Steps p.tables e below (T12.setTop (mkF m 36 #[.val (.int p1), .unset, .unset, .unset] [(.ref b2), (.ref b2)])) _
    refine XS.iconst X12.here hx rfl (hb hby at_36) ?_
    show Steps p.tables e below (T12.setTop (mkF m 37 #[.val (.int p1), .unset, .unset, .unset] [(.int (5 : Int32)), (.ref b2), (.ref b2)])) _
    refine st13 _ ?_
    show Steps p.tables e below (T13.setTop (mkF m 40 #[.val (.int p1), .unset, .unset, .unset] [(.ref w_ENUMERATION), (.int (5 : Int32)), (.ref b2), (.ref b2)])) _
    refine st14 _ ?_
    show Steps p.tables e below (T14.setTop (mkF m 41 #[.val (.int p1), .unset, .unset, .unset] [(.ref b2)])) _
    refine XS.dup X14.here hx rfl (hb hby at_41) rfl rfl ?_
    show Steps p.tables e below (T14.setTop (mkF m 42 #[.val (.int p1), .unset, .unset, .unset] [(.ref b2), (.ref b2)])) _
    refine XS.bipush X14.here hx rfl (hb hby at_42) ?_
    show Steps p.tables e below (T14.setTop (mkF m 44 #[.val (.int p1), .unset, .unset, .unset] [(.int (6 : Int32)), (.ref b2), (.ref b2)])) _
    refine st15 _ ?_
    show Steps p.tables e below (T15.setTop (mkF m 47 #[.val (.int p1), .unset, .unset, .unset] [(.ref w_IDENTITYREF), (.int (6 : Int32)), (.ref b2), (.ref b2)])) _
    refine st16 _ ?_
    show Steps p.tables e below (T16.setTop (mkF m 48 #[.val (.int p1), .unset, .unset, .unset] [(.ref b2)])) _
    refine XS.dup X16.here hx rfl (hb hby at_48) rfl rfl ?_
    show Steps p.tables e below (T16.setTop (mkF m 49 #[.val (.int p1), .unset, .unset, .unset] [(.ref b2), (.ref b2)])) _
    refine XS.bipush X16.here hx rfl (hb hby at_49) ?_
    show Steps p.tables e below (T16.setTop (mkF m 51 #[.val (.int p1), .unset, .unset, .unset] [(.int (7 : Int32)), (.ref b2), (.ref b2)])) _
    refine st17 _ ?_
    show Steps p.tables e below (T17.setTop (mkF m 54 #[.val (.int p1), .unset, .unset, .unset] [(.ref w_INSTANCE_IDENTIFIER), (.int (7 : Int32)), (.ref b2), (.ref b2)])) _
    refine st18 _ ?_
    show Steps p.tables e below (T18.setTop (mkF m 55 #[.val (.int p1), .unset, .unset, .unset] [(.ref b2)])) _
    refine XS.dup X18.here hx rfl (hb hby at_55) rfl rfl ?_
    show Steps p.tables e below (T18.setTop (mkF m 56 #[.val (.int p1), .unset, .unset, .unset] [(.ref b2), (.ref b2)])) _
    refine XS.bipush X18.here hx rfl (hb hby at_56) ?_
    show Steps p.tables e below (T18.setTop (mkF m 58 #[.val (.int p1), .unset, .unset, .unset] [(.int (8 : Int32)), (.ref b2), (.ref b2)])) _
    refine st19 _ ?_
    show Steps p.tables e below (T19.setTop (mkF m 61 #[.val (.int p1), .unset, .unset, .unset] [(.ref w_INT8), (.int (8 : Int32)), (.ref b2), (.ref b2)])) _
    refine st20 _ ?_
    show Steps p.tables e below (T20.setTop (mkF m 62 #[.val (.int p1), .unset, .unset, .unset] [(.ref b2)])) _
    refine XS.dup X20.here hx rfl (hb hby at_62) rfl rfl ?_
    show Steps p.tables e below (T20.setTop (mkF m 63 #[.val (.int p1), .unset, .unset, .unset] [(.ref b2), (.ref b2)])) _
    refine XS.bipush X20.here hx rfl (hb hby at_63) ?_
    show Steps p.tables e below (T20.setTop (mkF m 65 #[.val (.int p1), .unset, .unset, .unset] [(.int (9 : Int32)), (.ref b2), (.ref b2)])) _
    refine st21 _ ?_
    show Steps p.tables e below (T21.setTop (mkF m 68 #[.val (.int p1), .unset, .unset, .unset] [(.ref w_INT16), (.int (9 : Int32)), (.ref b2), (.ref b2)])) _
    refine st22 _ ?_
    show Steps p.tables e below (T22.setTop (mkF m 69 #[.val (.int p1), .unset, .unset, .unset] [(.ref b2)])) _
    refine XS.dup X22.here hx rfl (hb hby at_69) rfl rfl ?_
    show Steps p.tables e below (T22.setTop (mkF m 70 #[.val (.int p1), .unset, .unset, .unset] [(.ref b2), (.ref b2)])) _
    refine XS.bipush X22.here hx rfl (hb hby at_70) ?_
    show Steps p.tables e below (T22.setTop (mkF m 72 #[.val (.int p1), .unset, .unset, .unset] [(.int (10 : Int32)), (.ref b2), (.ref b2)])) _
    refine st23 _ ?_
    show Steps p.tables e below (T23.setTop (mkF m 75 #[.val (.int p1), .unset, .unset, .unset] [(.ref w_INT32), (.int (10 : Int32)), (.ref b2), (.ref b2)])) _
    refine st24 _ ?_
    show Steps p.tables e below (T24.setTop (mkF m 76 #[.val (.int p1), .unset, .unset, .unset] [(.ref b2)])) _
    refine XS.dup X24.here hx rfl (hb hby at_76) rfl rfl ?_
    show Steps p.tables e below (T24.setTop (mkF m 77 #[.val (.int p1), .unset, .unset, .unset] [(.ref b2), (.ref b2)])) _
    refine XS.bipush X24.here hx rfl (hb hby at_77) ?_
    show Steps p.tables e below (T24.setTop (mkF m 79 #[.val (.int p1), .unset, .unset, .unset] [(.int (11 : Int32)), (.ref b2), (.ref b2)])) _
    refine st25 _ ?_
    show Steps p.tables e below (T25.setTop (mkF m 82 #[.val (.int p1), .unset, .unset, .unset] [(.ref w_INT64), (.int (11 : Int32)), (.ref b2), (.ref b2)])) _
    refine st26 _ ?_
    show Steps p.tables e below (T26.setTop (mkF m 83 #[.val (.int p1), .unset, .unset, .unset] [(.ref b2)])) _
    refine XS.dup X26.here hx rfl (hb hby at_83) rfl rfl ?_
    show Steps p.tables e below (T26.setTop (mkF m 84 #[.val (.int p1), .unset, .unset, .unset] [(.ref b2), (.ref b2)])) _
    refine XS.bipush X26.here hx rfl (hb hby at_84) ?_
    show Steps p.tables e below (T26.setTop (mkF m 86 #[.val (.int p1), .unset, .unset, .unset] [(.int (12 : Int32)), (.ref b2), (.ref b2)])) _
    refine st27 _ ?_
    show Steps p.tables e below (T27.setTop (mkF m 89 #[.val (.int p1), .unset, .unset, .unset] [(.ref w_LEAFREF), (.int (12 : Int32)), (.ref b2), (.ref b2)])) _
    refine st28 _ ?_
    show Steps p.tables e below (T28.setTop (mkF m 90 #[.val (.int p1), .unset, .unset, .unset] [(.ref b2)])) _
    refine XS.dup X28.here hx rfl (hb hby at_90) rfl rfl ?_
    show Steps p.tables e below (T28.setTop (mkF m 91 #[.val (.int p1), .unset, .unset, .unset] [(.ref b2), (.ref b2)])) _
    refine XS.bipush X28.here hx rfl (hb hby at_91) ?_
    show Steps p.tables e below (T28.setTop (mkF m 93 #[.val (.int p1), .unset, .unset, .unset] [(.int (13 : Int32)), (.ref b2), (.ref b2)])) _
    refine st29 _ ?_
    show Steps p.tables e below (T29.setTop (mkF m 96 #[.val (.int p1), .unset, .unset, .unset] [(.ref w_STRING), (.int (13 : Int32)), (.ref b2), (.ref b2)])) _
    refine st30 _ ?_
    show Steps p.tables e below (T30.setTop (mkF m 97 #[.val (.int p1), .unset, .unset, .unset] [(.ref b2)])) _
    refine XS.dup X30.here hx rfl (hb hby at_97) rfl rfl ?_
    show Steps p.tables e below (T30.setTop (mkF m 98 #[.val (.int p1), .unset, .unset, .unset] [(.ref b2), (.ref b2)])) _
    refine XS.bipush X30.here hx rfl (hb hby at_98) ?_
    show Steps p.tables e below (T30.setTop (mkF m 100 #[.val (.int p1), .unset, .unset, .unset] [(.int (14 : Int32)), (.ref b2), (.ref b2)])) _
    refine st31 _ ?_
    show Steps p.tables e below (T31.setTop (mkF m 103 #[.val (.int p1), .unset, .unset, .unset] [(.ref w_UINT8), (.int (14 : Int32)), (.ref b2), (.ref b2)])) _
    refine st32 _ ?_
    show Steps p.tables e below (T32.setTop (mkF m 104 #[.val (.int p1), .unset, .unset, .unset] [(.ref b2)])) _
    refine XS.dup X32.here hx rfl (hb hby at_104) rfl rfl ?_
    show Steps p.tables e below (T32.setTop (mkF m 105 #[.val (.int p1), .unset, .unset, .unset] [(.ref b2), (.ref b2)])) _
    refine XS.bipush X32.here hx rfl (hb hby at_105) ?_
    show Steps p.tables e below (T32.setTop (mkF m 107 #[.val (.int p1), .unset, .unset, .unset] [(.int (15 : Int32)), (.ref b2), (.ref b2)])) _
    refine st33 _ ?_
    show Steps p.tables e below (T33.setTop (mkF m 110 #[.val (.int p1), .unset, .unset, .unset] [(.ref w_UINT16), (.int (15 : Int32)), (.ref b2), (.ref b2)])) _
    refine st34 _ ?_
    show Steps p.tables e below (T34.setTop (mkF m 111 #[.val (.int p1), .unset, .unset, .unset] [(.ref b2)])) _
    refine XS.dup X34.here hx rfl (hb hby at_111) rfl rfl ?_
    show Steps p.tables e below (T34.setTop (mkF m 112 #[.val (.int p1), .unset, .unset, .unset] [(.ref b2), (.ref b2)])) _
    refine XS.bipush X34.here hx rfl (hb hby at_112) ?_
    show Steps p.tables e below (T34.setTop (mkF m 114 #[.val (.int p1), .unset, .unset, .unset] [(.int (16 : Int32)), (.ref b2), (.ref b2)])) _
    refine st35 _ ?_
    show Steps p.tables e below (T35.setTop (mkF m 117 #[.val (.int p1), .unset, .unset, .unset] [(.ref w_UINT32), (.int (16 : Int32)), (.ref b2), (.ref b2)])) _
    refine st36 _ ?_
    show Steps p.tables e below (T36.setTop (mkF m 118 #[.val (.int p1), .unset, .unset, .unset] [(.ref b2)])) _
    refine XS.dup X36.here hx rfl (hb hby at_118) rfl rfl ?_
    show Steps p.tables e below (T36.setTop (mkF m 119 #[.val (.int p1), .unset, .unset, .unset] [(.ref b2), (.ref b2)])) _
    refine XS.bipush X36.here hx rfl (hb hby at_119) ?_
    show Steps p.tables e below (T36.setTop (mkF m 121 #[.val (.int p1), .unset, .unset, .unset] [(.int (17 : Int32)), (.ref b2), (.ref b2)])) _
    refine st37 _ ?_
    show Steps p.tables e below (T37.setTop (mkF m 124 #[.val (.int p1), .unset, .unset, .unset] [(.ref w_UINT64), (.int (17 : Int32)), (.ref b2), (.ref b2)])) _
    refine st38 _ ?_
    show Steps p.tables e below (T38.setTop (mkF m 125 #[.val (.int p1), .unset, .unset, .unset] [(.ref b2)])) _
    refine XS.dup X38.here hx rfl (hb hby at_125) rfl rfl ?_
    show Steps p.tables e below (T38.setTop (mkF m 126 #[.val (.int p1), .unset, .unset, .unset] [(.ref b2), (.ref b2)])) _
    refine XS.bipush X38.here hx rfl (hb hby at_126) ?_
    show Steps p.tables e below (T38.setTop (mkF m 128 #[.val (.int p1), .unset, .unset, .unset] [(.int (18 : Int32)), (.ref b2), (.ref b2)])) _
    refine st39 _ ?_
    show Steps p.tables e below (T39.setTop (mkF m 131 #[.val (.int p1), .unset, .unset, .unset] [(.ref w_UNION), (.int (18 : Int32)), (.ref b2), (.ref b2)])) _
    refine st40 _ ?_
    show Steps p.tables e below (T40.setTop (mkF m 132 #[.val (.int p1), .unset, .unset, .unset] [(.ref b2)])) _
    refine XS.astoreN X40.here hx rfl (hb hby at_132) rfl rfl (l' := #[.val (.int p1), .val (.ref b2), .unset, .unset]) rfl ?_
    show Steps p.tables e below (T40.setTop (mkF m 133 #[.val (.int p1), .val (.ref b2), .unset, .unset] [])) _
    refine XS.bipush X40.here hx rfl (hb hby at_133) ?_
    show Steps p.tables e below (T40.setTop (mkF m 135 #[.val (.int p1), .val (.ref b2), .unset, .unset] [(.int (19 : Int32))])) _
    refine st41 _ ?_
    show Steps p.tables e below (T41.setTop (mkF m 137 #[.val (.int p1), .val (.ref b2), .unset, .unset] [(.ref b41)])) _
    refine XS.dup X41.here hx rfl (hb hby at_137) rfl rfl ?_
    show Steps p.tables e below (T41.setTop (mkF m 138 #[.val (.int p1), .val (.ref b2), .unset, .unset] [(.ref b41), (.ref b41)])) _
    refine XS.iconst X41.here hx rfl (hb hby at_138) ?_
    show Steps p.tables e below (T41.setTop (mkF m 139 #[.val (.int p1), .val (.ref b2), .unset, .unset] [(.int (0 : Int32)), (.ref b41), (.ref b41)])) _
    refine XS.iconst X41.here hx rfl (hb hby at_139) ?_
    show Steps p.tables e below (T41.setTop (mkF m 140 #[.val (.int p1), .val (.ref b2), .unset, .unset] [(.int (0 : Int32)), (.int (0 : Int32)), (.ref b41), (.ref b41)])) _
    refine st42 _ ?_
    show Steps p.tables e below (T42.setTop (mkF m 141 #[.val (.int p1), .val (.ref b2), .unset, .unset] [(.ref b41)])) _
    refine XS.dup X42.here hx rfl (hb hby at_141) rfl rfl ?_
    show Steps p.tables e below (T42.setTop (mkF m 142 #[.val (.int p1), .val (.ref b2), .unset, .unset] [(.ref b41), (.ref b41)])) _
    refine XS.iconst X42.here hx rfl (hb hby at_142) ?_
    show Steps p.tables e below (T42.setTop (mkF m 143 #[.val (.int p1), .val (.ref b2), .unset, .unset] [(.int (1 : Int32)), (.ref b41), (.ref b41)])) _
    refine XS.iconst X42.here hx rfl (hb hby at_143) ?_
    show Steps p.tables e below (T42.setTop (mkF m 144 #[.val (.int p1), .val (.ref b2), .unset, .unset] [(.int (0 : Int32)), (.int (1 : Int32)), (.ref b41), (.ref b41)])) _
    refine st43 _ ?_
    show Steps p.tables e below (T43.setTop (mkF m 145 #[.val (.int p1), .val (.ref b2), .unset, .unset] [(.ref b41)])) _
    refine XS.dup X43.here hx rfl (hb hby at_145) rfl rfl ?_
    show Steps p.tables e below (T43.setTop (mkF m 146 #[.val (.int p1), .val (.ref b2), .unset, .unset] [(.ref b41), (.ref b41)])) _
    refine XS.iconst X43.here hx rfl (hb hby at_146) ?_
    show Steps p.tables e below (T43.setTop (mkF m 147 #[.val (.int p1), .val (.ref b2), .unset, .unset] [(.int (2 : Int32)), (.ref b41), (.ref b41)])) _
    refine XS.iconst X43.here hx rfl (hb hby at_147) ?_
    show Steps p.tables e below (T43.setTop (mkF m 148 #[.val (.int p1), .val (.ref b2), .unset, .unset] [(.int (0 : Int32)), (.int (2 : Int32)), (.ref b41), (.ref b41)])) _
    refine st44 _ ?_
    show Steps p.tables e below (T44.setTop (mkF m 149 #[.val (.int p1), .val (.ref b2), .unset, .unset] [(.ref b41)])) _
    refine XS.dup X44.here hx rfl (hb hby at_149) rfl rfl ?_
    show Steps p.tables e below (T44.setTop (mkF m 150 #[.val (.int p1), .val (.ref b2), .unset, .unset] [(.ref b41), (.ref b41)])) _
    refine XS.iconst X44.here hx rfl (hb hby at_150) ?_
    show Steps p.tables e below (T44.setTop (mkF m 151 #[.val (.int p1), .val (.ref b2), .unset, .unset] [(.int (3 : Int32)), (.ref b41), (.ref b41)])) _
    refine XS.iconst X44.here hx rfl (hb hby at_151) ?_
    show Steps p.tables e below (T44.setTop (mkF m 152 #[.val (.int p1), .val (.ref b2), .unset, .unset] [(.int (0 : Int32)), (.int (3 : Int32)), (.ref b41), (.ref b41)])) _
    refine st45 _ ?_
    show Steps p.tables e below (T45.setTop (mkF m 153 #[.val (.int p1), .val (.ref b2), .unset, .unset] [(.ref b41)])) _
    refine XS.dup X45.here hx rfl (hb hby at_153) rfl rfl ?_
    show Steps p.tables e below (T45.setTop (mkF m 154 #[.val (.int p1), .val (.ref b2), .unset, .unset] [(.ref b41), (.ref b41)])) _
    refine XS.iconst X45.here hx rfl (hb hby at_154) ?_
    show Steps p.tables e below (T45.setTop (mkF m 155 #[.val (.int p1), .val (.ref b2), .unset, .unset] [(.int (4 : Int32)), (.ref b41), (.ref b41)])) _
    refine XS.iconst X45.here hx rfl (hb hby at_155) ?_
    show Steps p.tables e below (T45.setTop (mkF m 156 #[.val (.int p1), .val (.ref b2), .unset, .unset] [(.int (0 : Int32)), (.int (4 : Int32)), (.ref b41), (.ref b41)])) _
    refine st46 _ ?_
    show Steps p.tables e below (T46.setTop (mkF m 157 #[.val (.int p1), .val (.ref b2), .unset, .unset] [(.ref b41)])) _
    refine XS.dup X46.here hx rfl (hb hby at_157) rfl rfl ?_
    show Steps p.tables e below (T46.setTop (mkF m 158 #[.val (.int p1), .val (.ref b2), .unset, .unset] [(.ref b41), (.ref b41)])) _
    refine XS.iconst X46.here hx rfl (hb hby at_158) ?_
    show Steps p.tables e below (T46.setTop (mkF m 159 #[.val (.int p1), .val (.ref b2), .unset, .unset] [(.int (5 : Int32)), (.ref b41), (.ref b41)])) _
    refine XS.iconst X46.here hx rfl (hb hby at_159) ?_
    show Steps p.tables e below (T46.setTop (mkF m 160 #[.val (.int p1), .val (.ref b2), .unset, .unset] [(.int (0 : Int32)), (.int (5 : Int32)), (.ref b41), (.ref b41)])) _
    refine st47 _ ?_
    show Steps p.tables e below (T47.setTop (mkF m 161 #[.val (.int p1), .val (.ref b2), .unset, .unset] [(.ref b41)])) _
    refine XS.dup X47.here hx rfl (hb hby at_161) rfl rfl ?_
    show Steps p.tables e below (T47.setTop (mkF m 162 #[.val (.int p1), .val (.ref b2), .unset, .unset] [(.ref b41), (.ref b41)])) _
    refine XS.bipush X47.here hx rfl (hb hby at_162) ?_
    show Steps p.tables e below (T47.setTop (mkF m 164 #[.val (.int p1), .val (.ref b2), .unset, .unset] [(.int (6 : Int32)), (.ref b41), (.ref b41)])) _
    refine XS.iconst X47.here hx rfl (hb hby at_164) ?_
    show Steps p.tables e below (T47.setTop (mkF m 165 #[.val (.int p1), .val (.ref b2), .unset, .unset] [(.int (0 : Int32)), (.int (6 : Int32)), (.ref b41), (.ref b41)])) _
    refine st48 _ ?_
    show Steps p.tables e below (T48.setTop (mkF m 166 #[.val (.int p1), .val (.ref b2), .unset, .unset] [(.ref b41)])) _
    refine XS.dup X48.here hx rfl (hb hby at_166) rfl rfl ?_
    show Steps p.tables e below (T48.setTop (mkF m 167 #[.val (.int p1), .val (.ref b2), .unset, .unset] [(.ref b41), (.ref b41)])) _
    refine XS.bipush X48.here hx rfl (hb hby at_167) ?_
    show Steps p.tables e below (T48.setTop (mkF m 169 #[.val (.int p1), .val (.ref b2), .unset, .unset] [(.int (7 : Int32)), (.ref b41), (.ref b41)])) _
    refine XS.iconst X48.here hx rfl (hb hby at_169) ?_
    show Steps p.tables e below (T48.setTop (mkF m 170 #[.val (.int p1), .val (.ref b2), .unset, .unset] [(.int (0 : Int32)), (.int (7 : Int32)), (.ref b41), (.ref b41)])) _
    refine st49 _ ?_
    show Steps p.tables e below (T49.setTop (mkF m 171 #[.val (.int p1), .val (.ref b2), .unset, .unset] [(.ref b41)])) _
    refine XS.dup X49.here hx rfl (hb hby at_171) rfl rfl ?_
    show Steps p.tables e below (T49.setTop (mkF m 172 #[.val (.int p1), .val (.ref b2), .unset, .unset] [(.ref b41), (.ref b41)])) _
    refine XS.bipush X49.here hx rfl (hb hby at_172) ?_
    show Steps p.tables e below (T49.setTop (mkF m 174 #[.val (.int p1), .val (.ref b2), .unset, .unset] [(.int (8 : Int32)), (.ref b41), (.ref b41)])) _
    refine XS.iconst X49.here hx rfl (hb hby at_174) ?_
    show Steps p.tables e below (T49.setTop (mkF m 175 #[.val (.int p1), .val (.ref b2), .unset, .unset] [(.int (1 : Int32)), (.int (8 : Int32)), (.ref b41), (.ref b41)])) _
    refine st50 _ ?_
    show Steps p.tables e below (T50.setTop (mkF m 176 #[.val (.int p1), .val (.ref b2), .unset, .unset] [(.ref b41)])) _
    refine XS.dup X50.here hx rfl (hb hby at_176) rfl rfl ?_
    show Steps p.tables e below (T50.setTop (mkF m 177 #[.val (.int p1), .val (.ref b2), .unset, .unset] [(.ref b41), (.ref b41)])) _
    refine XS.bipush X50.here hx rfl (hb hby at_177) ?_
    show Steps p.tables e below (T50.setTop (mkF m 179 #[.val (.int p1), .val (.ref b2), .unset, .unset] [(.int (9 : Int32)), (.ref b41), (.ref b41)])) _
    refine XS.iconst X50.here hx rfl (hb hby at_179) ?_
    show Steps p.tables e below (T50.setTop (mkF m 180 #[.val (.int p1), .val (.ref b2), .unset, .unset] [(.int (1 : Int32)), (.int (9 : Int32)), (.ref b41), (.ref b41)])) _
    refine st51 _ ?_
    show Steps p.tables e below (T51.setTop (mkF m 181 #[.val (.int p1), .val (.ref b2), .unset, .unset] [(.ref b41)])) _
    refine XS.dup X51.here hx rfl (hb hby at_181) rfl rfl ?_
    show Steps p.tables e below (T51.setTop (mkF m 182 #[.val (.int p1), .val (.ref b2), .unset, .unset] [(.ref b41), (.ref b41)])) _
    refine XS.bipush X51.here hx rfl (hb hby at_182) ?_
    show Steps p.tables e below (T51.setTop (mkF m 184 #[.val (.int p1), .val (.ref b2), .unset, .unset] [(.int (10 : Int32)), (.ref b41), (.ref b41)])) _
    refine XS.iconst X51.here hx rfl (hb hby at_184) ?_
    show Steps p.tables e below (T51.setTop (mkF m 185 #[.val (.int p1), .val (.ref b2), .unset, .unset] [(.int (1 : Int32)), (.int (10 : Int32)), (.ref b41), (.ref b41)])) _
    refine st52 _ ?_
    show Steps p.tables e below (T52.setTop (mkF m 186 #[.val (.int p1), .val (.ref b2), .unset, .unset] [(.ref b41)])) _
    refine XS.dup X52.here hx rfl (hb hby at_186) rfl rfl ?_
    show Steps p.tables e below (T52.setTop (mkF m 187 #[.val (.int p1), .val (.ref b2), .unset, .unset] [(.ref b41), (.ref b41)])) _
    refine XS.bipush X52.here hx rfl (hb hby at_187) ?_
    show Steps p.tables e below (T52.setTop (mkF m 189 #[.val (.int p1), .val (.ref b2), .unset, .unset] [(.int (11 : Int32)), (.ref b41), (.ref b41)])) _
    refine XS.iconst X52.here hx rfl (hb hby at_189) ?_
    show Steps p.tables e below (T52.setTop (mkF m 190 #[.val (.int p1), .val (.ref b2), .unset, .unset] [(.int (1 : Int32)), (.int (11 : Int32)), (.ref b41), (.ref b41)])) _
    refine st53 _ ?_
    show Steps p.tables e below (T53.setTop (mkF m 191 #[.val (.int p1), .val (.ref b2), .unset, .unset] [(.ref b41)])) _
    refine XS.dup X53.here hx rfl (hb hby at_191) rfl rfl ?_
    show Steps p.tables e below (T53.setTop (mkF m 192 #[.val (.int p1), .val (.ref b2), .unset, .unset] [(.ref b41), (.ref b41)])) _
    refine XS.bipush X53.here hx rfl (hb hby at_192) ?_
    show Steps p.tables e below (T53.setTop (mkF m 194 #[.val (.int p1), .val (.ref b2), .unset, .unset] [(.int (12 : Int32)), (.ref b41), (.ref b41)])) _
    refine XS.iconst X53.here hx rfl (hb hby at_194) ?_
    show Steps p.tables e below (T53.setTop (mkF m 195 #[.val (.int p1), .val (.ref b2), .unset, .unset] [(.int (0 : Int32)), (.int (12 : Int32)), (.ref b41), (.ref b41)])) _
    refine st54 _ ?_
    show Steps p.tables e below (T54.setTop (mkF m 196 #[.val (.int p1), .val (.ref b2), .unset, .unset] [(.ref b41)])) _
    refine XS.dup X54.here hx rfl (hb hby at_196) rfl rfl ?_
    show Steps p.tables e below (T54.setTop (mkF m 197 #[.val (.int p1), .val (.ref b2), .unset, .unset] [(.ref b41), (.ref b41)])) _
    refine XS.bipush X54.here hx rfl (hb hby at_197) ?_
    show Steps p.tables e below (T54.setTop (mkF m 199 #[.val (.int p1), .val (.ref b2), .unset, .unset] [(.int (13 : Int32)), (.ref b41), (.ref b41)])) _
    refine XS.iconst X54.here hx rfl (hb hby at_199) ?_
    show Steps p.tables e below (T54.setTop (mkF m 200 #[.val (.int p1), .val (.ref b2), .unset, .unset] [(.int (0 : Int32)), (.int (13 : Int32)), (.ref b41), (.ref b41)])) _
    refine st55 _ ?_
    show Steps p.tables e below (T55.setTop (mkF m 201 #[.val (.int p1), .val (.ref b2), .unset, .unset] [(.ref b41)])) _
    refine XS.dup X55.here hx rfl (hb hby at_201) rfl rfl ?_
    show Steps p.tables e below (T55.setTop (mkF m 202 #[.val (.int p1), .val (.ref b2), .unset, .unset] [(.ref b41), (.ref b41)])) _
    refine XS.bipush X55.here hx rfl (hb hby at_202) ?_
    show Steps p.tables e below (T55.setTop (mkF m 204 #[.val (.int p1), .val (.ref b2), .unset, .unset] [(.int (14 : Int32)), (.ref b41), (.ref b41)])) _
    refine XS.iconst X55.here hx rfl (hb hby at_204) ?_
    show Steps p.tables e below (T55.setTop (mkF m 205 #[.val (.int p1), .val (.ref b2), .unset, .unset] [(.int (1 : Int32)), (.int (14 : Int32)), (.ref b41), (.ref b41)])) _
    refine st56 _ ?_
    show Steps p.tables e below (T56.setTop (mkF m 206 #[.val (.int p1), .val (.ref b2), .unset, .unset] [(.ref b41)])) _
    refine XS.dup X56.here hx rfl (hb hby at_206) rfl rfl ?_
    show Steps p.tables e below (T56.setTop (mkF m 207 #[.val (.int p1), .val (.ref b2), .unset, .unset] [(.ref b41), (.ref b41)])) _
    refine XS.bipush X56.here hx rfl (hb hby at_207) ?_
    show Steps p.tables e below (T56.setTop (mkF m 209 #[.val (.int p1), .val (.ref b2), .unset, .unset] [(.int (15 : Int32)), (.ref b41), (.ref b41)])) _
    refine XS.iconst X56.here hx rfl (hb hby at_209) ?_
    show Steps p.tables e below (T56.setTop (mkF m 210 #[.val (.int p1), .val (.ref b2), .unset, .unset] [(.int (1 : Int32)), (.int (15 : Int32)), (.ref b41), (.ref b41)])) _
    refine st57 _ ?_
    show Steps p.tables e below (T57.setTop (mkF m 211 #[.val (.int p1), .val (.ref b2), .unset, .unset] [(.ref b41)])) _
    refine XS.dup X57.here hx rfl (hb hby at_211) rfl rfl ?_
    show Steps p.tables e below (T57.setTop (mkF m 212 #[.val (.int p1), .val (.ref b2), .unset, .unset] [(.ref b41), (.ref b41)])) _
    refine XS.bipush X57.here hx rfl (hb hby at_212) ?_
    show Steps p.tables e below (T57.setTop (mkF m 214 #[.val (.int p1), .val (.ref b2), .unset, .unset] [(.int (16 : Int32)), (.ref b41), (.ref b41)])) _
    refine XS.iconst X57.here hx rfl (hb hby at_214) ?_
    show Steps p.tables e below (T57.setTop (mkF m 215 #[.val (.int p1), .val (.ref b2), .unset, .unset] [(.int (1 : Int32)), (.int (16 : Int32)), (.ref b41), (.ref b41)])) _
    refine st58 _ ?_
    show Steps p.tables e below (T58.setTop (mkF m 216 #[.val (.int p1), .val (.ref b2), .unset, .unset] [(.ref b41)])) _
    refine XS.dup X58.here hx rfl (hb hby at_216) rfl rfl ?_
    show Steps p.tables e below (T58.setTop (mkF m 217 #[.val (.int p1), .val (.ref b2), .unset, .unset] [(.ref b41), (.ref b41)])) _
    refine XS.bipush X58.here hx rfl (hb hby at_217) ?_
    show Steps p.tables e below (T58.setTop (mkF m 219 #[.val (.int p1), .val (.ref b2), .unset, .unset] [(.int (17 : Int32)), (.ref b41), (.ref b41)])) _
    refine XS.iconst X58.here hx rfl (hb hby at_219) ?_
    show Steps p.tables e below (T58.setTop (mkF m 220 #[.val (.int p1), .val (.ref b2), .unset, .unset] [(.int (1 : Int32)), (.int (17 : Int32)), (.ref b41), (.ref b41)])) _
    refine st59 _ ?_
    show Steps p.tables e below (T59.setTop (mkF m 221 #[.val (.int p1), .val (.ref b2), .unset, .unset] [(.ref b41)])) _
    refine XS.dup X59.here hx rfl (hb hby at_221) rfl rfl ?_
    show Steps p.tables e below (T59.setTop (mkF m 222 #[.val (.int p1), .val (.ref b2), .unset, .unset] [(.ref b41), (.ref b41)])) _
    refine XS.bipush X59.here hx rfl (hb hby at_222) ?_
    show Steps p.tables e below (T59.setTop (mkF m 224 #[.val (.int p1), .val (.ref b2), .unset, .unset] [(.int (18 : Int32)), (.ref b41), (.ref b41)])) _
    refine XS.iconst X59.here hx rfl (hb hby at_224) ?_
    show Steps p.tables e below (T59.setTop (mkF m 225 #[.val (.int p1), .val (.ref b2), .unset, .unset] [(.int (0 : Int32)), (.int (18 : Int32)), (.ref b41), (.ref b41)])) _
    refine st60 _ ?_
    show Steps p.tables e below (T60.setTop (mkF m 226 #[.val (.int p1), .val (.ref b2), .unset, .unset] [(.ref b41)])) _
    refine XS.astoreN X60.here hx rfl (hb hby at_226) rfl rfl (l' := #[.val (.int p1), .val (.ref b2), .val (.ref b41), .unset]) rfl ?_
    show Steps p.tables e below (T60.setTop (mkF m 227 #[.val (.int p1), .val (.ref b2), .val (.ref b41), .unset] [])) _
    refine XS.iloadN X60.here hx rfl (hb hby at_227) rfl ?_
    show Steps p.tables e below (T60.setTop (mkF m 228 #[.val (.int p1), .val (.ref b2), .val (.ref b41), .unset] [(.int p1)])) _
    refine X60.ldcInt hx hown (mvT hZ (hw _ (List.mem_of_getElem? (i := 43) rfl))) (g := (mkF m 228 #[.val (.int p1), .val (.ref b2), .val (.ref b41), .unset] [(.int p1)])) rfl (hb hby at_228) _ ?_
    show Steps p.tables e below (T60.setTop (mkF m 230 #[.val (.int p1), .val (.ref b2), .val (.ref b41), .unset] [(.int (2147483647 : Int32)), (.int p1)])) _
    refine XS.iand X60.here hx rfl (hb hby at_230) rfl ?_
    show Steps p.tables e below (T60.setTop (mkF m 231 #[.val (.int p1), .val (.ref b2), .val (.ref b41), .unset] [(.int (p1 &&& (2147483647 : Int32)))])) _
    refine XS.bipush X60.here hx rfl (hb hby at_231) ?_
    show Steps p.tables e below (T60.setTop (mkF m 233 #[.val (.int p1), .val (.ref b2), .val (.ref b41), .unset] [(.int (19 : Int32)), (.int (p1 &&& (2147483647 : Int32)))])) _
    refine iremM X60 hx rfl (hb hby at_233) rfl (by decide) ?_
    rw [hj]
    show Steps p.tables e below (T60.setTop (mkF m 234 #[.val (.int p1), .val (.ref b2), .val (.ref b41), .unset] [(.int j)])) _
    refine XS.istoreN X60.here hx rfl (hb hby at_234) rfl (l' := #[.val (.int p1), .val (.ref b2), .val (.ref b41), .val (.int j)]) rfl ?_
    show Steps p.tables e below (T60.setTop (mkF m 235 #[.val (.int p1), .val (.ref b2), .val (.ref b41), .val (.int j)] [])) _
    refine XS.aloadN X60.here hx rfl (hb hby at_235) rfl rfl ?_
    show Steps p.tables e below (T60.setTop (mkF m 236 #[.val (.int p1), .val (.ref b2), .val (.ref b41), .val (.int j)] [(.ref b2)])) _
    refine XS.iloadN X60.here hx rfl (hb hby at_236) rfl ?_
    show Steps p.tables e below (T60.setTop (mkF m 237 #[.val (.int p1), .val (.ref b2), .val (.ref b41), .val (.int j)] [(.int j), (.ref b2)])) _
    refine X60.aaload hx (j := j) (v := (.ref wj)) (by rw [e60]; exact Ar61.1) (State.isArrayOf_alike hZ.alike Ar61.2.1) rfl Ar61.2.2 hin61 (Has.at H61 hin61 hu) (g := (mkF m 237 #[.val (.int p1), .val (.ref b2), .val (.ref b41), .val (.int j)] [(.int j), (.ref b2)])) rfl rfl (hb hby at_237) _ ?_
    show Steps p.tables e below (T60.setTop (mkF m 238 #[.val (.int p1), .val (.ref b2), .val (.ref b41), .val (.int j)] [(.ref wj)])) _
    refine st62.trans ?_
    show Steps p.tables e below (T62.setTop (mkF m 241 #[.val (.int p1), .val (.ref b2), .val (.ref b41), .val (.int j)] [(.int bj)])) _
    refine XS.aloadN X62.here hx rfl (hb hby at_241) rfl rfl ?_
    show Steps p.tables e below (T62.setTop (mkF m 242 #[.val (.int p1), .val (.ref b2), .val (.ref b41), .val (.int j)] [(.ref b41), (.int bj)])) _
    refine XS.iloadN X62.here hx rfl (hb hby at_242) rfl ?_
    show Steps p.tables e below (T62.setTop (mkF m 243 #[.val (.int p1), .val (.ref b2), .val (.ref b41), .val (.int j)] [(.int j), (.ref b41), (.int bj)])) _
    refine X62.baloadBooleans hx (j := j) (v := (.int bj)) (by rw [e62]; exact Ar63.1) (State.isArrayOf_alike hZ.alike Ar63.2.1) Ar63.2.2 hin63 (Has.at H63 hin63 hv) (g := (mkF m 243 #[.val (.int p1), .val (.ref b2), .val (.ref b41), .val (.int j)] [(.int j), (.ref b41), (.int bj)])) rfl rfl (hb hby at_243) _ ?_
    show Steps p.tables e below (T62.setTop (mkF m 244 #[.val (.int p1), .val (.ref b2), .val (.ref b41), .val (.int j)] [(.int bj), (.int bj)])) _
    refine XS.icmpNo X62.here hx rfl (hb hby at_244) rfl (teq (rfl : bj = bj)).2 ?_
    show Steps p.tables e below (T62.setTop (mkF m 247 #[.val (.int p1), .val (.ref b2), .val (.ref b41), .val (.int j)] [])) _
    refine XS.iconst X62.here hx rfl (hb hby at_247) ?_
    show Steps p.tables e below (T62.setTop (mkF m 248 #[.val (.int p1), .val (.ref b2), .val (.ref b41), .val (.int j)] [(.int (1 : Int32))])) _
    refine XS.goto X62.here hx rfl (pc0 := 248) (pc' := 252) rfl (hb hby at_248) (by decide) (by decide) ?_
    show Steps p.tables e below (T62.setTop (mkF m 252 #[.val (.int p1), .val (.ref b2), .val (.ref b41), .val (.int j)] [(.int (1 : Int32))])) _
    exact retN X62 hx (t := .boolean) Bd.returns (by simp) (hb hby at_252) hr
  · show (own_one n0) _ T62.heap _
    exact ⟨rfl, N62⟩
theorem own_mod (p1 : Int32) : ¬ ((p1 &&& (2147483647 : Int32)) % (19 : Int32)) < 0 ∧ (p1 &&& (2147483647 : Int32)) % (19 : Int32) < (19 : Int32) := by
  have hnn : 0 ≤ (p1 &&& (2147483647 : Int32)).toInt := by
    have e : (p1 &&& (2147483647 : Int32)).toBitVec = p1.toBitVec &&& 2147483647#32 := rfl
    show 0 ≤ (p1 &&& (2147483647 : Int32)).toBitVec.toInt
    rw [e, BitVec.toInt_eq_toNat_cond, BitVec.toNat_and]
    have q : p1.toBitVec.toNat &&& (2147483647#32).toNat ≤ 2147483647 := Nat.and_le_right
    rw [if_pos (by omega)]
    omega
  have hm : ((p1 &&& (2147483647 : Int32)) % (19 : Int32)).toInt = (p1 &&& (2147483647 : Int32)).toInt.tmod 19 := Int32.toInt_mod _ _
  have e0 : (0 : Int32).toInt = 0 := rfl
  have eK : (19 : Int32).toInt = 19 := rfl
  rw [Int32.lt_iff_toInt_lt, Int32.lt_iff_toInt_lt, hm, e0, eK, Int.tmod_eq_emod_of_nonneg hnn]
  omega
theorem own_cases {j : Int32} (h0 : ¬ j < 0) (h1 : j < (19 : Int32)) : j = (0 : Int32) ∨ j = (1 : Int32) ∨ j = (2 : Int32) ∨ j = (3 : Int32) ∨ j = (4 : Int32) ∨ j = (5 : Int32) ∨ j = (6 : Int32) ∨ j = (7 : Int32) ∨ j = (8 : Int32) ∨ j = (9 : Int32) ∨ j = (10 : Int32) ∨ j = (11 : Int32) ∨ j = (12 : Int32) ∨ j = (13 : Int32) ∨ j = (14 : Int32) ∨ j = (15 : Int32) ∨ j = (16 : Int32) ∨ j = (17 : Int32) ∨ j = (18 : Int32) := by
  rw [Int32.lt_iff_toInt_lt] at h0 h1
  simp only [← Int32.toInt_inj]
  have e0 : (0 : Int32).toInt = 0 := rfl
  have e1 : (1 : Int32).toInt = 1 := rfl
  have e2 : (2 : Int32).toInt = 2 := rfl
  have e3 : (3 : Int32).toInt = 3 := rfl
  have e4 : (4 : Int32).toInt = 4 := rfl
  have e5 : (5 : Int32).toInt = 5 := rfl
  have e6 : (6 : Int32).toInt = 6 := rfl
  have e7 : (7 : Int32).toInt = 7 := rfl
  have e8 : (8 : Int32).toInt = 8 := rfl
  have e9 : (9 : Int32).toInt = 9 := rfl
  have e10 : (10 : Int32).toInt = 10 := rfl
  have e11 : (11 : Int32).toInt = 11 := rfl
  have e12 : (12 : Int32).toInt = 12 := rfl
  have e13 : (13 : Int32).toInt = 13 := rfl
  have e14 : (14 : Int32).toInt = 14 := rfl
  have e15 : (15 : Int32).toInt = 15 := rfl
  have e16 : (16 : Int32).toInt = 16 := rfl
  have e17 : (17 : Int32).toInt = 17 := rfl
  have e18 : (18 : Int32).toInt = 18 := rfl
  have e19 : (19 : Int32).toInt = 19 := rfl
  simp only [e0, e1, e2, e3, e4, e5, e6, e7, e8, e9, e10, e11, e12, e13, e14, e15, e16, e17, e18, e19] at *
  omega
set_option maxRecDepth 65536 in
set_option maxHeartbeats 40000000 in
theorem comes_1 {Post : Tables → Env → Array Value → State → Outcome → State → Prop} (hpost : ∀ tb e args s v u, (limb_1_1.after args s (.returned v) u = true ∧ limb_1_2.after args s (.returned v) u = true ∧ True) → FrameEnd s (.returned v) u (Jvm.fieldLocs frame_1_writes args s ++ Jvm.arrayLocs frame_1_arrays args s ++ Jvm.staticLocs frame_1_statics s) 16 192 → Post tb e args s (.returned v) u) :
    ArmFor flags0 classFile x code maxLocals ret World_1 tables_1 room_1 Calls_1 rest_1 Pre_1 Post := by
  intro l hfl _ _ p e ha hc hk s m args below hf hA hF happ hP
  obtain ⟨hcalls, hrest, hpre⟩ := hP
  obtain ⟨-, -, -, hnamed, -, -, -, hat⟩ := (Spec.applies_iff hf).mp happ
  obtain ⟨hg, hn⟩ := and_e (Cond.before_iff.mp (show (Jvm.Cond.and given_1 narrow_1).before args s = true from hpre))
  obtain ⟨g1, g2⟩ := and_e hg
  obtain ⟨w0, rfl⟩ : ∃ w0 : Value, args = #[w0] := by
    have hs : args.size = 1 := by simpa [Cond.value, given_1] using g1
    obtain ⟨L⟩ := args
    match L, hs with
    | [w0], _ => exact ⟨w0, rfl⟩
  have hw := fun d (hd : d ∈ tables_1) => atoms_spec (ws := Jvm.Cond.code x code maxLocals ret :: tables_1) hat d (List.mem_cons_of_mem _ hd)
  obtain ⟨i0, ei0⟩ := is_v g2
  obtain rfl : w0 = (.int i0) := Option.some.inj ei0
  obtain ⟨m0, hn⟩ := and_e hn
  obtain ⟨m1, hn⟩ := and_e hn
  obtain ⟨m2, hn⟩ := and_e hn
  obtain ⟨m3, hn⟩ := and_e hn
  obtain ⟨m4, hn⟩ := and_e hn
  obtain ⟨m5, hn⟩ := and_e hn
  obtain ⟨m6, hn⟩ := and_e hn
  obtain ⟨m7, hn⟩ := and_e hn
  obtain ⟨m8, hn⟩ := and_e hn
  obtain ⟨m9, hn⟩ := and_e hn
  obtain ⟨m10, hn⟩ := and_e hn
  obtain ⟨m11, hn⟩ := and_e hn
  obtain ⟨m12, hn⟩ := and_e hn
  obtain ⟨m13, hn⟩ := and_e hn
  obtain ⟨m14, hn⟩ := and_e hn
  obtain ⟨m15, hn⟩ := and_e hn
  obtain ⟨m16, hn⟩ := and_e hn
  obtain ⟨m17, hn⟩ := and_e hn
  obtain ⟨m18, hn⟩ := and_e hn
  obtain ⟨m19, hn⟩ := and_e hn
  obtain ⟨m20, hn⟩ := and_e hn
  obtain ⟨m21, hn⟩ := and_e hn
  obtain ⟨m22, hn⟩ := and_e hn
  obtain ⟨m23, hn⟩ := and_e hn
  obtain ⟨m24, hn⟩ := and_e hn
  obtain ⟨m25, hn⟩ := and_e hn
  obtain ⟨m26, hn⟩ := and_e hn
  obtain ⟨m27, hn⟩ := and_e hn
  obtain ⟨m28, hn⟩ := and_e hn
  obtain ⟨m29, hn⟩ := and_e hn
  obtain ⟨m30, hn⟩ := and_e hn
  obtain ⟨m31, hn⟩ := and_e hn
  obtain ⟨m32, hn⟩ := and_e hn
  obtain ⟨m33, hn⟩ := and_e hn
  obtain ⟨m34, hn⟩ := and_e hn
  obtain ⟨m35, hn⟩ := and_e hn
  obtain ⟨m36, hn⟩ := and_e hn
  have m37 := hn
  obtain ⟨w_BINARY, ev_BINARY⟩ := exa_v m0
  have E_BINARY : Exa s s.heap w_BINARY "com/example/yangsmith/yangsmith/schema/BuiltInType" := Exa.start ev_BINARY m0
  have S_BINARY : Sta s s.heap "com/example/yangsmith/yangsmith/schema/BuiltInType" "BINARY" "Lcom/example/yangsmith/yangsmith/schema/BuiltInType;" (.ref w_BINARY) := Sta.start ev_BINARY (Or.inr ⟨(hw _ (List.mem_of_getElem? (i := 3) rfl)), (hw _ (List.mem_of_getElem? (i := 4) rfl))⟩)
  obtain ⟨w_BITS, ev_BITS⟩ := exa_v m1
  have E_BITS : Exa s s.heap w_BITS "com/example/yangsmith/yangsmith/schema/BuiltInType" := Exa.start ev_BITS m1
  have S_BITS : Sta s s.heap "com/example/yangsmith/yangsmith/schema/BuiltInType" "BITS" "Lcom/example/yangsmith/yangsmith/schema/BuiltInType;" (.ref w_BITS) := Sta.start ev_BITS (Or.inr ⟨(hw _ (List.mem_of_getElem? (i := 3) rfl)), (hw _ (List.mem_of_getElem? (i := 7) rfl))⟩)
  obtain ⟨w_BOOLEAN, ev_BOOLEAN⟩ := exa_v m2
  have E_BOOLEAN : Exa s s.heap w_BOOLEAN "com/example/yangsmith/yangsmith/schema/BuiltInType" := Exa.start ev_BOOLEAN m2
  have S_BOOLEAN : Sta s s.heap "com/example/yangsmith/yangsmith/schema/BuiltInType" "BOOLEAN" "Lcom/example/yangsmith/yangsmith/schema/BuiltInType;" (.ref w_BOOLEAN) := Sta.start ev_BOOLEAN (Or.inr ⟨(hw _ (List.mem_of_getElem? (i := 3) rfl)), (hw _ (List.mem_of_getElem? (i := 9) rfl))⟩)
  obtain ⟨w_DECIMAL64, ev_DECIMAL64⟩ := exa_v m3
  have E_DECIMAL64 : Exa s s.heap w_DECIMAL64 "com/example/yangsmith/yangsmith/schema/BuiltInType" := Exa.start ev_DECIMAL64 m3
  have S_DECIMAL64 : Sta s s.heap "com/example/yangsmith/yangsmith/schema/BuiltInType" "DECIMAL64" "Lcom/example/yangsmith/yangsmith/schema/BuiltInType;" (.ref w_DECIMAL64) := Sta.start ev_DECIMAL64 (Or.inr ⟨(hw _ (List.mem_of_getElem? (i := 3) rfl)), (hw _ (List.mem_of_getElem? (i := 11) rfl))⟩)
  obtain ⟨w_EMPTY, ev_EMPTY⟩ := exa_v m4
  have E_EMPTY : Exa s s.heap w_EMPTY "com/example/yangsmith/yangsmith/schema/BuiltInType" := Exa.start ev_EMPTY m4
  have S_EMPTY : Sta s s.heap "com/example/yangsmith/yangsmith/schema/BuiltInType" "EMPTY" "Lcom/example/yangsmith/yangsmith/schema/BuiltInType;" (.ref w_EMPTY) := Sta.start ev_EMPTY (Or.inr ⟨(hw _ (List.mem_of_getElem? (i := 3) rfl)), (hw _ (List.mem_of_getElem? (i := 13) rfl))⟩)
  obtain ⟨w_ENUMERATION, ev_ENUMERATION⟩ := exa_v m5
  have E_ENUMERATION : Exa s s.heap w_ENUMERATION "com/example/yangsmith/yangsmith/schema/BuiltInType" := Exa.start ev_ENUMERATION m5
  have S_ENUMERATION : Sta s s.heap "com/example/yangsmith/yangsmith/schema/BuiltInType" "ENUMERATION" "Lcom/example/yangsmith/yangsmith/schema/BuiltInType;" (.ref w_ENUMERATION) := Sta.start ev_ENUMERATION (Or.inr ⟨(hw _ (List.mem_of_getElem? (i := 3) rfl)), (hw _ (List.mem_of_getElem? (i := 15) rfl))⟩)
  obtain ⟨w_IDENTITYREF, ev_IDENTITYREF⟩ := exa_v m6
  have E_IDENTITYREF : Exa s s.heap w_IDENTITYREF "com/example/yangsmith/yangsmith/schema/BuiltInType" := Exa.start ev_IDENTITYREF m6
  have S_IDENTITYREF : Sta s s.heap "com/example/yangsmith/yangsmith/schema/BuiltInType" "IDENTITYREF" "Lcom/example/yangsmith/yangsmith/schema/BuiltInType;" (.ref w_IDENTITYREF) := Sta.start ev_IDENTITYREF (Or.inr ⟨(hw _ (List.mem_of_getElem? (i := 3) rfl)), (hw _ (List.mem_of_getElem? (i := 17) rfl))⟩)
  obtain ⟨w_INSTANCE_IDENTIFIER, ev_INSTANCE_IDENTIFIER⟩ := exa_v m7
  have E_INSTANCE_IDENTIFIER : Exa s s.heap w_INSTANCE_IDENTIFIER "com/example/yangsmith/yangsmith/schema/BuiltInType" := Exa.start ev_INSTANCE_IDENTIFIER m7
  have S_INSTANCE_IDENTIFIER : Sta s s.heap "com/example/yangsmith/yangsmith/schema/BuiltInType" "INSTANCE_IDENTIFIER" "Lcom/example/yangsmith/yangsmith/schema/BuiltInType;" (.ref w_INSTANCE_IDENTIFIER) := Sta.start ev_INSTANCE_IDENTIFIER (Or.inr ⟨(hw _ (List.mem_of_getElem? (i := 3) rfl)), (hw _ (List.mem_of_getElem? (i := 19) rfl))⟩)
  obtain ⟨w_INT8, ev_INT8⟩ := exa_v m8
  have E_INT8 : Exa s s.heap w_INT8 "com/example/yangsmith/yangsmith/schema/BuiltInType" := Exa.start ev_INT8 m8
  have S_INT8 : Sta s s.heap "com/example/yangsmith/yangsmith/schema/BuiltInType" "INT8" "Lcom/example/yangsmith/yangsmith/schema/BuiltInType;" (.ref w_INT8) := Sta.start ev_INT8 (Or.inr ⟨(hw _ (List.mem_of_getElem? (i := 3) rfl)), (hw _ (List.mem_of_getElem? (i := 21) rfl))⟩)
  obtain ⟨w_INT16, ev_INT16⟩ := exa_v m9
  have E_INT16 : Exa s s.heap w_INT16 "com/example/yangsmith/yangsmith/schema/BuiltInType" := Exa.start ev_INT16 m9
  have S_INT16 : Sta s s.heap "com/example/yangsmith/yangsmith/schema/BuiltInType" "INT16" "Lcom/example/yangsmith/yangsmith/schema/BuiltInType;" (.ref w_INT16) := Sta.start ev_INT16 (Or.inr ⟨(hw _ (List.mem_of_getElem? (i := 3) rfl)), (hw _ (List.mem_of_getElem? (i := 23) rfl))⟩)
  obtain ⟨w_INT32, ev_INT32⟩ := exa_v m10
  have E_INT32 : Exa s s.heap w_INT32 "com/example/yangsmith/yangsmith/schema/BuiltInType" := Exa.start ev_INT32 m10
  have S_INT32 : Sta s s.heap "com/example/yangsmith/yangsmith/schema/BuiltInType" "INT32" "Lcom/example/yangsmith/yangsmith/schema/BuiltInType;" (.ref w_INT32) := Sta.start ev_INT32 (Or.inr ⟨(hw _ (List.mem_of_getElem? (i := 3) rfl)), (hw _ (List.mem_of_getElem? (i := 25) rfl))⟩)
  obtain ⟨w_INT64, ev_INT64⟩ := exa_v m11
  have E_INT64 : Exa s s.heap w_INT64 "com/example/yangsmith/yangsmith/schema/BuiltInType" := Exa.start ev_INT64 m11
  have S_INT64 : Sta s s.heap "com/example/yangsmith/yangsmith/schema/BuiltInType" "INT64" "Lcom/example/yangsmith/yangsmith/schema/BuiltInType;" (.ref w_INT64) := Sta.start ev_INT64 (Or.inr ⟨(hw _ (List.mem_of_getElem? (i := 3) rfl)), (hw _ (List.mem_of_getElem? (i := 27) rfl))⟩)
  obtain ⟨w_LEAFREF, ev_LEAFREF⟩ := exa_v m12
  have E_LEAFREF : Exa s s.heap w_LEAFREF "com/example/yangsmith/yangsmith/schema/BuiltInType" := Exa.start ev_LEAFREF m12
  have S_LEAFREF : Sta s s.heap "com/example/yangsmith/yangsmith/schema/BuiltInType" "LEAFREF" "Lcom/example/yangsmith/yangsmith/schema/BuiltInType;" (.ref w_LEAFREF) := Sta.start ev_LEAFREF (Or.inr ⟨(hw _ (List.mem_of_getElem? (i := 3) rfl)), (hw _ (List.mem_of_getElem? (i := 29) rfl))⟩)
  obtain ⟨w_STRING, ev_STRING⟩ := exa_v m13
  have E_STRING : Exa s s.heap w_STRING "com/example/yangsmith/yangsmith/schema/BuiltInType" := Exa.start ev_STRING m13
  have S_STRING : Sta s s.heap "com/example/yangsmith/yangsmith/schema/BuiltInType" "STRING" "Lcom/example/yangsmith/yangsmith/schema/BuiltInType;" (.ref w_STRING) := Sta.start ev_STRING (Or.inr ⟨(hw _ (List.mem_of_getElem? (i := 3) rfl)), (hw _ (List.mem_of_getElem? (i := 31) rfl))⟩)
  obtain ⟨w_UINT8, ev_UINT8⟩ := exa_v m14
  have E_UINT8 : Exa s s.heap w_UINT8 "com/example/yangsmith/yangsmith/schema/BuiltInType" := Exa.start ev_UINT8 m14
  have S_UINT8 : Sta s s.heap "com/example/yangsmith/yangsmith/schema/BuiltInType" "UINT8" "Lcom/example/yangsmith/yangsmith/schema/BuiltInType;" (.ref w_UINT8) := Sta.start ev_UINT8 (Or.inr ⟨(hw _ (List.mem_of_getElem? (i := 3) rfl)), (hw _ (List.mem_of_getElem? (i := 33) rfl))⟩)
  obtain ⟨w_UINT16, ev_UINT16⟩ := exa_v m15
  have E_UINT16 : Exa s s.heap w_UINT16 "com/example/yangsmith/yangsmith/schema/BuiltInType" := Exa.start ev_UINT16 m15
  have S_UINT16 : Sta s s.heap "com/example/yangsmith/yangsmith/schema/BuiltInType" "UINT16" "Lcom/example/yangsmith/yangsmith/schema/BuiltInType;" (.ref w_UINT16) := Sta.start ev_UINT16 (Or.inr ⟨(hw _ (List.mem_of_getElem? (i := 3) rfl)), (hw _ (List.mem_of_getElem? (i := 35) rfl))⟩)
  obtain ⟨w_UINT32, ev_UINT32⟩ := exa_v m16
  have E_UINT32 : Exa s s.heap w_UINT32 "com/example/yangsmith/yangsmith/schema/BuiltInType" := Exa.start ev_UINT32 m16
  have S_UINT32 : Sta s s.heap "com/example/yangsmith/yangsmith/schema/BuiltInType" "UINT32" "Lcom/example/yangsmith/yangsmith/schema/BuiltInType;" (.ref w_UINT32) := Sta.start ev_UINT32 (Or.inr ⟨(hw _ (List.mem_of_getElem? (i := 3) rfl)), (hw _ (List.mem_of_getElem? (i := 37) rfl))⟩)
  obtain ⟨w_UINT64, ev_UINT64⟩ := exa_v m17
  have E_UINT64 : Exa s s.heap w_UINT64 "com/example/yangsmith/yangsmith/schema/BuiltInType" := Exa.start ev_UINT64 m17
  have S_UINT64 : Sta s s.heap "com/example/yangsmith/yangsmith/schema/BuiltInType" "UINT64" "Lcom/example/yangsmith/yangsmith/schema/BuiltInType;" (.ref w_UINT64) := Sta.start ev_UINT64 (Or.inr ⟨(hw _ (List.mem_of_getElem? (i := 3) rfl)), (hw _ (List.mem_of_getElem? (i := 39) rfl))⟩)
  obtain ⟨w_UNION, ev_UNION⟩ := exa_v m18
  have E_UNION : Exa s s.heap w_UNION "com/example/yangsmith/yangsmith/schema/BuiltInType" := Exa.start ev_UNION m18
  have S_UNION : Sta s s.heap "com/example/yangsmith/yangsmith/schema/BuiltInType" "UNION" "Lcom/example/yangsmith/yangsmith/schema/BuiltInType;" (.ref w_UNION) := Sta.start ev_UNION (Or.inr ⟨(hw _ (List.mem_of_getElem? (i := 3) rfl)), (hw _ (List.mem_of_getElem? (i := 41) rfl))⟩)
  obtain ⟨w_UINT16_lowest, ev_UINT16_lowest⟩ := exa_v m21
  have E_UINT16_lowest : Exa s s.heap w_UINT16_lowest "java/math/BigInteger" := Exa.start ev_UINT16_lowest m21
  have F_UINT16_lowest : Fld s s.heap w_UINT16 "com/example/yangsmith/yangsmith/schema/BuiltInType" "lowest" "Ljava/math/BigInteger;" (.ref w_UINT16_lowest) := Fld.start ((fld_at ev_UINT16).symm.trans ev_UINT16_lowest)
  obtain ⟨w_UINT64_lowest, ev_UINT64_lowest⟩ := exa_v m23
  have E_UINT64_lowest : Exa s s.heap w_UINT64_lowest "java/math/BigInteger" := Exa.start ev_UINT64_lowest m23
  have F_UINT64_lowest : Fld s s.heap w_UINT64 "com/example/yangsmith/yangsmith/schema/BuiltInType" "lowest" "Ljava/math/BigInteger;" (.ref w_UINT64_lowest) := Fld.start ((fld_at ev_UINT64).symm.trans ev_UINT64_lowest)
  obtain ⟨w_INT64_lowest, ev_INT64_lowest⟩ := exa_v m26
  have E_INT64_lowest : Exa s s.heap w_INT64_lowest "java/math/BigInteger" := Exa.start ev_INT64_lowest m26
  have F_INT64_lowest : Fld s s.heap w_INT64 "com/example/yangsmith/yangsmith/schema/BuiltInType" "lowest" "Ljava/math/BigInteger;" (.ref w_INT64_lowest) := Fld.start ((fld_at ev_INT64).symm.trans ev_INT64_lowest)
  obtain ⟨w_INT32_lowest, ev_INT32_lowest⟩ := exa_v m27
  have E_INT32_lowest : Exa s s.heap w_INT32_lowest "java/math/BigInteger" := Exa.start ev_INT32_lowest m27
  have F_INT32_lowest : Fld s s.heap w_INT32 "com/example/yangsmith/yangsmith/schema/BuiltInType" "lowest" "Ljava/math/BigInteger;" (.ref w_INT32_lowest) := Fld.start ((fld_at ev_INT32).symm.trans ev_INT32_lowest)
  obtain ⟨w_INT8_lowest, ev_INT8_lowest⟩ := exa_v m28
  have E_INT8_lowest : Exa s s.heap w_INT8_lowest "java/math/BigInteger" := Exa.start ev_INT8_lowest m28
  have F_INT8_lowest : Fld s s.heap w_INT8 "com/example/yangsmith/yangsmith/schema/BuiltInType" "lowest" "Ljava/math/BigInteger;" (.ref w_INT8_lowest) := Fld.start ((fld_at ev_INT8).symm.trans ev_INT8_lowest)
  obtain ⟨w_UINT8_lowest, ev_UINT8_lowest⟩ := exa_v m30
  have E_UINT8_lowest : Exa s s.heap w_UINT8_lowest "java/math/BigInteger" := Exa.start ev_UINT8_lowest m30
  have F_UINT8_lowest : Fld s s.heap w_UINT8 "com/example/yangsmith/yangsmith/schema/BuiltInType" "lowest" "Ljava/math/BigInteger;" (.ref w_UINT8_lowest) := Fld.start ((fld_at ev_UINT8).symm.trans ev_UINT8_lowest)
  obtain ⟨w_UINT32_lowest, ev_UINT32_lowest⟩ := exa_v m33
  have E_UINT32_lowest : Exa s s.heap w_UINT32_lowest "java/math/BigInteger" := Exa.start ev_UINT32_lowest m33
  have F_UINT32_lowest : Fld s s.heap w_UINT32 "com/example/yangsmith/yangsmith/schema/BuiltInType" "lowest" "Ljava/math/BigInteger;" (.ref w_UINT32_lowest) := Fld.start ((fld_at ev_UINT32).symm.trans ev_UINT32_lowest)
  obtain ⟨w_INT16_lowest, ev_INT16_lowest⟩ := exa_v m35
  have E_INT16_lowest : Exa s s.heap w_INT16_lowest "java/math/BigInteger" := Exa.start ev_INT16_lowest m35
  have F_INT16_lowest : Fld s s.heap w_INT16 "com/example/yangsmith/yangsmith/schema/BuiltInType" "lowest" "Ljava/math/BigInteger;" (.ref w_INT16_lowest) := Fld.start ((fld_at ev_INT16).symm.trans ev_INT16_lowest)
  have F_BINARY_lowest : Fld s s.heap w_BINARY "com/example/yangsmith/yangsmith/schema/BuiltInType" "lowest" "Ljava/math/BigInteger;" .null := Fld.start ((fld_at ev_BINARY).symm.trans (null_v m19))
  have F_DECIMAL64_lowest : Fld s s.heap w_DECIMAL64 "com/example/yangsmith/yangsmith/schema/BuiltInType" "lowest" "Ljava/math/BigInteger;" .null := Fld.start ((fld_at ev_DECIMAL64).symm.trans (null_v m20))
  have F_ENUMERATION_lowest : Fld s s.heap w_ENUMERATION "com/example/yangsmith/yangsmith/schema/BuiltInType" "lowest" "Ljava/math/BigInteger;" .null := Fld.start ((fld_at ev_ENUMERATION).symm.trans (null_v m22))
  have F_INSTANCE_IDENTIFIER_lowest : Fld s s.heap w_INSTANCE_IDENTIFIER "com/example/yangsmith/yangsmith/schema/BuiltInType" "lowest" "Ljava/math/BigInteger;" .null := Fld.start ((fld_at ev_INSTANCE_IDENTIFIER).symm.trans (null_v m24))
  have F_BOOLEAN_lowest : Fld s s.heap w_BOOLEAN "com/example/yangsmith/yangsmith/schema/BuiltInType" "lowest" "Ljava/math/BigInteger;" .null := Fld.start ((fld_at ev_BOOLEAN).symm.trans (null_v m25))
  have F_BITS_lowest : Fld s s.heap w_BITS "com/example/yangsmith/yangsmith/schema/BuiltInType" "lowest" "Ljava/math/BigInteger;" .null := Fld.start ((fld_at ev_BITS).symm.trans (null_v m29))
  have F_UNION_lowest : Fld s s.heap w_UNION "com/example/yangsmith/yangsmith/schema/BuiltInType" "lowest" "Ljava/math/BigInteger;" .null := Fld.start ((fld_at ev_UNION).symm.trans (null_v m31))
  have F_IDENTITYREF_lowest : Fld s s.heap w_IDENTITYREF "com/example/yangsmith/yangsmith/schema/BuiltInType" "lowest" "Ljava/math/BigInteger;" .null := Fld.start ((fld_at ev_IDENTITYREF).symm.trans (null_v m32))
  have F_EMPTY_lowest : Fld s s.heap w_EMPTY "com/example/yangsmith/yangsmith/schema/BuiltInType" "lowest" "Ljava/math/BigInteger;" .null := Fld.start ((fld_at ev_EMPTY).symm.trans (null_v m34))
  have F_LEAFREF_lowest : Fld s s.heap w_LEAFREF "com/example/yangsmith/yangsmith/schema/BuiltInType" "lowest" "Ljava/math/BigInteger;" .null := Fld.start ((fld_at ev_LEAFREF).symm.trans (null_v m36))
  have F_STRING_lowest : Fld s s.heap w_STRING "com/example/yangsmith/yangsmith/schema/BuiltInType" "lowest" "Ljava/math/BigInteger;" .null := Fld.start ((fld_at ev_STRING).symm.trans (null_v m37))
  have hlaw : ∀ (j : Int32), (i0 &&& (2147483647 : Int32)) % (19 : Int32) = j → ¬ j < 0 → j < (19 : Int32) → ∃ (wj : Addr) (bj : Int32), ([(.ref w_BINARY), (.ref w_BITS), (.ref w_BOOLEAN), (.ref w_DECIMAL64), (.ref w_EMPTY), (.ref w_ENUMERATION), (.ref w_IDENTITYREF), (.ref w_INSTANCE_IDENTIFIER), (.ref w_INT8), (.ref w_INT16), (.ref w_INT32), (.ref w_INT64), (.ref w_LEAFREF), (.ref w_STRING), (.ref w_UINT8), (.ref w_UINT16), (.ref w_UINT32), (.ref w_UINT64), (.ref w_UNION)] : List Value).getD j.toNatClampNeg .null = (.ref wj) ∧ Exa s s.heap wj "com/example/yangsmith/yangsmith/schema/BuiltInType" ∧ ([(.int (0 : Int32)), (.int (0 : Int32)), (.int (0 : Int32)), (.int (0 : Int32)), (.int (0 : Int32)), (.int (0 : Int32)), (.int (0 : Int32)), (.int (0 : Int32)), (.int (1 : Int32)), (.int (1 : Int32)), (.int (1 : Int32)), (.int (1 : Int32)), (.int (0 : Int32)), (.int (0 : Int32)), (.int (1 : Int32)), (.int (1 : Int32)), (.int (1 : Int32)), (.int (1 : Int32)), (.int (0 : Int32))] : List Value).getD j.toNatClampNeg (.int (0 : Int32)) = (.int bj) ∧ (∀ hh : Heap, Keep s.heap hh [] → own_M l (⟨"com/example/yangsmith/yangsmith/schema/BuiltInType", "isInteger", "()Z"⟩ : MethodName) prog_48_method_6_code 1 (some .boolean) ({ frames := 0, cells := 0, slots := 0, locals := 0 } : Room) s #[(.ref wj)] hh (own_ret (.int bj) s.heap.size hh)) := by
    intro j hj hlo hhi
    rcases own_cases hlo hhi with rfl | rfl | rfl | rfl | rfl | rfl | rfl | rfl | rfl | rfl | rfl | rfl | rfl | rfl | rfl | rfl | rfl | rfl | rfl
    · exact ⟨w_BINARY, (0 : Int32), rfl, E_BINARY, rfl, fun hh K => own_no l s _ hw [] w_BINARY hh s.heap.size (Nat.le_trans (Nat.le_refl _) K.1) (F_BINARY_lowest.ext (own_ext K))⟩
    · exact ⟨w_BITS, (0 : Int32), rfl, E_BITS, rfl, fun hh K => own_no l s _ hw [] w_BITS hh s.heap.size (Nat.le_trans (Nat.le_refl _) K.1) (F_BITS_lowest.ext (own_ext K))⟩
    · exact ⟨w_BOOLEAN, (0 : Int32), rfl, E_BOOLEAN, rfl, fun hh K => own_no l s _ hw [] w_BOOLEAN hh s.heap.size (Nat.le_trans (Nat.le_refl _) K.1) (F_BOOLEAN_lowest.ext (own_ext K))⟩
    · exact ⟨w_DECIMAL64, (0 : Int32), rfl, E_DECIMAL64, rfl, fun hh K => own_no l s _ hw [] w_DECIMAL64 hh s.heap.size (Nat.le_trans (Nat.le_refl _) K.1) (F_DECIMAL64_lowest.ext (own_ext K))⟩
    · exact ⟨w_EMPTY, (0 : Int32), rfl, E_EMPTY, rfl, fun hh K => own_no l s _ hw [] w_EMPTY hh s.heap.size (Nat.le_trans (Nat.le_refl _) K.1) (F_EMPTY_lowest.ext (own_ext K))⟩
    · exact ⟨w_ENUMERATION, (0 : Int32), rfl, E_ENUMERATION, rfl, fun hh K => own_no l s _ hw [] w_ENUMERATION hh s.heap.size (Nat.le_trans (Nat.le_refl _) K.1) (F_ENUMERATION_lowest.ext (own_ext K))⟩
    · exact ⟨w_IDENTITYREF, (0 : Int32), rfl, E_IDENTITYREF, rfl, fun hh K => own_no l s _ hw [] w_IDENTITYREF hh s.heap.size (Nat.le_trans (Nat.le_refl _) K.1) (F_IDENTITYREF_lowest.ext (own_ext K))⟩
    · exact ⟨w_INSTANCE_IDENTIFIER, (0 : Int32), rfl, E_INSTANCE_IDENTIFIER, rfl, fun hh K => own_no l s _ hw [] w_INSTANCE_IDENTIFIER hh s.heap.size (Nat.le_trans (Nat.le_refl _) K.1) (F_INSTANCE_IDENTIFIER_lowest.ext (own_ext K))⟩
    · exact ⟨w_INT8, (1 : Int32), rfl, E_INT8, rfl, fun hh K => own_yes l s _ hw [] w_INT8 w_INT8_lowest hh s.heap.size (Nat.le_trans (Nat.le_refl _) K.1) (F_INT8_lowest.ext (own_ext K))⟩
    · exact ⟨w_INT16, (1 : Int32), rfl, E_INT16, rfl, fun hh K => own_yes l s _ hw [] w_INT16 w_INT16_lowest hh s.heap.size (Nat.le_trans (Nat.le_refl _) K.1) (F_INT16_lowest.ext (own_ext K))⟩
    · exact ⟨w_INT32, (1 : Int32), rfl, E_INT32, rfl, fun hh K => own_yes l s _ hw [] w_INT32 w_INT32_lowest hh s.heap.size (Nat.le_trans (Nat.le_refl _) K.1) (F_INT32_lowest.ext (own_ext K))⟩
    · exact ⟨w_INT64, (1 : Int32), rfl, E_INT64, rfl, fun hh K => own_yes l s _ hw [] w_INT64 w_INT64_lowest hh s.heap.size (Nat.le_trans (Nat.le_refl _) K.1) (F_INT64_lowest.ext (own_ext K))⟩
    · exact ⟨w_LEAFREF, (0 : Int32), rfl, E_LEAFREF, rfl, fun hh K => own_no l s _ hw [] w_LEAFREF hh s.heap.size (Nat.le_trans (Nat.le_refl _) K.1) (F_LEAFREF_lowest.ext (own_ext K))⟩
    · exact ⟨w_STRING, (0 : Int32), rfl, E_STRING, rfl, fun hh K => own_no l s _ hw [] w_STRING hh s.heap.size (Nat.le_trans (Nat.le_refl _) K.1) (F_STRING_lowest.ext (own_ext K))⟩
    · exact ⟨w_UINT8, (1 : Int32), rfl, E_UINT8, rfl, fun hh K => own_yes l s _ hw [] w_UINT8 w_UINT8_lowest hh s.heap.size (Nat.le_trans (Nat.le_refl _) K.1) (F_UINT8_lowest.ext (own_ext K))⟩
    · exact ⟨w_UINT16, (1 : Int32), rfl, E_UINT16, rfl, fun hh K => own_yes l s _ hw [] w_UINT16 w_UINT16_lowest hh s.heap.size (Nat.le_trans (Nat.le_refl _) K.1) (F_UINT16_lowest.ext (own_ext K))⟩
    · exact ⟨w_UINT32, (1 : Int32), rfl, E_UINT32, rfl, fun hh K => own_yes l s _ hw [] w_UINT32 w_UINT32_lowest hh s.heap.size (Nat.le_trans (Nat.le_refl _) K.1) (F_UINT32_lowest.ext (own_ext K))⟩
    · exact ⟨w_UINT64, (1 : Int32), rfl, E_UINT64, rfl, fun hh K => own_yes l s _ hw [] w_UINT64 w_UINT64_lowest hh s.heap.size (Nat.le_trans (Nat.le_refl _) K.1) (F_UINT64_lowest.ext (own_ext K))⟩
    · exact ⟨w_UNION, (0 : Int32), rfl, E_UNION, rfl, fun hh K => own_no l s _ hw [] w_UNION hh s.heap.size (Nat.le_trans (Nat.le_refl _) K.1) (F_UNION_lowest.ext (own_ext K))⟩
  obtain ⟨wj, bj, q1, q2, q3, q4⟩ := hlaw _ rfl (own_mod i0).1 (own_mod i0).2
  obtain ⟨n, o, h1, h2, h3, _, L, rfl, ⟨rfl, N⟩, hq⟩ := own_law l s _ hw tables_1 i0 s.heap s.heap.size (Nat.le_refl _) w_BINARY S_BINARY E_BINARY w_BITS S_BITS E_BITS w_BOOLEAN S_BOOLEAN E_BOOLEAN w_DECIMAL64 S_DECIMAL64 E_DECIMAL64 w_EMPTY S_EMPTY E_EMPTY w_ENUMERATION S_ENUMERATION E_ENUMERATION w_IDENTITYREF S_IDENTITYREF E_IDENTITYREF w_INSTANCE_IDENTIFIER S_INSTANCE_IDENTIFIER E_INSTANCE_IDENTIFIER w_INT8 S_INT8 E_INT8 w_INT16 S_INT16 E_INT16 w_INT32 S_INT32 E_INT32 w_INT64 S_INT64 E_INT64 w_LEAFREF S_LEAFREF E_LEAFREF w_STRING S_STRING E_STRING w_UINT8 S_UINT8 E_UINT8 w_UINT16 S_UINT16 E_UINT16 w_UINT32 S_UINT32 E_UINT32 w_UINT64 S_UINT64 E_UINT64 w_UNION S_UNION E_UNION _ rfl (own_mod i0).1 (own_mod i0).2 wj q1 q2 bj q3 q4 p e ha hc hk s m _ below hf ((Spec.applies_iff_loose hf).mp happ).1 ⟨rfl, State.Warmed39.refl s, rfl⟩ trivial
  refine ⟨n, _, h1, h2, h3, hpost _ _ _ _ _ _ ⟨Cond.after_iff.mpr rfl, Cond.after_iff.mpr (eq_i res_at (Term.int_eval (1)) rfl), trivial⟩ ⟨hq.1, hq.2.1, (hq.2.2.sift fun y hy => Or.inr (N y hy)).mono (by decide) (by decide)⟩⟩
theorem main_1_1 : Claimed_1_1 := comes_1 fun _ _ _ _ _ _ h hF => ⟨h.1, hF⟩
theorem main_1_2 : Claimed_1_2 := comes_1 fun _ _ _ _ _ _ h hF => ⟨h.2.1, hF⟩
end Jvm.Pilot.@@N@@
namespace Jvm.Pilot.@@N@@
open Jvm Jvm.ClassFile Sem Op Lib Jvm.Free Jvm.Stand Jvm.Pilot.@@N@@.Jvm.D
/-! MADE BY PROGRAM (witnessworld.py) out of the Statement's table words and the real class files: 17 classes; the members and pool entries that the words name. The judged class is class 1, her method 1. -/
namespace start1
open Jvm.ClassFile
def u (s : String) : CpInfo := .utf8 (stringToUtf16 s)
/-- a pool by its gaps: so many unusable entries, then the entry; so many at the end -/
def gap : Nat → List CpInfo → List CpInfo
  | 0, r => r
  | n + 1, r => .unusable :: gap n r
def poolList (es : List (Nat × CpInfo)) (last : Nat) : List CpInfo := es.foldr (fun e r => gap e.1 (e.2 :: r)) (gap last [])
def pool (es : List (Nat × CpInfo)) (last : Nat) : Array CpInfo := ⟨poolList es last⟩
def fileOf (pool : Array CpInfo) (this : Nat) (attrs : Array Attribute := #[]) (ms : Array MethodInfo := #[]) (fl : Nat := 33) (sup : Nat := 0) (ifs : Array Nat := #[]) (fds : Array FieldInfo := #[]) : ClassFile where
  minorVersion := 0
  majorVersion := 65
  constantPool := pool
  accessFlags := fl
  thisClass := this
  superClass := sup
  interfaces := ifs
  fields := fds
  methods := ms
  attributes := attrs
def plain (name : String) (sup : Option ClassId) : Class where
  name := name
  kind := .ordinary
  loader := none
  accessFlags := 33
  super := sup
  interfaces := #[]
  cf := none
  fields := #[]
  methods := #[]
  instanceTypes := #[]
  staticTypes := #[]
  resolved := #[]
  callSites := []
  init := .initialized
  statics := none
  mirror := none

def pool0 : Array CpInfo := pool [(5, u "<init>"), (0, u "()V"), (1, .class_ 10), (1, u "java/lang/Object")] 113

def k0m0 : Method := { name := "<init>", desc := "()V", sig := { parameters := [], returnType := none }, accessFlags := 1, code := none }
/-- java/lang/Object -/
def k0 : Class := { plain "java/lang/Object" none with
  accessFlags := 33
  interfaces := #[]
  cf := some (fileOf pool0 8 #[] #[{ accessFlags := 1, nameIndex := 5, descriptorIndex := 6, attributes := #[] }] 33 0 #[] #[])
  fields := #[]
  methods := #[k0m0]
  instanceTypes := #[]
  staticTypes := #[]
  resolved := Array.replicate 124 none
  statics := none }

def pool1 : Array CpInfo := pool [(2, .class_ 4), (1, u "java/lang/Object"), (0, u "<init>"), (0, u "()V"), (0, .class_ 8), (0, u "com/example/yangsmith/yangsmith/schema/BuiltInType"), (0, .fieldref 7 10), (0, .nameAndType 11 12), (0, u "BINARY"), (0, u "Lcom/example/yangsmith/yangsmith/schema/BuiltInType;"), (0, .fieldref 7 14), (0, .nameAndType 15 12), (0, u "BITS"), (0, .fieldref 7 17), (0, .nameAndType 18 12), (0, u "BOOLEAN"), (0, .fieldref 7 20), (0, .nameAndType 21 12), (0, u "DECIMAL64"), (0, .fieldref 7 23), (0, .nameAndType 24 12), (0, u "EMPTY"), (0, .fieldref 7 26), (0, .nameAndType 27 12), (0, u "ENUMERATION"), (0, .fieldref 7 29), (0, .nameAndType 30 12), (0, u "IDENTITYREF"), (0, .fieldref 7 32), (0, .nameAndType 33 12), (0, u "INSTANCE_IDENTIFIER"), (0, .fieldref 7 35), (0, .nameAndType 36 12), (0, u "INT8"), (0, .fieldref 7 38), (0, .nameAndType 39 12), (0, u "INT16"), (0, .fieldref 7 41), (0, .nameAndType 42 12), (0, u "INT32"), (0, .fieldref 7 44), (0, .nameAndType 45 12), (0, u "INT64"), (0, .fieldref 7 47), (0, .nameAndType 48 12), (0, u "LEAFREF"), (0, .fieldref 7 50), (0, .nameAndType 51 12), (0, u "STRING"), (0, .fieldref 7 53), (0, .nameAndType 54 12), (0, u "UINT8"), (0, .fieldref 7 56), (0, .nameAndType 57 12), (0, u "UINT16"), (0, .fieldref 7 59), (0, .nameAndType 60 12), (0, u "UINT32"), (0, .fieldref 7 62), (0, .nameAndType 63 12), (0, u "UINT64"), (0, .fieldref 7 65), (0, .nameAndType 66 12), (0, u "UNION"), (0, .integer 2147483647), (0, .methodref 7 69), (0, .nameAndType 70 71), (0, u "isInteger"), (0, u "()Z"), (0, .class_ 73), (0, u "com/example/yangsmith/yangsmith/schema/BuiltInTypeIsIntegerPinLaw"), (2, u "law"), (0, u "(I)Z")] 7

def k1m0 : Method := { name := "<init>", desc := "()V", sig := { parameters := [], returnType := none }, accessFlags := 1, code := none }
def k1c1 : Code := { maxStack := 4, maxLocals := 4, code := code, exceptionTable := #[], attributes := #[] }
def k1m1 : Method := { name := "law", desc := "(I)Z", sig := { parameters := [.int], returnType := some .boolean }, accessFlags := 9, code := some k1c1 }
/-- com/example/yangsmith/yangsmith/schema/BuiltInTypeIsIntegerPinLaw -/
def k1 : Class := { plain "com/example/yangsmith/yangsmith/schema/BuiltInTypeIsIntegerPinLaw" (some 0) with
  accessFlags := 49
  interfaces := #[]
  cf := some (fileOf pool1 72 #[] #[{ accessFlags := 1, nameIndex := 5, descriptorIndex := 6, attributes := #[] }, { accessFlags := 9, nameIndex := 76, descriptorIndex := 77, attributes := #[] }] 49 2 #[] #[])
  fields := #[]
  methods := #[k1m0, k1m1]
  instanceTypes := #[]
  staticTypes := #[]
  resolved := Array.replicate 85 none
  statics := none }

def pool2 : Array CpInfo := pool [(1, .class_ 2), (0, u "java/lang/constant/Constable"), (0, .class_ 4), (0, u "java/lang/Object")] 6

/-- java/lang/constant/Constable -/
def k2 : Class := { plain "java/lang/constant/Constable" (some 0) with
  accessFlags := 1537
  interfaces := #[]
  cf := some (fileOf pool2 1 #[] #[] 1537 3 #[] #[])
  fields := #[]
  methods := #[]
  instanceTypes := #[]
  staticTypes := #[]
  resolved := Array.replicate 11 none
  statics := none }

def pool3 : Array CpInfo := pool [(1, .class_ 2), (0, u "java/lang/Comparable"), (0, .class_ 4), (0, u "java/lang/Object")] 7

/-- java/lang/Comparable -/
def k3 : Class := { plain "java/lang/Comparable" (some 0) with
  accessFlags := 1537
  interfaces := #[]
  cf := some (fileOf pool3 1 #[] #[] 1537 3 #[] #[])
  fields := #[]
  methods := #[]
  instanceTypes := #[]
  staticTypes := #[]
  resolved := Array.replicate 12 none
  statics := none }

def pool4 : Array CpInfo := pool [(1, .class_ 2), (0, u "java/io/Serializable"), (0, .class_ 4), (0, u "java/lang/Object")] 2

/-- java/io/Serializable -/
def k4 : Class := { plain "java/io/Serializable" (some 0) with
  accessFlags := 1537
  interfaces := #[]
  cf := some (fileOf pool4 1 #[] #[] 1537 3 #[] #[])
  fields := #[]
  methods := #[]
  instanceTypes := #[]
  staticTypes := #[]
  resolved := Array.replicate 7 none
  statics := none }

def pool5 : Array CpInfo := pool [(2, .class_ 4), (1, u "java/lang/Enum"), (0, u "name"), (0, u "Ljava/lang/String;"), (2, u "ordinal"), (0, u "I"), (1, .class_ 14), (1, u "java/lang/Object"), (4, u "hash"), (86, .class_ 108), (1, u "java/lang/Enum$EnumDesc"), (2, .class_ 112), (0, u "java/lang/constant/Constable"), (0, .class_ 114), (0, u "java/lang/Comparable"), (0, .class_ 116), (0, u "java/io/Serializable")] 87

/-- java/lang/Enum -/
def k5 : Class := { plain "java/lang/Enum" (some 0) with
  accessFlags := 1057
  interfaces := #[2, 3, 4]
  cf := some (fileOf pool5 2 #[.nestMembers #[106]] #[] 1057 12 #[111, 113, 115] #[{ accessFlags := 18, nameIndex := 5, descriptorIndex := 6, attributes := #[] }, { accessFlags := 18, nameIndex := 9, descriptorIndex := 10, attributes := #[] }, { accessFlags := 2, nameIndex := 19, descriptorIndex := 10, attributes := #[] }])
  fields := #[{ name := "name", type := (.object "java/lang/String"), accessFlags := 18, slot := 0, constantValue := 0 }, { name := "ordinal", type := .int, accessFlags := 18, slot := 1, constantValue := 0 }, { name := "hash", type := .int, accessFlags := 2, slot := 2, constantValue := 0 }]
  methods := #[]
  instanceTypes := #[(.object "java/lang/String"), .int, .int]
  staticTypes := #[]
  resolved := Array.replicate 204 none
  statics := none }

def pool6 : Array CpInfo := pool [(1, .class_ 2), (0, u "com/example/yangsmith/yangsmith/schema/BuiltInType"), (2, u "BINARY"), (0, u "Lcom/example/yangsmith/yangsmith/schema/BuiltInType;"), (2, u "BITS"), (2, u "BOOLEAN"), (2, u "DECIMAL64"), (2, u "EMPTY"), (2, u "ENUMERATION"), (2, u "IDENTITYREF"), (2, u "INSTANCE_IDENTIFIER"), (2, u "INT8"), (2, u "INT16"), (2, u "INT32"), (2, u "INT64"), (2, u "LEAFREF"), (2, u "STRING"), (2, u "UINT8"), (2, u "UINT16"), (2, u "UINT32"), (2, u "UINT64"), (2, u "UNION"), (2, u "$VALUES"), (0, u "[Lcom/example/yangsmith/yangsmith/schema/BuiltInType;"), (6, .class_ 73), (1, u "java/lang/Enum"), (31, u "text"), (0, u "Ljava/lang/String;"), (5, .fieldref 1 113), (0, .nameAndType 114 115), (0, u "lowest"), (0, u "Ljava/math/BigInteger;"), (2, u "highest"), (2, u "BY_TEXT"), (0, u "Ljava/util/Map;"), (65, u "INTEGER_DIGITS"), (0, u "I"), (20, u "isInteger"), (0, u "()Z")] 6

def k6c0 : Code := { maxStack := 1, maxLocals := 1, code := prog_48_method_6_code, exceptionTable := #[], attributes := #[] }
def k6m0 : Method := { name := "isInteger", desc := "()Z", sig := { parameters := [], returnType := some .boolean }, accessFlags := 1, code := some k6c0 }
/-- com/example/yangsmith/yangsmith/schema/BuiltInType -/
def k6 : Class := { plain "com/example/yangsmith/yangsmith/schema/BuiltInType" (some 5) with
  accessFlags := 16433
  interfaces := #[]
  cf := some (fileOf pool6 1 #[] #[{ accessFlags := 1, nameIndex := 210, descriptorIndex := 211, attributes := #[] }] 16433 71 #[] #[{ accessFlags := 16409, nameIndex := 5, descriptorIndex := 6, attributes := #[] }, { accessFlags := 16409, nameIndex := 9, descriptorIndex := 6, attributes := #[] }, { accessFlags := 16409, nameIndex := 12, descriptorIndex := 6, attributes := #[] }, { accessFlags := 16409, nameIndex := 15, descriptorIndex := 6, attributes := #[] }, { accessFlags := 16409, nameIndex := 18, descriptorIndex := 6, attributes := #[] }, { accessFlags := 16409, nameIndex := 21, descriptorIndex := 6, attributes := #[] }, { accessFlags := 16409, nameIndex := 24, descriptorIndex := 6, attributes := #[] }, { accessFlags := 16409, nameIndex := 27, descriptorIndex := 6, attributes := #[] }, { accessFlags := 16409, nameIndex := 30, descriptorIndex := 6, attributes := #[] }, { accessFlags := 16409, nameIndex := 33, descriptorIndex := 6, attributes := #[] }, { accessFlags := 16409, nameIndex := 36, descriptorIndex := 6, attributes := #[] }, { accessFlags := 16409, nameIndex := 39, descriptorIndex := 6, attributes := #[] }, { accessFlags := 16409, nameIndex := 42, descriptorIndex := 6, attributes := #[] }, { accessFlags := 16409, nameIndex := 45, descriptorIndex := 6, attributes := #[] }, { accessFlags := 16409, nameIndex := 48, descriptorIndex := 6, attributes := #[] }, { accessFlags := 16409, nameIndex := 51, descriptorIndex := 6, attributes := #[] }, { accessFlags := 16409, nameIndex := 54, descriptorIndex := 6, attributes := #[] }, { accessFlags := 16409, nameIndex := 57, descriptorIndex := 6, attributes := #[] }, { accessFlags := 16409, nameIndex := 60, descriptorIndex := 6, attributes := #[] }, { accessFlags := 25, nameIndex := 188, descriptorIndex := 189, attributes := #[] }, { accessFlags := 26, nameIndex := 121, descriptorIndex := 122, attributes := #[] }, { accessFlags := 18, nameIndex := 105, descriptorIndex := 106, attributes := #[] }, { accessFlags := 18, nameIndex := 114, descriptorIndex := 115, attributes := #[] }, { accessFlags := 18, nameIndex := 118, descriptorIndex := 115, attributes := #[] }, { accessFlags := 4122, nameIndex := 63, descriptorIndex := 64, attributes := #[] }])
  fields := #[{ name := "BINARY", type := (.object "com/example/yangsmith/yangsmith/schema/BuiltInType"), accessFlags := 16409, slot := 0, constantValue := 0 }, { name := "BITS", type := (.object "com/example/yangsmith/yangsmith/schema/BuiltInType"), accessFlags := 16409, slot := 1, constantValue := 0 }, { name := "BOOLEAN", type := (.object "com/example/yangsmith/yangsmith/schema/BuiltInType"), accessFlags := 16409, slot := 2, constantValue := 0 }, { name := "DECIMAL64", type := (.object "com/example/yangsmith/yangsmith/schema/BuiltInType"), accessFlags := 16409, slot := 3, constantValue := 0 }, { name := "EMPTY", type := (.object "com/example/yangsmith/yangsmith/schema/BuiltInType"), accessFlags := 16409, slot := 4, constantValue := 0 }, { name := "ENUMERATION", type := (.object "com/example/yangsmith/yangsmith/schema/BuiltInType"), accessFlags := 16409, slot := 5, constantValue := 0 }, { name := "IDENTITYREF", type := (.object "com/example/yangsmith/yangsmith/schema/BuiltInType"), accessFlags := 16409, slot := 6, constantValue := 0 }, { name := "INSTANCE_IDENTIFIER", type := (.object "com/example/yangsmith/yangsmith/schema/BuiltInType"), accessFlags := 16409, slot := 7, constantValue := 0 }, { name := "INT8", type := (.object "com/example/yangsmith/yangsmith/schema/BuiltInType"), accessFlags := 16409, slot := 8, constantValue := 0 }, { name := "INT16", type := (.object "com/example/yangsmith/yangsmith/schema/BuiltInType"), accessFlags := 16409, slot := 9, constantValue := 0 }, { name := "INT32", type := (.object "com/example/yangsmith/yangsmith/schema/BuiltInType"), accessFlags := 16409, slot := 10, constantValue := 0 }, { name := "INT64", type := (.object "com/example/yangsmith/yangsmith/schema/BuiltInType"), accessFlags := 16409, slot := 11, constantValue := 0 }, { name := "LEAFREF", type := (.object "com/example/yangsmith/yangsmith/schema/BuiltInType"), accessFlags := 16409, slot := 12, constantValue := 0 }, { name := "STRING", type := (.object "com/example/yangsmith/yangsmith/schema/BuiltInType"), accessFlags := 16409, slot := 13, constantValue := 0 }, { name := "UINT8", type := (.object "com/example/yangsmith/yangsmith/schema/BuiltInType"), accessFlags := 16409, slot := 14, constantValue := 0 }, { name := "UINT16", type := (.object "com/example/yangsmith/yangsmith/schema/BuiltInType"), accessFlags := 16409, slot := 15, constantValue := 0 }, { name := "UINT32", type := (.object "com/example/yangsmith/yangsmith/schema/BuiltInType"), accessFlags := 16409, slot := 16, constantValue := 0 }, { name := "UINT64", type := (.object "com/example/yangsmith/yangsmith/schema/BuiltInType"), accessFlags := 16409, slot := 17, constantValue := 0 }, { name := "UNION", type := (.object "com/example/yangsmith/yangsmith/schema/BuiltInType"), accessFlags := 16409, slot := 18, constantValue := 0 }, { name := "INTEGER_DIGITS", type := .int, accessFlags := 25, slot := 19, constantValue := 0 }, { name := "BY_TEXT", type := (.object "java/util/Map"), accessFlags := 26, slot := 20, constantValue := 0 }, { name := "text", type := (.object "java/lang/String"), accessFlags := 18, slot := 3, constantValue := 0 }, { name := "lowest", type := (.object "java/math/BigInteger"), accessFlags := 18, slot := 4, constantValue := 0 }, { name := "highest", type := (.object "java/math/BigInteger"), accessFlags := 18, slot := 5, constantValue := 0 }, { name := "$VALUES", type := (.array (.object "com/example/yangsmith/yangsmith/schema/BuiltInType")), accessFlags := 4122, slot := 21, constantValue := 0 }]
  methods := #[k6m0]
  instanceTypes := #[(.object "java/lang/String"), .int, .int, (.object "java/lang/String"), (.object "java/math/BigInteger"), (.object "java/math/BigInteger")]
  staticTypes := #[(.object "com/example/yangsmith/yangsmith/schema/BuiltInType"), (.object "com/example/yangsmith/yangsmith/schema/BuiltInType"), (.object "com/example/yangsmith/yangsmith/schema/BuiltInType"), (.object "com/example/yangsmith/yangsmith/schema/BuiltInType"), (.object "com/example/yangsmith/yangsmith/schema/BuiltInType"), (.object "com/example/yangsmith/yangsmith/schema/BuiltInType"), (.object "com/example/yangsmith/yangsmith/schema/BuiltInType"), (.object "com/example/yangsmith/yangsmith/schema/BuiltInType"), (.object "com/example/yangsmith/yangsmith/schema/BuiltInType"), (.object "com/example/yangsmith/yangsmith/schema/BuiltInType"), (.object "com/example/yangsmith/yangsmith/schema/BuiltInType"), (.object "com/example/yangsmith/yangsmith/schema/BuiltInType"), (.object "com/example/yangsmith/yangsmith/schema/BuiltInType"), (.object "com/example/yangsmith/yangsmith/schema/BuiltInType"), (.object "com/example/yangsmith/yangsmith/schema/BuiltInType"), (.object "com/example/yangsmith/yangsmith/schema/BuiltInType"), (.object "com/example/yangsmith/yangsmith/schema/BuiltInType"), (.object "com/example/yangsmith/yangsmith/schema/BuiltInType"), (.object "com/example/yangsmith/yangsmith/schema/BuiltInType"), .int, (.object "java/util/Map"), (.array (.object "com/example/yangsmith/yangsmith/schema/BuiltInType"))]
  resolved := Array.replicate 218 none
  statics := some 0 }

def pool7 : Array CpInfo := pool [(2, .class_ 4), (1, u "java/lang/Object"), (0, u "<init>"), (0, u "()V"), (1, .class_ 10), (1, u "java/lang/Number"), (2, .class_ 14), (0, u "java/io/Serializable"), (0, u "serialVersionUID"), (0, u "J")] 20

def k7m0 : Method := { name := "<init>", desc := "()V", sig := { parameters := [], returnType := none }, accessFlags := 1, code := none }
/-- java/lang/Number -/
def k7 : Class := { plain "java/lang/Number" (some 0) with
  accessFlags := 1057
  interfaces := #[4]
  cf := some (fileOf pool7 8 #[] #[{ accessFlags := 1, nameIndex := 5, descriptorIndex := 6, attributes := #[] }] 1057 2 #[13] #[{ accessFlags := 26, nameIndex := 15, descriptorIndex := 16, attributes := #[] }])
  fields := #[{ name := "serialVersionUID", type := .long, accessFlags := 26, slot := 0, constantValue := 0 }]
  methods := #[k7m0]
  instanceTypes := #[]
  staticTypes := #[.long]
  resolved := Array.replicate 37 none
  statics := none }

def pool8 : Array CpInfo := pool [(4, .class_ 6), (1, u "java/lang/Number"), (16, .class_ 25), (1, u "java/math/BigInteger"), (0, u "ZERO"), (0, u "Ljava/math/BigInteger;"), (2, u "mag"), (0, u "[I"), (2, u "signum"), (0, u "I"), (59, u "bitsPerDigit"), (0, u "[J"), (9, u "digitsPerInt"), (12, u "intRadix"), (60, u "SMALL_PRIME_PRODUCT"), (79, u "ONE"), (6, u "TWO"), (43, u "$assertionsDisabled"), (0, u "Z"), (36, u "posConst"), (0, u "[Ljava/math/BigInteger;"), (4, u "negConst"), (116, .class_ 474), (1, u "java/math/BigInteger$RecursiveOp"), (106, u "NEGATIVE_ONE"), (91, u "bnExpModThreshTable"), (72, u "lowestSetBitPlusTwo"), (2, u "bitLengthPlusOne"), (2, u "bitCountPlusOne"), (6, u "LOG_TWO"), (0, u "D"), (2, u "logCache"), (0, u "[D"), (13, u "NUM_ZEROS"), (2, u "ZEROS"), (0, u "Ljava/lang/String;"), (9, u "longRadix"), (5, u "digitsPerLong"), (22, u "powerCache"), (0, u "[[Ljava/math/BigInteger;"), (45, u "firstNonzeroIntNumPlusTwo"), (38, .class_ 909), (1, u "java/math/BigInteger$UnsafeHolder"), (141, u "TEN"), (106, u "serialPersistentFields"), (0, u "[Ljava/io/ObjectStreamField;"), (0, .class_ 1161), (0, u "java/lang/Comparable"), (0, u "LONG_MASK"), (0, u "J"), (1, u "MAX_MAG_LENGTH"), (0, u "PRIME_SEARCH_BIT_LENGTH_LIMIT"), (1, u "KARATSUBA_THRESHOLD"), (1, u "TOOM_COOK_THRESHOLD"), (1, u "KARATSUBA_SQUARE_THRESHOLD"), (1, u "TOOM_COOK_SQUARE_THRESHOLD"), (1, u "BURNIKEL_ZIEGLER_THRESHOLD"), (0, u "BURNIKEL_ZIEGLER_OFFSET"), (1, u "SCHOENHAGE_BASE_CONVERSION_THRESHOLD"), (1, u "MULTIPLY_SQUARE_THRESHOLD"), (0, u "MONTGOMERY_INTRINSIC_THRESHOLD"), (1, u "SMALL_PRIME_THRESHOLD"), (1, u "DEFAULT_PRIME_CERTAINTY"), (1, u "MAX_CONSTANT"), (3, u "serialVersionUID"), (338, .class_ 1532), (0, u "java/math/BigInteger$RecursiveOp$RecursiveSquare"), (0, .class_ 1534), (0, u "java/math/BigInteger$RecursiveOp$RecursiveMultiply")] 7

/-- java/math/BigInteger -/
def k8 : Class := { plain "java/math/BigInteger" (some 7) with
  accessFlags := 33
  interfaces := #[3]
  cf := some (fileOf pool8 23 #[.nestMembers #[907, 472, 1531, 1533]] #[] 33 4 #[1160] #[{ accessFlags := 16, nameIndex := 34, descriptorIndex := 35, attributes := #[] }, { accessFlags := 16, nameIndex := 30, descriptorIndex := 31, attributes := #[] }, { accessFlags := 2, nameIndex := 752, descriptorIndex := 35, attributes := #[] }, { accessFlags := 2, nameIndex := 749, descriptorIndex := 35, attributes := #[] }, { accessFlags := 2, nameIndex := 746, descriptorIndex := 35, attributes := #[] }, { accessFlags := 2, nameIndex := 868, descriptorIndex := 35, attributes := #[] }, { accessFlags := 24, nameIndex := 1162, descriptorIndex := 1163, attributes := #[] }, { accessFlags := 26, nameIndex := 1165, descriptorIndex := 35, attributes := #[] }, { accessFlags := 26, nameIndex := 1166, descriptorIndex := 35, attributes := #[] }, { accessFlags := 26, nameIndex := 1168, descriptorIndex := 35, attributes := #[] }, { accessFlags := 26, nameIndex := 1170, descriptorIndex := 35, attributes := #[] }, { accessFlags := 26, nameIndex := 1172, descriptorIndex := 35, attributes := #[] }, { accessFlags := 26, nameIndex := 1174, descriptorIndex := 35, attributes := #[] }, { accessFlags := 24, nameIndex := 1176, descriptorIndex := 35, attributes := #[] }, { accessFlags := 24, nameIndex := 1177, descriptorIndex := 35, attributes := #[] }, { accessFlags := 26, nameIndex := 1179, descriptorIndex := 35, attributes := #[] }, { accessFlags := 26, nameIndex := 1181, descriptorIndex := 35, attributes := #[] }, { accessFlags := 26, nameIndex := 1182, descriptorIndex := 35, attributes := #[] }, { accessFlags := 10, nameIndex := 95, descriptorIndex := 96, attributes := #[] }, { accessFlags := 26, nameIndex := 1184, descriptorIndex := 35, attributes := #[] }, { accessFlags := 26, nameIndex := 1186, descriptorIndex := 35, attributes := #[] }, { accessFlags := 26, nameIndex := 180, descriptorIndex := 27, attributes := #[] }, { accessFlags := 26, nameIndex := 1188, descriptorIndex := 35, attributes := #[] }, { accessFlags := 26, nameIndex := 349, descriptorIndex := 350, attributes := #[] }, { accessFlags := 26, nameIndex := 355, descriptorIndex := 350, attributes := #[] }, { accessFlags := 74, nameIndex := 821, descriptorIndex := 822, attributes := #[] }, { accessFlags := 26, nameIndex := 763, descriptorIndex := 764, attributes := #[] }, { accessFlags := 26, nameIndex := 759, descriptorIndex := 760, attributes := #[] }, { accessFlags := 25, nameIndex := 26, descriptorIndex := 27, attributes := #[] }, { accessFlags := 25, nameIndex := 260, descriptorIndex := 27, attributes := #[] }, { accessFlags := 25, nameIndex := 267, descriptorIndex := 27, attributes := #[] }, { accessFlags := 26, nameIndex := 581, descriptorIndex := 27, attributes := #[] }, { accessFlags := 25, nameIndex := 1051, descriptorIndex := 27, attributes := #[] }, { accessFlags := 8, nameIndex := 673, descriptorIndex := 31, attributes := #[] }, { accessFlags := 10, nameIndex := 778, descriptorIndex := 35, attributes := #[] }, { accessFlags := 26, nameIndex := 781, descriptorIndex := 782, attributes := #[] }, { accessFlags := 10, nameIndex := 798, descriptorIndex := 31, attributes := #[] }, { accessFlags := 10, nameIndex := 792, descriptorIndex := 350, attributes := #[] }, { accessFlags := 10, nameIndex := 106, descriptorIndex := 31, attributes := #[] }, { accessFlags := 10, nameIndex := 119, descriptorIndex := 31, attributes := #[] }, { accessFlags := 26, nameIndex := 1192, descriptorIndex := 1163, attributes := #[] }, { accessFlags := 26, nameIndex := 1158, descriptorIndex := 1159, attributes := #[] }, { accessFlags := 4120, nameIndex := 311, descriptorIndex := 312, attributes := #[] }])
  fields := #[{ name := "signum", type := .int, accessFlags := 16, slot := 0, constantValue := 0 }, { name := "mag", type := (.array .int), accessFlags := 16, slot := 1, constantValue := 0 }, { name := "bitCountPlusOne", type := .int, accessFlags := 2, slot := 2, constantValue := 0 }, { name := "bitLengthPlusOne", type := .int, accessFlags := 2, slot := 3, constantValue := 0 }, { name := "lowestSetBitPlusTwo", type := .int, accessFlags := 2, slot := 4, constantValue := 0 }, { name := "firstNonzeroIntNumPlusTwo", type := .int, accessFlags := 2, slot := 5, constantValue := 0 }, { name := "LONG_MASK", type := .long, accessFlags := 24, slot := 0, constantValue := 0 }, { name := "MAX_MAG_LENGTH", type := .int, accessFlags := 26, slot := 1, constantValue := 0 }, { name := "PRIME_SEARCH_BIT_LENGTH_LIMIT", type := .int, accessFlags := 26, slot := 2, constantValue := 0 }, { name := "KARATSUBA_THRESHOLD", type := .int, accessFlags := 26, slot := 3, constantValue := 0 }, { name := "TOOM_COOK_THRESHOLD", type := .int, accessFlags := 26, slot := 4, constantValue := 0 }, { name := "KARATSUBA_SQUARE_THRESHOLD", type := .int, accessFlags := 26, slot := 5, constantValue := 0 }, { name := "TOOM_COOK_SQUARE_THRESHOLD", type := .int, accessFlags := 26, slot := 6, constantValue := 0 }, { name := "BURNIKEL_ZIEGLER_THRESHOLD", type := .int, accessFlags := 24, slot := 7, constantValue := 0 }, { name := "BURNIKEL_ZIEGLER_OFFSET", type := .int, accessFlags := 24, slot := 8, constantValue := 0 }, { name := "SCHOENHAGE_BASE_CONVERSION_THRESHOLD", type := .int, accessFlags := 26, slot := 9, constantValue := 0 }, { name := "MULTIPLY_SQUARE_THRESHOLD", type := .int, accessFlags := 26, slot := 10, constantValue := 0 }, { name := "MONTGOMERY_INTRINSIC_THRESHOLD", type := .int, accessFlags := 26, slot := 11, constantValue := 0 }, { name := "bitsPerDigit", type := (.array .long), accessFlags := 10, slot := 12, constantValue := 0 }, { name := "SMALL_PRIME_THRESHOLD", type := .int, accessFlags := 26, slot := 13, constantValue := 0 }, { name := "DEFAULT_PRIME_CERTAINTY", type := .int, accessFlags := 26, slot := 14, constantValue := 0 }, { name := "SMALL_PRIME_PRODUCT", type := (.object "java/math/BigInteger"), accessFlags := 26, slot := 15, constantValue := 0 }, { name := "MAX_CONSTANT", type := .int, accessFlags := 26, slot := 16, constantValue := 0 }, { name := "posConst", type := (.array (.object "java/math/BigInteger")), accessFlags := 26, slot := 17, constantValue := 0 }, { name := "negConst", type := (.array (.object "java/math/BigInteger")), accessFlags := 26, slot := 18, constantValue := 0 }, { name := "powerCache", type := (.array (.array (.object "java/math/BigInteger"))), accessFlags := 74, slot := 19, constantValue := 0 }, { name := "logCache", type := (.array .double), accessFlags := 26, slot := 20, constantValue := 0 }, { name := "LOG_TWO", type := .double, accessFlags := 26, slot := 21, constantValue := 0 }, { name := "ZERO", type := (.object "java/math/BigInteger"), accessFlags := 25, slot := 22, constantValue := 0 }, { name := "ONE", type := (.object "java/math/BigInteger"), accessFlags := 25, slot := 23, constantValue := 0 }, { name := "TWO", type := (.object "java/math/BigInteger"), accessFlags := 25, slot := 24, constantValue := 0 }, { name := "NEGATIVE_ONE", type := (.object "java/math/BigInteger"), accessFlags := 26, slot := 25, constantValue := 0 }, { name := "TEN", type := (.object "java/math/BigInteger"), accessFlags := 25, slot := 26, constantValue := 0 }, { name := "bnExpModThreshTable", type := (.array .int), accessFlags := 8, slot := 27, constantValue := 0 }, { name := "NUM_ZEROS", type := .int, accessFlags := 10, slot := 28, constantValue := 0 }, { name := "ZEROS", type := (.object "java/lang/String"), accessFlags := 26, slot := 29, constantValue := 0 }, { name := "digitsPerLong", type := (.array .int), accessFlags := 10, slot := 30, constantValue := 0 }, { name := "longRadix", type := (.array (.object "java/math/BigInteger")), accessFlags := 10, slot := 31, constantValue := 0 }, { name := "digitsPerInt", type := (.array .int), accessFlags := 10, slot := 32, constantValue := 0 }, { name := "intRadix", type := (.array .int), accessFlags := 10, slot := 33, constantValue := 0 }, { name := "serialVersionUID", type := .long, accessFlags := 26, slot := 34, constantValue := 0 }, { name := "serialPersistentFields", type := (.array (.object "java/io/ObjectStreamField")), accessFlags := 26, slot := 35, constantValue := 0 }, { name := "$assertionsDisabled", type := .boolean, accessFlags := 4120, slot := 36, constantValue := 0 }]
  methods := #[]
  instanceTypes := #[.int, (.array .int), .int, .int, .int, .int]
  staticTypes := #[.long, .int, .int, .int, .int, .int, .int, .int, .int, .int, .int, .int, (.array .long), .int, .int, (.object "java/math/BigInteger"), .int, (.array (.object "java/math/BigInteger")), (.array (.object "java/math/BigInteger")), (.array (.array (.object "java/math/BigInteger"))), (.array .double), .double, (.object "java/math/BigInteger"), (.object "java/math/BigInteger"), (.object "java/math/BigInteger"), (.object "java/math/BigInteger"), (.object "java/math/BigInteger"), (.array .int), .int, (.object "java/lang/String"), (.array .int), (.array (.object "java/math/BigInteger")), (.array .int), (.array .int), .long, (.array (.object "java/io/ObjectStreamField")), .boolean]
  resolved := Array.replicate 1542 none
  statics := none }

def pool9 : Array CpInfo := pool [(1, u "java/lang/Cloneable"), (0, .class_ 1), (0, u "java/lang/Object"), (0, .class_ 3)] 3

/-- java/lang/Cloneable -/
def k9 : Class := { plain "java/lang/Cloneable" (some 0) with
  accessFlags := 1537
  interfaces := #[]
  cf := some (fileOf pool9 2 #[] #[] 1537 4 #[] #[])
  fields := #[]
  methods := #[]
  instanceTypes := #[]
  staticTypes := #[]
  resolved := Array.replicate 8 none
  statics := none }

/-- the primitive boolean -/
def k10 : Class := { plain "boolean" none with kind := .primitive 'Z', accessFlags := 0x411 }
/-- [Z -/
def k11 : Class := { plain "[Z" (some 0) with kind := .array 10 .boolean, interfaces := #[9, 4], accessFlags := 1041 }

/-- the primitive byte -/
def k12 : Class := { plain "byte" none with kind := .primitive 'B', accessFlags := 0x411 }
/-- [B -/
def k13 : Class := { plain "[B" (some 0) with kind := .array 12 .byte, interfaces := #[9, 4], accessFlags := 1041 }

/-- the primitive int -/
def k14 : Class := { plain "int" none with kind := .primitive 'I', accessFlags := 0x411 }
/-- [I -/
def k15 : Class := { plain "[I" (some 0) with kind := .array 14 .int, interfaces := #[9, 4], accessFlags := 1041 }

/-- [Lcom/example/yangsmith/yangsmith/schema/BuiltInType; -/
def k16 : Class := { plain "[Lcom/example/yangsmith/yangsmith/schema/BuiltInType;" (some 0) with kind := .array 6 (.object "com/example/yangsmith/yangsmith/schema/BuiltInType"), interfaces := #[9, 4], accessFlags := 1041 }

def heap : Heap := #[{ cls := 6, slots := #[.ref 1, .ref 2, .ref 3, .ref 4, .ref 5, .ref 6, .ref 7, .ref 8, .ref 9, .ref 10, .ref 11, .ref 12, .ref 13, .ref 14, .ref 15, .ref 16, .ref 17, .ref 18, .ref 19, .int 0, .null, .null], vm := .statics 6 },
  { cls := 6, slots := #[.null, .int 0, .int 0, .null, .null, .null], vm := .none },
  { cls := 6, slots := #[.null, .int 1, .int 0, .null, .null, .null], vm := .none },
  { cls := 6, slots := #[.null, .int 2, .int 0, .null, .null, .null], vm := .none },
  { cls := 6, slots := #[.null, .int 3, .int 0, .null, .null, .null], vm := .none },
  { cls := 6, slots := #[.null, .int 4, .int 0, .null, .null, .null], vm := .none },
  { cls := 6, slots := #[.null, .int 5, .int 0, .null, .null, .null], vm := .none },
  { cls := 6, slots := #[.null, .int 6, .int 0, .null, .null, .null], vm := .none },
  { cls := 6, slots := #[.null, .int 7, .int 0, .null, .null, .null], vm := .none },
  { cls := 6, slots := #[.null, .int 8, .int 0, .null, .ref 20, .null], vm := .none },
  { cls := 6, slots := #[.null, .int 9, .int 0, .null, .ref 21, .null], vm := .none },
  { cls := 6, slots := #[.null, .int 10, .int 0, .null, .ref 22, .null], vm := .none },
  { cls := 6, slots := #[.null, .int 11, .int 0, .null, .ref 23, .null], vm := .none },
  { cls := 6, slots := #[.null, .int 12, .int 0, .null, .null, .null], vm := .none },
  { cls := 6, slots := #[.null, .int 13, .int 0, .null, .null, .null], vm := .none },
  { cls := 6, slots := #[.null, .int 14, .int 0, .null, .ref 24, .null], vm := .none },
  { cls := 6, slots := #[.null, .int 15, .int 0, .null, .ref 25, .null], vm := .none },
  { cls := 6, slots := #[.null, .int 16, .int 0, .null, .ref 26, .null], vm := .none },
  { cls := 6, slots := #[.null, .int 17, .int 0, .null, .ref 27, .null], vm := .none },
  { cls := 6, slots := #[.null, .int 18, .int 0, .null, .null, .null], vm := .none },
  { cls := 8, slots := #[.int 0, .null, .int 0, .int 0, .int 0, .int 0], vm := .none },
  { cls := 8, slots := #[.int 0, .null, .int 0, .int 0, .int 0, .int 0], vm := .none },
  { cls := 8, slots := #[.int 0, .null, .int 0, .int 0, .int 0, .int 0], vm := .none },
  { cls := 8, slots := #[.int 0, .null, .int 0, .int 0, .int 0, .int 0], vm := .none },
  { cls := 8, slots := #[.int 0, .null, .int 0, .int 0, .int 0, .int 0], vm := .none },
  { cls := 8, slots := #[.int 0, .null, .int 0, .int 0, .int 0, .int 0], vm := .none },
  { cls := 8, slots := #[.int 0, .null, .int 0, .int 0, .int 0, .int 0], vm := .none },
  { cls := 8, slots := #[.int 0, .null, .int 0, .int 0, .int 0, .int 0], vm := .none }]
def classes : Array Class := #[k0, k1, k2, k3, k4, k5, k6, k7, k8, k9, k10, k11, k12, k13, k14, k15, k16]
def interned : List (Array UInt16 × Addr) := []
def slotsUsed : Nat := 184
def theMethod : MethodId := ⟨1, 1⟩
def args0 : Array Value := #[.int 5]
def aboutOver (below : List Frame) : State where
  vm := { classes := classes, interned := interned.toArray }
  heap := heap
  slotsUsed := slotsUsed
  threads := #[{ frames := .invoking theMethod args0 :: below }]
def below0 : List Frame := [.native { method := ⟨0, 0⟩, args := #[] }]
def about1 : State := aboutOver below0
def p0 : Program := .bare "" "" ""
def e0 : Env := launch0.env 0 0 0
theorem w_frames : about1.frames = Frame.invoking theMethod args0 :: below0 := rfl
set_option maxRecDepth 65536 in
theorem w_args : argsFit about1.vm theMethod args0 = true := by decide +kernel
set_option maxRecDepth 65536 in
theorem w_heap : heapFits about1 = true := by decide +kernel
set_option maxRecDepth 65536 in
theorem w_runnable : about1.curStatus? = some .runnable := by decide +kernel
set_option maxRecDepth 65536 in
theorem w_alone : about1.alone = true := by decide +kernel
set_option maxRecDepth 65536 in
theorem w_named : about1.methodNamed? x = some theMethod := by decide +kernel
set_option maxRecDepth 65536 in
theorem w_hears : about1.hears theMethod below0 = true := by decide +kernel
set_option maxRecDepth 65536 in
theorem w_ripe : about1.ripe theMethod args0 below0 = true := by decide +kernel
theorem w_running : about1.status = .running := rfl
set_option maxRecDepth 65536 in
theorem w_room : about1.hasRoom e0.platform room_1 = true :=
  launch0.hasRoom_least _ room_1 (by decide +kernel) (by decide +kernel) (by decide +kernel) (by decide +kernel) (by decide +kernel) (by decide +kernel)
theorem allAtoms_all (ts : List Jvm.Cond) (a : Array Jvm.Value) (st : Jvm.State) : (allAtoms ts).before a st = ts.all (fun c => c.before a st) := by
  induction ts with
  | nil => rfl
  | cons c t ih =>
    show (Jvm.Cond.and c (allAtoms t)).before a st = _
    rw [Jvm.Cond.before_and, ih, List.all_cons]
def words1 : List Jvm.Cond := Jvm.Cond.code x code maxLocals ret :: tables_1
/-- a 'code' word, met by the world's own term for the bytes: nothing is compared byte by byte -/
theorem code_word {y : MethodName} {bytes : ByteArray} {mx : Nat} {rt : Option FieldType} {a : Array Value} {s : State} {m : MethodId} {meth : Method} {c : Code} (h1 : s.methodNamed? y = some m) (h2 : s.vm.method? m = some meth) (h3 : meth.code = some c) (h4 : c.code = bytes)
    (h5 : (c.maxLocals == mx && c.exceptionTable.isEmpty && decide (c.maxStack ≤ mostOperands) && decide (meth.sig.returnType = rt) && !meth.locks && decide (parseMethodDescriptor y.desc = some meth.sig)) = true) : (Jvm.Cond.code y bytes mx rt).before a s = true := by
  simp only [Bool.and_eq_true, beq_iff_eq, Bool.not_eq_true', decide_eq_true_eq] at h5
  obtain ⟨⟨⟨⟨⟨g1, g2⟩, g3⟩, g4⟩, g5⟩, g6⟩ := h5
  simp [Cond.before, Cond.holds, Cond.value, h1, h2, h3, h4, g1, g2, g3, g4, g5, g6]
def isCode : Jvm.Cond → Bool
  | .code _ _ _ _ => true
  | _ => false
theorem all_split {L : List Jvm.Cond} {P : Jvm.Cond → Bool} (h1 : L.all (fun c => isCode c || P c) = true) (h2 : ∀ c ∈ L.filter isCode, P c = true) : L.all P = true := by
  refine List.all_eq_true.mpr fun c hc => ?_
  have h := List.all_eq_true.mp h1 c hc
  rcases Bool.eq_false_or_eq_true (isCode c) with hi | hi
  · exact h2 c (List.mem_filter.mpr ⟨hc, hi⟩)
  · simpa [hi] using h
set_option maxRecDepth 65536 in
theorem w_c0 : (Jvm.Cond.code x code maxLocals ret).before args0 about1 = true := code_word (m := ⟨1, 1⟩) (meth := k1m1) (c := k1c1) (by decide +kernel) rfl rfl rfl (by decide +kernel)
set_option maxRecDepth 65536 in
theorem w_c1 : (Jvm.Cond.code ({ cls := "com/example/yangsmith/yangsmith/schema/BuiltInType", name := "isInteger", desc := "()Z" } : Jvm.MethodName) prog_48_method_6_code (1 : Nat) (Option.some Jvm.ClassFile.FieldType.boolean)).before args0 about1 = true := code_word (m := ⟨6, 0⟩) (meth := k6m0) (c := k6c0) (by decide +kernel) rfl rfl rfl (by decide +kernel)
def codes1 : List Jvm.Cond := [Jvm.Cond.code x code maxLocals ret, Jvm.Cond.code ({ cls := "com/example/yangsmith/yangsmith/schema/BuiltInType", name := "isInteger", desc := "()Z" } : Jvm.MethodName) prog_48_method_6_code (1 : Nat) (Option.some Jvm.ClassFile.FieldType.boolean)]
set_option maxRecDepth 65536 in
theorem codes_eq : words1.filter isCode = codes1 := rfl
theorem w_codes : ∀ c ∈ words1.filter isCode, c.before args0 about1 = true := by
  rw [codes_eq]
  intro c hc
  simp only [codes1, List.mem_cons, List.not_mem_nil, or_false] at hc
  rcases hc with rfl | rfl
  · exact w_c0
  · exact w_c1
set_option maxRecDepth 65536 in
theorem w_t1 : (words1.take 24).all (fun c => isCode c || c.before args0 about1) = true := by decide +kernel
set_option maxRecDepth 65536 in
theorem w_t2 : ((words1.drop 24).take 24).all (fun c => isCode c || c.before args0 about1) = true := by decide +kernel
set_option maxRecDepth 65536 in
theorem w_t3 : ((words1.drop 24).drop 24).all (fun c => isCode c || c.before args0 about1) = true := by decide +kernel
theorem w_tables : (allAtoms (Jvm.Cond.code x code maxLocals ret :: tables_1)).before args0 about1 = true := by
  rw [allAtoms_all]
  show words1.all (fun c => c.before args0 about1) = true
  refine all_split ?_ w_codes
  rw [← List.take_append_drop 24 words1, List.all_append, w_t1, ← List.take_append_drop 24 (words1.drop 24), List.all_append, w_t2, w_t3]
  rfl
set_option maxRecDepth 65536 in
theorem w_case : (Jvm.Cond.and given_1 narrow_1).before args0 about1 = true := by decide +kernel
theorem w_applies : (headSpec (Jvm.Cond.code x code maxLocals ret :: tables_1) room_1).applies x e0.platform about1 = true :=
  (Spec.applies_iff w_frames).mpr ⟨w_running, w_runnable, w_alone, w_named, w_hears, w_ripe, w_room, w_tables⟩
theorem atStart : AtStart classFile x code maxLocals ret World_1 tables_1 room_1 Calls_1 rest_1 Pre_1 launch0 p0 e0 about1 theMethod args0 below0 :=
  ⟨lists_1, trivial, launch0.admits_env _ _ _, launch0.least_env, fairChoices_fair.cas, fairChoices_fair.clock, w_frames, w_args, w_heap, w_applies, trivial, trivial, w_case⟩
end start1
theorem witness_1 : WitnessClaimed_1 := ⟨start1.p0, start1.e0, start1.about1, start1.theMethod, start1.args0, start1.below0, start1.atStart⟩
end Jvm.Pilot.@@N@@
