import JvmDerived
import JvmDerived.Pilot.@@N@@Statement
import JvmDerived.Pilot.@@N@@Code
set_option linter.unusedVariables false
set_option linter.unusedSimpArgs false
namespace Jvm.RoadKit
open Sem ClassFile Op Lib Jvm.Stand Jvm.Free Jvm.LawKit
section New
variable {p : Program} {l : Launch} {e : Env} {R : Room} {s : State} {m : MethodId} {args : Array Value} {below : List Frame} {meth : Method} {c : Code} {T : State} {locs : List Loc} {cells slots : Nat}
theorem retI (X : Stand p l e R s m args below meth c T locs cells slots) (hx : p.tables.exec = Jvm.exec) {pc : Nat} {Ls : Array Slot} {z : Int32} {rest : List Value} (hret : meth.sig.returnType = some .int) (hd : decode c.code pc = .ok (.ireturn, 1)) {fs : List Frame}
    (hl : ∀ (f : JFrame) (acts : List Action), f.method = m → f.locked = none → f.entered = [] → (doReturn e (T.setTop f) acts (some (.int z))).1 = T.setFrames fs) : Steps p.tables e below (T.setTop (mkF m pc Ls (.int z :: rest))) (T.setFrames fs) := by
  have hm' : T.vm.method? m = some meth := X.method'
  have hn : narrow .int (.int z) = .int z := rfl
  show Steps p.tables e below (T.setTop { method := m, pc := pc, locals := Ls, stack := _ :: rest, locked := none }) _
  jvm_step X.here [X.here.top, hx, hd, hm', hret, hn]
  first | (intro acts; rw [hl _ acts rfl rfl rfl]) | rw [hl _ _ rfl rfl rfl]
  exact Steps.refl _
end New
end Jvm.RoadKit
namespace Jvm.Pilot.@@N@@
open Jvm Jvm.ClassFile Sem Op Lib Jvm.Free Jvm.Stand Jvm.LawKit Jvm.RoadKit Bundle Jvm.Pilot.@@N@@.Jvm.D
def QR (r : Option Value) (h0 : Heap) (n0 : Nat) (v : Option Value) (h : Heap) (L : List Loc) : Prop := v = r ∧ Fr n0 L ∧ h = h0
def QL (r : Option Value) (n0 : Nat) (v : Option Value) (h : Heap) (L : List Loc) : Prop := v = r ∧ Fr n0 L
theorem own_sta {s : State} {args : Array Value} {C n d K : String} (hi : (Jvm.Cond.initialized C).before args s = true) (hl : (Jvm.Cond.laysStatic C n d).before args s = true) (hx : (Jvm.Cond.exactly (.static C n d) K).value args s none s [] = some true) :
    ∃ a, (Term.static C n d).eval args s none [] s = some (.ref a) ∧ Sta s s.heap C n d (.ref a) ∧ Exa s s.heap a K := by
  obtain ⟨a, ev⟩ := exa_v hx
  exact ⟨a, ev, Sta.start ev (Or.inr ⟨hi, hl⟩), Exa.start ev hx⟩
theorem own_fld {s : State} {args : Array Value} {t : Term} {C n d : String} {k : Int32} {a : Addr} (ev : t.eval args s none [] s = some (.ref a)) (h : (Jvm.Cond.eq (.field t C n d) (.int k)).value args s none s [] = some true) : Fld s s.heap a C n d (.int k) := by
  obtain ⟨x, y, e1, e2, k1, k2⟩ := cmp_v (Or.inl h)
  rw [Term.int_eval] at e2
  cases e2
  obtain ⟨z, rfl⟩ := k2
  have hz : z = k := by simpa [Cond.value, e1, Term.int_eval] using h
  subst hz
  exact Fld.start ((fld_at ev).symm.trans e1)
theorem own_mod (x d : Int32) (n : Int) (hd : d.toInt = n) (hn : 0 < n) : 0 ≤ (HMod.hMod (x &&& (2147483647 : Int32)) d).toInt ∧ (HMod.hMod (x &&& (2147483647 : Int32)) d).toInt < n := by
  have h1 := (c_and x 2147483647 (by decide)).1
  have h2 := (c_irem (x &&& 2147483647) d n hd).1 h1
  have h3 : (HMod.hMod (x &&& (2147483647 : Int32)) d).toInt = (x &&& 2147483647).toInt % n := h2
  rw [h3]
  exact ⟨Int.emod_nonneg _ (by omega), Int.emod_lt_of_pos _ hn⟩
theorem own_is {x : Int32} (y : Int32) (h : x.toInt = y.toInt) : x = y := Int32.toInt_inj.mp h

theorem d1_0 : decode prog_9_method_4_code 0 = .ok (.aload_n 0, 1) := by decide +kernel
theorem d1_1 : decode prog_9_method_4_code 1 = .ok (.getstatic 7, 3) := by decide +kernel
theorem d1_4 : decode prog_9_method_4_code 4 = .ok (.if_acmp .eq 17, 3) := by decide +kernel
theorem d1_21 : decode prog_9_method_4_code 21 = .ok (.iconst 1, 1) := by decide +kernel
theorem d1_22 : decode prog_9_method_4_code 22 = .ok (.goto 4, 3) := by decide +kernel
theorem d1_26 : decode prog_9_method_4_code 26 = .ok (.ireturn, 1) := by decide +kernel
theorem pn_1 : plainName "com/example/wirekeep/wirekeep/model/FieldType$Category" = true := by first | (simp [plainName, overriddenIn]; done) | decide +kernel
theorem ef_1 (m : MethodId) (x0 : Addr) : entryFrame m #[(.ref x0)] 1 = mkF m 0 #[.val (.ref x0)] [] := by first | (simp [entryFrame, mkF, argsToLocals, Value.category]; done) | rfl
set_option maxRecDepth 65536 in
set_option maxHeartbeats 40000000 in
theorem rm1_t (l : Launch) (Z : State) (a0 : Array Value) (hw : ∀ d ∈ tables_1, d.before a0 Z = true) (ws : List Jvm.Cond) (a1 : Addr) (w_SCALAR : Addr) (w_MESSAGE : Addr) (w_GROUP : Addr) (w_ENUM : Addr) (w_MAP : Addr) (h0 : Heap) (n0 : Nat) (Z0 : n0 ≤ h0.size) (S_SCALAR : Sta Z h0 "com/example/wirekeep/wirekeep/model/FieldType$Category" "SCALAR" "Lcom/example/wirekeep/wirekeep/model/FieldType$Category;" (.ref w_SCALAR)) (S_MESSAGE : Sta Z h0 "com/example/wirekeep/wirekeep/model/FieldType$Category" "MESSAGE" "Lcom/example/wirekeep/wirekeep/model/FieldType$Category;" (.ref w_MESSAGE)) (S_GROUP : Sta Z h0 "com/example/wirekeep/wirekeep/model/FieldType$Category" "GROUP" "Lcom/example/wirekeep/wirekeep/model/FieldType$Category;" (.ref w_GROUP)) (S_ENUM : Sta Z h0 "com/example/wirekeep/wirekeep/model/FieldType$Category" "ENUM" "Lcom/example/wirekeep/wirekeep/model/FieldType$Category;" (.ref w_ENUM)) (S_MAP : Sta Z h0 "com/example/wirekeep/wirekeep/model/FieldType$Category" "MAP" "Lcom/example/wirekeep/wirekeep/model/FieldType$Category;" (.ref w_MAP)) (ha4 : a1 = w_MESSAGE) :
    MetFree l (⟨"com/example/wirekeep/wirekeep/model/FieldType$Category", "isNamed", "()Z"⟩ : MethodName) (head1 (Jvm.Cond.code (⟨"com/example/wirekeep/wirekeep/model/FieldType$Category", "isNamed", "()Z"⟩ : MethodName) prog_9_method_4_code 1 (some .boolean) :: ws) ({ frames := 0, cells := 0, slots := 0, locals := 0 } : Room)) (fun a U => a = #[(.ref a1)] ∧ Z.Warmed39 U.vm ∧ U.heap = h0) (fun _ _ _ _ _ => True) (fun _ U o U' => ∃ v L, o = .returned v ∧ QR (some (.int (1 : Int32))) h0 n0 v U'.heap L ∧ FrameEnd U o U' L ({ frames := 0, cells := 0, slots := 0, locals := 0 } : Room).cells ({ frames := 0, cells := 0, slots := 0, locals := 0 } : Room).slots) := by
  refine MetFree.of_bodySF (plainFor_of_name pn_1) hisR ?_
  intro p e s m args below meth c s₁ Bd hml0 hP hK
  obtain ⟨rfl, hZ, hh⟩ := hP
  have hx := Bd.exec
  have hby := Bd.bytes
  have hml : c.maxLocals = 1 := hml0
  have hown : s.vm.findClass "com/example/wirekeep/wirekeep/model/FieldType$Category" = some m.cls := findClass_of_methodNamed Bd.named
  have hnm := (name_of_methodNamed Bd.named Bd.method).1
  have X0 : Stand p l e ({ frames := 0, cells := 0, slots := 0, locals := 0 } : Room) s m #[(.ref a1)] below meth c s₁ [] 0 0 := Stand.of_body Bd
  have e0 : s₁.heap = h0 := by rw [← hh, Bd.state]; rfl
  have N0 := Fr.nil n0
  have pre0 : ∀ t, Steps p.tables e below (s₁.setTop (mkF m 0 #[.val (.ref a1)] [])) t → Steps p.tables e below (s₁.setTop (entryFrame m #[(.ref a1)] 1)) t := fun t k => castTop (ef_1 m a1) k
  obtain ⟨T2, X2, e2, st2⟩ := getS2 X0 hx hZ hown (host := "") (Or.inl (hw _ (List.mem_of_getElem? (i := 9) rfl))) Via.refl e0 S_MESSAGE (g := (mkF m 1 #[.val (.ref a1)] [(.ref a1)])) rfl (hb hby d1_1)
  obtain ⟨fs, hr, hrun, hended, hW, hsame⟩ := X2.leave (v := some (.int (1 : Int32))) (fun h => by rw [Bd.returns] at h; cases h)
  refine ⟨_, _, pre0 _ ?_, hrun, hended, _, _, rfl, ?_, ⟨_, rfl⟩, hW, hsame.mono (by decide) (by decide)⟩
  · show Steps p.tables e below (s₁.setTop (mkF m 0 #[.val (.ref a1)] [])) _
    refine XS.aloadN X0.here hx rfl (hb hby d1_0) rfl rfl ?_
    show Steps p.tables e below (s₁.setTop (mkF m 1 #[.val (.ref a1)] [(.ref a1)])) _
    refine st2 _ ?_
    show Steps p.tables e below (T2.setTop (mkF m 4 #[.val (.ref a1)] [(.ref w_MESSAGE), (.ref a1)])) _
    refine Jvm.RoadKit.acmp (g := (mkF m 4 #[.val (.ref a1)] [(.ref w_MESSAGE), (.ref a1)])) X2 hx rfl rfl rfl (pc0 := 4) (pc' := 21) (same := true) rfl (hb hby d1_4) rfl (decide_eq_true (congrArg Value.ref ha4)) (by decide) (by decide) ?_
    show Steps p.tables e below (T2.setTop (mkF m 21 #[.val (.ref a1)] [])) _
    refine XS.iconst X2.here hx rfl (hb hby d1_21) ?_
    show Steps p.tables e below (T2.setTop (mkF m 22 #[.val (.ref a1)] [(.int (1 : Int32))])) _
    refine XS.goto X2.here hx rfl (pc0 := 22) (pc' := 26) rfl (hb hby d1_22) (by decide) (by decide) ?_
    show Steps p.tables e below (T2.setTop (mkF m 26 #[.val (.ref a1)] [(.int (1 : Int32))])) _
    exact retN X2 hx (t := .boolean) Bd.returns (by simp) (hb hby d1_26) hr
  · show QR (some (.int (1 : Int32))) h0 n0 _ T2.heap _
    rw [e2]
    exact ⟨rfl, N0, rfl⟩

theorem d1_7 : decode prog_9_method_4_code 7 = .ok (.aload_n 0, 1) := by decide +kernel
theorem d1_8 : decode prog_9_method_4_code 8 = .ok (.getstatic 10, 3) := by decide +kernel
theorem d1_11 : decode prog_9_method_4_code 11 = .ok (.if_acmp .eq 10, 3) := by decide +kernel
set_option maxRecDepth 65536 in
set_option maxHeartbeats 40000000 in
theorem rm1_ft (l : Launch) (Z : State) (a0 : Array Value) (hw : ∀ d ∈ tables_1, d.before a0 Z = true) (ws : List Jvm.Cond) (a1 : Addr) (w_SCALAR : Addr) (w_MESSAGE : Addr) (w_GROUP : Addr) (w_ENUM : Addr) (w_MAP : Addr) (h0 : Heap) (n0 : Nat) (Z0 : n0 ≤ h0.size) (S_SCALAR : Sta Z h0 "com/example/wirekeep/wirekeep/model/FieldType$Category" "SCALAR" "Lcom/example/wirekeep/wirekeep/model/FieldType$Category;" (.ref w_SCALAR)) (S_MESSAGE : Sta Z h0 "com/example/wirekeep/wirekeep/model/FieldType$Category" "MESSAGE" "Lcom/example/wirekeep/wirekeep/model/FieldType$Category;" (.ref w_MESSAGE)) (S_GROUP : Sta Z h0 "com/example/wirekeep/wirekeep/model/FieldType$Category" "GROUP" "Lcom/example/wirekeep/wirekeep/model/FieldType$Category;" (.ref w_GROUP)) (S_ENUM : Sta Z h0 "com/example/wirekeep/wirekeep/model/FieldType$Category" "ENUM" "Lcom/example/wirekeep/wirekeep/model/FieldType$Category;" (.ref w_ENUM)) (S_MAP : Sta Z h0 "com/example/wirekeep/wirekeep/model/FieldType$Category" "MAP" "Lcom/example/wirekeep/wirekeep/model/FieldType$Category;" (.ref w_MAP)) (ha4 : ¬ (a1 = w_MESSAGE)) (ha11 : a1 = w_GROUP) :
    MetFree l (⟨"com/example/wirekeep/wirekeep/model/FieldType$Category", "isNamed", "()Z"⟩ : MethodName) (head1 (Jvm.Cond.code (⟨"com/example/wirekeep/wirekeep/model/FieldType$Category", "isNamed", "()Z"⟩ : MethodName) prog_9_method_4_code 1 (some .boolean) :: ws) ({ frames := 0, cells := 0, slots := 0, locals := 0 } : Room)) (fun a U => a = #[(.ref a1)] ∧ Z.Warmed39 U.vm ∧ U.heap = h0) (fun _ _ _ _ _ => True) (fun _ U o U' => ∃ v L, o = .returned v ∧ QR (some (.int (1 : Int32))) h0 n0 v U'.heap L ∧ FrameEnd U o U' L ({ frames := 0, cells := 0, slots := 0, locals := 0 } : Room).cells ({ frames := 0, cells := 0, slots := 0, locals := 0 } : Room).slots) := by
  refine MetFree.of_bodySF (plainFor_of_name pn_1) hisR ?_
  intro p e s m args below meth c s₁ Bd hml0 hP hK
  obtain ⟨rfl, hZ, hh⟩ := hP
  have hx := Bd.exec
  have hby := Bd.bytes
  have hml : c.maxLocals = 1 := hml0
  have hown : s.vm.findClass "com/example/wirekeep/wirekeep/model/FieldType$Category" = some m.cls := findClass_of_methodNamed Bd.named
  have hnm := (name_of_methodNamed Bd.named Bd.method).1
  have X0 : Stand p l e ({ frames := 0, cells := 0, slots := 0, locals := 0 } : Room) s m #[(.ref a1)] below meth c s₁ [] 0 0 := Stand.of_body Bd
  have e0 : s₁.heap = h0 := by rw [← hh, Bd.state]; rfl
  have N0 := Fr.nil n0
  have pre0 : ∀ t, Steps p.tables e below (s₁.setTop (mkF m 0 #[.val (.ref a1)] [])) t → Steps p.tables e below (s₁.setTop (entryFrame m #[(.ref a1)] 1)) t := fun t k => castTop (ef_1 m a1) k
  obtain ⟨T2, X2, e2, st2⟩ := getS2 X0 hx hZ hown (host := "") (Or.inl (hw _ (List.mem_of_getElem? (i := 9) rfl))) Via.refl e0 S_MESSAGE (g := (mkF m 1 #[.val (.ref a1)] [(.ref a1)])) rfl (hb hby d1_1)
  obtain ⟨T3, X3, e3, st3⟩ := getS2 X2 hx hZ hown (host := "") (Or.inl (hw _ (List.mem_of_getElem? (i := 11) rfl))) Via.refl e2 S_GROUP (g := (mkF m 8 #[.val (.ref a1)] [(.ref a1)])) rfl (hb hby d1_8)
  obtain ⟨fs, hr, hrun, hended, hW, hsame⟩ := X3.leave (v := some (.int (1 : Int32))) (fun h => by rw [Bd.returns] at h; cases h)
  refine ⟨_, _, pre0 _ ?_, hrun, hended, _, _, rfl, ?_, ⟨_, rfl⟩, hW, hsame.mono (by decide) (by decide)⟩
  · show Steps p.tables e below (s₁.setTop (mkF m 0 #[.val (.ref a1)] [])) _
    refine XS.aloadN X0.here hx rfl (hb hby d1_0) rfl rfl ?_
    show Steps p.tables e below (s₁.setTop (mkF m 1 #[.val (.ref a1)] [(.ref a1)])) _
    refine st2 _ ?_
    show Steps p.tables e below (T2.setTop (mkF m 4 #[.val (.ref a1)] [(.ref w_MESSAGE), (.ref a1)])) _
    refine Jvm.RoadKit.acmp (g := (mkF m 4 #[.val (.ref a1)] [(.ref w_MESSAGE), (.ref a1)])) X2 hx rfl rfl rfl (pc0 := 4) (pc' := 7) (same := false) rfl (hb hby d1_4) rfl (decide_eq_false fun q => ha4 (Value.ref.inj q)) (by decide) (by decide) ?_
    show Steps p.tables e below (T2.setTop (mkF m 7 #[.val (.ref a1)] [])) _
    refine XS.aloadN X2.here hx rfl (hb hby d1_7) rfl rfl ?_
    show Steps p.tables e below (T2.setTop (mkF m 8 #[.val (.ref a1)] [(.ref a1)])) _
    refine st3 _ ?_
    show Steps p.tables e below (T3.setTop (mkF m 11 #[.val (.ref a1)] [(.ref w_GROUP), (.ref a1)])) _
    refine Jvm.RoadKit.acmp (g := (mkF m 11 #[.val (.ref a1)] [(.ref w_GROUP), (.ref a1)])) X3 hx rfl rfl rfl (pc0 := 11) (pc' := 21) (same := true) rfl (hb hby d1_11) rfl (decide_eq_true (congrArg Value.ref ha11)) (by decide) (by decide) ?_
    show Steps p.tables e below (T3.setTop (mkF m 21 #[.val (.ref a1)] [])) _
    refine XS.iconst X3.here hx rfl (hb hby d1_21) ?_
    show Steps p.tables e below (T3.setTop (mkF m 22 #[.val (.ref a1)] [(.int (1 : Int32))])) _
    refine XS.goto X3.here hx rfl (pc0 := 22) (pc' := 26) rfl (hb hby d1_22) (by decide) (by decide) ?_
    show Steps p.tables e below (T3.setTop (mkF m 26 #[.val (.ref a1)] [(.int (1 : Int32))])) _
    exact retN X3 hx (t := .boolean) Bd.returns (by simp) (hb hby d1_26) hr
  · show QR (some (.int (1 : Int32))) h0 n0 _ T3.heap _
    rw [e3]
    exact ⟨rfl, N0, rfl⟩

theorem d1_14 : decode prog_9_method_4_code 14 = .ok (.aload_n 0, 1) := by decide +kernel
theorem d1_15 : decode prog_9_method_4_code 15 = .ok (.getstatic 13, 3) := by decide +kernel
theorem d1_18 : decode prog_9_method_4_code 18 = .ok (.if_acmp .ne 7, 3) := by decide +kernel
set_option maxRecDepth 65536 in
set_option maxHeartbeats 40000000 in
theorem rm1_fff (l : Launch) (Z : State) (a0 : Array Value) (hw : ∀ d ∈ tables_1, d.before a0 Z = true) (ws : List Jvm.Cond) (a1 : Addr) (w_SCALAR : Addr) (w_MESSAGE : Addr) (w_GROUP : Addr) (w_ENUM : Addr) (w_MAP : Addr) (h0 : Heap) (n0 : Nat) (Z0 : n0 ≤ h0.size) (S_SCALAR : Sta Z h0 "com/example/wirekeep/wirekeep/model/FieldType$Category" "SCALAR" "Lcom/example/wirekeep/wirekeep/model/FieldType$Category;" (.ref w_SCALAR)) (S_MESSAGE : Sta Z h0 "com/example/wirekeep/wirekeep/model/FieldType$Category" "MESSAGE" "Lcom/example/wirekeep/wirekeep/model/FieldType$Category;" (.ref w_MESSAGE)) (S_GROUP : Sta Z h0 "com/example/wirekeep/wirekeep/model/FieldType$Category" "GROUP" "Lcom/example/wirekeep/wirekeep/model/FieldType$Category;" (.ref w_GROUP)) (S_ENUM : Sta Z h0 "com/example/wirekeep/wirekeep/model/FieldType$Category" "ENUM" "Lcom/example/wirekeep/wirekeep/model/FieldType$Category;" (.ref w_ENUM)) (S_MAP : Sta Z h0 "com/example/wirekeep/wirekeep/model/FieldType$Category" "MAP" "Lcom/example/wirekeep/wirekeep/model/FieldType$Category;" (.ref w_MAP)) (ha4 : ¬ (a1 = w_MESSAGE)) (ha11 : ¬ (a1 = w_GROUP)) (ha18 : a1 = w_ENUM) :
    MetFree l (⟨"com/example/wirekeep/wirekeep/model/FieldType$Category", "isNamed", "()Z"⟩ : MethodName) (head1 (Jvm.Cond.code (⟨"com/example/wirekeep/wirekeep/model/FieldType$Category", "isNamed", "()Z"⟩ : MethodName) prog_9_method_4_code 1 (some .boolean) :: ws) ({ frames := 0, cells := 0, slots := 0, locals := 0 } : Room)) (fun a U => a = #[(.ref a1)] ∧ Z.Warmed39 U.vm ∧ U.heap = h0) (fun _ _ _ _ _ => True) (fun _ U o U' => ∃ v L, o = .returned v ∧ QR (some (.int (1 : Int32))) h0 n0 v U'.heap L ∧ FrameEnd U o U' L ({ frames := 0, cells := 0, slots := 0, locals := 0 } : Room).cells ({ frames := 0, cells := 0, slots := 0, locals := 0 } : Room).slots) := by
  refine MetFree.of_bodySF (plainFor_of_name pn_1) hisR ?_
  intro p e s m args below meth c s₁ Bd hml0 hP hK
  obtain ⟨rfl, hZ, hh⟩ := hP
  have hx := Bd.exec
  have hby := Bd.bytes
  have hml : c.maxLocals = 1 := hml0
  have hown : s.vm.findClass "com/example/wirekeep/wirekeep/model/FieldType$Category" = some m.cls := findClass_of_methodNamed Bd.named
  have hnm := (name_of_methodNamed Bd.named Bd.method).1
  have X0 : Stand p l e ({ frames := 0, cells := 0, slots := 0, locals := 0 } : Room) s m #[(.ref a1)] below meth c s₁ [] 0 0 := Stand.of_body Bd
  have e0 : s₁.heap = h0 := by rw [← hh, Bd.state]; rfl
  have N0 := Fr.nil n0
  have pre0 : ∀ t, Steps p.tables e below (s₁.setTop (mkF m 0 #[.val (.ref a1)] [])) t → Steps p.tables e below (s₁.setTop (entryFrame m #[(.ref a1)] 1)) t := fun t k => castTop (ef_1 m a1) k
  obtain ⟨T2, X2, e2, st2⟩ := getS2 X0 hx hZ hown (host := "") (Or.inl (hw _ (List.mem_of_getElem? (i := 9) rfl))) Via.refl e0 S_MESSAGE (g := (mkF m 1 #[.val (.ref a1)] [(.ref a1)])) rfl (hb hby d1_1)
  obtain ⟨T3, X3, e3, st3⟩ := getS2 X2 hx hZ hown (host := "") (Or.inl (hw _ (List.mem_of_getElem? (i := 11) rfl))) Via.refl e2 S_GROUP (g := (mkF m 8 #[.val (.ref a1)] [(.ref a1)])) rfl (hb hby d1_8)
  obtain ⟨T4, X4, e4, st4⟩ := getS2 X3 hx hZ hown (host := "") (Or.inl (hw _ (List.mem_of_getElem? (i := 13) rfl))) Via.refl e3 S_ENUM (g := (mkF m 15 #[.val (.ref a1)] [(.ref a1)])) rfl (hb hby d1_15)
  obtain ⟨fs, hr, hrun, hended, hW, hsame⟩ := X4.leave (v := some (.int (1 : Int32))) (fun h => by rw [Bd.returns] at h; cases h)
  refine ⟨_, _, pre0 _ ?_, hrun, hended, _, _, rfl, ?_, ⟨_, rfl⟩, hW, hsame.mono (by decide) (by decide)⟩
  · show Steps p.tables e below (s₁.setTop (mkF m 0 #[.val (.ref a1)] [])) _
    refine XS.aloadN X0.here hx rfl (hb hby d1_0) rfl rfl ?_
    show Steps p.tables e below (s₁.setTop (mkF m 1 #[.val (.ref a1)] [(.ref a1)])) _
    refine st2 _ ?_
    show Steps p.tables e below (T2.setTop (mkF m 4 #[.val (.ref a1)] [(.ref w_MESSAGE), (.ref a1)])) _
    refine Jvm.RoadKit.acmp (g := (mkF m 4 #[.val (.ref a1)] [(.ref w_MESSAGE), (.ref a1)])) X2 hx rfl rfl rfl (pc0 := 4) (pc' := 7) (same := false) rfl (hb hby d1_4) rfl (decide_eq_false fun q => ha4 (Value.ref.inj q)) (by decide) (by decide) ?_
    show Steps p.tables e below (T2.setTop (mkF m 7 #[.val (.ref a1)] [])) _
    refine XS.aloadN X2.here hx rfl (hb hby d1_7) rfl rfl ?_
    show Steps p.tables e below (T2.setTop (mkF m 8 #[.val (.ref a1)] [(.ref a1)])) _
    refine st3 _ ?_
    show Steps p.tables e below (T3.setTop (mkF m 11 #[.val (.ref a1)] [(.ref w_GROUP), (.ref a1)])) _
    refine Jvm.RoadKit.acmp (g := (mkF m 11 #[.val (.ref a1)] [(.ref w_GROUP), (.ref a1)])) X3 hx rfl rfl rfl (pc0 := 11) (pc' := 14) (same := false) rfl (hb hby d1_11) rfl (decide_eq_false fun q => ha11 (Value.ref.inj q)) (by decide) (by decide) ?_
    show Steps p.tables e below (T3.setTop (mkF m 14 #[.val (.ref a1)] [])) _
    refine XS.aloadN X3.here hx rfl (hb hby d1_14) rfl rfl ?_
    show Steps p.tables e below (T3.setTop (mkF m 15 #[.val (.ref a1)] [(.ref a1)])) _
    refine st4 _ ?_
    show Steps p.tables e below (T4.setTop (mkF m 18 #[.val (.ref a1)] [(.ref w_ENUM), (.ref a1)])) _
    refine Jvm.RoadKit.acmp (g := (mkF m 18 #[.val (.ref a1)] [(.ref w_ENUM), (.ref a1)])) X4 hx rfl rfl rfl (pc0 := 18) (pc' := 21) (same := true) rfl (hb hby d1_18) rfl (decide_eq_true (congrArg Value.ref ha18)) (by decide) (by decide) ?_
    show Steps p.tables e below (T4.setTop (mkF m 21 #[.val (.ref a1)] [])) _
    refine XS.iconst X4.here hx rfl (hb hby d1_21) ?_
    show Steps p.tables e below (T4.setTop (mkF m 22 #[.val (.ref a1)] [(.int (1 : Int32))])) _
    refine XS.goto X4.here hx rfl (pc0 := 22) (pc' := 26) rfl (hb hby d1_22) (by decide) (by decide) ?_
    show Steps p.tables e below (T4.setTop (mkF m 26 #[.val (.ref a1)] [(.int (1 : Int32))])) _
    exact retN X4 hx (t := .boolean) Bd.returns (by simp) (hb hby d1_26) hr
  · show QR (some (.int (1 : Int32))) h0 n0 _ T4.heap _
    rw [e4]
    exact ⟨rfl, N0, rfl⟩

theorem d1_25 : decode prog_9_method_4_code 25 = .ok (.iconst 0, 1) := by decide +kernel
set_option maxRecDepth 65536 in
set_option maxHeartbeats 40000000 in
theorem rm1_fft (l : Launch) (Z : State) (a0 : Array Value) (hw : ∀ d ∈ tables_1, d.before a0 Z = true) (ws : List Jvm.Cond) (a1 : Addr) (w_SCALAR : Addr) (w_MESSAGE : Addr) (w_GROUP : Addr) (w_ENUM : Addr) (w_MAP : Addr) (h0 : Heap) (n0 : Nat) (Z0 : n0 ≤ h0.size) (S_SCALAR : Sta Z h0 "com/example/wirekeep/wirekeep/model/FieldType$Category" "SCALAR" "Lcom/example/wirekeep/wirekeep/model/FieldType$Category;" (.ref w_SCALAR)) (S_MESSAGE : Sta Z h0 "com/example/wirekeep/wirekeep/model/FieldType$Category" "MESSAGE" "Lcom/example/wirekeep/wirekeep/model/FieldType$Category;" (.ref w_MESSAGE)) (S_GROUP : Sta Z h0 "com/example/wirekeep/wirekeep/model/FieldType$Category" "GROUP" "Lcom/example/wirekeep/wirekeep/model/FieldType$Category;" (.ref w_GROUP)) (S_ENUM : Sta Z h0 "com/example/wirekeep/wirekeep/model/FieldType$Category" "ENUM" "Lcom/example/wirekeep/wirekeep/model/FieldType$Category;" (.ref w_ENUM)) (S_MAP : Sta Z h0 "com/example/wirekeep/wirekeep/model/FieldType$Category" "MAP" "Lcom/example/wirekeep/wirekeep/model/FieldType$Category;" (.ref w_MAP)) (ha4 : ¬ (a1 = w_MESSAGE)) (ha11 : ¬ (a1 = w_GROUP)) (ha18 : ¬ (a1 = w_ENUM)) :
    MetFree l (⟨"com/example/wirekeep/wirekeep/model/FieldType$Category", "isNamed", "()Z"⟩ : MethodName) (head1 (Jvm.Cond.code (⟨"com/example/wirekeep/wirekeep/model/FieldType$Category", "isNamed", "()Z"⟩ : MethodName) prog_9_method_4_code 1 (some .boolean) :: ws) ({ frames := 0, cells := 0, slots := 0, locals := 0 } : Room)) (fun a U => a = #[(.ref a1)] ∧ Z.Warmed39 U.vm ∧ U.heap = h0) (fun _ _ _ _ _ => True) (fun _ U o U' => ∃ v L, o = .returned v ∧ QR (some (.int (0 : Int32))) h0 n0 v U'.heap L ∧ FrameEnd U o U' L ({ frames := 0, cells := 0, slots := 0, locals := 0 } : Room).cells ({ frames := 0, cells := 0, slots := 0, locals := 0 } : Room).slots) := by
  refine MetFree.of_bodySF (plainFor_of_name pn_1) hisR ?_
  intro p e s m args below meth c s₁ Bd hml0 hP hK
  obtain ⟨rfl, hZ, hh⟩ := hP
  have hx := Bd.exec
  have hby := Bd.bytes
  have hml : c.maxLocals = 1 := hml0
  have hown : s.vm.findClass "com/example/wirekeep/wirekeep/model/FieldType$Category" = some m.cls := findClass_of_methodNamed Bd.named
  have hnm := (name_of_methodNamed Bd.named Bd.method).1
  have X0 : Stand p l e ({ frames := 0, cells := 0, slots := 0, locals := 0 } : Room) s m #[(.ref a1)] below meth c s₁ [] 0 0 := Stand.of_body Bd
  have e0 : s₁.heap = h0 := by rw [← hh, Bd.state]; rfl
  have N0 := Fr.nil n0
  have pre0 : ∀ t, Steps p.tables e below (s₁.setTop (mkF m 0 #[.val (.ref a1)] [])) t → Steps p.tables e below (s₁.setTop (entryFrame m #[(.ref a1)] 1)) t := fun t k => castTop (ef_1 m a1) k
  obtain ⟨T2, X2, e2, st2⟩ := getS2 X0 hx hZ hown (host := "") (Or.inl (hw _ (List.mem_of_getElem? (i := 9) rfl))) Via.refl e0 S_MESSAGE (g := (mkF m 1 #[.val (.ref a1)] [(.ref a1)])) rfl (hb hby d1_1)
  obtain ⟨T3, X3, e3, st3⟩ := getS2 X2 hx hZ hown (host := "") (Or.inl (hw _ (List.mem_of_getElem? (i := 11) rfl))) Via.refl e2 S_GROUP (g := (mkF m 8 #[.val (.ref a1)] [(.ref a1)])) rfl (hb hby d1_8)
  obtain ⟨T4, X4, e4, st4⟩ := getS2 X3 hx hZ hown (host := "") (Or.inl (hw _ (List.mem_of_getElem? (i := 13) rfl))) Via.refl e3 S_ENUM (g := (mkF m 15 #[.val (.ref a1)] [(.ref a1)])) rfl (hb hby d1_15)
  obtain ⟨fs, hr, hrun, hended, hW, hsame⟩ := X4.leave (v := some (.int (0 : Int32))) (fun h => by rw [Bd.returns] at h; cases h)
  refine ⟨_, _, pre0 _ ?_, hrun, hended, _, _, rfl, ?_, ⟨_, rfl⟩, hW, hsame.mono (by decide) (by decide)⟩
  · show Steps p.tables e below (s₁.setTop (mkF m 0 #[.val (.ref a1)] [])) _
    refine XS.aloadN X0.here hx rfl (hb hby d1_0) rfl rfl ?_
    show Steps p.tables e below (s₁.setTop (mkF m 1 #[.val (.ref a1)] [(.ref a1)])) _
    refine st2 _ ?_
    show Steps p.tables e below (T2.setTop (mkF m 4 #[.val (.ref a1)] [(.ref w_MESSAGE), (.ref a1)])) _
    refine Jvm.RoadKit.acmp (g := (mkF m 4 #[.val (.ref a1)] [(.ref w_MESSAGE), (.ref a1)])) X2 hx rfl rfl rfl (pc0 := 4) (pc' := 7) (same := false) rfl (hb hby d1_4) rfl (decide_eq_false fun q => ha4 (Value.ref.inj q)) (by decide) (by decide) ?_
    show Steps p.tables e below (T2.setTop (mkF m 7 #[.val (.ref a1)] [])) _
    refine XS.aloadN X2.here hx rfl (hb hby d1_7) rfl rfl ?_
    show Steps p.tables e below (T2.setTop (mkF m 8 #[.val (.ref a1)] [(.ref a1)])) _
    refine st3 _ ?_
    show Steps p.tables e below (T3.setTop (mkF m 11 #[.val (.ref a1)] [(.ref w_GROUP), (.ref a1)])) _
    refine Jvm.RoadKit.acmp (g := (mkF m 11 #[.val (.ref a1)] [(.ref w_GROUP), (.ref a1)])) X3 hx rfl rfl rfl (pc0 := 11) (pc' := 14) (same := false) rfl (hb hby d1_11) rfl (decide_eq_false fun q => ha11 (Value.ref.inj q)) (by decide) (by decide) ?_
    show Steps p.tables e below (T3.setTop (mkF m 14 #[.val (.ref a1)] [])) _
    refine XS.aloadN X3.here hx rfl (hb hby d1_14) rfl rfl ?_
    show Steps p.tables e below (T3.setTop (mkF m 15 #[.val (.ref a1)] [(.ref a1)])) _
    refine st4 _ ?_
    show Steps p.tables e below (T4.setTop (mkF m 18 #[.val (.ref a1)] [(.ref w_ENUM), (.ref a1)])) _
    refine Jvm.RoadKit.acmp (g := (mkF m 18 #[.val (.ref a1)] [(.ref w_ENUM), (.ref a1)])) X4 hx rfl rfl rfl (pc0 := 18) (pc' := 25) (same := false) rfl (hb hby d1_18) rfl (decide_eq_false fun q => ha18 (Value.ref.inj q)) (by decide) (by decide) ?_
    show Steps p.tables e below (T4.setTop (mkF m 25 #[.val (.ref a1)] [])) _
    refine XS.iconst X4.here hx rfl (hb hby d1_25) ?_
    show Steps p.tables e below (T4.setTop (mkF m 26 #[.val (.ref a1)] [(.int (0 : Int32))])) _
    exact retN X4 hx (t := .boolean) Bd.returns (by simp) (hb hby d1_26) hr
  · show QR (some (.int (0 : Int32))) h0 n0 _ T4.heap _
    rw [e4]
    exact ⟨rfl, N0, rfl⟩

theorem pn_0 : plainName "com/example/wirekeep/wirekeep/model/CategoryIsNamedPinLaw" = true := by first | (simp [plainName, overriddenIn]; done) | decide +kernel
theorem pd_0_0 : parseMethodDescriptor "()Z" = some ⟨[], some .boolean⟩ := by decide +kernel
theorem ef_0 (m : MethodId) (x0 : Int32) : entryFrame m #[(.int x0)] maxLocals = mkF m 0 #[.val (.int x0), .unset, .unset, .unset] [] := by first | (simp [entryFrame, mkF, argsToLocals, Value.category, maxLocals]; done) | rfl
set_option maxRecDepth 65536 in
set_option maxHeartbeats 40000000 in
theorem rm0_0 (l : Launch) (Z : State) (a0 : Array Value) (hw : ∀ d ∈ tables_1, d.before a0 Z = true) (ws : List Jvm.Cond) (p1 : Int32) (w_SCALAR : Addr) (w_MESSAGE : Addr) (w_GROUP : Addr) (w_ENUM : Addr) (w_MAP : Addr) (h0 : Heap) (n0 : Nat) (Z0 : n0 ≤ h0.size) (S_SCALAR : Sta Z h0 "com/example/wirekeep/wirekeep/model/FieldType$Category" "SCALAR" "Lcom/example/wirekeep/wirekeep/model/FieldType$Category;" (.ref w_SCALAR)) (S_MESSAGE : Sta Z h0 "com/example/wirekeep/wirekeep/model/FieldType$Category" "MESSAGE" "Lcom/example/wirekeep/wirekeep/model/FieldType$Category;" (.ref w_MESSAGE)) (S_GROUP : Sta Z h0 "com/example/wirekeep/wirekeep/model/FieldType$Category" "GROUP" "Lcom/example/wirekeep/wirekeep/model/FieldType$Category;" (.ref w_GROUP)) (S_ENUM : Sta Z h0 "com/example/wirekeep/wirekeep/model/FieldType$Category" "ENUM" "Lcom/example/wirekeep/wirekeep/model/FieldType$Category;" (.ref w_ENUM)) (S_MAP : Sta Z h0 "com/example/wirekeep/wirekeep/model/FieldType$Category" "MAP" "Lcom/example/wirekeep/wirekeep/model/FieldType$Category;" (.ref w_MAP)) (E_w_SCALAR : Exa Z h0 w_SCALAR "com/example/wirekeep/wirekeep/model/FieldType$Category") (E_w_MESSAGE : Exa Z h0 w_MESSAGE "com/example/wirekeep/wirekeep/model/FieldType$Category") (E_w_GROUP : Exa Z h0 w_GROUP "com/example/wirekeep/wirekeep/model/FieldType$Category") (E_w_ENUM : Exa Z h0 w_ENUM "com/example/wirekeep/wirekeep/model/FieldType$Category") (E_w_MAP : Exa Z h0 w_MAP "com/example/wirekeep/wirekeep/model/FieldType$Category") (ne_SCALAR_MESSAGE : ¬ (w_SCALAR = w_MESSAGE)) (ne_SCALAR_GROUP : ¬ (w_SCALAR = w_GROUP)) (ne_SCALAR_ENUM : ¬ (w_SCALAR = w_ENUM)) (ne_MAP_MESSAGE : ¬ (w_MAP = w_MESSAGE)) (ne_MAP_GROUP : ¬ (w_MAP = w_GROUP)) (ne_MAP_ENUM : ¬ (w_MAP = w_ENUM)) (ne_GROUP_MESSAGE : ¬ (w_GROUP = w_MESSAGE)) (ne_ENUM_MESSAGE : ¬ (w_ENUM = w_MESSAGE)) (ne_ENUM_GROUP : ¬ (w_ENUM = w_GROUP)) (hc8 : (HMod.hMod (p1 &&& (2147483647 : Int32)) (5 : Int32)) = (0 : Int32)) :
    MetFree l x (head1 (Jvm.Cond.code x code maxLocals ret :: ws) room_1) (fun a U => a = #[(.int p1)] ∧ Z.Warmed39 U.vm ∧ U.heap = h0) (fun _ _ _ _ _ => True) (fun _ U o U' => ∃ v L, o = .returned v ∧ QR (some (.int (1 : Int32))) h0 n0 v U'.heap L ∧ FrameEnd U o U' L room_1.cells room_1.slots) := by
  refine MetFree.of_bodySF (plainFor_of_name pn_0) hisR ?_
  intro p e s m args below meth c s₁ Bd hml0 hP hK
  obtain ⟨rfl, hZ, hh⟩ := hP
  have hx := Bd.exec
  have hby := Bd.bytes
  have hml : c.maxLocals = 4 := hml0
  have hown : s.vm.findClass "com/example/wirekeep/wirekeep/model/CategoryIsNamedPinLaw" = some m.cls := findClass_of_methodNamed Bd.named
  have hnm := (name_of_methodNamed Bd.named Bd.method).1
  have X0 : Stand p l e room_1 s m #[(.int p1)] below meth c s₁ [] 0 0 := Stand.of_body Bd
  have e0 : s₁.heap = h0 := by rw [← hh, Bd.state]; rfl
  have N0 := Fr.nil n0
  have pre0 : ∀ t, Steps p.tables e below (s₁.setTop (mkF m 0 #[.val (.int p1), .unset, .unset, .unset] [])) t → Steps p.tables e below (s₁.setTop (entryFrame m #[(.int p1)] maxLocals)) t := fun t k => castTop (ef_0 m p1) k
  obtain ⟨T2, X2, e2, st2⟩ := getS2 X0 hx hZ hown (host := "") (Or.inl (hw _ (List.mem_of_getElem? (i := 1) rfl))) Via.refl e0 S_SCALAR (g := (mkF m 11 #[.val (.int p1), .val (.int (HMod.hMod (p1 &&& (2147483647 : Int32)) (5 : Int32))), .unset, .unset] [])) rfl (hb hby at_11)
  obtain ⟨cq3, kq3, q3a, q3b, q3c⟩ := isOf hZ e2 E_w_SCALAR
  obtain ⟨_, _, ⟨T3, L3, k3, n3⟩, -, X3, ⟨Lc3, hQ3, l3, y3, z3⟩, st3⟩ := X2.virtualBack hx (y := (⟨"com/example/wirekeep/wirekeep/model/FieldType$Category", "isNamed", "()Z"⟩ : MethodName)) (z := (⟨"com/example/wirekeep/wirekeep/model/FieldType$Category", "isNamed", "()Z"⟩ : MethodName)) hown (mvT hZ (hw _ (List.mem_of_getElem? (i := 4) rfl))) (mvT hZ (hw _ (List.mem_of_getElem? (i := 5) rfl))) (notFace_of_selects (args := #[]) (mvT hZ (hw _ (List.mem_of_getElem? (i := 7) rfl)))) (mvT hZ (hw _ (List.mem_of_getElem? (i := 7) rfl))) (mvT hZ (hw _ (List.mem_of_getElem? (i := 6) rfl))) (by decide) (backOf (W := 0) (rm1_fft l Z a0 hw [] w_SCALAR w_SCALAR w_MESSAGE w_GROUP w_ENUM w_MAP h0 n0 Z0 S_SCALAR S_MESSAGE S_GROUP S_ENUM S_MAP ne_SCALAR_MESSAGE ne_SCALAR_GROUP ne_SCALAR_ENUM) hZ (hw _ (List.mem_of_getElem? (i := 8) rfl)) (hw _ (List.mem_of_getElem? (i := 2) rfl)) (by decide) (by decide)) q3a q3c (g := (mkF m 69 #[.val (.int p1), .val (.int (HMod.hMod (p1 &&& (2147483647 : Int32)) (5 : Int32))), .val (.ref w_SCALAR), .val (.int (0 : Int32))] [(.ref w_SCALAR)])) rfl (by rw [hml]; rfl) (Steps.refl _) (argsL := []) (rest := []) (lenOf pd_0_0 rfl) rfl (by show 2 * 0 + _ ≤ _; exact Nat.le_of_eq rfl) (hb hby at_69) (fun _ _ => ⟨rfl, e2, (by decide : 0 + 0 ≤ _), (by decide : 0 + 0 ≤ _)⟩)
  dsimp only [Pt.U, Pt.locs, Pt.cells, Pt.slots] at X3 l3 y3 z3 st3 hQ3
  subst l3 y3 z3
  obtain ⟨rfl, N3q, eq3⟩ := hQ3
  have N3 := Fr.app N0 N3q
  obtain ⟨fs, hr, hrun, hended, hW, hsame⟩ := X3.leave (v := some (.int (1 : Int32))) (fun h => by rw [Bd.returns] at h; cases h)
  refine ⟨_, _, pre0 _ ?_, hrun, hended, _, _, rfl, ?_, ⟨_, rfl⟩, hW, hsame.mono (by decide) (by decide)⟩
  · show Steps p.tables e below (s₁.setTop (mkF m 0 #[.val (.int p1), .unset, .unset, .unset] [])) _
    refine XS.iloadN X0.here hx rfl (hb hby at_0) rfl ?_
    show Steps p.tables e below (s₁.setTop (mkF m 1 #[.val (.int p1), .unset, .unset, .unset] [(.int p1)])) _
    refine X0.ldcInt hx hown (mvT hZ (hw _ (List.mem_of_getElem? (i := 0) rfl))) (g := (mkF m 1 #[.val (.int p1), .unset, .unset, .unset] [(.int p1)])) rfl (hb hby at_1) _ ?_
    show Steps p.tables e below (s₁.setTop (mkF m 3 #[.val (.int p1), .unset, .unset, .unset] [(.int (2147483647 : Int32)), (.int p1)])) _
    refine XS.iand X0.here hx rfl (hb hby at_3) rfl ?_
    show Steps p.tables e below (s₁.setTop (mkF m 4 #[.val (.int p1), .unset, .unset, .unset] [(.int (p1 &&& (2147483647 : Int32)))])) _
    refine XS.iconst X0.here hx rfl (hb hby at_4) ?_
    show Steps p.tables e below (s₁.setTop (mkF m 5 #[.val (.int p1), .unset, .unset, .unset] [(.int (5 : Int32)), (.int (p1 &&& (2147483647 : Int32)))])) _
    refine iremM X0 hx rfl (hb hby at_5) rfl (by decide) ?_
    show Steps p.tables e below (s₁.setTop (mkF m 6 #[.val (.int p1), .unset, .unset, .unset] [(.int (HMod.hMod (p1 &&& (2147483647 : Int32)) (5 : Int32)))])) _
    refine XS.istoreN X0.here hx rfl (hb hby at_6) rfl (l' := #[.val (.int p1), .val (.int (HMod.hMod (p1 &&& (2147483647 : Int32)) (5 : Int32))), .unset, .unset]) rfl ?_
    show Steps p.tables e below (s₁.setTop (mkF m 7 #[.val (.int p1), .val (.int (HMod.hMod (p1 &&& (2147483647 : Int32)) (5 : Int32))), .unset, .unset] [])) _
    refine XS.iloadN X0.here hx rfl (hb hby at_7) rfl ?_
    show Steps p.tables e below (s₁.setTop (mkF m 8 #[.val (.int p1), .val (.int (HMod.hMod (p1 &&& (2147483647 : Int32)) (5 : Int32))), .unset, .unset] [(.int (HMod.hMod (p1 &&& (2147483647 : Int32)) (5 : Int32)))])) _
    refine XS.ifNo X0.here hx rfl (hb hby at_8) rfl ((if0 _ _).trans (teq hc8).2) ?_
    show Steps p.tables e below (s₁.setTop (mkF m 11 #[.val (.int p1), .val (.int (HMod.hMod (p1 &&& (2147483647 : Int32)) (5 : Int32))), .unset, .unset] [])) _
    refine st2 _ ?_
    show Steps p.tables e below (T2.setTop (mkF m 14 #[.val (.int p1), .val (.int (HMod.hMod (p1 &&& (2147483647 : Int32)) (5 : Int32))), .unset, .unset] [(.ref w_SCALAR)])) _
    refine XS.astoreN X2.here hx rfl (hb hby at_14) rfl rfl (l' := #[.val (.int p1), .val (.int (HMod.hMod (p1 &&& (2147483647 : Int32)) (5 : Int32))), .val (.ref w_SCALAR), .unset]) rfl ?_
    show Steps p.tables e below (T2.setTop (mkF m 15 #[.val (.int p1), .val (.int (HMod.hMod (p1 &&& (2147483647 : Int32)) (5 : Int32))), .val (.ref w_SCALAR), .unset] [])) _
    refine XS.iconst X2.here hx rfl (hb hby at_15) ?_
    show Steps p.tables e below (T2.setTop (mkF m 16 #[.val (.int p1), .val (.int (HMod.hMod (p1 &&& (2147483647 : Int32)) (5 : Int32))), .val (.ref w_SCALAR), .unset] [(.int (0 : Int32))])) _
    refine XS.istoreN X2.here hx rfl (hb hby at_16) rfl (l' := #[.val (.int p1), .val (.int (HMod.hMod (p1 &&& (2147483647 : Int32)) (5 : Int32))), .val (.ref w_SCALAR), .val (.int (0 : Int32))]) rfl ?_
    show Steps p.tables e below (T2.setTop (mkF m 17 #[.val (.int p1), .val (.int (HMod.hMod (p1 &&& (2147483647 : Int32)) (5 : Int32))), .val (.ref w_SCALAR), .val (.int (0 : Int32))] [])) _
    refine XS.goto X2.here hx rfl (pc0 := 17) (pc' := 68) rfl (hb hby at_17) (by decide) (by decide) ?_
    show Steps p.tables e below (T2.setTop (mkF m 68 #[.val (.int p1), .val (.int (HMod.hMod (p1 &&& (2147483647 : Int32)) (5 : Int32))), .val (.ref w_SCALAR), .val (.int (0 : Int32))] [])) _
    refine XS.aloadN X2.here hx rfl (hb hby at_68) rfl rfl ?_
    show Steps p.tables e below (T2.setTop (mkF m 69 #[.val (.int p1), .val (.int (HMod.hMod (p1 &&& (2147483647 : Int32)) (5 : Int32))), .val (.ref w_SCALAR), .val (.int (0 : Int32))] [(.ref w_SCALAR)])) _
    refine st3.trans ?_
    show Steps p.tables e below (T3.setTop (mkF m 72 #[.val (.int p1), .val (.int (HMod.hMod (p1 &&& (2147483647 : Int32)) (5 : Int32))), .val (.ref w_SCALAR), .val (.int (0 : Int32))] [(.int (0 : Int32))])) _
    refine XS.iloadN X3.here hx rfl (hb hby at_72) rfl ?_
    show Steps p.tables e below (T3.setTop (mkF m 73 #[.val (.int p1), .val (.int (HMod.hMod (p1 &&& (2147483647 : Int32)) (5 : Int32))), .val (.ref w_SCALAR), .val (.int (0 : Int32))] [(.int (0 : Int32)), (.int (0 : Int32))])) _
    refine XS.icmpNo X3.here hx rfl (hb hby at_73) rfl (teq (rfl : (0 : Int32) = (0 : Int32))).2 ?_
    show Steps p.tables e below (T3.setTop (mkF m 76 #[.val (.int p1), .val (.int (HMod.hMod (p1 &&& (2147483647 : Int32)) (5 : Int32))), .val (.ref w_SCALAR), .val (.int (0 : Int32))] [])) _
    refine XS.iconst X3.here hx rfl (hb hby at_76) ?_
    show Steps p.tables e below (T3.setTop (mkF m 77 #[.val (.int p1), .val (.int (HMod.hMod (p1 &&& (2147483647 : Int32)) (5 : Int32))), .val (.ref w_SCALAR), .val (.int (0 : Int32))] [(.int (1 : Int32))])) _
    refine XS.goto X3.here hx rfl (pc0 := 77) (pc' := 81) rfl (hb hby at_77) (by decide) (by decide) ?_
    show Steps p.tables e below (T3.setTop (mkF m 81 #[.val (.int p1), .val (.int (HMod.hMod (p1 &&& (2147483647 : Int32)) (5 : Int32))), .val (.ref w_SCALAR), .val (.int (0 : Int32))] [(.int (1 : Int32))])) _
    exact retN X3 hx (t := .boolean) Bd.returns (by simp) (hb hby at_81) hr
  · show QR (some (.int (1 : Int32))) h0 n0 _ T3.heap _
    rw [eq3]
    exact ⟨rfl, N3, rfl⟩

set_option maxRecDepth 65536 in
set_option maxHeartbeats 40000000 in
theorem rm0_1 (l : Launch) (Z : State) (a0 : Array Value) (hw : ∀ d ∈ tables_1, d.before a0 Z = true) (ws : List Jvm.Cond) (p1 : Int32) (w_SCALAR : Addr) (w_MESSAGE : Addr) (w_GROUP : Addr) (w_ENUM : Addr) (w_MAP : Addr) (h0 : Heap) (n0 : Nat) (Z0 : n0 ≤ h0.size) (S_SCALAR : Sta Z h0 "com/example/wirekeep/wirekeep/model/FieldType$Category" "SCALAR" "Lcom/example/wirekeep/wirekeep/model/FieldType$Category;" (.ref w_SCALAR)) (S_MESSAGE : Sta Z h0 "com/example/wirekeep/wirekeep/model/FieldType$Category" "MESSAGE" "Lcom/example/wirekeep/wirekeep/model/FieldType$Category;" (.ref w_MESSAGE)) (S_GROUP : Sta Z h0 "com/example/wirekeep/wirekeep/model/FieldType$Category" "GROUP" "Lcom/example/wirekeep/wirekeep/model/FieldType$Category;" (.ref w_GROUP)) (S_ENUM : Sta Z h0 "com/example/wirekeep/wirekeep/model/FieldType$Category" "ENUM" "Lcom/example/wirekeep/wirekeep/model/FieldType$Category;" (.ref w_ENUM)) (S_MAP : Sta Z h0 "com/example/wirekeep/wirekeep/model/FieldType$Category" "MAP" "Lcom/example/wirekeep/wirekeep/model/FieldType$Category;" (.ref w_MAP)) (E_w_SCALAR : Exa Z h0 w_SCALAR "com/example/wirekeep/wirekeep/model/FieldType$Category") (E_w_MESSAGE : Exa Z h0 w_MESSAGE "com/example/wirekeep/wirekeep/model/FieldType$Category") (E_w_GROUP : Exa Z h0 w_GROUP "com/example/wirekeep/wirekeep/model/FieldType$Category") (E_w_ENUM : Exa Z h0 w_ENUM "com/example/wirekeep/wirekeep/model/FieldType$Category") (E_w_MAP : Exa Z h0 w_MAP "com/example/wirekeep/wirekeep/model/FieldType$Category") (ne_SCALAR_MESSAGE : ¬ (w_SCALAR = w_MESSAGE)) (ne_SCALAR_GROUP : ¬ (w_SCALAR = w_GROUP)) (ne_SCALAR_ENUM : ¬ (w_SCALAR = w_ENUM)) (ne_MAP_MESSAGE : ¬ (w_MAP = w_MESSAGE)) (ne_MAP_GROUP : ¬ (w_MAP = w_GROUP)) (ne_MAP_ENUM : ¬ (w_MAP = w_ENUM)) (ne_GROUP_MESSAGE : ¬ (w_GROUP = w_MESSAGE)) (ne_ENUM_MESSAGE : ¬ (w_ENUM = w_MESSAGE)) (ne_ENUM_GROUP : ¬ (w_ENUM = w_GROUP)) (hc8 : ¬ ((HMod.hMod (p1 &&& (2147483647 : Int32)) (5 : Int32)) = (0 : Int32))) (hc22 : (HMod.hMod (p1 &&& (2147483647 : Int32)) (5 : Int32)) = (1 : Int32)) :
    MetFree l x (head1 (Jvm.Cond.code x code maxLocals ret :: ws) room_1) (fun a U => a = #[(.int p1)] ∧ Z.Warmed39 U.vm ∧ U.heap = h0) (fun _ _ _ _ _ => True) (fun _ U o U' => ∃ v L, o = .returned v ∧ QR (some (.int (1 : Int32))) h0 n0 v U'.heap L ∧ FrameEnd U o U' L room_1.cells room_1.slots) := by
  refine MetFree.of_bodySF (plainFor_of_name pn_0) hisR ?_
  intro p e s m args below meth c s₁ Bd hml0 hP hK
  obtain ⟨rfl, hZ, hh⟩ := hP
  have hx := Bd.exec
  have hby := Bd.bytes
  have hml : c.maxLocals = 4 := hml0
  have hown : s.vm.findClass "com/example/wirekeep/wirekeep/model/CategoryIsNamedPinLaw" = some m.cls := findClass_of_methodNamed Bd.named
  have hnm := (name_of_methodNamed Bd.named Bd.method).1
  have X0 : Stand p l e room_1 s m #[(.int p1)] below meth c s₁ [] 0 0 := Stand.of_body Bd
  have e0 : s₁.heap = h0 := by rw [← hh, Bd.state]; rfl
  have N0 := Fr.nil n0
  have pre0 : ∀ t, Steps p.tables e below (s₁.setTop (mkF m 0 #[.val (.int p1), .unset, .unset, .unset] [])) t → Steps p.tables e below (s₁.setTop (entryFrame m #[(.int p1)] maxLocals)) t := fun t k => castTop (ef_0 m p1) k
  obtain ⟨T2, X2, e2, st2⟩ := getS2 X0 hx hZ hown (host := "") (Or.inl (hw _ (List.mem_of_getElem? (i := 16) rfl))) Via.refl e0 S_MESSAGE (g := (mkF m 25 #[.val (.int p1), .val (.int (HMod.hMod (p1 &&& (2147483647 : Int32)) (5 : Int32))), .unset, .unset] [])) rfl (hb hby at_25)
  obtain ⟨cq3, kq3, q3a, q3b, q3c⟩ := isOf hZ e2 E_w_MESSAGE
  obtain ⟨_, _, ⟨T3, L3, k3, n3⟩, -, X3, ⟨Lc3, hQ3, l3, y3, z3⟩, st3⟩ := X2.virtualBack hx (y := (⟨"com/example/wirekeep/wirekeep/model/FieldType$Category", "isNamed", "()Z"⟩ : MethodName)) (z := (⟨"com/example/wirekeep/wirekeep/model/FieldType$Category", "isNamed", "()Z"⟩ : MethodName)) hown (mvT hZ (hw _ (List.mem_of_getElem? (i := 4) rfl))) (mvT hZ (hw _ (List.mem_of_getElem? (i := 5) rfl))) (notFace_of_selects (args := #[]) (mvT hZ (hw _ (List.mem_of_getElem? (i := 7) rfl)))) (mvT hZ (hw _ (List.mem_of_getElem? (i := 7) rfl))) (mvT hZ (hw _ (List.mem_of_getElem? (i := 6) rfl))) (by decide) (backOf (W := 0) (rm1_t l Z a0 hw [] w_MESSAGE w_SCALAR w_MESSAGE w_GROUP w_ENUM w_MAP h0 n0 Z0 S_SCALAR S_MESSAGE S_GROUP S_ENUM S_MAP rfl) hZ (hw _ (List.mem_of_getElem? (i := 8) rfl)) (hw _ (List.mem_of_getElem? (i := 2) rfl)) (by decide) (by decide)) q3a q3c (g := (mkF m 69 #[.val (.int p1), .val (.int (HMod.hMod (p1 &&& (2147483647 : Int32)) (5 : Int32))), .val (.ref w_MESSAGE), .val (.int (1 : Int32))] [(.ref w_MESSAGE)])) rfl (by rw [hml]; rfl) (Steps.refl _) (argsL := []) (rest := []) (lenOf pd_0_0 rfl) rfl (by show 2 * 0 + _ ≤ _; exact Nat.le_of_eq rfl) (hb hby at_69) (fun _ _ => ⟨rfl, e2, (by decide : 0 + 0 ≤ _), (by decide : 0 + 0 ≤ _)⟩)
  dsimp only [Pt.U, Pt.locs, Pt.cells, Pt.slots] at X3 l3 y3 z3 st3 hQ3
  subst l3 y3 z3
  obtain ⟨rfl, N3q, eq3⟩ := hQ3
  have N3 := Fr.app N0 N3q
  obtain ⟨fs, hr, hrun, hended, hW, hsame⟩ := X3.leave (v := some (.int (1 : Int32))) (fun h => by rw [Bd.returns] at h; cases h)
  refine ⟨_, _, pre0 _ ?_, hrun, hended, _, _, rfl, ?_, ⟨_, rfl⟩, hW, hsame.mono (by decide) (by decide)⟩
  · show Steps p.tables e below (s₁.setTop (mkF m 0 #[.val (.int p1), .unset, .unset, .unset] [])) _
    refine XS.iloadN X0.here hx rfl (hb hby at_0) rfl ?_
    show Steps p.tables e below (s₁.setTop (mkF m 1 #[.val (.int p1), .unset, .unset, .unset] [(.int p1)])) _
    refine X0.ldcInt hx hown (mvT hZ (hw _ (List.mem_of_getElem? (i := 0) rfl))) (g := (mkF m 1 #[.val (.int p1), .unset, .unset, .unset] [(.int p1)])) rfl (hb hby at_1) _ ?_
    show Steps p.tables e below (s₁.setTop (mkF m 3 #[.val (.int p1), .unset, .unset, .unset] [(.int (2147483647 : Int32)), (.int p1)])) _
    refine XS.iand X0.here hx rfl (hb hby at_3) rfl ?_
    show Steps p.tables e below (s₁.setTop (mkF m 4 #[.val (.int p1), .unset, .unset, .unset] [(.int (p1 &&& (2147483647 : Int32)))])) _
    refine XS.iconst X0.here hx rfl (hb hby at_4) ?_
    show Steps p.tables e below (s₁.setTop (mkF m 5 #[.val (.int p1), .unset, .unset, .unset] [(.int (5 : Int32)), (.int (p1 &&& (2147483647 : Int32)))])) _
    refine iremM X0 hx rfl (hb hby at_5) rfl (by decide) ?_
    show Steps p.tables e below (s₁.setTop (mkF m 6 #[.val (.int p1), .unset, .unset, .unset] [(.int (HMod.hMod (p1 &&& (2147483647 : Int32)) (5 : Int32)))])) _
    refine XS.istoreN X0.here hx rfl (hb hby at_6) rfl (l' := #[.val (.int p1), .val (.int (HMod.hMod (p1 &&& (2147483647 : Int32)) (5 : Int32))), .unset, .unset]) rfl ?_
    show Steps p.tables e below (s₁.setTop (mkF m 7 #[.val (.int p1), .val (.int (HMod.hMod (p1 &&& (2147483647 : Int32)) (5 : Int32))), .unset, .unset] [])) _
    refine XS.iloadN X0.here hx rfl (hb hby at_7) rfl ?_
    show Steps p.tables e below (s₁.setTop (mkF m 8 #[.val (.int p1), .val (.int (HMod.hMod (p1 &&& (2147483647 : Int32)) (5 : Int32))), .unset, .unset] [(.int (HMod.hMod (p1 &&& (2147483647 : Int32)) (5 : Int32)))])) _
    refine XS.ifYes X0.here hx rfl (pc0 := 8) (pc' := 20) rfl (hb hby at_8) rfl ((if0 _ _).trans (feq hc8).2) (by decide) (by decide) ?_
    show Steps p.tables e below (s₁.setTop (mkF m 20 #[.val (.int p1), .val (.int (HMod.hMod (p1 &&& (2147483647 : Int32)) (5 : Int32))), .unset, .unset] [])) _
    refine XS.iloadN X0.here hx rfl (hb hby at_20) rfl ?_
    show Steps p.tables e below (s₁.setTop (mkF m 21 #[.val (.int p1), .val (.int (HMod.hMod (p1 &&& (2147483647 : Int32)) (5 : Int32))), .unset, .unset] [(.int (HMod.hMod (p1 &&& (2147483647 : Int32)) (5 : Int32)))])) _
    refine XS.iconst X0.here hx rfl (hb hby at_21) ?_
    show Steps p.tables e below (s₁.setTop (mkF m 22 #[.val (.int p1), .val (.int (HMod.hMod (p1 &&& (2147483647 : Int32)) (5 : Int32))), .unset, .unset] [(.int (1 : Int32)), (.int (HMod.hMod (p1 &&& (2147483647 : Int32)) (5 : Int32)))])) _
    refine XS.icmpNo X0.here hx rfl (hb hby at_22) rfl (teq hc22).2 ?_
    show Steps p.tables e below (s₁.setTop (mkF m 25 #[.val (.int p1), .val (.int (HMod.hMod (p1 &&& (2147483647 : Int32)) (5 : Int32))), .unset, .unset] [])) _
    refine st2 _ ?_
    show Steps p.tables e below (T2.setTop (mkF m 28 #[.val (.int p1), .val (.int (HMod.hMod (p1 &&& (2147483647 : Int32)) (5 : Int32))), .unset, .unset] [(.ref w_MESSAGE)])) _
    refine XS.astoreN X2.here hx rfl (hb hby at_28) rfl rfl (l' := #[.val (.int p1), .val (.int (HMod.hMod (p1 &&& (2147483647 : Int32)) (5 : Int32))), .val (.ref w_MESSAGE), .unset]) rfl ?_
    show Steps p.tables e below (T2.setTop (mkF m 29 #[.val (.int p1), .val (.int (HMod.hMod (p1 &&& (2147483647 : Int32)) (5 : Int32))), .val (.ref w_MESSAGE), .unset] [])) _
    refine XS.iconst X2.here hx rfl (hb hby at_29) ?_
    show Steps p.tables e below (T2.setTop (mkF m 30 #[.val (.int p1), .val (.int (HMod.hMod (p1 &&& (2147483647 : Int32)) (5 : Int32))), .val (.ref w_MESSAGE), .unset] [(.int (1 : Int32))])) _
    refine XS.istoreN X2.here hx rfl (hb hby at_30) rfl (l' := #[.val (.int p1), .val (.int (HMod.hMod (p1 &&& (2147483647 : Int32)) (5 : Int32))), .val (.ref w_MESSAGE), .val (.int (1 : Int32))]) rfl ?_
    show Steps p.tables e below (T2.setTop (mkF m 31 #[.val (.int p1), .val (.int (HMod.hMod (p1 &&& (2147483647 : Int32)) (5 : Int32))), .val (.ref w_MESSAGE), .val (.int (1 : Int32))] [])) _
    refine XS.goto X2.here hx rfl (pc0 := 31) (pc' := 68) rfl (hb hby at_31) (by decide) (by decide) ?_
    show Steps p.tables e below (T2.setTop (mkF m 68 #[.val (.int p1), .val (.int (HMod.hMod (p1 &&& (2147483647 : Int32)) (5 : Int32))), .val (.ref w_MESSAGE), .val (.int (1 : Int32))] [])) _
    refine XS.aloadN X2.here hx rfl (hb hby at_68) rfl rfl ?_
    show Steps p.tables e below (T2.setTop (mkF m 69 #[.val (.int p1), .val (.int (HMod.hMod (p1 &&& (2147483647 : Int32)) (5 : Int32))), .val (.ref w_MESSAGE), .val (.int (1 : Int32))] [(.ref w_MESSAGE)])) _
    refine st3.trans ?_
    show Steps p.tables e below (T3.setTop (mkF m 72 #[.val (.int p1), .val (.int (HMod.hMod (p1 &&& (2147483647 : Int32)) (5 : Int32))), .val (.ref w_MESSAGE), .val (.int (1 : Int32))] [(.int (1 : Int32))])) _
    refine XS.iloadN X3.here hx rfl (hb hby at_72) rfl ?_
    show Steps p.tables e below (T3.setTop (mkF m 73 #[.val (.int p1), .val (.int (HMod.hMod (p1 &&& (2147483647 : Int32)) (5 : Int32))), .val (.ref w_MESSAGE), .val (.int (1 : Int32))] [(.int (1 : Int32)), (.int (1 : Int32))])) _
    refine XS.icmpNo X3.here hx rfl (hb hby at_73) rfl (teq (rfl : (1 : Int32) = (1 : Int32))).2 ?_
    show Steps p.tables e below (T3.setTop (mkF m 76 #[.val (.int p1), .val (.int (HMod.hMod (p1 &&& (2147483647 : Int32)) (5 : Int32))), .val (.ref w_MESSAGE), .val (.int (1 : Int32))] [])) _
    refine XS.iconst X3.here hx rfl (hb hby at_76) ?_
    show Steps p.tables e below (T3.setTop (mkF m 77 #[.val (.int p1), .val (.int (HMod.hMod (p1 &&& (2147483647 : Int32)) (5 : Int32))), .val (.ref w_MESSAGE), .val (.int (1 : Int32))] [(.int (1 : Int32))])) _
    refine XS.goto X3.here hx rfl (pc0 := 77) (pc' := 81) rfl (hb hby at_77) (by decide) (by decide) ?_
    show Steps p.tables e below (T3.setTop (mkF m 81 #[.val (.int p1), .val (.int (HMod.hMod (p1 &&& (2147483647 : Int32)) (5 : Int32))), .val (.ref w_MESSAGE), .val (.int (1 : Int32))] [(.int (1 : Int32))])) _
    exact retN X3 hx (t := .boolean) Bd.returns (by simp) (hb hby at_81) hr
  · show QR (some (.int (1 : Int32))) h0 n0 _ T3.heap _
    rw [eq3]
    exact ⟨rfl, N3, rfl⟩

set_option maxRecDepth 65536 in
set_option maxHeartbeats 40000000 in
theorem rm0_2 (l : Launch) (Z : State) (a0 : Array Value) (hw : ∀ d ∈ tables_1, d.before a0 Z = true) (ws : List Jvm.Cond) (p1 : Int32) (w_SCALAR : Addr) (w_MESSAGE : Addr) (w_GROUP : Addr) (w_ENUM : Addr) (w_MAP : Addr) (h0 : Heap) (n0 : Nat) (Z0 : n0 ≤ h0.size) (S_SCALAR : Sta Z h0 "com/example/wirekeep/wirekeep/model/FieldType$Category" "SCALAR" "Lcom/example/wirekeep/wirekeep/model/FieldType$Category;" (.ref w_SCALAR)) (S_MESSAGE : Sta Z h0 "com/example/wirekeep/wirekeep/model/FieldType$Category" "MESSAGE" "Lcom/example/wirekeep/wirekeep/model/FieldType$Category;" (.ref w_MESSAGE)) (S_GROUP : Sta Z h0 "com/example/wirekeep/wirekeep/model/FieldType$Category" "GROUP" "Lcom/example/wirekeep/wirekeep/model/FieldType$Category;" (.ref w_GROUP)) (S_ENUM : Sta Z h0 "com/example/wirekeep/wirekeep/model/FieldType$Category" "ENUM" "Lcom/example/wirekeep/wirekeep/model/FieldType$Category;" (.ref w_ENUM)) (S_MAP : Sta Z h0 "com/example/wirekeep/wirekeep/model/FieldType$Category" "MAP" "Lcom/example/wirekeep/wirekeep/model/FieldType$Category;" (.ref w_MAP)) (E_w_SCALAR : Exa Z h0 w_SCALAR "com/example/wirekeep/wirekeep/model/FieldType$Category") (E_w_MESSAGE : Exa Z h0 w_MESSAGE "com/example/wirekeep/wirekeep/model/FieldType$Category") (E_w_GROUP : Exa Z h0 w_GROUP "com/example/wirekeep/wirekeep/model/FieldType$Category") (E_w_ENUM : Exa Z h0 w_ENUM "com/example/wirekeep/wirekeep/model/FieldType$Category") (E_w_MAP : Exa Z h0 w_MAP "com/example/wirekeep/wirekeep/model/FieldType$Category") (ne_SCALAR_MESSAGE : ¬ (w_SCALAR = w_MESSAGE)) (ne_SCALAR_GROUP : ¬ (w_SCALAR = w_GROUP)) (ne_SCALAR_ENUM : ¬ (w_SCALAR = w_ENUM)) (ne_MAP_MESSAGE : ¬ (w_MAP = w_MESSAGE)) (ne_MAP_GROUP : ¬ (w_MAP = w_GROUP)) (ne_MAP_ENUM : ¬ (w_MAP = w_ENUM)) (ne_GROUP_MESSAGE : ¬ (w_GROUP = w_MESSAGE)) (ne_ENUM_MESSAGE : ¬ (w_ENUM = w_MESSAGE)) (ne_ENUM_GROUP : ¬ (w_ENUM = w_GROUP)) (hc8 : ¬ ((HMod.hMod (p1 &&& (2147483647 : Int32)) (5 : Int32)) = (0 : Int32))) (hc22 : ¬ ((HMod.hMod (p1 &&& (2147483647 : Int32)) (5 : Int32)) = (1 : Int32))) (hc36 : (HMod.hMod (p1 &&& (2147483647 : Int32)) (5 : Int32)) = (2 : Int32)) :
    MetFree l x (head1 (Jvm.Cond.code x code maxLocals ret :: ws) room_1) (fun a U => a = #[(.int p1)] ∧ Z.Warmed39 U.vm ∧ U.heap = h0) (fun _ _ _ _ _ => True) (fun _ U o U' => ∃ v L, o = .returned v ∧ QR (some (.int (1 : Int32))) h0 n0 v U'.heap L ∧ FrameEnd U o U' L room_1.cells room_1.slots) := by
  refine MetFree.of_bodySF (plainFor_of_name pn_0) hisR ?_
  intro p e s m args below meth c s₁ Bd hml0 hP hK
  obtain ⟨rfl, hZ, hh⟩ := hP
  have hx := Bd.exec
  have hby := Bd.bytes
  have hml : c.maxLocals = 4 := hml0
  have hown : s.vm.findClass "com/example/wirekeep/wirekeep/model/CategoryIsNamedPinLaw" = some m.cls := findClass_of_methodNamed Bd.named
  have hnm := (name_of_methodNamed Bd.named Bd.method).1
  have X0 : Stand p l e room_1 s m #[(.int p1)] below meth c s₁ [] 0 0 := Stand.of_body Bd
  have e0 : s₁.heap = h0 := by rw [← hh, Bd.state]; rfl
  have N0 := Fr.nil n0
  have pre0 : ∀ t, Steps p.tables e below (s₁.setTop (mkF m 0 #[.val (.int p1), .unset, .unset, .unset] [])) t → Steps p.tables e below (s₁.setTop (entryFrame m #[(.int p1)] maxLocals)) t := fun t k => castTop (ef_0 m p1) k
  obtain ⟨T2, X2, e2, st2⟩ := getS2 X0 hx hZ hown (host := "") (Or.inl (hw _ (List.mem_of_getElem? (i := 19) rfl))) Via.refl e0 S_GROUP (g := (mkF m 39 #[.val (.int p1), .val (.int (HMod.hMod (p1 &&& (2147483647 : Int32)) (5 : Int32))), .unset, .unset] [])) rfl (hb hby at_39)
  obtain ⟨cq3, kq3, q3a, q3b, q3c⟩ := isOf hZ e2 E_w_GROUP
  obtain ⟨_, _, ⟨T3, L3, k3, n3⟩, -, X3, ⟨Lc3, hQ3, l3, y3, z3⟩, st3⟩ := X2.virtualBack hx (y := (⟨"com/example/wirekeep/wirekeep/model/FieldType$Category", "isNamed", "()Z"⟩ : MethodName)) (z := (⟨"com/example/wirekeep/wirekeep/model/FieldType$Category", "isNamed", "()Z"⟩ : MethodName)) hown (mvT hZ (hw _ (List.mem_of_getElem? (i := 4) rfl))) (mvT hZ (hw _ (List.mem_of_getElem? (i := 5) rfl))) (notFace_of_selects (args := #[]) (mvT hZ (hw _ (List.mem_of_getElem? (i := 7) rfl)))) (mvT hZ (hw _ (List.mem_of_getElem? (i := 7) rfl))) (mvT hZ (hw _ (List.mem_of_getElem? (i := 6) rfl))) (by decide) (backOf (W := 0) (rm1_ft l Z a0 hw [] w_GROUP w_SCALAR w_MESSAGE w_GROUP w_ENUM w_MAP h0 n0 Z0 S_SCALAR S_MESSAGE S_GROUP S_ENUM S_MAP ne_GROUP_MESSAGE rfl) hZ (hw _ (List.mem_of_getElem? (i := 8) rfl)) (hw _ (List.mem_of_getElem? (i := 2) rfl)) (by decide) (by decide)) q3a q3c (g := (mkF m 69 #[.val (.int p1), .val (.int (HMod.hMod (p1 &&& (2147483647 : Int32)) (5 : Int32))), .val (.ref w_GROUP), .val (.int (1 : Int32))] [(.ref w_GROUP)])) rfl (by rw [hml]; rfl) (Steps.refl _) (argsL := []) (rest := []) (lenOf pd_0_0 rfl) rfl (by show 2 * 0 + _ ≤ _; exact Nat.le_of_eq rfl) (hb hby at_69) (fun _ _ => ⟨rfl, e2, (by decide : 0 + 0 ≤ _), (by decide : 0 + 0 ≤ _)⟩)
  dsimp only [Pt.U, Pt.locs, Pt.cells, Pt.slots] at X3 l3 y3 z3 st3 hQ3
  subst l3 y3 z3
  obtain ⟨rfl, N3q, eq3⟩ := hQ3
  have N3 := Fr.app N0 N3q
  obtain ⟨fs, hr, hrun, hended, hW, hsame⟩ := X3.leave (v := some (.int (1 : Int32))) (fun h => by rw [Bd.returns] at h; cases h)
  refine ⟨_, _, pre0 _ ?_, hrun, hended, _, _, rfl, ?_, ⟨_, rfl⟩, hW, hsame.mono (by decide) (by decide)⟩
  · show Steps p.tables e below (s₁.setTop (mkF m 0 #[.val (.int p1), .unset, .unset, .unset] [])) _
    refine XS.iloadN X0.here hx rfl (hb hby at_0) rfl ?_
    show Steps p.tables e below (s₁.setTop (mkF m 1 #[.val (.int p1), .unset, .unset, .unset] [(.int p1)])) _
    refine X0.ldcInt hx hown (mvT hZ (hw _ (List.mem_of_getElem? (i := 0) rfl))) (g := (mkF m 1 #[.val (.int p1), .unset, .unset, .unset] [(.int p1)])) rfl (hb hby at_1) _ ?_
    show Steps p.tables e below (s₁.setTop (mkF m 3 #[.val (.int p1), .unset, .unset, .unset] [(.int (2147483647 : Int32)), (.int p1)])) _
    refine XS.iand X0.here hx rfl (hb hby at_3) rfl ?_
    show Steps p.tables e below (s₁.setTop (mkF m 4 #[.val (.int p1), .unset, .unset, .unset] [(.int (p1 &&& (2147483647 : Int32)))])) _
    refine XS.iconst X0.here hx rfl (hb hby at_4) ?_
    show Steps p.tables e below (s₁.setTop (mkF m 5 #[.val (.int p1), .unset, .unset, .unset] [(.int (5 : Int32)), (.int (p1 &&& (2147483647 : Int32)))])) _
    refine iremM X0 hx rfl (hb hby at_5) rfl (by decide) ?_
    show Steps p.tables e below (s₁.setTop (mkF m 6 #[.val (.int p1), .unset, .unset, .unset] [(.int (HMod.hMod (p1 &&& (2147483647 : Int32)) (5 : Int32)))])) _
    refine XS.istoreN X0.here hx rfl (hb hby at_6) rfl (l' := #[.val (.int p1), .val (.int (HMod.hMod (p1 &&& (2147483647 : Int32)) (5 : Int32))), .unset, .unset]) rfl ?_
    show Steps p.tables e below (s₁.setTop (mkF m 7 #[.val (.int p1), .val (.int (HMod.hMod (p1 &&& (2147483647 : Int32)) (5 : Int32))), .unset, .unset] [])) _
    refine XS.iloadN X0.here hx rfl (hb hby at_7) rfl ?_
    show Steps p.tables e below (s₁.setTop (mkF m 8 #[.val (.int p1), .val (.int (HMod.hMod (p1 &&& (2147483647 : Int32)) (5 : Int32))), .unset, .unset] [(.int (HMod.hMod (p1 &&& (2147483647 : Int32)) (5 : Int32)))])) _
    refine XS.ifYes X0.here hx rfl (pc0 := 8) (pc' := 20) rfl (hb hby at_8) rfl ((if0 _ _).trans (feq hc8).2) (by decide) (by decide) ?_
    show Steps p.tables e below (s₁.setTop (mkF m 20 #[.val (.int p1), .val (.int (HMod.hMod (p1 &&& (2147483647 : Int32)) (5 : Int32))), .unset, .unset] [])) _
    refine XS.iloadN X0.here hx rfl (hb hby at_20) rfl ?_
    show Steps p.tables e below (s₁.setTop (mkF m 21 #[.val (.int p1), .val (.int (HMod.hMod (p1 &&& (2147483647 : Int32)) (5 : Int32))), .unset, .unset] [(.int (HMod.hMod (p1 &&& (2147483647 : Int32)) (5 : Int32)))])) _
    refine XS.iconst X0.here hx rfl (hb hby at_21) ?_
    show Steps p.tables e below (s₁.setTop (mkF m 22 #[.val (.int p1), .val (.int (HMod.hMod (p1 &&& (2147483647 : Int32)) (5 : Int32))), .unset, .unset] [(.int (1 : Int32)), (.int (HMod.hMod (p1 &&& (2147483647 : Int32)) (5 : Int32)))])) _
    refine XS.icmpYes X0.here hx rfl (pc0 := 22) (pc' := 34) rfl (hb hby at_22) rfl (feq hc22).2 (by decide) (by decide) ?_
    show Steps p.tables e below (s₁.setTop (mkF m 34 #[.val (.int p1), .val (.int (HMod.hMod (p1 &&& (2147483647 : Int32)) (5 : Int32))), .unset, .unset] [])) _
    refine XS.iloadN X0.here hx rfl (hb hby at_34) rfl ?_
    show Steps p.tables e below (s₁.setTop (mkF m 35 #[.val (.int p1), .val (.int (HMod.hMod (p1 &&& (2147483647 : Int32)) (5 : Int32))), .unset, .unset] [(.int (HMod.hMod (p1 &&& (2147483647 : Int32)) (5 : Int32)))])) _
    refine XS.iconst X0.here hx rfl (hb hby at_35) ?_
    show Steps p.tables e below (s₁.setTop (mkF m 36 #[.val (.int p1), .val (.int (HMod.hMod (p1 &&& (2147483647 : Int32)) (5 : Int32))), .unset, .unset] [(.int (2 : Int32)), (.int (HMod.hMod (p1 &&& (2147483647 : Int32)) (5 : Int32)))])) _
    refine XS.icmpNo X0.here hx rfl (hb hby at_36) rfl (teq hc36).2 ?_
    show Steps p.tables e below (s₁.setTop (mkF m 39 #[.val (.int p1), .val (.int (HMod.hMod (p1 &&& (2147483647 : Int32)) (5 : Int32))), .unset, .unset] [])) _
    refine st2 _ ?_
    show Steps p.tables e below (T2.setTop (mkF m 42 #[.val (.int p1), .val (.int (HMod.hMod (p1 &&& (2147483647 : Int32)) (5 : Int32))), .unset, .unset] [(.ref w_GROUP)])) _
    refine XS.astoreN X2.here hx rfl (hb hby at_42) rfl rfl (l' := #[.val (.int p1), .val (.int (HMod.hMod (p1 &&& (2147483647 : Int32)) (5 : Int32))), .val (.ref w_GROUP), .unset]) rfl ?_
    show Steps p.tables e below (T2.setTop (mkF m 43 #[.val (.int p1), .val (.int (HMod.hMod (p1 &&& (2147483647 : Int32)) (5 : Int32))), .val (.ref w_GROUP), .unset] [])) _
    refine XS.iconst X2.here hx rfl (hb hby at_43) ?_
    show Steps p.tables e below (T2.setTop (mkF m 44 #[.val (.int p1), .val (.int (HMod.hMod (p1 &&& (2147483647 : Int32)) (5 : Int32))), .val (.ref w_GROUP), .unset] [(.int (1 : Int32))])) _
    refine XS.istoreN X2.here hx rfl (hb hby at_44) rfl (l' := #[.val (.int p1), .val (.int (HMod.hMod (p1 &&& (2147483647 : Int32)) (5 : Int32))), .val (.ref w_GROUP), .val (.int (1 : Int32))]) rfl ?_
    show Steps p.tables e below (T2.setTop (mkF m 45 #[.val (.int p1), .val (.int (HMod.hMod (p1 &&& (2147483647 : Int32)) (5 : Int32))), .val (.ref w_GROUP), .val (.int (1 : Int32))] [])) _
    refine XS.goto X2.here hx rfl (pc0 := 45) (pc' := 68) rfl (hb hby at_45) (by decide) (by decide) ?_
    show Steps p.tables e below (T2.setTop (mkF m 68 #[.val (.int p1), .val (.int (HMod.hMod (p1 &&& (2147483647 : Int32)) (5 : Int32))), .val (.ref w_GROUP), .val (.int (1 : Int32))] [])) _
    refine XS.aloadN X2.here hx rfl (hb hby at_68) rfl rfl ?_
    show Steps p.tables e below (T2.setTop (mkF m 69 #[.val (.int p1), .val (.int (HMod.hMod (p1 &&& (2147483647 : Int32)) (5 : Int32))), .val (.ref w_GROUP), .val (.int (1 : Int32))] [(.ref w_GROUP)])) _
    refine st3.trans ?_
    show Steps p.tables e below (T3.setTop (mkF m 72 #[.val (.int p1), .val (.int (HMod.hMod (p1 &&& (2147483647 : Int32)) (5 : Int32))), .val (.ref w_GROUP), .val (.int (1 : Int32))] [(.int (1 : Int32))])) _
    refine XS.iloadN X3.here hx rfl (hb hby at_72) rfl ?_
    show Steps p.tables e below (T3.setTop (mkF m 73 #[.val (.int p1), .val (.int (HMod.hMod (p1 &&& (2147483647 : Int32)) (5 : Int32))), .val (.ref w_GROUP), .val (.int (1 : Int32))] [(.int (1 : Int32)), (.int (1 : Int32))])) _
    refine XS.icmpNo X3.here hx rfl (hb hby at_73) rfl (teq (rfl : (1 : Int32) = (1 : Int32))).2 ?_
    show Steps p.tables e below (T3.setTop (mkF m 76 #[.val (.int p1), .val (.int (HMod.hMod (p1 &&& (2147483647 : Int32)) (5 : Int32))), .val (.ref w_GROUP), .val (.int (1 : Int32))] [])) _
    refine XS.iconst X3.here hx rfl (hb hby at_76) ?_
    show Steps p.tables e below (T3.setTop (mkF m 77 #[.val (.int p1), .val (.int (HMod.hMod (p1 &&& (2147483647 : Int32)) (5 : Int32))), .val (.ref w_GROUP), .val (.int (1 : Int32))] [(.int (1 : Int32))])) _
    refine XS.goto X3.here hx rfl (pc0 := 77) (pc' := 81) rfl (hb hby at_77) (by decide) (by decide) ?_
    show Steps p.tables e below (T3.setTop (mkF m 81 #[.val (.int p1), .val (.int (HMod.hMod (p1 &&& (2147483647 : Int32)) (5 : Int32))), .val (.ref w_GROUP), .val (.int (1 : Int32))] [(.int (1 : Int32))])) _
    exact retN X3 hx (t := .boolean) Bd.returns (by simp) (hb hby at_81) hr
  · show QR (some (.int (1 : Int32))) h0 n0 _ T3.heap _
    rw [eq3]
    exact ⟨rfl, N3, rfl⟩

set_option maxRecDepth 65536 in
set_option maxHeartbeats 40000000 in
theorem rm0_3 (l : Launch) (Z : State) (a0 : Array Value) (hw : ∀ d ∈ tables_1, d.before a0 Z = true) (ws : List Jvm.Cond) (p1 : Int32) (w_SCALAR : Addr) (w_MESSAGE : Addr) (w_GROUP : Addr) (w_ENUM : Addr) (w_MAP : Addr) (h0 : Heap) (n0 : Nat) (Z0 : n0 ≤ h0.size) (S_SCALAR : Sta Z h0 "com/example/wirekeep/wirekeep/model/FieldType$Category" "SCALAR" "Lcom/example/wirekeep/wirekeep/model/FieldType$Category;" (.ref w_SCALAR)) (S_MESSAGE : Sta Z h0 "com/example/wirekeep/wirekeep/model/FieldType$Category" "MESSAGE" "Lcom/example/wirekeep/wirekeep/model/FieldType$Category;" (.ref w_MESSAGE)) (S_GROUP : Sta Z h0 "com/example/wirekeep/wirekeep/model/FieldType$Category" "GROUP" "Lcom/example/wirekeep/wirekeep/model/FieldType$Category;" (.ref w_GROUP)) (S_ENUM : Sta Z h0 "com/example/wirekeep/wirekeep/model/FieldType$Category" "ENUM" "Lcom/example/wirekeep/wirekeep/model/FieldType$Category;" (.ref w_ENUM)) (S_MAP : Sta Z h0 "com/example/wirekeep/wirekeep/model/FieldType$Category" "MAP" "Lcom/example/wirekeep/wirekeep/model/FieldType$Category;" (.ref w_MAP)) (E_w_SCALAR : Exa Z h0 w_SCALAR "com/example/wirekeep/wirekeep/model/FieldType$Category") (E_w_MESSAGE : Exa Z h0 w_MESSAGE "com/example/wirekeep/wirekeep/model/FieldType$Category") (E_w_GROUP : Exa Z h0 w_GROUP "com/example/wirekeep/wirekeep/model/FieldType$Category") (E_w_ENUM : Exa Z h0 w_ENUM "com/example/wirekeep/wirekeep/model/FieldType$Category") (E_w_MAP : Exa Z h0 w_MAP "com/example/wirekeep/wirekeep/model/FieldType$Category") (ne_SCALAR_MESSAGE : ¬ (w_SCALAR = w_MESSAGE)) (ne_SCALAR_GROUP : ¬ (w_SCALAR = w_GROUP)) (ne_SCALAR_ENUM : ¬ (w_SCALAR = w_ENUM)) (ne_MAP_MESSAGE : ¬ (w_MAP = w_MESSAGE)) (ne_MAP_GROUP : ¬ (w_MAP = w_GROUP)) (ne_MAP_ENUM : ¬ (w_MAP = w_ENUM)) (ne_GROUP_MESSAGE : ¬ (w_GROUP = w_MESSAGE)) (ne_ENUM_MESSAGE : ¬ (w_ENUM = w_MESSAGE)) (ne_ENUM_GROUP : ¬ (w_ENUM = w_GROUP)) (hc8 : ¬ ((HMod.hMod (p1 &&& (2147483647 : Int32)) (5 : Int32)) = (0 : Int32))) (hc22 : ¬ ((HMod.hMod (p1 &&& (2147483647 : Int32)) (5 : Int32)) = (1 : Int32))) (hc36 : ¬ ((HMod.hMod (p1 &&& (2147483647 : Int32)) (5 : Int32)) = (2 : Int32))) (hc50 : (HMod.hMod (p1 &&& (2147483647 : Int32)) (5 : Int32)) = (3 : Int32)) :
    MetFree l x (head1 (Jvm.Cond.code x code maxLocals ret :: ws) room_1) (fun a U => a = #[(.int p1)] ∧ Z.Warmed39 U.vm ∧ U.heap = h0) (fun _ _ _ _ _ => True) (fun _ U o U' => ∃ v L, o = .returned v ∧ QR (some (.int (1 : Int32))) h0 n0 v U'.heap L ∧ FrameEnd U o U' L room_1.cells room_1.slots) := by
  refine MetFree.of_bodySF (plainFor_of_name pn_0) hisR ?_
  intro p e s m args below meth c s₁ Bd hml0 hP hK
  obtain ⟨rfl, hZ, hh⟩ := hP
  have hx := Bd.exec
  have hby := Bd.bytes
  have hml : c.maxLocals = 4 := hml0
  have hown : s.vm.findClass "com/example/wirekeep/wirekeep/model/CategoryIsNamedPinLaw" = some m.cls := findClass_of_methodNamed Bd.named
  have hnm := (name_of_methodNamed Bd.named Bd.method).1
  have X0 : Stand p l e room_1 s m #[(.int p1)] below meth c s₁ [] 0 0 := Stand.of_body Bd
  have e0 : s₁.heap = h0 := by rw [← hh, Bd.state]; rfl
  have N0 := Fr.nil n0
  have pre0 : ∀ t, Steps p.tables e below (s₁.setTop (mkF m 0 #[.val (.int p1), .unset, .unset, .unset] [])) t → Steps p.tables e below (s₁.setTop (entryFrame m #[(.int p1)] maxLocals)) t := fun t k => castTop (ef_0 m p1) k
  obtain ⟨T2, X2, e2, st2⟩ := getS2 X0 hx hZ hown (host := "") (Or.inl (hw _ (List.mem_of_getElem? (i := 15) rfl))) Via.refl e0 S_ENUM (g := (mkF m 53 #[.val (.int p1), .val (.int (HMod.hMod (p1 &&& (2147483647 : Int32)) (5 : Int32))), .unset, .unset] [])) rfl (hb hby at_53)
  obtain ⟨cq3, kq3, q3a, q3b, q3c⟩ := isOf hZ e2 E_w_ENUM
  obtain ⟨_, _, ⟨T3, L3, k3, n3⟩, -, X3, ⟨Lc3, hQ3, l3, y3, z3⟩, st3⟩ := X2.virtualBack hx (y := (⟨"com/example/wirekeep/wirekeep/model/FieldType$Category", "isNamed", "()Z"⟩ : MethodName)) (z := (⟨"com/example/wirekeep/wirekeep/model/FieldType$Category", "isNamed", "()Z"⟩ : MethodName)) hown (mvT hZ (hw _ (List.mem_of_getElem? (i := 4) rfl))) (mvT hZ (hw _ (List.mem_of_getElem? (i := 5) rfl))) (notFace_of_selects (args := #[]) (mvT hZ (hw _ (List.mem_of_getElem? (i := 7) rfl)))) (mvT hZ (hw _ (List.mem_of_getElem? (i := 7) rfl))) (mvT hZ (hw _ (List.mem_of_getElem? (i := 6) rfl))) (by decide) (backOf (W := 0) (rm1_fff l Z a0 hw [] w_ENUM w_SCALAR w_MESSAGE w_GROUP w_ENUM w_MAP h0 n0 Z0 S_SCALAR S_MESSAGE S_GROUP S_ENUM S_MAP ne_ENUM_MESSAGE ne_ENUM_GROUP rfl) hZ (hw _ (List.mem_of_getElem? (i := 8) rfl)) (hw _ (List.mem_of_getElem? (i := 2) rfl)) (by decide) (by decide)) q3a q3c (g := (mkF m 69 #[.val (.int p1), .val (.int (HMod.hMod (p1 &&& (2147483647 : Int32)) (5 : Int32))), .val (.ref w_ENUM), .val (.int (1 : Int32))] [(.ref w_ENUM)])) rfl (by rw [hml]; rfl) (Steps.refl _) (argsL := []) (rest := []) (lenOf pd_0_0 rfl) rfl (by show 2 * 0 + _ ≤ _; exact Nat.le_of_eq rfl) (hb hby at_69) (fun _ _ => ⟨rfl, e2, (by decide : 0 + 0 ≤ _), (by decide : 0 + 0 ≤ _)⟩)
  dsimp only [Pt.U, Pt.locs, Pt.cells, Pt.slots] at X3 l3 y3 z3 st3 hQ3
  subst l3 y3 z3
  obtain ⟨rfl, N3q, eq3⟩ := hQ3
  have N3 := Fr.app N0 N3q
  obtain ⟨fs, hr, hrun, hended, hW, hsame⟩ := X3.leave (v := some (.int (1 : Int32))) (fun h => by rw [Bd.returns] at h; cases h)
  refine ⟨_, _, pre0 _ ?_, hrun, hended, _, _, rfl, ?_, ⟨_, rfl⟩, hW, hsame.mono (by decide) (by decide)⟩
  · show Steps p.tables e below (s₁.setTop (mkF m 0 #[.val (.int p1), .unset, .unset, .unset] [])) _
    refine XS.iloadN X0.here hx rfl (hb hby at_0) rfl ?_
    show Steps p.tables e below (s₁.setTop (mkF m 1 #[.val (.int p1), .unset, .unset, .unset] [(.int p1)])) _
    refine X0.ldcInt hx hown (mvT hZ (hw _ (List.mem_of_getElem? (i := 0) rfl))) (g := (mkF m 1 #[.val (.int p1), .unset, .unset, .unset] [(.int p1)])) rfl (hb hby at_1) _ ?_
    show Steps p.tables e below (s₁.setTop (mkF m 3 #[.val (.int p1), .unset, .unset, .unset] [(.int (2147483647 : Int32)), (.int p1)])) _
    refine XS.iand X0.here hx rfl (hb hby at_3) rfl ?_
    show Steps p.tables e below (s₁.setTop (mkF m 4 #[.val (.int p1), .unset, .unset, .unset] [(.int (p1 &&& (2147483647 : Int32)))])) _
    refine XS.iconst X0.here hx rfl (hb hby at_4) ?_
    show Steps p.tables e below (s₁.setTop (mkF m 5 #[.val (.int p1), .unset, .unset, .unset] [(.int (5 : Int32)), (.int (p1 &&& (2147483647 : Int32)))])) _
    refine iremM X0 hx rfl (hb hby at_5) rfl (by decide) ?_
    show Steps p.tables e below (s₁.setTop (mkF m 6 #[.val (.int p1), .unset, .unset, .unset] [(.int (HMod.hMod (p1 &&& (2147483647 : Int32)) (5 : Int32)))])) _
    refine XS.istoreN X0.here hx rfl (hb hby at_6) rfl (l' := #[.val (.int p1), .val (.int (HMod.hMod (p1 &&& (2147483647 : Int32)) (5 : Int32))), .unset, .unset]) rfl ?_
    show Steps p.tables e below (s₁.setTop (mkF m 7 #[.val (.int p1), .val (.int (HMod.hMod (p1 &&& (2147483647 : Int32)) (5 : Int32))), .unset, .unset] [])) _
    refine XS.iloadN X0.here hx rfl (hb hby at_7) rfl ?_
    show Steps p.tables e below (s₁.setTop (mkF m 8 #[.val (.int p1), .val (.int (HMod.hMod (p1 &&& (2147483647 : Int32)) (5 : Int32))), .unset, .unset] [(.int (HMod.hMod (p1 &&& (2147483647 : Int32)) (5 : Int32)))])) _
    refine XS.ifYes X0.here hx rfl (pc0 := 8) (pc' := 20) rfl (hb hby at_8) rfl ((if0 _ _).trans (feq hc8).2) (by decide) (by decide) ?_
    show Steps p.tables e below (s₁.setTop (mkF m 20 #[.val (.int p1), .val (.int (HMod.hMod (p1 &&& (2147483647 : Int32)) (5 : Int32))), .unset, .unset] [])) _
    refine XS.iloadN X0.here hx rfl (hb hby at_20) rfl ?_
    show Steps p.tables e below (s₁.setTop (mkF m 21 #[.val (.int p1), .val (.int (HMod.hMod (p1 &&& (2147483647 : Int32)) (5 : Int32))), .unset, .unset] [(.int (HMod.hMod (p1 &&& (2147483647 : Int32)) (5 : Int32)))])) _
    refine XS.iconst X0.here hx rfl (hb hby at_21) ?_
    show Steps p.tables e below (s₁.setTop (mkF m 22 #[.val (.int p1), .val (.int (HMod.hMod (p1 &&& (2147483647 : Int32)) (5 : Int32))), .unset, .unset] [(.int (1 : Int32)), (.int (HMod.hMod (p1 &&& (2147483647 : Int32)) (5 : Int32)))])) _
    refine XS.icmpYes X0.here hx rfl (pc0 := 22) (pc' := 34) rfl (hb hby at_22) rfl (feq hc22).2 (by decide) (by decide) ?_
    show Steps p.tables e below (s₁.setTop (mkF m 34 #[.val (.int p1), .val (.int (HMod.hMod (p1 &&& (2147483647 : Int32)) (5 : Int32))), .unset, .unset] [])) _
    refine XS.iloadN X0.here hx rfl (hb hby at_34) rfl ?_
    show Steps p.tables e below (s₁.setTop (mkF m 35 #[.val (.int p1), .val (.int (HMod.hMod (p1 &&& (2147483647 : Int32)) (5 : Int32))), .unset, .unset] [(.int (HMod.hMod (p1 &&& (2147483647 : Int32)) (5 : Int32)))])) _
    refine XS.iconst X0.here hx rfl (hb hby at_35) ?_
    show Steps p.tables e below (s₁.setTop (mkF m 36 #[.val (.int p1), .val (.int (HMod.hMod (p1 &&& (2147483647 : Int32)) (5 : Int32))), .unset, .unset] [(.int (2 : Int32)), (.int (HMod.hMod (p1 &&& (2147483647 : Int32)) (5 : Int32)))])) _
    refine XS.icmpYes X0.here hx rfl (pc0 := 36) (pc' := 48) rfl (hb hby at_36) rfl (feq hc36).2 (by decide) (by decide) ?_
    show Steps p.tables e below (s₁.setTop (mkF m 48 #[.val (.int p1), .val (.int (HMod.hMod (p1 &&& (2147483647 : Int32)) (5 : Int32))), .unset, .unset] [])) _
    refine XS.iloadN X0.here hx rfl (hb hby at_48) rfl ?_
    show Steps p.tables e below (s₁.setTop (mkF m 49 #[.val (.int p1), .val (.int (HMod.hMod (p1 &&& (2147483647 : Int32)) (5 : Int32))), .unset, .unset] [(.int (HMod.hMod (p1 &&& (2147483647 : Int32)) (5 : Int32)))])) _
    refine XS.iconst X0.here hx rfl (hb hby at_49) ?_
    show Steps p.tables e below (s₁.setTop (mkF m 50 #[.val (.int p1), .val (.int (HMod.hMod (p1 &&& (2147483647 : Int32)) (5 : Int32))), .unset, .unset] [(.int (3 : Int32)), (.int (HMod.hMod (p1 &&& (2147483647 : Int32)) (5 : Int32)))])) _
    refine XS.icmpNo X0.here hx rfl (hb hby at_50) rfl (teq hc50).2 ?_
    show Steps p.tables e below (s₁.setTop (mkF m 53 #[.val (.int p1), .val (.int (HMod.hMod (p1 &&& (2147483647 : Int32)) (5 : Int32))), .unset, .unset] [])) _
    refine st2 _ ?_
    show Steps p.tables e below (T2.setTop (mkF m 56 #[.val (.int p1), .val (.int (HMod.hMod (p1 &&& (2147483647 : Int32)) (5 : Int32))), .unset, .unset] [(.ref w_ENUM)])) _
    refine XS.astoreN X2.here hx rfl (hb hby at_56) rfl rfl (l' := #[.val (.int p1), .val (.int (HMod.hMod (p1 &&& (2147483647 : Int32)) (5 : Int32))), .val (.ref w_ENUM), .unset]) rfl ?_
    show Steps p.tables e below (T2.setTop (mkF m 57 #[.val (.int p1), .val (.int (HMod.hMod (p1 &&& (2147483647 : Int32)) (5 : Int32))), .val (.ref w_ENUM), .unset] [])) _
    refine XS.iconst X2.here hx rfl (hb hby at_57) ?_
    show Steps p.tables e below (T2.setTop (mkF m 58 #[.val (.int p1), .val (.int (HMod.hMod (p1 &&& (2147483647 : Int32)) (5 : Int32))), .val (.ref w_ENUM), .unset] [(.int (1 : Int32))])) _
    refine XS.istoreN X2.here hx rfl (hb hby at_58) rfl (l' := #[.val (.int p1), .val (.int (HMod.hMod (p1 &&& (2147483647 : Int32)) (5 : Int32))), .val (.ref w_ENUM), .val (.int (1 : Int32))]) rfl ?_
    show Steps p.tables e below (T2.setTop (mkF m 59 #[.val (.int p1), .val (.int (HMod.hMod (p1 &&& (2147483647 : Int32)) (5 : Int32))), .val (.ref w_ENUM), .val (.int (1 : Int32))] [])) _
    refine XS.goto X2.here hx rfl (pc0 := 59) (pc' := 68) rfl (hb hby at_59) (by decide) (by decide) ?_
    show Steps p.tables e below (T2.setTop (mkF m 68 #[.val (.int p1), .val (.int (HMod.hMod (p1 &&& (2147483647 : Int32)) (5 : Int32))), .val (.ref w_ENUM), .val (.int (1 : Int32))] [])) _
    refine XS.aloadN X2.here hx rfl (hb hby at_68) rfl rfl ?_
    show Steps p.tables e below (T2.setTop (mkF m 69 #[.val (.int p1), .val (.int (HMod.hMod (p1 &&& (2147483647 : Int32)) (5 : Int32))), .val (.ref w_ENUM), .val (.int (1 : Int32))] [(.ref w_ENUM)])) _
    refine st3.trans ?_
    show Steps p.tables e below (T3.setTop (mkF m 72 #[.val (.int p1), .val (.int (HMod.hMod (p1 &&& (2147483647 : Int32)) (5 : Int32))), .val (.ref w_ENUM), .val (.int (1 : Int32))] [(.int (1 : Int32))])) _
    refine XS.iloadN X3.here hx rfl (hb hby at_72) rfl ?_
    show Steps p.tables e below (T3.setTop (mkF m 73 #[.val (.int p1), .val (.int (HMod.hMod (p1 &&& (2147483647 : Int32)) (5 : Int32))), .val (.ref w_ENUM), .val (.int (1 : Int32))] [(.int (1 : Int32)), (.int (1 : Int32))])) _
    refine XS.icmpNo X3.here hx rfl (hb hby at_73) rfl (teq (rfl : (1 : Int32) = (1 : Int32))).2 ?_
    show Steps p.tables e below (T3.setTop (mkF m 76 #[.val (.int p1), .val (.int (HMod.hMod (p1 &&& (2147483647 : Int32)) (5 : Int32))), .val (.ref w_ENUM), .val (.int (1 : Int32))] [])) _
    refine XS.iconst X3.here hx rfl (hb hby at_76) ?_
    show Steps p.tables e below (T3.setTop (mkF m 77 #[.val (.int p1), .val (.int (HMod.hMod (p1 &&& (2147483647 : Int32)) (5 : Int32))), .val (.ref w_ENUM), .val (.int (1 : Int32))] [(.int (1 : Int32))])) _
    refine XS.goto X3.here hx rfl (pc0 := 77) (pc' := 81) rfl (hb hby at_77) (by decide) (by decide) ?_
    show Steps p.tables e below (T3.setTop (mkF m 81 #[.val (.int p1), .val (.int (HMod.hMod (p1 &&& (2147483647 : Int32)) (5 : Int32))), .val (.ref w_ENUM), .val (.int (1 : Int32))] [(.int (1 : Int32))])) _
    exact retN X3 hx (t := .boolean) Bd.returns (by simp) (hb hby at_81) hr
  · show QR (some (.int (1 : Int32))) h0 n0 _ T3.heap _
    rw [eq3]
    exact ⟨rfl, N3, rfl⟩

set_option maxRecDepth 65536 in
set_option maxHeartbeats 40000000 in
theorem rm0_4 (l : Launch) (Z : State) (a0 : Array Value) (hw : ∀ d ∈ tables_1, d.before a0 Z = true) (ws : List Jvm.Cond) (p1 : Int32) (w_SCALAR : Addr) (w_MESSAGE : Addr) (w_GROUP : Addr) (w_ENUM : Addr) (w_MAP : Addr) (h0 : Heap) (n0 : Nat) (Z0 : n0 ≤ h0.size) (S_SCALAR : Sta Z h0 "com/example/wirekeep/wirekeep/model/FieldType$Category" "SCALAR" "Lcom/example/wirekeep/wirekeep/model/FieldType$Category;" (.ref w_SCALAR)) (S_MESSAGE : Sta Z h0 "com/example/wirekeep/wirekeep/model/FieldType$Category" "MESSAGE" "Lcom/example/wirekeep/wirekeep/model/FieldType$Category;" (.ref w_MESSAGE)) (S_GROUP : Sta Z h0 "com/example/wirekeep/wirekeep/model/FieldType$Category" "GROUP" "Lcom/example/wirekeep/wirekeep/model/FieldType$Category;" (.ref w_GROUP)) (S_ENUM : Sta Z h0 "com/example/wirekeep/wirekeep/model/FieldType$Category" "ENUM" "Lcom/example/wirekeep/wirekeep/model/FieldType$Category;" (.ref w_ENUM)) (S_MAP : Sta Z h0 "com/example/wirekeep/wirekeep/model/FieldType$Category" "MAP" "Lcom/example/wirekeep/wirekeep/model/FieldType$Category;" (.ref w_MAP)) (E_w_SCALAR : Exa Z h0 w_SCALAR "com/example/wirekeep/wirekeep/model/FieldType$Category") (E_w_MESSAGE : Exa Z h0 w_MESSAGE "com/example/wirekeep/wirekeep/model/FieldType$Category") (E_w_GROUP : Exa Z h0 w_GROUP "com/example/wirekeep/wirekeep/model/FieldType$Category") (E_w_ENUM : Exa Z h0 w_ENUM "com/example/wirekeep/wirekeep/model/FieldType$Category") (E_w_MAP : Exa Z h0 w_MAP "com/example/wirekeep/wirekeep/model/FieldType$Category") (ne_SCALAR_MESSAGE : ¬ (w_SCALAR = w_MESSAGE)) (ne_SCALAR_GROUP : ¬ (w_SCALAR = w_GROUP)) (ne_SCALAR_ENUM : ¬ (w_SCALAR = w_ENUM)) (ne_MAP_MESSAGE : ¬ (w_MAP = w_MESSAGE)) (ne_MAP_GROUP : ¬ (w_MAP = w_GROUP)) (ne_MAP_ENUM : ¬ (w_MAP = w_ENUM)) (ne_GROUP_MESSAGE : ¬ (w_GROUP = w_MESSAGE)) (ne_ENUM_MESSAGE : ¬ (w_ENUM = w_MESSAGE)) (ne_ENUM_GROUP : ¬ (w_ENUM = w_GROUP)) (hc8 : ¬ ((HMod.hMod (p1 &&& (2147483647 : Int32)) (5 : Int32)) = (0 : Int32))) (hc22 : ¬ ((HMod.hMod (p1 &&& (2147483647 : Int32)) (5 : Int32)) = (1 : Int32))) (hc36 : ¬ ((HMod.hMod (p1 &&& (2147483647 : Int32)) (5 : Int32)) = (2 : Int32))) (hc50 : ¬ ((HMod.hMod (p1 &&& (2147483647 : Int32)) (5 : Int32)) = (3 : Int32))) :
    MetFree l x (head1 (Jvm.Cond.code x code maxLocals ret :: ws) room_1) (fun a U => a = #[(.int p1)] ∧ Z.Warmed39 U.vm ∧ U.heap = h0) (fun _ _ _ _ _ => True) (fun _ U o U' => ∃ v L, o = .returned v ∧ QR (some (.int (1 : Int32))) h0 n0 v U'.heap L ∧ FrameEnd U o U' L room_1.cells room_1.slots) := by
  refine MetFree.of_bodySF (plainFor_of_name pn_0) hisR ?_
  intro p e s m args below meth c s₁ Bd hml0 hP hK
  obtain ⟨rfl, hZ, hh⟩ := hP
  have hx := Bd.exec
  have hby := Bd.bytes
  have hml : c.maxLocals = 4 := hml0
  have hown : s.vm.findClass "com/example/wirekeep/wirekeep/model/CategoryIsNamedPinLaw" = some m.cls := findClass_of_methodNamed Bd.named
  have hnm := (name_of_methodNamed Bd.named Bd.method).1
  have X0 : Stand p l e room_1 s m #[(.int p1)] below meth c s₁ [] 0 0 := Stand.of_body Bd
  have e0 : s₁.heap = h0 := by rw [← hh, Bd.state]; rfl
  have N0 := Fr.nil n0
  have pre0 : ∀ t, Steps p.tables e below (s₁.setTop (mkF m 0 #[.val (.int p1), .unset, .unset, .unset] [])) t → Steps p.tables e below (s₁.setTop (entryFrame m #[(.int p1)] maxLocals)) t := fun t k => castTop (ef_0 m p1) k
  obtain ⟨T2, X2, e2, st2⟩ := getS2 X0 hx hZ hown (host := "") (Or.inl (hw _ (List.mem_of_getElem? (i := 17) rfl))) Via.refl e0 S_MAP (g := (mkF m 62 #[.val (.int p1), .val (.int (HMod.hMod (p1 &&& (2147483647 : Int32)) (5 : Int32))), .unset, .unset] [])) rfl (hb hby at_62)
  obtain ⟨cq3, kq3, q3a, q3b, q3c⟩ := isOf hZ e2 E_w_MAP
  obtain ⟨_, _, ⟨T3, L3, k3, n3⟩, -, X3, ⟨Lc3, hQ3, l3, y3, z3⟩, st3⟩ := X2.virtualBack hx (y := (⟨"com/example/wirekeep/wirekeep/model/FieldType$Category", "isNamed", "()Z"⟩ : MethodName)) (z := (⟨"com/example/wirekeep/wirekeep/model/FieldType$Category", "isNamed", "()Z"⟩ : MethodName)) hown (mvT hZ (hw _ (List.mem_of_getElem? (i := 4) rfl))) (mvT hZ (hw _ (List.mem_of_getElem? (i := 5) rfl))) (notFace_of_selects (args := #[]) (mvT hZ (hw _ (List.mem_of_getElem? (i := 7) rfl)))) (mvT hZ (hw _ (List.mem_of_getElem? (i := 7) rfl))) (mvT hZ (hw _ (List.mem_of_getElem? (i := 6) rfl))) (by decide) (backOf (W := 0) (rm1_fft l Z a0 hw [] w_MAP w_SCALAR w_MESSAGE w_GROUP w_ENUM w_MAP h0 n0 Z0 S_SCALAR S_MESSAGE S_GROUP S_ENUM S_MAP ne_MAP_MESSAGE ne_MAP_GROUP ne_MAP_ENUM) hZ (hw _ (List.mem_of_getElem? (i := 8) rfl)) (hw _ (List.mem_of_getElem? (i := 2) rfl)) (by decide) (by decide)) q3a q3c (g := (mkF m 69 #[.val (.int p1), .val (.int (HMod.hMod (p1 &&& (2147483647 : Int32)) (5 : Int32))), .val (.ref w_MAP), .val (.int (0 : Int32))] [(.ref w_MAP)])) rfl (by rw [hml]; rfl) (Steps.refl _) (argsL := []) (rest := []) (lenOf pd_0_0 rfl) rfl (by show 2 * 0 + _ ≤ _; exact Nat.le_of_eq rfl) (hb hby at_69) (fun _ _ => ⟨rfl, e2, (by decide : 0 + 0 ≤ _), (by decide : 0 + 0 ≤ _)⟩)
  dsimp only [Pt.U, Pt.locs, Pt.cells, Pt.slots] at X3 l3 y3 z3 st3 hQ3
  subst l3 y3 z3
  obtain ⟨rfl, N3q, eq3⟩ := hQ3
  have N3 := Fr.app N0 N3q
  obtain ⟨fs, hr, hrun, hended, hW, hsame⟩ := X3.leave (v := some (.int (1 : Int32))) (fun h => by rw [Bd.returns] at h; cases h)
  refine ⟨_, _, pre0 _ ?_, hrun, hended, _, _, rfl, ?_, ⟨_, rfl⟩, hW, hsame.mono (by decide) (by decide)⟩
  · show Steps p.tables e below (s₁.setTop (mkF m 0 #[.val (.int p1), .unset, .unset, .unset] [])) _
    refine XS.iloadN X0.here hx rfl (hb hby at_0) rfl ?_
    show Steps p.tables e below (s₁.setTop (mkF m 1 #[.val (.int p1), .unset, .unset, .unset] [(.int p1)])) _
    refine X0.ldcInt hx hown (mvT hZ (hw _ (List.mem_of_getElem? (i := 0) rfl))) (g := (mkF m 1 #[.val (.int p1), .unset, .unset, .unset] [(.int p1)])) rfl (hb hby at_1) _ ?_
    show Steps p.tables e below (s₁.setTop (mkF m 3 #[.val (.int p1), .unset, .unset, .unset] [(.int (2147483647 : Int32)), (.int p1)])) _
    refine XS.iand X0.here hx rfl (hb hby at_3) rfl ?_
    show Steps p.tables e below (s₁.setTop (mkF m 4 #[.val (.int p1), .unset, .unset, .unset] [(.int (p1 &&& (2147483647 : Int32)))])) _
    refine XS.iconst X0.here hx rfl (hb hby at_4) ?_
    show Steps p.tables e below (s₁.setTop (mkF m 5 #[.val (.int p1), .unset, .unset, .unset] [(.int (5 : Int32)), (.int (p1 &&& (2147483647 : Int32)))])) _
    refine iremM X0 hx rfl (hb hby at_5) rfl (by decide) ?_
    show Steps p.tables e below (s₁.setTop (mkF m 6 #[.val (.int p1), .unset, .unset, .unset] [(.int (HMod.hMod (p1 &&& (2147483647 : Int32)) (5 : Int32)))])) _
    refine XS.istoreN X0.here hx rfl (hb hby at_6) rfl (l' := #[.val (.int p1), .val (.int (HMod.hMod (p1 &&& (2147483647 : Int32)) (5 : Int32))), .unset, .unset]) rfl ?_
    show Steps p.tables e below (s₁.setTop (mkF m 7 #[.val (.int p1), .val (.int (HMod.hMod (p1 &&& (2147483647 : Int32)) (5 : Int32))), .unset, .unset] [])) _
    refine XS.iloadN X0.here hx rfl (hb hby at_7) rfl ?_
    show Steps p.tables e below (s₁.setTop (mkF m 8 #[.val (.int p1), .val (.int (HMod.hMod (p1 &&& (2147483647 : Int32)) (5 : Int32))), .unset, .unset] [(.int (HMod.hMod (p1 &&& (2147483647 : Int32)) (5 : Int32)))])) _
    refine XS.ifYes X0.here hx rfl (pc0 := 8) (pc' := 20) rfl (hb hby at_8) rfl ((if0 _ _).trans (feq hc8).2) (by decide) (by decide) ?_
    show Steps p.tables e below (s₁.setTop (mkF m 20 #[.val (.int p1), .val (.int (HMod.hMod (p1 &&& (2147483647 : Int32)) (5 : Int32))), .unset, .unset] [])) _
    refine XS.iloadN X0.here hx rfl (hb hby at_20) rfl ?_
    show Steps p.tables e below (s₁.setTop (mkF m 21 #[.val (.int p1), .val (.int (HMod.hMod (p1 &&& (2147483647 : Int32)) (5 : Int32))), .unset, .unset] [(.int (HMod.hMod (p1 &&& (2147483647 : Int32)) (5 : Int32)))])) _
    refine XS.iconst X0.here hx rfl (hb hby at_21) ?_
    show Steps p.tables e below (s₁.setTop (mkF m 22 #[.val (.int p1), .val (.int (HMod.hMod (p1 &&& (2147483647 : Int32)) (5 : Int32))), .unset, .unset] [(.int (1 : Int32)), (.int (HMod.hMod (p1 &&& (2147483647 : Int32)) (5 : Int32)))])) _
    refine XS.icmpYes X0.here hx rfl (pc0 := 22) (pc' := 34) rfl (hb hby at_22) rfl (feq hc22).2 (by decide) (by decide) ?_
    show Steps p.tables e below (s₁.setTop (mkF m 34 #[.val (.int p1), .val (.int (HMod.hMod (p1 &&& (2147483647 : Int32)) (5 : Int32))), .unset, .unset] [])) _
    refine XS.iloadN X0.here hx rfl (hb hby at_34) rfl ?_
    show Steps p.tables e below (s₁.setTop (mkF m 35 #[.val (.int p1), .val (.int (HMod.hMod (p1 &&& (2147483647 : Int32)) (5 : Int32))), .unset, .unset] [(.int (HMod.hMod (p1 &&& (2147483647 : Int32)) (5 : Int32)))])) _
    refine XS.iconst X0.here hx rfl (hb hby at_35) ?_
    show Steps p.tables e below (s₁.setTop (mkF m 36 #[.val (.int p1), .val (.int (HMod.hMod (p1 &&& (2147483647 : Int32)) (5 : Int32))), .unset, .unset] [(.int (2 : Int32)), (.int (HMod.hMod (p1 &&& (2147483647 : Int32)) (5 : Int32)))])) _
    refine XS.icmpYes X0.here hx rfl (pc0 := 36) (pc' := 48) rfl (hb hby at_36) rfl (feq hc36).2 (by decide) (by decide) ?_
    show Steps p.tables e below (s₁.setTop (mkF m 48 #[.val (.int p1), .val (.int (HMod.hMod (p1 &&& (2147483647 : Int32)) (5 : Int32))), .unset, .unset] [])) _
    refine XS.iloadN X0.here hx rfl (hb hby at_48) rfl ?_
    show Steps p.tables e below (s₁.setTop (mkF m 49 #[.val (.int p1), .val (.int (HMod.hMod (p1 &&& (2147483647 : Int32)) (5 : Int32))), .unset, .unset] [(.int (HMod.hMod (p1 &&& (2147483647 : Int32)) (5 : Int32)))])) _
    refine XS.iconst X0.here hx rfl (hb hby at_49) ?_
    show Steps p.tables e below (s₁.setTop (mkF m 50 #[.val (.int p1), .val (.int (HMod.hMod (p1 &&& (2147483647 : Int32)) (5 : Int32))), .unset, .unset] [(.int (3 : Int32)), (.int (HMod.hMod (p1 &&& (2147483647 : Int32)) (5 : Int32)))])) _
    refine XS.icmpYes X0.here hx rfl (pc0 := 50) (pc' := 62) rfl (hb hby at_50) rfl (feq hc50).2 (by decide) (by decide) ?_
    show Steps p.tables e below (s₁.setTop (mkF m 62 #[.val (.int p1), .val (.int (HMod.hMod (p1 &&& (2147483647 : Int32)) (5 : Int32))), .unset, .unset] [])) _
    refine st2 _ ?_
    show Steps p.tables e below (T2.setTop (mkF m 65 #[.val (.int p1), .val (.int (HMod.hMod (p1 &&& (2147483647 : Int32)) (5 : Int32))), .unset, .unset] [(.ref w_MAP)])) _
    refine XS.astoreN X2.here hx rfl (hb hby at_65) rfl rfl (l' := #[.val (.int p1), .val (.int (HMod.hMod (p1 &&& (2147483647 : Int32)) (5 : Int32))), .val (.ref w_MAP), .unset]) rfl ?_
    show Steps p.tables e below (T2.setTop (mkF m 66 #[.val (.int p1), .val (.int (HMod.hMod (p1 &&& (2147483647 : Int32)) (5 : Int32))), .val (.ref w_MAP), .unset] [])) _
    refine XS.iconst X2.here hx rfl (hb hby at_66) ?_
    show Steps p.tables e below (T2.setTop (mkF m 67 #[.val (.int p1), .val (.int (HMod.hMod (p1 &&& (2147483647 : Int32)) (5 : Int32))), .val (.ref w_MAP), .unset] [(.int (0 : Int32))])) _
    refine XS.istoreN X2.here hx rfl (hb hby at_67) rfl (l' := #[.val (.int p1), .val (.int (HMod.hMod (p1 &&& (2147483647 : Int32)) (5 : Int32))), .val (.ref w_MAP), .val (.int (0 : Int32))]) rfl ?_
    show Steps p.tables e below (T2.setTop (mkF m 68 #[.val (.int p1), .val (.int (HMod.hMod (p1 &&& (2147483647 : Int32)) (5 : Int32))), .val (.ref w_MAP), .val (.int (0 : Int32))] [])) _
    refine XS.aloadN X2.here hx rfl (hb hby at_68) rfl rfl ?_
    show Steps p.tables e below (T2.setTop (mkF m 69 #[.val (.int p1), .val (.int (HMod.hMod (p1 &&& (2147483647 : Int32)) (5 : Int32))), .val (.ref w_MAP), .val (.int (0 : Int32))] [(.ref w_MAP)])) _
    refine st3.trans ?_
    show Steps p.tables e below (T3.setTop (mkF m 72 #[.val (.int p1), .val (.int (HMod.hMod (p1 &&& (2147483647 : Int32)) (5 : Int32))), .val (.ref w_MAP), .val (.int (0 : Int32))] [(.int (0 : Int32))])) _
    refine XS.iloadN X3.here hx rfl (hb hby at_72) rfl ?_
    show Steps p.tables e below (T3.setTop (mkF m 73 #[.val (.int p1), .val (.int (HMod.hMod (p1 &&& (2147483647 : Int32)) (5 : Int32))), .val (.ref w_MAP), .val (.int (0 : Int32))] [(.int (0 : Int32)), (.int (0 : Int32))])) _
    refine XS.icmpNo X3.here hx rfl (hb hby at_73) rfl (teq (rfl : (0 : Int32) = (0 : Int32))).2 ?_
    show Steps p.tables e below (T3.setTop (mkF m 76 #[.val (.int p1), .val (.int (HMod.hMod (p1 &&& (2147483647 : Int32)) (5 : Int32))), .val (.ref w_MAP), .val (.int (0 : Int32))] [])) _
    refine XS.iconst X3.here hx rfl (hb hby at_76) ?_
    show Steps p.tables e below (T3.setTop (mkF m 77 #[.val (.int p1), .val (.int (HMod.hMod (p1 &&& (2147483647 : Int32)) (5 : Int32))), .val (.ref w_MAP), .val (.int (0 : Int32))] [(.int (1 : Int32))])) _
    refine XS.goto X3.here hx rfl (pc0 := 77) (pc' := 81) rfl (hb hby at_77) (by decide) (by decide) ?_
    show Steps p.tables e below (T3.setTop (mkF m 81 #[.val (.int p1), .val (.int (HMod.hMod (p1 &&& (2147483647 : Int32)) (5 : Int32))), .val (.ref w_MAP), .val (.int (0 : Int32))] [(.int (1 : Int32))])) _
    exact retN X3 hx (t := .boolean) Bd.returns (by simp) (hb hby at_81) hr
  · show QR (some (.int (1 : Int32))) h0 n0 _ T3.heap _
    rw [eq3]
    exact ⟨rfl, N3, rfl⟩

theorem rm0 (l : Launch) (Z : State) (a0 : Array Value) (hw : ∀ d ∈ tables_1, d.before a0 Z = true) (ws : List Jvm.Cond) (p1 : Int32) (w_SCALAR : Addr) (w_MESSAGE : Addr) (w_GROUP : Addr) (w_ENUM : Addr) (w_MAP : Addr) (h0 : Heap) (n0 : Nat) (Z0 : n0 ≤ h0.size) (S_SCALAR : Sta Z h0 "com/example/wirekeep/wirekeep/model/FieldType$Category" "SCALAR" "Lcom/example/wirekeep/wirekeep/model/FieldType$Category;" (.ref w_SCALAR)) (S_MESSAGE : Sta Z h0 "com/example/wirekeep/wirekeep/model/FieldType$Category" "MESSAGE" "Lcom/example/wirekeep/wirekeep/model/FieldType$Category;" (.ref w_MESSAGE)) (S_GROUP : Sta Z h0 "com/example/wirekeep/wirekeep/model/FieldType$Category" "GROUP" "Lcom/example/wirekeep/wirekeep/model/FieldType$Category;" (.ref w_GROUP)) (S_ENUM : Sta Z h0 "com/example/wirekeep/wirekeep/model/FieldType$Category" "ENUM" "Lcom/example/wirekeep/wirekeep/model/FieldType$Category;" (.ref w_ENUM)) (S_MAP : Sta Z h0 "com/example/wirekeep/wirekeep/model/FieldType$Category" "MAP" "Lcom/example/wirekeep/wirekeep/model/FieldType$Category;" (.ref w_MAP)) (E_w_SCALAR : Exa Z h0 w_SCALAR "com/example/wirekeep/wirekeep/model/FieldType$Category") (E_w_MESSAGE : Exa Z h0 w_MESSAGE "com/example/wirekeep/wirekeep/model/FieldType$Category") (E_w_GROUP : Exa Z h0 w_GROUP "com/example/wirekeep/wirekeep/model/FieldType$Category") (E_w_ENUM : Exa Z h0 w_ENUM "com/example/wirekeep/wirekeep/model/FieldType$Category") (E_w_MAP : Exa Z h0 w_MAP "com/example/wirekeep/wirekeep/model/FieldType$Category") (ne_SCALAR_MESSAGE : ¬ (w_SCALAR = w_MESSAGE)) (ne_SCALAR_GROUP : ¬ (w_SCALAR = w_GROUP)) (ne_SCALAR_ENUM : ¬ (w_SCALAR = w_ENUM)) (ne_MAP_MESSAGE : ¬ (w_MAP = w_MESSAGE)) (ne_MAP_GROUP : ¬ (w_MAP = w_GROUP)) (ne_MAP_ENUM : ¬ (w_MAP = w_ENUM)) (ne_GROUP_MESSAGE : ¬ (w_GROUP = w_MESSAGE)) (ne_ENUM_MESSAGE : ¬ (w_ENUM = w_MESSAGE)) (ne_ENUM_GROUP : ¬ (w_ENUM = w_GROUP)) :
    MetFree l x (head1 (Jvm.Cond.code x code maxLocals ret :: ws) room_1) (fun a U => a = #[(.int p1)] ∧ Z.Warmed39 U.vm ∧ U.heap = h0) (fun _ _ _ _ _ => True) (fun _ U o U' => ∃ v L, o = .returned v ∧ QR (some (.int (1 : Int32))) h0 n0 v U'.heap L ∧ FrameEnd U o U' L room_1.cells room_1.slots) := by
  by_cases h0' : HMod.hMod (p1 &&& (2147483647 : Int32)) (5 : Int32) = (0 : Int32)
  · exact rm0_0 l Z a0 hw ws p1 w_SCALAR w_MESSAGE w_GROUP w_ENUM w_MAP h0 n0 Z0 S_SCALAR S_MESSAGE S_GROUP S_ENUM S_MAP E_w_SCALAR E_w_MESSAGE E_w_GROUP E_w_ENUM E_w_MAP ne_SCALAR_MESSAGE ne_SCALAR_GROUP ne_SCALAR_ENUM ne_MAP_MESSAGE ne_MAP_GROUP ne_MAP_ENUM ne_GROUP_MESSAGE ne_ENUM_MESSAGE ne_ENUM_GROUP h0'
  by_cases h1' : HMod.hMod (p1 &&& (2147483647 : Int32)) (5 : Int32) = (1 : Int32)
  · exact rm0_1 l Z a0 hw ws p1 w_SCALAR w_MESSAGE w_GROUP w_ENUM w_MAP h0 n0 Z0 S_SCALAR S_MESSAGE S_GROUP S_ENUM S_MAP E_w_SCALAR E_w_MESSAGE E_w_GROUP E_w_ENUM E_w_MAP ne_SCALAR_MESSAGE ne_SCALAR_GROUP ne_SCALAR_ENUM ne_MAP_MESSAGE ne_MAP_GROUP ne_MAP_ENUM ne_GROUP_MESSAGE ne_ENUM_MESSAGE ne_ENUM_GROUP h0' h1'
  by_cases h2' : HMod.hMod (p1 &&& (2147483647 : Int32)) (5 : Int32) = (2 : Int32)
  · exact rm0_2 l Z a0 hw ws p1 w_SCALAR w_MESSAGE w_GROUP w_ENUM w_MAP h0 n0 Z0 S_SCALAR S_MESSAGE S_GROUP S_ENUM S_MAP E_w_SCALAR E_w_MESSAGE E_w_GROUP E_w_ENUM E_w_MAP ne_SCALAR_MESSAGE ne_SCALAR_GROUP ne_SCALAR_ENUM ne_MAP_MESSAGE ne_MAP_GROUP ne_MAP_ENUM ne_GROUP_MESSAGE ne_ENUM_MESSAGE ne_ENUM_GROUP h0' h1' h2'
  by_cases h3' : HMod.hMod (p1 &&& (2147483647 : Int32)) (5 : Int32) = (3 : Int32)
  · exact rm0_3 l Z a0 hw ws p1 w_SCALAR w_MESSAGE w_GROUP w_ENUM w_MAP h0 n0 Z0 S_SCALAR S_MESSAGE S_GROUP S_ENUM S_MAP E_w_SCALAR E_w_MESSAGE E_w_GROUP E_w_ENUM E_w_MAP ne_SCALAR_MESSAGE ne_SCALAR_GROUP ne_SCALAR_ENUM ne_MAP_MESSAGE ne_MAP_GROUP ne_MAP_ENUM ne_GROUP_MESSAGE ne_ENUM_MESSAGE ne_ENUM_GROUP h0' h1' h2' h3'
  exact rm0_4 l Z a0 hw ws p1 w_SCALAR w_MESSAGE w_GROUP w_ENUM w_MAP h0 n0 Z0 S_SCALAR S_MESSAGE S_GROUP S_ENUM S_MAP E_w_SCALAR E_w_MESSAGE E_w_GROUP E_w_ENUM E_w_MAP ne_SCALAR_MESSAGE ne_SCALAR_GROUP ne_SCALAR_ENUM ne_MAP_MESSAGE ne_MAP_GROUP ne_MAP_ENUM ne_GROUP_MESSAGE ne_ENUM_MESSAGE ne_ENUM_GROUP h0' h1' h2' h3'

set_option maxRecDepth 65536 in
set_option maxHeartbeats 40000000 in
theorem comes_1 {Post : Tables → Env → Array Value → State → Outcome → State → Prop} (hpost : ∀ tb e args s v u, (limb_1_1.after args s (.returned v) u = true ∧ limb_1_2.after args s (.returned v) u = true ∧ True) → FrameEnd s (.returned v) u (Jvm.fieldLocs frame_1_writes args s ++ Jvm.arrayLocs frame_1_arrays args s ++ Jvm.staticLocs frame_1_statics s) 0 0 → Post tb e args s (.returned v) u) :
    ArmFor flags0 classFile x code maxLocals ret World_1 tables_1 room_1 Calls_1 rest_1 Pre_1 Post := by
  intro l hfl _ _ p e ha hc hk s m args below hf hA hF happ hP
  obtain ⟨hcalls, hrest, hpre⟩ := hP
  obtain ⟨-, -, -, hnamed, -, -, -, hat⟩ := (Spec.applies_iff hf).mp happ
  obtain ⟨hg, hn⟩ := and_e (Cond.before_iff.mp (show (Jvm.Cond.and given_1 narrow_1).before args s = true from hpre))
  obtain ⟨g4, g5⟩ := and_e hg
  obtain ⟨w0, rfl⟩ : ∃ w0 : Value, args = #[w0] := by
    have hs : args.size = 1 := by simpa [Cond.value, given_1] using g4
    obtain ⟨L⟩ := args
    match L, hs with
    | [w0], _ => exact ⟨w0, rfl⟩
  have hw := fun d (hd : d ∈ tables_1) => atoms_spec (ws := Jvm.Cond.code x code maxLocals ret :: tables_1) hat d (List.mem_cons_of_mem _ hd)
  have hfit : Fit s := fun {y c} hc i hi => by
    obtain ⟨ha, rfl⟩ := Array.getElem?_eq_some_iff.mp hc
    have q := List.all_eq_true.mp ((Array.all_eq_true_iff_forall_mem.mp hF) _ (Array.getElem_mem ha)) i (List.mem_range.mpr hi)
    simpa [Array.getElem?_eq_getElem hi] using q
  obtain ⟨i0, ei0⟩ := is_v g5
  obtain rfl : w0 = (.int i0) := Option.some.inj ei0
  obtain ⟨n0, hn⟩ := and_e hn
  obtain ⟨n1, hn⟩ := and_e hn
  obtain ⟨n2, hn⟩ := and_e hn
  obtain ⟨n3, hn⟩ := and_e hn
  obtain ⟨n4, hn⟩ := and_e hn
  obtain ⟨n5, hn⟩ := and_e hn
  obtain ⟨n6, hn⟩ := and_e hn
  obtain ⟨n7, hn⟩ := and_e hn
  obtain ⟨n8, n9⟩ := and_e hn
  obtain ⟨w_SCALAR, v_SCALAR, S_SCALAR, E_w_SCALAR⟩ := own_sta (hw _ (List.mem_of_getElem? (i := 2) rfl)) (hw _ (List.mem_of_getElem? (i := 3) rfl)) n0
  obtain ⟨w_MESSAGE, v_MESSAGE, S_MESSAGE, E_w_MESSAGE⟩ := own_sta (hw _ (List.mem_of_getElem? (i := 2) rfl)) (hw _ (List.mem_of_getElem? (i := 10) rfl)) n1
  obtain ⟨w_GROUP, v_GROUP, S_GROUP, E_w_GROUP⟩ := own_sta (hw _ (List.mem_of_getElem? (i := 2) rfl)) (hw _ (List.mem_of_getElem? (i := 12) rfl)) n4
  obtain ⟨w_ENUM, v_ENUM, S_ENUM, E_w_ENUM⟩ := own_sta (hw _ (List.mem_of_getElem? (i := 2) rfl)) (hw _ (List.mem_of_getElem? (i := 14) rfl)) n6
  obtain ⟨w_MAP, v_MAP, S_MAP, E_w_MAP⟩ := own_sta (hw _ (List.mem_of_getElem? (i := 2) rfl)) (hw _ (List.mem_of_getElem? (i := 18) rfl)) n8
  have f_SCALAR := own_fld v_SCALAR n2
  have f_MESSAGE := own_fld v_MESSAGE n3
  have f_GROUP := own_fld v_GROUP n5
  have f_ENUM := own_fld v_ENUM n7
  have f_MAP := own_fld v_MAP n9
  have ne_SCALAR_MESSAGE : ¬ (w_SCALAR = w_MESSAGE) := Fld.ne f_SCALAR f_MESSAGE (by decide)
  have ne_SCALAR_GROUP : ¬ (w_SCALAR = w_GROUP) := Fld.ne f_SCALAR f_GROUP (by decide)
  have ne_SCALAR_ENUM : ¬ (w_SCALAR = w_ENUM) := Fld.ne f_SCALAR f_ENUM (by decide)
  have ne_MAP_MESSAGE : ¬ (w_MAP = w_MESSAGE) := Fld.ne f_MAP f_MESSAGE (by decide)
  have ne_MAP_GROUP : ¬ (w_MAP = w_GROUP) := Fld.ne f_MAP f_GROUP (by decide)
  have ne_MAP_ENUM : ¬ (w_MAP = w_ENUM) := Fld.ne f_MAP f_ENUM (by decide)
  have ne_GROUP_MESSAGE : ¬ (w_GROUP = w_MESSAGE) := Fld.ne f_GROUP f_MESSAGE (by decide)
  have ne_ENUM_MESSAGE : ¬ (w_ENUM = w_MESSAGE) := Fld.ne f_ENUM f_MESSAGE (by decide)
  have ne_ENUM_GROUP : ¬ (w_ENUM = w_GROUP) := Fld.ne f_ENUM f_GROUP (by decide)
  obtain ⟨n, o, h1, h2, h3, _, L, rfl, ⟨rfl, N, -⟩, hq⟩ := rm0 l s _ hw tables_1 i0 w_SCALAR w_MESSAGE w_GROUP w_ENUM w_MAP s.heap s.heap.size (Nat.le_refl _) S_SCALAR S_MESSAGE S_GROUP S_ENUM S_MAP E_w_SCALAR E_w_MESSAGE E_w_GROUP E_w_ENUM E_w_MAP ne_SCALAR_MESSAGE ne_SCALAR_GROUP ne_SCALAR_ENUM ne_MAP_MESSAGE ne_MAP_GROUP ne_MAP_ENUM ne_GROUP_MESSAGE ne_ENUM_MESSAGE ne_ENUM_GROUP p e ha hc hk s m _ below hf ((Spec.applies_iff_loose hf).mp happ).1 ⟨rfl, State.Warmed39.refl s, rfl⟩ trivial
  refine ⟨n, _, h1, h2, h3, hpost _ _ _ _ _ _ ⟨Cond.after_iff.mpr rfl, Cond.after_iff.mpr (eq_i res_at (Term.int_eval (1)) rfl), trivial⟩ ⟨hq.1, hq.2.1, (hq.2.2.sift fun y hy => Or.inr (N y hy)).mono (by decide) (by decide)⟩⟩
theorem main_1_1 : Claimed_1_1 := comes_1 fun _ _ _ _ _ _ h hF => ⟨h.1, hF⟩
theorem main_1_2 : Claimed_1_2 := comes_1 fun _ _ _ _ _ _ h hF => ⟨h.2.1, hF⟩

end Jvm.Pilot.@@N@@
namespace Jvm.Pilot.@@N@@
open Jvm Jvm.ClassFile Sem Op Lib Jvm.Free Jvm.Stand Jvm.Pilot.@@N@@.Jvm.D
/-! MADE BY PROGRAM (witnessworld.py) out of the Statement's table words and the real class files: 10 classes; the members and pool entries that the words name. The judged class is class 1, her method 1. -/
namespace start1
open Jvm.ClassFile
def u (s : String) : CpInfo := .utf8 (stringToUtf16 s)
/-- a pool by its gaps: so many unusable entries, then the entry; so many at the end -/
def gap : Nat → List CpInfo → List CpInfo
  | 0, r => r
  | n + 1, r => .unusable :: gap n r
def poolList (es : List (Nat × CpInfo)) (last : Nat) : List CpInfo := es.foldr (fun e r => gap e.1 (e.2 :: r)) (gap last [])
def pool (es : List (Nat × CpInfo)) (last : Nat) : Array CpInfo := ⟨poolList es last⟩
def fileOf (pool : Array CpInfo) (this : Nat) (attrs : Array Attribute := #[]) (ms : Array MethodInfo := #[]) (fl : Nat := 33) (sup : Nat := 0) (ifs : Array Nat := #[]) (fds : Array FieldInfo := #[]) : ClassFile where
  minorVersion := 0
  majorVersion := 65
  constantPool := pool
  accessFlags := fl
  thisClass := this
  superClass := sup
  interfaces := ifs
  fields := fds
  methods := ms
  attributes := attrs
def plain (name : String) (sup : Option ClassId) : Class where
  name := name
  kind := .ordinary
  loader := none
  accessFlags := 33
  super := sup
  interfaces := #[]
  cf := none
  fields := #[]
  methods := #[]
  instanceTypes := #[]
  staticTypes := #[]
  resolved := #[]
  callSites := []
  init := .initialized
  statics := none
  mirror := none

def pool0 : Array CpInfo := pool [(5, u "<init>"), (0, u "()V"), (1, .class_ 10), (1, u "java/lang/Object")] 113

def k0m0 : Method := { name := "<init>", desc := "()V", sig := { parameters := [], returnType := none }, accessFlags := 1, code := none }
/-- java/lang/Object -/
def k0 : Class := { plain "java/lang/Object" none with
  accessFlags := 33
  interfaces := #[]
  cf := some (fileOf pool0 8 #[] #[{ accessFlags := 1, nameIndex := 5, descriptorIndex := 6, attributes := #[] }] 33 0 #[] #[])
  fields := #[]
  methods := #[k0m0]
  instanceTypes := #[]
  staticTypes := #[]
  resolved := Array.replicate 124 none
  statics := none }

def pool1 : Array CpInfo := pool [(2, .class_ 4), (1, u "java/lang/Object"), (0, u "<init>"), (0, u "()V"), (0, .integer 2147483647), (0, .fieldref 9 10), (0, .class_ 11), (0, .nameAndType 12 13), (0, u "com/example/wirekeep/wirekeep/model/FieldType$Category"), (0, u "SCALAR"), (0, u "Lcom/example/wirekeep/wirekeep/model/FieldType$Category;"), (0, .fieldref 9 15), (0, .nameAndType 16 13), (0, u "MESSAGE"), (0, .fieldref 9 18), (0, .nameAndType 19 13), (0, u "GROUP"), (0, .fieldref 9 21), (0, .nameAndType 22 13), (0, u "ENUM"), (0, .fieldref 9 24), (0, .nameAndType 25 13), (0, u "MAP"), (0, .methodref 9 27), (0, .nameAndType 28 29), (0, u "isNamed"), (0, u "()Z"), (0, .class_ 31), (0, u "com/example/wirekeep/wirekeep/model/CategoryIsNamedPinLaw"), (2, u "law"), (0, u "(I)Z")] 7

def k1m0 : Method := { name := "<init>", desc := "()V", sig := { parameters := [], returnType := none }, accessFlags := 1, code := none }
def k1c1 : Code := { maxStack := 2, maxLocals := 4, code := code, exceptionTable := #[], attributes := #[] }
def k1m1 : Method := { name := "law", desc := "(I)Z", sig := { parameters := [.int], returnType := some .boolean }, accessFlags := 9, code := some k1c1 }
/-- com/example/wirekeep/wirekeep/model/CategoryIsNamedPinLaw -/
def k1 : Class := { plain "com/example/wirekeep/wirekeep/model/CategoryIsNamedPinLaw" (some 0) with
  accessFlags := 49
  interfaces := #[]
  cf := some (fileOf pool1 30 #[] #[{ accessFlags := 1, nameIndex := 5, descriptorIndex := 6, attributes := #[] }, { accessFlags := 9, nameIndex := 34, descriptorIndex := 35, attributes := #[] }] 49 2 #[] #[])
  fields := #[]
  methods := #[k1m0, k1m1]
  instanceTypes := #[]
  staticTypes := #[]
  resolved := Array.replicate 43 none
  statics := none }

def pool2 : Array CpInfo := pool [(1, .class_ 2), (0, u "java/lang/constant/Constable"), (0, .class_ 4), (0, u "java/lang/Object")] 6

/-- java/lang/constant/Constable -/
def k2 : Class := { plain "java/lang/constant/Constable" (some 0) with
  accessFlags := 1537
  interfaces := #[]
  cf := some (fileOf pool2 1 #[] #[] 1537 3 #[] #[])
  fields := #[]
  methods := #[]
  instanceTypes := #[]
  staticTypes := #[]
  resolved := Array.replicate 11 none
  statics := none }

def pool3 : Array CpInfo := pool [(1, .class_ 2), (0, u "java/lang/Comparable"), (0, .class_ 4), (0, u "java/lang/Object")] 7

/-- java/lang/Comparable -/
def k3 : Class := { plain "java/lang/Comparable" (some 0) with
  accessFlags := 1537
  interfaces := #[]
  cf := some (fileOf pool3 1 #[] #[] 1537 3 #[] #[])
  fields := #[]
  methods := #[]
  instanceTypes := #[]
  staticTypes := #[]
  resolved := Array.replicate 12 none
  statics := none }

def pool4 : Array CpInfo := pool [(1, .class_ 2), (0, u "java/io/Serializable"), (0, .class_ 4), (0, u "java/lang/Object")] 2

/-- java/io/Serializable -/
def k4 : Class := { plain "java/io/Serializable" (some 0) with
  accessFlags := 1537
  interfaces := #[]
  cf := some (fileOf pool4 1 #[] #[] 1537 3 #[] #[])
  fields := #[]
  methods := #[]
  instanceTypes := #[]
  staticTypes := #[]
  resolved := Array.replicate 7 none
  statics := none }

def pool5 : Array CpInfo := pool [(2, .class_ 4), (1, u "java/lang/Enum"), (0, u "name"), (0, u "Ljava/lang/String;"), (2, u "ordinal"), (0, u "I"), (1, .class_ 14), (1, u "java/lang/Object"), (4, u "hash"), (86, .class_ 108), (1, u "java/lang/Enum$EnumDesc"), (2, .class_ 112), (0, u "java/lang/constant/Constable"), (0, .class_ 114), (0, u "java/lang/Comparable"), (0, .class_ 116), (0, u "java/io/Serializable")] 87

/-- java/lang/Enum -/
def k5 : Class := { plain "java/lang/Enum" (some 0) with
  accessFlags := 1057
  interfaces := #[2, 3, 4]
  cf := some (fileOf pool5 2 #[.nestMembers #[106]] #[] 1057 12 #[111, 113, 115] #[{ accessFlags := 18, nameIndex := 5, descriptorIndex := 6, attributes := #[] }, { accessFlags := 18, nameIndex := 9, descriptorIndex := 10, attributes := #[] }, { accessFlags := 2, nameIndex := 19, descriptorIndex := 10, attributes := #[] }])
  fields := #[{ name := "name", type := (.object "java/lang/String"), accessFlags := 18, slot := 0, constantValue := 0 }, { name := "ordinal", type := .int, accessFlags := 18, slot := 1, constantValue := 0 }, { name := "hash", type := .int, accessFlags := 2, slot := 2, constantValue := 0 }]
  methods := #[]
  instanceTypes := #[(.object "java/lang/String"), .int, .int]
  staticTypes := #[]
  resolved := Array.replicate 204 none
  statics := none }

def pool6 : Array CpInfo := pool [(1, .class_ 2), (0, u "com/example/wirekeep/wirekeep/model/FieldType$Category"), (2, u "SCALAR"), (0, u "Lcom/example/wirekeep/wirekeep/model/FieldType$Category;"), (0, .fieldref 1 8), (0, .nameAndType 9 6), (0, u "MESSAGE"), (0, .fieldref 1 11), (0, .nameAndType 12 6), (0, u "GROUP"), (0, .fieldref 1 14), (0, .nameAndType 15 6), (0, u "ENUM"), (2, u "MAP"), (2, u "$VALUES"), (0, u "[Lcom/example/wirekeep/wirekeep/model/FieldType$Category;"), (6, .class_ 31), (1, u "java/lang/Enum"), (23, u "isNamed"), (0, u "()Z"), (6, .class_ 64), (0, u "com/example/wirekeep/wirekeep/model/FieldType")] 2

def k6c0 : Code := { maxStack := 2, maxLocals := 1, code := prog_9_method_4_code, exceptionTable := #[], attributes := #[] }
def k6m0 : Method := { name := "isNamed", desc := "()Z", sig := { parameters := [], returnType := some .boolean }, accessFlags := 1, code := some k6c0 }
/-- com/example/wirekeep/wirekeep/model/FieldType$Category -/
def k6 : Class := { plain "com/example/wirekeep/wirekeep/model/FieldType$Category" (some 5) with
  accessFlags := 16433
  interfaces := #[]
  cf := some (fileOf pool6 1 #[.nestHost 63] #[{ accessFlags := 1, nameIndex := 55, descriptorIndex := 56, attributes := #[] }] 16433 29 #[] #[{ accessFlags := 16409, nameIndex := 5, descriptorIndex := 6, attributes := #[] }, { accessFlags := 16409, nameIndex := 9, descriptorIndex := 6, attributes := #[] }, { accessFlags := 16409, nameIndex := 12, descriptorIndex := 6, attributes := #[] }, { accessFlags := 16409, nameIndex := 15, descriptorIndex := 6, attributes := #[] }, { accessFlags := 16409, nameIndex := 18, descriptorIndex := 6, attributes := #[] }, { accessFlags := 4122, nameIndex := 21, descriptorIndex := 22, attributes := #[] }])
  fields := #[{ name := "SCALAR", type := (.object "com/example/wirekeep/wirekeep/model/FieldType$Category"), accessFlags := 16409, slot := 0, constantValue := 0 }, { name := "MESSAGE", type := (.object "com/example/wirekeep/wirekeep/model/FieldType$Category"), accessFlags := 16409, slot := 1, constantValue := 0 }, { name := "GROUP", type := (.object "com/example/wirekeep/wirekeep/model/FieldType$Category"), accessFlags := 16409, slot := 2, constantValue := 0 }, { name := "ENUM", type := (.object "com/example/wirekeep/wirekeep/model/FieldType$Category"), accessFlags := 16409, slot := 3, constantValue := 0 }, { name := "MAP", type := (.object "com/example/wirekeep/wirekeep/model/FieldType$Category"), accessFlags := 16409, slot := 4, constantValue := 0 }, { name := "$VALUES", type := (.array (.object "com/example/wirekeep/wirekeep/model/FieldType$Category")), accessFlags := 4122, slot := 5, constantValue := 0 }]
  methods := #[k6m0]
  instanceTypes := #[(.object "java/lang/String"), .int, .int]
  staticTypes := #[(.object "com/example/wirekeep/wirekeep/model/FieldType$Category"), (.object "com/example/wirekeep/wirekeep/model/FieldType$Category"), (.object "com/example/wirekeep/wirekeep/model/FieldType$Category"), (.object "com/example/wirekeep/wirekeep/model/FieldType$Category"), (.object "com/example/wirekeep/wirekeep/model/FieldType$Category"), (.array (.object "com/example/wirekeep/wirekeep/model/FieldType$Category"))]
  resolved := Array.replicate 67 none
  statics := some 0 }

def pool7 : Array CpInfo := pool [(1, u "java/lang/Cloneable"), (0, .class_ 1), (0, u "java/lang/Object"), (0, .class_ 3)] 3

/-- java/lang/Cloneable -/
def k7 : Class := { plain "java/lang/Cloneable" (some 0) with
  accessFlags := 1537
  interfaces := #[]
  cf := some (fileOf pool7 2 #[] #[] 1537 4 #[] #[])
  fields := #[]
  methods := #[]
  instanceTypes := #[]
  staticTypes := #[]
  resolved := Array.replicate 8 none
  statics := none }

/-- the primitive byte -/
def k8 : Class := { plain "byte" none with kind := .primitive 'B', accessFlags := 0x411 }
/-- [B -/
def k9 : Class := { plain "[B" (some 0) with kind := .array 8 .byte, interfaces := #[7, 4], accessFlags := 1041 }

def heap : Heap := #[{ cls := 6, slots := #[.ref 1, .ref 2, .ref 3, .ref 4, .ref 5, .null], vm := .statics 6 },
  { cls := 6, slots := #[.null, .int 0, .int 0], vm := .none },
  { cls := 6, slots := #[.null, .int 1, .int 0], vm := .none },
  { cls := 6, slots := #[.null, .int 2, .int 0], vm := .none },
  { cls := 6, slots := #[.null, .int 3, .int 0], vm := .none },
  { cls := 6, slots := #[.null, .int 4, .int 0], vm := .none }]
def classes : Array Class := #[k0, k1, k2, k3, k4, k5, k6, k7, k8, k9]
def interned : List (Array UInt16 × Addr) := []
def slotsUsed : Nat := 21
def theMethod : MethodId := ⟨1, 1⟩
def args0 : Array Value := #[.int 7]
def aboutOver (below : List Frame) : State where
  vm := { classes := classes, interned := interned.toArray }
  heap := heap
  slotsUsed := slotsUsed
  threads := #[{ frames := .invoking theMethod args0 :: below }]
def below0 : List Frame := [.native { method := ⟨0, 0⟩, args := #[] }]
def about1 : State := aboutOver below0
def p0 : Program := .bare "" "" ""
def e0 : Env := launch0.env 0 0 0
theorem w_frames : about1.frames = Frame.invoking theMethod args0 :: below0 := rfl
set_option maxRecDepth 65536 in
theorem w_args : argsFit about1.vm theMethod args0 = true := by decide +kernel
set_option maxRecDepth 65536 in
theorem w_heap : heapFits about1 = true := by decide +kernel
set_option maxRecDepth 65536 in
theorem w_runnable : about1.curStatus? = some .runnable := by decide +kernel
set_option maxRecDepth 65536 in
theorem w_alone : about1.alone = true := by decide +kernel
set_option maxRecDepth 65536 in
theorem w_named : about1.methodNamed? x = some theMethod := by decide +kernel
set_option maxRecDepth 65536 in
theorem w_hears : about1.hears theMethod below0 = true := by decide +kernel
set_option maxRecDepth 65536 in
theorem w_ripe : about1.ripe theMethod args0 below0 = true := by decide +kernel
theorem w_running : about1.status = .running := rfl
set_option maxRecDepth 65536 in
theorem w_room : about1.hasRoom e0.platform room_1 = true :=
  launch0.hasRoom_least _ room_1 (by decide +kernel) (by decide +kernel) (by decide +kernel) (by decide +kernel) (by decide +kernel) (by decide +kernel)
theorem allAtoms_all (ts : List Jvm.Cond) (a : Array Jvm.Value) (st : Jvm.State) : (allAtoms ts).before a st = ts.all (fun c => c.before a st) := by
  induction ts with
  | nil => rfl
  | cons c t ih =>
    show (Jvm.Cond.and c (allAtoms t)).before a st = _
    rw [Jvm.Cond.before_and, ih, List.all_cons]
def words1 : List Jvm.Cond := Jvm.Cond.code x code maxLocals ret :: tables_1
/-- a 'code' word, met by the world's own term for the bytes: nothing is compared byte by byte -/
theorem code_word {y : MethodName} {bytes : ByteArray} {mx : Nat} {rt : Option FieldType} {a : Array Value} {s : State} {m : MethodId} {meth : Method} {c : Code} (h1 : s.methodNamed? y = some m) (h2 : s.vm.method? m = some meth) (h3 : meth.code = some c) (h4 : c.code = bytes)
    (h5 : (c.maxLocals == mx && c.exceptionTable.isEmpty && decide (c.maxStack ≤ mostOperands) && decide (meth.sig.returnType = rt) && !meth.locks && decide (parseMethodDescriptor y.desc = some meth.sig)) = true) : (Jvm.Cond.code y bytes mx rt).before a s = true := by
  simp only [Bool.and_eq_true, beq_iff_eq, Bool.not_eq_true', decide_eq_true_eq] at h5
  obtain ⟨⟨⟨⟨⟨g1, g2⟩, g3⟩, g4⟩, g5⟩, g6⟩ := h5
  simp [Cond.before, Cond.holds, Cond.value, h1, h2, h3, h4, g1, g2, g3, g4, g5, g6]
def isCode : Jvm.Cond → Bool
  | .code _ _ _ _ => true
  | _ => false
theorem all_split {L : List Jvm.Cond} {P : Jvm.Cond → Bool} (h1 : L.all (fun c => isCode c || P c) = true) (h2 : ∀ c ∈ L.filter isCode, P c = true) : L.all P = true := by
  refine List.all_eq_true.mpr fun c hc => ?_
  have h := List.all_eq_true.mp h1 c hc
  rcases Bool.eq_false_or_eq_true (isCode c) with hi | hi
  · exact h2 c (List.mem_filter.mpr ⟨hc, hi⟩)
  · simpa [hi] using h
set_option maxRecDepth 65536 in
theorem w_c0 : (Jvm.Cond.code x code maxLocals ret).before args0 about1 = true := code_word (m := ⟨1, 1⟩) (meth := k1m1) (c := k1c1) (by decide +kernel) rfl rfl rfl (by decide +kernel)
set_option maxRecDepth 65536 in
theorem w_c1 : (Jvm.Cond.code ({ cls := "com/example/wirekeep/wirekeep/model/FieldType$Category", name := "isNamed", desc := "()Z" } : Jvm.MethodName) prog_9_method_4_code (1 : Nat) (Option.some Jvm.ClassFile.FieldType.boolean)).before args0 about1 = true := code_word (m := ⟨6, 0⟩) (meth := k6m0) (c := k6c0) (by decide +kernel) rfl rfl rfl (by decide +kernel)
def codes1 : List Jvm.Cond := [Jvm.Cond.code x code maxLocals ret, Jvm.Cond.code ({ cls := "com/example/wirekeep/wirekeep/model/FieldType$Category", name := "isNamed", desc := "()Z" } : Jvm.MethodName) prog_9_method_4_code (1 : Nat) (Option.some Jvm.ClassFile.FieldType.boolean)]
set_option maxRecDepth 65536 in
theorem codes_eq : words1.filter isCode = codes1 := rfl
theorem w_codes : ∀ c ∈ words1.filter isCode, c.before args0 about1 = true := by
  rw [codes_eq]
  intro c hc
  simp only [codes1, List.mem_cons, List.not_mem_nil, or_false] at hc
  rcases hc with rfl | rfl
  · exact w_c0
  · exact w_c1
set_option maxRecDepth 65536 in
theorem w_t1 : words1.all (fun c => isCode c || c.before args0 about1) = true := by decide +kernel
theorem w_tables : (allAtoms (Jvm.Cond.code x code maxLocals ret :: tables_1)).before args0 about1 = true := by
  rw [allAtoms_all]
  show words1.all (fun c => c.before args0 about1) = true
  refine all_split ?_ w_codes
  rw [w_t1]
set_option maxRecDepth 65536 in
theorem w_case : (Jvm.Cond.and given_1 narrow_1).before args0 about1 = true := by decide +kernel
theorem w_applies : (headSpec (Jvm.Cond.code x code maxLocals ret :: tables_1) room_1).applies x e0.platform about1 = true :=
  (Spec.applies_iff w_frames).mpr ⟨w_running, w_runnable, w_alone, w_named, w_hears, w_ripe, w_room, w_tables⟩
theorem atStart : AtStart classFile x code maxLocals ret World_1 tables_1 room_1 Calls_1 rest_1 Pre_1 launch0 p0 e0 about1 theMethod args0 below0 :=
  ⟨lists_1, trivial, launch0.admits_env _ _ _, launch0.least_env, fairChoices_fair.cas, fairChoices_fair.clock, w_frames, w_args, w_heap, w_applies, trivial, trivial, w_case⟩
end start1
theorem witness_1 : WitnessClaimed_1 := ⟨start1.p0, start1.e0, start1.about1, start1.theMethod, start1.args0, start1.below0, start1.atStart⟩
end Jvm.Pilot.@@N@@
