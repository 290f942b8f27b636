import JvmDerived
import JvmDerived.Pilot.@@N@@Statement
import JvmDerived.Pilot.@@N@@Code
set_option linter.unusedVariables false
set_option linter.unusedSimpArgs false
namespace Jvm.RoadKit
open Sem ClassFile Op Lib Jvm.Stand Jvm.Free Jvm.LawKit
section New
variable {p : Program} {l : Launch} {e : Env} {R : Room} {s : State} {m : MethodId} {args : Array Value} {below : List Frame} {meth : Method} {c : Code} {T : State} {locs : List Loc} {cells slots : Nat}
theorem retI (X : Stand p l e R s m args below meth c T locs cells slots) (hx : p.tables.exec = Jvm.exec) {pc : Nat} {Ls : Array Slot} {z : Int32} {rest : List Value} (hret : meth.sig.returnType = some .int) (hd : decode c.code pc = .ok (.ireturn, 1)) {fs : List Frame}
    (hl : ∀ (f : JFrame) (acts : List Action), f.method = m → f.locked = none → f.entered = [] → (doReturn e (T.setTop f) acts (some (.int z))).1 = T.setFrames fs) : Steps p.tables e below (T.setTop (mkF m pc Ls (.int z :: rest))) (T.setFrames fs) := by
  have hm' : T.vm.method? m = some meth := X.method'
  have hn : narrow .int (.int z) = .int z := rfl
  show Steps p.tables e below (T.setTop { method := m, pc := pc, locals := Ls, stack := _ :: rest, locked := none }) _
  jvm_step X.here [X.here.top, hx, hd, hm', hret, hn]
  first | (intro acts; rw [hl _ acts rfl rfl rfl]) | rw [hl _ _ rfl rfl rfl]
  exact Steps.refl _
end New
end Jvm.RoadKit
namespace Jvm.Pilot.@@N@@
open Jvm Jvm.ClassFile Sem Op Lib Jvm.Free Jvm.Stand Jvm.LawKit Jvm.RoadKit Bundle Jvm.Pilot.@@N@@.Jvm.D
def QR (r : Option Value) (h0 : Heap) (n0 : Nat) (v : Option Value) (h : Heap) (L : List Loc) : Prop := v = r ∧ Fr n0 L ∧ h = h0
def QL (r : Option Value) (n0 : Nat) (v : Option Value) (h : Heap) (L : List Loc) : Prop := v = r ∧ Fr n0 L
theorem own_sta {s : State} {args : Array Value} {C n d K : String} (hi : (Jvm.Cond.initialized C).before args s = true) (hl : (Jvm.Cond.laysStatic C n d).before args s = true) (hx : (Jvm.Cond.exactly (.static C n d) K).value args s none s [] = some true) :
    ∃ a, (Term.static C n d).eval args s none [] s = some (.ref a) ∧ Sta s s.heap C n d (.ref a) ∧ Exa s s.heap a K := by
  obtain ⟨a, ev⟩ := exa_v hx
  exact ⟨a, ev, Sta.start ev (Or.inr ⟨hi, hl⟩), Exa.start ev hx⟩
theorem own_fld {s : State} {args : Array Value} {t : Term} {C n d : String} {k : Int32} {a : Addr} (ev : t.eval args s none [] s = some (.ref a)) (h : (Jvm.Cond.eq (.field t C n d) (.int k)).value args s none s [] = some true) : Fld s s.heap a C n d (.int k) := by
  obtain ⟨x, y, e1, e2, k1, k2⟩ := cmp_v (Or.inl h)
  rw [Term.int_eval] at e2
  cases e2
  obtain ⟨z, rfl⟩ := k2
  have hz : z = k := by simpa [Cond.value, e1, Term.int_eval] using h
  subst hz
  exact Fld.start ((fld_at ev).symm.trans e1)
theorem own_mod (x d : Int32) (n : Int) (hd : d.toInt = n) (hn : 0 < n) : 0 ≤ (HMod.hMod (x &&& (2147483647 : Int32)) d).toInt ∧ (HMod.hMod (x &&& (2147483647 : Int32)) d).toInt < n := by
  have h1 := (c_and x 2147483647 (by decide)).1
  have h2 := (c_irem (x &&& 2147483647) d n hd).1 h1
  have h3 : (HMod.hMod (x &&& (2147483647 : Int32)) d).toInt = (x &&& 2147483647).toInt % n := h2
  rw [h3]
  exact ⟨Int.emod_nonneg _ (by omega), Int.emod_lt_of_pos _ hn⟩
theorem own_is {x : Int32} (y : Int32) (h : x.toInt = y.toInt) : x = y := Int32.toInt_inj.mp h

def Pk (k : Int32) (r n c y : Addr) : Prop := (k = 0 ∧ r = n) ∨ (¬ k = 0 ∧ k = 1 ∧ r = c) ∨ (¬ k = 0 ∧ ¬ k = 1 ∧ r = y)
def Mx (a b z : Int32) : Prop := (¬ a < b ∧ z = a) ∨ (a < b ∧ z = b)
def Orr (a b r n c y : Addr) : Prop := (a = y ∧ r = y) ∨ (¬ a = y ∧ b = y ∧ r = y) ∨ (¬ a = y ∧ ¬ b = y ∧ ¬ a = n ∧ r = c) ∨ (¬ a = y ∧ ¬ b = y ∧ a = n ∧ b = n ∧ r = n) ∨ (¬ a = y ∧ ¬ b = y ∧ a = n ∧ ¬ b = n ∧ r = c)
theorem own_three (x : Int32) : HMod.hMod (x &&& (2147483647 : Int32)) (3 : Int32) = 0 ∨ HMod.hMod (x &&& (2147483647 : Int32)) (3 : Int32) = 1 ∨ HMod.hMod (x &&& (2147483647 : Int32)) (3 : Int32) = 2 := by
  obtain ⟨h1, h2⟩ := own_mod x 3 3 (by decide) (by decide)
  have e0 : (0 : Int32).toInt = 0 := rfl
  have e1 : (1 : Int32).toInt = 1 := rfl
  have e2 : (2 : Int32).toInt = 2 := rfl
  rcases (by omega : (HMod.hMod (x &&& (2147483647 : Int32)) (3 : Int32)).toInt = 0 ∨ (HMod.hMod (x &&& (2147483647 : Int32)) (3 : Int32)).toInt = 1 ∨ (HMod.hMod (x &&& (2147483647 : Int32)) (3 : Int32)).toInt = 2) with h | h | h
  · exact Or.inl (own_is _ (h.trans e0.symm))
  · exact Or.inr (Or.inl (own_is _ (h.trans e1.symm)))
  · exact Or.inr (Or.inr (own_is _ (h.trans e2.symm)))

theorem d1_0 : decode method_2_code 0 = .ok (.iload_n 0, 1) := by decide +kernel
theorem d1_1 : decode method_2_code 1 = .ok (.ifCond .ne 7, 3) := by decide +kernel
theorem d1_4 : decode method_2_code 4 = .ok (.getstatic 7, 3) := by decide +kernel
theorem d1_7 : decode method_2_code 7 = .ok (.areturn, 1) := by decide +kernel
theorem pn_1 : plainName "com/example/vervet/vervet/tool/AllowedOrPinLaw" = true := by first | (simp [plainName, overriddenIn]; done) | decide +kernel
theorem ef_1 (m : MethodId) (x0 : Int32) : entryFrame m #[(.int x0)] 1 = mkF m 0 #[.val (.int x0)] [] := by first | (simp [entryFrame, mkF, argsToLocals, Value.category]; done) | rfl
set_option maxRecDepth 65536 in
set_option maxHeartbeats 40000000 in
theorem rm1_f (l : Launch) (Z : State) (a0 : Array Value) (hw : ∀ d ∈ tables_1, d.before a0 Z = true) (ws : List Jvm.Cond) (p1 : Int32) (w_NO : Addr) (w_CANNOT_TELL : Addr) (w_YES : Addr) (h0 : Heap) (n0 : Nat) (Z0 : n0 ≤ h0.size) (S_NO : Sta Z h0 "com/example/vervet/vervet/tool/ProcessUser$Allowed" "NO" "Lcom/example/vervet/vervet/tool/ProcessUser$Allowed;" (.ref w_NO)) (S_CANNOT_TELL : Sta Z h0 "com/example/vervet/vervet/tool/ProcessUser$Allowed" "CANNOT_TELL" "Lcom/example/vervet/vervet/tool/ProcessUser$Allowed;" (.ref w_CANNOT_TELL)) (S_YES : Sta Z h0 "com/example/vervet/vervet/tool/ProcessUser$Allowed" "YES" "Lcom/example/vervet/vervet/tool/ProcessUser$Allowed;" (.ref w_YES)) (hc1 : p1 = (0 : Int32)) :
    MetFree l (⟨"com/example/vervet/vervet/tool/AllowedOrPinLaw", "pick", "(I)Lcom/example/vervet/vervet/tool/ProcessUser$Allowed;"⟩ : MethodName) (head1 (Jvm.Cond.code (⟨"com/example/vervet/vervet/tool/AllowedOrPinLaw", "pick", "(I)Lcom/example/vervet/vervet/tool/ProcessUser$Allowed;"⟩ : MethodName) method_2_code 1 (some (.object "com/example/vervet/vervet/tool/ProcessUser$Allowed")) :: ws) ({ frames := 0, cells := 0, slots := 0, locals := 0 } : Room)) (fun a U => a = #[(.int p1)] ∧ Z.Warmed39 U.vm ∧ U.heap = h0) (fun _ _ _ _ _ => True) (fun _ U o U' => ∃ v L, o = .returned v ∧ QR (some (.ref w_NO)) h0 n0 v U'.heap L ∧ FrameEnd U o U' L ({ frames := 0, cells := 0, slots := 0, locals := 0 } : Room).cells ({ frames := 0, cells := 0, slots := 0, locals := 0 } : Room).slots) := by
  refine MetFree.of_bodySF (plainFor_of_name pn_1) hisR ?_
  intro p e s m args below meth c s₁ Bd hml0 hP hK
  obtain ⟨rfl, hZ, hh⟩ := hP
  have hx := Bd.exec
  have hby := Bd.bytes
  have hml : c.maxLocals = 1 := hml0
  have hown : s.vm.findClass "com/example/vervet/vervet/tool/AllowedOrPinLaw" = some m.cls := findClass_of_methodNamed Bd.named
  have hnm := (name_of_methodNamed Bd.named Bd.method).1
  have X0 : Stand p l e ({ frames := 0, cells := 0, slots := 0, locals := 0 } : Room) s m #[(.int p1)] below meth c s₁ [] 0 0 := Stand.of_body Bd
  have e0 : s₁.heap = h0 := by rw [← hh, Bd.state]; rfl
  have N0 := Fr.nil n0
  have pre0 : ∀ t, Steps p.tables e below (s₁.setTop (mkF m 0 #[.val (.int p1)] [])) t → Steps p.tables e below (s₁.setTop (entryFrame m #[(.int p1)] 1)) t := fun t k => castTop (ef_1 m p1) k
  obtain ⟨T2, X2, e2, st2⟩ := getS2 X0 hx hZ hown (host := "") (Or.inl (hw _ (List.mem_of_getElem? (i := 5) rfl))) Via.refl e0 S_NO (g := (mkF m 4 #[.val (.int p1)] [])) rfl (hb hby d1_4)
  obtain ⟨fs, hr, hrun, hended, hW, hsame⟩ := X2.leave (v := some (.ref w_NO)) (fun h => by rw [Bd.returns] at h; cases h)
  refine ⟨_, _, pre0 _ ?_, hrun, hended, _, _, rfl, ?_, ⟨_, rfl⟩, hW, hsame.mono (by decide) (by decide)⟩
  · show Steps p.tables e below (s₁.setTop (mkF m 0 #[.val (.int p1)] [])) _
    refine XS.iloadN X0.here hx rfl (hb hby d1_0) rfl ?_
    show Steps p.tables e below (s₁.setTop (mkF m 1 #[.val (.int p1)] [(.int p1)])) _
    refine XS.ifNo X0.here hx rfl (hb hby d1_1) rfl ((if0 _ _).trans (teq hc1).2) ?_
    show Steps p.tables e below (s₁.setTop (mkF m 4 #[.val (.int p1)] [])) _
    refine st2 _ ?_
    show Steps p.tables e below (T2.setTop (mkF m 7 #[.val (.int p1)] [(.ref w_NO)])) _
    jvm_step X2.here [X2.here.top, hx, (hb hby d1_7), X2.method', Bd.returns, Value.isRef, FieldType.isReference]
    first | (intro acts; rw [hr _ acts rfl rfl rfl]) | rw [hr _ _ rfl rfl rfl]
    exact Steps.refl _
  · show QR (some (.ref w_NO)) h0 n0 _ T2.heap _
    rw [e2]
    exact ⟨rfl, N0, rfl⟩

theorem d1_8 : decode method_2_code 8 = .ok (.iload_n 0, 1) := by decide +kernel
theorem d1_9 : decode method_2_code 9 = .ok (.iconst 1, 1) := by decide +kernel
theorem d1_10 : decode method_2_code 10 = .ok (.if_icmp .ne 7, 3) := by decide +kernel
theorem d1_13 : decode method_2_code 13 = .ok (.getstatic 13, 3) := by decide +kernel
theorem d1_16 : decode method_2_code 16 = .ok (.areturn, 1) := by decide +kernel
set_option maxRecDepth 65536 in
set_option maxHeartbeats 40000000 in
theorem rm1_tf (l : Launch) (Z : State) (a0 : Array Value) (hw : ∀ d ∈ tables_1, d.before a0 Z = true) (ws : List Jvm.Cond) (p1 : Int32) (w_NO : Addr) (w_CANNOT_TELL : Addr) (w_YES : Addr) (h0 : Heap) (n0 : Nat) (Z0 : n0 ≤ h0.size) (S_NO : Sta Z h0 "com/example/vervet/vervet/tool/ProcessUser$Allowed" "NO" "Lcom/example/vervet/vervet/tool/ProcessUser$Allowed;" (.ref w_NO)) (S_CANNOT_TELL : Sta Z h0 "com/example/vervet/vervet/tool/ProcessUser$Allowed" "CANNOT_TELL" "Lcom/example/vervet/vervet/tool/ProcessUser$Allowed;" (.ref w_CANNOT_TELL)) (S_YES : Sta Z h0 "com/example/vervet/vervet/tool/ProcessUser$Allowed" "YES" "Lcom/example/vervet/vervet/tool/ProcessUser$Allowed;" (.ref w_YES)) (hc1 : ¬ (p1 = (0 : Int32))) (hc10 : p1 = (1 : Int32)) :
    MetFree l (⟨"com/example/vervet/vervet/tool/AllowedOrPinLaw", "pick", "(I)Lcom/example/vervet/vervet/tool/ProcessUser$Allowed;"⟩ : MethodName) (head1 (Jvm.Cond.code (⟨"com/example/vervet/vervet/tool/AllowedOrPinLaw", "pick", "(I)Lcom/example/vervet/vervet/tool/ProcessUser$Allowed;"⟩ : MethodName) method_2_code 1 (some (.object "com/example/vervet/vervet/tool/ProcessUser$Allowed")) :: ws) ({ frames := 0, cells := 0, slots := 0, locals := 0 } : Room)) (fun a U => a = #[(.int p1)] ∧ Z.Warmed39 U.vm ∧ U.heap = h0) (fun _ _ _ _ _ => True) (fun _ U o U' => ∃ v L, o = .returned v ∧ QR (some (.ref w_CANNOT_TELL)) h0 n0 v U'.heap L ∧ FrameEnd U o U' L ({ frames := 0, cells := 0, slots := 0, locals := 0 } : Room).cells ({ frames := 0, cells := 0, slots := 0, locals := 0 } : Room).slots) := by
  refine MetFree.of_bodySF (plainFor_of_name pn_1) hisR ?_
  intro p e s m args below meth c s₁ Bd hml0 hP hK
  obtain ⟨rfl, hZ, hh⟩ := hP
  have hx := Bd.exec
  have hby := Bd.bytes
  have hml : c.maxLocals = 1 := hml0
  have hown : s.vm.findClass "com/example/vervet/vervet/tool/AllowedOrPinLaw" = some m.cls := findClass_of_methodNamed Bd.named
  have hnm := (name_of_methodNamed Bd.named Bd.method).1
  have X0 : Stand p l e ({ frames := 0, cells := 0, slots := 0, locals := 0 } : Room) s m #[(.int p1)] below meth c s₁ [] 0 0 := Stand.of_body Bd
  have e0 : s₁.heap = h0 := by rw [← hh, Bd.state]; rfl
  have N0 := Fr.nil n0
  have pre0 : ∀ t, Steps p.tables e below (s₁.setTop (mkF m 0 #[.val (.int p1)] [])) t → Steps p.tables e below (s₁.setTop (entryFrame m #[(.int p1)] 1)) t := fun t k => castTop (ef_1 m p1) k
  obtain ⟨T2, X2, e2, st2⟩ := getS2 X0 hx hZ hown (host := "") (Or.inl (hw _ (List.mem_of_getElem? (i := 21) rfl))) Via.refl e0 S_CANNOT_TELL (g := (mkF m 13 #[.val (.int p1)] [])) rfl (hb hby d1_13)
  obtain ⟨fs, hr, hrun, hended, hW, hsame⟩ := X2.leave (v := some (.ref w_CANNOT_TELL)) (fun h => by rw [Bd.returns] at h; cases h)
  refine ⟨_, _, pre0 _ ?_, hrun, hended, _, _, rfl, ?_, ⟨_, rfl⟩, hW, hsame.mono (by decide) (by decide)⟩
  · show Steps p.tables e below (s₁.setTop (mkF m 0 #[.val (.int p1)] [])) _
    refine XS.iloadN X0.here hx rfl (hb hby d1_0) rfl ?_
    show Steps p.tables e below (s₁.setTop (mkF m 1 #[.val (.int p1)] [(.int p1)])) _
    refine XS.ifYes X0.here hx rfl (pc0 := 1) (pc' := 8) rfl (hb hby d1_1) rfl ((if0 _ _).trans (feq hc1).2) (by decide) (by decide) ?_
    show Steps p.tables e below (s₁.setTop (mkF m 8 #[.val (.int p1)] [])) _
    refine XS.iloadN X0.here hx rfl (hb hby d1_8) rfl ?_
    show Steps p.tables e below (s₁.setTop (mkF m 9 #[.val (.int p1)] [(.int p1)])) _
    refine XS.iconst X0.here hx rfl (hb hby d1_9) ?_
    show Steps p.tables e below (s₁.setTop (mkF m 10 #[.val (.int p1)] [(.int (1 : Int32)), (.int p1)])) _
    refine XS.icmpNo X0.here hx rfl (hb hby d1_10) rfl (teq hc10).2 ?_
    show Steps p.tables e below (s₁.setTop (mkF m 13 #[.val (.int p1)] [])) _
    refine st2 _ ?_
    show Steps p.tables e below (T2.setTop (mkF m 16 #[.val (.int p1)] [(.ref w_CANNOT_TELL)])) _
    jvm_step X2.here [X2.here.top, hx, (hb hby d1_16), X2.method', Bd.returns, Value.isRef, FieldType.isReference]
    first | (intro acts; rw [hr _ acts rfl rfl rfl]) | rw [hr _ _ rfl rfl rfl]
    exact Steps.refl _
  · show QR (some (.ref w_CANNOT_TELL)) h0 n0 _ T2.heap _
    rw [e2]
    exact ⟨rfl, N0, rfl⟩

theorem d1_17 : decode method_2_code 17 = .ok (.getstatic 16, 3) := by decide +kernel
theorem d1_20 : decode method_2_code 20 = .ok (.areturn, 1) := by decide +kernel
set_option maxRecDepth 65536 in
set_option maxHeartbeats 40000000 in
theorem rm1_tt (l : Launch) (Z : State) (a0 : Array Value) (hw : ∀ d ∈ tables_1, d.before a0 Z = true) (ws : List Jvm.Cond) (p1 : Int32) (w_NO : Addr) (w_CANNOT_TELL : Addr) (w_YES : Addr) (h0 : Heap) (n0 : Nat) (Z0 : n0 ≤ h0.size) (S_NO : Sta Z h0 "com/example/vervet/vervet/tool/ProcessUser$Allowed" "NO" "Lcom/example/vervet/vervet/tool/ProcessUser$Allowed;" (.ref w_NO)) (S_CANNOT_TELL : Sta Z h0 "com/example/vervet/vervet/tool/ProcessUser$Allowed" "CANNOT_TELL" "Lcom/example/vervet/vervet/tool/ProcessUser$Allowed;" (.ref w_CANNOT_TELL)) (S_YES : Sta Z h0 "com/example/vervet/vervet/tool/ProcessUser$Allowed" "YES" "Lcom/example/vervet/vervet/tool/ProcessUser$Allowed;" (.ref w_YES)) (hc1 : ¬ (p1 = (0 : Int32))) (hc10 : ¬ (p1 = (1 : Int32))) :
    MetFree l (⟨"com/example/vervet/vervet/tool/AllowedOrPinLaw", "pick", "(I)Lcom/example/vervet/vervet/tool/ProcessUser$Allowed;"⟩ : MethodName) (head1 (Jvm.Cond.code (⟨"com/example/vervet/vervet/tool/AllowedOrPinLaw", "pick", "(I)Lcom/example/vervet/vervet/tool/ProcessUser$Allowed;"⟩ : MethodName) method_2_code 1 (some (.object "com/example/vervet/vervet/tool/ProcessUser$Allowed")) :: ws) ({ frames := 0, cells := 0, slots := 0, locals := 0 } : Room)) (fun a U => a = #[(.int p1)] ∧ Z.Warmed39 U.vm ∧ U.heap = h0) (fun _ _ _ _ _ => True) (fun _ U o U' => ∃ v L, o = .returned v ∧ QR (some (.ref w_YES)) h0 n0 v U'.heap L ∧ FrameEnd U o U' L ({ frames := 0, cells := 0, slots := 0, locals := 0 } : Room).cells ({ frames := 0, cells := 0, slots := 0, locals := 0 } : Room).slots) := by
  refine MetFree.of_bodySF (plainFor_of_name pn_1) hisR ?_
  intro p e s m args below meth c s₁ Bd hml0 hP hK
  obtain ⟨rfl, hZ, hh⟩ := hP
  have hx := Bd.exec
  have hby := Bd.bytes
  have hml : c.maxLocals = 1 := hml0
  have hown : s.vm.findClass "com/example/vervet/vervet/tool/AllowedOrPinLaw" = some m.cls := findClass_of_methodNamed Bd.named
  have hnm := (name_of_methodNamed Bd.named Bd.method).1
  have X0 : Stand p l e ({ frames := 0, cells := 0, slots := 0, locals := 0 } : Room) s m #[(.int p1)] below meth c s₁ [] 0 0 := Stand.of_body Bd
  have e0 : s₁.heap = h0 := by rw [← hh, Bd.state]; rfl
  have N0 := Fr.nil n0
  have pre0 : ∀ t, Steps p.tables e below (s₁.setTop (mkF m 0 #[.val (.int p1)] [])) t → Steps p.tables e below (s₁.setTop (entryFrame m #[(.int p1)] 1)) t := fun t k => castTop (ef_1 m p1) k
  obtain ⟨T2, X2, e2, st2⟩ := getS2 X0 hx hZ hown (host := "") (Or.inl (hw _ (List.mem_of_getElem? (i := 20) rfl))) Via.refl e0 S_YES (g := (mkF m 17 #[.val (.int p1)] [])) rfl (hb hby d1_17)
  obtain ⟨fs, hr, hrun, hended, hW, hsame⟩ := X2.leave (v := some (.ref w_YES)) (fun h => by rw [Bd.returns] at h; cases h)
  refine ⟨_, _, pre0 _ ?_, hrun, hended, _, _, rfl, ?_, ⟨_, rfl⟩, hW, hsame.mono (by decide) (by decide)⟩
  · show Steps p.tables e below (s₁.setTop (mkF m 0 #[.val (.int p1)] [])) _
    refine XS.iloadN X0.here hx rfl (hb hby d1_0) rfl ?_
    show Steps p.tables e below (s₁.setTop (mkF m 1 #[.val (.int p1)] [(.int p1)])) _
    refine XS.ifYes X0.here hx rfl (pc0 := 1) (pc' := 8) rfl (hb hby d1_1) rfl ((if0 _ _).trans (feq hc1).2) (by decide) (by decide) ?_
    show Steps p.tables e below (s₁.setTop (mkF m 8 #[.val (.int p1)] [])) _
    refine XS.iloadN X0.here hx rfl (hb hby d1_8) rfl ?_
    show Steps p.tables e below (s₁.setTop (mkF m 9 #[.val (.int p1)] [(.int p1)])) _
    refine XS.iconst X0.here hx rfl (hb hby d1_9) ?_
    show Steps p.tables e below (s₁.setTop (mkF m 10 #[.val (.int p1)] [(.int (1 : Int32)), (.int p1)])) _
    refine XS.icmpYes X0.here hx rfl (pc0 := 10) (pc' := 17) rfl (hb hby d1_10) rfl (feq hc10).2 (by decide) (by decide) ?_
    show Steps p.tables e below (s₁.setTop (mkF m 17 #[.val (.int p1)] [])) _
    refine st2 _ ?_
    show Steps p.tables e below (T2.setTop (mkF m 20 #[.val (.int p1)] [(.ref w_YES)])) _
    jvm_step X2.here [X2.here.top, hx, (hb hby d1_20), X2.method', Bd.returns, Value.isRef, FieldType.isReference]
    first | (intro acts; rw [hr _ acts rfl rfl rfl]) | rw [hr _ _ rfl rfl rfl]
    exact Steps.refl _
  · show QR (some (.ref w_YES)) h0 n0 _ T2.heap _
    rw [e2]
    exact ⟨rfl, N0, rfl⟩

theorem d2_0 : decode jdk_29_method_65_code 0 = .ok (.iload_n 0, 1) := by decide +kernel
theorem d2_1 : decode jdk_29_method_65_code 1 = .ok (.iload_n 1, 1) := by decide +kernel
theorem d2_2 : decode jdk_29_method_65_code 2 = .ok (.if_icmp .lt 7, 3) := by decide +kernel
theorem d2_5 : decode jdk_29_method_65_code 5 = .ok (.iload_n 0, 1) := by decide +kernel
theorem d2_6 : decode jdk_29_method_65_code 6 = .ok (.goto 4, 3) := by decide +kernel
theorem d2_10 : decode jdk_29_method_65_code 10 = .ok (.ireturn, 1) := by decide +kernel
theorem ef_2 (m : MethodId) (x0 : Int32) (x1 : Int32) : entryFrame m #[(.int x0), (.int x1)] 2 = mkF m 0 #[.val (.int x0), .val (.int x1)] [] := by first | (simp [entryFrame, mkF, argsToLocals, Value.category]; done) | rfl
set_option maxRecDepth 65536 in
set_option maxHeartbeats 40000000 in
theorem rm2_f (l : Launch) (Z : State) (a0 : Array Value) (hw : ∀ d ∈ tables_1, d.before a0 Z = true) (ws : List Jvm.Cond) (p1 : Int32) (p2 : Int32) (h0 : Heap) (n0 : Nat) (Z0 : n0 ≤ h0.size) (hc2 : ¬ (p1 < p2)) :
    MetFree l (⟨"java/lang/Math", "max", "(II)I"⟩ : MethodName) (head1 (Jvm.Cond.code (⟨"java/lang/Math", "max", "(II)I"⟩ : MethodName) jdk_29_method_65_code 2 (some .int) :: ws) ({ frames := 0, cells := 0, slots := 0, locals := 0 } : Room)) (fun a U => a = #[(.int p1), (.int p2)] ∧ Z.Warmed39 U.vm ∧ U.heap = h0) (fun _ _ _ _ _ => True) (fun _ U o U' => ∃ v L, o = .returned v ∧ QR (some (.int p1)) h0 n0 v U'.heap L ∧ FrameEnd U o U' L ({ frames := 0, cells := 0, slots := 0, locals := 0 } : Room).cells ({ frames := 0, cells := 0, slots := 0, locals := 0 } : Room).slots) := by
  refine MetFree.of_bodySF (Jvm.Free.JP.mathPlain rfl (by decide +kernel)) hisR ?_
  intro p e s m args below meth c s₁ Bd hml0 hP hK
  obtain ⟨rfl, hZ, hh⟩ := hP
  have hx := Bd.exec
  have hby := Bd.bytes
  have hml : c.maxLocals = 2 := hml0
  have hown : s.vm.findClass "java/lang/Math" = some m.cls := findClass_of_methodNamed Bd.named
  have hnm := (name_of_methodNamed Bd.named Bd.method).1
  have X0 : Stand p l e ({ frames := 0, cells := 0, slots := 0, locals := 0 } : Room) s m #[(.int p1), (.int p2)] below meth c s₁ [] 0 0 := Stand.of_body Bd
  have e0 : s₁.heap = h0 := by rw [← hh, Bd.state]; rfl
  have N0 := Fr.nil n0
  have pre0 : ∀ t, Steps p.tables e below (s₁.setTop (mkF m 0 #[.val (.int p1), .val (.int p2)] [])) t → Steps p.tables e below (s₁.setTop (entryFrame m #[(.int p1), (.int p2)] 2)) t := fun t k => castTop (ef_2 m p1 p2) k

  obtain ⟨fs, hr, hrun, hended, hW, hsame⟩ := X0.leave (v := some (.int p1)) (fun h => by rw [Bd.returns] at h; cases h)
  refine ⟨_, _, pre0 _ ?_, hrun, hended, _, _, rfl, ?_, ⟨_, rfl⟩, hW, hsame.mono (by decide) (by decide)⟩
  · show Steps p.tables e below (s₁.setTop (mkF m 0 #[.val (.int p1), .val (.int p2)] [])) _
    refine XS.iloadN X0.here hx rfl (hb hby d2_0) rfl ?_
    show Steps p.tables e below (s₁.setTop (mkF m 1 #[.val (.int p1), .val (.int p2)] [(.int p1)])) _
    refine XS.iloadN X0.here hx rfl (hb hby d2_1) rfl ?_
    show Steps p.tables e below (s₁.setTop (mkF m 2 #[.val (.int p1), .val (.int p2)] [(.int p2), (.int p1)])) _
    refine XS.icmpNo X0.here hx rfl (hb hby d2_2) rfl (flt hc2).1 ?_
    show Steps p.tables e below (s₁.setTop (mkF m 5 #[.val (.int p1), .val (.int p2)] [])) _
    refine XS.iloadN X0.here hx rfl (hb hby d2_5) rfl ?_
    show Steps p.tables e below (s₁.setTop (mkF m 6 #[.val (.int p1), .val (.int p2)] [(.int p1)])) _
    refine XS.goto X0.here hx rfl (pc0 := 6) (pc' := 10) rfl (hb hby d2_6) (by decide) (by decide) ?_
    show Steps p.tables e below (s₁.setTop (mkF m 10 #[.val (.int p1), .val (.int p2)] [(.int p1)])) _
    exact retI X0 hx Bd.returns (hb hby d2_10) hr      -- retI stands in the head ('lawwalk <made dir>' prints it)
  · show QR (some (.int p1)) h0 n0 _ s₁.heap _
    rw [e0]
    exact ⟨rfl, N0, rfl⟩

theorem d2_9 : decode jdk_29_method_65_code 9 = .ok (.iload_n 1, 1) := by decide +kernel
set_option maxRecDepth 65536 in
set_option maxHeartbeats 40000000 in
theorem rm2_t (l : Launch) (Z : State) (a0 : Array Value) (hw : ∀ d ∈ tables_1, d.before a0 Z = true) (ws : List Jvm.Cond) (p1 : Int32) (p2 : Int32) (h0 : Heap) (n0 : Nat) (Z0 : n0 ≤ h0.size) (hc2 : p1 < p2) :
    MetFree l (⟨"java/lang/Math", "max", "(II)I"⟩ : MethodName) (head1 (Jvm.Cond.code (⟨"java/lang/Math", "max", "(II)I"⟩ : MethodName) jdk_29_method_65_code 2 (some .int) :: ws) ({ frames := 0, cells := 0, slots := 0, locals := 0 } : Room)) (fun a U => a = #[(.int p1), (.int p2)] ∧ Z.Warmed39 U.vm ∧ U.heap = h0) (fun _ _ _ _ _ => True) (fun _ U o U' => ∃ v L, o = .returned v ∧ QR (some (.int p2)) h0 n0 v U'.heap L ∧ FrameEnd U o U' L ({ frames := 0, cells := 0, slots := 0, locals := 0 } : Room).cells ({ frames := 0, cells := 0, slots := 0, locals := 0 } : Room).slots) := by
  refine MetFree.of_bodySF (Jvm.Free.JP.mathPlain rfl (by decide +kernel)) hisR ?_
  intro p e s m args below meth c s₁ Bd hml0 hP hK
  obtain ⟨rfl, hZ, hh⟩ := hP
  have hx := Bd.exec
  have hby := Bd.bytes
  have hml : c.maxLocals = 2 := hml0
  have hown : s.vm.findClass "java/lang/Math" = some m.cls := findClass_of_methodNamed Bd.named
  have hnm := (name_of_methodNamed Bd.named Bd.method).1
  have X0 : Stand p l e ({ frames := 0, cells := 0, slots := 0, locals := 0 } : Room) s m #[(.int p1), (.int p2)] below meth c s₁ [] 0 0 := Stand.of_body Bd
  have e0 : s₁.heap = h0 := by rw [← hh, Bd.state]; rfl
  have N0 := Fr.nil n0
  have pre0 : ∀ t, Steps p.tables e below (s₁.setTop (mkF m 0 #[.val (.int p1), .val (.int p2)] [])) t → Steps p.tables e below (s₁.setTop (entryFrame m #[(.int p1), (.int p2)] 2)) t := fun t k => castTop (ef_2 m p1 p2) k

  obtain ⟨fs, hr, hrun, hended, hW, hsame⟩ := X0.leave (v := some (.int p2)) (fun h => by rw [Bd.returns] at h; cases h)
  refine ⟨_, _, pre0 _ ?_, hrun, hended, _, _, rfl, ?_, ⟨_, rfl⟩, hW, hsame.mono (by decide) (by decide)⟩
  · show Steps p.tables e below (s₁.setTop (mkF m 0 #[.val (.int p1), .val (.int p2)] [])) _
    refine XS.iloadN X0.here hx rfl (hb hby d2_0) rfl ?_
    show Steps p.tables e below (s₁.setTop (mkF m 1 #[.val (.int p1), .val (.int p2)] [(.int p1)])) _
    refine XS.iloadN X0.here hx rfl (hb hby d2_1) rfl ?_
    show Steps p.tables e below (s₁.setTop (mkF m 2 #[.val (.int p1), .val (.int p2)] [(.int p2), (.int p1)])) _
    refine XS.icmpYes X0.here hx rfl (pc0 := 2) (pc' := 9) rfl (hb hby d2_2) rfl (tlt hc2).1 (by decide) (by decide) ?_
    show Steps p.tables e below (s₁.setTop (mkF m 9 #[.val (.int p1), .val (.int p2)] [])) _
    refine XS.iloadN X0.here hx rfl (hb hby d2_9) rfl ?_
    show Steps p.tables e below (s₁.setTop (mkF m 10 #[.val (.int p1), .val (.int p2)] [(.int p2)])) _
    exact retI X0 hx Bd.returns (hb hby d2_10) hr      -- retI stands in the head ('lawwalk <made dir>' prints it)
  · show QR (some (.int p2)) h0 n0 _ s₁.heap _
    rw [e0]
    exact ⟨rfl, N0, rfl⟩

theorem d3_0 : decode prog_30_method_4_code 0 = .ok (.aload_n 0, 1) := by decide +kernel
theorem d3_1 : decode prog_30_method_4_code 1 = .ok (.getstatic 3, 3) := by decide +kernel
theorem d3_4 : decode prog_30_method_4_code 4 = .ok (.if_acmp .eq 10, 3) := by decide +kernel
theorem d3_14 : decode prog_30_method_4_code 14 = .ok (.getstatic 3, 3) := by decide +kernel
theorem d3_17 : decode prog_30_method_4_code 17 = .ok (.areturn, 1) := by decide +kernel
theorem pn_3 : plainName "com/example/vervet/vervet/tool/ProcessUser$Allowed" = true := by first | (simp [plainName, overriddenIn]; done) | decide +kernel
theorem ef_3 (m : MethodId) (x0 : Addr) (x1 : Addr) : entryFrame m #[(.ref x0), (.ref x1)] 2 = mkF m 0 #[.val (.ref x0), .val (.ref x1)] [] := by first | (simp [entryFrame, mkF, argsToLocals, Value.category]; done) | rfl
set_option maxRecDepth 65536 in
set_option maxHeartbeats 40000000 in
theorem rm3_t (l : Launch) (Z : State) (a0 : Array Value) (hw : ∀ d ∈ tables_1, d.before a0 Z = true) (ws : List Jvm.Cond) (a1 : Addr) (a2 : Addr) (w_NO : Addr) (w_CANNOT_TELL : Addr) (w_YES : Addr) (h0 : Heap) (n0 : Nat) (Z0 : n0 ≤ h0.size) (S_NO : Sta Z h0 "com/example/vervet/vervet/tool/ProcessUser$Allowed" "NO" "Lcom/example/vervet/vervet/tool/ProcessUser$Allowed;" (.ref w_NO)) (S_CANNOT_TELL : Sta Z h0 "com/example/vervet/vervet/tool/ProcessUser$Allowed" "CANNOT_TELL" "Lcom/example/vervet/vervet/tool/ProcessUser$Allowed;" (.ref w_CANNOT_TELL)) (S_YES : Sta Z h0 "com/example/vervet/vervet/tool/ProcessUser$Allowed" "YES" "Lcom/example/vervet/vervet/tool/ProcessUser$Allowed;" (.ref w_YES)) (ha4 : a1 = w_YES) :
    MetFree l (⟨"com/example/vervet/vervet/tool/ProcessUser$Allowed", "or", "(Lcom/example/vervet/vervet/tool/ProcessUser$Allowed;)Lcom/example/vervet/vervet/tool/ProcessUser$Allowed;"⟩ : MethodName) (head1 (Jvm.Cond.code (⟨"com/example/vervet/vervet/tool/ProcessUser$Allowed", "or", "(Lcom/example/vervet/vervet/tool/ProcessUser$Allowed;)Lcom/example/vervet/vervet/tool/ProcessUser$Allowed;"⟩ : MethodName) prog_30_method_4_code 2 (some (.object "com/example/vervet/vervet/tool/ProcessUser$Allowed")) :: ws) ({ frames := 0, cells := 0, slots := 0, locals := 0 } : Room)) (fun a U => a = #[(.ref a1), (.ref a2)] ∧ Z.Warmed39 U.vm ∧ U.heap = h0) (fun _ _ _ _ _ => True) (fun _ U o U' => ∃ v L, o = .returned v ∧ QR (some (.ref w_YES)) h0 n0 v U'.heap L ∧ FrameEnd U o U' L ({ frames := 0, cells := 0, slots := 0, locals := 0 } : Room).cells ({ frames := 0, cells := 0, slots := 0, locals := 0 } : Room).slots) := by
  refine MetFree.of_bodySF (plainFor_of_name pn_3) hisR ?_
  intro p e s m args below meth c s₁ Bd hml0 hP hK
  obtain ⟨rfl, hZ, hh⟩ := hP
  have hx := Bd.exec
  have hby := Bd.bytes
  have hml : c.maxLocals = 2 := hml0
  have hown : s.vm.findClass "com/example/vervet/vervet/tool/ProcessUser$Allowed" = some m.cls := findClass_of_methodNamed Bd.named
  have hnm := (name_of_methodNamed Bd.named Bd.method).1
  have X0 : Stand p l e ({ frames := 0, cells := 0, slots := 0, locals := 0 } : Room) s m #[(.ref a1), (.ref a2)] below meth c s₁ [] 0 0 := Stand.of_body Bd
  have e0 : s₁.heap = h0 := by rw [← hh, Bd.state]; rfl
  have N0 := Fr.nil n0
  have pre0 : ∀ t, Steps p.tables e below (s₁.setTop (mkF m 0 #[.val (.ref a1), .val (.ref a2)] [])) t → Steps p.tables e below (s₁.setTop (entryFrame m #[(.ref a1), (.ref a2)] 2)) t := fun t k => castTop (ef_3 m a1 a2) k
  obtain ⟨T3, X3, e3, st3⟩ := getS2 X0 hx hZ hown (host := "") (Or.inl (hw _ (List.mem_of_getElem? (i := 17) rfl))) Via.refl e0 S_YES (g := (mkF m 1 #[.val (.ref a1), .val (.ref a2)] [(.ref a1)])) rfl (hb hby d3_1)
  obtain ⟨T4, X4, e4, st4⟩ := getS2 X3 hx hZ hown (host := "") (Or.inl (hw _ (List.mem_of_getElem? (i := 17) rfl))) Via.refl e3 S_YES (g := (mkF m 14 #[.val (.ref a1), .val (.ref a2)] [])) rfl (hb hby d3_14)
  obtain ⟨fs, hr, hrun, hended, hW, hsame⟩ := X4.leave (v := some (.ref w_YES)) (fun h => by rw [Bd.returns] at h; cases h)
  refine ⟨_, _, pre0 _ ?_, hrun, hended, _, _, rfl, ?_, ⟨_, rfl⟩, hW, hsame.mono (by decide) (by decide)⟩
  · show Steps p.tables e below (s₁.setTop (mkF m 0 #[.val (.ref a1), .val (.ref a2)] [])) _
    refine XS.aloadN X0.here hx rfl (hb hby d3_0) rfl rfl ?_
    show Steps p.tables e below (s₁.setTop (mkF m 1 #[.val (.ref a1), .val (.ref a2)] [(.ref a1)])) _
    refine st3 _ ?_
    show Steps p.tables e below (T3.setTop (mkF m 4 #[.val (.ref a1), .val (.ref a2)] [(.ref w_YES), (.ref a1)])) _
    refine Jvm.RoadKit.acmp (g := (mkF m 4 #[.val (.ref a1), .val (.ref a2)] [(.ref w_YES), (.ref a1)])) X3 hx rfl rfl rfl (pc0 := 4) (pc' := 14) (same := true) rfl (hb hby d3_4) rfl (decide_eq_true (congrArg Value.ref ha4)) (by decide) (by decide) ?_
    show Steps p.tables e below (T3.setTop (mkF m 14 #[.val (.ref a1), .val (.ref a2)] [])) _
    refine st4 _ ?_
    show Steps p.tables e below (T4.setTop (mkF m 17 #[.val (.ref a1), .val (.ref a2)] [(.ref w_YES)])) _
    jvm_step X4.here [X4.here.top, hx, (hb hby d3_17), X4.method', Bd.returns, Value.isRef, FieldType.isReference]
    first | (intro acts; rw [hr _ acts rfl rfl rfl]) | rw [hr _ _ rfl rfl rfl]
    exact Steps.refl _
  · show QR (some (.ref w_YES)) h0 n0 _ T4.heap _
    rw [e4]
    exact ⟨rfl, N0, rfl⟩

theorem d3_7 : decode prog_30_method_4_code 7 = .ok (.aload_n 1, 1) := by decide +kernel
theorem d3_8 : decode prog_30_method_4_code 8 = .ok (.getstatic 3, 3) := by decide +kernel
theorem d3_11 : decode prog_30_method_4_code 11 = .ok (.if_acmp .ne 7, 3) := by decide +kernel
set_option maxRecDepth 65536 in
set_option maxHeartbeats 40000000 in
theorem rm3_ff (l : Launch) (Z : State) (a0 : Array Value) (hw : ∀ d ∈ tables_1, d.before a0 Z = true) (ws : List Jvm.Cond) (a1 : Addr) (a2 : Addr) (w_NO : Addr) (w_CANNOT_TELL : Addr) (w_YES : Addr) (h0 : Heap) (n0 : Nat) (Z0 : n0 ≤ h0.size) (S_NO : Sta Z h0 "com/example/vervet/vervet/tool/ProcessUser$Allowed" "NO" "Lcom/example/vervet/vervet/tool/ProcessUser$Allowed;" (.ref w_NO)) (S_CANNOT_TELL : Sta Z h0 "com/example/vervet/vervet/tool/ProcessUser$Allowed" "CANNOT_TELL" "Lcom/example/vervet/vervet/tool/ProcessUser$Allowed;" (.ref w_CANNOT_TELL)) (S_YES : Sta Z h0 "com/example/vervet/vervet/tool/ProcessUser$Allowed" "YES" "Lcom/example/vervet/vervet/tool/ProcessUser$Allowed;" (.ref w_YES)) (ha4 : ¬ (a1 = w_YES)) (ha11 : a2 = w_YES) :
    MetFree l (⟨"com/example/vervet/vervet/tool/ProcessUser$Allowed", "or", "(Lcom/example/vervet/vervet/tool/ProcessUser$Allowed;)Lcom/example/vervet/vervet/tool/ProcessUser$Allowed;"⟩ : MethodName) (head1 (Jvm.Cond.code (⟨"com/example/vervet/vervet/tool/ProcessUser$Allowed", "or", "(Lcom/example/vervet/vervet/tool/ProcessUser$Allowed;)Lcom/example/vervet/vervet/tool/ProcessUser$Allowed;"⟩ : MethodName) prog_30_method_4_code 2 (some (.object "com/example/vervet/vervet/tool/ProcessUser$Allowed")) :: ws) ({ frames := 0, cells := 0, slots := 0, locals := 0 } : Room)) (fun a U => a = #[(.ref a1), (.ref a2)] ∧ Z.Warmed39 U.vm ∧ U.heap = h0) (fun _ _ _ _ _ => True) (fun _ U o U' => ∃ v L, o = .returned v ∧ QR (some (.ref w_YES)) h0 n0 v U'.heap L ∧ FrameEnd U o U' L ({ frames := 0, cells := 0, slots := 0, locals := 0 } : Room).cells ({ frames := 0, cells := 0, slots := 0, locals := 0 } : Room).slots) := by
  refine MetFree.of_bodySF (plainFor_of_name pn_3) hisR ?_
  intro p e s m args below meth c s₁ Bd hml0 hP hK
  obtain ⟨rfl, hZ, hh⟩ := hP
  have hx := Bd.exec
  have hby := Bd.bytes
  have hml : c.maxLocals = 2 := hml0
  have hown : s.vm.findClass "com/example/vervet/vervet/tool/ProcessUser$Allowed" = some m.cls := findClass_of_methodNamed Bd.named
  have hnm := (name_of_methodNamed Bd.named Bd.method).1
  have X0 : Stand p l e ({ frames := 0, cells := 0, slots := 0, locals := 0 } : Room) s m #[(.ref a1), (.ref a2)] below meth c s₁ [] 0 0 := Stand.of_body Bd
  have e0 : s₁.heap = h0 := by rw [← hh, Bd.state]; rfl
  have N0 := Fr.nil n0
  have pre0 : ∀ t, Steps p.tables e below (s₁.setTop (mkF m 0 #[.val (.ref a1), .val (.ref a2)] [])) t → Steps p.tables e below (s₁.setTop (entryFrame m #[(.ref a1), (.ref a2)] 2)) t := fun t k => castTop (ef_3 m a1 a2) k
  obtain ⟨T3, X3, e3, st3⟩ := getS2 X0 hx hZ hown (host := "") (Or.inl (hw _ (List.mem_of_getElem? (i := 17) rfl))) Via.refl e0 S_YES (g := (mkF m 1 #[.val (.ref a1), .val (.ref a2)] [(.ref a1)])) rfl (hb hby d3_1)
  obtain ⟨T4, X4, e4, st4⟩ := getS2 X3 hx hZ hown (host := "") (Or.inl (hw _ (List.mem_of_getElem? (i := 17) rfl))) Via.refl e3 S_YES (g := (mkF m 8 #[.val (.ref a1), .val (.ref a2)] [(.ref a2)])) rfl (hb hby d3_8)
  obtain ⟨T5, X5, e5, st5⟩ := getS2 X4 hx hZ hown (host := "") (Or.inl (hw _ (List.mem_of_getElem? (i := 17) rfl))) Via.refl e4 S_YES (g := (mkF m 14 #[.val (.ref a1), .val (.ref a2)] [])) rfl (hb hby d3_14)
  obtain ⟨fs, hr, hrun, hended, hW, hsame⟩ := X5.leave (v := some (.ref w_YES)) (fun h => by rw [Bd.returns] at h; cases h)
  refine ⟨_, _, pre0 _ ?_, hrun, hended, _, _, rfl, ?_, ⟨_, rfl⟩, hW, hsame.mono (by decide) (by decide)⟩
  · show Steps p.tables e below (s₁.setTop (mkF m 0 #[.val (.ref a1), .val (.ref a2)] [])) _
    refine XS.aloadN X0.here hx rfl (hb hby d3_0) rfl rfl ?_
    show Steps p.tables e below (s₁.setTop (mkF m 1 #[.val (.ref a1), .val (.ref a2)] [(.ref a1)])) _
    refine st3 _ ?_
    show Steps p.tables e below (T3.setTop (mkF m 4 #[.val (.ref a1), .val (.ref a2)] [(.ref w_YES), (.ref a1)])) _
    refine Jvm.RoadKit.acmp (g := (mkF m 4 #[.val (.ref a1), .val (.ref a2)] [(.ref w_YES), (.ref a1)])) X3 hx rfl rfl rfl (pc0 := 4) (pc' := 7) (same := false) rfl (hb hby d3_4) rfl (decide_eq_false fun q => ha4 (Value.ref.inj q)) (by decide) (by decide) ?_
    show Steps p.tables e below (T3.setTop (mkF m 7 #[.val (.ref a1), .val (.ref a2)] [])) _
    refine XS.aloadN X3.here hx rfl (hb hby d3_7) rfl rfl ?_
    show Steps p.tables e below (T3.setTop (mkF m 8 #[.val (.ref a1), .val (.ref a2)] [(.ref a2)])) _
    refine st4 _ ?_
    show Steps p.tables e below (T4.setTop (mkF m 11 #[.val (.ref a1), .val (.ref a2)] [(.ref w_YES), (.ref a2)])) _
    refine Jvm.RoadKit.acmp (g := (mkF m 11 #[.val (.ref a1), .val (.ref a2)] [(.ref w_YES), (.ref a2)])) X4 hx rfl rfl rfl (pc0 := 11) (pc' := 14) (same := true) rfl (hb hby d3_11) rfl (decide_eq_true (congrArg Value.ref ha11)) (by decide) (by decide) ?_
    show Steps p.tables e below (T4.setTop (mkF m 14 #[.val (.ref a1), .val (.ref a2)] [])) _
    refine st5 _ ?_
    show Steps p.tables e below (T5.setTop (mkF m 17 #[.val (.ref a1), .val (.ref a2)] [(.ref w_YES)])) _
    jvm_step X5.here [X5.here.top, hx, (hb hby d3_17), X5.method', Bd.returns, Value.isRef, FieldType.isReference]
    first | (intro acts; rw [hr _ acts rfl rfl rfl]) | rw [hr _ _ rfl rfl rfl]
    exact Steps.refl _
  · show QR (some (.ref w_YES)) h0 n0 _ T5.heap _
    rw [e5]
    exact ⟨rfl, N0, rfl⟩

theorem d3_18 : decode prog_30_method_4_code 18 = .ok (.aload_n 0, 1) := by decide +kernel
theorem d3_19 : decode prog_30_method_4_code 19 = .ok (.getstatic 7, 3) := by decide +kernel
theorem d3_22 : decode prog_30_method_4_code 22 = .ok (.if_acmp .ne 16, 3) := by decide +kernel
theorem d3_38 : decode prog_30_method_4_code 38 = .ok (.getstatic 10, 3) := by decide +kernel
theorem d3_41 : decode prog_30_method_4_code 41 = .ok (.areturn, 1) := by decide +kernel
set_option maxRecDepth 65536 in
set_option maxHeartbeats 40000000 in
theorem rm3_ftt (l : Launch) (Z : State) (a0 : Array Value) (hw : ∀ d ∈ tables_1, d.before a0 Z = true) (ws : List Jvm.Cond) (a1 : Addr) (a2 : Addr) (w_NO : Addr) (w_CANNOT_TELL : Addr) (w_YES : Addr) (h0 : Heap) (n0 : Nat) (Z0 : n0 ≤ h0.size) (S_NO : Sta Z h0 "com/example/vervet/vervet/tool/ProcessUser$Allowed" "NO" "Lcom/example/vervet/vervet/tool/ProcessUser$Allowed;" (.ref w_NO)) (S_CANNOT_TELL : Sta Z h0 "com/example/vervet/vervet/tool/ProcessUser$Allowed" "CANNOT_TELL" "Lcom/example/vervet/vervet/tool/ProcessUser$Allowed;" (.ref w_CANNOT_TELL)) (S_YES : Sta Z h0 "com/example/vervet/vervet/tool/ProcessUser$Allowed" "YES" "Lcom/example/vervet/vervet/tool/ProcessUser$Allowed;" (.ref w_YES)) (ha4 : ¬ (a1 = w_YES)) (ha11 : ¬ (a2 = w_YES)) (ha22 : ¬ (a1 = w_NO)) :
    MetFree l (⟨"com/example/vervet/vervet/tool/ProcessUser$Allowed", "or", "(Lcom/example/vervet/vervet/tool/ProcessUser$Allowed;)Lcom/example/vervet/vervet/tool/ProcessUser$Allowed;"⟩ : MethodName) (head1 (Jvm.Cond.code (⟨"com/example/vervet/vervet/tool/ProcessUser$Allowed", "or", "(Lcom/example/vervet/vervet/tool/ProcessUser$Allowed;)Lcom/example/vervet/vervet/tool/ProcessUser$Allowed;"⟩ : MethodName) prog_30_method_4_code 2 (some (.object "com/example/vervet/vervet/tool/ProcessUser$Allowed")) :: ws) ({ frames := 0, cells := 0, slots := 0, locals := 0 } : Room)) (fun a U => a = #[(.ref a1), (.ref a2)] ∧ Z.Warmed39 U.vm ∧ U.heap = h0) (fun _ _ _ _ _ => True) (fun _ U o U' => ∃ v L, o = .returned v ∧ QR (some (.ref w_CANNOT_TELL)) h0 n0 v U'.heap L ∧ FrameEnd U o U' L ({ frames := 0, cells := 0, slots := 0, locals := 0 } : Room).cells ({ frames := 0, cells := 0, slots := 0, locals := 0 } : Room).slots) := by
  refine MetFree.of_bodySF (plainFor_of_name pn_3) hisR ?_
  intro p e s m args below meth c s₁ Bd hml0 hP hK
  obtain ⟨rfl, hZ, hh⟩ := hP
  have hx := Bd.exec
  have hby := Bd.bytes
  have hml : c.maxLocals = 2 := hml0
  have hown : s.vm.findClass "com/example/vervet/vervet/tool/ProcessUser$Allowed" = some m.cls := findClass_of_methodNamed Bd.named
  have hnm := (name_of_methodNamed Bd.named Bd.method).1
  have X0 : Stand p l e ({ frames := 0, cells := 0, slots := 0, locals := 0 } : Room) s m #[(.ref a1), (.ref a2)] below meth c s₁ [] 0 0 := Stand.of_body Bd
  have e0 : s₁.heap = h0 := by rw [← hh, Bd.state]; rfl
  have N0 := Fr.nil n0
  have pre0 : ∀ t, Steps p.tables e below (s₁.setTop (mkF m 0 #[.val (.ref a1), .val (.ref a2)] [])) t → Steps p.tables e below (s₁.setTop (entryFrame m #[(.ref a1), (.ref a2)] 2)) t := fun t k => castTop (ef_3 m a1 a2) k
  obtain ⟨T3, X3, e3, st3⟩ := getS2 X0 hx hZ hown (host := "") (Or.inl (hw _ (List.mem_of_getElem? (i := 17) rfl))) Via.refl e0 S_YES (g := (mkF m 1 #[.val (.ref a1), .val (.ref a2)] [(.ref a1)])) rfl (hb hby d3_1)
  obtain ⟨T4, X4, e4, st4⟩ := getS2 X3 hx hZ hown (host := "") (Or.inl (hw _ (List.mem_of_getElem? (i := 17) rfl))) Via.refl e3 S_YES (g := (mkF m 8 #[.val (.ref a1), .val (.ref a2)] [(.ref a2)])) rfl (hb hby d3_8)
  obtain ⟨T5, X5, e5, st5⟩ := getS2 X4 hx hZ hown (host := "") (Or.inl (hw _ (List.mem_of_getElem? (i := 19) rfl))) Via.refl e4 S_NO (g := (mkF m 19 #[.val (.ref a1), .val (.ref a2)] [(.ref a1)])) rfl (hb hby d3_19)
  obtain ⟨T6, X6, e6, st6⟩ := getS2 X5 hx hZ hown (host := "") (Or.inl (hw _ (List.mem_of_getElem? (i := 23) rfl))) Via.refl e5 S_CANNOT_TELL (g := (mkF m 38 #[.val (.ref a1), .val (.ref a2)] [])) rfl (hb hby d3_38)
  obtain ⟨fs, hr, hrun, hended, hW, hsame⟩ := X6.leave (v := some (.ref w_CANNOT_TELL)) (fun h => by rw [Bd.returns] at h; cases h)
  refine ⟨_, _, pre0 _ ?_, hrun, hended, _, _, rfl, ?_, ⟨_, rfl⟩, hW, hsame.mono (by decide) (by decide)⟩
  · show Steps p.tables e below (s₁.setTop (mkF m 0 #[.val (.ref a1), .val (.ref a2)] [])) _
    refine XS.aloadN X0.here hx rfl (hb hby d3_0) rfl rfl ?_
    show Steps p.tables e below (s₁.setTop (mkF m 1 #[.val (.ref a1), .val (.ref a2)] [(.ref a1)])) _
    refine st3 _ ?_
    show Steps p.tables e below (T3.setTop (mkF m 4 #[.val (.ref a1), .val (.ref a2)] [(.ref w_YES), (.ref a1)])) _
    refine Jvm.RoadKit.acmp (g := (mkF m 4 #[.val (.ref a1), .val (.ref a2)] [(.ref w_YES), (.ref a1)])) X3 hx rfl rfl rfl (pc0 := 4) (pc' := 7) (same := false) rfl (hb hby d3_4) rfl (decide_eq_false fun q => ha4 (Value.ref.inj q)) (by decide) (by decide) ?_
    show Steps p.tables e below (T3.setTop (mkF m 7 #[.val (.ref a1), .val (.ref a2)] [])) _
    refine XS.aloadN X3.here hx rfl (hb hby d3_7) rfl rfl ?_
    show Steps p.tables e below (T3.setTop (mkF m 8 #[.val (.ref a1), .val (.ref a2)] [(.ref a2)])) _
    refine st4 _ ?_
    show Steps p.tables e below (T4.setTop (mkF m 11 #[.val (.ref a1), .val (.ref a2)] [(.ref w_YES), (.ref a2)])) _
    refine Jvm.RoadKit.acmp (g := (mkF m 11 #[.val (.ref a1), .val (.ref a2)] [(.ref w_YES), (.ref a2)])) X4 hx rfl rfl rfl (pc0 := 11) (pc' := 18) (same := false) rfl (hb hby d3_11) rfl (decide_eq_false fun q => ha11 (Value.ref.inj q)) (by decide) (by decide) ?_
    show Steps p.tables e below (T4.setTop (mkF m 18 #[.val (.ref a1), .val (.ref a2)] [])) _
    refine XS.aloadN X4.here hx rfl (hb hby d3_18) rfl rfl ?_
    show Steps p.tables e below (T4.setTop (mkF m 19 #[.val (.ref a1), .val (.ref a2)] [(.ref a1)])) _
    refine st5 _ ?_
    show Steps p.tables e below (T5.setTop (mkF m 22 #[.val (.ref a1), .val (.ref a2)] [(.ref w_NO), (.ref a1)])) _
    refine Jvm.RoadKit.acmp (g := (mkF m 22 #[.val (.ref a1), .val (.ref a2)] [(.ref w_NO), (.ref a1)])) X5 hx rfl rfl rfl (pc0 := 22) (pc' := 38) (same := false) rfl (hb hby d3_22) rfl (decide_eq_false fun q => ha22 (Value.ref.inj q)) (by decide) (by decide) ?_
    show Steps p.tables e below (T5.setTop (mkF m 38 #[.val (.ref a1), .val (.ref a2)] [])) _
    refine st6 _ ?_
    show Steps p.tables e below (T6.setTop (mkF m 41 #[.val (.ref a1), .val (.ref a2)] [(.ref w_CANNOT_TELL)])) _
    jvm_step X6.here [X6.here.top, hx, (hb hby d3_41), X6.method', Bd.returns, Value.isRef, FieldType.isReference]
    first | (intro acts; rw [hr _ acts rfl rfl rfl]) | rw [hr _ _ rfl rfl rfl]
    exact Steps.refl _
  · show QR (some (.ref w_CANNOT_TELL)) h0 n0 _ T6.heap _
    rw [e6]
    exact ⟨rfl, N0, rfl⟩

theorem d3_25 : decode prog_30_method_4_code 25 = .ok (.aload_n 1, 1) := by decide +kernel
theorem d3_26 : decode prog_30_method_4_code 26 = .ok (.getstatic 7, 3) := by decide +kernel
theorem d3_29 : decode prog_30_method_4_code 29 = .ok (.if_acmp .ne 9, 3) := by decide +kernel
theorem d3_32 : decode prog_30_method_4_code 32 = .ok (.getstatic 7, 3) := by decide +kernel
theorem d3_35 : decode prog_30_method_4_code 35 = .ok (.goto 6, 3) := by decide +kernel
set_option maxRecDepth 65536 in
set_option maxHeartbeats 40000000 in
theorem rm3_ftff (l : Launch) (Z : State) (a0 : Array Value) (hw : ∀ d ∈ tables_1, d.before a0 Z = true) (ws : List Jvm.Cond) (a1 : Addr) (a2 : Addr) (w_NO : Addr) (w_CANNOT_TELL : Addr) (w_YES : Addr) (h0 : Heap) (n0 : Nat) (Z0 : n0 ≤ h0.size) (S_NO : Sta Z h0 "com/example/vervet/vervet/tool/ProcessUser$Allowed" "NO" "Lcom/example/vervet/vervet/tool/ProcessUser$Allowed;" (.ref w_NO)) (S_CANNOT_TELL : Sta Z h0 "com/example/vervet/vervet/tool/ProcessUser$Allowed" "CANNOT_TELL" "Lcom/example/vervet/vervet/tool/ProcessUser$Allowed;" (.ref w_CANNOT_TELL)) (S_YES : Sta Z h0 "com/example/vervet/vervet/tool/ProcessUser$Allowed" "YES" "Lcom/example/vervet/vervet/tool/ProcessUser$Allowed;" (.ref w_YES)) (ha4 : ¬ (a1 = w_YES)) (ha11 : ¬ (a2 = w_YES)) (ha22 : a1 = w_NO) (ha29 : a2 = w_NO) :
    MetFree l (⟨"com/example/vervet/vervet/tool/ProcessUser$Allowed", "or", "(Lcom/example/vervet/vervet/tool/ProcessUser$Allowed;)Lcom/example/vervet/vervet/tool/ProcessUser$Allowed;"⟩ : MethodName) (head1 (Jvm.Cond.code (⟨"com/example/vervet/vervet/tool/ProcessUser$Allowed", "or", "(Lcom/example/vervet/vervet/tool/ProcessUser$Allowed;)Lcom/example/vervet/vervet/tool/ProcessUser$Allowed;"⟩ : MethodName) prog_30_method_4_code 2 (some (.object "com/example/vervet/vervet/tool/ProcessUser$Allowed")) :: ws) ({ frames := 0, cells := 0, slots := 0, locals := 0 } : Room)) (fun a U => a = #[(.ref a1), (.ref a2)] ∧ Z.Warmed39 U.vm ∧ U.heap = h0) (fun _ _ _ _ _ => True) (fun _ U o U' => ∃ v L, o = .returned v ∧ QR (some (.ref w_NO)) h0 n0 v U'.heap L ∧ FrameEnd U o U' L ({ frames := 0, cells := 0, slots := 0, locals := 0 } : Room).cells ({ frames := 0, cells := 0, slots := 0, locals := 0 } : Room).slots) := by
  refine MetFree.of_bodySF (plainFor_of_name pn_3) hisR ?_
  intro p e s m args below meth c s₁ Bd hml0 hP hK
  obtain ⟨rfl, hZ, hh⟩ := hP
  have hx := Bd.exec
  have hby := Bd.bytes
  have hml : c.maxLocals = 2 := hml0
  have hown : s.vm.findClass "com/example/vervet/vervet/tool/ProcessUser$Allowed" = some m.cls := findClass_of_methodNamed Bd.named
  have hnm := (name_of_methodNamed Bd.named Bd.method).1
  have X0 : Stand p l e ({ frames := 0, cells := 0, slots := 0, locals := 0 } : Room) s m #[(.ref a1), (.ref a2)] below meth c s₁ [] 0 0 := Stand.of_body Bd
  have e0 : s₁.heap = h0 := by rw [← hh, Bd.state]; rfl
  have N0 := Fr.nil n0
  have pre0 : ∀ t, Steps p.tables e below (s₁.setTop (mkF m 0 #[.val (.ref a1), .val (.ref a2)] [])) t → Steps p.tables e below (s₁.setTop (entryFrame m #[(.ref a1), (.ref a2)] 2)) t := fun t k => castTop (ef_3 m a1 a2) k
  obtain ⟨T3, X3, e3, st3⟩ := getS2 X0 hx hZ hown (host := "") (Or.inl (hw _ (List.mem_of_getElem? (i := 17) rfl))) Via.refl e0 S_YES (g := (mkF m 1 #[.val (.ref a1), .val (.ref a2)] [(.ref a1)])) rfl (hb hby d3_1)
  obtain ⟨T4, X4, e4, st4⟩ := getS2 X3 hx hZ hown (host := "") (Or.inl (hw _ (List.mem_of_getElem? (i := 17) rfl))) Via.refl e3 S_YES (g := (mkF m 8 #[.val (.ref a1), .val (.ref a2)] [(.ref a2)])) rfl (hb hby d3_8)
  obtain ⟨T5, X5, e5, st5⟩ := getS2 X4 hx hZ hown (host := "") (Or.inl (hw _ (List.mem_of_getElem? (i := 19) rfl))) Via.refl e4 S_NO (g := (mkF m 19 #[.val (.ref a1), .val (.ref a2)] [(.ref a1)])) rfl (hb hby d3_19)
  obtain ⟨T6, X6, e6, st6⟩ := getS2 X5 hx hZ hown (host := "") (Or.inl (hw _ (List.mem_of_getElem? (i := 19) rfl))) Via.refl e5 S_NO (g := (mkF m 26 #[.val (.ref a1), .val (.ref a2)] [(.ref a2)])) rfl (hb hby d3_26)
  obtain ⟨T7, X7, e7, st7⟩ := getS2 X6 hx hZ hown (host := "") (Or.inl (hw _ (List.mem_of_getElem? (i := 19) rfl))) Via.refl e6 S_NO (g := (mkF m 32 #[.val (.ref a1), .val (.ref a2)] [])) rfl (hb hby d3_32)
  obtain ⟨fs, hr, hrun, hended, hW, hsame⟩ := X7.leave (v := some (.ref w_NO)) (fun h => by rw [Bd.returns] at h; cases h)
  refine ⟨_, _, pre0 _ ?_, hrun, hended, _, _, rfl, ?_, ⟨_, rfl⟩, hW, hsame.mono (by decide) (by decide)⟩
  · show Steps p.tables e below (s₁.setTop (mkF m 0 #[.val (.ref a1), .val (.ref a2)] [])) _
    refine XS.aloadN X0.here hx rfl (hb hby d3_0) rfl rfl ?_
    show Steps p.tables e below (s₁.setTop (mkF m 1 #[.val (.ref a1), .val (.ref a2)] [(.ref a1)])) _
    refine st3 _ ?_
    show Steps p.tables e below (T3.setTop (mkF m 4 #[.val (.ref a1), .val (.ref a2)] [(.ref w_YES), (.ref a1)])) _
    refine Jvm.RoadKit.acmp (g := (mkF m 4 #[.val (.ref a1), .val (.ref a2)] [(.ref w_YES), (.ref a1)])) X3 hx rfl rfl rfl (pc0 := 4) (pc' := 7) (same := false) rfl (hb hby d3_4) rfl (decide_eq_false fun q => ha4 (Value.ref.inj q)) (by decide) (by decide) ?_
    show Steps p.tables e below (T3.setTop (mkF m 7 #[.val (.ref a1), .val (.ref a2)] [])) _
    refine XS.aloadN X3.here hx rfl (hb hby d3_7) rfl rfl ?_
    show Steps p.tables e below (T3.setTop (mkF m 8 #[.val (.ref a1), .val (.ref a2)] [(.ref a2)])) _
    refine st4 _ ?_
    show Steps p.tables e below (T4.setTop (mkF m 11 #[.val (.ref a1), .val (.ref a2)] [(.ref w_YES), (.ref a2)])) _
    refine Jvm.RoadKit.acmp (g := (mkF m 11 #[.val (.ref a1), .val (.ref a2)] [(.ref w_YES), (.ref a2)])) X4 hx rfl rfl rfl (pc0 := 11) (pc' := 18) (same := false) rfl (hb hby d3_11) rfl (decide_eq_false fun q => ha11 (Value.ref.inj q)) (by decide) (by decide) ?_
    show Steps p.tables e below (T4.setTop (mkF m 18 #[.val (.ref a1), .val (.ref a2)] [])) _
    refine XS.aloadN X4.here hx rfl (hb hby d3_18) rfl rfl ?_
    show Steps p.tables e below (T4.setTop (mkF m 19 #[.val (.ref a1), .val (.ref a2)] [(.ref a1)])) _
    refine st5 _ ?_
    show Steps p.tables e below (T5.setTop (mkF m 22 #[.val (.ref a1), .val (.ref a2)] [(.ref w_NO), (.ref a1)])) _
    refine Jvm.RoadKit.acmp (g := (mkF m 22 #[.val (.ref a1), .val (.ref a2)] [(.ref w_NO), (.ref a1)])) X5 hx rfl rfl rfl (pc0 := 22) (pc' := 25) (same := true) rfl (hb hby d3_22) rfl (decide_eq_true (congrArg Value.ref ha22)) (by decide) (by decide) ?_
    show Steps p.tables e below (T5.setTop (mkF m 25 #[.val (.ref a1), .val (.ref a2)] [])) _
    refine XS.aloadN X5.here hx rfl (hb hby d3_25) rfl rfl ?_
    show Steps p.tables e below (T5.setTop (mkF m 26 #[.val (.ref a1), .val (.ref a2)] [(.ref a2)])) _
    refine st6 _ ?_
    show Steps p.tables e below (T6.setTop (mkF m 29 #[.val (.ref a1), .val (.ref a2)] [(.ref w_NO), (.ref a2)])) _
    refine Jvm.RoadKit.acmp (g := (mkF m 29 #[.val (.ref a1), .val (.ref a2)] [(.ref w_NO), (.ref a2)])) X6 hx rfl rfl rfl (pc0 := 29) (pc' := 32) (same := true) rfl (hb hby d3_29) rfl (decide_eq_true (congrArg Value.ref ha29)) (by decide) (by decide) ?_
    show Steps p.tables e below (T6.setTop (mkF m 32 #[.val (.ref a1), .val (.ref a2)] [])) _
    refine st7 _ ?_
    show Steps p.tables e below (T7.setTop (mkF m 35 #[.val (.ref a1), .val (.ref a2)] [(.ref w_NO)])) _
    refine XS.goto X7.here hx rfl (pc0 := 35) (pc' := 41) rfl (hb hby d3_35) (by decide) (by decide) ?_
    show Steps p.tables e below (T7.setTop (mkF m 41 #[.val (.ref a1), .val (.ref a2)] [(.ref w_NO)])) _
    jvm_step X7.here [X7.here.top, hx, (hb hby d3_41), X7.method', Bd.returns, Value.isRef, FieldType.isReference]
    first | (intro acts; rw [hr _ acts rfl rfl rfl]) | rw [hr _ _ rfl rfl rfl]
    exact Steps.refl _
  · show QR (some (.ref w_NO)) h0 n0 _ T7.heap _
    rw [e7]
    exact ⟨rfl, N0, rfl⟩

set_option maxRecDepth 65536 in
set_option maxHeartbeats 40000000 in
theorem rm3_ftft (l : Launch) (Z : State) (a0 : Array Value) (hw : ∀ d ∈ tables_1, d.before a0 Z = true) (ws : List Jvm.Cond) (a1 : Addr) (a2 : Addr) (w_NO : Addr) (w_CANNOT_TELL : Addr) (w_YES : Addr) (h0 : Heap) (n0 : Nat) (Z0 : n0 ≤ h0.size) (S_NO : Sta Z h0 "com/example/vervet/vervet/tool/ProcessUser$Allowed" "NO" "Lcom/example/vervet/vervet/tool/ProcessUser$Allowed;" (.ref w_NO)) (S_CANNOT_TELL : Sta Z h0 "com/example/vervet/vervet/tool/ProcessUser$Allowed" "CANNOT_TELL" "Lcom/example/vervet/vervet/tool/ProcessUser$Allowed;" (.ref w_CANNOT_TELL)) (S_YES : Sta Z h0 "com/example/vervet/vervet/tool/ProcessUser$Allowed" "YES" "Lcom/example/vervet/vervet/tool/ProcessUser$Allowed;" (.ref w_YES)) (ha4 : ¬ (a1 = w_YES)) (ha11 : ¬ (a2 = w_YES)) (ha22 : a1 = w_NO) (ha29 : ¬ (a2 = w_NO)) :
    MetFree l (⟨"com/example/vervet/vervet/tool/ProcessUser$Allowed", "or", "(Lcom/example/vervet/vervet/tool/ProcessUser$Allowed;)Lcom/example/vervet/vervet/tool/ProcessUser$Allowed;"⟩ : MethodName) (head1 (Jvm.Cond.code (⟨"com/example/vervet/vervet/tool/ProcessUser$Allowed", "or", "(Lcom/example/vervet/vervet/tool/ProcessUser$Allowed;)Lcom/example/vervet/vervet/tool/ProcessUser$Allowed;"⟩ : MethodName) prog_30_method_4_code 2 (some (.object "com/example/vervet/vervet/tool/ProcessUser$Allowed")) :: ws) ({ frames := 0, cells := 0, slots := 0, locals := 0 } : Room)) (fun a U => a = #[(.ref a1), (.ref a2)] ∧ Z.Warmed39 U.vm ∧ U.heap = h0) (fun _ _ _ _ _ => True) (fun _ U o U' => ∃ v L, o = .returned v ∧ QR (some (.ref w_CANNOT_TELL)) h0 n0 v U'.heap L ∧ FrameEnd U o U' L ({ frames := 0, cells := 0, slots := 0, locals := 0 } : Room).cells ({ frames := 0, cells := 0, slots := 0, locals := 0 } : Room).slots) := by
  refine MetFree.of_bodySF (plainFor_of_name pn_3) hisR ?_
  intro p e s m args below meth c s₁ Bd hml0 hP hK
  obtain ⟨rfl, hZ, hh⟩ := hP
  have hx := Bd.exec
  have hby := Bd.bytes
  have hml : c.maxLocals = 2 := hml0
  have hown : s.vm.findClass "com/example/vervet/vervet/tool/ProcessUser$Allowed" = some m.cls := findClass_of_methodNamed Bd.named
  have hnm := (name_of_methodNamed Bd.named Bd.method).1
  have X0 : Stand p l e ({ frames := 0, cells := 0, slots := 0, locals := 0 } : Room) s m #[(.ref a1), (.ref a2)] below meth c s₁ [] 0 0 := Stand.of_body Bd
  have e0 : s₁.heap = h0 := by rw [← hh, Bd.state]; rfl
  have N0 := Fr.nil n0
  have pre0 : ∀ t, Steps p.tables e below (s₁.setTop (mkF m 0 #[.val (.ref a1), .val (.ref a2)] [])) t → Steps p.tables e below (s₁.setTop (entryFrame m #[(.ref a1), (.ref a2)] 2)) t := fun t k => castTop (ef_3 m a1 a2) k
  obtain ⟨T3, X3, e3, st3⟩ := getS2 X0 hx hZ hown (host := "") (Or.inl (hw _ (List.mem_of_getElem? (i := 17) rfl))) Via.refl e0 S_YES (g := (mkF m 1 #[.val (.ref a1), .val (.ref a2)] [(.ref a1)])) rfl (hb hby d3_1)
  obtain ⟨T4, X4, e4, st4⟩ := getS2 X3 hx hZ hown (host := "") (Or.inl (hw _ (List.mem_of_getElem? (i := 17) rfl))) Via.refl e3 S_YES (g := (mkF m 8 #[.val (.ref a1), .val (.ref a2)] [(.ref a2)])) rfl (hb hby d3_8)
  obtain ⟨T5, X5, e5, st5⟩ := getS2 X4 hx hZ hown (host := "") (Or.inl (hw _ (List.mem_of_getElem? (i := 19) rfl))) Via.refl e4 S_NO (g := (mkF m 19 #[.val (.ref a1), .val (.ref a2)] [(.ref a1)])) rfl (hb hby d3_19)
  obtain ⟨T6, X6, e6, st6⟩ := getS2 X5 hx hZ hown (host := "") (Or.inl (hw _ (List.mem_of_getElem? (i := 19) rfl))) Via.refl e5 S_NO (g := (mkF m 26 #[.val (.ref a1), .val (.ref a2)] [(.ref a2)])) rfl (hb hby d3_26)
  obtain ⟨T7, X7, e7, st7⟩ := getS2 X6 hx hZ hown (host := "") (Or.inl (hw _ (List.mem_of_getElem? (i := 23) rfl))) Via.refl e6 S_CANNOT_TELL (g := (mkF m 38 #[.val (.ref a1), .val (.ref a2)] [])) rfl (hb hby d3_38)
  obtain ⟨fs, hr, hrun, hended, hW, hsame⟩ := X7.leave (v := some (.ref w_CANNOT_TELL)) (fun h => by rw [Bd.returns] at h; cases h)
  refine ⟨_, _, pre0 _ ?_, hrun, hended, _, _, rfl, ?_, ⟨_, rfl⟩, hW, hsame.mono (by decide) (by decide)⟩
  · show Steps p.tables e below (s₁.setTop (mkF m 0 #[.val (.ref a1), .val (.ref a2)] [])) _
    refine XS.aloadN X0.here hx rfl (hb hby d3_0) rfl rfl ?_
    show Steps p.tables e below (s₁.setTop (mkF m 1 #[.val (.ref a1), .val (.ref a2)] [(.ref a1)])) _
    refine st3 _ ?_
    show Steps p.tables e below (T3.setTop (mkF m 4 #[.val (.ref a1), .val (.ref a2)] [(.ref w_YES), (.ref a1)])) _
    refine Jvm.RoadKit.acmp (g := (mkF m 4 #[.val (.ref a1), .val (.ref a2)] [(.ref w_YES), (.ref a1)])) X3 hx rfl rfl rfl (pc0 := 4) (pc' := 7) (same := false) rfl (hb hby d3_4) rfl (decide_eq_false fun q => ha4 (Value.ref.inj q)) (by decide) (by decide) ?_
    show Steps p.tables e below (T3.setTop (mkF m 7 #[.val (.ref a1), .val (.ref a2)] [])) _
    refine XS.aloadN X3.here hx rfl (hb hby d3_7) rfl rfl ?_
    show Steps p.tables e below (T3.setTop (mkF m 8 #[.val (.ref a1), .val (.ref a2)] [(.ref a2)])) _
    refine st4 _ ?_
    show Steps p.tables e below (T4.setTop (mkF m 11 #[.val (.ref a1), .val (.ref a2)] [(.ref w_YES), (.ref a2)])) _
    refine Jvm.RoadKit.acmp (g := (mkF m 11 #[.val (.ref a1), .val (.ref a2)] [(.ref w_YES), (.ref a2)])) X4 hx rfl rfl rfl (pc0 := 11) (pc' := 18) (same := false) rfl (hb hby d3_11) rfl (decide_eq_false fun q => ha11 (Value.ref.inj q)) (by decide) (by decide) ?_
    show Steps p.tables e below (T4.setTop (mkF m 18 #[.val (.ref a1), .val (.ref a2)] [])) _
    refine XS.aloadN X4.here hx rfl (hb hby d3_18) rfl rfl ?_
    show Steps p.tables e below (T4.setTop (mkF m 19 #[.val (.ref a1), .val (.ref a2)] [(.ref a1)])) _
    refine st5 _ ?_
    show Steps p.tables e below (T5.setTop (mkF m 22 #[.val (.ref a1), .val (.ref a2)] [(.ref w_NO), (.ref a1)])) _
    refine Jvm.RoadKit.acmp (g := (mkF m 22 #[.val (.ref a1), .val (.ref a2)] [(.ref w_NO), (.ref a1)])) X5 hx rfl rfl rfl (pc0 := 22) (pc' := 25) (same := true) rfl (hb hby d3_22) rfl (decide_eq_true (congrArg Value.ref ha22)) (by decide) (by decide) ?_
    show Steps p.tables e below (T5.setTop (mkF m 25 #[.val (.ref a1), .val (.ref a2)] [])) _
    refine XS.aloadN X5.here hx rfl (hb hby d3_25) rfl rfl ?_
    show Steps p.tables e below (T5.setTop (mkF m 26 #[.val (.ref a1), .val (.ref a2)] [(.ref a2)])) _
    refine st6 _ ?_
    show Steps p.tables e below (T6.setTop (mkF m 29 #[.val (.ref a1), .val (.ref a2)] [(.ref w_NO), (.ref a2)])) _
    refine Jvm.RoadKit.acmp (g := (mkF m 29 #[.val (.ref a1), .val (.ref a2)] [(.ref w_NO), (.ref a2)])) X6 hx rfl rfl rfl (pc0 := 29) (pc' := 38) (same := false) rfl (hb hby d3_29) rfl (decide_eq_false fun q => ha29 (Value.ref.inj q)) (by decide) (by decide) ?_
    show Steps p.tables e below (T6.setTop (mkF m 38 #[.val (.ref a1), .val (.ref a2)] [])) _
    refine st7 _ ?_
    show Steps p.tables e below (T7.setTop (mkF m 41 #[.val (.ref a1), .val (.ref a2)] [(.ref w_CANNOT_TELL)])) _
    jvm_step X7.here [X7.here.top, hx, (hb hby d3_41), X7.method', Bd.returns, Value.isRef, FieldType.isReference]
    first | (intro acts; rw [hr _ acts rfl rfl rfl]) | rw [hr _ _ rfl rfl rfl]
    exact Steps.refl _
  · show QR (some (.ref w_CANNOT_TELL)) h0 n0 _ T7.heap _
    rw [e7]
    exact ⟨rfl, N0, rfl⟩

theorem rm1 (l : Launch) (Z : State) (a0 : Array Value) (hw : ∀ d ∈ tables_1, d.before a0 Z = true) (ws : List Jvm.Cond) (p1 : Int32) (w_NO : Addr) (w_CANNOT_TELL : Addr) (w_YES : Addr) (r : Addr) (h0 : Heap) (n0 : Nat) (Z0 : n0 ≤ h0.size) (S_NO : Sta Z h0 "com/example/vervet/vervet/tool/ProcessUser$Allowed" "NO" "Lcom/example/vervet/vervet/tool/ProcessUser$Allowed;" (.ref w_NO)) (S_CANNOT_TELL : Sta Z h0 "com/example/vervet/vervet/tool/ProcessUser$Allowed" "CANNOT_TELL" "Lcom/example/vervet/vervet/tool/ProcessUser$Allowed;" (.ref w_CANNOT_TELL)) (S_YES : Sta Z h0 "com/example/vervet/vervet/tool/ProcessUser$Allowed" "YES" "Lcom/example/vervet/vervet/tool/ProcessUser$Allowed;" (.ref w_YES)) (hr : Pk p1 r w_NO w_CANNOT_TELL w_YES) :
    MetFree l (⟨"com/example/vervet/vervet/tool/AllowedOrPinLaw", "pick", "(I)Lcom/example/vervet/vervet/tool/ProcessUser$Allowed;"⟩ : MethodName) (head1 (Jvm.Cond.code (⟨"com/example/vervet/vervet/tool/AllowedOrPinLaw", "pick", "(I)Lcom/example/vervet/vervet/tool/ProcessUser$Allowed;"⟩ : MethodName) method_2_code 1 (some (.object "com/example/vervet/vervet/tool/ProcessUser$Allowed")) :: ws) ({ frames := 0, cells := 0, slots := 0, locals := 0 } : Room)) (fun a U => a = #[(.int p1)] ∧ Z.Warmed39 U.vm ∧ U.heap = h0) (fun _ _ _ _ _ => True) (fun _ U o U' => ∃ v L, o = .returned v ∧ QR (some (.ref r)) h0 n0 v U'.heap L ∧ FrameEnd U o U' L ({ frames := 0, cells := 0, slots := 0, locals := 0 } : Room).cells ({ frames := 0, cells := 0, slots := 0, locals := 0 } : Room).slots) := by
  rcases hr with ⟨h1, h3⟩ | ⟨h1, h2, h3⟩ | ⟨h1, h2, h3⟩
  · rw [h3]; exact rm1_f l Z a0 hw ws p1 w_NO w_CANNOT_TELL w_YES h0 n0 Z0 S_NO S_CANNOT_TELL S_YES h1
  · rw [h3]; exact rm1_tf l Z a0 hw ws p1 w_NO w_CANNOT_TELL w_YES h0 n0 Z0 S_NO S_CANNOT_TELL S_YES h1 h2
  · rw [h3]; exact rm1_tt l Z a0 hw ws p1 w_NO w_CANNOT_TELL w_YES h0 n0 Z0 S_NO S_CANNOT_TELL S_YES h1 h2

theorem rm2 (l : Launch) (Z : State) (a0 : Array Value) (hw : ∀ d ∈ tables_1, d.before a0 Z = true) (ws : List Jvm.Cond) (p1 : Int32) (p2 : Int32) (z : Int32) (h0 : Heap) (n0 : Nat) (Z0 : n0 ≤ h0.size) (hz : Mx p1 p2 z) :
    MetFree l (⟨"java/lang/Math", "max", "(II)I"⟩ : MethodName) (head1 (Jvm.Cond.code (⟨"java/lang/Math", "max", "(II)I"⟩ : MethodName) jdk_29_method_65_code 2 (some .int) :: ws) ({ frames := 0, cells := 0, slots := 0, locals := 0 } : Room)) (fun a U => a = #[(.int p1), (.int p2)] ∧ Z.Warmed39 U.vm ∧ U.heap = h0) (fun _ _ _ _ _ => True) (fun _ U o U' => ∃ v L, o = .returned v ∧ QR (some (.int z)) h0 n0 v U'.heap L ∧ FrameEnd U o U' L ({ frames := 0, cells := 0, slots := 0, locals := 0 } : Room).cells ({ frames := 0, cells := 0, slots := 0, locals := 0 } : Room).slots) := by
  rcases hz with ⟨h1, h2⟩ | ⟨h1, h2⟩
  · rw [h2]; exact rm2_f l Z a0 hw ws p1 p2 h0 n0 Z0 h1
  · rw [h2]; exact rm2_t l Z a0 hw ws p1 p2 h0 n0 Z0 h1

theorem rm3 (l : Launch) (Z : State) (a0 : Array Value) (hw : ∀ d ∈ tables_1, d.before a0 Z = true) (ws : List Jvm.Cond) (a1 : Addr) (a2 : Addr) (w_NO : Addr) (w_CANNOT_TELL : Addr) (w_YES : Addr) (r : Addr) (h0 : Heap) (n0 : Nat) (Z0 : n0 ≤ h0.size) (S_NO : Sta Z h0 "com/example/vervet/vervet/tool/ProcessUser$Allowed" "NO" "Lcom/example/vervet/vervet/tool/ProcessUser$Allowed;" (.ref w_NO)) (S_CANNOT_TELL : Sta Z h0 "com/example/vervet/vervet/tool/ProcessUser$Allowed" "CANNOT_TELL" "Lcom/example/vervet/vervet/tool/ProcessUser$Allowed;" (.ref w_CANNOT_TELL)) (S_YES : Sta Z h0 "com/example/vervet/vervet/tool/ProcessUser$Allowed" "YES" "Lcom/example/vervet/vervet/tool/ProcessUser$Allowed;" (.ref w_YES)) (hr : Orr a1 a2 r w_NO w_CANNOT_TELL w_YES) :
    MetFree l (⟨"com/example/vervet/vervet/tool/ProcessUser$Allowed", "or", "(Lcom/example/vervet/vervet/tool/ProcessUser$Allowed;)Lcom/example/vervet/vervet/tool/ProcessUser$Allowed;"⟩ : MethodName) (head1 (Jvm.Cond.code (⟨"com/example/vervet/vervet/tool/ProcessUser$Allowed", "or", "(Lcom/example/vervet/vervet/tool/ProcessUser$Allowed;)Lcom/example/vervet/vervet/tool/ProcessUser$Allowed;"⟩ : MethodName) prog_30_method_4_code 2 (some (.object "com/example/vervet/vervet/tool/ProcessUser$Allowed")) :: ws) ({ frames := 0, cells := 0, slots := 0, locals := 0 } : Room)) (fun a U => a = #[(.ref a1), (.ref a2)] ∧ Z.Warmed39 U.vm ∧ U.heap = h0) (fun _ _ _ _ _ => True) (fun _ U o U' => ∃ v L, o = .returned v ∧ QR (some (.ref r)) h0 n0 v U'.heap L ∧ FrameEnd U o U' L ({ frames := 0, cells := 0, slots := 0, locals := 0 } : Room).cells ({ frames := 0, cells := 0, slots := 0, locals := 0 } : Room).slots) := by
  rcases hr with ⟨h1, h2⟩ | ⟨h1, h2, h3⟩ | ⟨h1, h2, h3, h4⟩ | ⟨h1, h2, h3, h4, h5⟩ | ⟨h1, h2, h3, h4, h5⟩
  · rw [h2]; exact rm3_t l Z a0 hw ws a1 a2 w_NO w_CANNOT_TELL w_YES h0 n0 Z0 S_NO S_CANNOT_TELL S_YES h1
  · rw [h3]; exact rm3_ff l Z a0 hw ws a1 a2 w_NO w_CANNOT_TELL w_YES h0 n0 Z0 S_NO S_CANNOT_TELL S_YES h1 h2
  · rw [h4]; exact rm3_ftt l Z a0 hw ws a1 a2 w_NO w_CANNOT_TELL w_YES h0 n0 Z0 S_NO S_CANNOT_TELL S_YES h1 h2 h3
  · rw [h5]; exact rm3_ftff l Z a0 hw ws a1 a2 w_NO w_CANNOT_TELL w_YES h0 n0 Z0 S_NO S_CANNOT_TELL S_YES h1 h2 h3 h4
  · rw [h5]; exact rm3_ftft l Z a0 hw ws a1 a2 w_NO w_CANNOT_TELL w_YES h0 n0 Z0 S_NO S_CANNOT_TELL S_YES h1 h2 h3 h4

theorem pn_0 : plainName "com/example/vervet/vervet/tool/AllowedOrPinLaw" = true := by first | (simp [plainName, overriddenIn]; done) | decide +kernel
theorem pd_0_0 : parseMethodDescriptor "(I)Lcom/example/vervet/vervet/tool/ProcessUser$Allowed;" = some ⟨[.int], some (.object "com/example/vervet/vervet/tool/ProcessUser$Allowed")⟩ := by decide +kernel
theorem pd_0_1 : parseMethodDescriptor "(II)I" = some ⟨[.int, .int], some .int⟩ := by decide +kernel
theorem pd_0_2 : parseMethodDescriptor "(Lcom/example/vervet/vervet/tool/ProcessUser$Allowed;)Lcom/example/vervet/vervet/tool/ProcessUser$Allowed;" = some ⟨[(.object "com/example/vervet/vervet/tool/ProcessUser$Allowed")], some (.object "com/example/vervet/vervet/tool/ProcessUser$Allowed")⟩ := by decide +kernel
theorem ef_0 (m : MethodId) (x0 : Int32) (x1 : Int32) : entryFrame m #[(.int x0), (.int x1)] maxLocals = mkF m 0 #[.val (.int x0), .val (.int x1), .unset, .unset, .unset, .unset, .unset, .unset] [] := by first | (simp [entryFrame, mkF, argsToLocals, Value.category, maxLocals]; done) | rfl
set_option maxRecDepth 65536 in
set_option maxHeartbeats 40000000 in
theorem rm0_f (l : Launch) (Z : State) (a0 : Array Value) (hw : ∀ d ∈ tables_1, d.before a0 Z = true) (ws : List Jvm.Cond) (p1 : Int32) (p2 : Int32) (w_NO : Addr) (w_CANNOT_TELL : Addr) (w_YES : Addr) (r3 : Addr) (r4 : Addr) (r6 : Addr) (z : Int32) (h0 : Heap) (n0 : Nat) (Z0 : n0 ≤ h0.size) (S_NO : Sta Z h0 "com/example/vervet/vervet/tool/ProcessUser$Allowed" "NO" "Lcom/example/vervet/vervet/tool/ProcessUser$Allowed;" (.ref w_NO)) (S_CANNOT_TELL : Sta Z h0 "com/example/vervet/vervet/tool/ProcessUser$Allowed" "CANNOT_TELL" "Lcom/example/vervet/vervet/tool/ProcessUser$Allowed;" (.ref w_CANNOT_TELL)) (S_YES : Sta Z h0 "com/example/vervet/vervet/tool/ProcessUser$Allowed" "YES" "Lcom/example/vervet/vervet/tool/ProcessUser$Allowed;" (.ref w_YES)) (hP3 : Pk (HMod.hMod (p1 &&& (2147483647 : Int32)) (3 : Int32)) r3 w_NO w_CANNOT_TELL w_YES) (hP4 : Pk (HMod.hMod (p2 &&& (2147483647 : Int32)) (3 : Int32)) r4 w_NO w_CANNOT_TELL w_YES) (hz : Mx (HMod.hMod (p1 &&& (2147483647 : Int32)) (3 : Int32)) (HMod.hMod (p2 &&& (2147483647 : Int32)) (3 : Int32)) z) (hP6 : Pk z r6 w_NO w_CANNOT_TELL w_YES) (hO : Orr r3 r4 r6 w_NO w_CANNOT_TELL w_YES) (E_r3 : Exa Z h0 r3 "com/example/vervet/vervet/tool/ProcessUser$Allowed") :
    MetFree l x (head1 (Jvm.Cond.code x code maxLocals ret :: ws) room_1) (fun a U => a = #[(.int p1), (.int p2)] ∧ Z.Warmed39 U.vm ∧ U.heap = h0) (fun _ _ _ _ _ => True) (fun _ U o U' => ∃ v L, o = .returned v ∧ QR (some (.int (1 : Int32))) h0 n0 v U'.heap L ∧ FrameEnd U o U' L room_1.cells room_1.slots) := by
  refine MetFree.of_bodySF (plainFor_of_name pn_0) hisR ?_
  intro p e s m args below meth c s₁ Bd hml0 hP hK
  obtain ⟨rfl, hZ, hh⟩ := hP
  have hx := Bd.exec
  have hby := Bd.bytes
  have hml : c.maxLocals = 8 := hml0
  have hown : s.vm.findClass "com/example/vervet/vervet/tool/AllowedOrPinLaw" = some m.cls := findClass_of_methodNamed Bd.named
  have hnm := (name_of_methodNamed Bd.named Bd.method).1
  have X0 : Stand p l e room_1 s m #[(.int p1), (.int p2)] below meth c s₁ [] 0 0 := Stand.of_body Bd
  have e0 : s₁.heap = h0 := by rw [← hh, Bd.state]; rfl
  have N0 := Fr.nil n0
  have pre0 : ∀ t, Steps p.tables e below (s₁.setTop (mkF m 0 #[.val (.int p1), .val (.int p2), .unset, .unset, .unset, .unset, .unset, .unset] [])) t → Steps p.tables e below (s₁.setTop (entryFrame m #[(.int p1), (.int p2)] maxLocals)) t := fun t k => castTop (ef_0 m p1 p2) k
  obtain ⟨_, _, ⟨T3, L3, k3, n3⟩, -, X3, ⟨Lc3, hQ3, l3, y3, z3⟩, st3⟩ := Jvm.LawKit.callS X0 hx (y := (⟨"com/example/vervet/vervet/tool/AllowedOrPinLaw", "pick", "(I)Lcom/example/vervet/vervet/tool/ProcessUser$Allowed;"⟩ : MethodName)) hown (mvT hZ (hw _ (List.mem_of_getElem? (i := 1) rfl))) (mvT hZ (hw _ (List.mem_of_getElem? (i := 2) rfl))) (mvT hZ (hw _ (List.mem_of_getElem? (i := 3) rfl))) (mvT hZ (hw _ (List.mem_of_getElem? (i := 4) rfl))) (by decide) (backOf (W := 0) (rm1 l Z a0 hw [] ((HMod.hMod (p1 &&& (2147483647 : Int32)) (3 : Int32))) w_NO w_CANNOT_TELL w_YES r3 h0 n0 Z0 S_NO S_CANNOT_TELL S_YES hP3) hZ (hw _ (List.mem_of_getElem? (i := 4) rfl)) (hw _ (List.mem_of_getElem? (i := 3) rfl)) (by decide) (by decide)) (g := (mkF m 15 #[.val (.int p1), .val (.int p2), .val (.int (HMod.hMod (p1 &&& (2147483647 : Int32)) (3 : Int32))), .val (.int (HMod.hMod (p2 &&& (2147483647 : Int32)) (3 : Int32))), .unset, .unset, .unset, .unset] [(.int (HMod.hMod (p1 &&& (2147483647 : Int32)) (3 : Int32)))])) rfl (by rw [hml]; rfl) (argsL := [(.int (HMod.hMod (p1 &&& (2147483647 : Int32)) (3 : Int32)))]) (rest := []) (lenOf pd_0_0 rfl) rfl (by show 2 * 0 + _ ≤ _; exact Nat.le_of_eq rfl) (hb hby at_15) (fun _ _ => ⟨rfl, e0, (by decide : 0 + 0 ≤ _), (by decide : 0 + 0 ≤ _)⟩)
  dsimp only [Pt.U, Pt.locs, Pt.cells, Pt.slots] at X3 l3 y3 z3 st3 hQ3
  subst l3 y3 z3
  obtain ⟨rfl, N3q, eq3⟩ := hQ3
  have N3 := Fr.app N0 N3q
  obtain ⟨_, _, ⟨T4, L4, k4, n4⟩, -, X4, ⟨Lc4, hQ4, l4, y4, z4⟩, st4⟩ := Jvm.LawKit.callS X3 hx (y := (⟨"com/example/vervet/vervet/tool/AllowedOrPinLaw", "pick", "(I)Lcom/example/vervet/vervet/tool/ProcessUser$Allowed;"⟩ : MethodName)) hown (mvT hZ (hw _ (List.mem_of_getElem? (i := 1) rfl))) (mvT hZ (hw _ (List.mem_of_getElem? (i := 2) rfl))) (mvT hZ (hw _ (List.mem_of_getElem? (i := 3) rfl))) (mvT hZ (hw _ (List.mem_of_getElem? (i := 4) rfl))) (by decide) (backOf (W := 0) (rm1 l Z a0 hw [] ((HMod.hMod (p2 &&& (2147483647 : Int32)) (3 : Int32))) w_NO w_CANNOT_TELL w_YES r4 h0 n0 Z0 S_NO S_CANNOT_TELL S_YES hP4) hZ (hw _ (List.mem_of_getElem? (i := 4) rfl)) (hw _ (List.mem_of_getElem? (i := 3) rfl)) (by decide) (by decide)) (g := (mkF m 21 #[.val (.int p1), .val (.int p2), .val (.int (HMod.hMod (p1 &&& (2147483647 : Int32)) (3 : Int32))), .val (.int (HMod.hMod (p2 &&& (2147483647 : Int32)) (3 : Int32))), .val (.ref r3), .unset, .unset, .unset] [(.int (HMod.hMod (p2 &&& (2147483647 : Int32)) (3 : Int32)))])) rfl (by rw [hml]; rfl) (argsL := [(.int (HMod.hMod (p2 &&& (2147483647 : Int32)) (3 : Int32)))]) (rest := []) (lenOf pd_0_0 rfl) rfl (by show 2 * 0 + _ ≤ _; exact Nat.le_of_eq rfl) (hb hby at_21) (fun _ _ => ⟨rfl, eq3, (by decide : 0 + 0 ≤ _), (by decide : 0 + 0 ≤ _)⟩)
  dsimp only [Pt.U, Pt.locs, Pt.cells, Pt.slots] at X4 l4 y4 z4 st4 hQ4
  subst l4 y4 z4
  obtain ⟨rfl, N4q, eq4⟩ := hQ4
  have N4 := Fr.app N3 N4q
  obtain ⟨_, _, ⟨T5, L5, k5, n5⟩, -, X5, ⟨Lc5, hQ5, l5, y5, z5⟩, st5⟩ := Jvm.LawKit.callS X4 hx (y := (⟨"java/lang/Math", "max", "(II)I"⟩ : MethodName)) hown (mvT hZ (hw _ (List.mem_of_getElem? (i := 8) rfl))) (mvT hZ (hw _ (List.mem_of_getElem? (i := 9) rfl))) (mvT hZ (hw _ (List.mem_of_getElem? (i := 10) rfl))) (mvT hZ (hw _ (List.mem_of_getElem? (i := 11) rfl))) (by decide) (backOf (W := 0) (rm2 l Z a0 hw [] ((HMod.hMod (p1 &&& (2147483647 : Int32)) (3 : Int32))) ((HMod.hMod (p2 &&& (2147483647 : Int32)) (3 : Int32))) z h0 n0 Z0 hz) hZ (hw _ (List.mem_of_getElem? (i := 11) rfl)) (hw _ (List.mem_of_getElem? (i := 10) rfl)) (by decide) (by decide)) (g := (mkF m 28 #[.val (.int p1), .val (.int p2), .val (.int (HMod.hMod (p1 &&& (2147483647 : Int32)) (3 : Int32))), .val (.int (HMod.hMod (p2 &&& (2147483647 : Int32)) (3 : Int32))), .val (.ref r3), .val (.ref r4), .unset, .unset] [(.int (HMod.hMod (p2 &&& (2147483647 : Int32)) (3 : Int32))), (.int (HMod.hMod (p1 &&& (2147483647 : Int32)) (3 : Int32)))])) rfl (by rw [hml]; rfl) (argsL := [(.int (HMod.hMod (p1 &&& (2147483647 : Int32)) (3 : Int32))), (.int (HMod.hMod (p2 &&& (2147483647 : Int32)) (3 : Int32)))]) (rest := []) (lenOf pd_0_1 rfl) rfl (by show 2 * 0 + _ ≤ _; exact Nat.le_of_eq rfl) (hb hby at_28) (fun _ _ => ⟨rfl, eq4, (by decide : 0 + 0 ≤ _), (by decide : 0 + 0 ≤ _)⟩)
  dsimp only [Pt.U, Pt.locs, Pt.cells, Pt.slots] at X5 l5 y5 z5 st5 hQ5
  subst l5 y5 z5
  obtain ⟨rfl, N5q, eq5⟩ := hQ5
  have N5 := Fr.app N4 N5q
  obtain ⟨_, _, ⟨T6, L6, k6, n6⟩, -, X6, ⟨Lc6, hQ6, l6, y6, z6⟩, st6⟩ := Jvm.LawKit.callS X5 hx (y := (⟨"com/example/vervet/vervet/tool/AllowedOrPinLaw", "pick", "(I)Lcom/example/vervet/vervet/tool/ProcessUser$Allowed;"⟩ : MethodName)) hown (mvT hZ (hw _ (List.mem_of_getElem? (i := 1) rfl))) (mvT hZ (hw _ (List.mem_of_getElem? (i := 2) rfl))) (mvT hZ (hw _ (List.mem_of_getElem? (i := 3) rfl))) (mvT hZ (hw _ (List.mem_of_getElem? (i := 4) rfl))) (by decide) (backOf (W := 0) (rm1 l Z a0 hw [] z w_NO w_CANNOT_TELL w_YES r6 h0 n0 Z0 S_NO S_CANNOT_TELL S_YES hP6) hZ (hw _ (List.mem_of_getElem? (i := 4) rfl)) (hw _ (List.mem_of_getElem? (i := 3) rfl)) (by decide) (by decide)) (g := (mkF m 31 #[.val (.int p1), .val (.int p2), .val (.int (HMod.hMod (p1 &&& (2147483647 : Int32)) (3 : Int32))), .val (.int (HMod.hMod (p2 &&& (2147483647 : Int32)) (3 : Int32))), .val (.ref r3), .val (.ref r4), .unset, .unset] [(.int z)])) rfl (by rw [hml]; rfl) (argsL := [(.int z)]) (rest := []) (lenOf pd_0_0 rfl) rfl (by show 2 * 0 + _ ≤ _; exact Nat.le_of_eq rfl) (hb hby at_31) (fun _ _ => ⟨rfl, eq5, (by decide : 0 + 0 ≤ _), (by decide : 0 + 0 ≤ _)⟩)
  dsimp only [Pt.U, Pt.locs, Pt.cells, Pt.slots] at X6 l6 y6 z6 st6 hQ6
  subst l6 y6 z6
  obtain ⟨rfl, N6q, eq6⟩ := hQ6
  have N6 := Fr.app N5 N6q
  obtain ⟨cq7, kq7, q7a, q7b, q7c⟩ := isOf hZ eq6 E_r3
  obtain ⟨_, _, ⟨T7, L7, k7, n7⟩, -, X7, ⟨Lc7, hQ7, l7, y7, z7⟩, st7⟩ := X6.virtualBack hx (y := (⟨"com/example/vervet/vervet/tool/ProcessUser$Allowed", "or", "(Lcom/example/vervet/vervet/tool/ProcessUser$Allowed;)Lcom/example/vervet/vervet/tool/ProcessUser$Allowed;"⟩ : MethodName)) (z := (⟨"com/example/vervet/vervet/tool/ProcessUser$Allowed", "or", "(Lcom/example/vervet/vervet/tool/ProcessUser$Allowed;)Lcom/example/vervet/vervet/tool/ProcessUser$Allowed;"⟩ : MethodName)) hown (mvT hZ (hw _ (List.mem_of_getElem? (i := 12) rfl))) (mvT hZ (hw _ (List.mem_of_getElem? (i := 13) rfl))) (notFace_of_selects (args := #[]) (mvT hZ (hw _ (List.mem_of_getElem? (i := 15) rfl)))) (mvT hZ (hw _ (List.mem_of_getElem? (i := 15) rfl))) (mvT hZ (hw _ (List.mem_of_getElem? (i := 14) rfl))) (by decide) (backOf (W := 0) (rm3 l Z a0 hw [] r3 r4 w_NO w_CANNOT_TELL w_YES r6 h0 n0 Z0 S_NO S_CANNOT_TELL S_YES hO) hZ (hw _ (List.mem_of_getElem? (i := 16) rfl)) (hw _ (List.mem_of_getElem? (i := 6) rfl)) (by decide) (by decide)) q7a q7c (g := (mkF m 40 #[.val (.int p1), .val (.int p2), .val (.int (HMod.hMod (p1 &&& (2147483647 : Int32)) (3 : Int32))), .val (.int (HMod.hMod (p2 &&& (2147483647 : Int32)) (3 : Int32))), .val (.ref r3), .val (.ref r4), .val (.ref r6), .unset] [(.ref r4), (.ref r3)])) rfl (by rw [hml]; rfl) (Steps.refl _) (argsL := [(.ref r4)]) (rest := []) (lenOf pd_0_2 rfl) rfl (by show 2 * 0 + _ ≤ _; exact Nat.le_of_eq rfl) (hb hby at_40) (fun _ _ => ⟨rfl, eq6, (by decide : 0 + 0 ≤ _), (by decide : 0 + 0 ≤ _)⟩)
  dsimp only [Pt.U, Pt.locs, Pt.cells, Pt.slots] at X7 l7 y7 z7 st7 hQ7
  subst l7 y7 z7
  obtain ⟨rfl, N7q, eq7⟩ := hQ7
  have N7 := Fr.app N6 N7q
  obtain ⟨fs, hr, hrun, hended, hW, hsame⟩ := X7.leave (v := some (.int (1 : Int32))) (fun h => by rw [Bd.returns] at h; cases h)
  refine ⟨_, _, pre0 _ ?_, hrun, hended, _, _, rfl, ?_, ⟨_, rfl⟩, hW, hsame.mono (by decide) (by decide)⟩
  · show Steps p.tables e below (s₁.setTop (mkF m 0 #[.val (.int p1), .val (.int p2), .unset, .unset, .unset, .unset, .unset, .unset] [])) _
    refine XS.iloadN X0.here hx rfl (hb hby at_0) rfl ?_
    show Steps p.tables e below (s₁.setTop (mkF m 1 #[.val (.int p1), .val (.int p2), .unset, .unset, .unset, .unset, .unset, .unset] [(.int p1)])) _
    refine X0.ldcInt hx hown (mvT hZ (hw _ (List.mem_of_getElem? (i := 0) rfl))) (g := (mkF m 1 #[.val (.int p1), .val (.int p2), .unset, .unset, .unset, .unset, .unset, .unset] [(.int p1)])) rfl (hb hby at_1) _ ?_
    show Steps p.tables e below (s₁.setTop (mkF m 3 #[.val (.int p1), .val (.int p2), .unset, .unset, .unset, .unset, .unset, .unset] [(.int (2147483647 : Int32)), (.int p1)])) _
    refine XS.iand X0.here hx rfl (hb hby at_3) rfl ?_
    show Steps p.tables e below (s₁.setTop (mkF m 4 #[.val (.int p1), .val (.int p2), .unset, .unset, .unset, .unset, .unset, .unset] [(.int (p1 &&& (2147483647 : Int32)))])) _
    refine XS.iconst X0.here hx rfl (hb hby at_4) ?_
    show Steps p.tables e below (s₁.setTop (mkF m 5 #[.val (.int p1), .val (.int p2), .unset, .unset, .unset, .unset, .unset, .unset] [(.int (3 : Int32)), (.int (p1 &&& (2147483647 : Int32)))])) _
    refine iremM X0 hx rfl (hb hby at_5) rfl (by decide) ?_
    show Steps p.tables e below (s₁.setTop (mkF m 6 #[.val (.int p1), .val (.int p2), .unset, .unset, .unset, .unset, .unset, .unset] [(.int (HMod.hMod (p1 &&& (2147483647 : Int32)) (3 : Int32)))])) _
    refine XS.istoreN X0.here hx rfl (hb hby at_6) rfl (l' := #[.val (.int p1), .val (.int p2), .val (.int (HMod.hMod (p1 &&& (2147483647 : Int32)) (3 : Int32))), .unset, .unset, .unset, .unset, .unset]) rfl ?_
    show Steps p.tables e below (s₁.setTop (mkF m 7 #[.val (.int p1), .val (.int p2), .val (.int (HMod.hMod (p1 &&& (2147483647 : Int32)) (3 : Int32))), .unset, .unset, .unset, .unset, .unset] [])) _
    refine XS.iloadN X0.here hx rfl (hb hby at_7) rfl ?_
    show Steps p.tables e below (s₁.setTop (mkF m 8 #[.val (.int p1), .val (.int p2), .val (.int (HMod.hMod (p1 &&& (2147483647 : Int32)) (3 : Int32))), .unset, .unset, .unset, .unset, .unset] [(.int p2)])) _
    refine X0.ldcInt hx hown (mvT hZ (hw _ (List.mem_of_getElem? (i := 0) rfl))) (g := (mkF m 8 #[.val (.int p1), .val (.int p2), .val (.int (HMod.hMod (p1 &&& (2147483647 : Int32)) (3 : Int32))), .unset, .unset, .unset, .unset, .unset] [(.int p2)])) rfl (hb hby at_8) _ ?_
    show Steps p.tables e below (s₁.setTop (mkF m 10 #[.val (.int p1), .val (.int p2), .val (.int (HMod.hMod (p1 &&& (2147483647 : Int32)) (3 : Int32))), .unset, .unset, .unset, .unset, .unset] [(.int (2147483647 : Int32)), (.int p2)])) _
    refine XS.iand X0.here hx rfl (hb hby at_10) rfl ?_
    show Steps p.tables e below (s₁.setTop (mkF m 11 #[.val (.int p1), .val (.int p2), .val (.int (HMod.hMod (p1 &&& (2147483647 : Int32)) (3 : Int32))), .unset, .unset, .unset, .unset, .unset] [(.int (p2 &&& (2147483647 : Int32)))])) _
    refine XS.iconst X0.here hx rfl (hb hby at_11) ?_
    show Steps p.tables e below (s₁.setTop (mkF m 12 #[.val (.int p1), .val (.int p2), .val (.int (HMod.hMod (p1 &&& (2147483647 : Int32)) (3 : Int32))), .unset, .unset, .unset, .unset, .unset] [(.int (3 : Int32)), (.int (p2 &&& (2147483647 : Int32)))])) _
    refine iremM X0 hx rfl (hb hby at_12) rfl (by decide) ?_
    show Steps p.tables e below (s₁.setTop (mkF m 13 #[.val (.int p1), .val (.int p2), .val (.int (HMod.hMod (p1 &&& (2147483647 : Int32)) (3 : Int32))), .unset, .unset, .unset, .unset, .unset] [(.int (HMod.hMod (p2 &&& (2147483647 : Int32)) (3 : Int32)))])) _
    refine XS.istoreN X0.here hx rfl (hb hby at_13) rfl (l' := #[.val (.int p1), .val (.int p2), .val (.int (HMod.hMod (p1 &&& (2147483647 : Int32)) (3 : Int32))), .val (.int (HMod.hMod (p2 &&& (2147483647 : Int32)) (3 : Int32))), .unset, .unset, .unset, .unset]) rfl ?_
    show Steps p.tables e below (s₁.setTop (mkF m 14 #[.val (.int p1), .val (.int p2), .val (.int (HMod.hMod (p1 &&& (2147483647 : Int32)) (3 : Int32))), .val (.int (HMod.hMod (p2 &&& (2147483647 : Int32)) (3 : Int32))), .unset, .unset, .unset, .unset] [])) _
    refine XS.iloadN X0.here hx rfl (hb hby at_14) rfl ?_
    show Steps p.tables e below (s₁.setTop (mkF m 15 #[.val (.int p1), .val (.int p2), .val (.int (HMod.hMod (p1 &&& (2147483647 : Int32)) (3 : Int32))), .val (.int (HMod.hMod (p2 &&& (2147483647 : Int32)) (3 : Int32))), .unset, .unset, .unset, .unset] [(.int (HMod.hMod (p1 &&& (2147483647 : Int32)) (3 : Int32)))])) _
    refine st3 _ ?_
    show Steps p.tables e below (T3.setTop (mkF m 18 #[.val (.int p1), .val (.int p2), .val (.int (HMod.hMod (p1 &&& (2147483647 : Int32)) (3 : Int32))), .val (.int (HMod.hMod (p2 &&& (2147483647 : Int32)) (3 : Int32))), .unset, .unset, .unset, .unset] [(.ref r3)])) _
    refine XS.astore X3.here hx rfl (hb hby at_18) rfl rfl (l' := #[.val (.int p1), .val (.int p2), .val (.int (HMod.hMod (p1 &&& (2147483647 : Int32)) (3 : Int32))), .val (.int (HMod.hMod (p2 &&& (2147483647 : Int32)) (3 : Int32))), .val (.ref r3), .unset, .unset, .unset]) rfl ?_
    show Steps p.tables e below (T3.setTop (mkF m 20 #[.val (.int p1), .val (.int p2), .val (.int (HMod.hMod (p1 &&& (2147483647 : Int32)) (3 : Int32))), .val (.int (HMod.hMod (p2 &&& (2147483647 : Int32)) (3 : Int32))), .val (.ref r3), .unset, .unset, .unset] [])) _
    refine XS.iloadN X3.here hx rfl (hb hby at_20) rfl ?_
    show Steps p.tables e below (T3.setTop (mkF m 21 #[.val (.int p1), .val (.int p2), .val (.int (HMod.hMod (p1 &&& (2147483647 : Int32)) (3 : Int32))), .val (.int (HMod.hMod (p2 &&& (2147483647 : Int32)) (3 : Int32))), .val (.ref r3), .unset, .unset, .unset] [(.int (HMod.hMod (p2 &&& (2147483647 : Int32)) (3 : Int32)))])) _
    refine st4 _ ?_
    show Steps p.tables e below (T4.setTop (mkF m 24 #[.val (.int p1), .val (.int p2), .val (.int (HMod.hMod (p1 &&& (2147483647 : Int32)) (3 : Int32))), .val (.int (HMod.hMod (p2 &&& (2147483647 : Int32)) (3 : Int32))), .val (.ref r3), .unset, .unset, .unset] [(.ref r4)])) _
    refine XS.astore X4.here hx rfl (hb hby at_24) rfl rfl (l' := #[.val (.int p1), .val (.int p2), .val (.int (HMod.hMod (p1 &&& (2147483647 : Int32)) (3 : Int32))), .val (.int (HMod.hMod (p2 &&& (2147483647 : Int32)) (3 : Int32))), .val (.ref r3), .val (.ref r4), .unset, .unset]) rfl ?_
    show Steps p.tables e below (T4.setTop (mkF m 26 #[.val (.int p1), .val (.int p2), .val (.int (HMod.hMod (p1 &&& (2147483647 : Int32)) (3 : Int32))), .val (.int (HMod.hMod (p2 &&& (2147483647 : Int32)) (3 : Int32))), .val (.ref r3), .val (.ref r4), .unset, .unset] [])) _
    refine XS.iloadN X4.here hx rfl (hb hby at_26) rfl ?_
    show Steps p.tables e below (T4.setTop (mkF m 27 #[.val (.int p1), .val (.int p2), .val (.int (HMod.hMod (p1 &&& (2147483647 : Int32)) (3 : Int32))), .val (.int (HMod.hMod (p2 &&& (2147483647 : Int32)) (3 : Int32))), .val (.ref r3), .val (.ref r4), .unset, .unset] [(.int (HMod.hMod (p1 &&& (2147483647 : Int32)) (3 : Int32)))])) _
    refine XS.iloadN X4.here hx rfl (hb hby at_27) rfl ?_
    show Steps p.tables e below (T4.setTop (mkF m 28 #[.val (.int p1), .val (.int p2), .val (.int (HMod.hMod (p1 &&& (2147483647 : Int32)) (3 : Int32))), .val (.int (HMod.hMod (p2 &&& (2147483647 : Int32)) (3 : Int32))), .val (.ref r3), .val (.ref r4), .unset, .unset] [(.int (HMod.hMod (p2 &&& (2147483647 : Int32)) (3 : Int32))), (.int (HMod.hMod (p1 &&& (2147483647 : Int32)) (3 : Int32)))])) _
    refine st5 _ ?_
    show Steps p.tables e below (T5.setTop (mkF m 31 #[.val (.int p1), .val (.int p2), .val (.int (HMod.hMod (p1 &&& (2147483647 : Int32)) (3 : Int32))), .val (.int (HMod.hMod (p2 &&& (2147483647 : Int32)) (3 : Int32))), .val (.ref r3), .val (.ref r4), .unset, .unset] [(.int z)])) _
    refine st6 _ ?_
    show Steps p.tables e below (T6.setTop (mkF m 34 #[.val (.int p1), .val (.int p2), .val (.int (HMod.hMod (p1 &&& (2147483647 : Int32)) (3 : Int32))), .val (.int (HMod.hMod (p2 &&& (2147483647 : Int32)) (3 : Int32))), .val (.ref r3), .val (.ref r4), .unset, .unset] [(.ref r6)])) _
    refine XS.astore X6.here hx rfl (hb hby at_34) rfl rfl (l' := #[.val (.int p1), .val (.int p2), .val (.int (HMod.hMod (p1 &&& (2147483647 : Int32)) (3 : Int32))), .val (.int (HMod.hMod (p2 &&& (2147483647 : Int32)) (3 : Int32))), .val (.ref r3), .val (.ref r4), .val (.ref r6), .unset]) rfl ?_
    show Steps p.tables e below (T6.setTop (mkF m 36 #[.val (.int p1), .val (.int p2), .val (.int (HMod.hMod (p1 &&& (2147483647 : Int32)) (3 : Int32))), .val (.int (HMod.hMod (p2 &&& (2147483647 : Int32)) (3 : Int32))), .val (.ref r3), .val (.ref r4), .val (.ref r6), .unset] [])) _
    refine XS.aload X6.here hx rfl (hb hby at_36) rfl rfl ?_
    show Steps p.tables e below (T6.setTop (mkF m 38 #[.val (.int p1), .val (.int p2), .val (.int (HMod.hMod (p1 &&& (2147483647 : Int32)) (3 : Int32))), .val (.int (HMod.hMod (p2 &&& (2147483647 : Int32)) (3 : Int32))), .val (.ref r3), .val (.ref r4), .val (.ref r6), .unset] [(.ref r3)])) _
    refine XS.aload X6.here hx rfl (hb hby at_38) rfl rfl ?_
    show Steps p.tables e below (T6.setTop (mkF m 40 #[.val (.int p1), .val (.int p2), .val (.int (HMod.hMod (p1 &&& (2147483647 : Int32)) (3 : Int32))), .val (.int (HMod.hMod (p2 &&& (2147483647 : Int32)) (3 : Int32))), .val (.ref r3), .val (.ref r4), .val (.ref r6), .unset] [(.ref r4), (.ref r3)])) _
    refine st7.trans ?_
    show Steps p.tables e below (T7.setTop (mkF m 43 #[.val (.int p1), .val (.int p2), .val (.int (HMod.hMod (p1 &&& (2147483647 : Int32)) (3 : Int32))), .val (.int (HMod.hMod (p2 &&& (2147483647 : Int32)) (3 : Int32))), .val (.ref r3), .val (.ref r4), .val (.ref r6), .unset] [(.ref r6)])) _
    refine XS.astore X7.here hx rfl (hb hby at_43) rfl rfl (l' := #[.val (.int p1), .val (.int p2), .val (.int (HMod.hMod (p1 &&& (2147483647 : Int32)) (3 : Int32))), .val (.int (HMod.hMod (p2 &&& (2147483647 : Int32)) (3 : Int32))), .val (.ref r3), .val (.ref r4), .val (.ref r6), .val (.ref r6)]) rfl ?_
    show Steps p.tables e below (T7.setTop (mkF m 45 #[.val (.int p1), .val (.int p2), .val (.int (HMod.hMod (p1 &&& (2147483647 : Int32)) (3 : Int32))), .val (.int (HMod.hMod (p2 &&& (2147483647 : Int32)) (3 : Int32))), .val (.ref r3), .val (.ref r4), .val (.ref r6), .val (.ref r6)] [])) _
    refine XS.aload X7.here hx rfl (hb hby at_45) rfl rfl ?_
    show Steps p.tables e below (T7.setTop (mkF m 47 #[.val (.int p1), .val (.int p2), .val (.int (HMod.hMod (p1 &&& (2147483647 : Int32)) (3 : Int32))), .val (.int (HMod.hMod (p2 &&& (2147483647 : Int32)) (3 : Int32))), .val (.ref r3), .val (.ref r4), .val (.ref r6), .val (.ref r6)] [(.ref r6)])) _
    refine XS.aload X7.here hx rfl (hb hby at_47) rfl rfl ?_
    show Steps p.tables e below (T7.setTop (mkF m 49 #[.val (.int p1), .val (.int p2), .val (.int (HMod.hMod (p1 &&& (2147483647 : Int32)) (3 : Int32))), .val (.int (HMod.hMod (p2 &&& (2147483647 : Int32)) (3 : Int32))), .val (.ref r3), .val (.ref r4), .val (.ref r6), .val (.ref r6)] [(.ref r6), (.ref r6)])) _
    refine Jvm.RoadKit.acmp (g := (mkF m 49 #[.val (.int p1), .val (.int p2), .val (.int (HMod.hMod (p1 &&& (2147483647 : Int32)) (3 : Int32))), .val (.int (HMod.hMod (p2 &&& (2147483647 : Int32)) (3 : Int32))), .val (.ref r3), .val (.ref r4), .val (.ref r6), .val (.ref r6)] [(.ref r6), (.ref r6)])) X7 hx rfl rfl rfl (pc0 := 49) (pc' := 52) (same := true) rfl (hb hby at_49) rfl (decide_eq_true rfl) (by decide) (by decide) ?_
    show Steps p.tables e below (T7.setTop (mkF m 52 #[.val (.int p1), .val (.int p2), .val (.int (HMod.hMod (p1 &&& (2147483647 : Int32)) (3 : Int32))), .val (.int (HMod.hMod (p2 &&& (2147483647 : Int32)) (3 : Int32))), .val (.ref r3), .val (.ref r4), .val (.ref r6), .val (.ref r6)] [])) _
    refine XS.iconst X7.here hx rfl (hb hby at_52) ?_
    show Steps p.tables e below (T7.setTop (mkF m 53 #[.val (.int p1), .val (.int p2), .val (.int (HMod.hMod (p1 &&& (2147483647 : Int32)) (3 : Int32))), .val (.int (HMod.hMod (p2 &&& (2147483647 : Int32)) (3 : Int32))), .val (.ref r3), .val (.ref r4), .val (.ref r6), .val (.ref r6)] [(.int (1 : Int32))])) _
    refine XS.goto X7.here hx rfl (pc0 := 53) (pc' := 57) rfl (hb hby at_53) (by decide) (by decide) ?_
    show Steps p.tables e below (T7.setTop (mkF m 57 #[.val (.int p1), .val (.int p2), .val (.int (HMod.hMod (p1 &&& (2147483647 : Int32)) (3 : Int32))), .val (.int (HMod.hMod (p2 &&& (2147483647 : Int32)) (3 : Int32))), .val (.ref r3), .val (.ref r4), .val (.ref r6), .val (.ref r6)] [(.int (1 : Int32))])) _
    exact retN X7 hx (t := .boolean) Bd.returns (by simp) (hb hby at_57) hr
  · show QR (some (.int (1 : Int32))) h0 n0 _ T7.heap _
    rw [eq7]
    exact ⟨rfl, N7, rfl⟩

theorem rm0 (l : Launch) (Z : State) (a0 : Array Value) (hw : ∀ d ∈ tables_1, d.before a0 Z = true) (ws : List Jvm.Cond) (p1 : Int32) (p2 : Int32) (w_NO : Addr) (w_CANNOT_TELL : Addr) (w_YES : Addr) (h0 : Heap) (n0 : Nat) (Z0 : n0 ≤ h0.size) (S_NO : Sta Z h0 "com/example/vervet/vervet/tool/ProcessUser$Allowed" "NO" "Lcom/example/vervet/vervet/tool/ProcessUser$Allowed;" (.ref w_NO)) (S_CANNOT_TELL : Sta Z h0 "com/example/vervet/vervet/tool/ProcessUser$Allowed" "CANNOT_TELL" "Lcom/example/vervet/vervet/tool/ProcessUser$Allowed;" (.ref w_CANNOT_TELL)) (S_YES : Sta Z h0 "com/example/vervet/vervet/tool/ProcessUser$Allowed" "YES" "Lcom/example/vervet/vervet/tool/ProcessUser$Allowed;" (.ref w_YES)) (E_w_NO : Exa Z h0 w_NO "com/example/vervet/vervet/tool/ProcessUser$Allowed") (E_w_CANNOT_TELL : Exa Z h0 w_CANNOT_TELL "com/example/vervet/vervet/tool/ProcessUser$Allowed") (E_w_YES : Exa Z h0 w_YES "com/example/vervet/vervet/tool/ProcessUser$Allowed") (ne_NO_CANNOT_TELL : ¬ (w_NO = w_CANNOT_TELL)) (ne_NO_YES : ¬ (w_NO = w_YES)) (ne_CANNOT_TELL_NO : ¬ (w_CANNOT_TELL = w_NO)) (ne_CANNOT_TELL_YES : ¬ (w_CANNOT_TELL = w_YES)) (ne_YES_NO : ¬ (w_YES = w_NO)) (ne_YES_CANNOT_TELL : ¬ (w_YES = w_CANNOT_TELL)) :
    MetFree l x (head1 (Jvm.Cond.code x code maxLocals ret :: ws) room_1) (fun a U => a = #[(.int p1), (.int p2)] ∧ Z.Warmed39 U.vm ∧ U.heap = h0) (fun _ _ _ _ _ => True) (fun _ U o U' => ∃ v L, o = .returned v ∧ QR (some (.int (1 : Int32))) h0 n0 v U'.heap L ∧ FrameEnd U o U' L room_1.cells room_1.slots) := by
  rcases own_three p1 with hx | hx | hx <;> rcases own_three p2 with hy | hy | hy
  · exact rm0_f l Z a0 hw ws p1 p2 w_NO w_CANNOT_TELL w_YES w_NO w_NO w_NO 0 h0 n0 Z0 S_NO S_CANNOT_TELL S_YES (by rw [hx]; simp [Pk]) (by rw [hy]; simp [Pk]) (by rw [hx, hy]; unfold Mx; decide) (by simp [Pk]) (by simp [Orr, ne_NO_CANNOT_TELL, ne_NO_YES, ne_CANNOT_TELL_NO, ne_CANNOT_TELL_YES, ne_YES_NO, ne_YES_CANNOT_TELL]) E_w_NO
  · exact rm0_f l Z a0 hw ws p1 p2 w_NO w_CANNOT_TELL w_YES w_NO w_CANNOT_TELL w_CANNOT_TELL 1 h0 n0 Z0 S_NO S_CANNOT_TELL S_YES (by rw [hx]; simp [Pk]) (by rw [hy]; simp [Pk]) (by rw [hx, hy]; unfold Mx; decide) (by simp [Pk]) (by simp [Orr, ne_NO_CANNOT_TELL, ne_NO_YES, ne_CANNOT_TELL_NO, ne_CANNOT_TELL_YES, ne_YES_NO, ne_YES_CANNOT_TELL]) E_w_NO
  · exact rm0_f l Z a0 hw ws p1 p2 w_NO w_CANNOT_TELL w_YES w_NO w_YES w_YES 2 h0 n0 Z0 S_NO S_CANNOT_TELL S_YES (by rw [hx]; simp [Pk]) (by rw [hy]; simp [Pk]) (by rw [hx, hy]; unfold Mx; decide) (by simp [Pk]) (by simp [Orr, ne_NO_CANNOT_TELL, ne_NO_YES, ne_CANNOT_TELL_NO, ne_CANNOT_TELL_YES, ne_YES_NO, ne_YES_CANNOT_TELL]) E_w_NO
  · exact rm0_f l Z a0 hw ws p1 p2 w_NO w_CANNOT_TELL w_YES w_CANNOT_TELL w_NO w_CANNOT_TELL 1 h0 n0 Z0 S_NO S_CANNOT_TELL S_YES (by rw [hx]; simp [Pk]) (by rw [hy]; simp [Pk]) (by rw [hx, hy]; unfold Mx; decide) (by simp [Pk]) (by simp [Orr, ne_NO_CANNOT_TELL, ne_NO_YES, ne_CANNOT_TELL_NO, ne_CANNOT_TELL_YES, ne_YES_NO, ne_YES_CANNOT_TELL]) E_w_CANNOT_TELL
  · exact rm0_f l Z a0 hw ws p1 p2 w_NO w_CANNOT_TELL w_YES w_CANNOT_TELL w_CANNOT_TELL w_CANNOT_TELL 1 h0 n0 Z0 S_NO S_CANNOT_TELL S_YES (by rw [hx]; simp [Pk]) (by rw [hy]; simp [Pk]) (by rw [hx, hy]; unfold Mx; decide) (by simp [Pk]) (by simp [Orr, ne_NO_CANNOT_TELL, ne_NO_YES, ne_CANNOT_TELL_NO, ne_CANNOT_TELL_YES, ne_YES_NO, ne_YES_CANNOT_TELL]) E_w_CANNOT_TELL
  · exact rm0_f l Z a0 hw ws p1 p2 w_NO w_CANNOT_TELL w_YES w_CANNOT_TELL w_YES w_YES 2 h0 n0 Z0 S_NO S_CANNOT_TELL S_YES (by rw [hx]; simp [Pk]) (by rw [hy]; simp [Pk]) (by rw [hx, hy]; unfold Mx; decide) (by simp [Pk]) (by simp [Orr, ne_NO_CANNOT_TELL, ne_NO_YES, ne_CANNOT_TELL_NO, ne_CANNOT_TELL_YES, ne_YES_NO, ne_YES_CANNOT_TELL]) E_w_CANNOT_TELL
  · exact rm0_f l Z a0 hw ws p1 p2 w_NO w_CANNOT_TELL w_YES w_YES w_NO w_YES 2 h0 n0 Z0 S_NO S_CANNOT_TELL S_YES (by rw [hx]; simp [Pk]) (by rw [hy]; simp [Pk]) (by rw [hx, hy]; unfold Mx; decide) (by simp [Pk]) (by simp [Orr, ne_NO_CANNOT_TELL, ne_NO_YES, ne_CANNOT_TELL_NO, ne_CANNOT_TELL_YES, ne_YES_NO, ne_YES_CANNOT_TELL]) E_w_YES
  · exact rm0_f l Z a0 hw ws p1 p2 w_NO w_CANNOT_TELL w_YES w_YES w_CANNOT_TELL w_YES 2 h0 n0 Z0 S_NO S_CANNOT_TELL S_YES (by rw [hx]; simp [Pk]) (by rw [hy]; simp [Pk]) (by rw [hx, hy]; unfold Mx; decide) (by simp [Pk]) (by simp [Orr, ne_NO_CANNOT_TELL, ne_NO_YES, ne_CANNOT_TELL_NO, ne_CANNOT_TELL_YES, ne_YES_NO, ne_YES_CANNOT_TELL]) E_w_YES
  · exact rm0_f l Z a0 hw ws p1 p2 w_NO w_CANNOT_TELL w_YES w_YES w_YES w_YES 2 h0 n0 Z0 S_NO S_CANNOT_TELL S_YES (by rw [hx]; simp [Pk]) (by rw [hy]; simp [Pk]) (by rw [hx, hy]; unfold Mx; decide) (by simp [Pk]) (by simp [Orr, ne_NO_CANNOT_TELL, ne_NO_YES, ne_CANNOT_TELL_NO, ne_CANNOT_TELL_YES, ne_YES_NO, ne_YES_CANNOT_TELL]) E_w_YES

set_option maxRecDepth 65536 in
set_option maxHeartbeats 40000000 in
theorem comes_1 {Post : Tables → Env → Array Value → State → Outcome → State → Prop} (hpost : ∀ tb e args s v u, (limb_1_1.after args s (.returned v) u = true ∧ limb_1_2.after args s (.returned v) u = true ∧ True) → FrameEnd s (.returned v) u (Jvm.fieldLocs frame_1_writes args s ++ Jvm.arrayLocs frame_1_arrays args s ++ Jvm.staticLocs frame_1_statics s) 0 0 → Post tb e args s (.returned v) u) :
    ArmFor flags0 classFile x code maxLocals ret World_1 tables_1 room_1 Calls_1 rest_1 Pre_1 Post := by
  intro l hfl _ _ p e ha hc hk s m args below hf hA hF happ hP
  obtain ⟨hcalls, hrest, hpre⟩ := hP
  obtain ⟨-, -, -, hnamed, -, -, -, hat⟩ := (Spec.applies_iff hf).mp happ
  obtain ⟨hg, hn⟩ := and_e (Cond.before_iff.mp (show (Jvm.Cond.and given_1 narrow_1).before args s = true from hpre))
  obtain ⟨g8, g9⟩ := and_e hg
  obtain ⟨g10, g11⟩ := and_e g9
  obtain ⟨w0, w1, rfl⟩ : ∃ w0 w1 : Value, args = #[w0, w1] := by
    have hs : args.size = 2 := by simpa [Cond.value, given_1] using g8
    obtain ⟨L⟩ := args
    match L, hs with
    | [w0, w1], _ => exact ⟨w0, w1, rfl⟩
  have hw := fun d (hd : d ∈ tables_1) => atoms_spec (ws := Jvm.Cond.code x code maxLocals ret :: tables_1) hat d (List.mem_cons_of_mem _ hd)
  have hfit : Fit s := fun {y c} hc i hi => by
    obtain ⟨ha, rfl⟩ := Array.getElem?_eq_some_iff.mp hc
    have q := List.all_eq_true.mp ((Array.all_eq_true_iff_forall_mem.mp hF) _ (Array.getElem_mem ha)) i (List.mem_range.mpr hi)
    simpa [Array.getElem?_eq_getElem hi] using q
  obtain ⟨i0, ei0⟩ := is_v g10
  obtain rfl : w0 = (.int i0) := Option.some.inj ei0
  obtain ⟨i1, ei1⟩ := is_v g11
  obtain rfl : w1 = (.int i1) := Option.some.inj ei1
  obtain ⟨n0, hn⟩ := and_e hn
  obtain ⟨n1, hn⟩ := and_e hn
  obtain ⟨n2, hn⟩ := and_e hn
  obtain ⟨n3, hn⟩ := and_e hn
  obtain ⟨n4, n5⟩ := and_e hn
  obtain ⟨w_NO, v_NO, S_NO, E_w_NO⟩ := own_sta (hw _ (List.mem_of_getElem? (i := 6) rfl)) (hw _ (List.mem_of_getElem? (i := 7) rfl)) n0
  obtain ⟨w_YES, v_YES, S_YES, E_w_YES⟩ := own_sta (hw _ (List.mem_of_getElem? (i := 6) rfl)) (hw _ (List.mem_of_getElem? (i := 18) rfl)) n1
  obtain ⟨w_CANNOT_TELL, v_CANNOT_TELL, S_CANNOT_TELL, E_w_CANNOT_TELL⟩ := own_sta (hw _ (List.mem_of_getElem? (i := 6) rfl)) (hw _ (List.mem_of_getElem? (i := 22) rfl)) n4
  have f_NO := own_fld v_NO n2
  have f_YES := own_fld v_YES n3
  have f_CANNOT_TELL := own_fld v_CANNOT_TELL n5
  have ne_NO_CANNOT_TELL : ¬ (w_NO = w_CANNOT_TELL) := Fld.ne f_NO f_CANNOT_TELL (by decide)
  have ne_NO_YES : ¬ (w_NO = w_YES) := Fld.ne f_NO f_YES (by decide)
  have ne_CANNOT_TELL_NO : ¬ (w_CANNOT_TELL = w_NO) := Fld.ne f_CANNOT_TELL f_NO (by decide)
  have ne_CANNOT_TELL_YES : ¬ (w_CANNOT_TELL = w_YES) := Fld.ne f_CANNOT_TELL f_YES (by decide)
  have ne_YES_NO : ¬ (w_YES = w_NO) := Fld.ne f_YES f_NO (by decide)
  have ne_YES_CANNOT_TELL : ¬ (w_YES = w_CANNOT_TELL) := Fld.ne f_YES f_CANNOT_TELL (by decide)
  obtain ⟨n, o, h1, h2, h3, _, L, rfl, ⟨rfl, N, -⟩, hq⟩ := rm0 l s _ hw tables_1 i0 i1 w_NO w_CANNOT_TELL w_YES s.heap s.heap.size (Nat.le_refl _) S_NO S_CANNOT_TELL S_YES E_w_NO E_w_CANNOT_TELL E_w_YES ne_NO_CANNOT_TELL ne_NO_YES ne_CANNOT_TELL_NO ne_CANNOT_TELL_YES ne_YES_NO ne_YES_CANNOT_TELL p e ha hc hk s m _ below hf ((Spec.applies_iff_loose hf).mp happ).1 ⟨rfl, State.Warmed39.refl s, rfl⟩ trivial
  refine ⟨n, _, h1, h2, h3, hpost _ _ _ _ _ _ ⟨Cond.after_iff.mpr rfl, Cond.after_iff.mpr (eq_i res_at (Term.int_eval (1)) rfl), trivial⟩ ⟨hq.1, hq.2.1, (hq.2.2.sift fun y hy => Or.inr (N y hy)).mono (by decide) (by decide)⟩⟩
theorem main_1_1 : Claimed_1_1 := comes_1 fun _ _ _ _ _ _ h hF => ⟨h.1, hF⟩
theorem main_1_2 : Claimed_1_2 := comes_1 fun _ _ _ _ _ _ h hF => ⟨h.2.1, hF⟩

end Jvm.Pilot.@@N@@
namespace Jvm.Pilot.@@N@@
open Jvm Jvm.ClassFile Sem Op Lib Jvm.Free Jvm.Stand Jvm.Pilot.@@N@@.Jvm.D
/-! MADE BY PROGRAM (witnessworld.py) out of the Statement's table words and the real class files: 11 classes; the members and pool entries that the words name. The judged class is class 1, her method 2. -/
namespace start1
open Jvm.ClassFile
def u (s : String) : CpInfo := .utf8 (stringToUtf16 s)
/-- a pool by its gaps: so many unusable entries, then the entry; so many at the end -/
def gap : Nat → List CpInfo → List CpInfo
  | 0, r => r
  | n + 1, r => .unusable :: gap n r
def poolList (es : List (Nat × CpInfo)) (last : Nat) : List CpInfo := es.foldr (fun e r => gap e.1 (e.2 :: r)) (gap last [])
def pool (es : List (Nat × CpInfo)) (last : Nat) : Array CpInfo := ⟨poolList es last⟩
def fileOf (pool : Array CpInfo) (this : Nat) (attrs : Array Attribute := #[]) (ms : Array MethodInfo := #[]) (fl : Nat := 33) (sup : Nat := 0) (ifs : Array Nat := #[]) (fds : Array FieldInfo := #[]) : ClassFile where
  minorVersion := 0
  majorVersion := 65
  constantPool := pool
  accessFlags := fl
  thisClass := this
  superClass := sup
  interfaces := ifs
  fields := fds
  methods := ms
  attributes := attrs
def plain (name : String) (sup : Option ClassId) : Class where
  name := name
  kind := .ordinary
  loader := none
  accessFlags := 33
  super := sup
  interfaces := #[]
  cf := none
  fields := #[]
  methods := #[]
  instanceTypes := #[]
  staticTypes := #[]
  resolved := #[]
  callSites := []
  init := .initialized
  statics := none
  mirror := none

def pool0 : Array CpInfo := pool [(5, u "<init>"), (0, u "()V"), (1, .class_ 10), (1, u "java/lang/Object")] 113

def k0m0 : Method := { name := "<init>", desc := "()V", sig := { parameters := [], returnType := none }, accessFlags := 1, code := none }
/-- java/lang/Object -/
def k0 : Class := { plain "java/lang/Object" none with
  accessFlags := 33
  interfaces := #[]
  cf := some (fileOf pool0 8 #[] #[{ accessFlags := 1, nameIndex := 5, descriptorIndex := 6, attributes := #[] }] 33 0 #[] #[])
  fields := #[]
  methods := #[k0m0]
  instanceTypes := #[]
  staticTypes := #[]
  resolved := Array.replicate 124 none
  statics := none }

def pool1 : Array CpInfo := pool [(2, .class_ 4), (1, u "java/lang/Object"), (0, u "<init>"), (0, u "()V"), (0, .fieldref 8 9), (0, .class_ 10), (0, .nameAndType 11 12), (0, u "com/example/vervet/vervet/tool/ProcessUser$Allowed"), (0, u "NO"), (0, u "Lcom/example/vervet/vervet/tool/ProcessUser$Allowed;"), (0, .fieldref 8 14), (0, .nameAndType 15 12), (0, u "CANNOT_TELL"), (0, .fieldref 8 17), (0, .nameAndType 18 12), (0, u "YES"), (0, .integer 2147483647), (0, .methodref 21 22), (0, .class_ 23), (0, .nameAndType 24 25), (0, u "com/example/vervet/vervet/tool/AllowedOrPinLaw"), (0, u "pick"), (0, u "(I)Lcom/example/vervet/vervet/tool/ProcessUser$Allowed;"), (0, .methodref 27 28), (0, .class_ 29), (0, .nameAndType 30 31), (0, u "java/lang/Math"), (0, u "max"), (0, u "(II)I"), (0, .methodref 8 33), (0, .nameAndType 34 35), (0, u "or"), (0, u "(Lcom/example/vervet/vervet/tool/ProcessUser$Allowed;)Lcom/example/vervet/vervet/tool/ProcessUser$Allowed;"), (3, u "law"), (0, u "(II)Z")] 6

def k1m0 : Method := { name := "<init>", desc := "()V", sig := { parameters := [], returnType := none }, accessFlags := 1, code := none }
def k1c1 : Code := { maxStack := 2, maxLocals := 1, code := method_2_code, exceptionTable := #[], attributes := #[] }
def k1m1 : Method := { name := "pick", desc := "(I)Lcom/example/vervet/vervet/tool/ProcessUser$Allowed;", sig := { parameters := [.int], returnType := some (.object "com/example/vervet/vervet/tool/ProcessUser$Allowed") }, accessFlags := 10, code := some k1c1 }
def k1c2 : Code := { maxStack := 2, maxLocals := 8, code := code, exceptionTable := #[], attributes := #[] }
def k1m2 : Method := { name := "law", desc := "(II)Z", sig := { parameters := [.int, .int], returnType := some .boolean }, accessFlags := 9, code := some k1c2 }
/-- com/example/vervet/vervet/tool/AllowedOrPinLaw -/
def k1 : Class := { plain "com/example/vervet/vervet/tool/AllowedOrPinLaw" (some 0) with
  accessFlags := 49
  interfaces := #[]
  cf := some (fileOf pool1 21 #[] #[{ accessFlags := 1, nameIndex := 5, descriptorIndex := 6, attributes := #[] }, { accessFlags := 10, nameIndex := 24, descriptorIndex := 25, attributes := #[] }, { accessFlags := 9, nameIndex := 39, descriptorIndex := 40, attributes := #[] }] 49 2 #[] #[])
  fields := #[]
  methods := #[k1m0, k1m1, k1m2]
  instanceTypes := #[]
  staticTypes := #[]
  resolved := Array.replicate 47 none
  statics := none }

def pool2 : Array CpInfo := pool [(1, .class_ 2), (0, u "java/lang/constant/Constable"), (0, .class_ 4), (0, u "java/lang/Object")] 6

/-- java/lang/constant/Constable -/
def k2 : Class := { plain "java/lang/constant/Constable" (some 0) with
  accessFlags := 1537
  interfaces := #[]
  cf := some (fileOf pool2 1 #[] #[] 1537 3 #[] #[])
  fields := #[]
  methods := #[]
  instanceTypes := #[]
  staticTypes := #[]
  resolved := Array.replicate 11 none
  statics := none }

def pool3 : Array CpInfo := pool [(1, .class_ 2), (0, u "java/lang/Comparable"), (0, .class_ 4), (0, u "java/lang/Object")] 7

/-- java/lang/Comparable -/
def k3 : Class := { plain "java/lang/Comparable" (some 0) with
  accessFlags := 1537
  interfaces := #[]
  cf := some (fileOf pool3 1 #[] #[] 1537 3 #[] #[])
  fields := #[]
  methods := #[]
  instanceTypes := #[]
  staticTypes := #[]
  resolved := Array.replicate 12 none
  statics := none }

def pool4 : Array CpInfo := pool [(1, .class_ 2), (0, u "java/io/Serializable"), (0, .class_ 4), (0, u "java/lang/Object")] 2

/-- java/io/Serializable -/
def k4 : Class := { plain "java/io/Serializable" (some 0) with
  accessFlags := 1537
  interfaces := #[]
  cf := some (fileOf pool4 1 #[] #[] 1537 3 #[] #[])
  fields := #[]
  methods := #[]
  instanceTypes := #[]
  staticTypes := #[]
  resolved := Array.replicate 7 none
  statics := none }

def pool5 : Array CpInfo := pool [(2, .class_ 4), (1, u "java/lang/Enum"), (0, u "name"), (0, u "Ljava/lang/String;"), (2, u "ordinal"), (0, u "I"), (1, .class_ 14), (1, u "java/lang/Object"), (4, u "hash"), (86, .class_ 108), (1, u "java/lang/Enum$EnumDesc"), (2, .class_ 112), (0, u "java/lang/constant/Constable"), (0, .class_ 114), (0, u "java/lang/Comparable"), (0, .class_ 116), (0, u "java/io/Serializable")] 87

/-- java/lang/Enum -/
def k5 : Class := { plain "java/lang/Enum" (some 0) with
  accessFlags := 1057
  interfaces := #[2, 3, 4]
  cf := some (fileOf pool5 2 #[.nestMembers #[106]] #[] 1057 12 #[111, 113, 115] #[{ accessFlags := 18, nameIndex := 5, descriptorIndex := 6, attributes := #[] }, { accessFlags := 18, nameIndex := 9, descriptorIndex := 10, attributes := #[] }, { accessFlags := 2, nameIndex := 19, descriptorIndex := 10, attributes := #[] }])
  fields := #[{ name := "name", type := (.object "java/lang/String"), accessFlags := 18, slot := 0, constantValue := 0 }, { name := "ordinal", type := .int, accessFlags := 18, slot := 1, constantValue := 0 }, { name := "hash", type := .int, accessFlags := 2, slot := 2, constantValue := 0 }]
  methods := #[]
  instanceTypes := #[(.object "java/lang/String"), .int, .int]
  staticTypes := #[]
  resolved := Array.replicate 204 none
  statics := none }

def pool6 : Array CpInfo := pool [(1, .class_ 2), (0, u "com/example/vervet/vervet/tool/ProcessUser$Allowed"), (0, .fieldref 1 4), (0, .nameAndType 5 6), (0, u "YES"), (0, u "Lcom/example/vervet/vervet/tool/ProcessUser$Allowed;"), (0, .fieldref 1 8), (0, .nameAndType 9 6), (0, u "NO"), (0, .fieldref 1 11), (0, .nameAndType 12 6), (0, u "CANNOT_TELL"), (2, u "$VALUES"), (0, u "[Lcom/example/vervet/vervet/tool/ProcessUser$Allowed;"), (6, .class_ 25), (1, u "java/lang/Enum"), (21, u "or"), (0, u "(Lcom/example/vervet/vervet/tool/ProcessUser$Allowed;)Lcom/example/vervet/vervet/tool/ProcessUser$Allowed;"), (7, .class_ 57), (0, u "com/example/vervet/vervet/tool/ProcessUser")] 2

def k6c0 : Code := { maxStack := 2, maxLocals := 2, code := prog_30_method_4_code, exceptionTable := #[], attributes := #[] }
def k6m0 : Method := { name := "or", desc := "(Lcom/example/vervet/vervet/tool/ProcessUser$Allowed;)Lcom/example/vervet/vervet/tool/ProcessUser$Allowed;", sig := { parameters := [(.object "com/example/vervet/vervet/tool/ProcessUser$Allowed")], returnType := some (.object "com/example/vervet/vervet/tool/ProcessUser$Allowed") }, accessFlags := 0, code := some k6c0 }
/-- com/example/vervet/vervet/tool/ProcessUser$Allowed -/
def k6 : Class := { plain "com/example/vervet/vervet/tool/ProcessUser$Allowed" (some 5) with
  accessFlags := 16433
  interfaces := #[]
  cf := some (fileOf pool6 1 #[.nestHost 56] #[{ accessFlags := 0, nameIndex := 47, descriptorIndex := 48, attributes := #[] }] 16433 23 #[] #[{ accessFlags := 16409, nameIndex := 5, descriptorIndex := 6, attributes := #[] }, { accessFlags := 16409, nameIndex := 9, descriptorIndex := 6, attributes := #[] }, { accessFlags := 16409, nameIndex := 12, descriptorIndex := 6, attributes := #[] }, { accessFlags := 4122, nameIndex := 15, descriptorIndex := 16, attributes := #[] }])
  fields := #[{ name := "YES", type := (.object "com/example/vervet/vervet/tool/ProcessUser$Allowed"), accessFlags := 16409, slot := 0, constantValue := 0 }, { name := "NO", type := (.object "com/example/vervet/vervet/tool/ProcessUser$Allowed"), accessFlags := 16409, slot := 1, constantValue := 0 }, { name := "CANNOT_TELL", type := (.object "com/example/vervet/vervet/tool/ProcessUser$Allowed"), accessFlags := 16409, slot := 2, constantValue := 0 }, { name := "$VALUES", type := (.array (.object "com/example/vervet/vervet/tool/ProcessUser$Allowed")), accessFlags := 4122, slot := 3, constantValue := 0 }]
  methods := #[k6m0]
  instanceTypes := #[(.object "java/lang/String"), .int, .int]
  staticTypes := #[(.object "com/example/vervet/vervet/tool/ProcessUser$Allowed"), (.object "com/example/vervet/vervet/tool/ProcessUser$Allowed"), (.object "com/example/vervet/vervet/tool/ProcessUser$Allowed"), (.array (.object "com/example/vervet/vervet/tool/ProcessUser$Allowed"))]
  resolved := Array.replicate 60 none
  statics := some 0 }

def pool7 : Array CpInfo := pool [(1, .class_ 2), (0, u "java/lang/Math"), (1, .class_ 6), (1, u "java/lang/Object"), (0, u "<init>"), (0, u "()V"), (89, .class_ 100), (1, u "java/lang/Math$RandomNumberGeneratorHolder"), (71, u "negativeZeroFloatBits"), (0, u "J"), (2, u "negativeZeroDoubleBits"), (21, u "max"), (46, u "$assertionsDisabled"), (0, u "Z"), (88, u "(II)I"), (2, u "twoToTheDoubleScaleDown"), (0, u "D"), (4, u "twoToTheDoubleScaleUp"), (9, u "E"), (3, u "PI"), (2, u "TAU"), (2, u "DEGREES_TO_RADIANS"), (0, u "RADIANS_TO_DEGREES")] 94

def k7m0 : Method := { name := "<init>", desc := "()V", sig := { parameters := [], returnType := none }, accessFlags := 2, code := none }
def k7c1 : Code := { maxStack := 2, maxLocals := 2, code := jdk_29_method_65_code, exceptionTable := #[], attributes := #[] }
def k7m1 : Method := { name := "max", desc := "(II)I", sig := { parameters := [.int, .int], returnType := some .int }, accessFlags := 9, code := some k7c1 }
/-- java/lang/Math -/
def k7 : Class := { plain "java/lang/Math" (some 0) with
  accessFlags := 49
  interfaces := #[]
  cf := some (fileOf pool7 1 #[.nestMembers #[98]] #[{ accessFlags := 2, nameIndex := 7, descriptorIndex := 8, attributes := #[] }, { accessFlags := 9, nameIndex := 198, descriptorIndex := 335, attributes := #[] }] 49 4 #[] #[{ accessFlags := 25, nameIndex := 354, descriptorIndex := 339, attributes := #[] }, { accessFlags := 25, nameIndex := 358, descriptorIndex := 339, attributes := #[] }, { accessFlags := 25, nameIndex := 361, descriptorIndex := 339, attributes := #[] }, { accessFlags := 26, nameIndex := 364, descriptorIndex := 339, attributes := #[] }, { accessFlags := 26, nameIndex := 365, descriptorIndex := 339, attributes := #[] }, { accessFlags := 26, nameIndex := 172, descriptorIndex := 173, attributes := #[] }, { accessFlags := 26, nameIndex := 176, descriptorIndex := 173, attributes := #[] }, { accessFlags := 8, nameIndex := 344, descriptorIndex := 339, attributes := #[] }, { accessFlags := 8, nameIndex := 338, descriptorIndex := 339, attributes := #[] }, { accessFlags := 4120, nameIndex := 245, descriptorIndex := 246, attributes := #[] }])
  fields := #[{ name := "E", type := .double, accessFlags := 25, slot := 0, constantValue := 0 }, { name := "PI", type := .double, accessFlags := 25, slot := 1, constantValue := 0 }, { name := "TAU", type := .double, accessFlags := 25, slot := 2, constantValue := 0 }, { name := "DEGREES_TO_RADIANS", type := .double, accessFlags := 26, slot := 3, constantValue := 0 }, { name := "RADIANS_TO_DEGREES", type := .double, accessFlags := 26, slot := 4, constantValue := 0 }, { name := "negativeZeroFloatBits", type := .long, accessFlags := 26, slot := 5, constantValue := 0 }, { name := "negativeZeroDoubleBits", type := .long, accessFlags := 26, slot := 6, constantValue := 0 }, { name := "twoToTheDoubleScaleUp", type := .double, accessFlags := 8, slot := 7, constantValue := 0 }, { name := "twoToTheDoubleScaleDown", type := .double, accessFlags := 8, slot := 8, constantValue := 0 }, { name := "$assertionsDisabled", type := .boolean, accessFlags := 4120, slot := 9, constantValue := 0 }]
  methods := #[k7m0, k7m1]
  instanceTypes := #[]
  staticTypes := #[.double, .double, .double, .double, .double, .long, .long, .double, .double, .boolean]
  resolved := Array.replicate 460 none
  statics := none }

def pool8 : Array CpInfo := pool [(1, u "java/lang/Cloneable"), (0, .class_ 1), (0, u "java/lang/Object"), (0, .class_ 3)] 3

/-- java/lang/Cloneable -/
def k8 : Class := { plain "java/lang/Cloneable" (some 0) with
  accessFlags := 1537
  interfaces := #[]
  cf := some (fileOf pool8 2 #[] #[] 1537 4 #[] #[])
  fields := #[]
  methods := #[]
  instanceTypes := #[]
  staticTypes := #[]
  resolved := Array.replicate 8 none
  statics := none }

/-- the primitive byte -/
def k9 : Class := { plain "byte" none with kind := .primitive 'B', accessFlags := 0x411 }
/-- [B -/
def k10 : Class := { plain "[B" (some 0) with kind := .array 9 .byte, interfaces := #[8, 4], accessFlags := 1041 }

def heap : Heap := #[{ cls := 6, slots := #[.ref 1, .ref 2, .ref 3, .null], vm := .statics 6 },
  { cls := 6, slots := #[.null, .int 0, .int 0], vm := .none },
  { cls := 6, slots := #[.null, .int 1, .int 0], vm := .none },
  { cls := 6, slots := #[.null, .int 2, .int 0], vm := .none }]
def classes : Array Class := #[k0, k1, k2, k3, k4, k5, k6, k7, k8, k9, k10]
def interned : List (Array UInt16 × Addr) := []
def slotsUsed : Nat := 13
def theMethod : MethodId := ⟨1, 2⟩
def args0 : Array Value := #[.int 4, .int 5]
def aboutOver (below : List Frame) : State where
  vm := { classes := classes, interned := interned.toArray }
  heap := heap
  slotsUsed := slotsUsed
  threads := #[{ frames := .invoking theMethod args0 :: below }]
def below0 : List Frame := [.native { method := ⟨0, 0⟩, args := #[] }]
def about1 : State := aboutOver below0
def p0 : Program := .bare "" "" ""
def e0 : Env := launch0.env 0 0 0
theorem w_frames : about1.frames = Frame.invoking theMethod args0 :: below0 := rfl
set_option maxRecDepth 65536 in
theorem w_args : argsFit about1.vm theMethod args0 = true := by decide +kernel
set_option maxRecDepth 65536 in
theorem w_heap : heapFits about1 = true := by decide +kernel
set_option maxRecDepth 65536 in
theorem w_runnable : about1.curStatus? = some .runnable := by decide +kernel
set_option maxRecDepth 65536 in
theorem w_alone : about1.alone = true := by decide +kernel
set_option maxRecDepth 65536 in
theorem w_named : about1.methodNamed? x = some theMethod := by decide +kernel
set_option maxRecDepth 65536 in
theorem w_hears : about1.hears theMethod below0 = true := by decide +kernel
set_option maxRecDepth 65536 in
theorem w_ripe : about1.ripe theMethod args0 below0 = true := by decide +kernel
theorem w_running : about1.status = .running := rfl
set_option maxRecDepth 65536 in
theorem w_room : about1.hasRoom e0.platform room_1 = true :=
  launch0.hasRoom_least _ room_1 (by decide +kernel) (by decide +kernel) (by decide +kernel) (by decide +kernel) (by decide +kernel) (by decide +kernel)
theorem allAtoms_all (ts : List Jvm.Cond) (a : Array Jvm.Value) (st : Jvm.State) : (allAtoms ts).before a st = ts.all (fun c => c.before a st) := by
  induction ts with
  | nil => rfl
  | cons c t ih =>
    show (Jvm.Cond.and c (allAtoms t)).before a st = _
    rw [Jvm.Cond.before_and, ih, List.all_cons]
def words1 : List Jvm.Cond := Jvm.Cond.code x code maxLocals ret :: tables_1
/-- a 'code' word, met by the world's own term for the bytes: nothing is compared byte by byte -/
theorem code_word {y : MethodName} {bytes : ByteArray} {mx : Nat} {rt : Option FieldType} {a : Array Value} {s : State} {m : MethodId} {meth : Method} {c : Code} (h1 : s.methodNamed? y = some m) (h2 : s.vm.method? m = some meth) (h3 : meth.code = some c) (h4 : c.code = bytes)
    (h5 : (c.maxLocals == mx && c.exceptionTable.isEmpty && decide (c.maxStack ≤ mostOperands) && decide (meth.sig.returnType = rt) && !meth.locks && decide (parseMethodDescriptor y.desc = some meth.sig)) = true) : (Jvm.Cond.code y bytes mx rt).before a s = true := by
  simp only [Bool.and_eq_true, beq_iff_eq, Bool.not_eq_true', decide_eq_true_eq] at h5
  obtain ⟨⟨⟨⟨⟨g1, g2⟩, g3⟩, g4⟩, g5⟩, g6⟩ := h5
  simp [Cond.before, Cond.holds, Cond.value, h1, h2, h3, h4, g1, g2, g3, g4, g5, g6]
def isCode : Jvm.Cond → Bool
  | .code _ _ _ _ => true
  | _ => false
theorem all_split {L : List Jvm.Cond} {P : Jvm.Cond → Bool} (h1 : L.all (fun c => isCode c || P c) = true) (h2 : ∀ c ∈ L.filter isCode, P c = true) : L.all P = true := by
  refine List.all_eq_true.mpr fun c hc => ?_
  have h := List.all_eq_true.mp h1 c hc
  rcases Bool.eq_false_or_eq_true (isCode c) with hi | hi
  · exact h2 c (List.mem_filter.mpr ⟨hc, hi⟩)
  · simpa [hi] using h
set_option maxRecDepth 65536 in
theorem w_c0 : (Jvm.Cond.code x code maxLocals ret).before args0 about1 = true := code_word (m := ⟨1, 2⟩) (meth := k1m2) (c := k1c2) (by decide +kernel) rfl rfl rfl (by decide +kernel)
set_option maxRecDepth 65536 in
theorem w_c1 : (Jvm.Cond.code ({ cls := "com/example/vervet/vervet/tool/AllowedOrPinLaw", name := "pick", desc := "(I)Lcom/example/vervet/vervet/tool/ProcessUser$Allowed;" } : Jvm.MethodName) method_2_code (1 : Nat) (Option.some (Jvm.ClassFile.FieldType.object "com/example/vervet/vervet/tool/ProcessUser$Allowed"))).before args0 about1 = true := code_word (m := ⟨1, 1⟩) (meth := k1m1) (c := k1c1) (by decide +kernel) rfl rfl rfl (by decide +kernel)
set_option maxRecDepth 65536 in
theorem w_c2 : (Jvm.Cond.code ({ cls := "java/lang/Math", name := "max", desc := "(II)I" } : Jvm.MethodName) jdk_29_method_65_code (2 : Nat) (Option.some Jvm.ClassFile.FieldType.int)).before args0 about1 = true := code_word (m := ⟨7, 1⟩) (meth := k7m1) (c := k7c1) (by decide +kernel) rfl rfl rfl (by decide +kernel)
set_option maxRecDepth 65536 in
theorem w_c3 : (Jvm.Cond.code ({ cls := "com/example/vervet/vervet/tool/ProcessUser$Allowed", name := "or", desc := "(Lcom/example/vervet/vervet/tool/ProcessUser$Allowed;)Lcom/example/vervet/vervet/tool/ProcessUser$Allowed;" } : Jvm.MethodName) prog_30_method_4_code (2 : Nat) (Option.some (Jvm.ClassFile.FieldType.object "com/example/vervet/vervet/tool/ProcessUser$Allowed"))).before args0 about1 = true := code_word (m := ⟨6, 0⟩) (meth := k6m0) (c := k6c0) (by decide +kernel) rfl rfl rfl (by decide +kernel)
def codes1 : List Jvm.Cond := [Jvm.Cond.code x code maxLocals ret, Jvm.Cond.code ({ cls := "com/example/vervet/vervet/tool/AllowedOrPinLaw", name := "pick", desc := "(I)Lcom/example/vervet/vervet/tool/ProcessUser$Allowed;" } : Jvm.MethodName) method_2_code (1 : Nat) (Option.some (Jvm.ClassFile.FieldType.object "com/example/vervet/vervet/tool/ProcessUser$Allowed")), Jvm.Cond.code ({ cls := "java/lang/Math", name := "max", desc := "(II)I" } : Jvm.MethodName) jdk_29_method_65_code (2 : Nat) (Option.some Jvm.ClassFile.FieldType.int), Jvm.Cond.code ({ cls := "com/example/vervet/vervet/tool/ProcessUser$Allowed", name := "or", desc := "(Lcom/example/vervet/vervet/tool/ProcessUser$Allowed;)Lcom/example/vervet/vervet/tool/ProcessUser$Allowed;" } : Jvm.MethodName) prog_30_method_4_code (2 : Nat) (Option.some (Jvm.ClassFile.FieldType.object "com/example/vervet/vervet/tool/ProcessUser$Allowed"))]
set_option maxRecDepth 65536 in
theorem codes_eq : words1.filter isCode = codes1 := rfl
theorem w_codes : ∀ c ∈ words1.filter isCode, c.before args0 about1 = true := by
  rw [codes_eq]
  intro c hc
  simp only [codes1, List.mem_cons, List.not_mem_nil, or_false] at hc
  rcases hc with rfl | rfl | rfl | rfl
  · exact w_c0
  · exact w_c1
  · exact w_c2
  · exact w_c3
set_option maxRecDepth 65536 in
theorem w_t1 : (words1.take 24).all (fun c => isCode c || c.before args0 about1) = true := by decide +kernel
set_option maxRecDepth 65536 in
theorem w_t2 : (words1.drop 24).all (fun c => isCode c || c.before args0 about1) = true := by decide +kernel
theorem w_tables : (allAtoms (Jvm.Cond.code x code maxLocals ret :: tables_1)).before args0 about1 = true := by
  rw [allAtoms_all]
  show words1.all (fun c => c.before args0 about1) = true
  refine all_split ?_ w_codes
  rw [← List.take_append_drop 24 words1, List.all_append, w_t1, w_t2]
  rfl
set_option maxRecDepth 65536 in
theorem w_case : (Jvm.Cond.and given_1 narrow_1).before args0 about1 = true := by decide +kernel
theorem w_applies : (headSpec (Jvm.Cond.code x code maxLocals ret :: tables_1) room_1).applies x e0.platform about1 = true :=
  (Spec.applies_iff w_frames).mpr ⟨w_running, w_runnable, w_alone, w_named, w_hears, w_ripe, w_room, w_tables⟩
theorem atStart : AtStart classFile x code maxLocals ret World_1 tables_1 room_1 Calls_1 rest_1 Pre_1 launch0 p0 e0 about1 theMethod args0 below0 :=
  ⟨lists_1, trivial, launch0.admits_env _ _ _, launch0.least_env, fairChoices_fair.cas, fairChoices_fair.clock, w_frames, w_args, w_heap, w_applies, trivial, trivial, w_case⟩
end start1
theorem witness_1 : WitnessClaimed_1 := ⟨start1.p0, start1.e0, start1.about1, start1.theMethod, start1.args0, start1.below0, start1.atStart⟩
end Jvm.Pilot.@@N@@
