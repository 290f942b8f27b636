import JvmDerived
import JvmDerived.Pilot.@@N@@Statement
import JvmDerived.Pilot.@@N@@Code
set_option linter.unusedVariables false
set_option linter.unusedSimpArgs false
namespace Jvm.RoadKit
open Sem ClassFile Op Lib Jvm.Stand Jvm.Free Jvm.LawKit
section New
variable {p : Program} {l : Launch} {e : Env} {R : Room} {s : State} {m : MethodId} {args : Array Value} {below : List Frame} {meth : Method} {c : Code} {T : State} {locs : List Loc} {cells slots : Nat}
theorem retI (X : Stand p l e R s m args below meth c T locs cells slots) (hx : p.tables.exec = Jvm.exec) {pc : Nat} {Ls : Array Slot} {z : Int32} {rest : List Value} (hret : meth.sig.returnType = some .int) (hd : decode c.code pc = .ok (.ireturn, 1)) {fs : List Frame}
    (hl : ∀ (f : JFrame) (acts : List Action), f.method = m → f.locked = none → f.entered = [] → (doReturn e (T.setTop f) acts (some (.int z))).1 = T.setFrames fs) : Steps p.tables e below (T.setTop (mkF m pc Ls (.int z :: rest))) (T.setFrames fs) := by
  have hm' : T.vm.method? m = some meth := X.method'
  have hn : narrow .int (.int z) = .int z := rfl
  show Steps p.tables e below (T.setTop { method := m, pc := pc, locals := Ls, stack := _ :: rest, locked := none }) _
  jvm_step X.here [X.here.top, hx, hd, hm', hret, hn]
  first | (intro acts; rw [hl _ acts rfl rfl rfl]) | rw [hl _ _ rfl rfl rfl]
  exact Steps.refl _
end New
end Jvm.RoadKit
namespace Jvm.Pilot.@@N@@
open Jvm Jvm.ClassFile Sem Op Lib Jvm.Free Jvm.Stand Jvm.LawKit Jvm.RoadKit Bundle Jvm.Pilot.@@N@@.Jvm.D
def QR (r : Option Value) (h0 : Heap) (n0 : Nat) (v : Option Value) (h : Heap) (L : List Loc) : Prop := v = r ∧ Fr n0 L ∧ h = h0
def QL (r : Option Value) (n0 : Nat) (v : Option Value) (h : Heap) (L : List Loc) : Prop := v = r ∧ Fr n0 L
theorem own_sta {s : State} {args : Array Value} {C n d K : String} (hi : (Jvm.Cond.initialized C).before args s = true) (hl : (Jvm.Cond.laysStatic C n d).before args s = true) (hx : (Jvm.Cond.exactly (.static C n d) K).value args s none s [] = some true) :
    ∃ a, (Term.static C n d).eval args s none [] s = some (.ref a) ∧ Sta s s.heap C n d (.ref a) ∧ Exa s s.heap a K := by
  obtain ⟨a, ev⟩ := exa_v hx
  exact ⟨a, ev, Sta.start ev (Or.inr ⟨hi, hl⟩), Exa.start ev hx⟩
theorem own_fld {s : State} {args : Array Value} {t : Term} {C n d : String} {k : Int32} {a : Addr} (ev : t.eval args s none [] s = some (.ref a)) (h : (Jvm.Cond.eq (.field t C n d) (.int k)).value args s none s [] = some true) : Fld s s.heap a C n d (.int k) := by
  obtain ⟨x, y, e1, e2, k1, k2⟩ := cmp_v (Or.inl h)
  rw [Term.int_eval] at e2
  cases e2
  obtain ⟨z, rfl⟩ := k2
  have hz : z = k := by simpa [Cond.value, e1, Term.int_eval] using h
  subst hz
  exact Fld.start ((fld_at ev).symm.trans e1)
theorem own_mod (x d : Int32) (n : Int) (hd : d.toInt = n) (hn : 0 < n) : 0 ≤ (HMod.hMod (x &&& (2147483647 : Int32)) d).toInt ∧ (HMod.hMod (x &&& (2147483647 : Int32)) d).toInt < n := by
  have h1 := (c_and x 2147483647 (by decide)).1
  have h2 := (c_irem (x &&& 2147483647) d n hd).1 h1
  have h3 : (HMod.hMod (x &&& (2147483647 : Int32)) d).toInt = (x &&& 2147483647).toInt % n := h2
  rw [h3]
  exact ⟨Int.emod_nonneg _ (by omega), Int.emod_lt_of_pos _ hn⟩
theorem own_is {x : Int32} (y : Int32) (h : x.toInt = y.toInt) : x = y := Int32.toInt_inj.mp h

def Gr (a b : Addr) (v : Int32) (r w m : Addr) : Prop := (a = b ∧ v = 1) ∨ (¬ a = b ∧ a = r ∧ v = 1) ∨ (¬ a = b ∧ ¬ a = r ∧ a = m ∧ b = w ∧ v = 1) ∨ (¬ a = b ∧ ¬ a = r ∧ a = m ∧ ¬ b = w ∧ v = 0) ∨ (¬ a = b ∧ ¬ a = r ∧ ¬ a = m ∧ v = 0)
theorem own_six (x : Int32) : HMod.hMod (x &&& (2147483647 : Int32)) (6 : Int32) = 0 ∨ HMod.hMod (x &&& (2147483647 : Int32)) (6 : Int32) = 1 ∨ HMod.hMod (x &&& (2147483647 : Int32)) (6 : Int32) = 2 ∨ HMod.hMod (x &&& (2147483647 : Int32)) (6 : Int32) = 3 ∨ HMod.hMod (x &&& (2147483647 : Int32)) (6 : Int32) = 4 ∨ HMod.hMod (x &&& (2147483647 : Int32)) (6 : Int32) = 5 := by
  obtain ⟨h1, h2⟩ := own_mod x 6 6 (by decide) (by decide)
  have e : ∀ k : Int32, (HMod.hMod (x &&& (2147483647 : Int32)) (6 : Int32)).toInt = k.toInt → HMod.hMod (x &&& (2147483647 : Int32)) (6 : Int32) = k := fun k h => own_is k h
  have e0 : (0 : Int32).toInt = 0 := rfl
  have e1 : (1 : Int32).toInt = 1 := rfl
  have e2 : (2 : Int32).toInt = 2 := rfl
  have e3 : (3 : Int32).toInt = 3 := rfl
  have e4 : (4 : Int32).toInt = 4 := rfl
  have e5 : (5 : Int32).toInt = 5 := rfl
  generalize HMod.hMod (x &&& (2147483647 : Int32)) (6 : Int32) = y at *
  rcases (by omega : y.toInt = 0 ∨ y.toInt = 1 ∨ y.toInt = 2 ∨ y.toInt = 3 ∨ y.toInt = 4 ∨ y.toInt = 5) with h | h | h | h | h | h
  · exact Or.inl (e 0 (h.trans e0.symm))
  · exact Or.inr (Or.inl (e 1 (h.trans e1.symm)))
  · exact Or.inr (Or.inr (Or.inl (e 2 (h.trans e2.symm))))
  · exact Or.inr (Or.inr (Or.inr (Or.inl (e 3 (h.trans e3.symm)))))
  · exact Or.inr (Or.inr (Or.inr (Or.inr (Or.inl (e 4 (h.trans e4.symm))))))
  · exact Or.inr (Or.inr (Or.inr (Or.inr (Or.inr (e 5 (h.trans e5.symm))))))

theorem d1_0 : decode prog_58_method_5_code 0 = .ok (.aload_n 0, 1) := by decide +kernel
theorem d1_1 : decode prog_58_method_5_code 1 = .ok (.aload_n 1, 1) := by decide +kernel
theorem d1_2 : decode prog_58_method_5_code 2 = .ok (.if_acmp .eq 24, 3) := by decide +kernel
theorem d1_26 : decode prog_58_method_5_code 26 = .ok (.iconst 1, 1) := by decide +kernel
theorem d1_27 : decode prog_58_method_5_code 27 = .ok (.goto 4, 3) := by decide +kernel
theorem d1_31 : decode prog_58_method_5_code 31 = .ok (.ireturn, 1) := by decide +kernel
theorem pn_1 : plainName "com/example/holdfast/holdfast/tenant/Permission" = true := by first | (simp [plainName, overriddenIn]; done) | decide +kernel
theorem ef_1 (m : MethodId) (x0 : Addr) (x1 : Addr) : entryFrame m #[(.ref x0), (.ref x1)] 2 = mkF m 0 #[.val (.ref x0), .val (.ref x1)] [] := by first | (simp [entryFrame, mkF, argsToLocals, Value.category]; done) | rfl
set_option maxRecDepth 65536 in
set_option maxHeartbeats 40000000 in
theorem rm1_t (l : Launch) (Z : State) (a0 : Array Value) (hw : ∀ d ∈ tables_1, d.before a0 Z = true) (ws : List Jvm.Cond) (a1 : Addr) (a2 : Addr) (w_ROOT_ACCESS : Addr) (w_VIEW_ALL_BUCKETS : Addr) (w_MANAGE_ALL_BUCKETS : Addr) (h0 : Heap) (n0 : Nat) (Z0 : n0 ≤ h0.size) (S_ROOT_ACCESS : Sta Z h0 "com/example/holdfast/holdfast/tenant/Permission" "ROOT_ACCESS" "Lcom/example/holdfast/holdfast/tenant/Permission;" (.ref w_ROOT_ACCESS)) (S_VIEW_ALL_BUCKETS : Sta Z h0 "com/example/holdfast/holdfast/tenant/Permission" "VIEW_ALL_BUCKETS" "Lcom/example/holdfast/holdfast/tenant/Permission;" (.ref w_VIEW_ALL_BUCKETS)) (S_MANAGE_ALL_BUCKETS : Sta Z h0 "com/example/holdfast/holdfast/tenant/Permission" "MANAGE_ALL_BUCKETS" "Lcom/example/holdfast/holdfast/tenant/Permission;" (.ref w_MANAGE_ALL_BUCKETS)) (ha2 : a1 = a2) :
    MetFree l (⟨"com/example/holdfast/holdfast/tenant/Permission", "grants", "(Lcom/example/holdfast/holdfast/tenant/Permission;)Z"⟩ : MethodName) (head1 (Jvm.Cond.code (⟨"com/example/holdfast/holdfast/tenant/Permission", "grants", "(Lcom/example/holdfast/holdfast/tenant/Permission;)Z"⟩ : MethodName) prog_58_method_5_code 2 (some .boolean) :: ws) ({ frames := 0, cells := 0, slots := 0, locals := 0 } : Room)) (fun a U => a = #[(.ref a1), (.ref a2)] ∧ Z.Warmed39 U.vm ∧ U.heap = h0) (fun _ _ _ _ _ => True) (fun _ U o U' => ∃ v L, o = .returned v ∧ QR (some (.int (1 : Int32))) h0 n0 v U'.heap L ∧ FrameEnd U o U' L ({ frames := 0, cells := 0, slots := 0, locals := 0 } : Room).cells ({ frames := 0, cells := 0, slots := 0, locals := 0 } : Room).slots) := by
  refine MetFree.of_bodySF (plainFor_of_name pn_1) hisR ?_
  intro p e s m args below meth c s₁ Bd hml0 hP hK
  obtain ⟨rfl, hZ, hh⟩ := hP
  have hx := Bd.exec
  have hby := Bd.bytes
  have hml : c.maxLocals = 2 := hml0
  have hown : s.vm.findClass "com/example/holdfast/holdfast/tenant/Permission" = some m.cls := findClass_of_methodNamed Bd.named
  have hnm := (name_of_methodNamed Bd.named Bd.method).1
  have X0 : Stand p l e ({ frames := 0, cells := 0, slots := 0, locals := 0 } : Room) s m #[(.ref a1), (.ref a2)] below meth c s₁ [] 0 0 := Stand.of_body Bd
  have e0 : s₁.heap = h0 := by rw [← hh, Bd.state]; rfl
  have N0 := Fr.nil n0
  have pre0 : ∀ t, Steps p.tables e below (s₁.setTop (mkF m 0 #[.val (.ref a1), .val (.ref a2)] [])) t → Steps p.tables e below (s₁.setTop (entryFrame m #[(.ref a1), (.ref a2)] 2)) t := fun t k => castTop (ef_1 m a1 a2) k

  obtain ⟨fs, hr, hrun, hended, hW, hsame⟩ := X0.leave (v := some (.int (1 : Int32))) (fun h => by rw [Bd.returns] at h; cases h)
  refine ⟨_, _, pre0 _ ?_, hrun, hended, _, _, rfl, ?_, ⟨_, rfl⟩, hW, hsame.mono (by decide) (by decide)⟩
  · show Steps p.tables e below (s₁.setTop (mkF m 0 #[.val (.ref a1), .val (.ref a2)] [])) _
    refine XS.aloadN X0.here hx rfl (hb hby d1_0) rfl rfl ?_
    show Steps p.tables e below (s₁.setTop (mkF m 1 #[.val (.ref a1), .val (.ref a2)] [(.ref a1)])) _
    refine XS.aloadN X0.here hx rfl (hb hby d1_1) rfl rfl ?_
    show Steps p.tables e below (s₁.setTop (mkF m 2 #[.val (.ref a1), .val (.ref a2)] [(.ref a2), (.ref a1)])) _
    refine Jvm.RoadKit.acmp (g := (mkF m 2 #[.val (.ref a1), .val (.ref a2)] [(.ref a2), (.ref a1)])) X0 hx rfl rfl rfl (pc0 := 2) (pc' := 26) (same := true) rfl (hb hby d1_2) rfl (decide_eq_true (congrArg Value.ref ha2)) (by decide) (by decide) ?_
    show Steps p.tables e below (s₁.setTop (mkF m 26 #[.val (.ref a1), .val (.ref a2)] [])) _
    refine XS.iconst X0.here hx rfl (hb hby d1_26) ?_
    show Steps p.tables e below (s₁.setTop (mkF m 27 #[.val (.ref a1), .val (.ref a2)] [(.int (1 : Int32))])) _
    refine XS.goto X0.here hx rfl (pc0 := 27) (pc' := 31) rfl (hb hby d1_27) (by decide) (by decide) ?_
    show Steps p.tables e below (s₁.setTop (mkF m 31 #[.val (.ref a1), .val (.ref a2)] [(.int (1 : Int32))])) _
    exact retN X0 hx (t := .boolean) Bd.returns (by simp) (hb hby d1_31) hr
  · show QR (some (.int (1 : Int32))) h0 n0 _ s₁.heap _
    rw [e0]
    exact ⟨rfl, N0, rfl⟩

theorem d1_5 : decode prog_58_method_5_code 5 = .ok (.aload_n 0, 1) := by decide +kernel
theorem d1_6 : decode prog_58_method_5_code 6 = .ok (.getstatic 3, 3) := by decide +kernel
theorem d1_9 : decode prog_58_method_5_code 9 = .ok (.if_acmp .eq 17, 3) := by decide +kernel
set_option maxRecDepth 65536 in
set_option maxHeartbeats 40000000 in
theorem rm1_ft (l : Launch) (Z : State) (a0 : Array Value) (hw : ∀ d ∈ tables_1, d.before a0 Z = true) (ws : List Jvm.Cond) (a1 : Addr) (a2 : Addr) (w_ROOT_ACCESS : Addr) (w_VIEW_ALL_BUCKETS : Addr) (w_MANAGE_ALL_BUCKETS : Addr) (h0 : Heap) (n0 : Nat) (Z0 : n0 ≤ h0.size) (S_ROOT_ACCESS : Sta Z h0 "com/example/holdfast/holdfast/tenant/Permission" "ROOT_ACCESS" "Lcom/example/holdfast/holdfast/tenant/Permission;" (.ref w_ROOT_ACCESS)) (S_VIEW_ALL_BUCKETS : Sta Z h0 "com/example/holdfast/holdfast/tenant/Permission" "VIEW_ALL_BUCKETS" "Lcom/example/holdfast/holdfast/tenant/Permission;" (.ref w_VIEW_ALL_BUCKETS)) (S_MANAGE_ALL_BUCKETS : Sta Z h0 "com/example/holdfast/holdfast/tenant/Permission" "MANAGE_ALL_BUCKETS" "Lcom/example/holdfast/holdfast/tenant/Permission;" (.ref w_MANAGE_ALL_BUCKETS)) (ha2 : ¬ (a1 = a2)) (ha9 : a1 = w_ROOT_ACCESS) :
    MetFree l (⟨"com/example/holdfast/holdfast/tenant/Permission", "grants", "(Lcom/example/holdfast/holdfast/tenant/Permission;)Z"⟩ : MethodName) (head1 (Jvm.Cond.code (⟨"com/example/holdfast/holdfast/tenant/Permission", "grants", "(Lcom/example/holdfast/holdfast/tenant/Permission;)Z"⟩ : MethodName) prog_58_method_5_code 2 (some .boolean) :: ws) ({ frames := 0, cells := 0, slots := 0, locals := 0 } : Room)) (fun a U => a = #[(.ref a1), (.ref a2)] ∧ Z.Warmed39 U.vm ∧ U.heap = h0) (fun _ _ _ _ _ => True) (fun _ U o U' => ∃ v L, o = .returned v ∧ QR (some (.int (1 : Int32))) h0 n0 v U'.heap L ∧ FrameEnd U o U' L ({ frames := 0, cells := 0, slots := 0, locals := 0 } : Room).cells ({ frames := 0, cells := 0, slots := 0, locals := 0 } : Room).slots) := by
  refine MetFree.of_bodySF (plainFor_of_name pn_1) hisR ?_
  intro p e s m args below meth c s₁ Bd hml0 hP hK
  obtain ⟨rfl, hZ, hh⟩ := hP
  have hx := Bd.exec
  have hby := Bd.bytes
  have hml : c.maxLocals = 2 := hml0
  have hown : s.vm.findClass "com/example/holdfast/holdfast/tenant/Permission" = some m.cls := findClass_of_methodNamed Bd.named
  have hnm := (name_of_methodNamed Bd.named Bd.method).1
  have X0 : Stand p l e ({ frames := 0, cells := 0, slots := 0, locals := 0 } : Room) s m #[(.ref a1), (.ref a2)] below meth c s₁ [] 0 0 := Stand.of_body Bd
  have e0 : s₁.heap = h0 := by rw [← hh, Bd.state]; rfl
  have N0 := Fr.nil n0
  have pre0 : ∀ t, Steps p.tables e below (s₁.setTop (mkF m 0 #[.val (.ref a1), .val (.ref a2)] [])) t → Steps p.tables e below (s₁.setTop (entryFrame m #[(.ref a1), (.ref a2)] 2)) t := fun t k => castTop (ef_1 m a1 a2) k
  obtain ⟨T3, X3, e3, st3⟩ := getS2 X0 hx hZ hown (host := "") (Or.inl (hw _ (List.mem_of_getElem? (i := 23) rfl))) Via.refl e0 S_ROOT_ACCESS (g := (mkF m 6 #[.val (.ref a1), .val (.ref a2)] [(.ref a1)])) rfl (hb hby d1_6)
  obtain ⟨fs, hr, hrun, hended, hW, hsame⟩ := X3.leave (v := some (.int (1 : Int32))) (fun h => by rw [Bd.returns] at h; cases h)
  refine ⟨_, _, pre0 _ ?_, hrun, hended, _, _, rfl, ?_, ⟨_, rfl⟩, hW, hsame.mono (by decide) (by decide)⟩
  · show Steps p.tables e below (s₁.setTop (mkF m 0 #[.val (.ref a1), .val (.ref a2)] [])) _
    refine XS.aloadN X0.here hx rfl (hb hby d1_0) rfl rfl ?_
    show Steps p.tables e below (s₁.setTop (mkF m 1 #[.val (.ref a1), .val (.ref a2)] [(.ref a1)])) _
    refine XS.aloadN X0.here hx rfl (hb hby d1_1) rfl rfl ?_
    show Steps p.tables e below (s₁.setTop (mkF m 2 #[.val (.ref a1), .val (.ref a2)] [(.ref a2), (.ref a1)])) _
    refine Jvm.RoadKit.acmp (g := (mkF m 2 #[.val (.ref a1), .val (.ref a2)] [(.ref a2), (.ref a1)])) X0 hx rfl rfl rfl (pc0 := 2) (pc' := 5) (same := false) rfl (hb hby d1_2) rfl (decide_eq_false fun q => ha2 (Value.ref.inj q)) (by decide) (by decide) ?_
    show Steps p.tables e below (s₁.setTop (mkF m 5 #[.val (.ref a1), .val (.ref a2)] [])) _
    refine XS.aloadN X0.here hx rfl (hb hby d1_5) rfl rfl ?_
    show Steps p.tables e below (s₁.setTop (mkF m 6 #[.val (.ref a1), .val (.ref a2)] [(.ref a1)])) _
    refine st3 _ ?_
    show Steps p.tables e below (T3.setTop (mkF m 9 #[.val (.ref a1), .val (.ref a2)] [(.ref w_ROOT_ACCESS), (.ref a1)])) _
    refine Jvm.RoadKit.acmp (g := (mkF m 9 #[.val (.ref a1), .val (.ref a2)] [(.ref w_ROOT_ACCESS), (.ref a1)])) X3 hx rfl rfl rfl (pc0 := 9) (pc' := 26) (same := true) rfl (hb hby d1_9) rfl (decide_eq_true (congrArg Value.ref ha9)) (by decide) (by decide) ?_
    show Steps p.tables e below (T3.setTop (mkF m 26 #[.val (.ref a1), .val (.ref a2)] [])) _
    refine XS.iconst X3.here hx rfl (hb hby d1_26) ?_
    show Steps p.tables e below (T3.setTop (mkF m 27 #[.val (.ref a1), .val (.ref a2)] [(.int (1 : Int32))])) _
    refine XS.goto X3.here hx rfl (pc0 := 27) (pc' := 31) rfl (hb hby d1_27) (by decide) (by decide) ?_
    show Steps p.tables e below (T3.setTop (mkF m 31 #[.val (.ref a1), .val (.ref a2)] [(.int (1 : Int32))])) _
    exact retN X3 hx (t := .boolean) Bd.returns (by simp) (hb hby d1_31) hr
  · show QR (some (.int (1 : Int32))) h0 n0 _ T3.heap _
    rw [e3]
    exact ⟨rfl, N0, rfl⟩

theorem d1_12 : decode prog_58_method_5_code 12 = .ok (.aload_n 0, 1) := by decide +kernel
theorem d1_13 : decode prog_58_method_5_code 13 = .ok (.getstatic 13, 3) := by decide +kernel
theorem d1_16 : decode prog_58_method_5_code 16 = .ok (.if_acmp .ne 14, 3) := by decide +kernel
theorem d1_19 : decode prog_58_method_5_code 19 = .ok (.aload_n 1, 1) := by decide +kernel
theorem d1_20 : decode prog_58_method_5_code 20 = .ok (.getstatic 10, 3) := by decide +kernel
theorem d1_23 : decode prog_58_method_5_code 23 = .ok (.if_acmp .ne 7, 3) := by decide +kernel
set_option maxRecDepth 65536 in
set_option maxHeartbeats 40000000 in
theorem rm1_ffff (l : Launch) (Z : State) (a0 : Array Value) (hw : ∀ d ∈ tables_1, d.before a0 Z = true) (ws : List Jvm.Cond) (a1 : Addr) (a2 : Addr) (w_ROOT_ACCESS : Addr) (w_VIEW_ALL_BUCKETS : Addr) (w_MANAGE_ALL_BUCKETS : Addr) (h0 : Heap) (n0 : Nat) (Z0 : n0 ≤ h0.size) (S_ROOT_ACCESS : Sta Z h0 "com/example/holdfast/holdfast/tenant/Permission" "ROOT_ACCESS" "Lcom/example/holdfast/holdfast/tenant/Permission;" (.ref w_ROOT_ACCESS)) (S_VIEW_ALL_BUCKETS : Sta Z h0 "com/example/holdfast/holdfast/tenant/Permission" "VIEW_ALL_BUCKETS" "Lcom/example/holdfast/holdfast/tenant/Permission;" (.ref w_VIEW_ALL_BUCKETS)) (S_MANAGE_ALL_BUCKETS : Sta Z h0 "com/example/holdfast/holdfast/tenant/Permission" "MANAGE_ALL_BUCKETS" "Lcom/example/holdfast/holdfast/tenant/Permission;" (.ref w_MANAGE_ALL_BUCKETS)) (ha2 : ¬ (a1 = a2)) (ha9 : ¬ (a1 = w_ROOT_ACCESS)) (ha16 : a1 = w_MANAGE_ALL_BUCKETS) (ha23 : a2 = w_VIEW_ALL_BUCKETS) :
    MetFree l (⟨"com/example/holdfast/holdfast/tenant/Permission", "grants", "(Lcom/example/holdfast/holdfast/tenant/Permission;)Z"⟩ : MethodName) (head1 (Jvm.Cond.code (⟨"com/example/holdfast/holdfast/tenant/Permission", "grants", "(Lcom/example/holdfast/holdfast/tenant/Permission;)Z"⟩ : MethodName) prog_58_method_5_code 2 (some .boolean) :: ws) ({ frames := 0, cells := 0, slots := 0, locals := 0 } : Room)) (fun a U => a = #[(.ref a1), (.ref a2)] ∧ Z.Warmed39 U.vm ∧ U.heap = h0) (fun _ _ _ _ _ => True) (fun _ U o U' => ∃ v L, o = .returned v ∧ QR (some (.int (1 : Int32))) h0 n0 v U'.heap L ∧ FrameEnd U o U' L ({ frames := 0, cells := 0, slots := 0, locals := 0 } : Room).cells ({ frames := 0, cells := 0, slots := 0, locals := 0 } : Room).slots) := by
  refine MetFree.of_bodySF (plainFor_of_name pn_1) hisR ?_
  intro p e s m args below meth c s₁ Bd hml0 hP hK
  obtain ⟨rfl, hZ, hh⟩ := hP
  have hx := Bd.exec
  have hby := Bd.bytes
  have hml : c.maxLocals = 2 := hml0
  have hown : s.vm.findClass "com/example/holdfast/holdfast/tenant/Permission" = some m.cls := findClass_of_methodNamed Bd.named
  have hnm := (name_of_methodNamed Bd.named Bd.method).1
  have X0 : Stand p l e ({ frames := 0, cells := 0, slots := 0, locals := 0 } : Room) s m #[(.ref a1), (.ref a2)] below meth c s₁ [] 0 0 := Stand.of_body Bd
  have e0 : s₁.heap = h0 := by rw [← hh, Bd.state]; rfl
  have N0 := Fr.nil n0
  have pre0 : ∀ t, Steps p.tables e below (s₁.setTop (mkF m 0 #[.val (.ref a1), .val (.ref a2)] [])) t → Steps p.tables e below (s₁.setTop (entryFrame m #[(.ref a1), (.ref a2)] 2)) t := fun t k => castTop (ef_1 m a1 a2) k
  obtain ⟨T3, X3, e3, st3⟩ := getS2 X0 hx hZ hown (host := "") (Or.inl (hw _ (List.mem_of_getElem? (i := 23) rfl))) Via.refl e0 S_ROOT_ACCESS (g := (mkF m 6 #[.val (.ref a1), .val (.ref a2)] [(.ref a1)])) rfl (hb hby d1_6)
  obtain ⟨T4, X4, e4, st4⟩ := getS2 X3 hx hZ hown (host := "") (Or.inl (hw _ (List.mem_of_getElem? (i := 24) rfl))) Via.refl e3 S_MANAGE_ALL_BUCKETS (g := (mkF m 13 #[.val (.ref a1), .val (.ref a2)] [(.ref a1)])) rfl (hb hby d1_13)
  obtain ⟨T5, X5, e5, st5⟩ := getS2 X4 hx hZ hown (host := "") (Or.inl (hw _ (List.mem_of_getElem? (i := 25) rfl))) Via.refl e4 S_VIEW_ALL_BUCKETS (g := (mkF m 20 #[.val (.ref a1), .val (.ref a2)] [(.ref a2)])) rfl (hb hby d1_20)
  obtain ⟨fs, hr, hrun, hended, hW, hsame⟩ := X5.leave (v := some (.int (1 : Int32))) (fun h => by rw [Bd.returns] at h; cases h)
  refine ⟨_, _, pre0 _ ?_, hrun, hended, _, _, rfl, ?_, ⟨_, rfl⟩, hW, hsame.mono (by decide) (by decide)⟩
  · show Steps p.tables e below (s₁.setTop (mkF m 0 #[.val (.ref a1), .val (.ref a2)] [])) _
    refine XS.aloadN X0.here hx rfl (hb hby d1_0) rfl rfl ?_
    show Steps p.tables e below (s₁.setTop (mkF m 1 #[.val (.ref a1), .val (.ref a2)] [(.ref a1)])) _
    refine XS.aloadN X0.here hx rfl (hb hby d1_1) rfl rfl ?_
    show Steps p.tables e below (s₁.setTop (mkF m 2 #[.val (.ref a1), .val (.ref a2)] [(.ref a2), (.ref a1)])) _
    refine Jvm.RoadKit.acmp (g := (mkF m 2 #[.val (.ref a1), .val (.ref a2)] [(.ref a2), (.ref a1)])) X0 hx rfl rfl rfl (pc0 := 2) (pc' := 5) (same := false) rfl (hb hby d1_2) rfl (decide_eq_false fun q => ha2 (Value.ref.inj q)) (by decide) (by decide) ?_
    show Steps p.tables e below (s₁.setTop (mkF m 5 #[.val (.ref a1), .val (.ref a2)] [])) _
    refine XS.aloadN X0.here hx rfl (hb hby d1_5) rfl rfl ?_
    show Steps p.tables e below (s₁.setTop (mkF m 6 #[.val (.ref a1), .val (.ref a2)] [(.ref a1)])) _
    refine st3 _ ?_
    show Steps p.tables e below (T3.setTop (mkF m 9 #[.val (.ref a1), .val (.ref a2)] [(.ref w_ROOT_ACCESS), (.ref a1)])) _
    refine Jvm.RoadKit.acmp (g := (mkF m 9 #[.val (.ref a1), .val (.ref a2)] [(.ref w_ROOT_ACCESS), (.ref a1)])) X3 hx rfl rfl rfl (pc0 := 9) (pc' := 12) (same := false) rfl (hb hby d1_9) rfl (decide_eq_false fun q => ha9 (Value.ref.inj q)) (by decide) (by decide) ?_
    show Steps p.tables e below (T3.setTop (mkF m 12 #[.val (.ref a1), .val (.ref a2)] [])) _
    refine XS.aloadN X3.here hx rfl (hb hby d1_12) rfl rfl ?_
    show Steps p.tables e below (T3.setTop (mkF m 13 #[.val (.ref a1), .val (.ref a2)] [(.ref a1)])) _
    refine st4 _ ?_
    show Steps p.tables e below (T4.setTop (mkF m 16 #[.val (.ref a1), .val (.ref a2)] [(.ref w_MANAGE_ALL_BUCKETS), (.ref a1)])) _
    refine Jvm.RoadKit.acmp (g := (mkF m 16 #[.val (.ref a1), .val (.ref a2)] [(.ref w_MANAGE_ALL_BUCKETS), (.ref a1)])) X4 hx rfl rfl rfl (pc0 := 16) (pc' := 19) (same := true) rfl (hb hby d1_16) rfl (decide_eq_true (congrArg Value.ref ha16)) (by decide) (by decide) ?_
    show Steps p.tables e below (T4.setTop (mkF m 19 #[.val (.ref a1), .val (.ref a2)] [])) _
    refine XS.aloadN X4.here hx rfl (hb hby d1_19) rfl rfl ?_
    show Steps p.tables e below (T4.setTop (mkF m 20 #[.val (.ref a1), .val (.ref a2)] [(.ref a2)])) _
    refine st5 _ ?_
    show Steps p.tables e below (T5.setTop (mkF m 23 #[.val (.ref a1), .val (.ref a2)] [(.ref w_VIEW_ALL_BUCKETS), (.ref a2)])) _
    refine Jvm.RoadKit.acmp (g := (mkF m 23 #[.val (.ref a1), .val (.ref a2)] [(.ref w_VIEW_ALL_BUCKETS), (.ref a2)])) X5 hx rfl rfl rfl (pc0 := 23) (pc' := 26) (same := true) rfl (hb hby d1_23) rfl (decide_eq_true (congrArg Value.ref ha23)) (by decide) (by decide) ?_
    show Steps p.tables e below (T5.setTop (mkF m 26 #[.val (.ref a1), .val (.ref a2)] [])) _
    refine XS.iconst X5.here hx rfl (hb hby d1_26) ?_
    show Steps p.tables e below (T5.setTop (mkF m 27 #[.val (.ref a1), .val (.ref a2)] [(.int (1 : Int32))])) _
    refine XS.goto X5.here hx rfl (pc0 := 27) (pc' := 31) rfl (hb hby d1_27) (by decide) (by decide) ?_
    show Steps p.tables e below (T5.setTop (mkF m 31 #[.val (.ref a1), .val (.ref a2)] [(.int (1 : Int32))])) _
    exact retN X5 hx (t := .boolean) Bd.returns (by simp) (hb hby d1_31) hr
  · show QR (some (.int (1 : Int32))) h0 n0 _ T5.heap _
    rw [e5]
    exact ⟨rfl, N0, rfl⟩

theorem d1_30 : decode prog_58_method_5_code 30 = .ok (.iconst 0, 1) := by decide +kernel
set_option maxRecDepth 65536 in
set_option maxHeartbeats 40000000 in
theorem rm1_ffft (l : Launch) (Z : State) (a0 : Array Value) (hw : ∀ d ∈ tables_1, d.before a0 Z = true) (ws : List Jvm.Cond) (a1 : Addr) (a2 : Addr) (w_ROOT_ACCESS : Addr) (w_VIEW_ALL_BUCKETS : Addr) (w_MANAGE_ALL_BUCKETS : Addr) (h0 : Heap) (n0 : Nat) (Z0 : n0 ≤ h0.size) (S_ROOT_ACCESS : Sta Z h0 "com/example/holdfast/holdfast/tenant/Permission" "ROOT_ACCESS" "Lcom/example/holdfast/holdfast/tenant/Permission;" (.ref w_ROOT_ACCESS)) (S_VIEW_ALL_BUCKETS : Sta Z h0 "com/example/holdfast/holdfast/tenant/Permission" "VIEW_ALL_BUCKETS" "Lcom/example/holdfast/holdfast/tenant/Permission;" (.ref w_VIEW_ALL_BUCKETS)) (S_MANAGE_ALL_BUCKETS : Sta Z h0 "com/example/holdfast/holdfast/tenant/Permission" "MANAGE_ALL_BUCKETS" "Lcom/example/holdfast/holdfast/tenant/Permission;" (.ref w_MANAGE_ALL_BUCKETS)) (ha2 : ¬ (a1 = a2)) (ha9 : ¬ (a1 = w_ROOT_ACCESS)) (ha16 : a1 = w_MANAGE_ALL_BUCKETS) (ha23 : ¬ (a2 = w_VIEW_ALL_BUCKETS)) :
    MetFree l (⟨"com/example/holdfast/holdfast/tenant/Permission", "grants", "(Lcom/example/holdfast/holdfast/tenant/Permission;)Z"⟩ : MethodName) (head1 (Jvm.Cond.code (⟨"com/example/holdfast/holdfast/tenant/Permission", "grants", "(Lcom/example/holdfast/holdfast/tenant/Permission;)Z"⟩ : MethodName) prog_58_method_5_code 2 (some .boolean) :: ws) ({ frames := 0, cells := 0, slots := 0, locals := 0 } : Room)) (fun a U => a = #[(.ref a1), (.ref a2)] ∧ Z.Warmed39 U.vm ∧ U.heap = h0) (fun _ _ _ _ _ => True) (fun _ U o U' => ∃ v L, o = .returned v ∧ QR (some (.int (0 : Int32))) h0 n0 v U'.heap L ∧ FrameEnd U o U' L ({ frames := 0, cells := 0, slots := 0, locals := 0 } : Room).cells ({ frames := 0, cells := 0, slots := 0, locals := 0 } : Room).slots) := by
  refine MetFree.of_bodySF (plainFor_of_name pn_1) hisR ?_
  intro p e s m args below meth c s₁ Bd hml0 hP hK
  obtain ⟨rfl, hZ, hh⟩ := hP
  have hx := Bd.exec
  have hby := Bd.bytes
  have hml : c.maxLocals = 2 := hml0
  have hown : s.vm.findClass "com/example/holdfast/holdfast/tenant/Permission" = some m.cls := findClass_of_methodNamed Bd.named
  have hnm := (name_of_methodNamed Bd.named Bd.method).1
  have X0 : Stand p l e ({ frames := 0, cells := 0, slots := 0, locals := 0 } : Room) s m #[(.ref a1), (.ref a2)] below meth c s₁ [] 0 0 := Stand.of_body Bd
  have e0 : s₁.heap = h0 := by rw [← hh, Bd.state]; rfl
  have N0 := Fr.nil n0
  have pre0 : ∀ t, Steps p.tables e below (s₁.setTop (mkF m 0 #[.val (.ref a1), .val (.ref a2)] [])) t → Steps p.tables e below (s₁.setTop (entryFrame m #[(.ref a1), (.ref a2)] 2)) t := fun t k => castTop (ef_1 m a1 a2) k
  obtain ⟨T3, X3, e3, st3⟩ := getS2 X0 hx hZ hown (host := "") (Or.inl (hw _ (List.mem_of_getElem? (i := 23) rfl))) Via.refl e0 S_ROOT_ACCESS (g := (mkF m 6 #[.val (.ref a1), .val (.ref a2)] [(.ref a1)])) rfl (hb hby d1_6)
  obtain ⟨T4, X4, e4, st4⟩ := getS2 X3 hx hZ hown (host := "") (Or.inl (hw _ (List.mem_of_getElem? (i := 24) rfl))) Via.refl e3 S_MANAGE_ALL_BUCKETS (g := (mkF m 13 #[.val (.ref a1), .val (.ref a2)] [(.ref a1)])) rfl (hb hby d1_13)
  obtain ⟨T5, X5, e5, st5⟩ := getS2 X4 hx hZ hown (host := "") (Or.inl (hw _ (List.mem_of_getElem? (i := 25) rfl))) Via.refl e4 S_VIEW_ALL_BUCKETS (g := (mkF m 20 #[.val (.ref a1), .val (.ref a2)] [(.ref a2)])) rfl (hb hby d1_20)
  obtain ⟨fs, hr, hrun, hended, hW, hsame⟩ := X5.leave (v := some (.int (0 : Int32))) (fun h => by rw [Bd.returns] at h; cases h)
  refine ⟨_, _, pre0 _ ?_, hrun, hended, _, _, rfl, ?_, ⟨_, rfl⟩, hW, hsame.mono (by decide) (by decide)⟩
  · show Steps p.tables e below (s₁.setTop (mkF m 0 #[.val (.ref a1), .val (.ref a2)] [])) _
    refine XS.aloadN X0.here hx rfl (hb hby d1_0) rfl rfl ?_
    show Steps p.tables e below (s₁.setTop (mkF m 1 #[.val (.ref a1), .val (.ref a2)] [(.ref a1)])) _
    refine XS.aloadN X0.here hx rfl (hb hby d1_1) rfl rfl ?_
    show Steps p.tables e below (s₁.setTop (mkF m 2 #[.val (.ref a1), .val (.ref a2)] [(.ref a2), (.ref a1)])) _
    refine Jvm.RoadKit.acmp (g := (mkF m 2 #[.val (.ref a1), .val (.ref a2)] [(.ref a2), (.ref a1)])) X0 hx rfl rfl rfl (pc0 := 2) (pc' := 5) (same := false) rfl (hb hby d1_2) rfl (decide_eq_false fun q => ha2 (Value.ref.inj q)) (by decide) (by decide) ?_
    show Steps p.tables e below (s₁.setTop (mkF m 5 #[.val (.ref a1), .val (.ref a2)] [])) _
    refine XS.aloadN X0.here hx rfl (hb hby d1_5) rfl rfl ?_
    show Steps p.tables e below (s₁.setTop (mkF m 6 #[.val (.ref a1), .val (.ref a2)] [(.ref a1)])) _
    refine st3 _ ?_
    show Steps p.tables e below (T3.setTop (mkF m 9 #[.val (.ref a1), .val (.ref a2)] [(.ref w_ROOT_ACCESS), (.ref a1)])) _
    refine Jvm.RoadKit.acmp (g := (mkF m 9 #[.val (.ref a1), .val (.ref a2)] [(.ref w_ROOT_ACCESS), (.ref a1)])) X3 hx rfl rfl rfl (pc0 := 9) (pc' := 12) (same := false) rfl (hb hby d1_9) rfl (decide_eq_false fun q => ha9 (Value.ref.inj q)) (by decide) (by decide) ?_
    show Steps p.tables e below (T3.setTop (mkF m 12 #[.val (.ref a1), .val (.ref a2)] [])) _
    refine XS.aloadN X3.here hx rfl (hb hby d1_12) rfl rfl ?_
    show Steps p.tables e below (T3.setTop (mkF m 13 #[.val (.ref a1), .val (.ref a2)] [(.ref a1)])) _
    refine st4 _ ?_
    show Steps p.tables e below (T4.setTop (mkF m 16 #[.val (.ref a1), .val (.ref a2)] [(.ref w_MANAGE_ALL_BUCKETS), (.ref a1)])) _
    refine Jvm.RoadKit.acmp (g := (mkF m 16 #[.val (.ref a1), .val (.ref a2)] [(.ref w_MANAGE_ALL_BUCKETS), (.ref a1)])) X4 hx rfl rfl rfl (pc0 := 16) (pc' := 19) (same := true) rfl (hb hby d1_16) rfl (decide_eq_true (congrArg Value.ref ha16)) (by decide) (by decide) ?_
    show Steps p.tables e below (T4.setTop (mkF m 19 #[.val (.ref a1), .val (.ref a2)] [])) _
    refine XS.aloadN X4.here hx rfl (hb hby d1_19) rfl rfl ?_
    show Steps p.tables e below (T4.setTop (mkF m 20 #[.val (.ref a1), .val (.ref a2)] [(.ref a2)])) _
    refine st5 _ ?_
    show Steps p.tables e below (T5.setTop (mkF m 23 #[.val (.ref a1), .val (.ref a2)] [(.ref w_VIEW_ALL_BUCKETS), (.ref a2)])) _
    refine Jvm.RoadKit.acmp (g := (mkF m 23 #[.val (.ref a1), .val (.ref a2)] [(.ref w_VIEW_ALL_BUCKETS), (.ref a2)])) X5 hx rfl rfl rfl (pc0 := 23) (pc' := 30) (same := false) rfl (hb hby d1_23) rfl (decide_eq_false fun q => ha23 (Value.ref.inj q)) (by decide) (by decide) ?_
    show Steps p.tables e below (T5.setTop (mkF m 30 #[.val (.ref a1), .val (.ref a2)] [])) _
    refine XS.iconst X5.here hx rfl (hb hby d1_30) ?_
    show Steps p.tables e below (T5.setTop (mkF m 31 #[.val (.ref a1), .val (.ref a2)] [(.int (0 : Int32))])) _
    exact retN X5 hx (t := .boolean) Bd.returns (by simp) (hb hby d1_31) hr
  · show QR (some (.int (0 : Int32))) h0 n0 _ T5.heap _
    rw [e5]
    exact ⟨rfl, N0, rfl⟩

set_option maxRecDepth 65536 in
set_option maxHeartbeats 40000000 in
theorem rm1_fft (l : Launch) (Z : State) (a0 : Array Value) (hw : ∀ d ∈ tables_1, d.before a0 Z = true) (ws : List Jvm.Cond) (a1 : Addr) (a2 : Addr) (w_ROOT_ACCESS : Addr) (w_VIEW_ALL_BUCKETS : Addr) (w_MANAGE_ALL_BUCKETS : Addr) (h0 : Heap) (n0 : Nat) (Z0 : n0 ≤ h0.size) (S_ROOT_ACCESS : Sta Z h0 "com/example/holdfast/holdfast/tenant/Permission" "ROOT_ACCESS" "Lcom/example/holdfast/holdfast/tenant/Permission;" (.ref w_ROOT_ACCESS)) (S_VIEW_ALL_BUCKETS : Sta Z h0 "com/example/holdfast/holdfast/tenant/Permission" "VIEW_ALL_BUCKETS" "Lcom/example/holdfast/holdfast/tenant/Permission;" (.ref w_VIEW_ALL_BUCKETS)) (S_MANAGE_ALL_BUCKETS : Sta Z h0 "com/example/holdfast/holdfast/tenant/Permission" "MANAGE_ALL_BUCKETS" "Lcom/example/holdfast/holdfast/tenant/Permission;" (.ref w_MANAGE_ALL_BUCKETS)) (ha2 : ¬ (a1 = a2)) (ha9 : ¬ (a1 = w_ROOT_ACCESS)) (ha16 : ¬ (a1 = w_MANAGE_ALL_BUCKETS)) :
    MetFree l (⟨"com/example/holdfast/holdfast/tenant/Permission", "grants", "(Lcom/example/holdfast/holdfast/tenant/Permission;)Z"⟩ : MethodName) (head1 (Jvm.Cond.code (⟨"com/example/holdfast/holdfast/tenant/Permission", "grants", "(Lcom/example/holdfast/holdfast/tenant/Permission;)Z"⟩ : MethodName) prog_58_method_5_code 2 (some .boolean) :: ws) ({ frames := 0, cells := 0, slots := 0, locals := 0 } : Room)) (fun a U => a = #[(.ref a1), (.ref a2)] ∧ Z.Warmed39 U.vm ∧ U.heap = h0) (fun _ _ _ _ _ => True) (fun _ U o U' => ∃ v L, o = .returned v ∧ QR (some (.int (0 : Int32))) h0 n0 v U'.heap L ∧ FrameEnd U o U' L ({ frames := 0, cells := 0, slots := 0, locals := 0 } : Room).cells ({ frames := 0, cells := 0, slots := 0, locals := 0 } : Room).slots) := by
  refine MetFree.of_bodySF (plainFor_of_name pn_1) hisR ?_
  intro p e s m args below meth c s₁ Bd hml0 hP hK
  obtain ⟨rfl, hZ, hh⟩ := hP
  have hx := Bd.exec
  have hby := Bd.bytes
  have hml : c.maxLocals = 2 := hml0
  have hown : s.vm.findClass "com/example/holdfast/holdfast/tenant/Permission" = some m.cls := findClass_of_methodNamed Bd.named
  have hnm := (name_of_methodNamed Bd.named Bd.method).1
  have X0 : Stand p l e ({ frames := 0, cells := 0, slots := 0, locals := 0 } : Room) s m #[(.ref a1), (.ref a2)] below meth c s₁ [] 0 0 := Stand.of_body Bd
  have e0 : s₁.heap = h0 := by rw [← hh, Bd.state]; rfl
  have N0 := Fr.nil n0
  have pre0 : ∀ t, Steps p.tables e below (s₁.setTop (mkF m 0 #[.val (.ref a1), .val (.ref a2)] [])) t → Steps p.tables e below (s₁.setTop (entryFrame m #[(.ref a1), (.ref a2)] 2)) t := fun t k => castTop (ef_1 m a1 a2) k
  obtain ⟨T3, X3, e3, st3⟩ := getS2 X0 hx hZ hown (host := "") (Or.inl (hw _ (List.mem_of_getElem? (i := 23) rfl))) Via.refl e0 S_ROOT_ACCESS (g := (mkF m 6 #[.val (.ref a1), .val (.ref a2)] [(.ref a1)])) rfl (hb hby d1_6)
  obtain ⟨T4, X4, e4, st4⟩ := getS2 X3 hx hZ hown (host := "") (Or.inl (hw _ (List.mem_of_getElem? (i := 24) rfl))) Via.refl e3 S_MANAGE_ALL_BUCKETS (g := (mkF m 13 #[.val (.ref a1), .val (.ref a2)] [(.ref a1)])) rfl (hb hby d1_13)
  obtain ⟨fs, hr, hrun, hended, hW, hsame⟩ := X4.leave (v := some (.int (0 : Int32))) (fun h => by rw [Bd.returns] at h; cases h)
  refine ⟨_, _, pre0 _ ?_, hrun, hended, _, _, rfl, ?_, ⟨_, rfl⟩, hW, hsame.mono (by decide) (by decide)⟩
  · show Steps p.tables e below (s₁.setTop (mkF m 0 #[.val (.ref a1), .val (.ref a2)] [])) _
    refine XS.aloadN X0.here hx rfl (hb hby d1_0) rfl rfl ?_
    show Steps p.tables e below (s₁.setTop (mkF m 1 #[.val (.ref a1), .val (.ref a2)] [(.ref a1)])) _
    refine XS.aloadN X0.here hx rfl (hb hby d1_1) rfl rfl ?_
    show Steps p.tables e below (s₁.setTop (mkF m 2 #[.val (.ref a1), .val (.ref a2)] [(.ref a2), (.ref a1)])) _
    refine Jvm.RoadKit.acmp (g := (mkF m 2 #[.val (.ref a1), .val (.ref a2)] [(.ref a2), (.ref a1)])) X0 hx rfl rfl rfl (pc0 := 2) (pc' := 5) (same := false) rfl (hb hby d1_2) rfl (decide_eq_false fun q => ha2 (Value.ref.inj q)) (by decide) (by decide) ?_
    show Steps p.tables e below (s₁.setTop (mkF m 5 #[.val (.ref a1), .val (.ref a2)] [])) _
    refine XS.aloadN X0.here hx rfl (hb hby d1_5) rfl rfl ?_
    show Steps p.tables e below (s₁.setTop (mkF m 6 #[.val (.ref a1), .val (.ref a2)] [(.ref a1)])) _
    refine st3 _ ?_
    show Steps p.tables e below (T3.setTop (mkF m 9 #[.val (.ref a1), .val (.ref a2)] [(.ref w_ROOT_ACCESS), (.ref a1)])) _
    refine Jvm.RoadKit.acmp (g := (mkF m 9 #[.val (.ref a1), .val (.ref a2)] [(.ref w_ROOT_ACCESS), (.ref a1)])) X3 hx rfl rfl rfl (pc0 := 9) (pc' := 12) (same := false) rfl (hb hby d1_9) rfl (decide_eq_false fun q => ha9 (Value.ref.inj q)) (by decide) (by decide) ?_
    show Steps p.tables e below (T3.setTop (mkF m 12 #[.val (.ref a1), .val (.ref a2)] [])) _
    refine XS.aloadN X3.here hx rfl (hb hby d1_12) rfl rfl ?_
    show Steps p.tables e below (T3.setTop (mkF m 13 #[.val (.ref a1), .val (.ref a2)] [(.ref a1)])) _
    refine st4 _ ?_
    show Steps p.tables e below (T4.setTop (mkF m 16 #[.val (.ref a1), .val (.ref a2)] [(.ref w_MANAGE_ALL_BUCKETS), (.ref a1)])) _
    refine Jvm.RoadKit.acmp (g := (mkF m 16 #[.val (.ref a1), .val (.ref a2)] [(.ref w_MANAGE_ALL_BUCKETS), (.ref a1)])) X4 hx rfl rfl rfl (pc0 := 16) (pc' := 30) (same := false) rfl (hb hby d1_16) rfl (decide_eq_false fun q => ha16 (Value.ref.inj q)) (by decide) (by decide) ?_
    show Steps p.tables e below (T4.setTop (mkF m 30 #[.val (.ref a1), .val (.ref a2)] [])) _
    refine XS.iconst X4.here hx rfl (hb hby d1_30) ?_
    show Steps p.tables e below (T4.setTop (mkF m 31 #[.val (.ref a1), .val (.ref a2)] [(.int (0 : Int32))])) _
    exact retN X4 hx (t := .boolean) Bd.returns (by simp) (hb hby d1_31) hr
  · show QR (some (.int (0 : Int32))) h0 n0 _ T4.heap _
    rw [e4]
    exact ⟨rfl, N0, rfl⟩

theorem rm1 (l : Launch) (Z : State) (a0 : Array Value) (hw : ∀ d ∈ tables_1, d.before a0 Z = true) (ws : List Jvm.Cond) (a1 : Addr) (a2 : Addr) (w_ROOT_ACCESS : Addr) (w_VIEW_ALL_BUCKETS : Addr) (w_MANAGE_ALL_BUCKETS : Addr) (vv : Int32) (h0 : Heap) (n0 : Nat) (Z0 : n0 ≤ h0.size) (S_ROOT_ACCESS : Sta Z h0 "com/example/holdfast/holdfast/tenant/Permission" "ROOT_ACCESS" "Lcom/example/holdfast/holdfast/tenant/Permission;" (.ref w_ROOT_ACCESS)) (S_VIEW_ALL_BUCKETS : Sta Z h0 "com/example/holdfast/holdfast/tenant/Permission" "VIEW_ALL_BUCKETS" "Lcom/example/holdfast/holdfast/tenant/Permission;" (.ref w_VIEW_ALL_BUCKETS)) (S_MANAGE_ALL_BUCKETS : Sta Z h0 "com/example/holdfast/holdfast/tenant/Permission" "MANAGE_ALL_BUCKETS" "Lcom/example/holdfast/holdfast/tenant/Permission;" (.ref w_MANAGE_ALL_BUCKETS)) (hr : Gr a1 a2 vv w_ROOT_ACCESS w_VIEW_ALL_BUCKETS w_MANAGE_ALL_BUCKETS) :
    MetFree l (⟨"com/example/holdfast/holdfast/tenant/Permission", "grants", "(Lcom/example/holdfast/holdfast/tenant/Permission;)Z"⟩ : MethodName) (head1 (Jvm.Cond.code (⟨"com/example/holdfast/holdfast/tenant/Permission", "grants", "(Lcom/example/holdfast/holdfast/tenant/Permission;)Z"⟩ : MethodName) prog_58_method_5_code 2 (some .boolean) :: ws) ({ frames := 0, cells := 0, slots := 0, locals := 0 } : Room)) (fun a U => a = #[(.ref a1), (.ref a2)] ∧ Z.Warmed39 U.vm ∧ U.heap = h0) (fun _ _ _ _ _ => True) (fun _ U o U' => ∃ v L, o = .returned v ∧ QR (some (.int vv)) h0 n0 v U'.heap L ∧ FrameEnd U o U' L ({ frames := 0, cells := 0, slots := 0, locals := 0 } : Room).cells ({ frames := 0, cells := 0, slots := 0, locals := 0 } : Room).slots) := by
  rcases hr with ⟨h1, hv⟩ | ⟨h1, h2, hv⟩ | ⟨h1, h2, h3, h4, hv⟩ | ⟨h1, h2, h3, h4, hv⟩ | ⟨h1, h2, h3, hv⟩
  · rw [hv]; exact rm1_t l Z a0 hw ws a1 a2 w_ROOT_ACCESS w_VIEW_ALL_BUCKETS w_MANAGE_ALL_BUCKETS h0 n0 Z0 S_ROOT_ACCESS S_VIEW_ALL_BUCKETS S_MANAGE_ALL_BUCKETS h1
  · rw [hv]; exact rm1_ft l Z a0 hw ws a1 a2 w_ROOT_ACCESS w_VIEW_ALL_BUCKETS w_MANAGE_ALL_BUCKETS h0 n0 Z0 S_ROOT_ACCESS S_VIEW_ALL_BUCKETS S_MANAGE_ALL_BUCKETS h1 h2
  · rw [hv]; exact rm1_ffff l Z a0 hw ws a1 a2 w_ROOT_ACCESS w_VIEW_ALL_BUCKETS w_MANAGE_ALL_BUCKETS h0 n0 Z0 S_ROOT_ACCESS S_VIEW_ALL_BUCKETS S_MANAGE_ALL_BUCKETS h1 h2 h3 h4
  · rw [hv]; exact rm1_ffft l Z a0 hw ws a1 a2 w_ROOT_ACCESS w_VIEW_ALL_BUCKETS w_MANAGE_ALL_BUCKETS h0 n0 Z0 S_ROOT_ACCESS S_VIEW_ALL_BUCKETS S_MANAGE_ALL_BUCKETS h1 h2 h3 h4
  · rw [hv]; exact rm1_fft l Z a0 hw ws a1 a2 w_ROOT_ACCESS w_VIEW_ALL_BUCKETS w_MANAGE_ALL_BUCKETS h0 n0 Z0 S_ROOT_ACCESS S_VIEW_ALL_BUCKETS S_MANAGE_ALL_BUCKETS h1 h2 h3

theorem pn_0 : plainName "com/example/holdfast/holdfast/tenant/PermissionGrantsPinLaw" = true := by first | (simp [plainName, overriddenIn]; done) | decide +kernel
theorem pd_0_0 : parseMethodDescriptor "(Lcom/example/holdfast/holdfast/tenant/Permission;)Z" = some ⟨[(.object "com/example/holdfast/holdfast/tenant/Permission")], some .boolean⟩ := by decide +kernel
theorem ef_0 (m : MethodId) (x0 : Int32) (x1 : Int32) : entryFrame m #[(.int x0), (.int x1)] maxLocals = mkF m 0 #[.val (.int x0), .val (.int x1), .unset, .unset, .unset, .unset, .unset] [] := by first | (simp [entryFrame, mkF, argsToLocals, Value.category, maxLocals]; done) | rfl
set_option maxRecDepth 65536 in
set_option maxHeartbeats 40000000 in
theorem rm0_1 (l : Launch) (Z : State) (a0 : Array Value) (hw : ∀ d ∈ tables_1, d.before a0 Z = true) (ws : List Jvm.Cond) (p1 : Int32) (p2 : Int32) (w_ROOT_ACCESS : Addr) (w_MANAGE_OWN_S3_CREDENTIALS : Addr) (w_VIEW_ALL_BUCKETS : Addr) (w_MANAGE_ALL_BUCKETS : Addr) (w_MANAGE_ENDPOINTS : Addr) (w_USE_S3_CONSOLE : Addr) (w23 : Int32) (w24 : Addr) (w25 : Addr) (h0 : Heap) (n0 : Nat) (Z0 : n0 ≤ h0.size) (S_ROOT_ACCESS : Sta Z h0 "com/example/holdfast/holdfast/tenant/Permission" "ROOT_ACCESS" "Lcom/example/holdfast/holdfast/tenant/Permission;" (.ref w_ROOT_ACCESS)) (S_MANAGE_OWN_S3_CREDENTIALS : Sta Z h0 "com/example/holdfast/holdfast/tenant/Permission" "MANAGE_OWN_S3_CREDENTIALS" "Lcom/example/holdfast/holdfast/tenant/Permission;" (.ref w_MANAGE_OWN_S3_CREDENTIALS)) (S_VIEW_ALL_BUCKETS : Sta Z h0 "com/example/holdfast/holdfast/tenant/Permission" "VIEW_ALL_BUCKETS" "Lcom/example/holdfast/holdfast/tenant/Permission;" (.ref w_VIEW_ALL_BUCKETS)) (S_MANAGE_ALL_BUCKETS : Sta Z h0 "com/example/holdfast/holdfast/tenant/Permission" "MANAGE_ALL_BUCKETS" "Lcom/example/holdfast/holdfast/tenant/Permission;" (.ref w_MANAGE_ALL_BUCKETS)) (S_MANAGE_ENDPOINTS : Sta Z h0 "com/example/holdfast/holdfast/tenant/Permission" "MANAGE_ENDPOINTS" "Lcom/example/holdfast/holdfast/tenant/Permission;" (.ref w_MANAGE_ENDPOINTS)) (S_USE_S3_CONSOLE : Sta Z h0 "com/example/holdfast/holdfast/tenant/Permission" "USE_S3_CONSOLE" "Lcom/example/holdfast/holdfast/tenant/Permission;" (.ref w_USE_S3_CONSOLE)) (E_w_ROOT_ACCESS : Exa Z h0 w_ROOT_ACCESS "com/example/holdfast/holdfast/tenant/Permission") (E_w_MANAGE_OWN_S3_CREDENTIALS : Exa Z h0 w_MANAGE_OWN_S3_CREDENTIALS "com/example/holdfast/holdfast/tenant/Permission") (E_w_VIEW_ALL_BUCKETS : Exa Z h0 w_VIEW_ALL_BUCKETS "com/example/holdfast/holdfast/tenant/Permission") (E_w_MANAGE_ALL_BUCKETS : Exa Z h0 w_MANAGE_ALL_BUCKETS "com/example/holdfast/holdfast/tenant/Permission") (E_w_MANAGE_ENDPOINTS : Exa Z h0 w_MANAGE_ENDPOINTS "com/example/holdfast/holdfast/tenant/Permission") (E_w_USE_S3_CONSOLE : Exa Z h0 w_USE_S3_CONSOLE "com/example/holdfast/holdfast/tenant/Permission") (hr : Gr w24 w25 (1 : Int32) w_ROOT_ACCESS w_VIEW_ALL_BUCKETS w_MANAGE_ALL_BUCKETS) (hj96 : ¬ (HMod.hMod (p1 &&& (2147483647 : Int32)) (6 : Int32)) < 0 ∧ (HMod.hMod (p1 &&& (2147483647 : Int32)) (6 : Int32)) < (6 : Int32)) (hv96 : ([(.int (63 : Int32)), (.int (2 : Int32)), (.int (4 : Int32)), (.int (12 : Int32)), (.int (16 : Int32)), (.int (32 : Int32))] : List Value).getD ((HMod.hMod (p1 &&& (2147483647 : Int32)) (6 : Int32))).toNatClampNeg (.int (0 : Int32)) = (.int w23)) (hj115 : ¬ (HMod.hMod (p1 &&& (2147483647 : Int32)) (6 : Int32)) < 0 ∧ (HMod.hMod (p1 &&& (2147483647 : Int32)) (6 : Int32)) < (6 : Int32)) (hv115 : ([(.ref w_ROOT_ACCESS), (.ref w_MANAGE_OWN_S3_CREDENTIALS), (.ref w_VIEW_ALL_BUCKETS), (.ref w_MANAGE_ALL_BUCKETS), (.ref w_MANAGE_ENDPOINTS), (.ref w_USE_S3_CONSOLE)] : List Value).getD ((HMod.hMod (p1 &&& (2147483647 : Int32)) (6 : Int32))).toNatClampNeg .null = (.ref w24)) (hj119 : ¬ (HMod.hMod (p2 &&& (2147483647 : Int32)) (6 : Int32)) < 0 ∧ (HMod.hMod (p2 &&& (2147483647 : Int32)) (6 : Int32)) < (6 : Int32)) (hv119 : ([(.ref w_ROOT_ACCESS), (.ref w_MANAGE_OWN_S3_CREDENTIALS), (.ref w_VIEW_ALL_BUCKETS), (.ref w_MANAGE_ALL_BUCKETS), (.ref w_MANAGE_ENDPOINTS), (.ref w_USE_S3_CONSOLE)] : List Value).getD ((HMod.hMod (p2 &&& (2147483647 : Int32)) (6 : Int32))).toNatClampNeg .null = (.ref w25)) (E_w24 : Exa Z h0 w24 "com/example/holdfast/holdfast/tenant/Permission") (hc102 : ¬ (((w23 >>> ((HMod.hMod (p2 &&& (2147483647 : Int32)) (6 : Int32)) &&& 31)) &&& (1 : Int32)) = (0 : Int32))) :
    MetFree l x (head1 (Jvm.Cond.code x code maxLocals ret :: ws) room_1) (fun a U => a = #[(.int p1), (.int p2)] ∧ Z.Warmed39 U.vm ∧ U.heap = h0) (fun _ _ _ _ _ => True) (fun _ U o U' => ∃ v L, o = .returned v ∧ QL (some (.int (1 : Int32))) n0 v U'.heap L ∧ FrameEnd U o U' L room_1.cells room_1.slots) := by
  refine MetFree.of_bodySF (plainFor_of_name pn_0) hisR ?_
  intro p e s m args below meth c s₁ Bd hml0 hP hK
  obtain ⟨rfl, hZ, hh⟩ := hP
  have hx := Bd.exec
  have hby := Bd.bytes
  have hml : c.maxLocals = 7 := hml0
  have hown : s.vm.findClass "com/example/holdfast/holdfast/tenant/PermissionGrantsPinLaw" = some m.cls := findClass_of_methodNamed Bd.named
  have hnm := (name_of_methodNamed Bd.named Bd.method).1
  have X0 : Stand p l e room_1 s m #[(.int p1), (.int p2)] below meth c s₁ [] 0 0 := Stand.of_body Bd
  have e0 : s₁.heap = h0 := by rw [← hh, Bd.state]; rfl
  have N0 := Fr.nil n0
  have pre0 : ∀ t, Steps p.tables e below (s₁.setTop (mkF m 0 #[.val (.int p1), .val (.int p2), .unset, .unset, .unset, .unset, .unset] [])) t → Steps p.tables e below (s₁.setTop (entryFrame m #[(.int p1), (.int p2)] maxLocals)) t := fun t k => castTop (ef_0 m p1 p2) k
  obtain ⟨T3, h3, k3, X3, e3, E3, A3, O3, st3⟩ := newR X0 hx hZ hown (hw _ (List.mem_of_getElem? (i := 0) rfl)) (hw _ (List.mem_of_getElem? (i := 1) rfl)) e0 (g := (mkF m 2 #[.val (.int p1), .val (.int p2), .unset, .unset, .unset, .unset, .unset] [(.int (6 : Int32))])) rfl (hb hby at_2) rfl (by decide) (cap := 6) (by decide) (by decide) (by decide) (by decide)
  obtain ⟨b3, g3⟩ : ∃ z, z = h0.size := ⟨_, rfl⟩      -- the fresh array's address
  rw [← g3] at A3 st3
  have V_b3 : Arv Z h3 b3 k3 (.object "com/example/holdfast/holdfast/tenant/Permission") (6 : Int32) [.null, .null, .null, .null, .null, .null] .null := (Arv.new A3 (by decide)).pad (pad_rep [] .null 6)
  have g_b3 : n0 ≤ b3 := Nat.le_trans Z0 (Nat.le_of_eq g3.symm)
  have sz_b3 : h0.size ≤ b3 := (Nat.le_trans (Keep.refl h0 []).1 (Nat.le_of_eq g3.symm))
  have K3 : Keep h0 h3 [] := (Keep.refl h0 []).ext E3
  obtain ⟨T4, X4, e4, st4⟩ := getS2 X3 hx hZ hown (host := "") (Or.inl (hw _ (List.mem_of_getElem? (i := 2) rfl))) Via.refl e3 (S_ROOT_ACCESS.ext E3) (g := (mkF m 7 #[.val (.int p1), .val (.int p2), .unset, .unset, .unset, .unset, .unset] [(.int (0 : Int32)), (.ref b3), (.ref b3)])) rfl (hb hby at_7)
  obtain ⟨cl_b3_10, Ar_b3_10, q_b3_10, S_b3_10, N_b3_10, H_b3_10, G_b3_10⟩ := id V_b3
  have hin_b3_10 : ¬ ((0 : Int32) < 0 ∨ cl_b3_10.slots.size ≤ ((0 : Int32)).toNatClampNeg) := inb_of S_b3_10 ⟨by decide, by decide⟩
  have Sto_b3_10 : Sto Z h3 b3 (.ref w_ROOT_ACCESS) := Sto.ofV Ar_b3_10 q_b3_10 O3 (Ins.self (E_w_ROOT_ACCESS.ext E3))
  obtain ⟨T5, h5, X5, e5, W5, st5⟩ := stR X4 hx hZ e4 Ar_b3_10 (j := (0 : Int32)) hin_b3_10 rfl Sto_b3_10 (g := (mkF m 10 #[.val (.int p1), .val (.int p2), .unset, .unset, .unset, .unset, .unset] [(.ref w_ROOT_ACCESS), (.int (0 : Int32)), (.ref b3), (.ref b3)])) rfl rfl (hb hby at_10)
  have V_b3_5 := Arv.set Ar_b3_10 q_b3_10 S_b3_10 N_b3_10 H_b3_10 G_b3_10 rfl W5 0 rfl (Nat.le_of_ble_eq_true rfl)
  have K5 : Keep h0 h5 [] := K3.wr W5 (Or.inr sz_b3)
  have N5 := Fr.snoc X5 N0 g_b3
  obtain ⟨T6, X6, e6, st6⟩ := getS2 X5 hx hZ hown (host := "") (Or.inl (hw _ (List.mem_of_getElem? (i := 6) rfl))) Via.refl e5 ((S_MANAGE_OWN_S3_CREDENTIALS.ext E3).wr W5) (g := (mkF m 13 #[.val (.int p1), .val (.int p2), .unset, .unset, .unset, .unset, .unset] [(.int (1 : Int32)), (.ref b3), (.ref b3)])) rfl (hb hby at_13)
  obtain ⟨cl_b3_16, Ar_b3_16, q_b3_16, S_b3_16, N_b3_16, H_b3_16, G_b3_16⟩ := id V_b3_5
  have hin_b3_16 : ¬ ((1 : Int32) < 0 ∨ cl_b3_16.slots.size ≤ ((1 : Int32)).toNatClampNeg) := inb_of S_b3_16 ⟨by decide, by decide⟩
  have Sto_b3_16 : Sto Z h5 b3 (.ref w_MANAGE_OWN_S3_CREDENTIALS) := Sto.ofV Ar_b3_16 q_b3_16 O3 (Ins.self ((E_w_MANAGE_OWN_S3_CREDENTIALS.ext E3).wr W5))
  obtain ⟨T7, h7, X7, e7, W7, st7⟩ := stR X6 hx hZ e6 Ar_b3_16 (j := (1 : Int32)) hin_b3_16 rfl Sto_b3_16 (g := (mkF m 16 #[.val (.int p1), .val (.int p2), .unset, .unset, .unset, .unset, .unset] [(.ref w_MANAGE_OWN_S3_CREDENTIALS), (.int (1 : Int32)), (.ref b3), (.ref b3)])) rfl rfl (hb hby at_16)
  have V_b3_7 := Arv.set Ar_b3_16 q_b3_16 S_b3_16 N_b3_16 H_b3_16 G_b3_16 rfl W7 1 rfl (Nat.le_of_ble_eq_true rfl)
  have K7 : Keep h0 h7 [] := K5.wr W7 (Or.inr sz_b3)
  have N7 := Fr.snoc X7 N5 g_b3
  obtain ⟨T8, X8, e8, st8⟩ := getS2 X7 hx hZ hown (host := "") (Or.inl (hw _ (List.mem_of_getElem? (i := 8) rfl))) Via.refl e7 (((S_VIEW_ALL_BUCKETS.ext E3).wr W5).wr W7) (g := (mkF m 19 #[.val (.int p1), .val (.int p2), .unset, .unset, .unset, .unset, .unset] [(.int (2 : Int32)), (.ref b3), (.ref b3)])) rfl (hb hby at_19)
  obtain ⟨cl_b3_22, Ar_b3_22, q_b3_22, S_b3_22, N_b3_22, H_b3_22, G_b3_22⟩ := id V_b3_7
  have hin_b3_22 : ¬ ((2 : Int32) < 0 ∨ cl_b3_22.slots.size ≤ ((2 : Int32)).toNatClampNeg) := inb_of S_b3_22 ⟨by decide, by decide⟩
  have Sto_b3_22 : Sto Z h7 b3 (.ref w_VIEW_ALL_BUCKETS) := Sto.ofV Ar_b3_22 q_b3_22 O3 (Ins.self (((E_w_VIEW_ALL_BUCKETS.ext E3).wr W5).wr W7))
  obtain ⟨T9, h9, X9, e9, W9, st9⟩ := stR X8 hx hZ e8 Ar_b3_22 (j := (2 : Int32)) hin_b3_22 rfl Sto_b3_22 (g := (mkF m 22 #[.val (.int p1), .val (.int p2), .unset, .unset, .unset, .unset, .unset] [(.ref w_VIEW_ALL_BUCKETS), (.int (2 : Int32)), (.ref b3), (.ref b3)])) rfl rfl (hb hby at_22)
  have V_b3_9 := Arv.set Ar_b3_22 q_b3_22 S_b3_22 N_b3_22 H_b3_22 G_b3_22 rfl W9 2 rfl (Nat.le_of_ble_eq_true rfl)
  have K9 : Keep h0 h9 [] := K7.wr W9 (Or.inr sz_b3)
  have N9 := Fr.snoc X9 N7 g_b3
  obtain ⟨T10, X10, e10, st10⟩ := getS2 X9 hx hZ hown (host := "") (Or.inl (hw _ (List.mem_of_getElem? (i := 10) rfl))) Via.refl e9 ((((S_MANAGE_ALL_BUCKETS.ext E3).wr W5).wr W7).wr W9) (g := (mkF m 25 #[.val (.int p1), .val (.int p2), .unset, .unset, .unset, .unset, .unset] [(.int (3 : Int32)), (.ref b3), (.ref b3)])) rfl (hb hby at_25)
  obtain ⟨cl_b3_28, Ar_b3_28, q_b3_28, S_b3_28, N_b3_28, H_b3_28, G_b3_28⟩ := id V_b3_9
  have hin_b3_28 : ¬ ((3 : Int32) < 0 ∨ cl_b3_28.slots.size ≤ ((3 : Int32)).toNatClampNeg) := inb_of S_b3_28 ⟨by decide, by decide⟩
  have Sto_b3_28 : Sto Z h9 b3 (.ref w_MANAGE_ALL_BUCKETS) := Sto.ofV Ar_b3_28 q_b3_28 O3 (Ins.self ((((E_w_MANAGE_ALL_BUCKETS.ext E3).wr W5).wr W7).wr W9))
  obtain ⟨T11, h11, X11, e11, W11, st11⟩ := stR X10 hx hZ e10 Ar_b3_28 (j := (3 : Int32)) hin_b3_28 rfl Sto_b3_28 (g := (mkF m 28 #[.val (.int p1), .val (.int p2), .unset, .unset, .unset, .unset, .unset] [(.ref w_MANAGE_ALL_BUCKETS), (.int (3 : Int32)), (.ref b3), (.ref b3)])) rfl rfl (hb hby at_28)
  have V_b3_11 := Arv.set Ar_b3_28 q_b3_28 S_b3_28 N_b3_28 H_b3_28 G_b3_28 rfl W11 3 rfl (Nat.le_of_ble_eq_true rfl)
  have K11 : Keep h0 h11 [] := K9.wr W11 (Or.inr sz_b3)
  have N11 := Fr.snoc X11 N9 g_b3
  obtain ⟨T12, X12, e12, st12⟩ := getS2 X11 hx hZ hown (host := "") (Or.inl (hw _ (List.mem_of_getElem? (i := 12) rfl))) Via.refl e11 (((((S_MANAGE_ENDPOINTS.ext E3).wr W5).wr W7).wr W9).wr W11) (g := (mkF m 31 #[.val (.int p1), .val (.int p2), .unset, .unset, .unset, .unset, .unset] [(.int (4 : Int32)), (.ref b3), (.ref b3)])) rfl (hb hby at_31)
  obtain ⟨cl_b3_34, Ar_b3_34, q_b3_34, S_b3_34, N_b3_34, H_b3_34, G_b3_34⟩ := id V_b3_11
  have hin_b3_34 : ¬ ((4 : Int32) < 0 ∨ cl_b3_34.slots.size ≤ ((4 : Int32)).toNatClampNeg) := inb_of S_b3_34 ⟨by decide, by decide⟩
  have Sto_b3_34 : Sto Z h11 b3 (.ref w_MANAGE_ENDPOINTS) := Sto.ofV Ar_b3_34 q_b3_34 O3 (Ins.self (((((E_w_MANAGE_ENDPOINTS.ext E3).wr W5).wr W7).wr W9).wr W11))
  obtain ⟨T13, h13, X13, e13, W13, st13⟩ := stR X12 hx hZ e12 Ar_b3_34 (j := (4 : Int32)) hin_b3_34 rfl Sto_b3_34 (g := (mkF m 34 #[.val (.int p1), .val (.int p2), .unset, .unset, .unset, .unset, .unset] [(.ref w_MANAGE_ENDPOINTS), (.int (4 : Int32)), (.ref b3), (.ref b3)])) rfl rfl (hb hby at_34)
  have V_b3_13 := Arv.set Ar_b3_34 q_b3_34 S_b3_34 N_b3_34 H_b3_34 G_b3_34 rfl W13 4 rfl (Nat.le_of_ble_eq_true rfl)
  have K13 : Keep h0 h13 [] := K11.wr W13 (Or.inr sz_b3)
  have N13 := Fr.snoc X13 N11 g_b3
  obtain ⟨T14, X14, e14, st14⟩ := getS2 X13 hx hZ hown (host := "") (Or.inl (hw _ (List.mem_of_getElem? (i := 14) rfl))) Via.refl e13 ((((((S_USE_S3_CONSOLE.ext E3).wr W5).wr W7).wr W9).wr W11).wr W13) (g := (mkF m 37 #[.val (.int p1), .val (.int p2), .unset, .unset, .unset, .unset, .unset] [(.int (5 : Int32)), (.ref b3), (.ref b3)])) rfl (hb hby at_37)
  obtain ⟨cl_b3_40, Ar_b3_40, q_b3_40, S_b3_40, N_b3_40, H_b3_40, G_b3_40⟩ := id V_b3_13
  have hin_b3_40 : ¬ ((5 : Int32) < 0 ∨ cl_b3_40.slots.size ≤ ((5 : Int32)).toNatClampNeg) := inb_of S_b3_40 ⟨by decide, by decide⟩
  have Sto_b3_40 : Sto Z h13 b3 (.ref w_USE_S3_CONSOLE) := Sto.ofV Ar_b3_40 q_b3_40 O3 (Ins.self ((((((E_w_USE_S3_CONSOLE.ext E3).wr W5).wr W7).wr W9).wr W11).wr W13))
  obtain ⟨T15, h15, X15, e15, W15, st15⟩ := stR X14 hx hZ e14 Ar_b3_40 (j := (5 : Int32)) hin_b3_40 rfl Sto_b3_40 (g := (mkF m 40 #[.val (.int p1), .val (.int p2), .unset, .unset, .unset, .unset, .unset] [(.ref w_USE_S3_CONSOLE), (.int (5 : Int32)), (.ref b3), (.ref b3)])) rfl rfl (hb hby at_40)
  have V_b3_15 := Arv.set Ar_b3_40 q_b3_40 S_b3_40 N_b3_40 H_b3_40 G_b3_40 rfl W15 5 rfl (Nat.le_of_ble_eq_true rfl)
  have K15 : Keep h0 h15 [] := K13.wr W15 (Or.inr sz_b3)
  have N15 := Fr.snoc X15 N13 g_b3
  obtain ⟨T16, h16, k16, X16, e16, E16, A16, st16⟩ := newP X15 hx hZ (hw _ (List.mem_of_getElem? (i := 16) rfl)) e15 (g := (mkF m 44 #[.val (.int p1), .val (.int p2), .val (.ref b3), .unset, .unset, .unset, .unset] [(.int (6 : Int32))])) rfl (hb hby at_44) rfl (by decide) (cap := 6) (by decide) (by decide) (by decide) (by decide)
  obtain ⟨b16, g16⟩ : ∃ z, z = h15.size := ⟨_, rfl⟩      -- the fresh array's address
  rw [← g16] at A16 st16
  have V_b16 : Arv Z h16 b16 k16 .int (6 : Int32) [(.int (0 : Int32)), (.int (0 : Int32)), (.int (0 : Int32)), (.int (0 : Int32)), (.int (0 : Int32)), (.int (0 : Int32))] (.int (0 : Int32)) := (Arv.new A16 (by decide)).pad (pad_rep [] (.int (0 : Int32)) 6)
  have g_b16 : n0 ≤ b16 := Nat.le_trans (Nat.le_trans (Nat.le_trans (Nat.le_trans (Nat.le_trans (Nat.le_trans (Nat.le_trans (Nat.le_trans Z0 E3.1) (Keep.of_wr W5).1) (Keep.of_wr W7).1) (Keep.of_wr W9).1) (Keep.of_wr W11).1) (Keep.of_wr W13).1) (Keep.of_wr W15).1) (Nat.le_of_eq g16.symm)
  have sz_b16 : h0.size ≤ b16 := (Nat.le_trans K15.1 (Nat.le_of_eq g16.symm))
  have K16 : Keep h0 h16 [] := K15.ext E16
  obtain ⟨cl_b16_50, Ar_b16, q_b16, S_b16, N_b16, H_b16, G_b16⟩ := V_b16      -- open the array's fact as it stands now (its cell, kind, length, elements)
  have hin50 : ¬ ((0 : Int32) < 0 ∨ cl_b16_50.slots.size ≤ ((0 : Int32)).toNatClampNeg) := inb_of S_b16 ⟨by decide, by decide⟩
  obtain ⟨T17, h17, X17, e17, W17, st17⟩ := stI X16 hx hZ e16 Ar_b16 (j := (0 : Int32)) hin50 (g := (mkF m 50 #[.val (.int p1), .val (.int p2), .val (.ref b3), .unset, .unset, .unset, .unset] [(.int (63 : Int32)), (.int (0 : Int32)), (.ref b16), (.ref b16)])) rfl rfl (hb hby at_50)
  have V_b16_17 := Arv.set Ar_b16 q_b16 S_b16 N_b16 H_b16 G_b16 rfl W17 0 rfl (Nat.le_of_ble_eq_true rfl)      -- the array as it stands now (the place must lie among its first values: Arv.pad with pad_rep lengthens them)
  have K17 : Keep h0 h17 [] := K16.wr W17 (Or.inr sz_b16)
  have N17 := Fr.snoc X17 N15 g_b16
  obtain ⟨cl_b16_54, Ar_b16, q_b16, S_b16, N_b16, H_b16, G_b16⟩ := V_b16_17      -- open the array's fact as it stands now (its cell, kind, length, elements)
  have hin54 : ¬ ((1 : Int32) < 0 ∨ cl_b16_54.slots.size ≤ ((1 : Int32)).toNatClampNeg) := inb_of S_b16 ⟨by decide, by decide⟩
  obtain ⟨T18, h18, X18, e18, W18, st18⟩ := stI X17 hx hZ e17 Ar_b16 (j := (1 : Int32)) hin54 (g := (mkF m 54 #[.val (.int p1), .val (.int p2), .val (.ref b3), .unset, .unset, .unset, .unset] [(.int (2 : Int32)), (.int (1 : Int32)), (.ref b16), (.ref b16)])) rfl rfl (hb hby at_54)
  have V_b16_18 := Arv.set Ar_b16 q_b16 S_b16 N_b16 H_b16 G_b16 rfl W18 1 rfl (Nat.le_of_ble_eq_true rfl)      -- the array as it stands now (the place must lie among its first values: Arv.pad with pad_rep lengthens them)
  have K18 : Keep h0 h18 [] := K17.wr W18 (Or.inr sz_b16)
  have N18 := Fr.snoc X18 N17 g_b16
  obtain ⟨cl_b16_58, Ar_b16, q_b16, S_b16, N_b16, H_b16, G_b16⟩ := V_b16_18      -- open the array's fact as it stands now (its cell, kind, length, elements)
  have hin58 : ¬ ((2 : Int32) < 0 ∨ cl_b16_58.slots.size ≤ ((2 : Int32)).toNatClampNeg) := inb_of S_b16 ⟨by decide, by decide⟩
  obtain ⟨T19, h19, X19, e19, W19, st19⟩ := stI X18 hx hZ e18 Ar_b16 (j := (2 : Int32)) hin58 (g := (mkF m 58 #[.val (.int p1), .val (.int p2), .val (.ref b3), .unset, .unset, .unset, .unset] [(.int (4 : Int32)), (.int (2 : Int32)), (.ref b16), (.ref b16)])) rfl rfl (hb hby at_58)
  have V_b16_19 := Arv.set Ar_b16 q_b16 S_b16 N_b16 H_b16 G_b16 rfl W19 2 rfl (Nat.le_of_ble_eq_true rfl)      -- the array as it stands now (the place must lie among its first values: Arv.pad with pad_rep lengthens them)
  have K19 : Keep h0 h19 [] := K18.wr W19 (Or.inr sz_b16)
  have N19 := Fr.snoc X19 N18 g_b16
  obtain ⟨cl_b16_63, Ar_b16, q_b16, S_b16, N_b16, H_b16, G_b16⟩ := V_b16_19      -- open the array's fact as it stands now (its cell, kind, length, elements)
  have hin63 : ¬ ((3 : Int32) < 0 ∨ cl_b16_63.slots.size ≤ ((3 : Int32)).toNatClampNeg) := inb_of S_b16 ⟨by decide, by decide⟩
  obtain ⟨T20, h20, X20, e20, W20, st20⟩ := stI X19 hx hZ e19 Ar_b16 (j := (3 : Int32)) hin63 (g := (mkF m 63 #[.val (.int p1), .val (.int p2), .val (.ref b3), .unset, .unset, .unset, .unset] [(.int (12 : Int32)), (.int (3 : Int32)), (.ref b16), (.ref b16)])) rfl rfl (hb hby at_63)
  have V_b16_20 := Arv.set Ar_b16 q_b16 S_b16 N_b16 H_b16 G_b16 rfl W20 3 rfl (Nat.le_of_ble_eq_true rfl)      -- the array as it stands now (the place must lie among its first values: Arv.pad with pad_rep lengthens them)
  have K20 : Keep h0 h20 [] := K19.wr W20 (Or.inr sz_b16)
  have N20 := Fr.snoc X20 N19 g_b16
  obtain ⟨cl_b16_68, Ar_b16, q_b16, S_b16, N_b16, H_b16, G_b16⟩ := V_b16_20      -- open the array's fact as it stands now (its cell, kind, length, elements)
  have hin68 : ¬ ((4 : Int32) < 0 ∨ cl_b16_68.slots.size ≤ ((4 : Int32)).toNatClampNeg) := inb_of S_b16 ⟨by decide, by decide⟩
  obtain ⟨T21, h21, X21, e21, W21, st21⟩ := stI X20 hx hZ e20 Ar_b16 (j := (4 : Int32)) hin68 (g := (mkF m 68 #[.val (.int p1), .val (.int p2), .val (.ref b3), .unset, .unset, .unset, .unset] [(.int (16 : Int32)), (.int (4 : Int32)), (.ref b16), (.ref b16)])) rfl rfl (hb hby at_68)
  have V_b16_21 := Arv.set Ar_b16 q_b16 S_b16 N_b16 H_b16 G_b16 rfl W21 4 rfl (Nat.le_of_ble_eq_true rfl)      -- the array as it stands now (the place must lie among its first values: Arv.pad with pad_rep lengthens them)
  have K21 : Keep h0 h21 [] := K20.wr W21 (Or.inr sz_b16)
  have N21 := Fr.snoc X21 N20 g_b16
  obtain ⟨cl_b16_73, Ar_b16, q_b16, S_b16, N_b16, H_b16, G_b16⟩ := V_b16_21      -- open the array's fact as it stands now (its cell, kind, length, elements)
  have hin73 : ¬ ((5 : Int32) < 0 ∨ cl_b16_73.slots.size ≤ ((5 : Int32)).toNatClampNeg) := inb_of S_b16 ⟨by decide, by decide⟩
  obtain ⟨T22, h22, X22, e22, W22, st22⟩ := stI X21 hx hZ e21 Ar_b16 (j := (5 : Int32)) hin73 (g := (mkF m 73 #[.val (.int p1), .val (.int p2), .val (.ref b3), .unset, .unset, .unset, .unset] [(.int (32 : Int32)), (.int (5 : Int32)), (.ref b16), (.ref b16)])) rfl rfl (hb hby at_73)
  have V_b16_22 := Arv.set Ar_b16 q_b16 S_b16 N_b16 H_b16 G_b16 rfl W22 5 rfl (Nat.le_of_ble_eq_true rfl)      -- the array as it stands now (the place must lie among its first values: Arv.pad with pad_rep lengthens them)
  have K22 : Keep h0 h22 [] := K21.wr W22 (Or.inr sz_b16)
  have N22 := Fr.snoc X22 N21 g_b16
  obtain ⟨cl_b16_96, Ar_b16_96, q_b16_96, S_b16_96, N_b16_96, H_b16_96, G_b16_96⟩ := id V_b16_22
  have hin96 : ¬ ((HMod.hMod (p1 &&& (2147483647 : Int32)) (6 : Int32)) < 0 ∨ cl_b16_96.slots.size ≤ ((HMod.hMod (p1 &&& (2147483647 : Int32)) (6 : Int32))).toNatClampNeg) := inb_of S_b16_96 hj96
  have hat96 := Has.at H_b16_96 hin96 hv96
  obtain ⟨cl_b3_115, Ar_b3_115, q_b3_115, S_b3_115, N_b3_115, H_b3_115, G_b3_115⟩ := id (((((((V_b3_15.ext E16).other W17 (Nat.ne_of_lt (Nat.lt_of_lt_of_le V_b3_15.lt (Nat.le_of_eq g16.symm)))).other W18 (Nat.ne_of_lt (Nat.lt_of_lt_of_le V_b3_15.lt (Nat.le_of_eq g16.symm)))).other W19 (Nat.ne_of_lt (Nat.lt_of_lt_of_le V_b3_15.lt (Nat.le_of_eq g16.symm)))).other W20 (Nat.ne_of_lt (Nat.lt_of_lt_of_le V_b3_15.lt (Nat.le_of_eq g16.symm)))).other W21 (Nat.ne_of_lt (Nat.lt_of_lt_of_le V_b3_15.lt (Nat.le_of_eq g16.symm)))).other W22 (Nat.ne_of_lt (Nat.lt_of_lt_of_le V_b3_15.lt (Nat.le_of_eq g16.symm))))
  have hin115 : ¬ ((HMod.hMod (p1 &&& (2147483647 : Int32)) (6 : Int32)) < 0 ∨ cl_b3_115.slots.size ≤ ((HMod.hMod (p1 &&& (2147483647 : Int32)) (6 : Int32))).toNatClampNeg) := inb_of S_b3_115 hj115
  have hat115 := Has.at H_b3_115 hin115 hv115
  obtain ⟨cl_b3_119, Ar_b3_119, q_b3_119, S_b3_119, N_b3_119, H_b3_119, G_b3_119⟩ := id (((((((V_b3_15.ext E16).other W17 (Nat.ne_of_lt (Nat.lt_of_lt_of_le V_b3_15.lt (Nat.le_of_eq g16.symm)))).other W18 (Nat.ne_of_lt (Nat.lt_of_lt_of_le V_b3_15.lt (Nat.le_of_eq g16.symm)))).other W19 (Nat.ne_of_lt (Nat.lt_of_lt_of_le V_b3_15.lt (Nat.le_of_eq g16.symm)))).other W20 (Nat.ne_of_lt (Nat.lt_of_lt_of_le V_b3_15.lt (Nat.le_of_eq g16.symm)))).other W21 (Nat.ne_of_lt (Nat.lt_of_lt_of_le V_b3_15.lt (Nat.le_of_eq g16.symm)))).other W22 (Nat.ne_of_lt (Nat.lt_of_lt_of_le V_b3_15.lt (Nat.le_of_eq g16.symm))))
  have hin119 : ¬ ((HMod.hMod (p2 &&& (2147483647 : Int32)) (6 : Int32)) < 0 ∨ cl_b3_119.slots.size ≤ ((HMod.hMod (p2 &&& (2147483647 : Int32)) (6 : Int32))).toNatClampNeg) := inb_of S_b3_119 hj119
  have hat119 := Has.at H_b3_119 hin119 hv119
  obtain ⟨cq26, kq26, q26a, q26b, q26c⟩ := isOf hZ e22 ((((((((((((((E_w24.ext E3).wr W5).wr W7).wr W9).wr W11).wr W13).wr W15).ext E16).wr W17).wr W18).wr W19).wr W20).wr W21).wr W22)
  obtain ⟨_, _, ⟨T26, L26, k26, n26⟩, -, X26, ⟨Lc26, hQ26, l26, y26, z26⟩, st26⟩ := X22.virtualBack hx (y := (⟨"com/example/holdfast/holdfast/tenant/Permission", "grants", "(Lcom/example/holdfast/holdfast/tenant/Permission;)Z"⟩ : MethodName)) (z := (⟨"com/example/holdfast/holdfast/tenant/Permission", "grants", "(Lcom/example/holdfast/holdfast/tenant/Permission;)Z"⟩ : MethodName)) hown (mvT hZ (hw _ (List.mem_of_getElem? (i := 18) rfl))) (mvT hZ (hw _ (List.mem_of_getElem? (i := 19) rfl))) (notFace_of_selects (args := #[]) (mvT hZ (hw _ (List.mem_of_getElem? (i := 21) rfl)))) (mvT hZ (hw _ (List.mem_of_getElem? (i := 21) rfl))) (mvT hZ (hw _ (List.mem_of_getElem? (i := 20) rfl))) (by decide) (backOf (W := 0) (rm1 l Z a0 hw [] w24 w25 w_ROOT_ACCESS w_VIEW_ALL_BUCKETS w_MANAGE_ALL_BUCKETS (1 : Int32) h22 n0 (Nat.le_trans (Nat.le_trans (Nat.le_trans (Nat.le_trans (Nat.le_trans (Nat.le_trans (Nat.le_trans (Nat.le_trans (Nat.le_trans (Nat.le_trans (Nat.le_trans (Nat.le_trans (Nat.le_trans (Nat.le_trans Z0 E3.1) (Keep.of_wr W5).1) (Keep.of_wr W7).1) (Keep.of_wr W9).1) (Keep.of_wr W11).1) (Keep.of_wr W13).1) (Keep.of_wr W15).1) E16.1) (Keep.of_wr W17).1) (Keep.of_wr W18).1) (Keep.of_wr W19).1) (Keep.of_wr W20).1) (Keep.of_wr W21).1) (Keep.of_wr W22).1) ((((((((((((((S_ROOT_ACCESS.ext E3).wr W5).wr W7).wr W9).wr W11).wr W13).wr W15).ext E16).wr W17).wr W18).wr W19).wr W20).wr W21).wr W22) ((((((((((((((S_VIEW_ALL_BUCKETS.ext E3).wr W5).wr W7).wr W9).wr W11).wr W13).wr W15).ext E16).wr W17).wr W18).wr W19).wr W20).wr W21).wr W22) ((((((((((((((S_MANAGE_ALL_BUCKETS.ext E3).wr W5).wr W7).wr W9).wr W11).wr W13).wr W15).ext E16).wr W17).wr W18).wr W19).wr W20).wr W21).wr W22) hr) hZ (hw _ (List.mem_of_getElem? (i := 22) rfl)) (hw _ (List.mem_of_getElem? (i := 3) rfl)) (by decide) (by decide)) q26a q26c (g := (mkF m 120 #[.val (.int p1), .val (.int p2), .val (.ref b3), .val (.ref b16), .val (.int (HMod.hMod (p1 &&& (2147483647 : Int32)) (6 : Int32))), .val (.int (HMod.hMod (p2 &&& (2147483647 : Int32)) (6 : Int32))), .val (.int (1 : Int32))] [(.ref w25), (.ref w24)])) rfl (by rw [hml]; rfl) (Steps.refl _) (argsL := [(.ref w25)]) (rest := []) (lenOf pd_0_0 rfl) rfl (by show 2 * 0 + _ ≤ _; exact Nat.le_of_eq rfl) (hb hby at_120) (fun _ _ => ⟨rfl, e22, (by decide : 2 + 0 ≤ _), (by decide : 12 + 0 ≤ _)⟩)
  dsimp only [Pt.U, Pt.locs, Pt.cells, Pt.slots] at X26 l26 y26 z26 st26 hQ26
  subst l26 y26 z26
  obtain ⟨rfl, N26q, eq26⟩ := hQ26
  have N26 := Fr.app N22 N26q
  obtain ⟨fs, hr, hrun, hended, hW, hsame⟩ := X26.leave (v := some (.int (1 : Int32))) (fun h => by rw [Bd.returns] at h; cases h)
  refine ⟨_, _, pre0 _ ?_, hrun, hended, _, _, rfl, ?_, ⟨_, rfl⟩, hW, hsame.mono (by decide) (by decide)⟩
  · show Steps p.tables e below (s₁.setTop (mkF m 0 #[.val (.int p1), .val (.int p2), .unset, .unset, .unset, .unset, .unset] [])) _
    refine XS.bipush X0.here hx rfl (hb hby at_0) ?_
    show Steps p.tables e below (s₁.setTop (mkF m 2 #[.val (.int p1), .val (.int p2), .unset, .unset, .unset, .unset, .unset] [(.int (6 : Int32))])) _
    refine st3 _ ?_
    show Steps p.tables e below (T3.setTop (mkF m 5 #[.val (.int p1), .val (.int p2), .unset, .unset, .unset, .unset, .unset] [(.ref b3)])) _
    refine XS.dup X3.here hx rfl (hb hby at_5) rfl rfl ?_
    show Steps p.tables e below (T3.setTop (mkF m 6 #[.val (.int p1), .val (.int p2), .unset, .unset, .unset, .unset, .unset] [(.ref b3), (.ref b3)])) _
    refine XS.iconst X3.here hx rfl (hb hby at_6) ?_
    show Steps p.tables e below (T3.setTop (mkF m 7 #[.val (.int p1), .val (.int p2), .unset, .unset, .unset, .unset, .unset] [(.int (0 : Int32)), (.ref b3), (.ref b3)])) _
    refine st4 _ ?_
    show Steps p.tables e below (T4.setTop (mkF m 10 #[.val (.int p1), .val (.int p2), .unset, .unset, .unset, .unset, .unset] [(.ref w_ROOT_ACCESS), (.int (0 : Int32)), (.ref b3), (.ref b3)])) _
    refine st5 _ ?_
    show Steps p.tables e below (T5.setTop (mkF m 11 #[.val (.int p1), .val (.int p2), .unset, .unset, .unset, .unset, .unset] [(.ref b3)])) _
    refine XS.dup X5.here hx rfl (hb hby at_11) rfl rfl ?_
    show Steps p.tables e below (T5.setTop (mkF m 12 #[.val (.int p1), .val (.int p2), .unset, .unset, .unset, .unset, .unset] [(.ref b3), (.ref b3)])) _
    refine XS.iconst X5.here hx rfl (hb hby at_12) ?_
    show Steps p.tables e below (T5.setTop (mkF m 13 #[.val (.int p1), .val (.int p2), .unset, .unset, .unset, .unset, .unset] [(.int (1 : Int32)), (.ref b3), (.ref b3)])) _
    refine st6 _ ?_
    show Steps p.tables e below (T6.setTop (mkF m 16 #[.val (.int p1), .val (.int p2), .unset, .unset, .unset, .unset, .unset] [(.ref w_MANAGE_OWN_S3_CREDENTIALS), (.int (1 : Int32)), (.ref b3), (.ref b3)])) _
    refine st7 _ ?_
    show Steps p.tables e below (T7.setTop (mkF m 17 #[.val (.int p1), .val (.int p2), .unset, .unset, .unset, .unset, .unset] [(.ref b3)])) _
    refine XS.dup X7.here hx rfl (hb hby at_17) rfl rfl ?_
    show Steps p.tables e below (T7.setTop (mkF m 18 #[.val (.int p1), .val (.int p2), .unset, .unset, .unset, .unset, .unset] [(.ref b3), (.ref b3)])) _
    refine XS.iconst X7.here hx rfl (hb hby at_18) ?_
    show Steps p.tables e below (T7.setTop (mkF m 19 #[.val (.int p1), .val (.int p2), .unset, .unset, .unset, .unset, .unset] [(.int (2 : Int32)), (.ref b3), (.ref b3)])) _
    refine st8 _ ?_
    show Steps p.tables e below (T8.setTop (mkF m 22 #[.val (.int p1), .val (.int p2), .unset, .unset, .unset, .unset, .unset] [(.ref w_VIEW_ALL_BUCKETS), (.int (2 : Int32)), (.ref b3), (.ref b3)])) _
    refine st9 _ ?_
    show Steps p.tables e below (T9.setTop (mkF m 23 #[.val (.int p1), .val (.int p2), .unset, .unset, .unset, .unset, .unset] [(.ref b3)])) _
    refine XS.dup X9.here hx rfl (hb hby at_23) rfl rfl ?_
    show Steps p.tables e below (T9.setTop (mkF m 24 #[.val (.int p1), .val (.int p2), .unset, .unset, .unset, .unset, .unset] [(.ref b3), (.ref b3)])) _
    refine XS.iconst X9.here hx rfl (hb hby at_24) ?_
    show Steps p.tables e below (T9.setTop (mkF m 25 #[.val (.int p1), .val (.int p2), .unset, .unset, .unset, .unset, .unset] [(.int (3 : Int32)), (.ref b3), (.ref b3)])) _
    refine st10 _ ?_
    show Steps p.tables e below (T10.setTop (mkF m 28 #[.val (.int p1), .val (.int p2), .unset, .unset, .unset, .unset, .unset] [(.ref w_MANAGE_ALL_BUCKETS), (.int (3 : Int32)), (.ref b3), (.ref b3)])) _
    refine st11 _ ?_
    show Steps p.tables e below (T11.setTop (mkF m 29 #[.val (.int p1), .val (.int p2), .unset, .unset, .unset, .unset, .unset] [(.ref b3)])) _
    refine XS.dup X11.here hx rfl (hb hby at_29) rfl rfl ?_
    show Steps p.tables e below (T11.setTop (mkF m 30 #[.val (.int p1), .val (.int p2), .unset, .unset, .unset, .unset, .unset] [(.ref b3), (.ref b3)])) _
    refine XS.iconst X11.here hx rfl (hb hby at_30) ?_
    show Steps p.tables e below (T11.setTop (mkF m 31 #[.val (.int p1), .val (.int p2), .unset, .unset, .unset, .unset, .unset] [(.int (4 : Int32)), (.ref b3), (.ref b3)])) _
    refine st12 _ ?_
    show Steps p.tables e below (T12.setTop (mkF m 34 #[.val (.int p1), .val (.int p2), .unset, .unset, .unset, .unset, .unset] [(.ref w_MANAGE_ENDPOINTS), (.int (4 : Int32)), (.ref b3), (.ref b3)])) _
    refine st13 _ ?_
    show Steps p.tables e below (T13.setTop (mkF m 35 #[.val (.int p1), .val (.int p2), .unset, .unset, .unset, .unset, .unset] [(.ref b3)])) _
    refine XS.dup X13.here hx rfl (hb hby at_35) rfl rfl ?_
    show Steps p.tables e below (T13.setTop (mkF m 36 #[.val (.int p1), .val (.int p2), .unset, .unset, .unset, .unset, .unset] [(.ref b3), (.ref b3)])) _
    refine XS.iconst X13.here hx rfl (hb hby at_36) ?_
    show Steps p.tables e below (T13.setTop (mkF m 37 #[.val (.int p1), .val (.int p2), .unset, .unset, .unset, .unset, .unset] [(.int (5 : Int32)), (.ref b3), (.ref b3)])) _
    refine st14 _ ?_
    show Steps p.tables e below (T14.setTop (mkF m 40 #[.val (.int p1), .val (.int p2), .unset, .unset, .unset, .unset, .unset] [(.ref w_USE_S3_CONSOLE), (.int (5 : Int32)), (.ref b3), (.ref b3)])) _
    refine st15 _ ?_
    show Steps p.tables e below (T15.setTop (mkF m 41 #[.val (.int p1), .val (.int p2), .unset, .unset, .unset, .unset, .unset] [(.ref b3)])) _
    refine XS.astoreN X15.here hx rfl (hb hby at_41) rfl rfl (l' := #[.val (.int p1), .val (.int p2), .val (.ref b3), .unset, .unset, .unset, .unset]) rfl ?_
    show Steps p.tables e below (T15.setTop (mkF m 42 #[.val (.int p1), .val (.int p2), .val (.ref b3), .unset, .unset, .unset, .unset] [])) _
    refine XS.bipush X15.here hx rfl (hb hby at_42) ?_
    show Steps p.tables e below (T15.setTop (mkF m 44 #[.val (.int p1), .val (.int p2), .val (.ref b3), .unset, .unset, .unset, .unset] [(.int (6 : Int32))])) _
    refine st16 _ ?_
    show Steps p.tables e below (T16.setTop (mkF m 46 #[.val (.int p1), .val (.int p2), .val (.ref b3), .unset, .unset, .unset, .unset] [(.ref b16)])) _
    refine XS.dup X16.here hx rfl (hb hby at_46) rfl rfl ?_
    show Steps p.tables e below (T16.setTop (mkF m 47 #[.val (.int p1), .val (.int p2), .val (.ref b3), .unset, .unset, .unset, .unset] [(.ref b16), (.ref b16)])) _
    refine XS.iconst X16.here hx rfl (hb hby at_47) ?_
    show Steps p.tables e below (T16.setTop (mkF m 48 #[.val (.int p1), .val (.int p2), .val (.ref b3), .unset, .unset, .unset, .unset] [(.int (0 : Int32)), (.ref b16), (.ref b16)])) _
    refine XS.bipush X16.here hx rfl (hb hby at_48) ?_
    show Steps p.tables e below (T16.setTop (mkF m 50 #[.val (.int p1), .val (.int p2), .val (.ref b3), .unset, .unset, .unset, .unset] [(.int (63 : Int32)), (.int (0 : Int32)), (.ref b16), (.ref b16)])) _
    refine st17 _ ?_
    show Steps p.tables e below (T17.setTop (mkF m 51 #[.val (.int p1), .val (.int p2), .val (.ref b3), .unset, .unset, .unset, .unset] [(.ref b16)])) _
    refine XS.dup X17.here hx rfl (hb hby at_51) rfl rfl ?_
    show Steps p.tables e below (T17.setTop (mkF m 52 #[.val (.int p1), .val (.int p2), .val (.ref b3), .unset, .unset, .unset, .unset] [(.ref b16), (.ref b16)])) _
    refine XS.iconst X17.here hx rfl (hb hby at_52) ?_
    show Steps p.tables e below (T17.setTop (mkF m 53 #[.val (.int p1), .val (.int p2), .val (.ref b3), .unset, .unset, .unset, .unset] [(.int (1 : Int32)), (.ref b16), (.ref b16)])) _
    refine XS.iconst X17.here hx rfl (hb hby at_53) ?_
    show Steps p.tables e below (T17.setTop (mkF m 54 #[.val (.int p1), .val (.int p2), .val (.ref b3), .unset, .unset, .unset, .unset] [(.int (2 : Int32)), (.int (1 : Int32)), (.ref b16), (.ref b16)])) _
    refine st18 _ ?_
    show Steps p.tables e below (T18.setTop (mkF m 55 #[.val (.int p1), .val (.int p2), .val (.ref b3), .unset, .unset, .unset, .unset] [(.ref b16)])) _
    refine XS.dup X18.here hx rfl (hb hby at_55) rfl rfl ?_
    show Steps p.tables e below (T18.setTop (mkF m 56 #[.val (.int p1), .val (.int p2), .val (.ref b3), .unset, .unset, .unset, .unset] [(.ref b16), (.ref b16)])) _
    refine XS.iconst X18.here hx rfl (hb hby at_56) ?_
    show Steps p.tables e below (T18.setTop (mkF m 57 #[.val (.int p1), .val (.int p2), .val (.ref b3), .unset, .unset, .unset, .unset] [(.int (2 : Int32)), (.ref b16), (.ref b16)])) _
    refine XS.iconst X18.here hx rfl (hb hby at_57) ?_
    show Steps p.tables e below (T18.setTop (mkF m 58 #[.val (.int p1), .val (.int p2), .val (.ref b3), .unset, .unset, .unset, .unset] [(.int (4 : Int32)), (.int (2 : Int32)), (.ref b16), (.ref b16)])) _
    refine st19 _ ?_
    show Steps p.tables e below (T19.setTop (mkF m 59 #[.val (.int p1), .val (.int p2), .val (.ref b3), .unset, .unset, .unset, .unset] [(.ref b16)])) _
    refine XS.dup X19.here hx rfl (hb hby at_59) rfl rfl ?_
    show Steps p.tables e below (T19.setTop (mkF m 60 #[.val (.int p1), .val (.int p2), .val (.ref b3), .unset, .unset, .unset, .unset] [(.ref b16), (.ref b16)])) _
    refine XS.iconst X19.here hx rfl (hb hby at_60) ?_
    show Steps p.tables e below (T19.setTop (mkF m 61 #[.val (.int p1), .val (.int p2), .val (.ref b3), .unset, .unset, .unset, .unset] [(.int (3 : Int32)), (.ref b16), (.ref b16)])) _
    refine XS.bipush X19.here hx rfl (hb hby at_61) ?_
    show Steps p.tables e below (T19.setTop (mkF m 63 #[.val (.int p1), .val (.int p2), .val (.ref b3), .unset, .unset, .unset, .unset] [(.int (12 : Int32)), (.int (3 : Int32)), (.ref b16), (.ref b16)])) _
    refine st20 _ ?_
    show Steps p.tables e below (T20.setTop (mkF m 64 #[.val (.int p1), .val (.int p2), .val (.ref b3), .unset, .unset, .unset, .unset] [(.ref b16)])) _
    refine XS.dup X20.here hx rfl (hb hby at_64) rfl rfl ?_
    show Steps p.tables e below (T20.setTop (mkF m 65 #[.val (.int p1), .val (.int p2), .val (.ref b3), .unset, .unset, .unset, .unset] [(.ref b16), (.ref b16)])) _
    refine XS.iconst X20.here hx rfl (hb hby at_65) ?_
    show Steps p.tables e below (T20.setTop (mkF m 66 #[.val (.int p1), .val (.int p2), .val (.ref b3), .unset, .unset, .unset, .unset] [(.int (4 : Int32)), (.ref b16), (.ref b16)])) _
    refine XS.bipush X20.here hx rfl (hb hby at_66) ?_
    show Steps p.tables e below (T20.setTop (mkF m 68 #[.val (.int p1), .val (.int p2), .val (.ref b3), .unset, .unset, .unset, .unset] [(.int (16 : Int32)), (.int (4 : Int32)), (.ref b16), (.ref b16)])) _
    refine st21 _ ?_
    show Steps p.tables e below (T21.setTop (mkF m 69 #[.val (.int p1), .val (.int p2), .val (.ref b3), .unset, .unset, .unset, .unset] [(.ref b16)])) _
    refine XS.dup X21.here hx rfl (hb hby at_69) rfl rfl ?_
    show Steps p.tables e below (T21.setTop (mkF m 70 #[.val (.int p1), .val (.int p2), .val (.ref b3), .unset, .unset, .unset, .unset] [(.ref b16), (.ref b16)])) _
    refine XS.iconst X21.here hx rfl (hb hby at_70) ?_
    show Steps p.tables e below (T21.setTop (mkF m 71 #[.val (.int p1), .val (.int p2), .val (.ref b3), .unset, .unset, .unset, .unset] [(.int (5 : Int32)), (.ref b16), (.ref b16)])) _
    refine XS.bipush X21.here hx rfl (hb hby at_71) ?_
    show Steps p.tables e below (T21.setTop (mkF m 73 #[.val (.int p1), .val (.int p2), .val (.ref b3), .unset, .unset, .unset, .unset] [(.int (32 : Int32)), (.int (5 : Int32)), (.ref b16), (.ref b16)])) _
    refine st22 _ ?_
    show Steps p.tables e below (T22.setTop (mkF m 74 #[.val (.int p1), .val (.int p2), .val (.ref b3), .unset, .unset, .unset, .unset] [(.ref b16)])) _
    refine XS.astoreN X22.here hx rfl (hb hby at_74) rfl rfl (l' := #[.val (.int p1), .val (.int p2), .val (.ref b3), .val (.ref b16), .unset, .unset, .unset]) rfl ?_
    show Steps p.tables e below (T22.setTop (mkF m 75 #[.val (.int p1), .val (.int p2), .val (.ref b3), .val (.ref b16), .unset, .unset, .unset] [])) _
    refine XS.iloadN X22.here hx rfl (hb hby at_75) rfl ?_
    show Steps p.tables e below (T22.setTop (mkF m 76 #[.val (.int p1), .val (.int p2), .val (.ref b3), .val (.ref b16), .unset, .unset, .unset] [(.int p1)])) _
    refine X22.ldcInt hx hown (mvT hZ (hw _ (List.mem_of_getElem? (i := 17) rfl))) (g := (mkF m 76 #[.val (.int p1), .val (.int p2), .val (.ref b3), .val (.ref b16), .unset, .unset, .unset] [(.int p1)])) rfl (hb hby at_76) _ ?_
    show Steps p.tables e below (T22.setTop (mkF m 78 #[.val (.int p1), .val (.int p2), .val (.ref b3), .val (.ref b16), .unset, .unset, .unset] [(.int (2147483647 : Int32)), (.int p1)])) _
    refine XS.iand X22.here hx rfl (hb hby at_78) rfl ?_
    show Steps p.tables e below (T22.setTop (mkF m 79 #[.val (.int p1), .val (.int p2), .val (.ref b3), .val (.ref b16), .unset, .unset, .unset] [(.int (p1 &&& (2147483647 : Int32)))])) _
    refine XS.bipush X22.here hx rfl (hb hby at_79) ?_
    show Steps p.tables e below (T22.setTop (mkF m 81 #[.val (.int p1), .val (.int p2), .val (.ref b3), .val (.ref b16), .unset, .unset, .unset] [(.int (6 : Int32)), (.int (p1 &&& (2147483647 : Int32)))])) _
    refine iremM X22 hx rfl (hb hby at_81) rfl (by decide) ?_
    show Steps p.tables e below (T22.setTop (mkF m 82 #[.val (.int p1), .val (.int p2), .val (.ref b3), .val (.ref b16), .unset, .unset, .unset] [(.int (HMod.hMod (p1 &&& (2147483647 : Int32)) (6 : Int32)))])) _
    refine XS.istore X22.here hx rfl (hb hby at_82) rfl (l' := #[.val (.int p1), .val (.int p2), .val (.ref b3), .val (.ref b16), .val (.int (HMod.hMod (p1 &&& (2147483647 : Int32)) (6 : Int32))), .unset, .unset]) rfl ?_
    show Steps p.tables e below (T22.setTop (mkF m 84 #[.val (.int p1), .val (.int p2), .val (.ref b3), .val (.ref b16), .val (.int (HMod.hMod (p1 &&& (2147483647 : Int32)) (6 : Int32))), .unset, .unset] [])) _
    refine XS.iloadN X22.here hx rfl (hb hby at_84) rfl ?_
    show Steps p.tables e below (T22.setTop (mkF m 85 #[.val (.int p1), .val (.int p2), .val (.ref b3), .val (.ref b16), .val (.int (HMod.hMod (p1 &&& (2147483647 : Int32)) (6 : Int32))), .unset, .unset] [(.int p2)])) _
    refine X22.ldcInt hx hown (mvT hZ (hw _ (List.mem_of_getElem? (i := 17) rfl))) (g := (mkF m 85 #[.val (.int p1), .val (.int p2), .val (.ref b3), .val (.ref b16), .val (.int (HMod.hMod (p1 &&& (2147483647 : Int32)) (6 : Int32))), .unset, .unset] [(.int p2)])) rfl (hb hby at_85) _ ?_
    show Steps p.tables e below (T22.setTop (mkF m 87 #[.val (.int p1), .val (.int p2), .val (.ref b3), .val (.ref b16), .val (.int (HMod.hMod (p1 &&& (2147483647 : Int32)) (6 : Int32))), .unset, .unset] [(.int (2147483647 : Int32)), (.int p2)])) _
    refine XS.iand X22.here hx rfl (hb hby at_87) rfl ?_
    show Steps p.tables e below (T22.setTop (mkF m 88 #[.val (.int p1), .val (.int p2), .val (.ref b3), .val (.ref b16), .val (.int (HMod.hMod (p1 &&& (2147483647 : Int32)) (6 : Int32))), .unset, .unset] [(.int (p2 &&& (2147483647 : Int32)))])) _
    refine XS.bipush X22.here hx rfl (hb hby at_88) ?_
    show Steps p.tables e below (T22.setTop (mkF m 90 #[.val (.int p1), .val (.int p2), .val (.ref b3), .val (.ref b16), .val (.int (HMod.hMod (p1 &&& (2147483647 : Int32)) (6 : Int32))), .unset, .unset] [(.int (6 : Int32)), (.int (p2 &&& (2147483647 : Int32)))])) _
    refine iremM X22 hx rfl (hb hby at_90) rfl (by decide) ?_
    show Steps p.tables e below (T22.setTop (mkF m 91 #[.val (.int p1), .val (.int p2), .val (.ref b3), .val (.ref b16), .val (.int (HMod.hMod (p1 &&& (2147483647 : Int32)) (6 : Int32))), .unset, .unset] [(.int (HMod.hMod (p2 &&& (2147483647 : Int32)) (6 : Int32)))])) _
    refine XS.istore X22.here hx rfl (hb hby at_91) rfl (l' := #[.val (.int p1), .val (.int p2), .val (.ref b3), .val (.ref b16), .val (.int (HMod.hMod (p1 &&& (2147483647 : Int32)) (6 : Int32))), .val (.int (HMod.hMod (p2 &&& (2147483647 : Int32)) (6 : Int32))), .unset]) rfl ?_
    show Steps p.tables e below (T22.setTop (mkF m 93 #[.val (.int p1), .val (.int p2), .val (.ref b3), .val (.ref b16), .val (.int (HMod.hMod (p1 &&& (2147483647 : Int32)) (6 : Int32))), .val (.int (HMod.hMod (p2 &&& (2147483647 : Int32)) (6 : Int32))), .unset] [])) _
    refine XS.aloadN X22.here hx rfl (hb hby at_93) rfl rfl ?_
    show Steps p.tables e below (T22.setTop (mkF m 94 #[.val (.int p1), .val (.int p2), .val (.ref b3), .val (.ref b16), .val (.int (HMod.hMod (p1 &&& (2147483647 : Int32)) (6 : Int32))), .val (.int (HMod.hMod (p2 &&& (2147483647 : Int32)) (6 : Int32))), .unset] [(.ref b16)])) _
    refine XS.iload X22.here hx rfl (hb hby at_94) rfl ?_
    show Steps p.tables e below (T22.setTop (mkF m 96 #[.val (.int p1), .val (.int p2), .val (.ref b3), .val (.ref b16), .val (.int (HMod.hMod (p1 &&& (2147483647 : Int32)) (6 : Int32))), .val (.int (HMod.hMod (p2 &&& (2147483647 : Int32)) (6 : Int32))), .unset] [(.int (HMod.hMod (p1 &&& (2147483647 : Int32)) (6 : Int32))), (.ref b16)])) _
    refine X22.iaload hx (j := (HMod.hMod (p1 &&& (2147483647 : Int32)) (6 : Int32))) (v := (.int w23)) (by rw [e22]; exact Ar_b16_96.1) (State.isArrayOf_alike hZ.alike Ar_b16_96.2.1) Ar_b16_96.2.2 hin96 hat96 (g := (mkF m 96 #[.val (.int p1), .val (.int p2), .val (.ref b3), .val (.ref b16), .val (.int (HMod.hMod (p1 &&& (2147483647 : Int32)) (6 : Int32))), .val (.int (HMod.hMod (p2 &&& (2147483647 : Int32)) (6 : Int32))), .unset] [(.int (HMod.hMod (p1 &&& (2147483647 : Int32)) (6 : Int32))), (.ref b16)])) rfl rfl (hb hby at_96) _ ?_
    show Steps p.tables e below (T22.setTop (mkF m 97 #[.val (.int p1), .val (.int p2), .val (.ref b3), .val (.ref b16), .val (.int (HMod.hMod (p1 &&& (2147483647 : Int32)) (6 : Int32))), .val (.int (HMod.hMod (p2 &&& (2147483647 : Int32)) (6 : Int32))), .unset] [(.int w23)])) _
    refine XS.iload X22.here hx rfl (hb hby at_97) rfl ?_
    show Steps p.tables e below (T22.setTop (mkF m 99 #[.val (.int p1), .val (.int p2), .val (.ref b3), .val (.ref b16), .val (.int (HMod.hMod (p1 &&& (2147483647 : Int32)) (6 : Int32))), .val (.int (HMod.hMod (p2 &&& (2147483647 : Int32)) (6 : Int32))), .unset] [(.int (HMod.hMod (p2 &&& (2147483647 : Int32)) (6 : Int32))), (.int w23)])) _
    refine XS.ishr X22.here hx rfl (hb hby at_99) rfl ?_
    show Steps p.tables e below (T22.setTop (mkF m 100 #[.val (.int p1), .val (.int p2), .val (.ref b3), .val (.ref b16), .val (.int (HMod.hMod (p1 &&& (2147483647 : Int32)) (6 : Int32))), .val (.int (HMod.hMod (p2 &&& (2147483647 : Int32)) (6 : Int32))), .unset] [(.int (w23 >>> ((HMod.hMod (p2 &&& (2147483647 : Int32)) (6 : Int32)) &&& 31)))])) _
    refine XS.iconst X22.here hx rfl (hb hby at_100) ?_
    show Steps p.tables e below (T22.setTop (mkF m 101 #[.val (.int p1), .val (.int p2), .val (.ref b3), .val (.ref b16), .val (.int (HMod.hMod (p1 &&& (2147483647 : Int32)) (6 : Int32))), .val (.int (HMod.hMod (p2 &&& (2147483647 : Int32)) (6 : Int32))), .unset] [(.int (1 : Int32)), (.int (w23 >>> ((HMod.hMod (p2 &&& (2147483647 : Int32)) (6 : Int32)) &&& 31)))])) _
    refine XS.iand X22.here hx rfl (hb hby at_101) rfl ?_
    show Steps p.tables e below (T22.setTop (mkF m 102 #[.val (.int p1), .val (.int p2), .val (.ref b3), .val (.ref b16), .val (.int (HMod.hMod (p1 &&& (2147483647 : Int32)) (6 : Int32))), .val (.int (HMod.hMod (p2 &&& (2147483647 : Int32)) (6 : Int32))), .unset] [(.int ((w23 >>> ((HMod.hMod (p2 &&& (2147483647 : Int32)) (6 : Int32)) &&& 31)) &&& (1 : Int32)))])) _
    refine XS.ifNo X22.here hx rfl (hb hby at_102) rfl ((if0 _ _).trans (feq hc102).1) ?_
    show Steps p.tables e below (T22.setTop (mkF m 105 #[.val (.int p1), .val (.int p2), .val (.ref b3), .val (.ref b16), .val (.int (HMod.hMod (p1 &&& (2147483647 : Int32)) (6 : Int32))), .val (.int (HMod.hMod (p2 &&& (2147483647 : Int32)) (6 : Int32))), .unset] [])) _
    refine XS.iconst X22.here hx rfl (hb hby at_105) ?_
    show Steps p.tables e below (T22.setTop (mkF m 106 #[.val (.int p1), .val (.int p2), .val (.ref b3), .val (.ref b16), .val (.int (HMod.hMod (p1 &&& (2147483647 : Int32)) (6 : Int32))), .val (.int (HMod.hMod (p2 &&& (2147483647 : Int32)) (6 : Int32))), .unset] [(.int (1 : Int32))])) _
    refine XS.goto X22.here hx rfl (pc0 := 106) (pc' := 110) rfl (hb hby at_106) (by decide) (by decide) ?_
    show Steps p.tables e below (T22.setTop (mkF m 110 #[.val (.int p1), .val (.int p2), .val (.ref b3), .val (.ref b16), .val (.int (HMod.hMod (p1 &&& (2147483647 : Int32)) (6 : Int32))), .val (.int (HMod.hMod (p2 &&& (2147483647 : Int32)) (6 : Int32))), .unset] [(.int (1 : Int32))])) _
    refine XS.istore X22.here hx rfl (hb hby at_110) rfl (l' := #[.val (.int p1), .val (.int p2), .val (.ref b3), .val (.ref b16), .val (.int (HMod.hMod (p1 &&& (2147483647 : Int32)) (6 : Int32))), .val (.int (HMod.hMod (p2 &&& (2147483647 : Int32)) (6 : Int32))), .val (.int (1 : Int32))]) rfl ?_
    show Steps p.tables e below (T22.setTop (mkF m 112 #[.val (.int p1), .val (.int p2), .val (.ref b3), .val (.ref b16), .val (.int (HMod.hMod (p1 &&& (2147483647 : Int32)) (6 : Int32))), .val (.int (HMod.hMod (p2 &&& (2147483647 : Int32)) (6 : Int32))), .val (.int (1 : Int32))] [])) _
    refine XS.aloadN X22.here hx rfl (hb hby at_112) rfl rfl ?_
    show Steps p.tables e below (T22.setTop (mkF m 113 #[.val (.int p1), .val (.int p2), .val (.ref b3), .val (.ref b16), .val (.int (HMod.hMod (p1 &&& (2147483647 : Int32)) (6 : Int32))), .val (.int (HMod.hMod (p2 &&& (2147483647 : Int32)) (6 : Int32))), .val (.int (1 : Int32))] [(.ref b3)])) _
    refine XS.iload X22.here hx rfl (hb hby at_113) rfl ?_
    show Steps p.tables e below (T22.setTop (mkF m 115 #[.val (.int p1), .val (.int p2), .val (.ref b3), .val (.ref b16), .val (.int (HMod.hMod (p1 &&& (2147483647 : Int32)) (6 : Int32))), .val (.int (HMod.hMod (p2 &&& (2147483647 : Int32)) (6 : Int32))), .val (.int (1 : Int32))] [(.int (HMod.hMod (p1 &&& (2147483647 : Int32)) (6 : Int32))), (.ref b3)])) _
    refine X22.aaload hx (j := (HMod.hMod (p1 &&& (2147483647 : Int32)) (6 : Int32))) (v := (.ref w24)) (by rw [e22]; exact Ar_b3_115.1) (State.isArrayOf_alike hZ.alike Ar_b3_115.2.1) rfl Ar_b3_115.2.2 hin115 hat115 (g := (mkF m 115 #[.val (.int p1), .val (.int p2), .val (.ref b3), .val (.ref b16), .val (.int (HMod.hMod (p1 &&& (2147483647 : Int32)) (6 : Int32))), .val (.int (HMod.hMod (p2 &&& (2147483647 : Int32)) (6 : Int32))), .val (.int (1 : Int32))] [(.int (HMod.hMod (p1 &&& (2147483647 : Int32)) (6 : Int32))), (.ref b3)])) rfl rfl (hb hby at_115) _ ?_
    show Steps p.tables e below (T22.setTop (mkF m 116 #[.val (.int p1), .val (.int p2), .val (.ref b3), .val (.ref b16), .val (.int (HMod.hMod (p1 &&& (2147483647 : Int32)) (6 : Int32))), .val (.int (HMod.hMod (p2 &&& (2147483647 : Int32)) (6 : Int32))), .val (.int (1 : Int32))] [(.ref w24)])) _
    refine XS.aloadN X22.here hx rfl (hb hby at_116) rfl rfl ?_
    show Steps p.tables e below (T22.setTop (mkF m 117 #[.val (.int p1), .val (.int p2), .val (.ref b3), .val (.ref b16), .val (.int (HMod.hMod (p1 &&& (2147483647 : Int32)) (6 : Int32))), .val (.int (HMod.hMod (p2 &&& (2147483647 : Int32)) (6 : Int32))), .val (.int (1 : Int32))] [(.ref b3), (.ref w24)])) _
    refine XS.iload X22.here hx rfl (hb hby at_117) rfl ?_
    show Steps p.tables e below (T22.setTop (mkF m 119 #[.val (.int p1), .val (.int p2), .val (.ref b3), .val (.ref b16), .val (.int (HMod.hMod (p1 &&& (2147483647 : Int32)) (6 : Int32))), .val (.int (HMod.hMod (p2 &&& (2147483647 : Int32)) (6 : Int32))), .val (.int (1 : Int32))] [(.int (HMod.hMod (p2 &&& (2147483647 : Int32)) (6 : Int32))), (.ref b3), (.ref w24)])) _
    refine X22.aaload hx (j := (HMod.hMod (p2 &&& (2147483647 : Int32)) (6 : Int32))) (v := (.ref w25)) (by rw [e22]; exact Ar_b3_119.1) (State.isArrayOf_alike hZ.alike Ar_b3_119.2.1) rfl Ar_b3_119.2.2 hin119 hat119 (g := (mkF m 119 #[.val (.int p1), .val (.int p2), .val (.ref b3), .val (.ref b16), .val (.int (HMod.hMod (p1 &&& (2147483647 : Int32)) (6 : Int32))), .val (.int (HMod.hMod (p2 &&& (2147483647 : Int32)) (6 : Int32))), .val (.int (1 : Int32))] [(.int (HMod.hMod (p2 &&& (2147483647 : Int32)) (6 : Int32))), (.ref b3), (.ref w24)])) rfl rfl (hb hby at_119) _ ?_
    show Steps p.tables e below (T22.setTop (mkF m 120 #[.val (.int p1), .val (.int p2), .val (.ref b3), .val (.ref b16), .val (.int (HMod.hMod (p1 &&& (2147483647 : Int32)) (6 : Int32))), .val (.int (HMod.hMod (p2 &&& (2147483647 : Int32)) (6 : Int32))), .val (.int (1 : Int32))] [(.ref w25), (.ref w24)])) _
    refine st26.trans ?_
    show Steps p.tables e below (T26.setTop (mkF m 123 #[.val (.int p1), .val (.int p2), .val (.ref b3), .val (.ref b16), .val (.int (HMod.hMod (p1 &&& (2147483647 : Int32)) (6 : Int32))), .val (.int (HMod.hMod (p2 &&& (2147483647 : Int32)) (6 : Int32))), .val (.int (1 : Int32))] [(.int (1 : Int32))])) _
    refine XS.iload X26.here hx rfl (hb hby at_123) rfl ?_
    show Steps p.tables e below (T26.setTop (mkF m 125 #[.val (.int p1), .val (.int p2), .val (.ref b3), .val (.ref b16), .val (.int (HMod.hMod (p1 &&& (2147483647 : Int32)) (6 : Int32))), .val (.int (HMod.hMod (p2 &&& (2147483647 : Int32)) (6 : Int32))), .val (.int (1 : Int32))] [(.int (1 : Int32)), (.int (1 : Int32))])) _
    refine XS.icmpNo X26.here hx rfl (hb hby at_125) rfl (teq (rfl : (1 : Int32) = (1 : Int32))).2 ?_
    show Steps p.tables e below (T26.setTop (mkF m 128 #[.val (.int p1), .val (.int p2), .val (.ref b3), .val (.ref b16), .val (.int (HMod.hMod (p1 &&& (2147483647 : Int32)) (6 : Int32))), .val (.int (HMod.hMod (p2 &&& (2147483647 : Int32)) (6 : Int32))), .val (.int (1 : Int32))] [])) _
    refine XS.iconst X26.here hx rfl (hb hby at_128) ?_
    show Steps p.tables e below (T26.setTop (mkF m 129 #[.val (.int p1), .val (.int p2), .val (.ref b3), .val (.ref b16), .val (.int (HMod.hMod (p1 &&& (2147483647 : Int32)) (6 : Int32))), .val (.int (HMod.hMod (p2 &&& (2147483647 : Int32)) (6 : Int32))), .val (.int (1 : Int32))] [(.int (1 : Int32))])) _
    refine XS.goto X26.here hx rfl (pc0 := 129) (pc' := 133) rfl (hb hby at_129) (by decide) (by decide) ?_
    show Steps p.tables e below (T26.setTop (mkF m 133 #[.val (.int p1), .val (.int p2), .val (.ref b3), .val (.ref b16), .val (.int (HMod.hMod (p1 &&& (2147483647 : Int32)) (6 : Int32))), .val (.int (HMod.hMod (p2 &&& (2147483647 : Int32)) (6 : Int32))), .val (.int (1 : Int32))] [(.int (1 : Int32))])) _
    exact retN X26 hx (t := .boolean) Bd.returns (by simp) (hb hby at_133) hr
  · show QL (some (.int (1 : Int32))) n0 _ T26.heap _
    rw [eq26]
    exact ⟨rfl, N26⟩

set_option maxRecDepth 65536 in
set_option maxHeartbeats 40000000 in
theorem rm0_0 (l : Launch) (Z : State) (a0 : Array Value) (hw : ∀ d ∈ tables_1, d.before a0 Z = true) (ws : List Jvm.Cond) (p1 : Int32) (p2 : Int32) (w_ROOT_ACCESS : Addr) (w_MANAGE_OWN_S3_CREDENTIALS : Addr) (w_VIEW_ALL_BUCKETS : Addr) (w_MANAGE_ALL_BUCKETS : Addr) (w_MANAGE_ENDPOINTS : Addr) (w_USE_S3_CONSOLE : Addr) (w23 : Int32) (w24 : Addr) (w25 : Addr) (h0 : Heap) (n0 : Nat) (Z0 : n0 ≤ h0.size) (S_ROOT_ACCESS : Sta Z h0 "com/example/holdfast/holdfast/tenant/Permission" "ROOT_ACCESS" "Lcom/example/holdfast/holdfast/tenant/Permission;" (.ref w_ROOT_ACCESS)) (S_MANAGE_OWN_S3_CREDENTIALS : Sta Z h0 "com/example/holdfast/holdfast/tenant/Permission" "MANAGE_OWN_S3_CREDENTIALS" "Lcom/example/holdfast/holdfast/tenant/Permission;" (.ref w_MANAGE_OWN_S3_CREDENTIALS)) (S_VIEW_ALL_BUCKETS : Sta Z h0 "com/example/holdfast/holdfast/tenant/Permission" "VIEW_ALL_BUCKETS" "Lcom/example/holdfast/holdfast/tenant/Permission;" (.ref w_VIEW_ALL_BUCKETS)) (S_MANAGE_ALL_BUCKETS : Sta Z h0 "com/example/holdfast/holdfast/tenant/Permission" "MANAGE_ALL_BUCKETS" "Lcom/example/holdfast/holdfast/tenant/Permission;" (.ref w_MANAGE_ALL_BUCKETS)) (S_MANAGE_ENDPOINTS : Sta Z h0 "com/example/holdfast/holdfast/tenant/Permission" "MANAGE_ENDPOINTS" "Lcom/example/holdfast/holdfast/tenant/Permission;" (.ref w_MANAGE_ENDPOINTS)) (S_USE_S3_CONSOLE : Sta Z h0 "com/example/holdfast/holdfast/tenant/Permission" "USE_S3_CONSOLE" "Lcom/example/holdfast/holdfast/tenant/Permission;" (.ref w_USE_S3_CONSOLE)) (E_w_ROOT_ACCESS : Exa Z h0 w_ROOT_ACCESS "com/example/holdfast/holdfast/tenant/Permission") (E_w_MANAGE_OWN_S3_CREDENTIALS : Exa Z h0 w_MANAGE_OWN_S3_CREDENTIALS "com/example/holdfast/holdfast/tenant/Permission") (E_w_VIEW_ALL_BUCKETS : Exa Z h0 w_VIEW_ALL_BUCKETS "com/example/holdfast/holdfast/tenant/Permission") (E_w_MANAGE_ALL_BUCKETS : Exa Z h0 w_MANAGE_ALL_BUCKETS "com/example/holdfast/holdfast/tenant/Permission") (E_w_MANAGE_ENDPOINTS : Exa Z h0 w_MANAGE_ENDPOINTS "com/example/holdfast/holdfast/tenant/Permission") (E_w_USE_S3_CONSOLE : Exa Z h0 w_USE_S3_CONSOLE "com/example/holdfast/holdfast/tenant/Permission") (hr : Gr w24 w25 (0 : Int32) w_ROOT_ACCESS w_VIEW_ALL_BUCKETS w_MANAGE_ALL_BUCKETS) (hj96 : ¬ (HMod.hMod (p1 &&& (2147483647 : Int32)) (6 : Int32)) < 0 ∧ (HMod.hMod (p1 &&& (2147483647 : Int32)) (6 : Int32)) < (6 : Int32)) (hv96 : ([(.int (63 : Int32)), (.int (2 : Int32)), (.int (4 : Int32)), (.int (12 : Int32)), (.int (16 : Int32)), (.int (32 : Int32))] : List Value).getD ((HMod.hMod (p1 &&& (2147483647 : Int32)) (6 : Int32))).toNatClampNeg (.int (0 : Int32)) = (.int w23)) (hj115 : ¬ (HMod.hMod (p1 &&& (2147483647 : Int32)) (6 : Int32)) < 0 ∧ (HMod.hMod (p1 &&& (2147483647 : Int32)) (6 : Int32)) < (6 : Int32)) (hv115 : ([(.ref w_ROOT_ACCESS), (.ref w_MANAGE_OWN_S3_CREDENTIALS), (.ref w_VIEW_ALL_BUCKETS), (.ref w_MANAGE_ALL_BUCKETS), (.ref w_MANAGE_ENDPOINTS), (.ref w_USE_S3_CONSOLE)] : List Value).getD ((HMod.hMod (p1 &&& (2147483647 : Int32)) (6 : Int32))).toNatClampNeg .null = (.ref w24)) (hj119 : ¬ (HMod.hMod (p2 &&& (2147483647 : Int32)) (6 : Int32)) < 0 ∧ (HMod.hMod (p2 &&& (2147483647 : Int32)) (6 : Int32)) < (6 : Int32)) (hv119 : ([(.ref w_ROOT_ACCESS), (.ref w_MANAGE_OWN_S3_CREDENTIALS), (.ref w_VIEW_ALL_BUCKETS), (.ref w_MANAGE_ALL_BUCKETS), (.ref w_MANAGE_ENDPOINTS), (.ref w_USE_S3_CONSOLE)] : List Value).getD ((HMod.hMod (p2 &&& (2147483647 : Int32)) (6 : Int32))).toNatClampNeg .null = (.ref w25)) (E_w24 : Exa Z h0 w24 "com/example/holdfast/holdfast/tenant/Permission") (hc102 : ((w23 >>> ((HMod.hMod (p2 &&& (2147483647 : Int32)) (6 : Int32)) &&& 31)) &&& (1 : Int32)) = (0 : Int32)) :
    MetFree l x (head1 (Jvm.Cond.code x code maxLocals ret :: ws) room_1) (fun a U => a = #[(.int p1), (.int p2)] ∧ Z.Warmed39 U.vm ∧ U.heap = h0) (fun _ _ _ _ _ => True) (fun _ U o U' => ∃ v L, o = .returned v ∧ QL (some (.int (1 : Int32))) n0 v U'.heap L ∧ FrameEnd U o U' L room_1.cells room_1.slots) := by
  refine MetFree.of_bodySF (plainFor_of_name pn_0) hisR ?_
  intro p e s m args below meth c s₁ Bd hml0 hP hK
  obtain ⟨rfl, hZ, hh⟩ := hP
  have hx := Bd.exec
  have hby := Bd.bytes
  have hml : c.maxLocals = 7 := hml0
  have hown : s.vm.findClass "com/example/holdfast/holdfast/tenant/PermissionGrantsPinLaw" = some m.cls := findClass_of_methodNamed Bd.named
  have hnm := (name_of_methodNamed Bd.named Bd.method).1
  have X0 : Stand p l e room_1 s m #[(.int p1), (.int p2)] below meth c s₁ [] 0 0 := Stand.of_body Bd
  have e0 : s₁.heap = h0 := by rw [← hh, Bd.state]; rfl
  have N0 := Fr.nil n0
  have pre0 : ∀ t, Steps p.tables e below (s₁.setTop (mkF m 0 #[.val (.int p1), .val (.int p2), .unset, .unset, .unset, .unset, .unset] [])) t → Steps p.tables e below (s₁.setTop (entryFrame m #[(.int p1), (.int p2)] maxLocals)) t := fun t k => castTop (ef_0 m p1 p2) k
  obtain ⟨T3, h3, k3, X3, e3, E3, A3, O3, st3⟩ := newR X0 hx hZ hown (hw _ (List.mem_of_getElem? (i := 0) rfl)) (hw _ (List.mem_of_getElem? (i := 1) rfl)) e0 (g := (mkF m 2 #[.val (.int p1), .val (.int p2), .unset, .unset, .unset, .unset, .unset] [(.int (6 : Int32))])) rfl (hb hby at_2) rfl (by decide) (cap := 6) (by decide) (by decide) (by decide) (by decide)
  obtain ⟨b3, g3⟩ : ∃ z, z = h0.size := ⟨_, rfl⟩      -- the fresh array's address
  rw [← g3] at A3 st3
  have V_b3 : Arv Z h3 b3 k3 (.object "com/example/holdfast/holdfast/tenant/Permission") (6 : Int32) [.null, .null, .null, .null, .null, .null] .null := (Arv.new A3 (by decide)).pad (pad_rep [] .null 6)
  have g_b3 : n0 ≤ b3 := Nat.le_trans Z0 (Nat.le_of_eq g3.symm)
  have sz_b3 : h0.size ≤ b3 := (Nat.le_trans (Keep.refl h0 []).1 (Nat.le_of_eq g3.symm))
  have K3 : Keep h0 h3 [] := (Keep.refl h0 []).ext E3
  obtain ⟨T4, X4, e4, st4⟩ := getS2 X3 hx hZ hown (host := "") (Or.inl (hw _ (List.mem_of_getElem? (i := 2) rfl))) Via.refl e3 (S_ROOT_ACCESS.ext E3) (g := (mkF m 7 #[.val (.int p1), .val (.int p2), .unset, .unset, .unset, .unset, .unset] [(.int (0 : Int32)), (.ref b3), (.ref b3)])) rfl (hb hby at_7)
  obtain ⟨cl_b3_10, Ar_b3_10, q_b3_10, S_b3_10, N_b3_10, H_b3_10, G_b3_10⟩ := id V_b3
  have hin_b3_10 : ¬ ((0 : Int32) < 0 ∨ cl_b3_10.slots.size ≤ ((0 : Int32)).toNatClampNeg) := inb_of S_b3_10 ⟨by decide, by decide⟩
  have Sto_b3_10 : Sto Z h3 b3 (.ref w_ROOT_ACCESS) := Sto.ofV Ar_b3_10 q_b3_10 O3 (Ins.self (E_w_ROOT_ACCESS.ext E3))
  obtain ⟨T5, h5, X5, e5, W5, st5⟩ := stR X4 hx hZ e4 Ar_b3_10 (j := (0 : Int32)) hin_b3_10 rfl Sto_b3_10 (g := (mkF m 10 #[.val (.int p1), .val (.int p2), .unset, .unset, .unset, .unset, .unset] [(.ref w_ROOT_ACCESS), (.int (0 : Int32)), (.ref b3), (.ref b3)])) rfl rfl (hb hby at_10)
  have V_b3_5 := Arv.set Ar_b3_10 q_b3_10 S_b3_10 N_b3_10 H_b3_10 G_b3_10 rfl W5 0 rfl (Nat.le_of_ble_eq_true rfl)
  have K5 : Keep h0 h5 [] := K3.wr W5 (Or.inr sz_b3)
  have N5 := Fr.snoc X5 N0 g_b3
  obtain ⟨T6, X6, e6, st6⟩ := getS2 X5 hx hZ hown (host := "") (Or.inl (hw _ (List.mem_of_getElem? (i := 6) rfl))) Via.refl e5 ((S_MANAGE_OWN_S3_CREDENTIALS.ext E3).wr W5) (g := (mkF m 13 #[.val (.int p1), .val (.int p2), .unset, .unset, .unset, .unset, .unset] [(.int (1 : Int32)), (.ref b3), (.ref b3)])) rfl (hb hby at_13)
  obtain ⟨cl_b3_16, Ar_b3_16, q_b3_16, S_b3_16, N_b3_16, H_b3_16, G_b3_16⟩ := id V_b3_5
  have hin_b3_16 : ¬ ((1 : Int32) < 0 ∨ cl_b3_16.slots.size ≤ ((1 : Int32)).toNatClampNeg) := inb_of S_b3_16 ⟨by decide, by decide⟩
  have Sto_b3_16 : Sto Z h5 b3 (.ref w_MANAGE_OWN_S3_CREDENTIALS) := Sto.ofV Ar_b3_16 q_b3_16 O3 (Ins.self ((E_w_MANAGE_OWN_S3_CREDENTIALS.ext E3).wr W5))
  obtain ⟨T7, h7, X7, e7, W7, st7⟩ := stR X6 hx hZ e6 Ar_b3_16 (j := (1 : Int32)) hin_b3_16 rfl Sto_b3_16 (g := (mkF m 16 #[.val (.int p1), .val (.int p2), .unset, .unset, .unset, .unset, .unset] [(.ref w_MANAGE_OWN_S3_CREDENTIALS), (.int (1 : Int32)), (.ref b3), (.ref b3)])) rfl rfl (hb hby at_16)
  have V_b3_7 := Arv.set Ar_b3_16 q_b3_16 S_b3_16 N_b3_16 H_b3_16 G_b3_16 rfl W7 1 rfl (Nat.le_of_ble_eq_true rfl)
  have K7 : Keep h0 h7 [] := K5.wr W7 (Or.inr sz_b3)
  have N7 := Fr.snoc X7 N5 g_b3
  obtain ⟨T8, X8, e8, st8⟩ := getS2 X7 hx hZ hown (host := "") (Or.inl (hw _ (List.mem_of_getElem? (i := 8) rfl))) Via.refl e7 (((S_VIEW_ALL_BUCKETS.ext E3).wr W5).wr W7) (g := (mkF m 19 #[.val (.int p1), .val (.int p2), .unset, .unset, .unset, .unset, .unset] [(.int (2 : Int32)), (.ref b3), (.ref b3)])) rfl (hb hby at_19)
  obtain ⟨cl_b3_22, Ar_b3_22, q_b3_22, S_b3_22, N_b3_22, H_b3_22, G_b3_22⟩ := id V_b3_7
  have hin_b3_22 : ¬ ((2 : Int32) < 0 ∨ cl_b3_22.slots.size ≤ ((2 : Int32)).toNatClampNeg) := inb_of S_b3_22 ⟨by decide, by decide⟩
  have Sto_b3_22 : Sto Z h7 b3 (.ref w_VIEW_ALL_BUCKETS) := Sto.ofV Ar_b3_22 q_b3_22 O3 (Ins.self (((E_w_VIEW_ALL_BUCKETS.ext E3).wr W5).wr W7))
  obtain ⟨T9, h9, X9, e9, W9, st9⟩ := stR X8 hx hZ e8 Ar_b3_22 (j := (2 : Int32)) hin_b3_22 rfl Sto_b3_22 (g := (mkF m 22 #[.val (.int p1), .val (.int p2), .unset, .unset, .unset, .unset, .unset] [(.ref w_VIEW_ALL_BUCKETS), (.int (2 : Int32)), (.ref b3), (.ref b3)])) rfl rfl (hb hby at_22)
  have V_b3_9 := Arv.set Ar_b3_22 q_b3_22 S_b3_22 N_b3_22 H_b3_22 G_b3_22 rfl W9 2 rfl (Nat.le_of_ble_eq_true rfl)
  have K9 : Keep h0 h9 [] := K7.wr W9 (Or.inr sz_b3)
  have N9 := Fr.snoc X9 N7 g_b3
  obtain ⟨T10, X10, e10, st10⟩ := getS2 X9 hx hZ hown (host := "") (Or.inl (hw _ (List.mem_of_getElem? (i := 10) rfl))) Via.refl e9 ((((S_MANAGE_ALL_BUCKETS.ext E3).wr W5).wr W7).wr W9) (g := (mkF m 25 #[.val (.int p1), .val (.int p2), .unset, .unset, .unset, .unset, .unset] [(.int (3 : Int32)), (.ref b3), (.ref b3)])) rfl (hb hby at_25)
  obtain ⟨cl_b3_28, Ar_b3_28, q_b3_28, S_b3_28, N_b3_28, H_b3_28, G_b3_28⟩ := id V_b3_9
  have hin_b3_28 : ¬ ((3 : Int32) < 0 ∨ cl_b3_28.slots.size ≤ ((3 : Int32)).toNatClampNeg) := inb_of S_b3_28 ⟨by decide, by decide⟩
  have Sto_b3_28 : Sto Z h9 b3 (.ref w_MANAGE_ALL_BUCKETS) := Sto.ofV Ar_b3_28 q_b3_28 O3 (Ins.self ((((E_w_MANAGE_ALL_BUCKETS.ext E3).wr W5).wr W7).wr W9))
  obtain ⟨T11, h11, X11, e11, W11, st11⟩ := stR X10 hx hZ e10 Ar_b3_28 (j := (3 : Int32)) hin_b3_28 rfl Sto_b3_28 (g := (mkF m 28 #[.val (.int p1), .val (.int p2), .unset, .unset, .unset, .unset, .unset] [(.ref w_MANAGE_ALL_BUCKETS), (.int (3 : Int32)), (.ref b3), (.ref b3)])) rfl rfl (hb hby at_28)
  have V_b3_11 := Arv.set Ar_b3_28 q_b3_28 S_b3_28 N_b3_28 H_b3_28 G_b3_28 rfl W11 3 rfl (Nat.le_of_ble_eq_true rfl)
  have K11 : Keep h0 h11 [] := K9.wr W11 (Or.inr sz_b3)
  have N11 := Fr.snoc X11 N9 g_b3
  obtain ⟨T12, X12, e12, st12⟩ := getS2 X11 hx hZ hown (host := "") (Or.inl (hw _ (List.mem_of_getElem? (i := 12) rfl))) Via.refl e11 (((((S_MANAGE_ENDPOINTS.ext E3).wr W5).wr W7).wr W9).wr W11) (g := (mkF m 31 #[.val (.int p1), .val (.int p2), .unset, .unset, .unset, .unset, .unset] [(.int (4 : Int32)), (.ref b3), (.ref b3)])) rfl (hb hby at_31)
  obtain ⟨cl_b3_34, Ar_b3_34, q_b3_34, S_b3_34, N_b3_34, H_b3_34, G_b3_34⟩ := id V_b3_11
  have hin_b3_34 : ¬ ((4 : Int32) < 0 ∨ cl_b3_34.slots.size ≤ ((4 : Int32)).toNatClampNeg) := inb_of S_b3_34 ⟨by decide, by decide⟩
  have Sto_b3_34 : Sto Z h11 b3 (.ref w_MANAGE_ENDPOINTS) := Sto.ofV Ar_b3_34 q_b3_34 O3 (Ins.self (((((E_w_MANAGE_ENDPOINTS.ext E3).wr W5).wr W7).wr W9).wr W11))
  obtain ⟨T13, h13, X13, e13, W13, st13⟩ := stR X12 hx hZ e12 Ar_b3_34 (j := (4 : Int32)) hin_b3_34 rfl Sto_b3_34 (g := (mkF m 34 #[.val (.int p1), .val (.int p2), .unset, .unset, .unset, .unset, .unset] [(.ref w_MANAGE_ENDPOINTS), (.int (4 : Int32)), (.ref b3), (.ref b3)])) rfl rfl (hb hby at_34)
  have V_b3_13 := Arv.set Ar_b3_34 q_b3_34 S_b3_34 N_b3_34 H_b3_34 G_b3_34 rfl W13 4 rfl (Nat.le_of_ble_eq_true rfl)
  have K13 : Keep h0 h13 [] := K11.wr W13 (Or.inr sz_b3)
  have N13 := Fr.snoc X13 N11 g_b3
  obtain ⟨T14, X14, e14, st14⟩ := getS2 X13 hx hZ hown (host := "") (Or.inl (hw _ (List.mem_of_getElem? (i := 14) rfl))) Via.refl e13 ((((((S_USE_S3_CONSOLE.ext E3).wr W5).wr W7).wr W9).wr W11).wr W13) (g := (mkF m 37 #[.val (.int p1), .val (.int p2), .unset, .unset, .unset, .unset, .unset] [(.int (5 : Int32)), (.ref b3), (.ref b3)])) rfl (hb hby at_37)
  obtain ⟨cl_b3_40, Ar_b3_40, q_b3_40, S_b3_40, N_b3_40, H_b3_40, G_b3_40⟩ := id V_b3_13
  have hin_b3_40 : ¬ ((5 : Int32) < 0 ∨ cl_b3_40.slots.size ≤ ((5 : Int32)).toNatClampNeg) := inb_of S_b3_40 ⟨by decide, by decide⟩
  have Sto_b3_40 : Sto Z h13 b3 (.ref w_USE_S3_CONSOLE) := Sto.ofV Ar_b3_40 q_b3_40 O3 (Ins.self ((((((E_w_USE_S3_CONSOLE.ext E3).wr W5).wr W7).wr W9).wr W11).wr W13))
  obtain ⟨T15, h15, X15, e15, W15, st15⟩ := stR X14 hx hZ e14 Ar_b3_40 (j := (5 : Int32)) hin_b3_40 rfl Sto_b3_40 (g := (mkF m 40 #[.val (.int p1), .val (.int p2), .unset, .unset, .unset, .unset, .unset] [(.ref w_USE_S3_CONSOLE), (.int (5 : Int32)), (.ref b3), (.ref b3)])) rfl rfl (hb hby at_40)
  have V_b3_15 := Arv.set Ar_b3_40 q_b3_40 S_b3_40 N_b3_40 H_b3_40 G_b3_40 rfl W15 5 rfl (Nat.le_of_ble_eq_true rfl)
  have K15 : Keep h0 h15 [] := K13.wr W15 (Or.inr sz_b3)
  have N15 := Fr.snoc X15 N13 g_b3
  obtain ⟨T16, h16, k16, X16, e16, E16, A16, st16⟩ := newP X15 hx hZ (hw _ (List.mem_of_getElem? (i := 16) rfl)) e15 (g := (mkF m 44 #[.val (.int p1), .val (.int p2), .val (.ref b3), .unset, .unset, .unset, .unset] [(.int (6 : Int32))])) rfl (hb hby at_44) rfl (by decide) (cap := 6) (by decide) (by decide) (by decide) (by decide)
  obtain ⟨b16, g16⟩ : ∃ z, z = h15.size := ⟨_, rfl⟩      -- the fresh array's address
  rw [← g16] at A16 st16
  have V_b16 : Arv Z h16 b16 k16 .int (6 : Int32) [(.int (0 : Int32)), (.int (0 : Int32)), (.int (0 : Int32)), (.int (0 : Int32)), (.int (0 : Int32)), (.int (0 : Int32))] (.int (0 : Int32)) := (Arv.new A16 (by decide)).pad (pad_rep [] (.int (0 : Int32)) 6)
  have g_b16 : n0 ≤ b16 := Nat.le_trans (Nat.le_trans (Nat.le_trans (Nat.le_trans (Nat.le_trans (Nat.le_trans (Nat.le_trans (Nat.le_trans Z0 E3.1) (Keep.of_wr W5).1) (Keep.of_wr W7).1) (Keep.of_wr W9).1) (Keep.of_wr W11).1) (Keep.of_wr W13).1) (Keep.of_wr W15).1) (Nat.le_of_eq g16.symm)
  have sz_b16 : h0.size ≤ b16 := (Nat.le_trans K15.1 (Nat.le_of_eq g16.symm))
  have K16 : Keep h0 h16 [] := K15.ext E16
  obtain ⟨cl_b16_50, Ar_b16, q_b16, S_b16, N_b16, H_b16, G_b16⟩ := V_b16      -- open the array's fact as it stands now (its cell, kind, length, elements)
  have hin50 : ¬ ((0 : Int32) < 0 ∨ cl_b16_50.slots.size ≤ ((0 : Int32)).toNatClampNeg) := inb_of S_b16 ⟨by decide, by decide⟩
  obtain ⟨T17, h17, X17, e17, W17, st17⟩ := stI X16 hx hZ e16 Ar_b16 (j := (0 : Int32)) hin50 (g := (mkF m 50 #[.val (.int p1), .val (.int p2), .val (.ref b3), .unset, .unset, .unset, .unset] [(.int (63 : Int32)), (.int (0 : Int32)), (.ref b16), (.ref b16)])) rfl rfl (hb hby at_50)
  have V_b16_17 := Arv.set Ar_b16 q_b16 S_b16 N_b16 H_b16 G_b16 rfl W17 0 rfl (Nat.le_of_ble_eq_true rfl)      -- the array as it stands now (the place must lie among its first values: Arv.pad with pad_rep lengthens them)
  have K17 : Keep h0 h17 [] := K16.wr W17 (Or.inr sz_b16)
  have N17 := Fr.snoc X17 N15 g_b16
  obtain ⟨cl_b16_54, Ar_b16, q_b16, S_b16, N_b16, H_b16, G_b16⟩ := V_b16_17      -- open the array's fact as it stands now (its cell, kind, length, elements)
  have hin54 : ¬ ((1 : Int32) < 0 ∨ cl_b16_54.slots.size ≤ ((1 : Int32)).toNatClampNeg) := inb_of S_b16 ⟨by decide, by decide⟩
  obtain ⟨T18, h18, X18, e18, W18, st18⟩ := stI X17 hx hZ e17 Ar_b16 (j := (1 : Int32)) hin54 (g := (mkF m 54 #[.val (.int p1), .val (.int p2), .val (.ref b3), .unset, .unset, .unset, .unset] [(.int (2 : Int32)), (.int (1 : Int32)), (.ref b16), (.ref b16)])) rfl rfl (hb hby at_54)
  have V_b16_18 := Arv.set Ar_b16 q_b16 S_b16 N_b16 H_b16 G_b16 rfl W18 1 rfl (Nat.le_of_ble_eq_true rfl)      -- the array as it stands now (the place must lie among its first values: Arv.pad with pad_rep lengthens them)
  have K18 : Keep h0 h18 [] := K17.wr W18 (Or.inr sz_b16)
  have N18 := Fr.snoc X18 N17 g_b16
  obtain ⟨cl_b16_58, Ar_b16, q_b16, S_b16, N_b16, H_b16, G_b16⟩ := V_b16_18      -- open the array's fact as it stands now (its cell, kind, length, elements)
  have hin58 : ¬ ((2 : Int32) < 0 ∨ cl_b16_58.slots.size ≤ ((2 : Int32)).toNatClampNeg) := inb_of S_b16 ⟨by decide, by decide⟩
  obtain ⟨T19, h19, X19, e19, W19, st19⟩ := stI X18 hx hZ e18 Ar_b16 (j := (2 : Int32)) hin58 (g := (mkF m 58 #[.val (.int p1), .val (.int p2), .val (.ref b3), .unset, .unset, .unset, .unset] [(.int (4 : Int32)), (.int (2 : Int32)), (.ref b16), (.ref b16)])) rfl rfl (hb hby at_58)
  have V_b16_19 := Arv.set Ar_b16 q_b16 S_b16 N_b16 H_b16 G_b16 rfl W19 2 rfl (Nat.le_of_ble_eq_true rfl)      -- the array as it stands now (the place must lie among its first values: Arv.pad with pad_rep lengthens them)
  have K19 : Keep h0 h19 [] := K18.wr W19 (Or.inr sz_b16)
  have N19 := Fr.snoc X19 N18 g_b16
  obtain ⟨cl_b16_63, Ar_b16, q_b16, S_b16, N_b16, H_b16, G_b16⟩ := V_b16_19      -- open the array's fact as it stands now (its cell, kind, length, elements)
  have hin63 : ¬ ((3 : Int32) < 0 ∨ cl_b16_63.slots.size ≤ ((3 : Int32)).toNatClampNeg) := inb_of S_b16 ⟨by decide, by decide⟩
  obtain ⟨T20, h20, X20, e20, W20, st20⟩ := stI X19 hx hZ e19 Ar_b16 (j := (3 : Int32)) hin63 (g := (mkF m 63 #[.val (.int p1), .val (.int p2), .val (.ref b3), .unset, .unset, .unset, .unset] [(.int (12 : Int32)), (.int (3 : Int32)), (.ref b16), (.ref b16)])) rfl rfl (hb hby at_63)
  have V_b16_20 := Arv.set Ar_b16 q_b16 S_b16 N_b16 H_b16 G_b16 rfl W20 3 rfl (Nat.le_of_ble_eq_true rfl)      -- the array as it stands now (the place must lie among its first values: Arv.pad with pad_rep lengthens them)
  have K20 : Keep h0 h20 [] := K19.wr W20 (Or.inr sz_b16)
  have N20 := Fr.snoc X20 N19 g_b16
  obtain ⟨cl_b16_68, Ar_b16, q_b16, S_b16, N_b16, H_b16, G_b16⟩ := V_b16_20      -- open the array's fact as it stands now (its cell, kind, length, elements)
  have hin68 : ¬ ((4 : Int32) < 0 ∨ cl_b16_68.slots.size ≤ ((4 : Int32)).toNatClampNeg) := inb_of S_b16 ⟨by decide, by decide⟩
  obtain ⟨T21, h21, X21, e21, W21, st21⟩ := stI X20 hx hZ e20 Ar_b16 (j := (4 : Int32)) hin68 (g := (mkF m 68 #[.val (.int p1), .val (.int p2), .val (.ref b3), .unset, .unset, .unset, .unset] [(.int (16 : Int32)), (.int (4 : Int32)), (.ref b16), (.ref b16)])) rfl rfl (hb hby at_68)
  have V_b16_21 := Arv.set Ar_b16 q_b16 S_b16 N_b16 H_b16 G_b16 rfl W21 4 rfl (Nat.le_of_ble_eq_true rfl)      -- the array as it stands now (the place must lie among its first values: Arv.pad with pad_rep lengthens them)
  have K21 : Keep h0 h21 [] := K20.wr W21 (Or.inr sz_b16)
  have N21 := Fr.snoc X21 N20 g_b16
  obtain ⟨cl_b16_73, Ar_b16, q_b16, S_b16, N_b16, H_b16, G_b16⟩ := V_b16_21      -- open the array's fact as it stands now (its cell, kind, length, elements)
  have hin73 : ¬ ((5 : Int32) < 0 ∨ cl_b16_73.slots.size ≤ ((5 : Int32)).toNatClampNeg) := inb_of S_b16 ⟨by decide, by decide⟩
  obtain ⟨T22, h22, X22, e22, W22, st22⟩ := stI X21 hx hZ e21 Ar_b16 (j := (5 : Int32)) hin73 (g := (mkF m 73 #[.val (.int p1), .val (.int p2), .val (.ref b3), .unset, .unset, .unset, .unset] [(.int (32 : Int32)), (.int (5 : Int32)), (.ref b16), (.ref b16)])) rfl rfl (hb hby at_73)
  have V_b16_22 := Arv.set Ar_b16 q_b16 S_b16 N_b16 H_b16 G_b16 rfl W22 5 rfl (Nat.le_of_ble_eq_true rfl)      -- the array as it stands now (the place must lie among its first values: Arv.pad with pad_rep lengthens them)
  have K22 : Keep h0 h22 [] := K21.wr W22 (Or.inr sz_b16)
  have N22 := Fr.snoc X22 N21 g_b16
  obtain ⟨cl_b16_96, Ar_b16_96, q_b16_96, S_b16_96, N_b16_96, H_b16_96, G_b16_96⟩ := id V_b16_22
  have hin96 : ¬ ((HMod.hMod (p1 &&& (2147483647 : Int32)) (6 : Int32)) < 0 ∨ cl_b16_96.slots.size ≤ ((HMod.hMod (p1 &&& (2147483647 : Int32)) (6 : Int32))).toNatClampNeg) := inb_of S_b16_96 hj96
  have hat96 := Has.at H_b16_96 hin96 hv96
  obtain ⟨cl_b3_115, Ar_b3_115, q_b3_115, S_b3_115, N_b3_115, H_b3_115, G_b3_115⟩ := id (((((((V_b3_15.ext E16).other W17 (Nat.ne_of_lt (Nat.lt_of_lt_of_le V_b3_15.lt (Nat.le_of_eq g16.symm)))).other W18 (Nat.ne_of_lt (Nat.lt_of_lt_of_le V_b3_15.lt (Nat.le_of_eq g16.symm)))).other W19 (Nat.ne_of_lt (Nat.lt_of_lt_of_le V_b3_15.lt (Nat.le_of_eq g16.symm)))).other W20 (Nat.ne_of_lt (Nat.lt_of_lt_of_le V_b3_15.lt (Nat.le_of_eq g16.symm)))).other W21 (Nat.ne_of_lt (Nat.lt_of_lt_of_le V_b3_15.lt (Nat.le_of_eq g16.symm)))).other W22 (Nat.ne_of_lt (Nat.lt_of_lt_of_le V_b3_15.lt (Nat.le_of_eq g16.symm))))
  have hin115 : ¬ ((HMod.hMod (p1 &&& (2147483647 : Int32)) (6 : Int32)) < 0 ∨ cl_b3_115.slots.size ≤ ((HMod.hMod (p1 &&& (2147483647 : Int32)) (6 : Int32))).toNatClampNeg) := inb_of S_b3_115 hj115
  have hat115 := Has.at H_b3_115 hin115 hv115
  obtain ⟨cl_b3_119, Ar_b3_119, q_b3_119, S_b3_119, N_b3_119, H_b3_119, G_b3_119⟩ := id (((((((V_b3_15.ext E16).other W17 (Nat.ne_of_lt (Nat.lt_of_lt_of_le V_b3_15.lt (Nat.le_of_eq g16.symm)))).other W18 (Nat.ne_of_lt (Nat.lt_of_lt_of_le V_b3_15.lt (Nat.le_of_eq g16.symm)))).other W19 (Nat.ne_of_lt (Nat.lt_of_lt_of_le V_b3_15.lt (Nat.le_of_eq g16.symm)))).other W20 (Nat.ne_of_lt (Nat.lt_of_lt_of_le V_b3_15.lt (Nat.le_of_eq g16.symm)))).other W21 (Nat.ne_of_lt (Nat.lt_of_lt_of_le V_b3_15.lt (Nat.le_of_eq g16.symm)))).other W22 (Nat.ne_of_lt (Nat.lt_of_lt_of_le V_b3_15.lt (Nat.le_of_eq g16.symm))))
  have hin119 : ¬ ((HMod.hMod (p2 &&& (2147483647 : Int32)) (6 : Int32)) < 0 ∨ cl_b3_119.slots.size ≤ ((HMod.hMod (p2 &&& (2147483647 : Int32)) (6 : Int32))).toNatClampNeg) := inb_of S_b3_119 hj119
  have hat119 := Has.at H_b3_119 hin119 hv119
  obtain ⟨cq26, kq26, q26a, q26b, q26c⟩ := isOf hZ e22 ((((((((((((((E_w24.ext E3).wr W5).wr W7).wr W9).wr W11).wr W13).wr W15).ext E16).wr W17).wr W18).wr W19).wr W20).wr W21).wr W22)
  obtain ⟨_, _, ⟨T26, L26, k26, n26⟩, -, X26, ⟨Lc26, hQ26, l26, y26, z26⟩, st26⟩ := X22.virtualBack hx (y := (⟨"com/example/holdfast/holdfast/tenant/Permission", "grants", "(Lcom/example/holdfast/holdfast/tenant/Permission;)Z"⟩ : MethodName)) (z := (⟨"com/example/holdfast/holdfast/tenant/Permission", "grants", "(Lcom/example/holdfast/holdfast/tenant/Permission;)Z"⟩ : MethodName)) hown (mvT hZ (hw _ (List.mem_of_getElem? (i := 18) rfl))) (mvT hZ (hw _ (List.mem_of_getElem? (i := 19) rfl))) (notFace_of_selects (args := #[]) (mvT hZ (hw _ (List.mem_of_getElem? (i := 21) rfl)))) (mvT hZ (hw _ (List.mem_of_getElem? (i := 21) rfl))) (mvT hZ (hw _ (List.mem_of_getElem? (i := 20) rfl))) (by decide) (backOf (W := 0) (rm1 l Z a0 hw [] w24 w25 w_ROOT_ACCESS w_VIEW_ALL_BUCKETS w_MANAGE_ALL_BUCKETS (0 : Int32) h22 n0 (Nat.le_trans (Nat.le_trans (Nat.le_trans (Nat.le_trans (Nat.le_trans (Nat.le_trans (Nat.le_trans (Nat.le_trans (Nat.le_trans (Nat.le_trans (Nat.le_trans (Nat.le_trans (Nat.le_trans (Nat.le_trans Z0 E3.1) (Keep.of_wr W5).1) (Keep.of_wr W7).1) (Keep.of_wr W9).1) (Keep.of_wr W11).1) (Keep.of_wr W13).1) (Keep.of_wr W15).1) E16.1) (Keep.of_wr W17).1) (Keep.of_wr W18).1) (Keep.of_wr W19).1) (Keep.of_wr W20).1) (Keep.of_wr W21).1) (Keep.of_wr W22).1) ((((((((((((((S_ROOT_ACCESS.ext E3).wr W5).wr W7).wr W9).wr W11).wr W13).wr W15).ext E16).wr W17).wr W18).wr W19).wr W20).wr W21).wr W22) ((((((((((((((S_VIEW_ALL_BUCKETS.ext E3).wr W5).wr W7).wr W9).wr W11).wr W13).wr W15).ext E16).wr W17).wr W18).wr W19).wr W20).wr W21).wr W22) ((((((((((((((S_MANAGE_ALL_BUCKETS.ext E3).wr W5).wr W7).wr W9).wr W11).wr W13).wr W15).ext E16).wr W17).wr W18).wr W19).wr W20).wr W21).wr W22) hr) hZ (hw _ (List.mem_of_getElem? (i := 22) rfl)) (hw _ (List.mem_of_getElem? (i := 3) rfl)) (by decide) (by decide)) q26a q26c (g := (mkF m 120 #[.val (.int p1), .val (.int p2), .val (.ref b3), .val (.ref b16), .val (.int (HMod.hMod (p1 &&& (2147483647 : Int32)) (6 : Int32))), .val (.int (HMod.hMod (p2 &&& (2147483647 : Int32)) (6 : Int32))), .val (.int (0 : Int32))] [(.ref w25), (.ref w24)])) rfl (by rw [hml]; rfl) (Steps.refl _) (argsL := [(.ref w25)]) (rest := []) (lenOf pd_0_0 rfl) rfl (by show 2 * 0 + _ ≤ _; exact Nat.le_of_eq rfl) (hb hby at_120) (fun _ _ => ⟨rfl, e22, (by decide : 2 + 0 ≤ _), (by decide : 12 + 0 ≤ _)⟩)
  dsimp only [Pt.U, Pt.locs, Pt.cells, Pt.slots] at X26 l26 y26 z26 st26 hQ26
  subst l26 y26 z26
  obtain ⟨rfl, N26q, eq26⟩ := hQ26
  have N26 := Fr.app N22 N26q
  obtain ⟨fs, hr, hrun, hended, hW, hsame⟩ := X26.leave (v := some (.int (1 : Int32))) (fun h => by rw [Bd.returns] at h; cases h)
  refine ⟨_, _, pre0 _ ?_, hrun, hended, _, _, rfl, ?_, ⟨_, rfl⟩, hW, hsame.mono (by decide) (by decide)⟩
  · show Steps p.tables e below (s₁.setTop (mkF m 0 #[.val (.int p1), .val (.int p2), .unset, .unset, .unset, .unset, .unset] [])) _
    refine XS.bipush X0.here hx rfl (hb hby at_0) ?_
    show Steps p.tables e below (s₁.setTop (mkF m 2 #[.val (.int p1), .val (.int p2), .unset, .unset, .unset, .unset, .unset] [(.int (6 : Int32))])) _
    refine st3 _ ?_
    show Steps p.tables e below (T3.setTop (mkF m 5 #[.val (.int p1), .val (.int p2), .unset, .unset, .unset, .unset, .unset] [(.ref b3)])) _
    refine XS.dup X3.here hx rfl (hb hby at_5) rfl rfl ?_
    show Steps p.tables e below (T3.setTop (mkF m 6 #[.val (.int p1), .val (.int p2), .unset, .unset, .unset, .unset, .unset] [(.ref b3), (.ref b3)])) _
    refine XS.iconst X3.here hx rfl (hb hby at_6) ?_
    show Steps p.tables e below (T3.setTop (mkF m 7 #[.val (.int p1), .val (.int p2), .unset, .unset, .unset, .unset, .unset] [(.int (0 : Int32)), (.ref b3), (.ref b3)])) _
    refine st4 _ ?_
    show Steps p.tables e below (T4.setTop (mkF m 10 #[.val (.int p1), .val (.int p2), .unset, .unset, .unset, .unset, .unset] [(.ref w_ROOT_ACCESS), (.int (0 : Int32)), (.ref b3), (.ref b3)])) _
    refine st5 _ ?_
    show Steps p.tables e below (T5.setTop (mkF m 11 #[.val (.int p1), .val (.int p2), .unset, .unset, .unset, .unset, .unset] [(.ref b3)])) _
    refine XS.dup X5.here hx rfl (hb hby at_11) rfl rfl ?_
    show Steps p.tables e below (T5.setTop (mkF m 12 #[.val (.int p1), .val (.int p2), .unset, .unset, .unset, .unset, .unset] [(.ref b3), (.ref b3)])) _
    refine XS.iconst X5.here hx rfl (hb hby at_12) ?_
    show Steps p.tables e below (T5.setTop (mkF m 13 #[.val (.int p1), .val (.int p2), .unset, .unset, .unset, .unset, .unset] [(.int (1 : Int32)), (.ref b3), (.ref b3)])) _
    refine st6 _ ?_
    show Steps p.tables e below (T6.setTop (mkF m 16 #[.val (.int p1), .val (.int p2), .unset, .unset, .unset, .unset, .unset] [(.ref w_MANAGE_OWN_S3_CREDENTIALS), (.int (1 : Int32)), (.ref b3), (.ref b3)])) _
    refine st7 _ ?_
    show Steps p.tables e below (T7.setTop (mkF m 17 #[.val (.int p1), .val (.int p2), .unset, .unset, .unset, .unset, .unset] [(.ref b3)])) _
    refine XS.dup X7.here hx rfl (hb hby at_17) rfl rfl ?_
    show Steps p.tables e below (T7.setTop (mkF m 18 #[.val (.int p1), .val (.int p2), .unset, .unset, .unset, .unset, .unset] [(.ref b3), (.ref b3)])) _
    refine XS.iconst X7.here hx rfl (hb hby at_18) ?_
    show Steps p.tables e below (T7.setTop (mkF m 19 #[.val (.int p1), .val (.int p2), .unset, .unset, .unset, .unset, .unset] [(.int (2 : Int32)), (.ref b3), (.ref b3)])) _
    refine st8 _ ?_
    show Steps p.tables e below (T8.setTop (mkF m 22 #[.val (.int p1), .val (.int p2), .unset, .unset, .unset, .unset, .unset] [(.ref w_VIEW_ALL_BUCKETS), (.int (2 : Int32)), (.ref b3), (.ref b3)])) _
    refine st9 _ ?_
    show Steps p.tables e below (T9.setTop (mkF m 23 #[.val (.int p1), .val (.int p2), .unset, .unset, .unset, .unset, .unset] [(.ref b3)])) _
    refine XS.dup X9.here hx rfl (hb hby at_23) rfl rfl ?_
    show Steps p.tables e below (T9.setTop (mkF m 24 #[.val (.int p1), .val (.int p2), .unset, .unset, .unset, .unset, .unset] [(.ref b3), (.ref b3)])) _
    refine XS.iconst X9.here hx rfl (hb hby at_24) ?_
    show Steps p.tables e below (T9.setTop (mkF m 25 #[.val (.int p1), .val (.int p2), .unset, .unset, .unset, .unset, .unset] [(.int (3 : Int32)), (.ref b3), (.ref b3)])) _
    refine st10 _ ?_
    show Steps p.tables e below (T10.setTop (mkF m 28 #[.val (.int p1), .val (.int p2), .unset, .unset, .unset, .unset, .unset] [(.ref w_MANAGE_ALL_BUCKETS), (.int (3 : Int32)), (.ref b3), (.ref b3)])) _
    refine st11 _ ?_
    show Steps p.tables e below (T11.setTop (mkF m 29 #[.val (.int p1), .val (.int p2), .unset, .unset, .unset, .unset, .unset] [(.ref b3)])) _
    refine XS.dup X11.here hx rfl (hb hby at_29) rfl rfl ?_
    show Steps p.tables e below (T11.setTop (mkF m 30 #[.val (.int p1), .val (.int p2), .unset, .unset, .unset, .unset, .unset] [(.ref b3), (.ref b3)])) _
    refine XS.iconst X11.here hx rfl (hb hby at_30) ?_
    show Steps p.tables e below (T11.setTop (mkF m 31 #[.val (.int p1), .val (.int p2), .unset, .unset, .unset, .unset, .unset] [(.int (4 : Int32)), (.ref b3), (.ref b3)])) _
    refine st12 _ ?_
    show Steps p.tables e below (T12.setTop (mkF m 34 #[.val (.int p1), .val (.int p2), .unset, .unset, .unset, .unset, .unset] [(.ref w_MANAGE_ENDPOINTS), (.int (4 : Int32)), (.ref b3), (.ref b3)])) _
    refine st13 _ ?_
    show Steps p.tables e below (T13.setTop (mkF m 35 #[.val (.int p1), .val (.int p2), .unset, .unset, .unset, .unset, .unset] [(.ref b3)])) _
    refine XS.dup X13.here hx rfl (hb hby at_35) rfl rfl ?_
    show Steps p.tables e below (T13.setTop (mkF m 36 #[.val (.int p1), .val (.int p2), .unset, .unset, .unset, .unset, .unset] [(.ref b3), (.ref b3)])) _
    refine XS.iconst X13.here hx rfl (hb hby at_36) ?_
    show Steps p.tables e below (T13.setTop (mkF m 37 #[.val (.int p1), .val (.int p2), .unset, .unset, .unset, .unset, .unset] [(.int (5 : Int32)), (.ref b3), (.ref b3)])) _
    refine st14 _ ?_
    show Steps p.tables e below (T14.setTop (mkF m 40 #[.val (.int p1), .val (.int p2), .unset, .unset, .unset, .unset, .unset] [(.ref w_USE_S3_CONSOLE), (.int (5 : Int32)), (.ref b3), (.ref b3)])) _
    refine st15 _ ?_
    show Steps p.tables e below (T15.setTop (mkF m 41 #[.val (.int p1), .val (.int p2), .unset, .unset, .unset, .unset, .unset] [(.ref b3)])) _
    refine XS.astoreN X15.here hx rfl (hb hby at_41) rfl rfl (l' := #[.val (.int p1), .val (.int p2), .val (.ref b3), .unset, .unset, .unset, .unset]) rfl ?_
    show Steps p.tables e below (T15.setTop (mkF m 42 #[.val (.int p1), .val (.int p2), .val (.ref b3), .unset, .unset, .unset, .unset] [])) _
    refine XS.bipush X15.here hx rfl (hb hby at_42) ?_
    show Steps p.tables e below (T15.setTop (mkF m 44 #[.val (.int p1), .val (.int p2), .val (.ref b3), .unset, .unset, .unset, .unset] [(.int (6 : Int32))])) _
    refine st16 _ ?_
    show Steps p.tables e below (T16.setTop (mkF m 46 #[.val (.int p1), .val (.int p2), .val (.ref b3), .unset, .unset, .unset, .unset] [(.ref b16)])) _
    refine XS.dup X16.here hx rfl (hb hby at_46) rfl rfl ?_
    show Steps p.tables e below (T16.setTop (mkF m 47 #[.val (.int p1), .val (.int p2), .val (.ref b3), .unset, .unset, .unset, .unset] [(.ref b16), (.ref b16)])) _
    refine XS.iconst X16.here hx rfl (hb hby at_47) ?_
    show Steps p.tables e below (T16.setTop (mkF m 48 #[.val (.int p1), .val (.int p2), .val (.ref b3), .unset, .unset, .unset, .unset] [(.int (0 : Int32)), (.ref b16), (.ref b16)])) _
    refine XS.bipush X16.here hx rfl (hb hby at_48) ?_
    show Steps p.tables e below (T16.setTop (mkF m 50 #[.val (.int p1), .val (.int p2), .val (.ref b3), .unset, .unset, .unset, .unset] [(.int (63 : Int32)), (.int (0 : Int32)), (.ref b16), (.ref b16)])) _
    refine st17 _ ?_
    show Steps p.tables e below (T17.setTop (mkF m 51 #[.val (.int p1), .val (.int p2), .val (.ref b3), .unset, .unset, .unset, .unset] [(.ref b16)])) _
    refine XS.dup X17.here hx rfl (hb hby at_51) rfl rfl ?_
    show Steps p.tables e below (T17.setTop (mkF m 52 #[.val (.int p1), .val (.int p2), .val (.ref b3), .unset, .unset, .unset, .unset] [(.ref b16), (.ref b16)])) _
    refine XS.iconst X17.here hx rfl (hb hby at_52) ?_
    show Steps p.tables e below (T17.setTop (mkF m 53 #[.val (.int p1), .val (.int p2), .val (.ref b3), .unset, .unset, .unset, .unset] [(.int (1 : Int32)), (.ref b16), (.ref b16)])) _
    refine XS.iconst X17.here hx rfl (hb hby at_53) ?_
    show Steps p.tables e below (T17.setTop (mkF m 54 #[.val (.int p1), .val (.int p2), .val (.ref b3), .unset, .unset, .unset, .unset] [(.int (2 : Int32)), (.int (1 : Int32)), (.ref b16), (.ref b16)])) _
    refine st18 _ ?_
    show Steps p.tables e below (T18.setTop (mkF m 55 #[.val (.int p1), .val (.int p2), .val (.ref b3), .unset, .unset, .unset, .unset] [(.ref b16)])) _
    refine XS.dup X18.here hx rfl (hb hby at_55) rfl rfl ?_
    show Steps p.tables e below (T18.setTop (mkF m 56 #[.val (.int p1), .val (.int p2), .val (.ref b3), .unset, .unset, .unset, .unset] [(.ref b16), (.ref b16)])) _
    refine XS.iconst X18.here hx rfl (hb hby at_56) ?_
    show Steps p.tables e below (T18.setTop (mkF m 57 #[.val (.int p1), .val (.int p2), .val (.ref b3), .unset, .unset, .unset, .unset] [(.int (2 : Int32)), (.ref b16), (.ref b16)])) _
    refine XS.iconst X18.here hx rfl (hb hby at_57) ?_
    show Steps p.tables e below (T18.setTop (mkF m 58 #[.val (.int p1), .val (.int p2), .val (.ref b3), .unset, .unset, .unset, .unset] [(.int (4 : Int32)), (.int (2 : Int32)), (.ref b16), (.ref b16)])) _
    refine st19 _ ?_
    show Steps p.tables e below (T19.setTop (mkF m 59 #[.val (.int p1), .val (.int p2), .val (.ref b3), .unset, .unset, .unset, .unset] [(.ref b16)])) _
    refine XS.dup X19.here hx rfl (hb hby at_59) rfl rfl ?_
    show Steps p.tables e below (T19.setTop (mkF m 60 #[.val (.int p1), .val (.int p2), .val (.ref b3), .unset, .unset, .unset, .unset] [(.ref b16), (.ref b16)])) _
    refine XS.iconst X19.here hx rfl (hb hby at_60) ?_
    show Steps p.tables e below (T19.setTop (mkF m 61 #[.val (.int p1), .val (.int p2), .val (.ref b3), .unset, .unset, .unset, .unset] [(.int (3 : Int32)), (.ref b16), (.ref b16)])) _
    refine XS.bipush X19.here hx rfl (hb hby at_61) ?_
    show Steps p.tables e below (T19.setTop (mkF m 63 #[.val (.int p1), .val (.int p2), .val (.ref b3), .unset, .unset, .unset, .unset] [(.int (12 : Int32)), (.int (3 : Int32)), (.ref b16), (.ref b16)])) _
    refine st20 _ ?_
    show Steps p.tables e below (T20.setTop (mkF m 64 #[.val (.int p1), .val (.int p2), .val (.ref b3), .unset, .unset, .unset, .unset] [(.ref b16)])) _
    refine XS.dup X20.here hx rfl (hb hby at_64) rfl rfl ?_
    show Steps p.tables e below (T20.setTop (mkF m 65 #[.val (.int p1), .val (.int p2), .val (.ref b3), .unset, .unset, .unset, .unset] [(.ref b16), (.ref b16)])) _
    refine XS.iconst X20.here hx rfl (hb hby at_65) ?_
    show Steps p.tables e below (T20.setTop (mkF m 66 #[.val (.int p1), .val (.int p2), .val (.ref b3), .unset, .unset, .unset, .unset] [(.int (4 : Int32)), (.ref b16), (.ref b16)])) _
    refine XS.bipush X20.here hx rfl (hb hby at_66) ?_
    show Steps p.tables e below (T20.setTop (mkF m 68 #[.val (.int p1), .val (.int p2), .val (.ref b3), .unset, .unset, .unset, .unset] [(.int (16 : Int32)), (.int (4 : Int32)), (.ref b16), (.ref b16)])) _
    refine st21 _ ?_
    show Steps p.tables e below (T21.setTop (mkF m 69 #[.val (.int p1), .val (.int p2), .val (.ref b3), .unset, .unset, .unset, .unset] [(.ref b16)])) _
    refine XS.dup X21.here hx rfl (hb hby at_69) rfl rfl ?_
    show Steps p.tables e below (T21.setTop (mkF m 70 #[.val (.int p1), .val (.int p2), .val (.ref b3), .unset, .unset, .unset, .unset] [(.ref b16), (.ref b16)])) _
    refine XS.iconst X21.here hx rfl (hb hby at_70) ?_
    show Steps p.tables e below (T21.setTop (mkF m 71 #[.val (.int p1), .val (.int p2), .val (.ref b3), .unset, .unset, .unset, .unset] [(.int (5 : Int32)), (.ref b16), (.ref b16)])) _
    refine XS.bipush X21.here hx rfl (hb hby at_71) ?_
    show Steps p.tables e below (T21.setTop (mkF m 73 #[.val (.int p1), .val (.int p2), .val (.ref b3), .unset, .unset, .unset, .unset] [(.int (32 : Int32)), (.int (5 : Int32)), (.ref b16), (.ref b16)])) _
    refine st22 _ ?_
    show Steps p.tables e below (T22.setTop (mkF m 74 #[.val (.int p1), .val (.int p2), .val (.ref b3), .unset, .unset, .unset, .unset] [(.ref b16)])) _
    refine XS.astoreN X22.here hx rfl (hb hby at_74) rfl rfl (l' := #[.val (.int p1), .val (.int p2), .val (.ref b3), .val (.ref b16), .unset, .unset, .unset]) rfl ?_
    show Steps p.tables e below (T22.setTop (mkF m 75 #[.val (.int p1), .val (.int p2), .val (.ref b3), .val (.ref b16), .unset, .unset, .unset] [])) _
    refine XS.iloadN X22.here hx rfl (hb hby at_75) rfl ?_
    show Steps p.tables e below (T22.setTop (mkF m 76 #[.val (.int p1), .val (.int p2), .val (.ref b3), .val (.ref b16), .unset, .unset, .unset] [(.int p1)])) _
    refine X22.ldcInt hx hown (mvT hZ (hw _ (List.mem_of_getElem? (i := 17) rfl))) (g := (mkF m 76 #[.val (.int p1), .val (.int p2), .val (.ref b3), .val (.ref b16), .unset, .unset, .unset] [(.int p1)])) rfl (hb hby at_76) _ ?_
    show Steps p.tables e below (T22.setTop (mkF m 78 #[.val (.int p1), .val (.int p2), .val (.ref b3), .val (.ref b16), .unset, .unset, .unset] [(.int (2147483647 : Int32)), (.int p1)])) _
    refine XS.iand X22.here hx rfl (hb hby at_78) rfl ?_
    show Steps p.tables e below (T22.setTop (mkF m 79 #[.val (.int p1), .val (.int p2), .val (.ref b3), .val (.ref b16), .unset, .unset, .unset] [(.int (p1 &&& (2147483647 : Int32)))])) _
    refine XS.bipush X22.here hx rfl (hb hby at_79) ?_
    show Steps p.tables e below (T22.setTop (mkF m 81 #[.val (.int p1), .val (.int p2), .val (.ref b3), .val (.ref b16), .unset, .unset, .unset] [(.int (6 : Int32)), (.int (p1 &&& (2147483647 : Int32)))])) _
    refine iremM X22 hx rfl (hb hby at_81) rfl (by decide) ?_
    show Steps p.tables e below (T22.setTop (mkF m 82 #[.val (.int p1), .val (.int p2), .val (.ref b3), .val (.ref b16), .unset, .unset, .unset] [(.int (HMod.hMod (p1 &&& (2147483647 : Int32)) (6 : Int32)))])) _
    refine XS.istore X22.here hx rfl (hb hby at_82) rfl (l' := #[.val (.int p1), .val (.int p2), .val (.ref b3), .val (.ref b16), .val (.int (HMod.hMod (p1 &&& (2147483647 : Int32)) (6 : Int32))), .unset, .unset]) rfl ?_
    show Steps p.tables e below (T22.setTop (mkF m 84 #[.val (.int p1), .val (.int p2), .val (.ref b3), .val (.ref b16), .val (.int (HMod.hMod (p1 &&& (2147483647 : Int32)) (6 : Int32))), .unset, .unset] [])) _
    refine XS.iloadN X22.here hx rfl (hb hby at_84) rfl ?_
    show Steps p.tables e below (T22.setTop (mkF m 85 #[.val (.int p1), .val (.int p2), .val (.ref b3), .val (.ref b16), .val (.int (HMod.hMod (p1 &&& (2147483647 : Int32)) (6 : Int32))), .unset, .unset] [(.int p2)])) _
    refine X22.ldcInt hx hown (mvT hZ (hw _ (List.mem_of_getElem? (i := 17) rfl))) (g := (mkF m 85 #[.val (.int p1), .val (.int p2), .val (.ref b3), .val (.ref b16), .val (.int (HMod.hMod (p1 &&& (2147483647 : Int32)) (6 : Int32))), .unset, .unset] [(.int p2)])) rfl (hb hby at_85) _ ?_
    show Steps p.tables e below (T22.setTop (mkF m 87 #[.val (.int p1), .val (.int p2), .val (.ref b3), .val (.ref b16), .val (.int (HMod.hMod (p1 &&& (2147483647 : Int32)) (6 : Int32))), .unset, .unset] [(.int (2147483647 : Int32)), (.int p2)])) _
    refine XS.iand X22.here hx rfl (hb hby at_87) rfl ?_
    show Steps p.tables e below (T22.setTop (mkF m 88 #[.val (.int p1), .val (.int p2), .val (.ref b3), .val (.ref b16), .val (.int (HMod.hMod (p1 &&& (2147483647 : Int32)) (6 : Int32))), .unset, .unset] [(.int (p2 &&& (2147483647 : Int32)))])) _
    refine XS.bipush X22.here hx rfl (hb hby at_88) ?_
    show Steps p.tables e below (T22.setTop (mkF m 90 #[.val (.int p1), .val (.int p2), .val (.ref b3), .val (.ref b16), .val (.int (HMod.hMod (p1 &&& (2147483647 : Int32)) (6 : Int32))), .unset, .unset] [(.int (6 : Int32)), (.int (p2 &&& (2147483647 : Int32)))])) _
    refine iremM X22 hx rfl (hb hby at_90) rfl (by decide) ?_
    show Steps p.tables e below (T22.setTop (mkF m 91 #[.val (.int p1), .val (.int p2), .val (.ref b3), .val (.ref b16), .val (.int (HMod.hMod (p1 &&& (2147483647 : Int32)) (6 : Int32))), .unset, .unset] [(.int (HMod.hMod (p2 &&& (2147483647 : Int32)) (6 : Int32)))])) _
    refine XS.istore X22.here hx rfl (hb hby at_91) rfl (l' := #[.val (.int p1), .val (.int p2), .val (.ref b3), .val (.ref b16), .val (.int (HMod.hMod (p1 &&& (2147483647 : Int32)) (6 : Int32))), .val (.int (HMod.hMod (p2 &&& (2147483647 : Int32)) (6 : Int32))), .unset]) rfl ?_
    show Steps p.tables e below (T22.setTop (mkF m 93 #[.val (.int p1), .val (.int p2), .val (.ref b3), .val (.ref b16), .val (.int (HMod.hMod (p1 &&& (2147483647 : Int32)) (6 : Int32))), .val (.int (HMod.hMod (p2 &&& (2147483647 : Int32)) (6 : Int32))), .unset] [])) _
    refine XS.aloadN X22.here hx rfl (hb hby at_93) rfl rfl ?_
    show Steps p.tables e below (T22.setTop (mkF m 94 #[.val (.int p1), .val (.int p2), .val (.ref b3), .val (.ref b16), .val (.int (HMod.hMod (p1 &&& (2147483647 : Int32)) (6 : Int32))), .val (.int (HMod.hMod (p2 &&& (2147483647 : Int32)) (6 : Int32))), .unset] [(.ref b16)])) _
    refine XS.iload X22.here hx rfl (hb hby at_94) rfl ?_
    show Steps p.tables e below (T22.setTop (mkF m 96 #[.val (.int p1), .val (.int p2), .val (.ref b3), .val (.ref b16), .val (.int (HMod.hMod (p1 &&& (2147483647 : Int32)) (6 : Int32))), .val (.int (HMod.hMod (p2 &&& (2147483647 : Int32)) (6 : Int32))), .unset] [(.int (HMod.hMod (p1 &&& (2147483647 : Int32)) (6 : Int32))), (.ref b16)])) _
    refine X22.iaload hx (j := (HMod.hMod (p1 &&& (2147483647 : Int32)) (6 : Int32))) (v := (.int w23)) (by rw [e22]; exact Ar_b16_96.1) (State.isArrayOf_alike hZ.alike Ar_b16_96.2.1) Ar_b16_96.2.2 hin96 hat96 (g := (mkF m 96 #[.val (.int p1), .val (.int p2), .val (.ref b3), .val (.ref b16), .val (.int (HMod.hMod (p1 &&& (2147483647 : Int32)) (6 : Int32))), .val (.int (HMod.hMod (p2 &&& (2147483647 : Int32)) (6 : Int32))), .unset] [(.int (HMod.hMod (p1 &&& (2147483647 : Int32)) (6 : Int32))), (.ref b16)])) rfl rfl (hb hby at_96) _ ?_
    show Steps p.tables e below (T22.setTop (mkF m 97 #[.val (.int p1), .val (.int p2), .val (.ref b3), .val (.ref b16), .val (.int (HMod.hMod (p1 &&& (2147483647 : Int32)) (6 : Int32))), .val (.int (HMod.hMod (p2 &&& (2147483647 : Int32)) (6 : Int32))), .unset] [(.int w23)])) _
    refine XS.iload X22.here hx rfl (hb hby at_97) rfl ?_
    show Steps p.tables e below (T22.setTop (mkF m 99 #[.val (.int p1), .val (.int p2), .val (.ref b3), .val (.ref b16), .val (.int (HMod.hMod (p1 &&& (2147483647 : Int32)) (6 : Int32))), .val (.int (HMod.hMod (p2 &&& (2147483647 : Int32)) (6 : Int32))), .unset] [(.int (HMod.hMod (p2 &&& (2147483647 : Int32)) (6 : Int32))), (.int w23)])) _
    refine XS.ishr X22.here hx rfl (hb hby at_99) rfl ?_
    show Steps p.tables e below (T22.setTop (mkF m 100 #[.val (.int p1), .val (.int p2), .val (.ref b3), .val (.ref b16), .val (.int (HMod.hMod (p1 &&& (2147483647 : Int32)) (6 : Int32))), .val (.int (HMod.hMod (p2 &&& (2147483647 : Int32)) (6 : Int32))), .unset] [(.int (w23 >>> ((HMod.hMod (p2 &&& (2147483647 : Int32)) (6 : Int32)) &&& 31)))])) _
    refine XS.iconst X22.here hx rfl (hb hby at_100) ?_
    show Steps p.tables e below (T22.setTop (mkF m 101 #[.val (.int p1), .val (.int p2), .val (.ref b3), .val (.ref b16), .val (.int (HMod.hMod (p1 &&& (2147483647 : Int32)) (6 : Int32))), .val (.int (HMod.hMod (p2 &&& (2147483647 : Int32)) (6 : Int32))), .unset] [(.int (1 : Int32)), (.int (w23 >>> ((HMod.hMod (p2 &&& (2147483647 : Int32)) (6 : Int32)) &&& 31)))])) _
    refine XS.iand X22.here hx rfl (hb hby at_101) rfl ?_
    show Steps p.tables e below (T22.setTop (mkF m 102 #[.val (.int p1), .val (.int p2), .val (.ref b3), .val (.ref b16), .val (.int (HMod.hMod (p1 &&& (2147483647 : Int32)) (6 : Int32))), .val (.int (HMod.hMod (p2 &&& (2147483647 : Int32)) (6 : Int32))), .unset] [(.int ((w23 >>> ((HMod.hMod (p2 &&& (2147483647 : Int32)) (6 : Int32)) &&& 31)) &&& (1 : Int32)))])) _
    refine XS.ifYes X22.here hx rfl (pc0 := 102) (pc' := 109) rfl (hb hby at_102) rfl ((if0 _ _).trans (teq hc102).1) (by decide) (by decide) ?_
    show Steps p.tables e below (T22.setTop (mkF m 109 #[.val (.int p1), .val (.int p2), .val (.ref b3), .val (.ref b16), .val (.int (HMod.hMod (p1 &&& (2147483647 : Int32)) (6 : Int32))), .val (.int (HMod.hMod (p2 &&& (2147483647 : Int32)) (6 : Int32))), .unset] [])) _
    refine XS.iconst X22.here hx rfl (hb hby at_109) ?_
    show Steps p.tables e below (T22.setTop (mkF m 110 #[.val (.int p1), .val (.int p2), .val (.ref b3), .val (.ref b16), .val (.int (HMod.hMod (p1 &&& (2147483647 : Int32)) (6 : Int32))), .val (.int (HMod.hMod (p2 &&& (2147483647 : Int32)) (6 : Int32))), .unset] [(.int (0 : Int32))])) _
    refine XS.istore X22.here hx rfl (hb hby at_110) rfl (l' := #[.val (.int p1), .val (.int p2), .val (.ref b3), .val (.ref b16), .val (.int (HMod.hMod (p1 &&& (2147483647 : Int32)) (6 : Int32))), .val (.int (HMod.hMod (p2 &&& (2147483647 : Int32)) (6 : Int32))), .val (.int (0 : Int32))]) rfl ?_
    show Steps p.tables e below (T22.setTop (mkF m 112 #[.val (.int p1), .val (.int p2), .val (.ref b3), .val (.ref b16), .val (.int (HMod.hMod (p1 &&& (2147483647 : Int32)) (6 : Int32))), .val (.int (HMod.hMod (p2 &&& (2147483647 : Int32)) (6 : Int32))), .val (.int (0 : Int32))] [])) _
    refine XS.aloadN X22.here hx rfl (hb hby at_112) rfl rfl ?_
    show Steps p.tables e below (T22.setTop (mkF m 113 #[.val (.int p1), .val (.int p2), .val (.ref b3), .val (.ref b16), .val (.int (HMod.hMod (p1 &&& (2147483647 : Int32)) (6 : Int32))), .val (.int (HMod.hMod (p2 &&& (2147483647 : Int32)) (6 : Int32))), .val (.int (0 : Int32))] [(.ref b3)])) _
    refine XS.iload X22.here hx rfl (hb hby at_113) rfl ?_
    show Steps p.tables e below (T22.setTop (mkF m 115 #[.val (.int p1), .val (.int p2), .val (.ref b3), .val (.ref b16), .val (.int (HMod.hMod (p1 &&& (2147483647 : Int32)) (6 : Int32))), .val (.int (HMod.hMod (p2 &&& (2147483647 : Int32)) (6 : Int32))), .val (.int (0 : Int32))] [(.int (HMod.hMod (p1 &&& (2147483647 : Int32)) (6 : Int32))), (.ref b3)])) _
    refine X22.aaload hx (j := (HMod.hMod (p1 &&& (2147483647 : Int32)) (6 : Int32))) (v := (.ref w24)) (by rw [e22]; exact Ar_b3_115.1) (State.isArrayOf_alike hZ.alike Ar_b3_115.2.1) rfl Ar_b3_115.2.2 hin115 hat115 (g := (mkF m 115 #[.val (.int p1), .val (.int p2), .val (.ref b3), .val (.ref b16), .val (.int (HMod.hMod (p1 &&& (2147483647 : Int32)) (6 : Int32))), .val (.int (HMod.hMod (p2 &&& (2147483647 : Int32)) (6 : Int32))), .val (.int (0 : Int32))] [(.int (HMod.hMod (p1 &&& (2147483647 : Int32)) (6 : Int32))), (.ref b3)])) rfl rfl (hb hby at_115) _ ?_
    show Steps p.tables e below (T22.setTop (mkF m 116 #[.val (.int p1), .val (.int p2), .val (.ref b3), .val (.ref b16), .val (.int (HMod.hMod (p1 &&& (2147483647 : Int32)) (6 : Int32))), .val (.int (HMod.hMod (p2 &&& (2147483647 : Int32)) (6 : Int32))), .val (.int (0 : Int32))] [(.ref w24)])) _
    refine XS.aloadN X22.here hx rfl (hb hby at_116) rfl rfl ?_
    show Steps p.tables e below (T22.setTop (mkF m 117 #[.val (.int p1), .val (.int p2), .val (.ref b3), .val (.ref b16), .val (.int (HMod.hMod (p1 &&& (2147483647 : Int32)) (6 : Int32))), .val (.int (HMod.hMod (p2 &&& (2147483647 : Int32)) (6 : Int32))), .val (.int (0 : Int32))] [(.ref b3), (.ref w24)])) _
    refine XS.iload X22.here hx rfl (hb hby at_117) rfl ?_
    show Steps p.tables e below (T22.setTop (mkF m 119 #[.val (.int p1), .val (.int p2), .val (.ref b3), .val (.ref b16), .val (.int (HMod.hMod (p1 &&& (2147483647 : Int32)) (6 : Int32))), .val (.int (HMod.hMod (p2 &&& (2147483647 : Int32)) (6 : Int32))), .val (.int (0 : Int32))] [(.int (HMod.hMod (p2 &&& (2147483647 : Int32)) (6 : Int32))), (.ref b3), (.ref w24)])) _
    refine X22.aaload hx (j := (HMod.hMod (p2 &&& (2147483647 : Int32)) (6 : Int32))) (v := (.ref w25)) (by rw [e22]; exact Ar_b3_119.1) (State.isArrayOf_alike hZ.alike Ar_b3_119.2.1) rfl Ar_b3_119.2.2 hin119 hat119 (g := (mkF m 119 #[.val (.int p1), .val (.int p2), .val (.ref b3), .val (.ref b16), .val (.int (HMod.hMod (p1 &&& (2147483647 : Int32)) (6 : Int32))), .val (.int (HMod.hMod (p2 &&& (2147483647 : Int32)) (6 : Int32))), .val (.int (0 : Int32))] [(.int (HMod.hMod (p2 &&& (2147483647 : Int32)) (6 : Int32))), (.ref b3), (.ref w24)])) rfl rfl (hb hby at_119) _ ?_
    show Steps p.tables e below (T22.setTop (mkF m 120 #[.val (.int p1), .val (.int p2), .val (.ref b3), .val (.ref b16), .val (.int (HMod.hMod (p1 &&& (2147483647 : Int32)) (6 : Int32))), .val (.int (HMod.hMod (p2 &&& (2147483647 : Int32)) (6 : Int32))), .val (.int (0 : Int32))] [(.ref w25), (.ref w24)])) _
    refine st26.trans ?_
    show Steps p.tables e below (T26.setTop (mkF m 123 #[.val (.int p1), .val (.int p2), .val (.ref b3), .val (.ref b16), .val (.int (HMod.hMod (p1 &&& (2147483647 : Int32)) (6 : Int32))), .val (.int (HMod.hMod (p2 &&& (2147483647 : Int32)) (6 : Int32))), .val (.int (0 : Int32))] [(.int (0 : Int32))])) _
    refine XS.iload X26.here hx rfl (hb hby at_123) rfl ?_
    show Steps p.tables e below (T26.setTop (mkF m 125 #[.val (.int p1), .val (.int p2), .val (.ref b3), .val (.ref b16), .val (.int (HMod.hMod (p1 &&& (2147483647 : Int32)) (6 : Int32))), .val (.int (HMod.hMod (p2 &&& (2147483647 : Int32)) (6 : Int32))), .val (.int (0 : Int32))] [(.int (0 : Int32)), (.int (0 : Int32))])) _
    refine XS.icmpNo X26.here hx rfl (hb hby at_125) rfl (teq (rfl : (0 : Int32) = (0 : Int32))).2 ?_
    show Steps p.tables e below (T26.setTop (mkF m 128 #[.val (.int p1), .val (.int p2), .val (.ref b3), .val (.ref b16), .val (.int (HMod.hMod (p1 &&& (2147483647 : Int32)) (6 : Int32))), .val (.int (HMod.hMod (p2 &&& (2147483647 : Int32)) (6 : Int32))), .val (.int (0 : Int32))] [])) _
    refine XS.iconst X26.here hx rfl (hb hby at_128) ?_
    show Steps p.tables e below (T26.setTop (mkF m 129 #[.val (.int p1), .val (.int p2), .val (.ref b3), .val (.ref b16), .val (.int (HMod.hMod (p1 &&& (2147483647 : Int32)) (6 : Int32))), .val (.int (HMod.hMod (p2 &&& (2147483647 : Int32)) (6 : Int32))), .val (.int (0 : Int32))] [(.int (1 : Int32))])) _
    refine XS.goto X26.here hx rfl (pc0 := 129) (pc' := 133) rfl (hb hby at_129) (by decide) (by decide) ?_
    show Steps p.tables e below (T26.setTop (mkF m 133 #[.val (.int p1), .val (.int p2), .val (.ref b3), .val (.ref b16), .val (.int (HMod.hMod (p1 &&& (2147483647 : Int32)) (6 : Int32))), .val (.int (HMod.hMod (p2 &&& (2147483647 : Int32)) (6 : Int32))), .val (.int (0 : Int32))] [(.int (1 : Int32))])) _
    exact retN X26 hx (t := .boolean) Bd.returns (by simp) (hb hby at_133) hr
  · show QL (some (.int (1 : Int32))) n0 _ T26.heap _
    rw [eq26]
    exact ⟨rfl, N26⟩

theorem own_n0 : (0 : Int32).toNatClampNeg = 0 := by decide +kernel
theorem own_n1 : (1 : Int32).toNatClampNeg = 1 := by decide +kernel
theorem own_n2 : (2 : Int32).toNatClampNeg = 2 := by decide +kernel
theorem own_n3 : (3 : Int32).toNatClampNeg = 3 := by decide +kernel
theorem own_n4 : (4 : Int32).toNatClampNeg = 4 := by decide +kernel
theorem own_n5 : (5 : Int32).toNatClampNeg = 5 := by decide +kernel
set_option maxHeartbeats 4000000 in
theorem rm0 (l : Launch) (Z : State) (a0 : Array Value) (hw : ∀ d ∈ tables_1, d.before a0 Z = true) (ws : List Jvm.Cond) (p1 : Int32) (p2 : Int32) (w_ROOT_ACCESS : Addr) (w_MANAGE_OWN_S3_CREDENTIALS : Addr) (w_VIEW_ALL_BUCKETS : Addr) (w_MANAGE_ALL_BUCKETS : Addr) (w_MANAGE_ENDPOINTS : Addr) (w_USE_S3_CONSOLE : Addr) (h0 : Heap) (n0 : Nat) (Z0 : n0 ≤ h0.size) (S_ROOT_ACCESS : Sta Z h0 "com/example/holdfast/holdfast/tenant/Permission" "ROOT_ACCESS" "Lcom/example/holdfast/holdfast/tenant/Permission;" (.ref w_ROOT_ACCESS)) (S_MANAGE_OWN_S3_CREDENTIALS : Sta Z h0 "com/example/holdfast/holdfast/tenant/Permission" "MANAGE_OWN_S3_CREDENTIALS" "Lcom/example/holdfast/holdfast/tenant/Permission;" (.ref w_MANAGE_OWN_S3_CREDENTIALS)) (S_VIEW_ALL_BUCKETS : Sta Z h0 "com/example/holdfast/holdfast/tenant/Permission" "VIEW_ALL_BUCKETS" "Lcom/example/holdfast/holdfast/tenant/Permission;" (.ref w_VIEW_ALL_BUCKETS)) (S_MANAGE_ALL_BUCKETS : Sta Z h0 "com/example/holdfast/holdfast/tenant/Permission" "MANAGE_ALL_BUCKETS" "Lcom/example/holdfast/holdfast/tenant/Permission;" (.ref w_MANAGE_ALL_BUCKETS)) (S_MANAGE_ENDPOINTS : Sta Z h0 "com/example/holdfast/holdfast/tenant/Permission" "MANAGE_ENDPOINTS" "Lcom/example/holdfast/holdfast/tenant/Permission;" (.ref w_MANAGE_ENDPOINTS)) (S_USE_S3_CONSOLE : Sta Z h0 "com/example/holdfast/holdfast/tenant/Permission" "USE_S3_CONSOLE" "Lcom/example/holdfast/holdfast/tenant/Permission;" (.ref w_USE_S3_CONSOLE)) (E_w_ROOT_ACCESS : Exa Z h0 w_ROOT_ACCESS "com/example/holdfast/holdfast/tenant/Permission") (E_w_MANAGE_OWN_S3_CREDENTIALS : Exa Z h0 w_MANAGE_OWN_S3_CREDENTIALS "com/example/holdfast/holdfast/tenant/Permission") (E_w_VIEW_ALL_BUCKETS : Exa Z h0 w_VIEW_ALL_BUCKETS "com/example/holdfast/holdfast/tenant/Permission") (E_w_MANAGE_ALL_BUCKETS : Exa Z h0 w_MANAGE_ALL_BUCKETS "com/example/holdfast/holdfast/tenant/Permission") (E_w_MANAGE_ENDPOINTS : Exa Z h0 w_MANAGE_ENDPOINTS "com/example/holdfast/holdfast/tenant/Permission") (E_w_USE_S3_CONSOLE : Exa Z h0 w_USE_S3_CONSOLE "com/example/holdfast/holdfast/tenant/Permission") (ne_ROOT_ACCESS_MANAGE_OWN_S3_CREDENTIALS : ¬ (w_ROOT_ACCESS = w_MANAGE_OWN_S3_CREDENTIALS)) (ne_ROOT_ACCESS_VIEW_ALL_BUCKETS : ¬ (w_ROOT_ACCESS = w_VIEW_ALL_BUCKETS)) (ne_ROOT_ACCESS_MANAGE_ALL_BUCKETS : ¬ (w_ROOT_ACCESS = w_MANAGE_ALL_BUCKETS)) (ne_ROOT_ACCESS_MANAGE_ENDPOINTS : ¬ (w_ROOT_ACCESS = w_MANAGE_ENDPOINTS)) (ne_ROOT_ACCESS_USE_S3_CONSOLE : ¬ (w_ROOT_ACCESS = w_USE_S3_CONSOLE)) (ne_MANAGE_OWN_S3_CREDENTIALS_ROOT_ACCESS : ¬ (w_MANAGE_OWN_S3_CREDENTIALS = w_ROOT_ACCESS)) (ne_MANAGE_OWN_S3_CREDENTIALS_VIEW_ALL_BUCKETS : ¬ (w_MANAGE_OWN_S3_CREDENTIALS = w_VIEW_ALL_BUCKETS)) (ne_MANAGE_OWN_S3_CREDENTIALS_MANAGE_ALL_BUCKETS : ¬ (w_MANAGE_OWN_S3_CREDENTIALS = w_MANAGE_ALL_BUCKETS)) (ne_MANAGE_OWN_S3_CREDENTIALS_MANAGE_ENDPOINTS : ¬ (w_MANAGE_OWN_S3_CREDENTIALS = w_MANAGE_ENDPOINTS)) (ne_MANAGE_OWN_S3_CREDENTIALS_USE_S3_CONSOLE : ¬ (w_MANAGE_OWN_S3_CREDENTIALS = w_USE_S3_CONSOLE)) (ne_VIEW_ALL_BUCKETS_ROOT_ACCESS : ¬ (w_VIEW_ALL_BUCKETS = w_ROOT_ACCESS)) (ne_VIEW_ALL_BUCKETS_MANAGE_OWN_S3_CREDENTIALS : ¬ (w_VIEW_ALL_BUCKETS = w_MANAGE_OWN_S3_CREDENTIALS)) (ne_VIEW_ALL_BUCKETS_MANAGE_ALL_BUCKETS : ¬ (w_VIEW_ALL_BUCKETS = w_MANAGE_ALL_BUCKETS)) (ne_VIEW_ALL_BUCKETS_MANAGE_ENDPOINTS : ¬ (w_VIEW_ALL_BUCKETS = w_MANAGE_ENDPOINTS)) (ne_VIEW_ALL_BUCKETS_USE_S3_CONSOLE : ¬ (w_VIEW_ALL_BUCKETS = w_USE_S3_CONSOLE)) (ne_MANAGE_ALL_BUCKETS_ROOT_ACCESS : ¬ (w_MANAGE_ALL_BUCKETS = w_ROOT_ACCESS)) (ne_MANAGE_ALL_BUCKETS_MANAGE_OWN_S3_CREDENTIALS : ¬ (w_MANAGE_ALL_BUCKETS = w_MANAGE_OWN_S3_CREDENTIALS)) (ne_MANAGE_ALL_BUCKETS_VIEW_ALL_BUCKETS : ¬ (w_MANAGE_ALL_BUCKETS = w_VIEW_ALL_BUCKETS)) (ne_MANAGE_ALL_BUCKETS_MANAGE_ENDPOINTS : ¬ (w_MANAGE_ALL_BUCKETS = w_MANAGE_ENDPOINTS)) (ne_MANAGE_ALL_BUCKETS_USE_S3_CONSOLE : ¬ (w_MANAGE_ALL_BUCKETS = w_USE_S3_CONSOLE)) (ne_MANAGE_ENDPOINTS_ROOT_ACCESS : ¬ (w_MANAGE_ENDPOINTS = w_ROOT_ACCESS)) (ne_MANAGE_ENDPOINTS_MANAGE_OWN_S3_CREDENTIALS : ¬ (w_MANAGE_ENDPOINTS = w_MANAGE_OWN_S3_CREDENTIALS)) (ne_MANAGE_ENDPOINTS_VIEW_ALL_BUCKETS : ¬ (w_MANAGE_ENDPOINTS = w_VIEW_ALL_BUCKETS)) (ne_MANAGE_ENDPOINTS_MANAGE_ALL_BUCKETS : ¬ (w_MANAGE_ENDPOINTS = w_MANAGE_ALL_BUCKETS)) (ne_MANAGE_ENDPOINTS_USE_S3_CONSOLE : ¬ (w_MANAGE_ENDPOINTS = w_USE_S3_CONSOLE)) (ne_USE_S3_CONSOLE_ROOT_ACCESS : ¬ (w_USE_S3_CONSOLE = w_ROOT_ACCESS)) (ne_USE_S3_CONSOLE_MANAGE_OWN_S3_CREDENTIALS : ¬ (w_USE_S3_CONSOLE = w_MANAGE_OWN_S3_CREDENTIALS)) (ne_USE_S3_CONSOLE_VIEW_ALL_BUCKETS : ¬ (w_USE_S3_CONSOLE = w_VIEW_ALL_BUCKETS)) (ne_USE_S3_CONSOLE_MANAGE_ALL_BUCKETS : ¬ (w_USE_S3_CONSOLE = w_MANAGE_ALL_BUCKETS)) (ne_USE_S3_CONSOLE_MANAGE_ENDPOINTS : ¬ (w_USE_S3_CONSOLE = w_MANAGE_ENDPOINTS)) :
    MetFree l x (head1 (Jvm.Cond.code x code maxLocals ret :: ws) room_1) (fun a U => a = #[(.int p1), (.int p2)] ∧ Z.Warmed39 U.vm ∧ U.heap = h0) (fun _ _ _ _ _ => True) (fun _ U o U' => ∃ v L, o = .returned v ∧ QL (some (.int (1 : Int32))) n0 v U'.heap L ∧ FrameEnd U o U' L room_1.cells room_1.slots) := by
  rcases own_six p1 with hx | hx | hx | hx | hx | hx <;> rcases own_six p2 with hy | hy | hy | hy | hy | hy
  · exact rm0_1 l Z a0 hw ws p1 p2 w_ROOT_ACCESS w_MANAGE_OWN_S3_CREDENTIALS w_VIEW_ALL_BUCKETS w_MANAGE_ALL_BUCKETS w_MANAGE_ENDPOINTS w_USE_S3_CONSOLE ((63 : Int32)) w_ROOT_ACCESS w_ROOT_ACCESS h0 n0 Z0 S_ROOT_ACCESS S_MANAGE_OWN_S3_CREDENTIALS S_VIEW_ALL_BUCKETS S_MANAGE_ALL_BUCKETS S_MANAGE_ENDPOINTS S_USE_S3_CONSOLE E_w_ROOT_ACCESS E_w_MANAGE_OWN_S3_CREDENTIALS E_w_VIEW_ALL_BUCKETS E_w_MANAGE_ALL_BUCKETS E_w_MANAGE_ENDPOINTS E_w_USE_S3_CONSOLE (Or.inl ⟨rfl, rfl⟩) (by rw [hx]; decide) (by rw [hx, own_n0]; rfl) (by rw [hx]; decide) (by rw [hx, own_n0]; rfl) (by rw [hy]; decide) (by rw [hy, own_n0]; rfl) E_w_ROOT_ACCESS (by rw [hy]; decide +kernel)
  · exact rm0_1 l Z a0 hw ws p1 p2 w_ROOT_ACCESS w_MANAGE_OWN_S3_CREDENTIALS w_VIEW_ALL_BUCKETS w_MANAGE_ALL_BUCKETS w_MANAGE_ENDPOINTS w_USE_S3_CONSOLE ((63 : Int32)) w_ROOT_ACCESS w_MANAGE_OWN_S3_CREDENTIALS h0 n0 Z0 S_ROOT_ACCESS S_MANAGE_OWN_S3_CREDENTIALS S_VIEW_ALL_BUCKETS S_MANAGE_ALL_BUCKETS S_MANAGE_ENDPOINTS S_USE_S3_CONSOLE E_w_ROOT_ACCESS E_w_MANAGE_OWN_S3_CREDENTIALS E_w_VIEW_ALL_BUCKETS E_w_MANAGE_ALL_BUCKETS E_w_MANAGE_ENDPOINTS E_w_USE_S3_CONSOLE (by simp [Gr, ne_ROOT_ACCESS_MANAGE_OWN_S3_CREDENTIALS, ne_ROOT_ACCESS_VIEW_ALL_BUCKETS, ne_ROOT_ACCESS_MANAGE_ALL_BUCKETS, ne_ROOT_ACCESS_MANAGE_ENDPOINTS, ne_ROOT_ACCESS_USE_S3_CONSOLE, ne_MANAGE_OWN_S3_CREDENTIALS_ROOT_ACCESS, ne_MANAGE_OWN_S3_CREDENTIALS_VIEW_ALL_BUCKETS, ne_MANAGE_OWN_S3_CREDENTIALS_MANAGE_ALL_BUCKETS, ne_MANAGE_OWN_S3_CREDENTIALS_MANAGE_ENDPOINTS, ne_MANAGE_OWN_S3_CREDENTIALS_USE_S3_CONSOLE, ne_VIEW_ALL_BUCKETS_ROOT_ACCESS, ne_VIEW_ALL_BUCKETS_MANAGE_OWN_S3_CREDENTIALS, ne_VIEW_ALL_BUCKETS_MANAGE_ALL_BUCKETS, ne_VIEW_ALL_BUCKETS_MANAGE_ENDPOINTS, ne_VIEW_ALL_BUCKETS_USE_S3_CONSOLE, ne_MANAGE_ALL_BUCKETS_ROOT_ACCESS, ne_MANAGE_ALL_BUCKETS_MANAGE_OWN_S3_CREDENTIALS, ne_MANAGE_ALL_BUCKETS_VIEW_ALL_BUCKETS, ne_MANAGE_ALL_BUCKETS_MANAGE_ENDPOINTS, ne_MANAGE_ALL_BUCKETS_USE_S3_CONSOLE, ne_MANAGE_ENDPOINTS_ROOT_ACCESS, ne_MANAGE_ENDPOINTS_MANAGE_OWN_S3_CREDENTIALS, ne_MANAGE_ENDPOINTS_VIEW_ALL_BUCKETS, ne_MANAGE_ENDPOINTS_MANAGE_ALL_BUCKETS, ne_MANAGE_ENDPOINTS_USE_S3_CONSOLE, ne_USE_S3_CONSOLE_ROOT_ACCESS, ne_USE_S3_CONSOLE_MANAGE_OWN_S3_CREDENTIALS, ne_USE_S3_CONSOLE_VIEW_ALL_BUCKETS, ne_USE_S3_CONSOLE_MANAGE_ALL_BUCKETS, ne_USE_S3_CONSOLE_MANAGE_ENDPOINTS]) (by rw [hx]; decide) (by rw [hx, own_n0]; rfl) (by rw [hx]; decide) (by rw [hx, own_n0]; rfl) (by rw [hy]; decide) (by rw [hy, own_n1]; rfl) E_w_ROOT_ACCESS (by rw [hy]; decide +kernel)
  · exact rm0_1 l Z a0 hw ws p1 p2 w_ROOT_ACCESS w_MANAGE_OWN_S3_CREDENTIALS w_VIEW_ALL_BUCKETS w_MANAGE_ALL_BUCKETS w_MANAGE_ENDPOINTS w_USE_S3_CONSOLE ((63 : Int32)) w_ROOT_ACCESS w_VIEW_ALL_BUCKETS h0 n0 Z0 S_ROOT_ACCESS S_MANAGE_OWN_S3_CREDENTIALS S_VIEW_ALL_BUCKETS S_MANAGE_ALL_BUCKETS S_MANAGE_ENDPOINTS S_USE_S3_CONSOLE E_w_ROOT_ACCESS E_w_MANAGE_OWN_S3_CREDENTIALS E_w_VIEW_ALL_BUCKETS E_w_MANAGE_ALL_BUCKETS E_w_MANAGE_ENDPOINTS E_w_USE_S3_CONSOLE (by simp [Gr, ne_ROOT_ACCESS_MANAGE_OWN_S3_CREDENTIALS, ne_ROOT_ACCESS_VIEW_ALL_BUCKETS, ne_ROOT_ACCESS_MANAGE_ALL_BUCKETS, ne_ROOT_ACCESS_MANAGE_ENDPOINTS, ne_ROOT_ACCESS_USE_S3_CONSOLE, ne_MANAGE_OWN_S3_CREDENTIALS_ROOT_ACCESS, ne_MANAGE_OWN_S3_CREDENTIALS_VIEW_ALL_BUCKETS, ne_MANAGE_OWN_S3_CREDENTIALS_MANAGE_ALL_BUCKETS, ne_MANAGE_OWN_S3_CREDENTIALS_MANAGE_ENDPOINTS, ne_MANAGE_OWN_S3_CREDENTIALS_USE_S3_CONSOLE, ne_VIEW_ALL_BUCKETS_ROOT_ACCESS, ne_VIEW_ALL_BUCKETS_MANAGE_OWN_S3_CREDENTIALS, ne_VIEW_ALL_BUCKETS_MANAGE_ALL_BUCKETS, ne_VIEW_ALL_BUCKETS_MANAGE_ENDPOINTS, ne_VIEW_ALL_BUCKETS_USE_S3_CONSOLE, ne_MANAGE_ALL_BUCKETS_ROOT_ACCESS, ne_MANAGE_ALL_BUCKETS_MANAGE_OWN_S3_CREDENTIALS, ne_MANAGE_ALL_BUCKETS_VIEW_ALL_BUCKETS, ne_MANAGE_ALL_BUCKETS_MANAGE_ENDPOINTS, ne_MANAGE_ALL_BUCKETS_USE_S3_CONSOLE, ne_MANAGE_ENDPOINTS_ROOT_ACCESS, ne_MANAGE_ENDPOINTS_MANAGE_OWN_S3_CREDENTIALS, ne_MANAGE_ENDPOINTS_VIEW_ALL_BUCKETS, ne_MANAGE_ENDPOINTS_MANAGE_ALL_BUCKETS, ne_MANAGE_ENDPOINTS_USE_S3_CONSOLE, ne_USE_S3_CONSOLE_ROOT_ACCESS, ne_USE_S3_CONSOLE_MANAGE_OWN_S3_CREDENTIALS, ne_USE_S3_CONSOLE_VIEW_ALL_BUCKETS, ne_USE_S3_CONSOLE_MANAGE_ALL_BUCKETS, ne_USE_S3_CONSOLE_MANAGE_ENDPOINTS]) (by rw [hx]; decide) (by rw [hx, own_n0]; rfl) (by rw [hx]; decide) (by rw [hx, own_n0]; rfl) (by rw [hy]; decide) (by rw [hy, own_n2]; rfl) E_w_ROOT_ACCESS (by rw [hy]; decide +kernel)
  · exact rm0_1 l Z a0 hw ws p1 p2 w_ROOT_ACCESS w_MANAGE_OWN_S3_CREDENTIALS w_VIEW_ALL_BUCKETS w_MANAGE_ALL_BUCKETS w_MANAGE_ENDPOINTS w_USE_S3_CONSOLE ((63 : Int32)) w_ROOT_ACCESS w_MANAGE_ALL_BUCKETS h0 n0 Z0 S_ROOT_ACCESS S_MANAGE_OWN_S3_CREDENTIALS S_VIEW_ALL_BUCKETS S_MANAGE_ALL_BUCKETS S_MANAGE_ENDPOINTS S_USE_S3_CONSOLE E_w_ROOT_ACCESS E_w_MANAGE_OWN_S3_CREDENTIALS E_w_VIEW_ALL_BUCKETS E_w_MANAGE_ALL_BUCKETS E_w_MANAGE_ENDPOINTS E_w_USE_S3_CONSOLE (by simp [Gr, ne_ROOT_ACCESS_MANAGE_OWN_S3_CREDENTIALS, ne_ROOT_ACCESS_VIEW_ALL_BUCKETS, ne_ROOT_ACCESS_MANAGE_ALL_BUCKETS, ne_ROOT_ACCESS_MANAGE_ENDPOINTS, ne_ROOT_ACCESS_USE_S3_CONSOLE, ne_MANAGE_OWN_S3_CREDENTIALS_ROOT_ACCESS, ne_MANAGE_OWN_S3_CREDENTIALS_VIEW_ALL_BUCKETS, ne_MANAGE_OWN_S3_CREDENTIALS_MANAGE_ALL_BUCKETS, ne_MANAGE_OWN_S3_CREDENTIALS_MANAGE_ENDPOINTS, ne_MANAGE_OWN_S3_CREDENTIALS_USE_S3_CONSOLE, ne_VIEW_ALL_BUCKETS_ROOT_ACCESS, ne_VIEW_ALL_BUCKETS_MANAGE_OWN_S3_CREDENTIALS, ne_VIEW_ALL_BUCKETS_MANAGE_ALL_BUCKETS, ne_VIEW_ALL_BUCKETS_MANAGE_ENDPOINTS, ne_VIEW_ALL_BUCKETS_USE_S3_CONSOLE, ne_MANAGE_ALL_BUCKETS_ROOT_ACCESS, ne_MANAGE_ALL_BUCKETS_MANAGE_OWN_S3_CREDENTIALS, ne_MANAGE_ALL_BUCKETS_VIEW_ALL_BUCKETS, ne_MANAGE_ALL_BUCKETS_MANAGE_ENDPOINTS, ne_MANAGE_ALL_BUCKETS_USE_S3_CONSOLE, ne_MANAGE_ENDPOINTS_ROOT_ACCESS, ne_MANAGE_ENDPOINTS_MANAGE_OWN_S3_CREDENTIALS, ne_MANAGE_ENDPOINTS_VIEW_ALL_BUCKETS, ne_MANAGE_ENDPOINTS_MANAGE_ALL_BUCKETS, ne_MANAGE_ENDPOINTS_USE_S3_CONSOLE, ne_USE_S3_CONSOLE_ROOT_ACCESS, ne_USE_S3_CONSOLE_MANAGE_OWN_S3_CREDENTIALS, ne_USE_S3_CONSOLE_VIEW_ALL_BUCKETS, ne_USE_S3_CONSOLE_MANAGE_ALL_BUCKETS, ne_USE_S3_CONSOLE_MANAGE_ENDPOINTS]) (by rw [hx]; decide) (by rw [hx, own_n0]; rfl) (by rw [hx]; decide) (by rw [hx, own_n0]; rfl) (by rw [hy]; decide) (by rw [hy, own_n3]; rfl) E_w_ROOT_ACCESS (by rw [hy]; decide +kernel)
  · exact rm0_1 l Z a0 hw ws p1 p2 w_ROOT_ACCESS w_MANAGE_OWN_S3_CREDENTIALS w_VIEW_ALL_BUCKETS w_MANAGE_ALL_BUCKETS w_MANAGE_ENDPOINTS w_USE_S3_CONSOLE ((63 : Int32)) w_ROOT_ACCESS w_MANAGE_ENDPOINTS h0 n0 Z0 S_ROOT_ACCESS S_MANAGE_OWN_S3_CREDENTIALS S_VIEW_ALL_BUCKETS S_MANAGE_ALL_BUCKETS S_MANAGE_ENDPOINTS S_USE_S3_CONSOLE E_w_ROOT_ACCESS E_w_MANAGE_OWN_S3_CREDENTIALS E_w_VIEW_ALL_BUCKETS E_w_MANAGE_ALL_BUCKETS E_w_MANAGE_ENDPOINTS E_w_USE_S3_CONSOLE (by simp [Gr, ne_ROOT_ACCESS_MANAGE_OWN_S3_CREDENTIALS, ne_ROOT_ACCESS_VIEW_ALL_BUCKETS, ne_ROOT_ACCESS_MANAGE_ALL_BUCKETS, ne_ROOT_ACCESS_MANAGE_ENDPOINTS, ne_ROOT_ACCESS_USE_S3_CONSOLE, ne_MANAGE_OWN_S3_CREDENTIALS_ROOT_ACCESS, ne_MANAGE_OWN_S3_CREDENTIALS_VIEW_ALL_BUCKETS, ne_MANAGE_OWN_S3_CREDENTIALS_MANAGE_ALL_BUCKETS, ne_MANAGE_OWN_S3_CREDENTIALS_MANAGE_ENDPOINTS, ne_MANAGE_OWN_S3_CREDENTIALS_USE_S3_CONSOLE, ne_VIEW_ALL_BUCKETS_ROOT_ACCESS, ne_VIEW_ALL_BUCKETS_MANAGE_OWN_S3_CREDENTIALS, ne_VIEW_ALL_BUCKETS_MANAGE_ALL_BUCKETS, ne_VIEW_ALL_BUCKETS_MANAGE_ENDPOINTS, ne_VIEW_ALL_BUCKETS_USE_S3_CONSOLE, ne_MANAGE_ALL_BUCKETS_ROOT_ACCESS, ne_MANAGE_ALL_BUCKETS_MANAGE_OWN_S3_CREDENTIALS, ne_MANAGE_ALL_BUCKETS_VIEW_ALL_BUCKETS, ne_MANAGE_ALL_BUCKETS_MANAGE_ENDPOINTS, ne_MANAGE_ALL_BUCKETS_USE_S3_CONSOLE, ne_MANAGE_ENDPOINTS_ROOT_ACCESS, ne_MANAGE_ENDPOINTS_MANAGE_OWN_S3_CREDENTIALS, ne_MANAGE_ENDPOINTS_VIEW_ALL_BUCKETS, ne_MANAGE_ENDPOINTS_MANAGE_ALL_BUCKETS, ne_MANAGE_ENDPOINTS_USE_S3_CONSOLE, ne_USE_S3_CONSOLE_ROOT_ACCESS, ne_USE_S3_CONSOLE_MANAGE_OWN_S3_CREDENTIALS, ne_USE_S3_CONSOLE_VIEW_ALL_BUCKETS, ne_USE_S3_CONSOLE_MANAGE_ALL_BUCKETS, ne_USE_S3_CONSOLE_MANAGE_ENDPOINTS]) (by rw [hx]; decide) (by rw [hx, own_n0]; rfl) (by rw [hx]; decide) (by rw [hx, own_n0]; rfl) (by rw [hy]; decide) (by rw [hy, own_n4]; rfl) E_w_ROOT_ACCESS (by rw [hy]; decide +kernel)
  · exact rm0_1 l Z a0 hw ws p1 p2 w_ROOT_ACCESS w_MANAGE_OWN_S3_CREDENTIALS w_VIEW_ALL_BUCKETS w_MANAGE_ALL_BUCKETS w_MANAGE_ENDPOINTS w_USE_S3_CONSOLE ((63 : Int32)) w_ROOT_ACCESS w_USE_S3_CONSOLE h0 n0 Z0 S_ROOT_ACCESS S_MANAGE_OWN_S3_CREDENTIALS S_VIEW_ALL_BUCKETS S_MANAGE_ALL_BUCKETS S_MANAGE_ENDPOINTS S_USE_S3_CONSOLE E_w_ROOT_ACCESS E_w_MANAGE_OWN_S3_CREDENTIALS E_w_VIEW_ALL_BUCKETS E_w_MANAGE_ALL_BUCKETS E_w_MANAGE_ENDPOINTS E_w_USE_S3_CONSOLE (by simp [Gr, ne_ROOT_ACCESS_MANAGE_OWN_S3_CREDENTIALS, ne_ROOT_ACCESS_VIEW_ALL_BUCKETS, ne_ROOT_ACCESS_MANAGE_ALL_BUCKETS, ne_ROOT_ACCESS_MANAGE_ENDPOINTS, ne_ROOT_ACCESS_USE_S3_CONSOLE, ne_MANAGE_OWN_S3_CREDENTIALS_ROOT_ACCESS, ne_MANAGE_OWN_S3_CREDENTIALS_VIEW_ALL_BUCKETS, ne_MANAGE_OWN_S3_CREDENTIALS_MANAGE_ALL_BUCKETS, ne_MANAGE_OWN_S3_CREDENTIALS_MANAGE_ENDPOINTS, ne_MANAGE_OWN_S3_CREDENTIALS_USE_S3_CONSOLE, ne_VIEW_ALL_BUCKETS_ROOT_ACCESS, ne_VIEW_ALL_BUCKETS_MANAGE_OWN_S3_CREDENTIALS, ne_VIEW_ALL_BUCKETS_MANAGE_ALL_BUCKETS, ne_VIEW_ALL_BUCKETS_MANAGE_ENDPOINTS, ne_VIEW_ALL_BUCKETS_USE_S3_CONSOLE, ne_MANAGE_ALL_BUCKETS_ROOT_ACCESS, ne_MANAGE_ALL_BUCKETS_MANAGE_OWN_S3_CREDENTIALS, ne_MANAGE_ALL_BUCKETS_VIEW_ALL_BUCKETS, ne_MANAGE_ALL_BUCKETS_MANAGE_ENDPOINTS, ne_MANAGE_ALL_BUCKETS_USE_S3_CONSOLE, ne_MANAGE_ENDPOINTS_ROOT_ACCESS, ne_MANAGE_ENDPOINTS_MANAGE_OWN_S3_CREDENTIALS, ne_MANAGE_ENDPOINTS_VIEW_ALL_BUCKETS, ne_MANAGE_ENDPOINTS_MANAGE_ALL_BUCKETS, ne_MANAGE_ENDPOINTS_USE_S3_CONSOLE, ne_USE_S3_CONSOLE_ROOT_ACCESS, ne_USE_S3_CONSOLE_MANAGE_OWN_S3_CREDENTIALS, ne_USE_S3_CONSOLE_VIEW_ALL_BUCKETS, ne_USE_S3_CONSOLE_MANAGE_ALL_BUCKETS, ne_USE_S3_CONSOLE_MANAGE_ENDPOINTS]) (by rw [hx]; decide) (by rw [hx, own_n0]; rfl) (by rw [hx]; decide) (by rw [hx, own_n0]; rfl) (by rw [hy]; decide) (by rw [hy, own_n5]; rfl) E_w_ROOT_ACCESS (by rw [hy]; decide +kernel)
  · exact rm0_0 l Z a0 hw ws p1 p2 w_ROOT_ACCESS w_MANAGE_OWN_S3_CREDENTIALS w_VIEW_ALL_BUCKETS w_MANAGE_ALL_BUCKETS w_MANAGE_ENDPOINTS w_USE_S3_CONSOLE ((2 : Int32)) w_MANAGE_OWN_S3_CREDENTIALS w_ROOT_ACCESS h0 n0 Z0 S_ROOT_ACCESS S_MANAGE_OWN_S3_CREDENTIALS S_VIEW_ALL_BUCKETS S_MANAGE_ALL_BUCKETS S_MANAGE_ENDPOINTS S_USE_S3_CONSOLE E_w_ROOT_ACCESS E_w_MANAGE_OWN_S3_CREDENTIALS E_w_VIEW_ALL_BUCKETS E_w_MANAGE_ALL_BUCKETS E_w_MANAGE_ENDPOINTS E_w_USE_S3_CONSOLE (by simp [Gr, ne_ROOT_ACCESS_MANAGE_OWN_S3_CREDENTIALS, ne_ROOT_ACCESS_VIEW_ALL_BUCKETS, ne_ROOT_ACCESS_MANAGE_ALL_BUCKETS, ne_ROOT_ACCESS_MANAGE_ENDPOINTS, ne_ROOT_ACCESS_USE_S3_CONSOLE, ne_MANAGE_OWN_S3_CREDENTIALS_ROOT_ACCESS, ne_MANAGE_OWN_S3_CREDENTIALS_VIEW_ALL_BUCKETS, ne_MANAGE_OWN_S3_CREDENTIALS_MANAGE_ALL_BUCKETS, ne_MANAGE_OWN_S3_CREDENTIALS_MANAGE_ENDPOINTS, ne_MANAGE_OWN_S3_CREDENTIALS_USE_S3_CONSOLE, ne_VIEW_ALL_BUCKETS_ROOT_ACCESS, ne_VIEW_ALL_BUCKETS_MANAGE_OWN_S3_CREDENTIALS, ne_VIEW_ALL_BUCKETS_MANAGE_ALL_BUCKETS, ne_VIEW_ALL_BUCKETS_MANAGE_ENDPOINTS, ne_VIEW_ALL_BUCKETS_USE_S3_CONSOLE, ne_MANAGE_ALL_BUCKETS_ROOT_ACCESS, ne_MANAGE_ALL_BUCKETS_MANAGE_OWN_S3_CREDENTIALS, ne_MANAGE_ALL_BUCKETS_VIEW_ALL_BUCKETS, ne_MANAGE_ALL_BUCKETS_MANAGE_ENDPOINTS, ne_MANAGE_ALL_BUCKETS_USE_S3_CONSOLE, ne_MANAGE_ENDPOINTS_ROOT_ACCESS, ne_MANAGE_ENDPOINTS_MANAGE_OWN_S3_CREDENTIALS, ne_MANAGE_ENDPOINTS_VIEW_ALL_BUCKETS, ne_MANAGE_ENDPOINTS_MANAGE_ALL_BUCKETS, ne_MANAGE_ENDPOINTS_USE_S3_CONSOLE, ne_USE_S3_CONSOLE_ROOT_ACCESS, ne_USE_S3_CONSOLE_MANAGE_OWN_S3_CREDENTIALS, ne_USE_S3_CONSOLE_VIEW_ALL_BUCKETS, ne_USE_S3_CONSOLE_MANAGE_ALL_BUCKETS, ne_USE_S3_CONSOLE_MANAGE_ENDPOINTS]) (by rw [hx]; decide) (by rw [hx, own_n1]; rfl) (by rw [hx]; decide) (by rw [hx, own_n1]; rfl) (by rw [hy]; decide) (by rw [hy, own_n0]; rfl) E_w_MANAGE_OWN_S3_CREDENTIALS (by rw [hy]; decide +kernel)
  · exact rm0_1 l Z a0 hw ws p1 p2 w_ROOT_ACCESS w_MANAGE_OWN_S3_CREDENTIALS w_VIEW_ALL_BUCKETS w_MANAGE_ALL_BUCKETS w_MANAGE_ENDPOINTS w_USE_S3_CONSOLE ((2 : Int32)) w_MANAGE_OWN_S3_CREDENTIALS w_MANAGE_OWN_S3_CREDENTIALS h0 n0 Z0 S_ROOT_ACCESS S_MANAGE_OWN_S3_CREDENTIALS S_VIEW_ALL_BUCKETS S_MANAGE_ALL_BUCKETS S_MANAGE_ENDPOINTS S_USE_S3_CONSOLE E_w_ROOT_ACCESS E_w_MANAGE_OWN_S3_CREDENTIALS E_w_VIEW_ALL_BUCKETS E_w_MANAGE_ALL_BUCKETS E_w_MANAGE_ENDPOINTS E_w_USE_S3_CONSOLE (Or.inl ⟨rfl, rfl⟩) (by rw [hx]; decide) (by rw [hx, own_n1]; rfl) (by rw [hx]; decide) (by rw [hx, own_n1]; rfl) (by rw [hy]; decide) (by rw [hy, own_n1]; rfl) E_w_MANAGE_OWN_S3_CREDENTIALS (by rw [hy]; decide +kernel)
  · exact rm0_0 l Z a0 hw ws p1 p2 w_ROOT_ACCESS w_MANAGE_OWN_S3_CREDENTIALS w_VIEW_ALL_BUCKETS w_MANAGE_ALL_BUCKETS w_MANAGE_ENDPOINTS w_USE_S3_CONSOLE ((2 : Int32)) w_MANAGE_OWN_S3_CREDENTIALS w_VIEW_ALL_BUCKETS h0 n0 Z0 S_ROOT_ACCESS S_MANAGE_OWN_S3_CREDENTIALS S_VIEW_ALL_BUCKETS S_MANAGE_ALL_BUCKETS S_MANAGE_ENDPOINTS S_USE_S3_CONSOLE E_w_ROOT_ACCESS E_w_MANAGE_OWN_S3_CREDENTIALS E_w_VIEW_ALL_BUCKETS E_w_MANAGE_ALL_BUCKETS E_w_MANAGE_ENDPOINTS E_w_USE_S3_CONSOLE (by simp [Gr, ne_ROOT_ACCESS_MANAGE_OWN_S3_CREDENTIALS, ne_ROOT_ACCESS_VIEW_ALL_BUCKETS, ne_ROOT_ACCESS_MANAGE_ALL_BUCKETS, ne_ROOT_ACCESS_MANAGE_ENDPOINTS, ne_ROOT_ACCESS_USE_S3_CONSOLE, ne_MANAGE_OWN_S3_CREDENTIALS_ROOT_ACCESS, ne_MANAGE_OWN_S3_CREDENTIALS_VIEW_ALL_BUCKETS, ne_MANAGE_OWN_S3_CREDENTIALS_MANAGE_ALL_BUCKETS, ne_MANAGE_OWN_S3_CREDENTIALS_MANAGE_ENDPOINTS, ne_MANAGE_OWN_S3_CREDENTIALS_USE_S3_CONSOLE, ne_VIEW_ALL_BUCKETS_ROOT_ACCESS, ne_VIEW_ALL_BUCKETS_MANAGE_OWN_S3_CREDENTIALS, ne_VIEW_ALL_BUCKETS_MANAGE_ALL_BUCKETS, ne_VIEW_ALL_BUCKETS_MANAGE_ENDPOINTS, ne_VIEW_ALL_BUCKETS_USE_S3_CONSOLE, ne_MANAGE_ALL_BUCKETS_ROOT_ACCESS, ne_MANAGE_ALL_BUCKETS_MANAGE_OWN_S3_CREDENTIALS, ne_MANAGE_ALL_BUCKETS_VIEW_ALL_BUCKETS, ne_MANAGE_ALL_BUCKETS_MANAGE_ENDPOINTS, ne_MANAGE_ALL_BUCKETS_USE_S3_CONSOLE, ne_MANAGE_ENDPOINTS_ROOT_ACCESS, ne_MANAGE_ENDPOINTS_MANAGE_OWN_S3_CREDENTIALS, ne_MANAGE_ENDPOINTS_VIEW_ALL_BUCKETS, ne_MANAGE_ENDPOINTS_MANAGE_ALL_BUCKETS, ne_MANAGE_ENDPOINTS_USE_S3_CONSOLE, ne_USE_S3_CONSOLE_ROOT_ACCESS, ne_USE_S3_CONSOLE_MANAGE_OWN_S3_CREDENTIALS, ne_USE_S3_CONSOLE_VIEW_ALL_BUCKETS, ne_USE_S3_CONSOLE_MANAGE_ALL_BUCKETS, ne_USE_S3_CONSOLE_MANAGE_ENDPOINTS]) (by rw [hx]; decide) (by rw [hx, own_n1]; rfl) (by rw [hx]; decide) (by rw [hx, own_n1]; rfl) (by rw [hy]; decide) (by rw [hy, own_n2]; rfl) E_w_MANAGE_OWN_S3_CREDENTIALS (by rw [hy]; decide +kernel)
  · exact rm0_0 l Z a0 hw ws p1 p2 w_ROOT_ACCESS w_MANAGE_OWN_S3_CREDENTIALS w_VIEW_ALL_BUCKETS w_MANAGE_ALL_BUCKETS w_MANAGE_ENDPOINTS w_USE_S3_CONSOLE ((2 : Int32)) w_MANAGE_OWN_S3_CREDENTIALS w_MANAGE_ALL_BUCKETS h0 n0 Z0 S_ROOT_ACCESS S_MANAGE_OWN_S3_CREDENTIALS S_VIEW_ALL_BUCKETS S_MANAGE_ALL_BUCKETS S_MANAGE_ENDPOINTS S_USE_S3_CONSOLE E_w_ROOT_ACCESS E_w_MANAGE_OWN_S3_CREDENTIALS E_w_VIEW_ALL_BUCKETS E_w_MANAGE_ALL_BUCKETS E_w_MANAGE_ENDPOINTS E_w_USE_S3_CONSOLE (by simp [Gr, ne_ROOT_ACCESS_MANAGE_OWN_S3_CREDENTIALS, ne_ROOT_ACCESS_VIEW_ALL_BUCKETS, ne_ROOT_ACCESS_MANAGE_ALL_BUCKETS, ne_ROOT_ACCESS_MANAGE_ENDPOINTS, ne_ROOT_ACCESS_USE_S3_CONSOLE, ne_MANAGE_OWN_S3_CREDENTIALS_ROOT_ACCESS, ne_MANAGE_OWN_S3_CREDENTIALS_VIEW_ALL_BUCKETS, ne_MANAGE_OWN_S3_CREDENTIALS_MANAGE_ALL_BUCKETS, ne_MANAGE_OWN_S3_CREDENTIALS_MANAGE_ENDPOINTS, ne_MANAGE_OWN_S3_CREDENTIALS_USE_S3_CONSOLE, ne_VIEW_ALL_BUCKETS_ROOT_ACCESS, ne_VIEW_ALL_BUCKETS_MANAGE_OWN_S3_CREDENTIALS, ne_VIEW_ALL_BUCKETS_MANAGE_ALL_BUCKETS, ne_VIEW_ALL_BUCKETS_MANAGE_ENDPOINTS, ne_VIEW_ALL_BUCKETS_USE_S3_CONSOLE, ne_MANAGE_ALL_BUCKETS_ROOT_ACCESS, ne_MANAGE_ALL_BUCKETS_MANAGE_OWN_S3_CREDENTIALS, ne_MANAGE_ALL_BUCKETS_VIEW_ALL_BUCKETS, ne_MANAGE_ALL_BUCKETS_MANAGE_ENDPOINTS, ne_MANAGE_ALL_BUCKETS_USE_S3_CONSOLE, ne_MANAGE_ENDPOINTS_ROOT_ACCESS, ne_MANAGE_ENDPOINTS_MANAGE_OWN_S3_CREDENTIALS, ne_MANAGE_ENDPOINTS_VIEW_ALL_BUCKETS, ne_MANAGE_ENDPOINTS_MANAGE_ALL_BUCKETS, ne_MANAGE_ENDPOINTS_USE_S3_CONSOLE, ne_USE_S3_CONSOLE_ROOT_ACCESS, ne_USE_S3_CONSOLE_MANAGE_OWN_S3_CREDENTIALS, ne_USE_S3_CONSOLE_VIEW_ALL_BUCKETS, ne_USE_S3_CONSOLE_MANAGE_ALL_BUCKETS, ne_USE_S3_CONSOLE_MANAGE_ENDPOINTS]) (by rw [hx]; decide) (by rw [hx, own_n1]; rfl) (by rw [hx]; decide) (by rw [hx, own_n1]; rfl) (by rw [hy]; decide) (by rw [hy, own_n3]; rfl) E_w_MANAGE_OWN_S3_CREDENTIALS (by rw [hy]; decide +kernel)
  · exact rm0_0 l Z a0 hw ws p1 p2 w_ROOT_ACCESS w_MANAGE_OWN_S3_CREDENTIALS w_VIEW_ALL_BUCKETS w_MANAGE_ALL_BUCKETS w_MANAGE_ENDPOINTS w_USE_S3_CONSOLE ((2 : Int32)) w_MANAGE_OWN_S3_CREDENTIALS w_MANAGE_ENDPOINTS h0 n0 Z0 S_ROOT_ACCESS S_MANAGE_OWN_S3_CREDENTIALS S_VIEW_ALL_BUCKETS S_MANAGE_ALL_BUCKETS S_MANAGE_ENDPOINTS S_USE_S3_CONSOLE E_w_ROOT_ACCESS E_w_MANAGE_OWN_S3_CREDENTIALS E_w_VIEW_ALL_BUCKETS E_w_MANAGE_ALL_BUCKETS E_w_MANAGE_ENDPOINTS E_w_USE_S3_CONSOLE (by simp [Gr, ne_ROOT_ACCESS_MANAGE_OWN_S3_CREDENTIALS, ne_ROOT_ACCESS_VIEW_ALL_BUCKETS, ne_ROOT_ACCESS_MANAGE_ALL_BUCKETS, ne_ROOT_ACCESS_MANAGE_ENDPOINTS, ne_ROOT_ACCESS_USE_S3_CONSOLE, ne_MANAGE_OWN_S3_CREDENTIALS_ROOT_ACCESS, ne_MANAGE_OWN_S3_CREDENTIALS_VIEW_ALL_BUCKETS, ne_MANAGE_OWN_S3_CREDENTIALS_MANAGE_ALL_BUCKETS, ne_MANAGE_OWN_S3_CREDENTIALS_MANAGE_ENDPOINTS, ne_MANAGE_OWN_S3_CREDENTIALS_USE_S3_CONSOLE, ne_VIEW_ALL_BUCKETS_ROOT_ACCESS, ne_VIEW_ALL_BUCKETS_MANAGE_OWN_S3_CREDENTIALS, ne_VIEW_ALL_BUCKETS_MANAGE_ALL_BUCKETS, ne_VIEW_ALL_BUCKETS_MANAGE_ENDPOINTS, ne_VIEW_ALL_BUCKETS_USE_S3_CONSOLE, ne_MANAGE_ALL_BUCKETS_ROOT_ACCESS, ne_MANAGE_ALL_BUCKETS_MANAGE_OWN_S3_CREDENTIALS, ne_MANAGE_ALL_BUCKETS_VIEW_ALL_BUCKETS, ne_MANAGE_ALL_BUCKETS_MANAGE_ENDPOINTS, ne_MANAGE_ALL_BUCKETS_USE_S3_CONSOLE, ne_MANAGE_ENDPOINTS_ROOT_ACCESS, ne_MANAGE_ENDPOINTS_MANAGE_OWN_S3_CREDENTIALS, ne_MANAGE_ENDPOINTS_VIEW_ALL_BUCKETS, ne_MANAGE_ENDPOINTS_MANAGE_ALL_BUCKETS, ne_MANAGE_ENDPOINTS_USE_S3_CONSOLE, ne_USE_S3_CONSOLE_ROOT_ACCESS, ne_USE_S3_CONSOLE_MANAGE_OWN_S3_CREDENTIALS, ne_USE_S3_CONSOLE_VIEW_ALL_BUCKETS, ne_USE_S3_CONSOLE_MANAGE_ALL_BUCKETS, ne_USE_S3_CONSOLE_MANAGE_ENDPOINTS]) (by rw [hx]; decide) (by rw [hx, own_n1]; rfl) (by rw [hx]; decide) (by rw [hx, own_n1]; rfl) (by rw [hy]; decide) (by rw [hy, own_n4]; rfl) E_w_MANAGE_OWN_S3_CREDENTIALS (by rw [hy]; decide +kernel)
  · exact rm0_0 l Z a0 hw ws p1 p2 w_ROOT_ACCESS w_MANAGE_OWN_S3_CREDENTIALS w_VIEW_ALL_BUCKETS w_MANAGE_ALL_BUCKETS w_MANAGE_ENDPOINTS w_USE_S3_CONSOLE ((2 : Int32)) w_MANAGE_OWN_S3_CREDENTIALS w_USE_S3_CONSOLE h0 n0 Z0 S_ROOT_ACCESS S_MANAGE_OWN_S3_CREDENTIALS S_VIEW_ALL_BUCKETS S_MANAGE_ALL_BUCKETS S_MANAGE_ENDPOINTS S_USE_S3_CONSOLE E_w_ROOT_ACCESS E_w_MANAGE_OWN_S3_CREDENTIALS E_w_VIEW_ALL_BUCKETS E_w_MANAGE_ALL_BUCKETS E_w_MANAGE_ENDPOINTS E_w_USE_S3_CONSOLE (by simp [Gr, ne_ROOT_ACCESS_MANAGE_OWN_S3_CREDENTIALS, ne_ROOT_ACCESS_VIEW_ALL_BUCKETS, ne_ROOT_ACCESS_MANAGE_ALL_BUCKETS, ne_ROOT_ACCESS_MANAGE_ENDPOINTS, ne_ROOT_ACCESS_USE_S3_CONSOLE, ne_MANAGE_OWN_S3_CREDENTIALS_ROOT_ACCESS, ne_MANAGE_OWN_S3_CREDENTIALS_VIEW_ALL_BUCKETS, ne_MANAGE_OWN_S3_CREDENTIALS_MANAGE_ALL_BUCKETS, ne_MANAGE_OWN_S3_CREDENTIALS_MANAGE_ENDPOINTS, ne_MANAGE_OWN_S3_CREDENTIALS_USE_S3_CONSOLE, ne_VIEW_ALL_BUCKETS_ROOT_ACCESS, ne_VIEW_ALL_BUCKETS_MANAGE_OWN_S3_CREDENTIALS, ne_VIEW_ALL_BUCKETS_MANAGE_ALL_BUCKETS, ne_VIEW_ALL_BUCKETS_MANAGE_ENDPOINTS, ne_VIEW_ALL_BUCKETS_USE_S3_CONSOLE, ne_MANAGE_ALL_BUCKETS_ROOT_ACCESS, ne_MANAGE_ALL_BUCKETS_MANAGE_OWN_S3_CREDENTIALS, ne_MANAGE_ALL_BUCKETS_VIEW_ALL_BUCKETS, ne_MANAGE_ALL_BUCKETS_MANAGE_ENDPOINTS, ne_MANAGE_ALL_BUCKETS_USE_S3_CONSOLE, ne_MANAGE_ENDPOINTS_ROOT_ACCESS, ne_MANAGE_ENDPOINTS_MANAGE_OWN_S3_CREDENTIALS, ne_MANAGE_ENDPOINTS_VIEW_ALL_BUCKETS, ne_MANAGE_ENDPOINTS_MANAGE_ALL_BUCKETS, ne_MANAGE_ENDPOINTS_USE_S3_CONSOLE, ne_USE_S3_CONSOLE_ROOT_ACCESS, ne_USE_S3_CONSOLE_MANAGE_OWN_S3_CREDENTIALS, ne_USE_S3_CONSOLE_VIEW_ALL_BUCKETS, ne_USE_S3_CONSOLE_MANAGE_ALL_BUCKETS, ne_USE_S3_CONSOLE_MANAGE_ENDPOINTS]) (by rw [hx]; decide) (by rw [hx, own_n1]; rfl) (by rw [hx]; decide) (by rw [hx, own_n1]; rfl) (by rw [hy]; decide) (by rw [hy, own_n5]; rfl) E_w_MANAGE_OWN_S3_CREDENTIALS (by rw [hy]; decide +kernel)
  · exact rm0_0 l Z a0 hw ws p1 p2 w_ROOT_ACCESS w_MANAGE_OWN_S3_CREDENTIALS w_VIEW_ALL_BUCKETS w_MANAGE_ALL_BUCKETS w_MANAGE_ENDPOINTS w_USE_S3_CONSOLE ((4 : Int32)) w_VIEW_ALL_BUCKETS w_ROOT_ACCESS h0 n0 Z0 S_ROOT_ACCESS S_MANAGE_OWN_S3_CREDENTIALS S_VIEW_ALL_BUCKETS S_MANAGE_ALL_BUCKETS S_MANAGE_ENDPOINTS S_USE_S3_CONSOLE E_w_ROOT_ACCESS E_w_MANAGE_OWN_S3_CREDENTIALS E_w_VIEW_ALL_BUCKETS E_w_MANAGE_ALL_BUCKETS E_w_MANAGE_ENDPOINTS E_w_USE_S3_CONSOLE (by simp [Gr, ne_ROOT_ACCESS_MANAGE_OWN_S3_CREDENTIALS, ne_ROOT_ACCESS_VIEW_ALL_BUCKETS, ne_ROOT_ACCESS_MANAGE_ALL_BUCKETS, ne_ROOT_ACCESS_MANAGE_ENDPOINTS, ne_ROOT_ACCESS_USE_S3_CONSOLE, ne_MANAGE_OWN_S3_CREDENTIALS_ROOT_ACCESS, ne_MANAGE_OWN_S3_CREDENTIALS_VIEW_ALL_BUCKETS, ne_MANAGE_OWN_S3_CREDENTIALS_MANAGE_ALL_BUCKETS, ne_MANAGE_OWN_S3_CREDENTIALS_MANAGE_ENDPOINTS, ne_MANAGE_OWN_S3_CREDENTIALS_USE_S3_CONSOLE, ne_VIEW_ALL_BUCKETS_ROOT_ACCESS, ne_VIEW_ALL_BUCKETS_MANAGE_OWN_S3_CREDENTIALS, ne_VIEW_ALL_BUCKETS_MANAGE_ALL_BUCKETS, ne_VIEW_ALL_BUCKETS_MANAGE_ENDPOINTS, ne_VIEW_ALL_BUCKETS_USE_S3_CONSOLE, ne_MANAGE_ALL_BUCKETS_ROOT_ACCESS, ne_MANAGE_ALL_BUCKETS_MANAGE_OWN_S3_CREDENTIALS, ne_MANAGE_ALL_BUCKETS_VIEW_ALL_BUCKETS, ne_MANAGE_ALL_BUCKETS_MANAGE_ENDPOINTS, ne_MANAGE_ALL_BUCKETS_USE_S3_CONSOLE, ne_MANAGE_ENDPOINTS_ROOT_ACCESS, ne_MANAGE_ENDPOINTS_MANAGE_OWN_S3_CREDENTIALS, ne_MANAGE_ENDPOINTS_VIEW_ALL_BUCKETS, ne_MANAGE_ENDPOINTS_MANAGE_ALL_BUCKETS, ne_MANAGE_ENDPOINTS_USE_S3_CONSOLE, ne_USE_S3_CONSOLE_ROOT_ACCESS, ne_USE_S3_CONSOLE_MANAGE_OWN_S3_CREDENTIALS, ne_USE_S3_CONSOLE_VIEW_ALL_BUCKETS, ne_USE_S3_CONSOLE_MANAGE_ALL_BUCKETS, ne_USE_S3_CONSOLE_MANAGE_ENDPOINTS]) (by rw [hx]; decide) (by rw [hx, own_n2]; rfl) (by rw [hx]; decide) (by rw [hx, own_n2]; rfl) (by rw [hy]; decide) (by rw [hy, own_n0]; rfl) E_w_VIEW_ALL_BUCKETS (by rw [hy]; decide +kernel)
  · exact rm0_0 l Z a0 hw ws p1 p2 w_ROOT_ACCESS w_MANAGE_OWN_S3_CREDENTIALS w_VIEW_ALL_BUCKETS w_MANAGE_ALL_BUCKETS w_MANAGE_ENDPOINTS w_USE_S3_CONSOLE ((4 : Int32)) w_VIEW_ALL_BUCKETS w_MANAGE_OWN_S3_CREDENTIALS h0 n0 Z0 S_ROOT_ACCESS S_MANAGE_OWN_S3_CREDENTIALS S_VIEW_ALL_BUCKETS S_MANAGE_ALL_BUCKETS S_MANAGE_ENDPOINTS S_USE_S3_CONSOLE E_w_ROOT_ACCESS E_w_MANAGE_OWN_S3_CREDENTIALS E_w_VIEW_ALL_BUCKETS E_w_MANAGE_ALL_BUCKETS E_w_MANAGE_ENDPOINTS E_w_USE_S3_CONSOLE (by simp [Gr, ne_ROOT_ACCESS_MANAGE_OWN_S3_CREDENTIALS, ne_ROOT_ACCESS_VIEW_ALL_BUCKETS, ne_ROOT_ACCESS_MANAGE_ALL_BUCKETS, ne_ROOT_ACCESS_MANAGE_ENDPOINTS, ne_ROOT_ACCESS_USE_S3_CONSOLE, ne_MANAGE_OWN_S3_CREDENTIALS_ROOT_ACCESS, ne_MANAGE_OWN_S3_CREDENTIALS_VIEW_ALL_BUCKETS, ne_MANAGE_OWN_S3_CREDENTIALS_MANAGE_ALL_BUCKETS, ne_MANAGE_OWN_S3_CREDENTIALS_MANAGE_ENDPOINTS, ne_MANAGE_OWN_S3_CREDENTIALS_USE_S3_CONSOLE, ne_VIEW_ALL_BUCKETS_ROOT_ACCESS, ne_VIEW_ALL_BUCKETS_MANAGE_OWN_S3_CREDENTIALS, ne_VIEW_ALL_BUCKETS_MANAGE_ALL_BUCKETS, ne_VIEW_ALL_BUCKETS_MANAGE_ENDPOINTS, ne_VIEW_ALL_BUCKETS_USE_S3_CONSOLE, ne_MANAGE_ALL_BUCKETS_ROOT_ACCESS, ne_MANAGE_ALL_BUCKETS_MANAGE_OWN_S3_CREDENTIALS, ne_MANAGE_ALL_BUCKETS_VIEW_ALL_BUCKETS, ne_MANAGE_ALL_BUCKETS_MANAGE_ENDPOINTS, ne_MANAGE_ALL_BUCKETS_USE_S3_CONSOLE, ne_MANAGE_ENDPOINTS_ROOT_ACCESS, ne_MANAGE_ENDPOINTS_MANAGE_OWN_S3_CREDENTIALS, ne_MANAGE_ENDPOINTS_VIEW_ALL_BUCKETS, ne_MANAGE_ENDPOINTS_MANAGE_ALL_BUCKETS, ne_MANAGE_ENDPOINTS_USE_S3_CONSOLE, ne_USE_S3_CONSOLE_ROOT_ACCESS, ne_USE_S3_CONSOLE_MANAGE_OWN_S3_CREDENTIALS, ne_USE_S3_CONSOLE_VIEW_ALL_BUCKETS, ne_USE_S3_CONSOLE_MANAGE_ALL_BUCKETS, ne_USE_S3_CONSOLE_MANAGE_ENDPOINTS]) (by rw [hx]; decide) (by rw [hx, own_n2]; rfl) (by rw [hx]; decide) (by rw [hx, own_n2]; rfl) (by rw [hy]; decide) (by rw [hy, own_n1]; rfl) E_w_VIEW_ALL_BUCKETS (by rw [hy]; decide +kernel)
  · exact rm0_1 l Z a0 hw ws p1 p2 w_ROOT_ACCESS w_MANAGE_OWN_S3_CREDENTIALS w_VIEW_ALL_BUCKETS w_MANAGE_ALL_BUCKETS w_MANAGE_ENDPOINTS w_USE_S3_CONSOLE ((4 : Int32)) w_VIEW_ALL_BUCKETS w_VIEW_ALL_BUCKETS h0 n0 Z0 S_ROOT_ACCESS S_MANAGE_OWN_S3_CREDENTIALS S_VIEW_ALL_BUCKETS S_MANAGE_ALL_BUCKETS S_MANAGE_ENDPOINTS S_USE_S3_CONSOLE E_w_ROOT_ACCESS E_w_MANAGE_OWN_S3_CREDENTIALS E_w_VIEW_ALL_BUCKETS E_w_MANAGE_ALL_BUCKETS E_w_MANAGE_ENDPOINTS E_w_USE_S3_CONSOLE (Or.inl ⟨rfl, rfl⟩) (by rw [hx]; decide) (by rw [hx, own_n2]; rfl) (by rw [hx]; decide) (by rw [hx, own_n2]; rfl) (by rw [hy]; decide) (by rw [hy, own_n2]; rfl) E_w_VIEW_ALL_BUCKETS (by rw [hy]; decide +kernel)
  · exact rm0_0 l Z a0 hw ws p1 p2 w_ROOT_ACCESS w_MANAGE_OWN_S3_CREDENTIALS w_VIEW_ALL_BUCKETS w_MANAGE_ALL_BUCKETS w_MANAGE_ENDPOINTS w_USE_S3_CONSOLE ((4 : Int32)) w_VIEW_ALL_BUCKETS w_MANAGE_ALL_BUCKETS h0 n0 Z0 S_ROOT_ACCESS S_MANAGE_OWN_S3_CREDENTIALS S_VIEW_ALL_BUCKETS S_MANAGE_ALL_BUCKETS S_MANAGE_ENDPOINTS S_USE_S3_CONSOLE E_w_ROOT_ACCESS E_w_MANAGE_OWN_S3_CREDENTIALS E_w_VIEW_ALL_BUCKETS E_w_MANAGE_ALL_BUCKETS E_w_MANAGE_ENDPOINTS E_w_USE_S3_CONSOLE (by simp [Gr, ne_ROOT_ACCESS_MANAGE_OWN_S3_CREDENTIALS, ne_ROOT_ACCESS_VIEW_ALL_BUCKETS, ne_ROOT_ACCESS_MANAGE_ALL_BUCKETS, ne_ROOT_ACCESS_MANAGE_ENDPOINTS, ne_ROOT_ACCESS_USE_S3_CONSOLE, ne_MANAGE_OWN_S3_CREDENTIALS_ROOT_ACCESS, ne_MANAGE_OWN_S3_CREDENTIALS_VIEW_ALL_BUCKETS, ne_MANAGE_OWN_S3_CREDENTIALS_MANAGE_ALL_BUCKETS, ne_MANAGE_OWN_S3_CREDENTIALS_MANAGE_ENDPOINTS, ne_MANAGE_OWN_S3_CREDENTIALS_USE_S3_CONSOLE, ne_VIEW_ALL_BUCKETS_ROOT_ACCESS, ne_VIEW_ALL_BUCKETS_MANAGE_OWN_S3_CREDENTIALS, ne_VIEW_ALL_BUCKETS_MANAGE_ALL_BUCKETS, ne_VIEW_ALL_BUCKETS_MANAGE_ENDPOINTS, ne_VIEW_ALL_BUCKETS_USE_S3_CONSOLE, ne_MANAGE_ALL_BUCKETS_ROOT_ACCESS, ne_MANAGE_ALL_BUCKETS_MANAGE_OWN_S3_CREDENTIALS, ne_MANAGE_ALL_BUCKETS_VIEW_ALL_BUCKETS, ne_MANAGE_ALL_BUCKETS_MANAGE_ENDPOINTS, ne_MANAGE_ALL_BUCKETS_USE_S3_CONSOLE, ne_MANAGE_ENDPOINTS_ROOT_ACCESS, ne_MANAGE_ENDPOINTS_MANAGE_OWN_S3_CREDENTIALS, ne_MANAGE_ENDPOINTS_VIEW_ALL_BUCKETS, ne_MANAGE_ENDPOINTS_MANAGE_ALL_BUCKETS, ne_MANAGE_ENDPOINTS_USE_S3_CONSOLE, ne_USE_S3_CONSOLE_ROOT_ACCESS, ne_USE_S3_CONSOLE_MANAGE_OWN_S3_CREDENTIALS, ne_USE_S3_CONSOLE_VIEW_ALL_BUCKETS, ne_USE_S3_CONSOLE_MANAGE_ALL_BUCKETS, ne_USE_S3_CONSOLE_MANAGE_ENDPOINTS]) (by rw [hx]; decide) (by rw [hx, own_n2]; rfl) (by rw [hx]; decide) (by rw [hx, own_n2]; rfl) (by rw [hy]; decide) (by rw [hy, own_n3]; rfl) E_w_VIEW_ALL_BUCKETS (by rw [hy]; decide +kernel)
  · exact rm0_0 l Z a0 hw ws p1 p2 w_ROOT_ACCESS w_MANAGE_OWN_S3_CREDENTIALS w_VIEW_ALL_BUCKETS w_MANAGE_ALL_BUCKETS w_MANAGE_ENDPOINTS w_USE_S3_CONSOLE ((4 : Int32)) w_VIEW_ALL_BUCKETS w_MANAGE_ENDPOINTS h0 n0 Z0 S_ROOT_ACCESS S_MANAGE_OWN_S3_CREDENTIALS S_VIEW_ALL_BUCKETS S_MANAGE_ALL_BUCKETS S_MANAGE_ENDPOINTS S_USE_S3_CONSOLE E_w_ROOT_ACCESS E_w_MANAGE_OWN_S3_CREDENTIALS E_w_VIEW_ALL_BUCKETS E_w_MANAGE_ALL_BUCKETS E_w_MANAGE_ENDPOINTS E_w_USE_S3_CONSOLE (by simp [Gr, ne_ROOT_ACCESS_MANAGE_OWN_S3_CREDENTIALS, ne_ROOT_ACCESS_VIEW_ALL_BUCKETS, ne_ROOT_ACCESS_MANAGE_ALL_BUCKETS, ne_ROOT_ACCESS_MANAGE_ENDPOINTS, ne_ROOT_ACCESS_USE_S3_CONSOLE, ne_MANAGE_OWN_S3_CREDENTIALS_ROOT_ACCESS, ne_MANAGE_OWN_S3_CREDENTIALS_VIEW_ALL_BUCKETS, ne_MANAGE_OWN_S3_CREDENTIALS_MANAGE_ALL_BUCKETS, ne_MANAGE_OWN_S3_CREDENTIALS_MANAGE_ENDPOINTS, ne_MANAGE_OWN_S3_CREDENTIALS_USE_S3_CONSOLE, ne_VIEW_ALL_BUCKETS_ROOT_ACCESS, ne_VIEW_ALL_BUCKETS_MANAGE_OWN_S3_CREDENTIALS, ne_VIEW_ALL_BUCKETS_MANAGE_ALL_BUCKETS, ne_VIEW_ALL_BUCKETS_MANAGE_ENDPOINTS, ne_VIEW_ALL_BUCKETS_USE_S3_CONSOLE, ne_MANAGE_ALL_BUCKETS_ROOT_ACCESS, ne_MANAGE_ALL_BUCKETS_MANAGE_OWN_S3_CREDENTIALS, ne_MANAGE_ALL_BUCKETS_VIEW_ALL_BUCKETS, ne_MANAGE_ALL_BUCKETS_MANAGE_ENDPOINTS, ne_MANAGE_ALL_BUCKETS_USE_S3_CONSOLE, ne_MANAGE_ENDPOINTS_ROOT_ACCESS, ne_MANAGE_ENDPOINTS_MANAGE_OWN_S3_CREDENTIALS, ne_MANAGE_ENDPOINTS_VIEW_ALL_BUCKETS, ne_MANAGE_ENDPOINTS_MANAGE_ALL_BUCKETS, ne_MANAGE_ENDPOINTS_USE_S3_CONSOLE, ne_USE_S3_CONSOLE_ROOT_ACCESS, ne_USE_S3_CONSOLE_MANAGE_OWN_S3_CREDENTIALS, ne_USE_S3_CONSOLE_VIEW_ALL_BUCKETS, ne_USE_S3_CONSOLE_MANAGE_ALL_BUCKETS, ne_USE_S3_CONSOLE_MANAGE_ENDPOINTS]) (by rw [hx]; decide) (by rw [hx, own_n2]; rfl) (by rw [hx]; decide) (by rw [hx, own_n2]; rfl) (by rw [hy]; decide) (by rw [hy, own_n4]; rfl) E_w_VIEW_ALL_BUCKETS (by rw [hy]; decide +kernel)
  · exact rm0_0 l Z a0 hw ws p1 p2 w_ROOT_ACCESS w_MANAGE_OWN_S3_CREDENTIALS w_VIEW_ALL_BUCKETS w_MANAGE_ALL_BUCKETS w_MANAGE_ENDPOINTS w_USE_S3_CONSOLE ((4 : Int32)) w_VIEW_ALL_BUCKETS w_USE_S3_CONSOLE h0 n0 Z0 S_ROOT_ACCESS S_MANAGE_OWN_S3_CREDENTIALS S_VIEW_ALL_BUCKETS S_MANAGE_ALL_BUCKETS S_MANAGE_ENDPOINTS S_USE_S3_CONSOLE E_w_ROOT_ACCESS E_w_MANAGE_OWN_S3_CREDENTIALS E_w_VIEW_ALL_BUCKETS E_w_MANAGE_ALL_BUCKETS E_w_MANAGE_ENDPOINTS E_w_USE_S3_CONSOLE (by simp [Gr, ne_ROOT_ACCESS_MANAGE_OWN_S3_CREDENTIALS, ne_ROOT_ACCESS_VIEW_ALL_BUCKETS, ne_ROOT_ACCESS_MANAGE_ALL_BUCKETS, ne_ROOT_ACCESS_MANAGE_ENDPOINTS, ne_ROOT_ACCESS_USE_S3_CONSOLE, ne_MANAGE_OWN_S3_CREDENTIALS_ROOT_ACCESS, ne_MANAGE_OWN_S3_CREDENTIALS_VIEW_ALL_BUCKETS, ne_MANAGE_OWN_S3_CREDENTIALS_MANAGE_ALL_BUCKETS, ne_MANAGE_OWN_S3_CREDENTIALS_MANAGE_ENDPOINTS, ne_MANAGE_OWN_S3_CREDENTIALS_USE_S3_CONSOLE, ne_VIEW_ALL_BUCKETS_ROOT_ACCESS, ne_VIEW_ALL_BUCKETS_MANAGE_OWN_S3_CREDENTIALS, ne_VIEW_ALL_BUCKETS_MANAGE_ALL_BUCKETS, ne_VIEW_ALL_BUCKETS_MANAGE_ENDPOINTS, ne_VIEW_ALL_BUCKETS_USE_S3_CONSOLE, ne_MANAGE_ALL_BUCKETS_ROOT_ACCESS, ne_MANAGE_ALL_BUCKETS_MANAGE_OWN_S3_CREDENTIALS, ne_MANAGE_ALL_BUCKETS_VIEW_ALL_BUCKETS, ne_MANAGE_ALL_BUCKETS_MANAGE_ENDPOINTS, ne_MANAGE_ALL_BUCKETS_USE_S3_CONSOLE, ne_MANAGE_ENDPOINTS_ROOT_ACCESS, ne_MANAGE_ENDPOINTS_MANAGE_OWN_S3_CREDENTIALS, ne_MANAGE_ENDPOINTS_VIEW_ALL_BUCKETS, ne_MANAGE_ENDPOINTS_MANAGE_ALL_BUCKETS, ne_MANAGE_ENDPOINTS_USE_S3_CONSOLE, ne_USE_S3_CONSOLE_ROOT_ACCESS, ne_USE_S3_CONSOLE_MANAGE_OWN_S3_CREDENTIALS, ne_USE_S3_CONSOLE_VIEW_ALL_BUCKETS, ne_USE_S3_CONSOLE_MANAGE_ALL_BUCKETS, ne_USE_S3_CONSOLE_MANAGE_ENDPOINTS]) (by rw [hx]; decide) (by rw [hx, own_n2]; rfl) (by rw [hx]; decide) (by rw [hx, own_n2]; rfl) (by rw [hy]; decide) (by rw [hy, own_n5]; rfl) E_w_VIEW_ALL_BUCKETS (by rw [hy]; decide +kernel)
  · exact rm0_0 l Z a0 hw ws p1 p2 w_ROOT_ACCESS w_MANAGE_OWN_S3_CREDENTIALS w_VIEW_ALL_BUCKETS w_MANAGE_ALL_BUCKETS w_MANAGE_ENDPOINTS w_USE_S3_CONSOLE ((12 : Int32)) w_MANAGE_ALL_BUCKETS w_ROOT_ACCESS h0 n0 Z0 S_ROOT_ACCESS S_MANAGE_OWN_S3_CREDENTIALS S_VIEW_ALL_BUCKETS S_MANAGE_ALL_BUCKETS S_MANAGE_ENDPOINTS S_USE_S3_CONSOLE E_w_ROOT_ACCESS E_w_MANAGE_OWN_S3_CREDENTIALS E_w_VIEW_ALL_BUCKETS E_w_MANAGE_ALL_BUCKETS E_w_MANAGE_ENDPOINTS E_w_USE_S3_CONSOLE (by simp [Gr, ne_ROOT_ACCESS_MANAGE_OWN_S3_CREDENTIALS, ne_ROOT_ACCESS_VIEW_ALL_BUCKETS, ne_ROOT_ACCESS_MANAGE_ALL_BUCKETS, ne_ROOT_ACCESS_MANAGE_ENDPOINTS, ne_ROOT_ACCESS_USE_S3_CONSOLE, ne_MANAGE_OWN_S3_CREDENTIALS_ROOT_ACCESS, ne_MANAGE_OWN_S3_CREDENTIALS_VIEW_ALL_BUCKETS, ne_MANAGE_OWN_S3_CREDENTIALS_MANAGE_ALL_BUCKETS, ne_MANAGE_OWN_S3_CREDENTIALS_MANAGE_ENDPOINTS, ne_MANAGE_OWN_S3_CREDENTIALS_USE_S3_CONSOLE, ne_VIEW_ALL_BUCKETS_ROOT_ACCESS, ne_VIEW_ALL_BUCKETS_MANAGE_OWN_S3_CREDENTIALS, ne_VIEW_ALL_BUCKETS_MANAGE_ALL_BUCKETS, ne_VIEW_ALL_BUCKETS_MANAGE_ENDPOINTS, ne_VIEW_ALL_BUCKETS_USE_S3_CONSOLE, ne_MANAGE_ALL_BUCKETS_ROOT_ACCESS, ne_MANAGE_ALL_BUCKETS_MANAGE_OWN_S3_CREDENTIALS, ne_MANAGE_ALL_BUCKETS_VIEW_ALL_BUCKETS, ne_MANAGE_ALL_BUCKETS_MANAGE_ENDPOINTS, ne_MANAGE_ALL_BUCKETS_USE_S3_CONSOLE, ne_MANAGE_ENDPOINTS_ROOT_ACCESS, ne_MANAGE_ENDPOINTS_MANAGE_OWN_S3_CREDENTIALS, ne_MANAGE_ENDPOINTS_VIEW_ALL_BUCKETS, ne_MANAGE_ENDPOINTS_MANAGE_ALL_BUCKETS, ne_MANAGE_ENDPOINTS_USE_S3_CONSOLE, ne_USE_S3_CONSOLE_ROOT_ACCESS, ne_USE_S3_CONSOLE_MANAGE_OWN_S3_CREDENTIALS, ne_USE_S3_CONSOLE_VIEW_ALL_BUCKETS, ne_USE_S3_CONSOLE_MANAGE_ALL_BUCKETS, ne_USE_S3_CONSOLE_MANAGE_ENDPOINTS]) (by rw [hx]; decide) (by rw [hx, own_n3]; rfl) (by rw [hx]; decide) (by rw [hx, own_n3]; rfl) (by rw [hy]; decide) (by rw [hy, own_n0]; rfl) E_w_MANAGE_ALL_BUCKETS (by rw [hy]; decide +kernel)
  · exact rm0_0 l Z a0 hw ws p1 p2 w_ROOT_ACCESS w_MANAGE_OWN_S3_CREDENTIALS w_VIEW_ALL_BUCKETS w_MANAGE_ALL_BUCKETS w_MANAGE_ENDPOINTS w_USE_S3_CONSOLE ((12 : Int32)) w_MANAGE_ALL_BUCKETS w_MANAGE_OWN_S3_CREDENTIALS h0 n0 Z0 S_ROOT_ACCESS S_MANAGE_OWN_S3_CREDENTIALS S_VIEW_ALL_BUCKETS S_MANAGE_ALL_BUCKETS S_MANAGE_ENDPOINTS S_USE_S3_CONSOLE E_w_ROOT_ACCESS E_w_MANAGE_OWN_S3_CREDENTIALS E_w_VIEW_ALL_BUCKETS E_w_MANAGE_ALL_BUCKETS E_w_MANAGE_ENDPOINTS E_w_USE_S3_CONSOLE (by simp [Gr, ne_ROOT_ACCESS_MANAGE_OWN_S3_CREDENTIALS, ne_ROOT_ACCESS_VIEW_ALL_BUCKETS, ne_ROOT_ACCESS_MANAGE_ALL_BUCKETS, ne_ROOT_ACCESS_MANAGE_ENDPOINTS, ne_ROOT_ACCESS_USE_S3_CONSOLE, ne_MANAGE_OWN_S3_CREDENTIALS_ROOT_ACCESS, ne_MANAGE_OWN_S3_CREDENTIALS_VIEW_ALL_BUCKETS, ne_MANAGE_OWN_S3_CREDENTIALS_MANAGE_ALL_BUCKETS, ne_MANAGE_OWN_S3_CREDENTIALS_MANAGE_ENDPOINTS, ne_MANAGE_OWN_S3_CREDENTIALS_USE_S3_CONSOLE, ne_VIEW_ALL_BUCKETS_ROOT_ACCESS, ne_VIEW_ALL_BUCKETS_MANAGE_OWN_S3_CREDENTIALS, ne_VIEW_ALL_BUCKETS_MANAGE_ALL_BUCKETS, ne_VIEW_ALL_BUCKETS_MANAGE_ENDPOINTS, ne_VIEW_ALL_BUCKETS_USE_S3_CONSOLE, ne_MANAGE_ALL_BUCKETS_ROOT_ACCESS, ne_MANAGE_ALL_BUCKETS_MANAGE_OWN_S3_CREDENTIALS, ne_MANAGE_ALL_BUCKETS_VIEW_ALL_BUCKETS, ne_MANAGE_ALL_BUCKETS_MANAGE_ENDPOINTS, ne_MANAGE_ALL_BUCKETS_USE_S3_CONSOLE, ne_MANAGE_ENDPOINTS_ROOT_ACCESS, ne_MANAGE_ENDPOINTS_MANAGE_OWN_S3_CREDENTIALS, ne_MANAGE_ENDPOINTS_VIEW_ALL_BUCKETS, ne_MANAGE_ENDPOINTS_MANAGE_ALL_BUCKETS, ne_MANAGE_ENDPOINTS_USE_S3_CONSOLE, ne_USE_S3_CONSOLE_ROOT_ACCESS, ne_USE_S3_CONSOLE_MANAGE_OWN_S3_CREDENTIALS, ne_USE_S3_CONSOLE_VIEW_ALL_BUCKETS, ne_USE_S3_CONSOLE_MANAGE_ALL_BUCKETS, ne_USE_S3_CONSOLE_MANAGE_ENDPOINTS]) (by rw [hx]; decide) (by rw [hx, own_n3]; rfl) (by rw [hx]; decide) (by rw [hx, own_n3]; rfl) (by rw [hy]; decide) (by rw [hy, own_n1]; rfl) E_w_MANAGE_ALL_BUCKETS (by rw [hy]; decide +kernel)
  · exact rm0_1 l Z a0 hw ws p1 p2 w_ROOT_ACCESS w_MANAGE_OWN_S3_CREDENTIALS w_VIEW_ALL_BUCKETS w_MANAGE_ALL_BUCKETS w_MANAGE_ENDPOINTS w_USE_S3_CONSOLE ((12 : Int32)) w_MANAGE_ALL_BUCKETS w_VIEW_ALL_BUCKETS h0 n0 Z0 S_ROOT_ACCESS S_MANAGE_OWN_S3_CREDENTIALS S_VIEW_ALL_BUCKETS S_MANAGE_ALL_BUCKETS S_MANAGE_ENDPOINTS S_USE_S3_CONSOLE E_w_ROOT_ACCESS E_w_MANAGE_OWN_S3_CREDENTIALS E_w_VIEW_ALL_BUCKETS E_w_MANAGE_ALL_BUCKETS E_w_MANAGE_ENDPOINTS E_w_USE_S3_CONSOLE (by simp [Gr, ne_ROOT_ACCESS_MANAGE_OWN_S3_CREDENTIALS, ne_ROOT_ACCESS_VIEW_ALL_BUCKETS, ne_ROOT_ACCESS_MANAGE_ALL_BUCKETS, ne_ROOT_ACCESS_MANAGE_ENDPOINTS, ne_ROOT_ACCESS_USE_S3_CONSOLE, ne_MANAGE_OWN_S3_CREDENTIALS_ROOT_ACCESS, ne_MANAGE_OWN_S3_CREDENTIALS_VIEW_ALL_BUCKETS, ne_MANAGE_OWN_S3_CREDENTIALS_MANAGE_ALL_BUCKETS, ne_MANAGE_OWN_S3_CREDENTIALS_MANAGE_ENDPOINTS, ne_MANAGE_OWN_S3_CREDENTIALS_USE_S3_CONSOLE, ne_VIEW_ALL_BUCKETS_ROOT_ACCESS, ne_VIEW_ALL_BUCKETS_MANAGE_OWN_S3_CREDENTIALS, ne_VIEW_ALL_BUCKETS_MANAGE_ALL_BUCKETS, ne_VIEW_ALL_BUCKETS_MANAGE_ENDPOINTS, ne_VIEW_ALL_BUCKETS_USE_S3_CONSOLE, ne_MANAGE_ALL_BUCKETS_ROOT_ACCESS, ne_MANAGE_ALL_BUCKETS_MANAGE_OWN_S3_CREDENTIALS, ne_MANAGE_ALL_BUCKETS_VIEW_ALL_BUCKETS, ne_MANAGE_ALL_BUCKETS_MANAGE_ENDPOINTS, ne_MANAGE_ALL_BUCKETS_USE_S3_CONSOLE, ne_MANAGE_ENDPOINTS_ROOT_ACCESS, ne_MANAGE_ENDPOINTS_MANAGE_OWN_S3_CREDENTIALS, ne_MANAGE_ENDPOINTS_VIEW_ALL_BUCKETS, ne_MANAGE_ENDPOINTS_MANAGE_ALL_BUCKETS, ne_MANAGE_ENDPOINTS_USE_S3_CONSOLE, ne_USE_S3_CONSOLE_ROOT_ACCESS, ne_USE_S3_CONSOLE_MANAGE_OWN_S3_CREDENTIALS, ne_USE_S3_CONSOLE_VIEW_ALL_BUCKETS, ne_USE_S3_CONSOLE_MANAGE_ALL_BUCKETS, ne_USE_S3_CONSOLE_MANAGE_ENDPOINTS]) (by rw [hx]; decide) (by rw [hx, own_n3]; rfl) (by rw [hx]; decide) (by rw [hx, own_n3]; rfl) (by rw [hy]; decide) (by rw [hy, own_n2]; rfl) E_w_MANAGE_ALL_BUCKETS (by rw [hy]; decide +kernel)
  · exact rm0_1 l Z a0 hw ws p1 p2 w_ROOT_ACCESS w_MANAGE_OWN_S3_CREDENTIALS w_VIEW_ALL_BUCKETS w_MANAGE_ALL_BUCKETS w_MANAGE_ENDPOINTS w_USE_S3_CONSOLE ((12 : Int32)) w_MANAGE_ALL_BUCKETS w_MANAGE_ALL_BUCKETS h0 n0 Z0 S_ROOT_ACCESS S_MANAGE_OWN_S3_CREDENTIALS S_VIEW_ALL_BUCKETS S_MANAGE_ALL_BUCKETS S_MANAGE_ENDPOINTS S_USE_S3_CONSOLE E_w_ROOT_ACCESS E_w_MANAGE_OWN_S3_CREDENTIALS E_w_VIEW_ALL_BUCKETS E_w_MANAGE_ALL_BUCKETS E_w_MANAGE_ENDPOINTS E_w_USE_S3_CONSOLE (Or.inl ⟨rfl, rfl⟩) (by rw [hx]; decide) (by rw [hx, own_n3]; rfl) (by rw [hx]; decide) (by rw [hx, own_n3]; rfl) (by rw [hy]; decide) (by rw [hy, own_n3]; rfl) E_w_MANAGE_ALL_BUCKETS (by rw [hy]; decide +kernel)
  · exact rm0_0 l Z a0 hw ws p1 p2 w_ROOT_ACCESS w_MANAGE_OWN_S3_CREDENTIALS w_VIEW_ALL_BUCKETS w_MANAGE_ALL_BUCKETS w_MANAGE_ENDPOINTS w_USE_S3_CONSOLE ((12 : Int32)) w_MANAGE_ALL_BUCKETS w_MANAGE_ENDPOINTS h0 n0 Z0 S_ROOT_ACCESS S_MANAGE_OWN_S3_CREDENTIALS S_VIEW_ALL_BUCKETS S_MANAGE_ALL_BUCKETS S_MANAGE_ENDPOINTS S_USE_S3_CONSOLE E_w_ROOT_ACCESS E_w_MANAGE_OWN_S3_CREDENTIALS E_w_VIEW_ALL_BUCKETS E_w_MANAGE_ALL_BUCKETS E_w_MANAGE_ENDPOINTS E_w_USE_S3_CONSOLE (by simp [Gr, ne_ROOT_ACCESS_MANAGE_OWN_S3_CREDENTIALS, ne_ROOT_ACCESS_VIEW_ALL_BUCKETS, ne_ROOT_ACCESS_MANAGE_ALL_BUCKETS, ne_ROOT_ACCESS_MANAGE_ENDPOINTS, ne_ROOT_ACCESS_USE_S3_CONSOLE, ne_MANAGE_OWN_S3_CREDENTIALS_ROOT_ACCESS, ne_MANAGE_OWN_S3_CREDENTIALS_VIEW_ALL_BUCKETS, ne_MANAGE_OWN_S3_CREDENTIALS_MANAGE_ALL_BUCKETS, ne_MANAGE_OWN_S3_CREDENTIALS_MANAGE_ENDPOINTS, ne_MANAGE_OWN_S3_CREDENTIALS_USE_S3_CONSOLE, ne_VIEW_ALL_BUCKETS_ROOT_ACCESS, ne_VIEW_ALL_BUCKETS_MANAGE_OWN_S3_CREDENTIALS, ne_VIEW_ALL_BUCKETS_MANAGE_ALL_BUCKETS, ne_VIEW_ALL_BUCKETS_MANAGE_ENDPOINTS, ne_VIEW_ALL_BUCKETS_USE_S3_CONSOLE, ne_MANAGE_ALL_BUCKETS_ROOT_ACCESS, ne_MANAGE_ALL_BUCKETS_MANAGE_OWN_S3_CREDENTIALS, ne_MANAGE_ALL_BUCKETS_VIEW_ALL_BUCKETS, ne_MANAGE_ALL_BUCKETS_MANAGE_ENDPOINTS, ne_MANAGE_ALL_BUCKETS_USE_S3_CONSOLE, ne_MANAGE_ENDPOINTS_ROOT_ACCESS, ne_MANAGE_ENDPOINTS_MANAGE_OWN_S3_CREDENTIALS, ne_MANAGE_ENDPOINTS_VIEW_ALL_BUCKETS, ne_MANAGE_ENDPOINTS_MANAGE_ALL_BUCKETS, ne_MANAGE_ENDPOINTS_USE_S3_CONSOLE, ne_USE_S3_CONSOLE_ROOT_ACCESS, ne_USE_S3_CONSOLE_MANAGE_OWN_S3_CREDENTIALS, ne_USE_S3_CONSOLE_VIEW_ALL_BUCKETS, ne_USE_S3_CONSOLE_MANAGE_ALL_BUCKETS, ne_USE_S3_CONSOLE_MANAGE_ENDPOINTS]) (by rw [hx]; decide) (by rw [hx, own_n3]; rfl) (by rw [hx]; decide) (by rw [hx, own_n3]; rfl) (by rw [hy]; decide) (by rw [hy, own_n4]; rfl) E_w_MANAGE_ALL_BUCKETS (by rw [hy]; decide +kernel)
  · exact rm0_0 l Z a0 hw ws p1 p2 w_ROOT_ACCESS w_MANAGE_OWN_S3_CREDENTIALS w_VIEW_ALL_BUCKETS w_MANAGE_ALL_BUCKETS w_MANAGE_ENDPOINTS w_USE_S3_CONSOLE ((12 : Int32)) w_MANAGE_ALL_BUCKETS w_USE_S3_CONSOLE h0 n0 Z0 S_ROOT_ACCESS S_MANAGE_OWN_S3_CREDENTIALS S_VIEW_ALL_BUCKETS S_MANAGE_ALL_BUCKETS S_MANAGE_ENDPOINTS S_USE_S3_CONSOLE E_w_ROOT_ACCESS E_w_MANAGE_OWN_S3_CREDENTIALS E_w_VIEW_ALL_BUCKETS E_w_MANAGE_ALL_BUCKETS E_w_MANAGE_ENDPOINTS E_w_USE_S3_CONSOLE (by simp [Gr, ne_ROOT_ACCESS_MANAGE_OWN_S3_CREDENTIALS, ne_ROOT_ACCESS_VIEW_ALL_BUCKETS, ne_ROOT_ACCESS_MANAGE_ALL_BUCKETS, ne_ROOT_ACCESS_MANAGE_ENDPOINTS, ne_ROOT_ACCESS_USE_S3_CONSOLE, ne_MANAGE_OWN_S3_CREDENTIALS_ROOT_ACCESS, ne_MANAGE_OWN_S3_CREDENTIALS_VIEW_ALL_BUCKETS, ne_MANAGE_OWN_S3_CREDENTIALS_MANAGE_ALL_BUCKETS, ne_MANAGE_OWN_S3_CREDENTIALS_MANAGE_ENDPOINTS, ne_MANAGE_OWN_S3_CREDENTIALS_USE_S3_CONSOLE, ne_VIEW_ALL_BUCKETS_ROOT_ACCESS, ne_VIEW_ALL_BUCKETS_MANAGE_OWN_S3_CREDENTIALS, ne_VIEW_ALL_BUCKETS_MANAGE_ALL_BUCKETS, ne_VIEW_ALL_BUCKETS_MANAGE_ENDPOINTS, ne_VIEW_ALL_BUCKETS_USE_S3_CONSOLE, ne_MANAGE_ALL_BUCKETS_ROOT_ACCESS, ne_MANAGE_ALL_BUCKETS_MANAGE_OWN_S3_CREDENTIALS, ne_MANAGE_ALL_BUCKETS_VIEW_ALL_BUCKETS, ne_MANAGE_ALL_BUCKETS_MANAGE_ENDPOINTS, ne_MANAGE_ALL_BUCKETS_USE_S3_CONSOLE, ne_MANAGE_ENDPOINTS_ROOT_ACCESS, ne_MANAGE_ENDPOINTS_MANAGE_OWN_S3_CREDENTIALS, ne_MANAGE_ENDPOINTS_VIEW_ALL_BUCKETS, ne_MANAGE_ENDPOINTS_MANAGE_ALL_BUCKETS, ne_MANAGE_ENDPOINTS_USE_S3_CONSOLE, ne_USE_S3_CONSOLE_ROOT_ACCESS, ne_USE_S3_CONSOLE_MANAGE_OWN_S3_CREDENTIALS, ne_USE_S3_CONSOLE_VIEW_ALL_BUCKETS, ne_USE_S3_CONSOLE_MANAGE_ALL_BUCKETS, ne_USE_S3_CONSOLE_MANAGE_ENDPOINTS]) (by rw [hx]; decide) (by rw [hx, own_n3]; rfl) (by rw [hx]; decide) (by rw [hx, own_n3]; rfl) (by rw [hy]; decide) (by rw [hy, own_n5]; rfl) E_w_MANAGE_ALL_BUCKETS (by rw [hy]; decide +kernel)
  · exact rm0_0 l Z a0 hw ws p1 p2 w_ROOT_ACCESS w_MANAGE_OWN_S3_CREDENTIALS w_VIEW_ALL_BUCKETS w_MANAGE_ALL_BUCKETS w_MANAGE_ENDPOINTS w_USE_S3_CONSOLE ((16 : Int32)) w_MANAGE_ENDPOINTS w_ROOT_ACCESS h0 n0 Z0 S_ROOT_ACCESS S_MANAGE_OWN_S3_CREDENTIALS S_VIEW_ALL_BUCKETS S_MANAGE_ALL_BUCKETS S_MANAGE_ENDPOINTS S_USE_S3_CONSOLE E_w_ROOT_ACCESS E_w_MANAGE_OWN_S3_CREDENTIALS E_w_VIEW_ALL_BUCKETS E_w_MANAGE_ALL_BUCKETS E_w_MANAGE_ENDPOINTS E_w_USE_S3_CONSOLE (by simp [Gr, ne_ROOT_ACCESS_MANAGE_OWN_S3_CREDENTIALS, ne_ROOT_ACCESS_VIEW_ALL_BUCKETS, ne_ROOT_ACCESS_MANAGE_ALL_BUCKETS, ne_ROOT_ACCESS_MANAGE_ENDPOINTS, ne_ROOT_ACCESS_USE_S3_CONSOLE, ne_MANAGE_OWN_S3_CREDENTIALS_ROOT_ACCESS, ne_MANAGE_OWN_S3_CREDENTIALS_VIEW_ALL_BUCKETS, ne_MANAGE_OWN_S3_CREDENTIALS_MANAGE_ALL_BUCKETS, ne_MANAGE_OWN_S3_CREDENTIALS_MANAGE_ENDPOINTS, ne_MANAGE_OWN_S3_CREDENTIALS_USE_S3_CONSOLE, ne_VIEW_ALL_BUCKETS_ROOT_ACCESS, ne_VIEW_ALL_BUCKETS_MANAGE_OWN_S3_CREDENTIALS, ne_VIEW_ALL_BUCKETS_MANAGE_ALL_BUCKETS, ne_VIEW_ALL_BUCKETS_MANAGE_ENDPOINTS, ne_VIEW_ALL_BUCKETS_USE_S3_CONSOLE, ne_MANAGE_ALL_BUCKETS_ROOT_ACCESS, ne_MANAGE_ALL_BUCKETS_MANAGE_OWN_S3_CREDENTIALS, ne_MANAGE_ALL_BUCKETS_VIEW_ALL_BUCKETS, ne_MANAGE_ALL_BUCKETS_MANAGE_ENDPOINTS, ne_MANAGE_ALL_BUCKETS_USE_S3_CONSOLE, ne_MANAGE_ENDPOINTS_ROOT_ACCESS, ne_MANAGE_ENDPOINTS_MANAGE_OWN_S3_CREDENTIALS, ne_MANAGE_ENDPOINTS_VIEW_ALL_BUCKETS, ne_MANAGE_ENDPOINTS_MANAGE_ALL_BUCKETS, ne_MANAGE_ENDPOINTS_USE_S3_CONSOLE, ne_USE_S3_CONSOLE_ROOT_ACCESS, ne_USE_S3_CONSOLE_MANAGE_OWN_S3_CREDENTIALS, ne_USE_S3_CONSOLE_VIEW_ALL_BUCKETS, ne_USE_S3_CONSOLE_MANAGE_ALL_BUCKETS, ne_USE_S3_CONSOLE_MANAGE_ENDPOINTS]) (by rw [hx]; decide) (by rw [hx, own_n4]; rfl) (by rw [hx]; decide) (by rw [hx, own_n4]; rfl) (by rw [hy]; decide) (by rw [hy, own_n0]; rfl) E_w_MANAGE_ENDPOINTS (by rw [hy]; decide +kernel)
  · exact rm0_0 l Z a0 hw ws p1 p2 w_ROOT_ACCESS w_MANAGE_OWN_S3_CREDENTIALS w_VIEW_ALL_BUCKETS w_MANAGE_ALL_BUCKETS w_MANAGE_ENDPOINTS w_USE_S3_CONSOLE ((16 : Int32)) w_MANAGE_ENDPOINTS w_MANAGE_OWN_S3_CREDENTIALS h0 n0 Z0 S_ROOT_ACCESS S_MANAGE_OWN_S3_CREDENTIALS S_VIEW_ALL_BUCKETS S_MANAGE_ALL_BUCKETS S_MANAGE_ENDPOINTS S_USE_S3_CONSOLE E_w_ROOT_ACCESS E_w_MANAGE_OWN_S3_CREDENTIALS E_w_VIEW_ALL_BUCKETS E_w_MANAGE_ALL_BUCKETS E_w_MANAGE_ENDPOINTS E_w_USE_S3_CONSOLE (by simp [Gr, ne_ROOT_ACCESS_MANAGE_OWN_S3_CREDENTIALS, ne_ROOT_ACCESS_VIEW_ALL_BUCKETS, ne_ROOT_ACCESS_MANAGE_ALL_BUCKETS, ne_ROOT_ACCESS_MANAGE_ENDPOINTS, ne_ROOT_ACCESS_USE_S3_CONSOLE, ne_MANAGE_OWN_S3_CREDENTIALS_ROOT_ACCESS, ne_MANAGE_OWN_S3_CREDENTIALS_VIEW_ALL_BUCKETS, ne_MANAGE_OWN_S3_CREDENTIALS_MANAGE_ALL_BUCKETS, ne_MANAGE_OWN_S3_CREDENTIALS_MANAGE_ENDPOINTS, ne_MANAGE_OWN_S3_CREDENTIALS_USE_S3_CONSOLE, ne_VIEW_ALL_BUCKETS_ROOT_ACCESS, ne_VIEW_ALL_BUCKETS_MANAGE_OWN_S3_CREDENTIALS, ne_VIEW_ALL_BUCKETS_MANAGE_ALL_BUCKETS, ne_VIEW_ALL_BUCKETS_MANAGE_ENDPOINTS, ne_VIEW_ALL_BUCKETS_USE_S3_CONSOLE, ne_MANAGE_ALL_BUCKETS_ROOT_ACCESS, ne_MANAGE_ALL_BUCKETS_MANAGE_OWN_S3_CREDENTIALS, ne_MANAGE_ALL_BUCKETS_VIEW_ALL_BUCKETS, ne_MANAGE_ALL_BUCKETS_MANAGE_ENDPOINTS, ne_MANAGE_ALL_BUCKETS_USE_S3_CONSOLE, ne_MANAGE_ENDPOINTS_ROOT_ACCESS, ne_MANAGE_ENDPOINTS_MANAGE_OWN_S3_CREDENTIALS, ne_MANAGE_ENDPOINTS_VIEW_ALL_BUCKETS, ne_MANAGE_ENDPOINTS_MANAGE_ALL_BUCKETS, ne_MANAGE_ENDPOINTS_USE_S3_CONSOLE, ne_USE_S3_CONSOLE_ROOT_ACCESS, ne_USE_S3_CONSOLE_MANAGE_OWN_S3_CREDENTIALS, ne_USE_S3_CONSOLE_VIEW_ALL_BUCKETS, ne_USE_S3_CONSOLE_MANAGE_ALL_BUCKETS, ne_USE_S3_CONSOLE_MANAGE_ENDPOINTS]) (by rw [hx]; decide) (by rw [hx, own_n4]; rfl) (by rw [hx]; decide) (by rw [hx, own_n4]; rfl) (by rw [hy]; decide) (by rw [hy, own_n1]; rfl) E_w_MANAGE_ENDPOINTS (by rw [hy]; decide +kernel)
  · exact rm0_0 l Z a0 hw ws p1 p2 w_ROOT_ACCESS w_MANAGE_OWN_S3_CREDENTIALS w_VIEW_ALL_BUCKETS w_MANAGE_ALL_BUCKETS w_MANAGE_ENDPOINTS w_USE_S3_CONSOLE ((16 : Int32)) w_MANAGE_ENDPOINTS w_VIEW_ALL_BUCKETS h0 n0 Z0 S_ROOT_ACCESS S_MANAGE_OWN_S3_CREDENTIALS S_VIEW_ALL_BUCKETS S_MANAGE_ALL_BUCKETS S_MANAGE_ENDPOINTS S_USE_S3_CONSOLE E_w_ROOT_ACCESS E_w_MANAGE_OWN_S3_CREDENTIALS E_w_VIEW_ALL_BUCKETS E_w_MANAGE_ALL_BUCKETS E_w_MANAGE_ENDPOINTS E_w_USE_S3_CONSOLE (by simp [Gr, ne_ROOT_ACCESS_MANAGE_OWN_S3_CREDENTIALS, ne_ROOT_ACCESS_VIEW_ALL_BUCKETS, ne_ROOT_ACCESS_MANAGE_ALL_BUCKETS, ne_ROOT_ACCESS_MANAGE_ENDPOINTS, ne_ROOT_ACCESS_USE_S3_CONSOLE, ne_MANAGE_OWN_S3_CREDENTIALS_ROOT_ACCESS, ne_MANAGE_OWN_S3_CREDENTIALS_VIEW_ALL_BUCKETS, ne_MANAGE_OWN_S3_CREDENTIALS_MANAGE_ALL_BUCKETS, ne_MANAGE_OWN_S3_CREDENTIALS_MANAGE_ENDPOINTS, ne_MANAGE_OWN_S3_CREDENTIALS_USE_S3_CONSOLE, ne_VIEW_ALL_BUCKETS_ROOT_ACCESS, ne_VIEW_ALL_BUCKETS_MANAGE_OWN_S3_CREDENTIALS, ne_VIEW_ALL_BUCKETS_MANAGE_ALL_BUCKETS, ne_VIEW_ALL_BUCKETS_MANAGE_ENDPOINTS, ne_VIEW_ALL_BUCKETS_USE_S3_CONSOLE, ne_MANAGE_ALL_BUCKETS_ROOT_ACCESS, ne_MANAGE_ALL_BUCKETS_MANAGE_OWN_S3_CREDENTIALS, ne_MANAGE_ALL_BUCKETS_VIEW_ALL_BUCKETS, ne_MANAGE_ALL_BUCKETS_MANAGE_ENDPOINTS, ne_MANAGE_ALL_BUCKETS_USE_S3_CONSOLE, ne_MANAGE_ENDPOINTS_ROOT_ACCESS, ne_MANAGE_ENDPOINTS_MANAGE_OWN_S3_CREDENTIALS, ne_MANAGE_ENDPOINTS_VIEW_ALL_BUCKETS, ne_MANAGE_ENDPOINTS_MANAGE_ALL_BUCKETS, ne_MANAGE_ENDPOINTS_USE_S3_CONSOLE, ne_USE_S3_CONSOLE_ROOT_ACCESS, ne_USE_S3_CONSOLE_MANAGE_OWN_S3_CREDENTIALS, ne_USE_S3_CONSOLE_VIEW_ALL_BUCKETS, ne_USE_S3_CONSOLE_MANAGE_ALL_BUCKETS, ne_USE_S3_CONSOLE_MANAGE_ENDPOINTS]) (by rw [hx]; decide) (by rw [hx, own_n4]; rfl) (by rw [hx]; decide) (by rw [hx, own_n4]; rfl) (by rw [hy]; decide) (by rw [hy, own_n2]; rfl) E_w_MANAGE_ENDPOINTS (by rw [hy]; decide +kernel)
  · exact rm0_0 l Z a0 hw ws p1 p2 w_ROOT_ACCESS w_MANAGE_OWN_S3_CREDENTIALS w_VIEW_ALL_BUCKETS w_MANAGE_ALL_BUCKETS w_MANAGE_ENDPOINTS w_USE_S3_CONSOLE ((16 : Int32)) w_MANAGE_ENDPOINTS w_MANAGE_ALL_BUCKETS h0 n0 Z0 S_ROOT_ACCESS S_MANAGE_OWN_S3_CREDENTIALS S_VIEW_ALL_BUCKETS S_MANAGE_ALL_BUCKETS S_MANAGE_ENDPOINTS S_USE_S3_CONSOLE E_w_ROOT_ACCESS E_w_MANAGE_OWN_S3_CREDENTIALS E_w_VIEW_ALL_BUCKETS E_w_MANAGE_ALL_BUCKETS E_w_MANAGE_ENDPOINTS E_w_USE_S3_CONSOLE (by simp [Gr, ne_ROOT_ACCESS_MANAGE_OWN_S3_CREDENTIALS, ne_ROOT_ACCESS_VIEW_ALL_BUCKETS, ne_ROOT_ACCESS_MANAGE_ALL_BUCKETS, ne_ROOT_ACCESS_MANAGE_ENDPOINTS, ne_ROOT_ACCESS_USE_S3_CONSOLE, ne_MANAGE_OWN_S3_CREDENTIALS_ROOT_ACCESS, ne_MANAGE_OWN_S3_CREDENTIALS_VIEW_ALL_BUCKETS, ne_MANAGE_OWN_S3_CREDENTIALS_MANAGE_ALL_BUCKETS, ne_MANAGE_OWN_S3_CREDENTIALS_MANAGE_ENDPOINTS, ne_MANAGE_OWN_S3_CREDENTIALS_USE_S3_CONSOLE, ne_VIEW_ALL_BUCKETS_ROOT_ACCESS, ne_VIEW_ALL_BUCKETS_MANAGE_OWN_S3_CREDENTIALS, ne_VIEW_ALL_BUCKETS_MANAGE_ALL_BUCKETS, ne_VIEW_ALL_BUCKETS_MANAGE_ENDPOINTS, ne_VIEW_ALL_BUCKETS_USE_S3_CONSOLE, ne_MANAGE_ALL_BUCKETS_ROOT_ACCESS, ne_MANAGE_ALL_BUCKETS_MANAGE_OWN_S3_CREDENTIALS, ne_MANAGE_ALL_BUCKETS_VIEW_ALL_BUCKETS, ne_MANAGE_ALL_BUCKETS_MANAGE_ENDPOINTS, ne_MANAGE_ALL_BUCKETS_USE_S3_CONSOLE, ne_MANAGE_ENDPOINTS_ROOT_ACCESS, ne_MANAGE_ENDPOINTS_MANAGE_OWN_S3_CREDENTIALS, ne_MANAGE_ENDPOINTS_VIEW_ALL_BUCKETS, ne_MANAGE_ENDPOINTS_MANAGE_ALL_BUCKETS, ne_MANAGE_ENDPOINTS_USE_S3_CONSOLE, ne_USE_S3_CONSOLE_ROOT_ACCESS, ne_USE_S3_CONSOLE_MANAGE_OWN_S3_CREDENTIALS, ne_USE_S3_CONSOLE_VIEW_ALL_BUCKETS, ne_USE_S3_CONSOLE_MANAGE_ALL_BUCKETS, ne_USE_S3_CONSOLE_MANAGE_ENDPOINTS]) (by rw [hx]; decide) (by rw [hx, own_n4]; rfl) (by rw [hx]; decide) (by rw [hx, own_n4]; rfl) (by rw [hy]; decide) (by rw [hy, own_n3]; rfl) E_w_MANAGE_ENDPOINTS (by rw [hy]; decide +kernel)
  · exact rm0_1 l Z a0 hw ws p1 p2 w_ROOT_ACCESS w_MANAGE_OWN_S3_CREDENTIALS w_VIEW_ALL_BUCKETS w_MANAGE_ALL_BUCKETS w_MANAGE_ENDPOINTS w_USE_S3_CONSOLE ((16 : Int32)) w_MANAGE_ENDPOINTS w_MANAGE_ENDPOINTS h0 n0 Z0 S_ROOT_ACCESS S_MANAGE_OWN_S3_CREDENTIALS S_VIEW_ALL_BUCKETS S_MANAGE_ALL_BUCKETS S_MANAGE_ENDPOINTS S_USE_S3_CONSOLE E_w_ROOT_ACCESS E_w_MANAGE_OWN_S3_CREDENTIALS E_w_VIEW_ALL_BUCKETS E_w_MANAGE_ALL_BUCKETS E_w_MANAGE_ENDPOINTS E_w_USE_S3_CONSOLE (Or.inl ⟨rfl, rfl⟩) (by rw [hx]; decide) (by rw [hx, own_n4]; rfl) (by rw [hx]; decide) (by rw [hx, own_n4]; rfl) (by rw [hy]; decide) (by rw [hy, own_n4]; rfl) E_w_MANAGE_ENDPOINTS (by rw [hy]; decide +kernel)
  · exact rm0_0 l Z a0 hw ws p1 p2 w_ROOT_ACCESS w_MANAGE_OWN_S3_CREDENTIALS w_VIEW_ALL_BUCKETS w_MANAGE_ALL_BUCKETS w_MANAGE_ENDPOINTS w_USE_S3_CONSOLE ((16 : Int32)) w_MANAGE_ENDPOINTS w_USE_S3_CONSOLE h0 n0 Z0 S_ROOT_ACCESS S_MANAGE_OWN_S3_CREDENTIALS S_VIEW_ALL_BUCKETS S_MANAGE_ALL_BUCKETS S_MANAGE_ENDPOINTS S_USE_S3_CONSOLE E_w_ROOT_ACCESS E_w_MANAGE_OWN_S3_CREDENTIALS E_w_VIEW_ALL_BUCKETS E_w_MANAGE_ALL_BUCKETS E_w_MANAGE_ENDPOINTS E_w_USE_S3_CONSOLE (by simp [Gr, ne_ROOT_ACCESS_MANAGE_OWN_S3_CREDENTIALS, ne_ROOT_ACCESS_VIEW_ALL_BUCKETS, ne_ROOT_ACCESS_MANAGE_ALL_BUCKETS, ne_ROOT_ACCESS_MANAGE_ENDPOINTS, ne_ROOT_ACCESS_USE_S3_CONSOLE, ne_MANAGE_OWN_S3_CREDENTIALS_ROOT_ACCESS, ne_MANAGE_OWN_S3_CREDENTIALS_VIEW_ALL_BUCKETS, ne_MANAGE_OWN_S3_CREDENTIALS_MANAGE_ALL_BUCKETS, ne_MANAGE_OWN_S3_CREDENTIALS_MANAGE_ENDPOINTS, ne_MANAGE_OWN_S3_CREDENTIALS_USE_S3_CONSOLE, ne_VIEW_ALL_BUCKETS_ROOT_ACCESS, ne_VIEW_ALL_BUCKETS_MANAGE_OWN_S3_CREDENTIALS, ne_VIEW_ALL_BUCKETS_MANAGE_ALL_BUCKETS, ne_VIEW_ALL_BUCKETS_MANAGE_ENDPOINTS, ne_VIEW_ALL_BUCKETS_USE_S3_CONSOLE, ne_MANAGE_ALL_BUCKETS_ROOT_ACCESS, ne_MANAGE_ALL_BUCKETS_MANAGE_OWN_S3_CREDENTIALS, ne_MANAGE_ALL_BUCKETS_VIEW_ALL_BUCKETS, ne_MANAGE_ALL_BUCKETS_MANAGE_ENDPOINTS, ne_MANAGE_ALL_BUCKETS_USE_S3_CONSOLE, ne_MANAGE_ENDPOINTS_ROOT_ACCESS, ne_MANAGE_ENDPOINTS_MANAGE_OWN_S3_CREDENTIALS, ne_MANAGE_ENDPOINTS_VIEW_ALL_BUCKETS, ne_MANAGE_ENDPOINTS_MANAGE_ALL_BUCKETS, ne_MANAGE_ENDPOINTS_USE_S3_CONSOLE, ne_USE_S3_CONSOLE_ROOT_ACCESS, ne_USE_S3_CONSOLE_MANAGE_OWN_S3_CREDENTIALS, ne_USE_S3_CONSOLE_VIEW_ALL_BUCKETS, ne_USE_S3_CONSOLE_MANAGE_ALL_BUCKETS, ne_USE_S3_CONSOLE_MANAGE_ENDPOINTS]) (by rw [hx]; decide) (by rw [hx, own_n4]; rfl) (by rw [hx]; decide) (by rw [hx, own_n4]; rfl) (by rw [hy]; decide) (by rw [hy, own_n5]; rfl) E_w_MANAGE_ENDPOINTS (by rw [hy]; decide +kernel)
  · exact rm0_0 l Z a0 hw ws p1 p2 w_ROOT_ACCESS w_MANAGE_OWN_S3_CREDENTIALS w_VIEW_ALL_BUCKETS w_MANAGE_ALL_BUCKETS w_MANAGE_ENDPOINTS w_USE_S3_CONSOLE ((32 : Int32)) w_USE_S3_CONSOLE w_ROOT_ACCESS h0 n0 Z0 S_ROOT_ACCESS S_MANAGE_OWN_S3_CREDENTIALS S_VIEW_ALL_BUCKETS S_MANAGE_ALL_BUCKETS S_MANAGE_ENDPOINTS S_USE_S3_CONSOLE E_w_ROOT_ACCESS E_w_MANAGE_OWN_S3_CREDENTIALS E_w_VIEW_ALL_BUCKETS E_w_MANAGE_ALL_BUCKETS E_w_MANAGE_ENDPOINTS E_w_USE_S3_CONSOLE (by simp [Gr, ne_ROOT_ACCESS_MANAGE_OWN_S3_CREDENTIALS, ne_ROOT_ACCESS_VIEW_ALL_BUCKETS, ne_ROOT_ACCESS_MANAGE_ALL_BUCKETS, ne_ROOT_ACCESS_MANAGE_ENDPOINTS, ne_ROOT_ACCESS_USE_S3_CONSOLE, ne_MANAGE_OWN_S3_CREDENTIALS_ROOT_ACCESS, ne_MANAGE_OWN_S3_CREDENTIALS_VIEW_ALL_BUCKETS, ne_MANAGE_OWN_S3_CREDENTIALS_MANAGE_ALL_BUCKETS, ne_MANAGE_OWN_S3_CREDENTIALS_MANAGE_ENDPOINTS, ne_MANAGE_OWN_S3_CREDENTIALS_USE_S3_CONSOLE, ne_VIEW_ALL_BUCKETS_ROOT_ACCESS, ne_VIEW_ALL_BUCKETS_MANAGE_OWN_S3_CREDENTIALS, ne_VIEW_ALL_BUCKETS_MANAGE_ALL_BUCKETS, ne_VIEW_ALL_BUCKETS_MANAGE_ENDPOINTS, ne_VIEW_ALL_BUCKETS_USE_S3_CONSOLE, ne_MANAGE_ALL_BUCKETS_ROOT_ACCESS, ne_MANAGE_ALL_BUCKETS_MANAGE_OWN_S3_CREDENTIALS, ne_MANAGE_ALL_BUCKETS_VIEW_ALL_BUCKETS, ne_MANAGE_ALL_BUCKETS_MANAGE_ENDPOINTS, ne_MANAGE_ALL_BUCKETS_USE_S3_CONSOLE, ne_MANAGE_ENDPOINTS_ROOT_ACCESS, ne_MANAGE_ENDPOINTS_MANAGE_OWN_S3_CREDENTIALS, ne_MANAGE_ENDPOINTS_VIEW_ALL_BUCKETS, ne_MANAGE_ENDPOINTS_MANAGE_ALL_BUCKETS, ne_MANAGE_ENDPOINTS_USE_S3_CONSOLE, ne_USE_S3_CONSOLE_ROOT_ACCESS, ne_USE_S3_CONSOLE_MANAGE_OWN_S3_CREDENTIALS, ne_USE_S3_CONSOLE_VIEW_ALL_BUCKETS, ne_USE_S3_CONSOLE_MANAGE_ALL_BUCKETS, ne_USE_S3_CONSOLE_MANAGE_ENDPOINTS]) (by rw [hx]; decide) (by rw [hx, own_n5]; rfl) (by rw [hx]; decide) (by rw [hx, own_n5]; rfl) (by rw [hy]; decide) (by rw [hy, own_n0]; rfl) E_w_USE_S3_CONSOLE (by rw [hy]; decide +kernel)
  · exact rm0_0 l Z a0 hw ws p1 p2 w_ROOT_ACCESS w_MANAGE_OWN_S3_CREDENTIALS w_VIEW_ALL_BUCKETS w_MANAGE_ALL_BUCKETS w_MANAGE_ENDPOINTS w_USE_S3_CONSOLE ((32 : Int32)) w_USE_S3_CONSOLE w_MANAGE_OWN_S3_CREDENTIALS h0 n0 Z0 S_ROOT_ACCESS S_MANAGE_OWN_S3_CREDENTIALS S_VIEW_ALL_BUCKETS S_MANAGE_ALL_BUCKETS S_MANAGE_ENDPOINTS S_USE_S3_CONSOLE E_w_ROOT_ACCESS E_w_MANAGE_OWN_S3_CREDENTIALS E_w_VIEW_ALL_BUCKETS E_w_MANAGE_ALL_BUCKETS E_w_MANAGE_ENDPOINTS E_w_USE_S3_CONSOLE (by simp [Gr, ne_ROOT_ACCESS_MANAGE_OWN_S3_CREDENTIALS, ne_ROOT_ACCESS_VIEW_ALL_BUCKETS, ne_ROOT_ACCESS_MANAGE_ALL_BUCKETS, ne_ROOT_ACCESS_MANAGE_ENDPOINTS, ne_ROOT_ACCESS_USE_S3_CONSOLE, ne_MANAGE_OWN_S3_CREDENTIALS_ROOT_ACCESS, ne_MANAGE_OWN_S3_CREDENTIALS_VIEW_ALL_BUCKETS, ne_MANAGE_OWN_S3_CREDENTIALS_MANAGE_ALL_BUCKETS, ne_MANAGE_OWN_S3_CREDENTIALS_MANAGE_ENDPOINTS, ne_MANAGE_OWN_S3_CREDENTIALS_USE_S3_CONSOLE, ne_VIEW_ALL_BUCKETS_ROOT_ACCESS, ne_VIEW_ALL_BUCKETS_MANAGE_OWN_S3_CREDENTIALS, ne_VIEW_ALL_BUCKETS_MANAGE_ALL_BUCKETS, ne_VIEW_ALL_BUCKETS_MANAGE_ENDPOINTS, ne_VIEW_ALL_BUCKETS_USE_S3_CONSOLE, ne_MANAGE_ALL_BUCKETS_ROOT_ACCESS, ne_MANAGE_ALL_BUCKETS_MANAGE_OWN_S3_CREDENTIALS, ne_MANAGE_ALL_BUCKETS_VIEW_ALL_BUCKETS, ne_MANAGE_ALL_BUCKETS_MANAGE_ENDPOINTS, ne_MANAGE_ALL_BUCKETS_USE_S3_CONSOLE, ne_MANAGE_ENDPOINTS_ROOT_ACCESS, ne_MANAGE_ENDPOINTS_MANAGE_OWN_S3_CREDENTIALS, ne_MANAGE_ENDPOINTS_VIEW_ALL_BUCKETS, ne_MANAGE_ENDPOINTS_MANAGE_ALL_BUCKETS, ne_MANAGE_ENDPOINTS_USE_S3_CONSOLE, ne_USE_S3_CONSOLE_ROOT_ACCESS, ne_USE_S3_CONSOLE_MANAGE_OWN_S3_CREDENTIALS, ne_USE_S3_CONSOLE_VIEW_ALL_BUCKETS, ne_USE_S3_CONSOLE_MANAGE_ALL_BUCKETS, ne_USE_S3_CONSOLE_MANAGE_ENDPOINTS]) (by rw [hx]; decide) (by rw [hx, own_n5]; rfl) (by rw [hx]; decide) (by rw [hx, own_n5]; rfl) (by rw [hy]; decide) (by rw [hy, own_n1]; rfl) E_w_USE_S3_CONSOLE (by rw [hy]; decide +kernel)
  · exact rm0_0 l Z a0 hw ws p1 p2 w_ROOT_ACCESS w_MANAGE_OWN_S3_CREDENTIALS w_VIEW_ALL_BUCKETS w_MANAGE_ALL_BUCKETS w_MANAGE_ENDPOINTS w_USE_S3_CONSOLE ((32 : Int32)) w_USE_S3_CONSOLE w_VIEW_ALL_BUCKETS h0 n0 Z0 S_ROOT_ACCESS S_MANAGE_OWN_S3_CREDENTIALS S_VIEW_ALL_BUCKETS S_MANAGE_ALL_BUCKETS S_MANAGE_ENDPOINTS S_USE_S3_CONSOLE E_w_ROOT_ACCESS E_w_MANAGE_OWN_S3_CREDENTIALS E_w_VIEW_ALL_BUCKETS E_w_MANAGE_ALL_BUCKETS E_w_MANAGE_ENDPOINTS E_w_USE_S3_CONSOLE (by simp [Gr, ne_ROOT_ACCESS_MANAGE_OWN_S3_CREDENTIALS, ne_ROOT_ACCESS_VIEW_ALL_BUCKETS, ne_ROOT_ACCESS_MANAGE_ALL_BUCKETS, ne_ROOT_ACCESS_MANAGE_ENDPOINTS, ne_ROOT_ACCESS_USE_S3_CONSOLE, ne_MANAGE_OWN_S3_CREDENTIALS_ROOT_ACCESS, ne_MANAGE_OWN_S3_CREDENTIALS_VIEW_ALL_BUCKETS, ne_MANAGE_OWN_S3_CREDENTIALS_MANAGE_ALL_BUCKETS, ne_MANAGE_OWN_S3_CREDENTIALS_MANAGE_ENDPOINTS, ne_MANAGE_OWN_S3_CREDENTIALS_USE_S3_CONSOLE, ne_VIEW_ALL_BUCKETS_ROOT_ACCESS, ne_VIEW_ALL_BUCKETS_MANAGE_OWN_S3_CREDENTIALS, ne_VIEW_ALL_BUCKETS_MANAGE_ALL_BUCKETS, ne_VIEW_ALL_BUCKETS_MANAGE_ENDPOINTS, ne_VIEW_ALL_BUCKETS_USE_S3_CONSOLE, ne_MANAGE_ALL_BUCKETS_ROOT_ACCESS, ne_MANAGE_ALL_BUCKETS_MANAGE_OWN_S3_CREDENTIALS, ne_MANAGE_ALL_BUCKETS_VIEW_ALL_BUCKETS, ne_MANAGE_ALL_BUCKETS_MANAGE_ENDPOINTS, ne_MANAGE_ALL_BUCKETS_USE_S3_CONSOLE, ne_MANAGE_ENDPOINTS_ROOT_ACCESS, ne_MANAGE_ENDPOINTS_MANAGE_OWN_S3_CREDENTIALS, ne_MANAGE_ENDPOINTS_VIEW_ALL_BUCKETS, ne_MANAGE_ENDPOINTS_MANAGE_ALL_BUCKETS, ne_MANAGE_ENDPOINTS_USE_S3_CONSOLE, ne_USE_S3_CONSOLE_ROOT_ACCESS, ne_USE_S3_CONSOLE_MANAGE_OWN_S3_CREDENTIALS, ne_USE_S3_CONSOLE_VIEW_ALL_BUCKETS, ne_USE_S3_CONSOLE_MANAGE_ALL_BUCKETS, ne_USE_S3_CONSOLE_MANAGE_ENDPOINTS]) (by rw [hx]; decide) (by rw [hx, own_n5]; rfl) (by rw [hx]; decide) (by rw [hx, own_n5]; rfl) (by rw [hy]; decide) (by rw [hy, own_n2]; rfl) E_w_USE_S3_CONSOLE (by rw [hy]; decide +kernel)
  · exact rm0_0 l Z a0 hw ws p1 p2 w_ROOT_ACCESS w_MANAGE_OWN_S3_CREDENTIALS w_VIEW_ALL_BUCKETS w_MANAGE_ALL_BUCKETS w_MANAGE_ENDPOINTS w_USE_S3_CONSOLE ((32 : Int32)) w_USE_S3_CONSOLE w_MANAGE_ALL_BUCKETS h0 n0 Z0 S_ROOT_ACCESS S_MANAGE_OWN_S3_CREDENTIALS S_VIEW_ALL_BUCKETS S_MANAGE_ALL_BUCKETS S_MANAGE_ENDPOINTS S_USE_S3_CONSOLE E_w_ROOT_ACCESS E_w_MANAGE_OWN_S3_CREDENTIALS E_w_VIEW_ALL_BUCKETS E_w_MANAGE_ALL_BUCKETS E_w_MANAGE_ENDPOINTS E_w_USE_S3_CONSOLE (by simp [Gr, ne_ROOT_ACCESS_MANAGE_OWN_S3_CREDENTIALS, ne_ROOT_ACCESS_VIEW_ALL_BUCKETS, ne_ROOT_ACCESS_MANAGE_ALL_BUCKETS, ne_ROOT_ACCESS_MANAGE_ENDPOINTS, ne_ROOT_ACCESS_USE_S3_CONSOLE, ne_MANAGE_OWN_S3_CREDENTIALS_ROOT_ACCESS, ne_MANAGE_OWN_S3_CREDENTIALS_VIEW_ALL_BUCKETS, ne_MANAGE_OWN_S3_CREDENTIALS_MANAGE_ALL_BUCKETS, ne_MANAGE_OWN_S3_CREDENTIALS_MANAGE_ENDPOINTS, ne_MANAGE_OWN_S3_CREDENTIALS_USE_S3_CONSOLE, ne_VIEW_ALL_BUCKETS_ROOT_ACCESS, ne_VIEW_ALL_BUCKETS_MANAGE_OWN_S3_CREDENTIALS, ne_VIEW_ALL_BUCKETS_MANAGE_ALL_BUCKETS, ne_VIEW_ALL_BUCKETS_MANAGE_ENDPOINTS, ne_VIEW_ALL_BUCKETS_USE_S3_CONSOLE, ne_MANAGE_ALL_BUCKETS_ROOT_ACCESS, ne_MANAGE_ALL_BUCKETS_MANAGE_OWN_S3_CREDENTIALS, ne_MANAGE_ALL_BUCKETS_VIEW_ALL_BUCKETS, ne_MANAGE_ALL_BUCKETS_MANAGE_ENDPOINTS, ne_MANAGE_ALL_BUCKETS_USE_S3_CONSOLE, ne_MANAGE_ENDPOINTS_ROOT_ACCESS, ne_MANAGE_ENDPOINTS_MANAGE_OWN_S3_CREDENTIALS, ne_MANAGE_ENDPOINTS_VIEW_ALL_BUCKETS, ne_MANAGE_ENDPOINTS_MANAGE_ALL_BUCKETS, ne_MANAGE_ENDPOINTS_USE_S3_CONSOLE, ne_USE_S3_CONSOLE_ROOT_ACCESS, ne_USE_S3_CONSOLE_MANAGE_OWN_S3_CREDENTIALS, ne_USE_S3_CONSOLE_VIEW_ALL_BUCKETS, ne_USE_S3_CONSOLE_MANAGE_ALL_BUCKETS, ne_USE_S3_CONSOLE_MANAGE_ENDPOINTS]) (by rw [hx]; decide) (by rw [hx, own_n5]; rfl) (by rw [hx]; decide) (by rw [hx, own_n5]; rfl) (by rw [hy]; decide) (by rw [hy, own_n3]; rfl) E_w_USE_S3_CONSOLE (by rw [hy]; decide +kernel)
  · exact rm0_0 l Z a0 hw ws p1 p2 w_ROOT_ACCESS w_MANAGE_OWN_S3_CREDENTIALS w_VIEW_ALL_BUCKETS w_MANAGE_ALL_BUCKETS w_MANAGE_ENDPOINTS w_USE_S3_CONSOLE ((32 : Int32)) w_USE_S3_CONSOLE w_MANAGE_ENDPOINTS h0 n0 Z0 S_ROOT_ACCESS S_MANAGE_OWN_S3_CREDENTIALS S_VIEW_ALL_BUCKETS S_MANAGE_ALL_BUCKETS S_MANAGE_ENDPOINTS S_USE_S3_CONSOLE E_w_ROOT_ACCESS E_w_MANAGE_OWN_S3_CREDENTIALS E_w_VIEW_ALL_BUCKETS E_w_MANAGE_ALL_BUCKETS E_w_MANAGE_ENDPOINTS E_w_USE_S3_CONSOLE (by simp [Gr, ne_ROOT_ACCESS_MANAGE_OWN_S3_CREDENTIALS, ne_ROOT_ACCESS_VIEW_ALL_BUCKETS, ne_ROOT_ACCESS_MANAGE_ALL_BUCKETS, ne_ROOT_ACCESS_MANAGE_ENDPOINTS, ne_ROOT_ACCESS_USE_S3_CONSOLE, ne_MANAGE_OWN_S3_CREDENTIALS_ROOT_ACCESS, ne_MANAGE_OWN_S3_CREDENTIALS_VIEW_ALL_BUCKETS, ne_MANAGE_OWN_S3_CREDENTIALS_MANAGE_ALL_BUCKETS, ne_MANAGE_OWN_S3_CREDENTIALS_MANAGE_ENDPOINTS, ne_MANAGE_OWN_S3_CREDENTIALS_USE_S3_CONSOLE, ne_VIEW_ALL_BUCKETS_ROOT_ACCESS, ne_VIEW_ALL_BUCKETS_MANAGE_OWN_S3_CREDENTIALS, ne_VIEW_ALL_BUCKETS_MANAGE_ALL_BUCKETS, ne_VIEW_ALL_BUCKETS_MANAGE_ENDPOINTS, ne_VIEW_ALL_BUCKETS_USE_S3_CONSOLE, ne_MANAGE_ALL_BUCKETS_ROOT_ACCESS, ne_MANAGE_ALL_BUCKETS_MANAGE_OWN_S3_CREDENTIALS, ne_MANAGE_ALL_BUCKETS_VIEW_ALL_BUCKETS, ne_MANAGE_ALL_BUCKETS_MANAGE_ENDPOINTS, ne_MANAGE_ALL_BUCKETS_USE_S3_CONSOLE, ne_MANAGE_ENDPOINTS_ROOT_ACCESS, ne_MANAGE_ENDPOINTS_MANAGE_OWN_S3_CREDENTIALS, ne_MANAGE_ENDPOINTS_VIEW_ALL_BUCKETS, ne_MANAGE_ENDPOINTS_MANAGE_ALL_BUCKETS, ne_MANAGE_ENDPOINTS_USE_S3_CONSOLE, ne_USE_S3_CONSOLE_ROOT_ACCESS, ne_USE_S3_CONSOLE_MANAGE_OWN_S3_CREDENTIALS, ne_USE_S3_CONSOLE_VIEW_ALL_BUCKETS, ne_USE_S3_CONSOLE_MANAGE_ALL_BUCKETS, ne_USE_S3_CONSOLE_MANAGE_ENDPOINTS]) (by rw [hx]; decide) (by rw [hx, own_n5]; rfl) (by rw [hx]; decide) (by rw [hx, own_n5]; rfl) (by rw [hy]; decide) (by rw [hy, own_n4]; rfl) E_w_USE_S3_CONSOLE (by rw [hy]; decide +kernel)
  · exact rm0_1 l Z a0 hw ws p1 p2 w_ROOT_ACCESS w_MANAGE_OWN_S3_CREDENTIALS w_VIEW_ALL_BUCKETS w_MANAGE_ALL_BUCKETS w_MANAGE_ENDPOINTS w_USE_S3_CONSOLE ((32 : Int32)) w_USE_S3_CONSOLE w_USE_S3_CONSOLE h0 n0 Z0 S_ROOT_ACCESS S_MANAGE_OWN_S3_CREDENTIALS S_VIEW_ALL_BUCKETS S_MANAGE_ALL_BUCKETS S_MANAGE_ENDPOINTS S_USE_S3_CONSOLE E_w_ROOT_ACCESS E_w_MANAGE_OWN_S3_CREDENTIALS E_w_VIEW_ALL_BUCKETS E_w_MANAGE_ALL_BUCKETS E_w_MANAGE_ENDPOINTS E_w_USE_S3_CONSOLE (Or.inl ⟨rfl, rfl⟩) (by rw [hx]; decide) (by rw [hx, own_n5]; rfl) (by rw [hx]; decide) (by rw [hx, own_n5]; rfl) (by rw [hy]; decide) (by rw [hy, own_n5]; rfl) E_w_USE_S3_CONSOLE (by rw [hy]; decide +kernel)

set_option maxRecDepth 65536 in
set_option maxHeartbeats 40000000 in
theorem comes_1 {Post : Tables → Env → Array Value → State → Outcome → State → Prop} (hpost : ∀ tb e args s v u, (limb_1_1.after args s (.returned v) u = true ∧ limb_1_2.after args s (.returned v) u = true ∧ True) → FrameEnd s (.returned v) u (Jvm.fieldLocs frame_1_writes args s ++ Jvm.arrayLocs frame_1_arrays args s ++ Jvm.staticLocs frame_1_statics s) 16 128 → Post tb e args s (.returned v) u) :
    ArmFor flags0 classFile x code maxLocals ret World_1 tables_1 room_1 Calls_1 rest_1 Pre_1 Post := by
  intro l hfl _ _ p e ha hc hk s m args below hf hA hF happ hP
  obtain ⟨hcalls, hrest, hpre⟩ := hP
  obtain ⟨-, -, -, hnamed, -, -, -, hat⟩ := (Spec.applies_iff hf).mp happ
  obtain ⟨hg, hn⟩ := and_e (Cond.before_iff.mp (show (Jvm.Cond.and given_1 narrow_1).before args s = true from hpre))
  obtain ⟨g27, g28⟩ := and_e hg
  obtain ⟨g29, g30⟩ := and_e g28
  obtain ⟨w0, w1, rfl⟩ : ∃ w0 w1 : Value, args = #[w0, w1] := by
    have hs : args.size = 2 := by simpa [Cond.value, given_1] using g27
    obtain ⟨L⟩ := args
    match L, hs with
    | [w0, w1], _ => exact ⟨w0, w1, rfl⟩
  have hw := fun d (hd : d ∈ tables_1) => atoms_spec (ws := Jvm.Cond.code x code maxLocals ret :: tables_1) hat d (List.mem_cons_of_mem _ hd)
  have hfit : Fit s := fun {y c} hc i hi => by
    obtain ⟨ha, rfl⟩ := Array.getElem?_eq_some_iff.mp hc
    have q := List.all_eq_true.mp ((Array.all_eq_true_iff_forall_mem.mp hF) _ (Array.getElem_mem ha)) i (List.mem_range.mpr hi)
    simpa [Array.getElem?_eq_getElem hi] using q
  obtain ⟨i0, ei0⟩ := is_v g29
  obtain rfl : w0 = (.int i0) := Option.some.inj ei0
  obtain ⟨i1, ei1⟩ := is_v g30
  obtain rfl : w1 = (.int i1) := Option.some.inj ei1
  obtain ⟨n0, hn⟩ := and_e hn
  obtain ⟨n1, hn⟩ := and_e hn
  obtain ⟨n2, hn⟩ := and_e hn
  obtain ⟨n3, hn⟩ := and_e hn
  obtain ⟨n4, hn⟩ := and_e hn
  obtain ⟨n5, hn⟩ := and_e hn
  obtain ⟨n6, hn⟩ := and_e hn
  obtain ⟨n7, hn⟩ := and_e hn
  obtain ⟨n8, hn⟩ := and_e hn
  obtain ⟨n9, hn⟩ := and_e hn
  obtain ⟨n10, n11⟩ := and_e hn
  obtain ⟨w_ROOT_ACCESS, v_ROOT_ACCESS, S_ROOT_ACCESS, E_w_ROOT_ACCESS⟩ := own_sta (hw _ (List.mem_of_getElem? (i := 3) rfl)) (hw _ (List.mem_of_getElem? (i := 4) rfl)) n0
  obtain ⟨w_MANAGE_OWN_S3_CREDENTIALS, v_MANAGE_OWN_S3_CREDENTIALS, S_MANAGE_OWN_S3_CREDENTIALS, E_w_MANAGE_OWN_S3_CREDENTIALS⟩ := own_sta (hw _ (List.mem_of_getElem? (i := 3) rfl)) (hw _ (List.mem_of_getElem? (i := 7) rfl)) n1
  obtain ⟨w_VIEW_ALL_BUCKETS, v_VIEW_ALL_BUCKETS, S_VIEW_ALL_BUCKETS, E_w_VIEW_ALL_BUCKETS⟩ := own_sta (hw _ (List.mem_of_getElem? (i := 3) rfl)) (hw _ (List.mem_of_getElem? (i := 9) rfl)) n2
  obtain ⟨w_MANAGE_ALL_BUCKETS, v_MANAGE_ALL_BUCKETS, S_MANAGE_ALL_BUCKETS, E_w_MANAGE_ALL_BUCKETS⟩ := own_sta (hw _ (List.mem_of_getElem? (i := 3) rfl)) (hw _ (List.mem_of_getElem? (i := 11) rfl)) n3
  obtain ⟨w_MANAGE_ENDPOINTS, v_MANAGE_ENDPOINTS, S_MANAGE_ENDPOINTS, E_w_MANAGE_ENDPOINTS⟩ := own_sta (hw _ (List.mem_of_getElem? (i := 3) rfl)) (hw _ (List.mem_of_getElem? (i := 13) rfl)) n4
  obtain ⟨w_USE_S3_CONSOLE, v_USE_S3_CONSOLE, S_USE_S3_CONSOLE, E_w_USE_S3_CONSOLE⟩ := own_sta (hw _ (List.mem_of_getElem? (i := 3) rfl)) (hw _ (List.mem_of_getElem? (i := 15) rfl)) n5
  have f_ROOT_ACCESS := own_fld v_ROOT_ACCESS n6
  have f_MANAGE_ALL_BUCKETS := own_fld v_MANAGE_ALL_BUCKETS n7
  have f_VIEW_ALL_BUCKETS := own_fld v_VIEW_ALL_BUCKETS n8
  have f_MANAGE_OWN_S3_CREDENTIALS := own_fld v_MANAGE_OWN_S3_CREDENTIALS n9
  have f_USE_S3_CONSOLE := own_fld v_USE_S3_CONSOLE n10
  have f_MANAGE_ENDPOINTS := own_fld v_MANAGE_ENDPOINTS n11
  have ne_ROOT_ACCESS_MANAGE_OWN_S3_CREDENTIALS : ¬ (w_ROOT_ACCESS = w_MANAGE_OWN_S3_CREDENTIALS) := Fld.ne f_ROOT_ACCESS f_MANAGE_OWN_S3_CREDENTIALS (by decide)
  have ne_ROOT_ACCESS_VIEW_ALL_BUCKETS : ¬ (w_ROOT_ACCESS = w_VIEW_ALL_BUCKETS) := Fld.ne f_ROOT_ACCESS f_VIEW_ALL_BUCKETS (by decide)
  have ne_ROOT_ACCESS_MANAGE_ALL_BUCKETS : ¬ (w_ROOT_ACCESS = w_MANAGE_ALL_BUCKETS) := Fld.ne f_ROOT_ACCESS f_MANAGE_ALL_BUCKETS (by decide)
  have ne_ROOT_ACCESS_MANAGE_ENDPOINTS : ¬ (w_ROOT_ACCESS = w_MANAGE_ENDPOINTS) := Fld.ne f_ROOT_ACCESS f_MANAGE_ENDPOINTS (by decide)
  have ne_ROOT_ACCESS_USE_S3_CONSOLE : ¬ (w_ROOT_ACCESS = w_USE_S3_CONSOLE) := Fld.ne f_ROOT_ACCESS f_USE_S3_CONSOLE (by decide)
  have ne_MANAGE_OWN_S3_CREDENTIALS_ROOT_ACCESS : ¬ (w_MANAGE_OWN_S3_CREDENTIALS = w_ROOT_ACCESS) := Fld.ne f_MANAGE_OWN_S3_CREDENTIALS f_ROOT_ACCESS (by decide)
  have ne_MANAGE_OWN_S3_CREDENTIALS_VIEW_ALL_BUCKETS : ¬ (w_MANAGE_OWN_S3_CREDENTIALS = w_VIEW_ALL_BUCKETS) := Fld.ne f_MANAGE_OWN_S3_CREDENTIALS f_VIEW_ALL_BUCKETS (by decide)
  have ne_MANAGE_OWN_S3_CREDENTIALS_MANAGE_ALL_BUCKETS : ¬ (w_MANAGE_OWN_S3_CREDENTIALS = w_MANAGE_ALL_BUCKETS) := Fld.ne f_MANAGE_OWN_S3_CREDENTIALS f_MANAGE_ALL_BUCKETS (by decide)
  have ne_MANAGE_OWN_S3_CREDENTIALS_MANAGE_ENDPOINTS : ¬ (w_MANAGE_OWN_S3_CREDENTIALS = w_MANAGE_ENDPOINTS) := Fld.ne f_MANAGE_OWN_S3_CREDENTIALS f_MANAGE_ENDPOINTS (by decide)
  have ne_MANAGE_OWN_S3_CREDENTIALS_USE_S3_CONSOLE : ¬ (w_MANAGE_OWN_S3_CREDENTIALS = w_USE_S3_CONSOLE) := Fld.ne f_MANAGE_OWN_S3_CREDENTIALS f_USE_S3_CONSOLE (by decide)
  have ne_VIEW_ALL_BUCKETS_ROOT_ACCESS : ¬ (w_VIEW_ALL_BUCKETS = w_ROOT_ACCESS) := Fld.ne f_VIEW_ALL_BUCKETS f_ROOT_ACCESS (by decide)
  have ne_VIEW_ALL_BUCKETS_MANAGE_OWN_S3_CREDENTIALS : ¬ (w_VIEW_ALL_BUCKETS = w_MANAGE_OWN_S3_CREDENTIALS) := Fld.ne f_VIEW_ALL_BUCKETS f_MANAGE_OWN_S3_CREDENTIALS (by decide)
  have ne_VIEW_ALL_BUCKETS_MANAGE_ALL_BUCKETS : ¬ (w_VIEW_ALL_BUCKETS = w_MANAGE_ALL_BUCKETS) := Fld.ne f_VIEW_ALL_BUCKETS f_MANAGE_ALL_BUCKETS (by decide)
  have ne_VIEW_ALL_BUCKETS_MANAGE_ENDPOINTS : ¬ (w_VIEW_ALL_BUCKETS = w_MANAGE_ENDPOINTS) := Fld.ne f_VIEW_ALL_BUCKETS f_MANAGE_ENDPOINTS (by decide)
  have ne_VIEW_ALL_BUCKETS_USE_S3_CONSOLE : ¬ (w_VIEW_ALL_BUCKETS = w_USE_S3_CONSOLE) := Fld.ne f_VIEW_ALL_BUCKETS f_USE_S3_CONSOLE (by decide)
  have ne_MANAGE_ALL_BUCKETS_ROOT_ACCESS : ¬ (w_MANAGE_ALL_BUCKETS = w_ROOT_ACCESS) := Fld.ne f_MANAGE_ALL_BUCKETS f_ROOT_ACCESS (by decide)
  have ne_MANAGE_ALL_BUCKETS_MANAGE_OWN_S3_CREDENTIALS : ¬ (w_MANAGE_ALL_BUCKETS = w_MANAGE_OWN_S3_CREDENTIALS) := Fld.ne f_MANAGE_ALL_BUCKETS f_MANAGE_OWN_S3_CREDENTIALS (by decide)
  have ne_MANAGE_ALL_BUCKETS_VIEW_ALL_BUCKETS : ¬ (w_MANAGE_ALL_BUCKETS = w_VIEW_ALL_BUCKETS) := Fld.ne f_MANAGE_ALL_BUCKETS f_VIEW_ALL_BUCKETS (by decide)
  have ne_MANAGE_ALL_BUCKETS_MANAGE_ENDPOINTS : ¬ (w_MANAGE_ALL_BUCKETS = w_MANAGE_ENDPOINTS) := Fld.ne f_MANAGE_ALL_BUCKETS f_MANAGE_ENDPOINTS (by decide)
  have ne_MANAGE_ALL_BUCKETS_USE_S3_CONSOLE : ¬ (w_MANAGE_ALL_BUCKETS = w_USE_S3_CONSOLE) := Fld.ne f_MANAGE_ALL_BUCKETS f_USE_S3_CONSOLE (by decide)
  have ne_MANAGE_ENDPOINTS_ROOT_ACCESS : ¬ (w_MANAGE_ENDPOINTS = w_ROOT_ACCESS) := Fld.ne f_MANAGE_ENDPOINTS f_ROOT_ACCESS (by decide)
  have ne_MANAGE_ENDPOINTS_MANAGE_OWN_S3_CREDENTIALS : ¬ (w_MANAGE_ENDPOINTS = w_MANAGE_OWN_S3_CREDENTIALS) := Fld.ne f_MANAGE_ENDPOINTS f_MANAGE_OWN_S3_CREDENTIALS (by decide)
  have ne_MANAGE_ENDPOINTS_VIEW_ALL_BUCKETS : ¬ (w_MANAGE_ENDPOINTS = w_VIEW_ALL_BUCKETS) := Fld.ne f_MANAGE_ENDPOINTS f_VIEW_ALL_BUCKETS (by decide)
  have ne_MANAGE_ENDPOINTS_MANAGE_ALL_BUCKETS : ¬ (w_MANAGE_ENDPOINTS = w_MANAGE_ALL_BUCKETS) := Fld.ne f_MANAGE_ENDPOINTS f_MANAGE_ALL_BUCKETS (by decide)
  have ne_MANAGE_ENDPOINTS_USE_S3_CONSOLE : ¬ (w_MANAGE_ENDPOINTS = w_USE_S3_CONSOLE) := Fld.ne f_MANAGE_ENDPOINTS f_USE_S3_CONSOLE (by decide)
  have ne_USE_S3_CONSOLE_ROOT_ACCESS : ¬ (w_USE_S3_CONSOLE = w_ROOT_ACCESS) := Fld.ne f_USE_S3_CONSOLE f_ROOT_ACCESS (by decide)
  have ne_USE_S3_CONSOLE_MANAGE_OWN_S3_CREDENTIALS : ¬ (w_USE_S3_CONSOLE = w_MANAGE_OWN_S3_CREDENTIALS) := Fld.ne f_USE_S3_CONSOLE f_MANAGE_OWN_S3_CREDENTIALS (by decide)
  have ne_USE_S3_CONSOLE_VIEW_ALL_BUCKETS : ¬ (w_USE_S3_CONSOLE = w_VIEW_ALL_BUCKETS) := Fld.ne f_USE_S3_CONSOLE f_VIEW_ALL_BUCKETS (by decide)
  have ne_USE_S3_CONSOLE_MANAGE_ALL_BUCKETS : ¬ (w_USE_S3_CONSOLE = w_MANAGE_ALL_BUCKETS) := Fld.ne f_USE_S3_CONSOLE f_MANAGE_ALL_BUCKETS (by decide)
  have ne_USE_S3_CONSOLE_MANAGE_ENDPOINTS : ¬ (w_USE_S3_CONSOLE = w_MANAGE_ENDPOINTS) := Fld.ne f_USE_S3_CONSOLE f_MANAGE_ENDPOINTS (by decide)
  obtain ⟨n, o, h1, h2, h3, _, L, rfl, ⟨rfl, N⟩, hq⟩ := rm0 l s _ hw tables_1 i0 i1 w_ROOT_ACCESS w_MANAGE_OWN_S3_CREDENTIALS w_VIEW_ALL_BUCKETS w_MANAGE_ALL_BUCKETS w_MANAGE_ENDPOINTS w_USE_S3_CONSOLE s.heap s.heap.size (Nat.le_refl _) S_ROOT_ACCESS S_MANAGE_OWN_S3_CREDENTIALS S_VIEW_ALL_BUCKETS S_MANAGE_ALL_BUCKETS S_MANAGE_ENDPOINTS S_USE_S3_CONSOLE E_w_ROOT_ACCESS E_w_MANAGE_OWN_S3_CREDENTIALS E_w_VIEW_ALL_BUCKETS E_w_MANAGE_ALL_BUCKETS E_w_MANAGE_ENDPOINTS E_w_USE_S3_CONSOLE ne_ROOT_ACCESS_MANAGE_OWN_S3_CREDENTIALS ne_ROOT_ACCESS_VIEW_ALL_BUCKETS ne_ROOT_ACCESS_MANAGE_ALL_BUCKETS ne_ROOT_ACCESS_MANAGE_ENDPOINTS ne_ROOT_ACCESS_USE_S3_CONSOLE ne_MANAGE_OWN_S3_CREDENTIALS_ROOT_ACCESS ne_MANAGE_OWN_S3_CREDENTIALS_VIEW_ALL_BUCKETS ne_MANAGE_OWN_S3_CREDENTIALS_MANAGE_ALL_BUCKETS ne_MANAGE_OWN_S3_CREDENTIALS_MANAGE_ENDPOINTS ne_MANAGE_OWN_S3_CREDENTIALS_USE_S3_CONSOLE ne_VIEW_ALL_BUCKETS_ROOT_ACCESS ne_VIEW_ALL_BUCKETS_MANAGE_OWN_S3_CREDENTIALS ne_VIEW_ALL_BUCKETS_MANAGE_ALL_BUCKETS ne_VIEW_ALL_BUCKETS_MANAGE_ENDPOINTS ne_VIEW_ALL_BUCKETS_USE_S3_CONSOLE ne_MANAGE_ALL_BUCKETS_ROOT_ACCESS ne_MANAGE_ALL_BUCKETS_MANAGE_OWN_S3_CREDENTIALS ne_MANAGE_ALL_BUCKETS_VIEW_ALL_BUCKETS ne_MANAGE_ALL_BUCKETS_MANAGE_ENDPOINTS ne_MANAGE_ALL_BUCKETS_USE_S3_CONSOLE ne_MANAGE_ENDPOINTS_ROOT_ACCESS ne_MANAGE_ENDPOINTS_MANAGE_OWN_S3_CREDENTIALS ne_MANAGE_ENDPOINTS_VIEW_ALL_BUCKETS ne_MANAGE_ENDPOINTS_MANAGE_ALL_BUCKETS ne_MANAGE_ENDPOINTS_USE_S3_CONSOLE ne_USE_S3_CONSOLE_ROOT_ACCESS ne_USE_S3_CONSOLE_MANAGE_OWN_S3_CREDENTIALS ne_USE_S3_CONSOLE_VIEW_ALL_BUCKETS ne_USE_S3_CONSOLE_MANAGE_ALL_BUCKETS ne_USE_S3_CONSOLE_MANAGE_ENDPOINTS p e ha hc hk s m _ below hf ((Spec.applies_iff_loose hf).mp happ).1 ⟨rfl, State.Warmed39.refl s, rfl⟩ trivial
  refine ⟨n, _, h1, h2, h3, hpost _ _ _ _ _ _ ⟨Cond.after_iff.mpr rfl, Cond.after_iff.mpr (eq_i res_at (Term.int_eval (1)) rfl), trivial⟩ ⟨hq.1, hq.2.1, (hq.2.2.sift fun y hy => Or.inr (N y hy)).mono (by decide) (by decide)⟩⟩
theorem main_1_1 : Claimed_1_1 := comes_1 fun _ _ _ _ _ _ h hF => ⟨h.1, hF⟩
theorem main_1_2 : Claimed_1_2 := comes_1 fun _ _ _ _ _ _ h hF => ⟨h.2.1, hF⟩

end Jvm.Pilot.@@N@@
namespace Jvm.Pilot.@@N@@
open Jvm Jvm.ClassFile Sem Op Lib Jvm.Free Jvm.Stand Jvm.Pilot.@@N@@.Jvm.D
/-! MADE BY PROGRAM (witnessworld.py) out of the Statement's table words and the real class files: 13 classes; the members and pool entries that the words name. The judged class is class 1, her method 1. -/
namespace start1
open Jvm.ClassFile
def u (s : String) : CpInfo := .utf8 (stringToUtf16 s)
/-- a pool by its gaps: so many unusable entries, then the entry; so many at the end -/
def gap : Nat → List CpInfo → List CpInfo
  | 0, r => r
  | n + 1, r => .unusable :: gap n r
def poolList (es : List (Nat × CpInfo)) (last : Nat) : List CpInfo := es.foldr (fun e r => gap e.1 (e.2 :: r)) (gap last [])
def pool (es : List (Nat × CpInfo)) (last : Nat) : Array CpInfo := ⟨poolList es last⟩
def fileOf (pool : Array CpInfo) (this : Nat) (attrs : Array Attribute := #[]) (ms : Array MethodInfo := #[]) (fl : Nat := 33) (sup : Nat := 0) (ifs : Array Nat := #[]) (fds : Array FieldInfo := #[]) : ClassFile where
  minorVersion := 0
  majorVersion := 65
  constantPool := pool
  accessFlags := fl
  thisClass := this
  superClass := sup
  interfaces := ifs
  fields := fds
  methods := ms
  attributes := attrs
def plain (name : String) (sup : Option ClassId) : Class where
  name := name
  kind := .ordinary
  loader := none
  accessFlags := 33
  super := sup
  interfaces := #[]
  cf := none
  fields := #[]
  methods := #[]
  instanceTypes := #[]
  staticTypes := #[]
  resolved := #[]
  callSites := []
  init := .initialized
  statics := none
  mirror := none

def pool0 : Array CpInfo := pool [(5, u "<init>"), (0, u "()V"), (1, .class_ 10), (1, u "java/lang/Object")] 113

def k0m0 : Method := { name := "<init>", desc := "()V", sig := { parameters := [], returnType := none }, accessFlags := 1, code := none }
/-- java/lang/Object -/
def k0 : Class := { plain "java/lang/Object" none with
  accessFlags := 33
  interfaces := #[]
  cf := some (fileOf pool0 8 #[] #[{ accessFlags := 1, nameIndex := 5, descriptorIndex := 6, attributes := #[] }] 33 0 #[] #[])
  fields := #[]
  methods := #[k0m0]
  instanceTypes := #[]
  staticTypes := #[]
  resolved := Array.replicate 124 none
  statics := none }

def pool1 : Array CpInfo := pool [(2, .class_ 4), (1, u "java/lang/Object"), (0, u "<init>"), (0, u "()V"), (0, .class_ 8), (0, u "com/example/holdfast/holdfast/tenant/Permission"), (0, .fieldref 7 10), (0, .nameAndType 11 12), (0, u "ROOT_ACCESS"), (0, u "Lcom/example/holdfast/holdfast/tenant/Permission;"), (0, .fieldref 7 14), (0, .nameAndType 15 12), (0, u "MANAGE_OWN_S3_CREDENTIALS"), (0, .fieldref 7 17), (0, .nameAndType 18 12), (0, u "VIEW_ALL_BUCKETS"), (0, .fieldref 7 20), (0, .nameAndType 21 12), (0, u "MANAGE_ALL_BUCKETS"), (0, .fieldref 7 23), (0, .nameAndType 24 12), (0, u "MANAGE_ENDPOINTS"), (0, .fieldref 7 26), (0, .nameAndType 27 12), (0, u "USE_S3_CONSOLE"), (0, .integer 2147483647), (0, .methodref 7 30), (0, .nameAndType 31 32), (0, u "grants"), (0, u "(Lcom/example/holdfast/holdfast/tenant/Permission;)Z"), (0, .class_ 34), (0, u "com/example/holdfast/holdfast/tenant/PermissionGrantsPinLaw"), (2, u "law"), (0, u "(II)Z")] 7

def k1m0 : Method := { name := "<init>", desc := "()V", sig := { parameters := [], returnType := none }, accessFlags := 1, code := none }
def k1c1 : Code := { maxStack := 4, maxLocals := 7, code := code, exceptionTable := #[], attributes := #[] }
def k1m1 : Method := { name := "law", desc := "(II)Z", sig := { parameters := [.int, .int], returnType := some .boolean }, accessFlags := 9, code := some k1c1 }
/-- com/example/holdfast/holdfast/tenant/PermissionGrantsPinLaw -/
def k1 : Class := { plain "com/example/holdfast/holdfast/tenant/PermissionGrantsPinLaw" (some 0) with
  accessFlags := 49
  interfaces := #[]
  cf := some (fileOf pool1 33 #[] #[{ accessFlags := 1, nameIndex := 5, descriptorIndex := 6, attributes := #[] }, { accessFlags := 9, nameIndex := 37, descriptorIndex := 38, attributes := #[] }] 49 2 #[] #[])
  fields := #[]
  methods := #[k1m0, k1m1]
  instanceTypes := #[]
  staticTypes := #[]
  resolved := Array.replicate 46 none
  statics := none }

def pool2 : Array CpInfo := pool [(1, .class_ 2), (0, u "java/lang/constant/Constable"), (0, .class_ 4), (0, u "java/lang/Object")] 6

/-- java/lang/constant/Constable -/
def k2 : Class := { plain "java/lang/constant/Constable" (some 0) with
  accessFlags := 1537
  interfaces := #[]
  cf := some (fileOf pool2 1 #[] #[] 1537 3 #[] #[])
  fields := #[]
  methods := #[]
  instanceTypes := #[]
  staticTypes := #[]
  resolved := Array.replicate 11 none
  statics := none }

def pool3 : Array CpInfo := pool [(1, .class_ 2), (0, u "java/lang/Comparable"), (0, .class_ 4), (0, u "java/lang/Object")] 7

/-- java/lang/Comparable -/
def k3 : Class := { plain "java/lang/Comparable" (some 0) with
  accessFlags := 1537
  interfaces := #[]
  cf := some (fileOf pool3 1 #[] #[] 1537 3 #[] #[])
  fields := #[]
  methods := #[]
  instanceTypes := #[]
  staticTypes := #[]
  resolved := Array.replicate 12 none
  statics := none }

def pool4 : Array CpInfo := pool [(1, .class_ 2), (0, u "java/io/Serializable"), (0, .class_ 4), (0, u "java/lang/Object")] 2

/-- java/io/Serializable -/
def k4 : Class := { plain "java/io/Serializable" (some 0) with
  accessFlags := 1537
  interfaces := #[]
  cf := some (fileOf pool4 1 #[] #[] 1537 3 #[] #[])
  fields := #[]
  methods := #[]
  instanceTypes := #[]
  staticTypes := #[]
  resolved := Array.replicate 7 none
  statics := none }

def pool5 : Array CpInfo := pool [(2, .class_ 4), (1, u "java/lang/Enum"), (0, u "name"), (0, u "Ljava/lang/String;"), (2, u "ordinal"), (0, u "I"), (1, .class_ 14), (1, u "java/lang/Object"), (4, u "hash"), (86, .class_ 108), (1, u "java/lang/Enum$EnumDesc"), (2, .class_ 112), (0, u "java/lang/constant/Constable"), (0, .class_ 114), (0, u "java/lang/Comparable"), (0, .class_ 116), (0, u "java/io/Serializable")] 87

/-- java/lang/Enum -/
def k5 : Class := { plain "java/lang/Enum" (some 0) with
  accessFlags := 1057
  interfaces := #[2, 3, 4]
  cf := some (fileOf pool5 2 #[.nestMembers #[106]] #[] 1057 12 #[111, 113, 115] #[{ accessFlags := 18, nameIndex := 5, descriptorIndex := 6, attributes := #[] }, { accessFlags := 18, nameIndex := 9, descriptorIndex := 10, attributes := #[] }, { accessFlags := 2, nameIndex := 19, descriptorIndex := 10, attributes := #[] }])
  fields := #[{ name := "name", type := (.object "java/lang/String"), accessFlags := 18, slot := 0, constantValue := 0 }, { name := "ordinal", type := .int, accessFlags := 18, slot := 1, constantValue := 0 }, { name := "hash", type := .int, accessFlags := 2, slot := 2, constantValue := 0 }]
  methods := #[]
  instanceTypes := #[(.object "java/lang/String"), .int, .int]
  staticTypes := #[]
  resolved := Array.replicate 204 none
  statics := none }

def pool6 : Array CpInfo := pool [(1, .class_ 2), (0, u "com/example/holdfast/holdfast/tenant/Permission"), (0, .fieldref 1 4), (0, .nameAndType 5 6), (0, u "ROOT_ACCESS"), (0, u "Lcom/example/holdfast/holdfast/tenant/Permission;"), (2, u "MANAGE_OWN_S3_CREDENTIALS"), (0, .fieldref 1 11), (0, .nameAndType 12 6), (0, u "VIEW_ALL_BUCKETS"), (0, .fieldref 1 14), (0, .nameAndType 15 6), (0, u "MANAGE_ALL_BUCKETS"), (2, u "MANAGE_ENDPOINTS"), (2, u "USE_S3_CONSOLE"), (2, u "$VALUES"), (0, u "[Lcom/example/holdfast/holdfast/tenant/Permission;"), (6, .class_ 34), (1, u "java/lang/Enum"), (8, u "apiName"), (0, u "Ljava/lang/String;"), (49, u "grants"), (0, u "(Lcom/example/holdfast/holdfast/tenant/Permission;)Z")] 22

def k6c0 : Code := { maxStack := 2, maxLocals := 2, code := prog_58_method_5_code, exceptionTable := #[], attributes := #[] }
def k6m0 : Method := { name := "grants", desc := "(Lcom/example/holdfast/holdfast/tenant/Permission;)Z", sig := { parameters := [(.object "com/example/holdfast/holdfast/tenant/Permission")], returnType := some .boolean }, accessFlags := 1, code := some k6c0 }
/-- com/example/holdfast/holdfast/tenant/Permission -/
def k6 : Class := { plain "com/example/holdfast/holdfast/tenant/Permission" (some 5) with
  accessFlags := 16433
  interfaces := #[]
  cf := some (fileOf pool6 1 #[] #[{ accessFlags := 1, nameIndex := 94, descriptorIndex := 95, attributes := #[] }] 16433 32 #[] #[{ accessFlags := 16409, nameIndex := 5, descriptorIndex := 6, attributes := #[] }, { accessFlags := 16409, nameIndex := 9, descriptorIndex := 6, attributes := #[] }, { accessFlags := 16409, nameIndex := 12, descriptorIndex := 6, attributes := #[] }, { accessFlags := 16409, nameIndex := 15, descriptorIndex := 6, attributes := #[] }, { accessFlags := 16409, nameIndex := 18, descriptorIndex := 6, attributes := #[] }, { accessFlags := 16409, nameIndex := 21, descriptorIndex := 6, attributes := #[] }, { accessFlags := 18, nameIndex := 43, descriptorIndex := 44, attributes := #[] }, { accessFlags := 4122, nameIndex := 24, descriptorIndex := 25, attributes := #[] }])
  fields := #[{ name := "ROOT_ACCESS", type := (.object "com/example/holdfast/holdfast/tenant/Permission"), accessFlags := 16409, slot := 0, constantValue := 0 }, { name := "MANAGE_OWN_S3_CREDENTIALS", type := (.object "com/example/holdfast/holdfast/tenant/Permission"), accessFlags := 16409, slot := 1, constantValue := 0 }, { name := "VIEW_ALL_BUCKETS", type := (.object "com/example/holdfast/holdfast/tenant/Permission"), accessFlags := 16409, slot := 2, constantValue := 0 }, { name := "MANAGE_ALL_BUCKETS", type := (.object "com/example/holdfast/holdfast/tenant/Permission"), accessFlags := 16409, slot := 3, constantValue := 0 }, { name := "MANAGE_ENDPOINTS", type := (.object "com/example/holdfast/holdfast/tenant/Permission"), accessFlags := 16409, slot := 4, constantValue := 0 }, { name := "USE_S3_CONSOLE", type := (.object "com/example/holdfast/holdfast/tenant/Permission"), accessFlags := 16409, slot := 5, constantValue := 0 }, { name := "apiName", type := (.object "java/lang/String"), accessFlags := 18, slot := 3, constantValue := 0 }, { name := "$VALUES", type := (.array (.object "com/example/holdfast/holdfast/tenant/Permission")), accessFlags := 4122, slot := 6, constantValue := 0 }]
  methods := #[k6m0]
  instanceTypes := #[(.object "java/lang/String"), .int, .int, (.object "java/lang/String")]
  staticTypes := #[(.object "com/example/holdfast/holdfast/tenant/Permission"), (.object "com/example/holdfast/holdfast/tenant/Permission"), (.object "com/example/holdfast/holdfast/tenant/Permission"), (.object "com/example/holdfast/holdfast/tenant/Permission"), (.object "com/example/holdfast/holdfast/tenant/Permission"), (.object "com/example/holdfast/holdfast/tenant/Permission"), (.array (.object "com/example/holdfast/holdfast/tenant/Permission"))]
  resolved := Array.replicate 118 none
  statics := some 0 }

def pool7 : Array CpInfo := pool [(1, u "java/lang/Cloneable"), (0, .class_ 1), (0, u "java/lang/Object"), (0, .class_ 3)] 3

/-- java/lang/Cloneable -/
def k7 : Class := { plain "java/lang/Cloneable" (some 0) with
  accessFlags := 1537
  interfaces := #[]
  cf := some (fileOf pool7 2 #[] #[] 1537 4 #[] #[])
  fields := #[]
  methods := #[]
  instanceTypes := #[]
  staticTypes := #[]
  resolved := Array.replicate 8 none
  statics := none }

/-- the primitive byte -/
def k8 : Class := { plain "byte" none with kind := .primitive 'B', accessFlags := 0x411 }
/-- [B -/
def k9 : Class := { plain "[B" (some 0) with kind := .array 8 .byte, interfaces := #[7, 4], accessFlags := 1041 }

/-- the primitive int -/
def k10 : Class := { plain "int" none with kind := .primitive 'I', accessFlags := 0x411 }
/-- [I -/
def k11 : Class := { plain "[I" (some 0) with kind := .array 10 .int, interfaces := #[7, 4], accessFlags := 1041 }

/-- [Lcom/example/holdfast/holdfast/tenant/Permission; -/
def k12 : Class := { plain "[Lcom/example/holdfast/holdfast/tenant/Permission;" (some 0) with kind := .array 6 (.object "com/example/holdfast/holdfast/tenant/Permission"), interfaces := #[7, 4], accessFlags := 1041 }

def heap : Heap := #[{ cls := 6, slots := #[.ref 1, .ref 2, .ref 3, .ref 4, .ref 5, .ref 6, .null], vm := .statics 6 },
  { cls := 6, slots := #[.null, .int 0, .int 0, .null], vm := .none },
  { cls := 6, slots := #[.null, .int 1, .int 0, .null], vm := .none },
  { cls := 6, slots := #[.null, .int 2, .int 0, .null], vm := .none },
  { cls := 6, slots := #[.null, .int 3, .int 0, .null], vm := .none },
  { cls := 6, slots := #[.null, .int 4, .int 0, .null], vm := .none },
  { cls := 6, slots := #[.null, .int 5, .int 0, .null], vm := .none }]
def classes : Array Class := #[k0, k1, k2, k3, k4, k5, k6, k7, k8, k9, k10, k11, k12]
def interned : List (Array UInt16 × Addr) := []
def slotsUsed : Nat := 31
def theMethod : MethodId := ⟨1, 1⟩
def args0 : Array Value := #[.int 3, .int 8]
def aboutOver (below : List Frame) : State where
  vm := { classes := classes, interned := interned.toArray }
  heap := heap
  slotsUsed := slotsUsed
  threads := #[{ frames := .invoking theMethod args0 :: below }]
def below0 : List Frame := [.native { method := ⟨0, 0⟩, args := #[] }]
def about1 : State := aboutOver below0
def p0 : Program := .bare "" "" ""
def e0 : Env := launch0.env 0 0 0
theorem w_frames : about1.frames = Frame.invoking theMethod args0 :: below0 := rfl
set_option maxRecDepth 65536 in
theorem w_args : argsFit about1.vm theMethod args0 = true := by decide +kernel
set_option maxRecDepth 65536 in
theorem w_heap : heapFits about1 = true := by decide +kernel
set_option maxRecDepth 65536 in
theorem w_runnable : about1.curStatus? = some .runnable := by decide +kernel
set_option maxRecDepth 65536 in
theorem w_alone : about1.alone = true := by decide +kernel
set_option maxRecDepth 65536 in
theorem w_named : about1.methodNamed? x = some theMethod := by decide +kernel
set_option maxRecDepth 65536 in
theorem w_hears : about1.hears theMethod below0 = true := by decide +kernel
set_option maxRecDepth 65536 in
theorem w_ripe : about1.ripe theMethod args0 below0 = true := by decide +kernel
theorem w_running : about1.status = .running := rfl
set_option maxRecDepth 65536 in
theorem w_room : about1.hasRoom e0.platform room_1 = true :=
  launch0.hasRoom_least _ room_1 (by decide +kernel) (by decide +kernel) (by decide +kernel) (by decide +kernel) (by decide +kernel) (by decide +kernel)
theorem allAtoms_all (ts : List Jvm.Cond) (a : Array Jvm.Value) (st : Jvm.State) : (allAtoms ts).before a st = ts.all (fun c => c.before a st) := by
  induction ts with
  | nil => rfl
  | cons c t ih =>
    show (Jvm.Cond.and c (allAtoms t)).before a st = _
    rw [Jvm.Cond.before_and, ih, List.all_cons]
def words1 : List Jvm.Cond := Jvm.Cond.code x code maxLocals ret :: tables_1
/-- a 'code' word, met by the world's own term for the bytes: nothing is compared byte by byte -/
theorem code_word {y : MethodName} {bytes : ByteArray} {mx : Nat} {rt : Option FieldType} {a : Array Value} {s : State} {m : MethodId} {meth : Method} {c : Code} (h1 : s.methodNamed? y = some m) (h2 : s.vm.method? m = some meth) (h3 : meth.code = some c) (h4 : c.code = bytes)
    (h5 : (c.maxLocals == mx && c.exceptionTable.isEmpty && decide (c.maxStack ≤ mostOperands) && decide (meth.sig.returnType = rt) && !meth.locks && decide (parseMethodDescriptor y.desc = some meth.sig)) = true) : (Jvm.Cond.code y bytes mx rt).before a s = true := by
  simp only [Bool.and_eq_true, beq_iff_eq, Bool.not_eq_true', decide_eq_true_eq] at h5
  obtain ⟨⟨⟨⟨⟨g1, g2⟩, g3⟩, g4⟩, g5⟩, g6⟩ := h5
  simp [Cond.before, Cond.holds, Cond.value, h1, h2, h3, h4, g1, g2, g3, g4, g5, g6]
def isCode : Jvm.Cond → Bool
  | .code _ _ _ _ => true
  | _ => false
theorem all_split {L : List Jvm.Cond} {P : Jvm.Cond → Bool} (h1 : L.all (fun c => isCode c || P c) = true) (h2 : ∀ c ∈ L.filter isCode, P c = true) : L.all P = true := by
  refine List.all_eq_true.mpr fun c hc => ?_
  have h := List.all_eq_true.mp h1 c hc
  rcases Bool.eq_false_or_eq_true (isCode c) with hi | hi
  · exact h2 c (List.mem_filter.mpr ⟨hc, hi⟩)
  · simpa [hi] using h
set_option maxRecDepth 65536 in
theorem w_c0 : (Jvm.Cond.code x code maxLocals ret).before args0 about1 = true := code_word (m := ⟨1, 1⟩) (meth := k1m1) (c := k1c1) (by decide +kernel) rfl rfl rfl (by decide +kernel)
set_option maxRecDepth 65536 in
theorem w_c1 : (Jvm.Cond.code ({ cls := "com/example/holdfast/holdfast/tenant/Permission", name := "grants", desc := "(Lcom/example/holdfast/holdfast/tenant/Permission;)Z" } : Jvm.MethodName) prog_58_method_5_code (2 : Nat) (Option.some Jvm.ClassFile.FieldType.boolean)).before args0 about1 = true := code_word (m := ⟨6, 0⟩) (meth := k6m0) (c := k6c0) (by decide +kernel) rfl rfl rfl (by decide +kernel)
def codes1 : List Jvm.Cond := [Jvm.Cond.code x code maxLocals ret, Jvm.Cond.code ({ cls := "com/example/holdfast/holdfast/tenant/Permission", name := "grants", desc := "(Lcom/example/holdfast/holdfast/tenant/Permission;)Z" } : Jvm.MethodName) prog_58_method_5_code (2 : Nat) (Option.some Jvm.ClassFile.FieldType.boolean)]
set_option maxRecDepth 65536 in
theorem codes_eq : words1.filter isCode = codes1 := rfl
theorem w_codes : ∀ c ∈ words1.filter isCode, c.before args0 about1 = true := by
  rw [codes_eq]
  intro c hc
  simp only [codes1, List.mem_cons, List.not_mem_nil, or_false] at hc
  rcases hc with rfl | rfl
  · exact w_c0
  · exact w_c1
set_option maxRecDepth 65536 in
theorem w_t1 : (words1.take 24).all (fun c => isCode c || c.before args0 about1) = true := by decide +kernel
set_option maxRecDepth 65536 in
theorem w_t2 : (words1.drop 24).all (fun c => isCode c || c.before args0 about1) = true := by decide +kernel
theorem w_tables : (allAtoms (Jvm.Cond.code x code maxLocals ret :: tables_1)).before args0 about1 = true := by
  rw [allAtoms_all]
  show words1.all (fun c => c.before args0 about1) = true
  refine all_split ?_ w_codes
  rw [← List.take_append_drop 24 words1, List.all_append, w_t1, w_t2]
  rfl
set_option maxRecDepth 65536 in
theorem w_case : (Jvm.Cond.and given_1 narrow_1).before args0 about1 = true := by decide +kernel
theorem w_applies : (headSpec (Jvm.Cond.code x code maxLocals ret :: tables_1) room_1).applies x e0.platform about1 = true :=
  (Spec.applies_iff w_frames).mpr ⟨w_running, w_runnable, w_alone, w_named, w_hears, w_ripe, w_room, w_tables⟩
theorem atStart : AtStart classFile x code maxLocals ret World_1 tables_1 room_1 Calls_1 rest_1 Pre_1 launch0 p0 e0 about1 theMethod args0 below0 :=
  ⟨lists_1, trivial, launch0.admits_env _ _ _, launch0.least_env, fairChoices_fair.cas, fairChoices_fair.clock, w_frames, w_args, w_heap, w_applies, trivial, trivial, w_case⟩
end start1
theorem witness_1 : WitnessClaimed_1 := ⟨start1.p0, start1.e0, start1.about1, start1.theMethod, start1.args0, start1.below0, start1.atStart⟩
end Jvm.Pilot.@@N@@
