import JvmDerived
import JvmDerived.Pilot.@@N@@Statement
import JvmDerived.Pilot.@@N@@Code
set_option linter.unusedVariables false
set_option linter.unusedSimpArgs false
namespace Jvm.RoadKit
open Sem ClassFile Op Lib Jvm.Stand Jvm.Free Jvm.LawKit
section New
variable {p : Program} {l : Launch} {e : Env} {R : Room} {s : State} {m : MethodId} {args : Array Value} {below : List Frame} {meth : Method} {c : Code} {T : State} {locs : List Loc} {cells slots : Nat}
theorem retI (X : Stand p l e R s m args below meth c T locs cells slots) (hx : p.tables.exec = Jvm.exec) {pc : Nat} {Ls : Array Slot} {z : Int32} {rest : List Value} (hret : meth.sig.returnType = some .int) (hd : decode c.code pc = .ok (.ireturn, 1)) {fs : List Frame}
    (hl : ∀ (f : JFrame) (acts : List Action), f.method = m → f.locked = none → f.entered = [] → (doReturn e (T.setTop f) acts (some (.int z))).1 = T.setFrames fs) : Steps p.tables e below (T.setTop (mkF m pc Ls (.int z :: rest))) (T.setFrames fs) := by
  have hm' : T.vm.method? m = some meth := X.method'
  have hn : narrow .int (.int z) = .int z := rfl
  show Steps p.tables e below (T.setTop { method := m, pc := pc, locals := Ls, stack := _ :: rest, locked := none }) _
  jvm_step X.here [X.here.top, hx, hd, hm', hret, hn]
  first | (intro acts; rw [hl _ acts rfl rfl rfl]) | rw [hl _ _ rfl rfl rfl]
  exact Steps.refl _
theorem own_lremM {g : JFrame} {target : State} (X : Stand p l e R s m args below meth c T locs cells slots) (hx : p.tables.exec = Jvm.exec) (hg : g.method = m) {x y : Int64} {rest : List Value} (hd : decode c.code g.pc = .ok (.lrem, 1)) (hs : g.stack = .long y :: .long x :: rest) (hy : y ≠ 0)
    (hr : Steps p.tables e below (T.setTop { g with pc := g.pc + 1, stack := .long (x % y) :: rest }) target) : Steps p.tables e below (T.setTop g) target := by
  have q : x - x / y * y = x % y := lrem_mod x y
  exact XS.lrem X.here hx hg hd hs hy (by rw [q]; exact hr)
end New
end Jvm.RoadKit
namespace Jvm.Pilot.@@N@@
open Jvm Jvm.ClassFile Sem Op Lib Jvm.Free Jvm.Stand Jvm.LawKit Jvm.RoadKit Bundle Jvm.Pilot.@@N@@.Jvm.D

theorem own_nar {r : Int32} (h : r = 0 ∨ r = 1) : nar .boolean r = r := by rcases h with rfl | rfl <;> rfl
theorem pd_1 : parseMethodDescriptor "()V" = some ⟨[], none⟩ := by decide +kernel
theorem pd_2 : parseMethodDescriptor "(J)V" = some ⟨[.long], none⟩ := by decide +kernel
theorem pd_3 : parseMethodDescriptor "()Z" = some ⟨[], some .boolean⟩ := by decide +kernel
theorem own_plain (cs : Int64) (rs flag re : Int32) (ce un : Int64) (hce : ce = ((cs &&& (9223372036854775807 : Int64)) % (10000000000 : Int64))) (hre : re = (if (flag &&& (1 : Int32)) = (0 : Int32) then ((rs &&& (2147483647 : Int32)) % (100 : Int32)) else (0 : Int32))) (hun : un = ((ce * (100 : Int64)) + ((re).toInt64))) : ¬ un < (0 : Int64) ∧ ¬ (999999999999 : Int64) < un ∧ ((un % (100 : Int64)) = (0 : Int64) ↔ re = 0) := by
  have a1 : (cs &&& (9223372036854775807 : Int64)).toInt = cs.toInt % (2 ^ 63 : Nat) := c_maskL cs _ 63 (by decide) (by decide)
  have a2 : ce.toInt = (cs &&& (9223372036854775807 : Int64)).toInt % 10000000000 := by
    rw [hce, Int64.toInt_mod]; exact (tr _ _).1 (by rw [a1]; omega)
  have a3 : (rs &&& (2147483647 : Int32)).toInt = rs.toInt % (2 ^ 31 : Nat) := c_mask rs _ 31 (by decide) (by decide)
  have a4 : ((rs &&& (2147483647 : Int32)) % (100 : Int32)).toInt = (rs &&& (2147483647 : Int32)).toInt % 100 := by
    rw [Int32.toInt_mod]; exact (tr _ _).1 (by rw [a3]; omega)
  have z0 : (0 : Int32).toInt = 0 := by decide
  have a5 : 0 ≤ re.toInt ∧ re.toInt < 100 := by rw [hre]; split <;> omega
  have b1 := c_lmul ce 100
  have b2 := c_ladd (ce * 100) re.toInt64
  have b3 := c_i2l re
  have b4 := rng64 (ce * 100)
  have b5 := rng64 un
  have z1 : (0 : Int64).toInt = 0 := by decide
  have z2 : (100 : Int64).toInt = 100 := by decide
  have z3 : (999999999999 : Int64).toInt = 999999999999 := by decide
  rw [← hun] at b2
  rw [z2] at b1
  have c1 : un.toInt = ce.toInt * 100 + re.toInt := by omega
  have c2 : (un % 100).toInt = un.toInt % 100 := by
    rw [Int64.toInt_mod, z2]; exact (tr _ _).1 (by omega)
  rw [Int64.lt_iff_toInt_lt, Int64.lt_iff_toInt_lt, ← Int64.toInt_inj, ← Int32.toInt_inj, z0, z1, z3, c2]
  omega
theorem d2_0 : decode jdk_30_method_1_code 0 = .ok (.aload_n 0, 1) := by decide +kernel
theorem d2_1 : decode jdk_30_method_1_code 1 = .ok (.invokespecial 1, 3) := by decide +kernel
theorem d2_4 : decode jdk_30_method_1_code 4 = .ok (.return_, 1) := by decide +kernel
theorem pn_2 : plainName "java/lang/Record" = true := by first | (simp [plainName, overriddenIn]; done) | decide +kernel
theorem ef_2 (m : MethodId) (a1 : Addr) : entryFrame m #[(.ref a1)] 1 = (mkF m 0 #[.val (.ref a1)] []) := by first | (simp [entryFrame, mkF, argsToLocals, Value.category]; done) | rfl
def Q2 (Z : State) (a1 : Addr) (h0 : Heap) (n0 : Nat) (v : Option Value) (h : Heap) (L : List Loc) : Prop := v = none ∧ Fr n0 L ∧ h = h0
set_option maxRecDepth 65536 in
set_option maxHeartbeats 40000000 in
theorem rm2 (l : Launch) (Z : State) (a0 : Array Value) (hw : ∀ d ∈ tables_1, d.before a0 Z = true) (ws : List Jvm.Cond) (a1 : Addr) (h0 : Heap) (n0 : Nat) (Z0 : n0 ≤ h0.size)  :
    MetFree l (⟨"java/lang/Record", "<init>", "()V"⟩ : MethodName) (head1 (Jvm.Cond.code (⟨"java/lang/Record", "<init>", "()V"⟩ : MethodName) jdk_30_method_1_code 1 none :: ws) ({ frames := 1, cells := 0, slots := 0, locals := 12 } : Room)) (fun a U => a = #[(.ref a1)] ∧ Z.Warmed39 U.vm ∧ U.heap = h0) (fun _ _ _ _ _ => True) (fun _ U o U' => ∃ v L, o = .returned v ∧ Q2 Z a1 h0 n0 v U'.heap L ∧ FrameEnd U o U' L ({ frames := 1, cells := 0, slots := 0, locals := 12 } : Room).cells ({ frames := 1, cells := 0, slots := 0, locals := 12 } : Room).slots) := by
  refine MetFree.of_bodySF (plainFor_of_name pn_2) hisR ?_
  intro p e s m args below meth c s₁ Bd hml0 hP hK
  obtain ⟨rfl, hZ, hh⟩ := hP
  have hx := Bd.exec
  have hby := Bd.bytes
  have hml : c.maxLocals = 1 := hml0
  have hown : s.vm.findClass "java/lang/Record" = some m.cls := findClass_of_methodNamed Bd.named
  have hnm := (name_of_methodNamed Bd.named Bd.method).1
  have X0 : Stand p l e ({ frames := 1, cells := 0, slots := 0, locals := 12 } : Room) s m #[(.ref a1)] below meth c s₁ [] 0 0 := Stand.of_body Bd
  have e0 : s₁.heap = h0 := by rw [← hh, Bd.state]; rfl
  have N0 := Fr.nil n0
  have pre0 : ∀ t, Steps p.tables e below (s₁.setTop (mkF m 0 #[.val (.ref a1)] [])) t → Steps p.tables e below (s₁.setTop (entryFrame m #[(.ref a1)] 1)) t := fun t k => castTop (ef_2 m a1) k
  obtain ⟨T39, X39, e39, st39⟩ := initO X0 hx hZ hown (hw _ (List.mem_of_getElem? (i := 14) rfl)) (hw _ (List.mem_of_getElem? (i := 15) rfl)) (hw _ (List.mem_of_getElem? (i := 16) rfl)) e0 (g := (mkF m 1 #[.val (.ref a1)] [(.ref a1)])) rfl (by rw [hml]; rfl) rfl (hb hby d2_1) (by decide) (W := 0) (by show 2 * 0 + _ ≤ _; exact Nat.le_of_eq rfl) (by decide)
  have k40 : ∀ t, Steps p.tables e below (T39.setTop (mkF m 4 #[.val (.ref a1)] [])) t → Steps p.tables e below (s₁.setTop (entryFrame m #[(.ref a1)] 1)) t := fun t hk => pre0 t (by
    show Steps p.tables e below (s₁.setTop (mkF m 0 #[.val (.ref a1)] [])) _
    refine XS.aloadN X0.here hx rfl (hb hby d2_0) rfl rfl ?_
    show Steps p.tables e below (s₁.setTop (mkF m 1 #[.val (.ref a1)] [(.ref a1)])) _
    refine st39 _ ?_
    exact hk)
  obtain ⟨fs, hr, hrun, hended, hW, hsame⟩ := X39.leave (v := none) (fun _ => rfl)
  refine ⟨_, _, k40 _ ?_, hrun, hended, _, _, rfl, ?_, ⟨_, rfl⟩, hW, hsame.mono (by decide) (by decide)⟩
  · show Steps p.tables e below (T39.setTop (mkF m 4 #[.val (.ref a1)] [])) _
    exact X39.returnOut hx Bd.returns (hb hby d2_4) hr
  · show Q2 Z a1 h0 n0 _ T39.heap _
    rw [e39]
    exact ⟨rfl, N0, rfl⟩
theorem d1_0 : decode prog_40_method_1_code 0 = .ok (.aload_n 0, 1) := by decide +kernel
theorem d1_1 : decode prog_40_method_1_code 1 = .ok (.invokespecial 3, 3) := by decide +kernel
theorem d1_4 : decode prog_40_method_1_code 4 = .ok (.lload_n 1, 1) := by decide +kernel
theorem d1_5 : decode prog_40_method_1_code 5 = .ok (.lconst 0, 1) := by decide +kernel
theorem d1_6 : decode prog_40_method_1_code 6 = .ok (.lcmp, 1) := by decide +kernel
theorem d1_7 : decode prog_40_method_1_code 7 = .ok (.ifCond .lt 11, 3) := by decide +kernel
theorem d1_10 : decode prog_40_method_1_code 10 = .ok (.lload_n 1, 1) := by decide +kernel
theorem d1_11 : decode prog_40_method_1_code 11 = .ok (.ldc2_w 9, 3) := by decide +kernel
theorem d1_14 : decode prog_40_method_1_code 14 = .ok (.lcmp, 1) := by decide +kernel
theorem d1_15 : decode prog_40_method_1_code 15 = .ok (.ifCond .le 17, 3) := by decide +kernel
theorem d1_18 : decode prog_40_method_1_code 18 = .ok (.new 11, 3) := by decide +kernel
theorem d1_21 : decode prog_40_method_1_code 21 = .ok (.dup, 1) := by decide +kernel
theorem d1_22 : decode prog_40_method_1_code 22 = .ok (.lload_n 1, 1) := by decide +kernel
-- pc 23 invokedynamic not read
theorem d1_28 : decode prog_40_method_1_code 28 = .ok (.invokespecial 17, 3) := by decide +kernel
theorem d1_31 : decode prog_40_method_1_code 31 = .ok (.athrow, 1) := by decide +kernel
theorem d1_32 : decode prog_40_method_1_code 32 = .ok (.aload_n 0, 1) := by decide +kernel
theorem d1_33 : decode prog_40_method_1_code 33 = .ok (.lload_n 1, 1) := by decide +kernel
theorem d1_34 : decode prog_40_method_1_code 34 = .ok (.putfield 20, 3) := by decide +kernel
theorem d1_37 : decode prog_40_method_1_code 37 = .ok (.return_, 1) := by decide +kernel
theorem pn_1 : plainName "com/example/bidwell/bidwell/market/Price" = true := by first | (simp [plainName, overriddenIn]; done) | decide +kernel
theorem ef_1 (m : MethodId) (a1 : Addr) (q2 : Int64) : entryFrame m #[(.ref a1), (.long q2)] 3 = (mkF m 0 #[.val (.ref a1), .val (.long q2), .second] []) := by first | (simp [entryFrame, mkF, argsToLocals, Value.category]; done) | rfl
def Q1 (Z : State) (a1 : Addr) (q2 : Int64) (h0 : Heap) (n0 : Nat) (v : Option Value) (h : Heap) (L : List Loc) : Prop := v = none ∧ Fr n0 L ∧ Keep h0 h [a1] ∧ Exa Z h a1 "com/example/bidwell/bidwell/market/Price" ∧ Fld Z h a1 "com/example/bidwell/bidwell/market/Price" "units" "J" (.long q2)
set_option maxRecDepth 65536 in
set_option maxHeartbeats 40000000 in
theorem rm1 (l : Launch) (Z : State) (a0 : Array Value) (hw : ∀ d ∈ tables_1, d.before a0 Z = true) (ws : List Jvm.Cond) (a1 : Addr) (q2 : Int64) (h0 : Heap) (n0 : Nat) (Z0 : n0 ≤ h0.size) (Fu : Fld Z h0 a1 "com/example/bidwell/bidwell/market/Price" "units" "J" (.long (0 : Int64))) (Ex : Exa Z h0 a1 "com/example/bidwell/bidwell/market/Price") (ga : n0 ≤ a1) (hq0 : ¬ q2 < (0 : Int64)) (hq1 : ¬ (999999999999 : Int64) < q2) :
    MetFree l (⟨"com/example/bidwell/bidwell/market/Price", "<init>", "(J)V"⟩ : MethodName) (head1 (Jvm.Cond.code (⟨"com/example/bidwell/bidwell/market/Price", "<init>", "(J)V"⟩ : MethodName) prog_40_method_1_code 3 none :: ws) ({ frames := 2, cells := 0, slots := 0, locals := 24 } : Room)) (fun a U => a = #[(.ref a1), (.long q2)] ∧ Z.Warmed39 U.vm ∧ U.heap = h0) (fun _ _ _ _ _ => True) (fun _ U o U' => ∃ v L, o = .returned v ∧ Q1 Z a1 q2 h0 n0 v U'.heap L ∧ FrameEnd U o U' L ({ frames := 2, cells := 0, slots := 0, locals := 24 } : Room).cells ({ frames := 2, cells := 0, slots := 0, locals := 24 } : Room).slots) := by
  refine MetFree.of_bodySF (plainFor_of_name pn_1) hisR ?_
  intro p e s m args below meth c s₁ Bd hml0 hP hK
  obtain ⟨rfl, hZ, hh⟩ := hP
  have hx := Bd.exec
  have hby := Bd.bytes
  have hml : c.maxLocals = 3 := hml0
  have hown : s.vm.findClass "com/example/bidwell/bidwell/market/Price" = some m.cls := findClass_of_methodNamed Bd.named
  have hnm := (name_of_methodNamed Bd.named Bd.method).1
  have X0 : Stand p l e ({ frames := 2, cells := 0, slots := 0, locals := 24 } : Room) s m #[(.ref a1), (.long q2)] below meth c s₁ [] 0 0 := Stand.of_body Bd
  have e0 : s₁.heap = h0 := by rw [← hh, Bd.state]; rfl
  have N0 := Fr.nil n0
  have pre0 : ∀ t, Steps p.tables e below (s₁.setTop (mkF m 0 #[.val (.ref a1), .val (.long q2), .second] [])) t → Steps p.tables e below (s₁.setTop (entryFrame m #[(.ref a1), (.long q2)] 3)) t := fun t k => castTop (ef_1 m a1 q2) k
  obtain ⟨_, _, ⟨T41, L41, k41, n41⟩, -, X41, ⟨Lc41, hQ41, l41, y41, z41⟩, st41⟩ := X0.specialBack hx (y := (⟨"java/lang/Record", "<init>", "()V"⟩ : MethodName)) rfl hown (mvT hZ (hw _ (List.mem_of_getElem? (i := 9) rfl))) (mvT hZ (hw _ (List.mem_of_getElem? (i := 10) rfl))) (mvT hZ (hw _ (List.mem_of_getElem? (i := 13) rfl))) (by decide) (backOf (W := 0) (rm2 l Z a0 hw [] a1  h0 n0 Z0 ) hZ (hw _ (List.mem_of_getElem? (i := 13) rfl)) (hw _ (List.mem_of_getElem? (i := 12) rfl)) (by decide) (by decide)) (g := (mkF m 1 #[.val (.ref a1), .val (.long q2), .second] [(.ref a1)])) rfl (by rw [hml]; rfl) (Steps.refl _) (a := a1) (argsL := []) (rest := []) (lenOf pd_1 rfl) rfl (by show 2 * 0 + _ ≤ _; exact Nat.le_of_eq rfl) (hb hby d1_1) (fun _ _ => ⟨rfl, e0, (by decide : 0 + 0 ≤ _), (by decide : 0 + 0 ≤ _)⟩)
  dsimp only [Pt.U, Pt.locs, Pt.cells, Pt.slots] at X41 l41 y41 z41 st41 hQ41
  subst l41 y41 z41
  obtain ⟨rfl, N41q, e41⟩ := hQ41
  have N41 := Fr.app N0 N41q
  obtain ⟨T42, h42, X42, e42, W42, st42⟩ := putF X41 hx hZ hown (host := "") (Or.inl (hw _ (List.mem_of_getElem? (i := 18) rfl))) Via.refl e41 Fu Ex (Or.inr ⟨(hw _ (List.mem_of_getElem? (i := 19) rfl)), rfl, hnm⟩) (hw _ (List.mem_of_getElem? (i := 4) rfl)) (ty := .long) (by decide) rfl rfl (g := (mkF m 34 #[.val (.ref a1), .val (.long q2), .second] [(.long q2), (.ref a1)])) rfl rfl (hb hby d1_34)
  have F43 := Fu.same W42
  have E44 := Ex.wr W42
  have K45 := (Keep.refl h0 [a1]).wr W42 (Or.inl (List.mem_of_getElem? (i := 0) rfl))
  have Z46 : n0 ≤ h42.size := W42.size ▸ Z0
  have N47 := Fr.snoc X42 N41 ga
  have k48 : ∀ t, Steps p.tables e below (T42.setTop (mkF m 37 #[.val (.ref a1), .val (.long q2), .second] [])) t → Steps p.tables e below (s₁.setTop (entryFrame m #[(.ref a1), (.long q2)] 3)) t := fun t hk => pre0 t (by
    show Steps p.tables e below (s₁.setTop (mkF m 0 #[.val (.ref a1), .val (.long q2), .second] [])) _
    refine XS.aloadN X0.here hx rfl (hb hby d1_0) rfl rfl ?_
    show Steps p.tables e below (s₁.setTop (mkF m 1 #[.val (.ref a1), .val (.long q2), .second] [(.ref a1)])) _
    refine st41.trans ?_
    show Steps p.tables e below (T41.setTop (mkF m 4 #[.val (.ref a1), .val (.long q2), .second] [])) _
    refine XS.lloadN X41.here hx rfl (hb hby d1_4) rfl ?_
    show Steps p.tables e below (T41.setTop (mkF m 5 #[.val (.ref a1), .val (.long q2), .second] [(.long q2)])) _
    refine XS.lconst X41.here hx rfl (hb hby d1_5) ?_
    show Steps p.tables e below (T41.setTop (mkF m 6 #[.val (.ref a1), .val (.long q2), .second] [(.long (0 : Int64)), (.long q2)])) _
    refine XS.lcmp X41.here hx rfl (hb hby d1_6) rfl ?_
    show Steps p.tables e below (T41.setTop (mkF m 7 #[.val (.ref a1), .val (.long q2), .second] [(.int (lcmpW q2 (0 : Int64)))])) _
    refine XS.ifNo X41.here hx rfl (hb hby d1_7) rfl ((if0 _ _).trans (flt (fun q => hq0 ((lw_lt _ _).mp q))).1) ?_
    show Steps p.tables e below (T41.setTop (mkF m 10 #[.val (.ref a1), .val (.long q2), .second] [])) _
    refine XS.lloadN X41.here hx rfl (hb hby d1_10) rfl ?_
    show Steps p.tables e below (T41.setTop (mkF m 11 #[.val (.ref a1), .val (.long q2), .second] [(.long q2)])) _
    refine X41.ldc2Long hx hown (mvT hZ (hw _ (List.mem_of_getElem? (i := 17) rfl))) (g := (mkF m 11 #[.val (.ref a1), .val (.long q2), .second] [(.long q2)])) rfl (hb hby d1_11) _ ?_
    show Steps p.tables e below (T41.setTop (mkF m 14 #[.val (.ref a1), .val (.long q2), .second] [(.long (999999999999 : Int64)), (.long q2)])) _
    refine XS.lcmp X41.here hx rfl (hb hby d1_14) rfl ?_
    show Steps p.tables e below (T41.setTop (mkF m 15 #[.val (.ref a1), .val (.long q2), .second] [(.int (lcmpW q2 (999999999999 : Int64)))])) _
    refine XS.ifYes X41.here hx rfl (pc0 := 15) (pc' := 32) rfl (hb hby d1_15) rfl ((if0 _ _).trans (flt (fun q => hq1 ((lw_gt _ _).mp q))).2.2.2) (by decide) (by decide) ?_
    show Steps p.tables e below (T41.setTop (mkF m 32 #[.val (.ref a1), .val (.long q2), .second] [])) _
    refine XS.aloadN X41.here hx rfl (hb hby d1_32) rfl rfl ?_
    show Steps p.tables e below (T41.setTop (mkF m 33 #[.val (.ref a1), .val (.long q2), .second] [(.ref a1)])) _
    refine XS.lloadN X41.here hx rfl (hb hby d1_33) rfl ?_
    show Steps p.tables e below (T41.setTop (mkF m 34 #[.val (.ref a1), .val (.long q2), .second] [(.long q2), (.ref a1)])) _
    refine st42 _ ?_
    exact hk)
  obtain ⟨fs, hr, hrun, hended, hW, hsame⟩ := X42.leave (v := none) (fun _ => rfl)
  refine ⟨_, _, k48 _ ?_, hrun, hended, _, _, rfl, ?_, ⟨_, rfl⟩, hW, hsame.mono (by decide) (by decide)⟩
  · show Steps p.tables e below (T42.setTop (mkF m 37 #[.val (.ref a1), .val (.long q2), .second] [])) _
    exact X42.returnOut hx Bd.returns (hb hby d1_37) hr
  · show Q1 Z a1 q2 h0 n0 _ T42.heap _
    rw [e42]
    exact ⟨rfl, N47, K45, E44, F43⟩
theorem d4_0 : decode prog_40_method_3_code 0 = .ok (.aload_n 0, 1) := by decide +kernel
theorem d4_1 : decode prog_40_method_3_code 1 = .ok (.getfield 20, 3) := by decide +kernel
theorem d4_4 : decode prog_40_method_3_code 4 = .ok (.ldc2_w 74, 3) := by decide +kernel
theorem d4_7 : decode prog_40_method_3_code 7 = .ok (.lrem, 1) := by decide +kernel
theorem d4_8 : decode prog_40_method_3_code 8 = .ok (.lconst 0, 1) := by decide +kernel
theorem d4_9 : decode prog_40_method_3_code 9 = .ok (.lcmp, 1) := by decide +kernel
theorem d4_10 : decode prog_40_method_3_code 10 = .ok (.ifCond .ne 7, 3) := by decide +kernel
theorem d4_13 : decode prog_40_method_3_code 13 = .ok (.iconst 1, 1) := by decide +kernel
theorem d4_14 : decode prog_40_method_3_code 14 = .ok (.goto 4, 3) := by decide +kernel
theorem d4_17 : decode prog_40_method_3_code 17 = .ok (.iconst 0, 1) := by decide +kernel
theorem d4_18 : decode prog_40_method_3_code 18 = .ok (.ireturn, 1) := by decide +kernel
theorem pn_4 : plainName "com/example/bidwell/bidwell/market/Price" = true := by first | (simp [plainName, overriddenIn]; done) | decide +kernel
theorem ef_4 (m : MethodId) (a1 : Addr) : entryFrame m #[(.ref a1)] 1 = (mkF m 0 #[.val (.ref a1)] []) := by first | (simp [entryFrame, mkF, argsToLocals, Value.category]; done) | rfl
def Q4 (Z : State) (a1 : Addr) (w2 : Int64) (h0 : Heap) (n0 : Nat) (v : Option Value) (h : Heap) (L : List Loc) : Prop := ∃ r : Int32, v = some (.int r) ∧ r = (if (w2 % (100 : Int64)) = (0 : Int64) then (1 : Int32) else (0 : Int32)) ∧ Fr n0 L ∧ h = h0
set_option maxRecDepth 65536 in
set_option maxHeartbeats 40000000 in
theorem rm4 (l : Launch) (Z : State) (a0 : Array Value) (hw : ∀ d ∈ tables_1, d.before a0 Z = true) (ws : List Jvm.Cond) (a1 : Addr) (w2 : Int64) (h0 : Heap) (n0 : Nat) (Z0 : n0 ≤ h0.size) (Fu : Fld Z h0 a1 "com/example/bidwell/bidwell/market/Price" "units" "J" (.long w2)) :
    MetFree l (⟨"com/example/bidwell/bidwell/market/Price", "isWholeCents", "()Z"⟩ : MethodName) (head1 (Jvm.Cond.code (⟨"com/example/bidwell/bidwell/market/Price", "isWholeCents", "()Z"⟩ : MethodName) prog_40_method_3_code 1 (some .boolean) :: ws) ({ frames := 0, cells := 0, slots := 0, locals := 0 } : Room)) (fun a U => a = #[(.ref a1)] ∧ Z.Warmed39 U.vm ∧ U.heap = h0) (fun _ _ _ _ _ => True) (fun _ U o U' => ∃ v L, o = .returned v ∧ Q4 Z a1 w2 h0 n0 v U'.heap L ∧ FrameEnd U o U' L ({ frames := 0, cells := 0, slots := 0, locals := 0 } : Room).cells ({ frames := 0, cells := 0, slots := 0, locals := 0 } : Room).slots) := by
  refine MetFree.of_bodySF (plainFor_of_name pn_4) hisR ?_
  intro p e s m args below meth c s₁ Bd hml0 hP hK
  obtain ⟨rfl, hZ, hh⟩ := hP
  have hx := Bd.exec
  have hby := Bd.bytes
  have hml : c.maxLocals = 1 := hml0
  have hown : s.vm.findClass "com/example/bidwell/bidwell/market/Price" = some m.cls := findClass_of_methodNamed Bd.named
  have hnm := (name_of_methodNamed Bd.named Bd.method).1
  have X0 : Stand p l e ({ frames := 0, cells := 0, slots := 0, locals := 0 } : Room) s m #[(.ref a1)] below meth c s₁ [] 0 0 := Stand.of_body Bd
  have e0 : s₁.heap = h0 := by rw [← hh, Bd.state]; rfl
  have N0 := Fr.nil n0
  have pre0 : ∀ t, Steps p.tables e below (s₁.setTop (mkF m 0 #[.val (.ref a1)] [])) t → Steps p.tables e below (s₁.setTop (entryFrame m #[(.ref a1)] 1)) t := fun t k => castTop (ef_4 m a1) k
  obtain ⟨T49, X49, e49, st49⟩ := getF X0 hx hZ hown (host := "") (Or.inl (hw _ (List.mem_of_getElem? (i := 18) rfl))) Via.refl e0 Fu (g := (mkF m 1 #[.val (.ref a1)] [(.ref a1)])) rfl rfl (hb hby d4_1)
  have k50 : ∀ t, Steps p.tables e below (T49.setTop (mkF m 10 #[.val (.ref a1)] [(.int (lcmpW (w2 % (100 : Int64)) (0 : Int64)))])) t → Steps p.tables e below (s₁.setTop (entryFrame m #[(.ref a1)] 1)) t := fun t hk => pre0 t (by
    show Steps p.tables e below (s₁.setTop (mkF m 0 #[.val (.ref a1)] [])) _
    refine XS.aloadN X0.here hx rfl (hb hby d4_0) rfl rfl ?_
    show Steps p.tables e below (s₁.setTop (mkF m 1 #[.val (.ref a1)] [(.ref a1)])) _
    refine st49 _ ?_
    show Steps p.tables e below (T49.setTop (mkF m 4 #[.val (.ref a1)] [(.long w2)])) _
    refine X49.ldc2Long hx hown (mvT hZ (hw _ (List.mem_of_getElem? (i := 25) rfl))) (g := (mkF m 4 #[.val (.ref a1)] [(.long w2)])) rfl (hb hby d4_4) _ ?_
    show Steps p.tables e below (T49.setTop (mkF m 7 #[.val (.ref a1)] [(.long (100 : Int64)), (.long w2)])) _
    refine own_lremM X49 hx rfl (hb hby d4_7) rfl (by decide) ?_
    show Steps p.tables e below (T49.setTop (mkF m 8 #[.val (.ref a1)] [(.long (w2 % (100 : Int64)))])) _
    refine XS.lconst X49.here hx rfl (hb hby d4_8) ?_
    show Steps p.tables e below (T49.setTop (mkF m 9 #[.val (.ref a1)] [(.long (0 : Int64)), (.long (w2 % (100 : Int64)))])) _
    refine XS.lcmp X49.here hx rfl (hb hby d4_9) rfl ?_
    exact hk)
  obtain ⟨r0, hr0, k51⟩ : ∃ (r0 : Int32), (r0 = (if (w2 % (100 : Int64)) = (0 : Int64) then (1 : Int32) else (0 : Int32))) ∧ ∀ t, Steps p.tables e below (T49.setTop (mkF m 18 #[.val (.ref a1)] [(.int r0)])) t → Steps p.tables e below (s₁.setTop (entryFrame m #[(.ref a1)] 1)) t := by
    by_cases hc10 : (w2 % (100 : Int64)) = (0 : Int64)
    ·
      refine ⟨(1 : Int32), ((if_pos hc10).trans rfl).symm, fun t hk => k50 t ?_⟩
      show Steps p.tables e below (T49.setTop (mkF m 10 #[.val (.ref a1)] [(.int (lcmpW (w2 % (100 : Int64)) (0 : Int64)))])) _
      refine XS.ifNo X49.here hx rfl (hb hby d4_10) rfl ((if0 _ _).trans (teq ((lw_eq _ _).mpr hc10)).2) ?_
      show Steps p.tables e below (T49.setTop (mkF m 13 #[.val (.ref a1)] [])) _
      refine XS.iconst X49.here hx rfl (hb hby d4_13) ?_
      show Steps p.tables e below (T49.setTop (mkF m 14 #[.val (.ref a1)] [(.int (1 : Int32))])) _
      refine XS.goto X49.here hx rfl (pc0 := 14) (pc' := 18) rfl (hb hby d4_14) (by decide) (by decide) ?_
      exact hk
    ·
      refine ⟨(0 : Int32), ((if_neg hc10).trans rfl).symm, fun t hk => k50 t ?_⟩
      show Steps p.tables e below (T49.setTop (mkF m 10 #[.val (.ref a1)] [(.int (lcmpW (w2 % (100 : Int64)) (0 : Int64)))])) _
      refine XS.ifYes X49.here hx rfl (pc0 := 10) (pc' := 17) rfl (hb hby d4_10) rfl ((if0 _ _).trans (feq (fun q => hc10 ((lw_eq _ _).mp q))).2) (by decide) (by decide) ?_
      show Steps p.tables e below (T49.setTop (mkF m 17 #[.val (.ref a1)] [])) _
      refine XS.iconst X49.here hx rfl (hb hby d4_17) ?_
      exact hk
  obtain ⟨fs, hr, hrun, hended, hW, hsame⟩ := X49.leave (v := some (.int (nar .boolean r0))) (fun h => by rw [Bd.returns] at h; cases h)
  refine ⟨_, _, k51 _ ?_, hrun, hended, _, _, rfl, ?_, ⟨_, rfl⟩, hW, hsame.mono (by decide) (by decide)⟩
  · show Steps p.tables e below (T49.setTop (mkF m 18 #[.val (.ref a1)] [(.int r0)])) _
    exact retN X49 hx (t := .boolean) Bd.returns (by simp) (hb hby d4_18) hr
  · show Q4 Z a1 w2 h0 n0 _ T49.heap _
    rw [e49]
    exact ⟨_, rfl, (own_nar (by rw [hr0]; (repeat' split) <;> simp)).trans hr0, N0, rfl⟩
theorem pn_0 : plainName "com/example/bidwell/bidwell/market/PriceIsWholeCentsPinLaw" = true := by first | (simp [plainName, overriddenIn]; done) | decide +kernel
theorem ef_0 (m : MethodId) (cs : Int64) (rs : Int32) (flag : Int32) : entryFrame m #[(.long cs), (.int rs), (.int flag)] maxLocals = (mkF m 0 #[.val (.long cs), .second, .val (.int rs), .val (.int flag), .unset, .unset, .unset, .unset, .unset, .unset] []) := by first | (simp [entryFrame, mkF, argsToLocals, Value.category, maxLocals]; done) | rfl
def Q0 (Z : State) (cs : Int64) (rs : Int32) (flag : Int32) (h0 : Heap) (n0 : Nat) (v : Option Value) (h : Heap) (L : List Loc) : Prop := v = some (.int 1) ∧ Fr n0 L
set_option maxRecDepth 65536 in
set_option maxHeartbeats 40000000 in
theorem rm0 (l : Launch) (Z : State) (a0 : Array Value) (hw : ∀ d ∈ tables_1, d.before a0 Z = true) (ws : List Jvm.Cond) (cs : Int64) (rs : Int32) (flag : Int32) (h0 : Heap) (n0 : Nat) (Z0 : n0 ≤ h0.size)  :
    MetFree l x (head1 (Jvm.Cond.code x code maxLocals ret :: ws) room_1) (fun a U => a = #[(.long cs), (.int rs), (.int flag)] ∧ Z.Warmed39 U.vm ∧ U.heap = h0) (fun _ _ _ _ _ => True) (fun _ U o U' => ∃ v L, o = .returned v ∧ Q0 Z cs rs flag h0 n0 v U'.heap L ∧ FrameEnd U o U' L room_1.cells room_1.slots) := by
  refine MetFree.of_bodySF (plainFor_of_name pn_0) hisR ?_
  intro p e s m args below meth c s₁ Bd hml0 hP hK
  obtain ⟨rfl, hZ, hh⟩ := hP
  have hx := Bd.exec
  have hby := Bd.bytes
  have hml : c.maxLocals = 10 := hml0
  have hown : s.vm.findClass "com/example/bidwell/bidwell/market/PriceIsWholeCentsPinLaw" = some m.cls := findClass_of_methodNamed Bd.named
  have hnm := (name_of_methodNamed Bd.named Bd.method).1
  have X0 : Stand p l e room_1 s m #[(.long cs), (.int rs), (.int flag)] below meth c s₁ [] 0 0 := Stand.of_body Bd
  have e0 : s₁.heap = h0 := by rw [← hh, Bd.state]; rfl
  have N0 := Fr.nil n0
  have pre0 : ∀ t, Steps p.tables e below (s₁.setTop (mkF m 0 #[.val (.long cs), .second, .val (.int rs), .val (.int flag), .unset, .unset, .unset, .unset, .unset, .unset] [])) t → Steps p.tables e below (s₁.setTop (entryFrame m #[(.long cs), (.int rs), (.int flag)] maxLocals)) t := fun t k => castTop (ef_0 m cs rs flag) k
  have k52 : ∀ t, Steps p.tables e below (s₁.setTop (mkF m 11 #[.val (.long cs), .second, .val (.int rs), .val (.int flag), .val (.long ((cs &&& (9223372036854775807 : Int64)) % (10000000000 : Int64))), .second, .unset, .unset, .unset, .unset] [])) t → Steps p.tables e below (s₁.setTop (entryFrame m #[(.long cs), (.int rs), (.int flag)] maxLocals)) t := fun t hk => pre0 t (by
    show Steps p.tables e below (s₁.setTop (mkF m 0 #[.val (.long cs), .second, .val (.int rs), .val (.int flag), .unset, .unset, .unset, .unset, .unset, .unset] [])) _
    refine XS.lloadN X0.here hx rfl (hb hby at_0) rfl ?_
    show Steps p.tables e below (s₁.setTop (mkF m 1 #[.val (.long cs), .second, .val (.int rs), .val (.int flag), .unset, .unset, .unset, .unset, .unset, .unset] [(.long cs)])) _
    refine X0.ldc2Long hx hown (mvT hZ (hw _ (List.mem_of_getElem? (i := 0) rfl))) (g := (mkF m 1 #[.val (.long cs), .second, .val (.int rs), .val (.int flag), .unset, .unset, .unset, .unset, .unset, .unset] [(.long cs)])) rfl (hb hby at_1) _ ?_
    show Steps p.tables e below (s₁.setTop (mkF m 4 #[.val (.long cs), .second, .val (.int rs), .val (.int flag), .unset, .unset, .unset, .unset, .unset, .unset] [(.long (9223372036854775807 : Int64)), (.long cs)])) _
    refine XS.land X0.here hx rfl (hb hby at_4) rfl ?_
    show Steps p.tables e below (s₁.setTop (mkF m 5 #[.val (.long cs), .second, .val (.int rs), .val (.int flag), .unset, .unset, .unset, .unset, .unset, .unset] [(.long (cs &&& (9223372036854775807 : Int64)))])) _
    refine X0.ldc2Long hx hown (mvT hZ (hw _ (List.mem_of_getElem? (i := 1) rfl))) (g := (mkF m 5 #[.val (.long cs), .second, .val (.int rs), .val (.int flag), .unset, .unset, .unset, .unset, .unset, .unset] [(.long (cs &&& (9223372036854775807 : Int64)))])) rfl (hb hby at_5) _ ?_
    show Steps p.tables e below (s₁.setTop (mkF m 8 #[.val (.long cs), .second, .val (.int rs), .val (.int flag), .unset, .unset, .unset, .unset, .unset, .unset] [(.long (10000000000 : Int64)), (.long (cs &&& (9223372036854775807 : Int64)))])) _
    refine own_lremM X0 hx rfl (hb hby at_8) rfl (by decide) ?_
    show Steps p.tables e below (s₁.setTop (mkF m 9 #[.val (.long cs), .second, .val (.int rs), .val (.int flag), .unset, .unset, .unset, .unset, .unset, .unset] [(.long ((cs &&& (9223372036854775807 : Int64)) % (10000000000 : Int64)))])) _
    refine XS.lstore X0.here hx rfl (hb hby at_9) rfl (l' := #[.val (.long cs), .second, .val (.int rs), .val (.int flag), .val (.long ((cs &&& (9223372036854775807 : Int64)) % (10000000000 : Int64))), .second, .unset, .unset, .unset, .unset]) rfl ?_
    exact hk)
  obtain ⟨ce, hce, k53⟩ : ∃ (ce : Int64), ce = ((cs &&& (9223372036854775807 : Int64)) % (10000000000 : Int64)) ∧ ∀ t, Steps p.tables e below (s₁.setTop (mkF m 11 #[.val (.long cs), .second, .val (.int rs), .val (.int flag), .val (.long ce), .second, .unset, .unset, .unset, .unset] [])) t → Steps p.tables e below (s₁.setTop (entryFrame m #[(.long cs), (.int rs), (.int flag)] maxLocals)) t := ⟨((cs &&& (9223372036854775807 : Int64)) % (10000000000 : Int64)), rfl, k52⟩
  have k54 : ∀ t, Steps p.tables e below (s₁.setTop (mkF m 14 #[.val (.long cs), .second, .val (.int rs), .val (.int flag), .val (.long ce), .second, .unset, .unset, .unset, .unset] [(.int (flag &&& (1 : Int32)))])) t → Steps p.tables e below (s₁.setTop (entryFrame m #[(.long cs), (.int rs), (.int flag)] maxLocals)) t := fun t hk => k53 t (by
    show Steps p.tables e below (s₁.setTop (mkF m 11 #[.val (.long cs), .second, .val (.int rs), .val (.int flag), .val (.long ce), .second, .unset, .unset, .unset, .unset] [])) _
    refine XS.iloadN X0.here hx rfl (hb hby at_11) rfl ?_
    show Steps p.tables e below (s₁.setTop (mkF m 12 #[.val (.long cs), .second, .val (.int rs), .val (.int flag), .val (.long ce), .second, .unset, .unset, .unset, .unset] [(.int flag)])) _
    refine XS.iconst X0.here hx rfl (hb hby at_12) ?_
    show Steps p.tables e below (s₁.setTop (mkF m 13 #[.val (.long cs), .second, .val (.int rs), .val (.int flag), .val (.long ce), .second, .unset, .unset, .unset, .unset] [(.int (1 : Int32)), (.int flag)])) _
    refine XS.iand X0.here hx rfl (hb hby at_13) rfl ?_
    exact hk)
  obtain ⟨re, hre, k55⟩ : ∃ (re : Int32), (re = (if (flag &&& (1 : Int32)) = (0 : Int32) then ((rs &&& (2147483647 : Int32)) % (100 : Int32)) else (0 : Int32))) ∧ ∀ t, Steps p.tables e below (s₁.setTop (mkF m 28 #[.val (.long cs), .second, .val (.int rs), .val (.int flag), .val (.long ce), .second, .unset, .unset, .unset, .unset] [(.int re)])) t → Steps p.tables e below (s₁.setTop (entryFrame m #[(.long cs), (.int rs), (.int flag)] maxLocals)) t := by
    by_cases hc14 : (flag &&& (1 : Int32)) = (0 : Int32)
    ·
      refine ⟨((rs &&& (2147483647 : Int32)) % (100 : Int32)), ((if_pos hc14).trans rfl).symm, fun t hk => k54 t ?_⟩
      show Steps p.tables e below (s₁.setTop (mkF m 14 #[.val (.long cs), .second, .val (.int rs), .val (.int flag), .val (.long ce), .second, .unset, .unset, .unset, .unset] [(.int (flag &&& (1 : Int32)))])) _
      refine XS.ifYes X0.here hx rfl (pc0 := 14) (pc' := 21) rfl (hb hby at_14) rfl ((if0 _ _).trans (teq hc14).1) (by decide) (by decide) ?_
      show Steps p.tables e below (s₁.setTop (mkF m 21 #[.val (.long cs), .second, .val (.int rs), .val (.int flag), .val (.long ce), .second, .unset, .unset, .unset, .unset] [])) _
      refine XS.iloadN X0.here hx rfl (hb hby at_21) rfl ?_
      show Steps p.tables e below (s₁.setTop (mkF m 22 #[.val (.long cs), .second, .val (.int rs), .val (.int flag), .val (.long ce), .second, .unset, .unset, .unset, .unset] [(.int rs)])) _
      refine X0.ldcInt hx hown (mvT hZ (hw _ (List.mem_of_getElem? (i := 26) rfl))) (g := (mkF m 22 #[.val (.long cs), .second, .val (.int rs), .val (.int flag), .val (.long ce), .second, .unset, .unset, .unset, .unset] [(.int rs)])) rfl (hb hby at_22) _ ?_
      show Steps p.tables e below (s₁.setTop (mkF m 24 #[.val (.long cs), .second, .val (.int rs), .val (.int flag), .val (.long ce), .second, .unset, .unset, .unset, .unset] [(.int (2147483647 : Int32)), (.int rs)])) _
      refine XS.iand X0.here hx rfl (hb hby at_24) rfl ?_
      show Steps p.tables e below (s₁.setTop (mkF m 25 #[.val (.long cs), .second, .val (.int rs), .val (.int flag), .val (.long ce), .second, .unset, .unset, .unset, .unset] [(.int (rs &&& (2147483647 : Int32)))])) _
      refine XS.bipush X0.here hx rfl (hb hby at_25) ?_
      show Steps p.tables e below (s₁.setTop (mkF m 27 #[.val (.long cs), .second, .val (.int rs), .val (.int flag), .val (.long ce), .second, .unset, .unset, .unset, .unset] [(.int (100 : Int32)), (.int (rs &&& (2147483647 : Int32)))])) _
      refine iremM X0 hx rfl (hb hby at_27) rfl (by decide) ?_
      exact hk
    ·
      refine ⟨(0 : Int32), ((if_neg hc14).trans rfl).symm, fun t hk => k54 t ?_⟩
      show Steps p.tables e below (s₁.setTop (mkF m 14 #[.val (.long cs), .second, .val (.int rs), .val (.int flag), .val (.long ce), .second, .unset, .unset, .unset, .unset] [(.int (flag &&& (1 : Int32)))])) _
      refine XS.ifNo X0.here hx rfl (hb hby at_14) rfl ((if0 _ _).trans (feq hc14).1) ?_
      show Steps p.tables e below (s₁.setTop (mkF m 17 #[.val (.long cs), .second, .val (.int rs), .val (.int flag), .val (.long ce), .second, .unset, .unset, .unset, .unset] [])) _
      refine XS.iconst X0.here hx rfl (hb hby at_17) ?_
      show Steps p.tables e below (s₁.setTop (mkF m 18 #[.val (.long cs), .second, .val (.int rs), .val (.int flag), .val (.long ce), .second, .unset, .unset, .unset, .unset] [(.int (0 : Int32))])) _
      refine XS.goto X0.here hx rfl (pc0 := 18) (pc' := 28) rfl (hb hby at_18) (by decide) (by decide) ?_
      exact hk
  have k56 : ∀ t, Steps p.tables e below (s₁.setTop (mkF m 42 #[.val (.long cs), .second, .val (.int rs), .val (.int flag), .val (.long ce), .second, .val (.int re), .val (.long ((ce * (100 : Int64)) + ((re).toInt64))), .second, .unset] [])) t → Steps p.tables e below (s₁.setTop (entryFrame m #[(.long cs), (.int rs), (.int flag)] maxLocals)) t := fun t hk => k55 t (by
    show Steps p.tables e below (s₁.setTop (mkF m 28 #[.val (.long cs), .second, .val (.int rs), .val (.int flag), .val (.long ce), .second, .unset, .unset, .unset, .unset] [(.int re)])) _
    refine XS.istore X0.here hx rfl (hb hby at_28) rfl (l' := #[.val (.long cs), .second, .val (.int rs), .val (.int flag), .val (.long ce), .second, .val (.int re), .unset, .unset, .unset]) rfl ?_
    show Steps p.tables e below (s₁.setTop (mkF m 30 #[.val (.long cs), .second, .val (.int rs), .val (.int flag), .val (.long ce), .second, .val (.int re), .unset, .unset, .unset] [])) _
    refine XS.lload X0.here hx rfl (hb hby at_30) rfl ?_
    show Steps p.tables e below (s₁.setTop (mkF m 32 #[.val (.long cs), .second, .val (.int rs), .val (.int flag), .val (.long ce), .second, .val (.int re), .unset, .unset, .unset] [(.long ce)])) _
    refine X0.ldc2Long hx hown (mvT hZ (hw _ (List.mem_of_getElem? (i := 2) rfl))) (g := (mkF m 32 #[.val (.long cs), .second, .val (.int rs), .val (.int flag), .val (.long ce), .second, .val (.int re), .unset, .unset, .unset] [(.long ce)])) rfl (hb hby at_32) _ ?_
    show Steps p.tables e below (s₁.setTop (mkF m 35 #[.val (.long cs), .second, .val (.int rs), .val (.int flag), .val (.long ce), .second, .val (.int re), .unset, .unset, .unset] [(.long (100 : Int64)), (.long ce)])) _
    refine XS.lmul X0.here hx rfl (hb hby at_35) rfl ?_
    show Steps p.tables e below (s₁.setTop (mkF m 36 #[.val (.long cs), .second, .val (.int rs), .val (.int flag), .val (.long ce), .second, .val (.int re), .unset, .unset, .unset] [(.long (ce * (100 : Int64)))])) _
    refine XS.iload X0.here hx rfl (hb hby at_36) rfl ?_
    show Steps p.tables e below (s₁.setTop (mkF m 38 #[.val (.long cs), .second, .val (.int rs), .val (.int flag), .val (.long ce), .second, .val (.int re), .unset, .unset, .unset] [(.int re), (.long (ce * (100 : Int64)))])) _
    refine XS.i2l X0.here hx rfl (hb hby at_38) rfl ?_
    show Steps p.tables e below (s₁.setTop (mkF m 39 #[.val (.long cs), .second, .val (.int rs), .val (.int flag), .val (.long ce), .second, .val (.int re), .unset, .unset, .unset] [(.long ((re).toInt64)), (.long (ce * (100 : Int64)))])) _
    refine XS.ladd X0.here hx rfl (hb hby at_39) rfl ?_
    show Steps p.tables e below (s₁.setTop (mkF m 40 #[.val (.long cs), .second, .val (.int rs), .val (.int flag), .val (.long ce), .second, .val (.int re), .unset, .unset, .unset] [(.long ((ce * (100 : Int64)) + ((re).toInt64)))])) _
    refine XS.lstore X0.here hx rfl (hb hby at_40) rfl (l' := #[.val (.long cs), .second, .val (.int rs), .val (.int flag), .val (.long ce), .second, .val (.int re), .val (.long ((ce * (100 : Int64)) + ((re).toInt64))), .second, .unset]) rfl ?_
    exact hk)
  obtain ⟨un, hun, k57⟩ : ∃ (un : Int64), un = ((ce * (100 : Int64)) + ((re).toInt64)) ∧ ∀ t, Steps p.tables e below (s₁.setTop (mkF m 42 #[.val (.long cs), .second, .val (.int rs), .val (.int flag), .val (.long ce), .second, .val (.int re), .val (.long un), .second, .unset] [])) t → Steps p.tables e below (s₁.setTop (entryFrame m #[(.long cs), (.int rs), (.int flag)] maxLocals)) t := ⟨((ce * (100 : Int64)) + ((re).toInt64)), rfl, k56⟩
  obtain ⟨hb0, hb1, hb2⟩ := own_plain cs rs flag re ce un hce hre hun
  obtain ⟨T58, h58, X58, e58, E58, A58, D58, -, st58⟩ := newO X0 hx hZ hown (hw _ (List.mem_of_getElem? (i := 3) rfl)) (hw _ (List.mem_of_getElem? (i := 4) rfl)) (hw _ (List.mem_of_getElem? (i := 5) rfl)) e0 (g := (mkF m 42 #[.val (.long cs), .second, .val (.int rs), .val (.int flag), .val (.long ce), .second, .val (.int re), .val (.long un), .second, .unset] [])) rfl (hb hby at_42) (by decide) (by decide)
  obtain ⟨b58, g58⟩ : ∃ z, z = h0.size := ⟨_, rfl⟩
  have g59 : n0 ≤ b58 := g58 ▸ Z0
  rw [← g58] at A58 D58 st58
  have Z60 : n0 ≤ h58.size := Nat.le_trans Z0 E58.1
  have F61 : Fld Z h58 b58 "com/example/bidwell/bidwell/market/Price" "units" "J" (.long (0 : Int64)) := D58 (Or.inr (hw _ (List.mem_of_getElem? (i := 19) rfl))) (ty := .long) (by decide)
  obtain ⟨_, _, ⟨T62, L62, k62, n62⟩, -, X62, ⟨Lc62, hQ62, l62, y62, z62⟩, st62⟩ := X58.specialBack hx (y := (⟨"com/example/bidwell/bidwell/market/Price", "<init>", "(J)V"⟩ : MethodName)) rfl hown (mvT hZ (hw _ (List.mem_of_getElem? (i := 6) rfl))) (mvT hZ (hw _ (List.mem_of_getElem? (i := 7) rfl))) (mvT hZ (hw _ (List.mem_of_getElem? (i := 8) rfl))) (by decide) (backOf (W := 1) (rm1 l Z a0 hw [] b58 un  h58 n0 Z60 F61 A58 g59 hb0 hb1) hZ (hw _ (List.mem_of_getElem? (i := 8) rfl)) (hw _ (List.mem_of_getElem? (i := 5) rfl)) (by decide) (by decide)) (g := (mkF m 48 #[.val (.long cs), .second, .val (.int rs), .val (.int flag), .val (.long ce), .second, .val (.int re), .val (.long un), .second, .unset] [(.long un), (.ref b58), (.ref b58)])) rfl (by rw [hml]; rfl) (Steps.refl _) (a := b58) (argsL := [(.long un)]) (rest := [(.ref b58)]) (lenOf pd_2 rfl) rfl (by show 2 * 0 + _ ≤ _; exact Nat.le_of_eq rfl) (hb hby at_48) (fun _ _ => ⟨rfl, e58, (by decide : 1 + 0 ≤ _), (by decide : 1 + 0 ≤ _)⟩)
  dsimp only [Pt.U, Pt.locs, Pt.cells, Pt.slots] at X62 l62 y62 z62 st62 hQ62
  subst l62 y62 z62
  obtain ⟨rfl, N62q, K62, Ex62, Fu62⟩ := hQ62
  have N62 := Fr.app N0 N62q
  have E63 := A58.keep K62
  have Z64 : n0 ≤ T62.heap.size := Nat.le_trans Z60 K62.1
  obtain ⟨cq65, kq65, q65a, q65b, q65c⟩ := isOf hZ rfl E63
  obtain ⟨_, _, ⟨T65, L65, k65, n65⟩, -, X65, ⟨Lc65, hQ65, l65, y65, z65⟩, st65⟩ := X62.virtualBack hx (y := (⟨"com/example/bidwell/bidwell/market/Price", "isWholeCents", "()Z"⟩ : MethodName)) (z := (⟨"com/example/bidwell/bidwell/market/Price", "isWholeCents", "()Z"⟩ : MethodName)) hown (mvT hZ (hw _ (List.mem_of_getElem? (i := 20) rfl))) (mvT hZ (hw _ (List.mem_of_getElem? (i := 21) rfl))) (notFace_of_selects (args := #[]) (mvT hZ (hw _ (List.mem_of_getElem? (i := 23) rfl)))) (mvT hZ (hw _ (List.mem_of_getElem? (i := 23) rfl))) (mvT hZ (hw _ (List.mem_of_getElem? (i := 22) rfl))) (by decide) (backOf (W := 0) (rm4 l Z a0 hw [] b58 un T62.heap n0 Z64 Fu62) hZ (hw _ (List.mem_of_getElem? (i := 24) rfl)) (hw _ (List.mem_of_getElem? (i := 5) rfl)) (by decide) (by decide)) q65a q65c (g := (mkF m 55 #[.val (.long cs), .second, .val (.int rs), .val (.int flag), .val (.long ce), .second, .val (.int re), .val (.long un), .second, .val (.ref b58)] [(.ref b58)])) rfl (by rw [hml]; rfl) (Steps.refl _) (argsL := []) (rest := []) (lenOf pd_3 rfl) rfl (by show 2 * 0 + _ ≤ _; exact Nat.le_of_eq rfl) (hb hby at_55) (fun _ _ => ⟨rfl, rfl, (by decide : 1 + 0 ≤ _), (by decide : 1 + 0 ≤ _)⟩)
  dsimp only [Pt.U, Pt.locs, Pt.cells, Pt.slots] at X65 l65 y65 z65 st65 hQ65
  subst l65 y65 z65
  obtain ⟨r1, rfl, hr1, N65q, e65⟩ := hQ65
  have N65 := Fr.app N62 N65q
  have k66 : ∀ t, Steps p.tables e below (T65.setTop (mkF m 60 #[.val (.long cs), .second, .val (.int rs), .val (.int flag), .val (.long ce), .second, .val (.int re), .val (.long un), .second, .val (.ref b58)] [(.int re), (.int r1)])) t → Steps p.tables e below (s₁.setTop (entryFrame m #[(.long cs), (.int rs), (.int flag)] maxLocals)) t := fun t hk => k57 t (by
    show Steps p.tables e below (s₁.setTop (mkF m 42 #[.val (.long cs), .second, .val (.int rs), .val (.int flag), .val (.long ce), .second, .val (.int re), .val (.long un), .second, .unset] [])) _
    refine st58 _ ?_
    show Steps p.tables e below (T58.setTop (mkF m 45 #[.val (.long cs), .second, .val (.int rs), .val (.int flag), .val (.long ce), .second, .val (.int re), .val (.long un), .second, .unset] [(.ref b58)])) _
    refine XS.dup X58.here hx rfl (hb hby at_45) rfl rfl ?_
    show Steps p.tables e below (T58.setTop (mkF m 46 #[.val (.long cs), .second, .val (.int rs), .val (.int flag), .val (.long ce), .second, .val (.int re), .val (.long un), .second, .unset] [(.ref b58), (.ref b58)])) _
    refine XS.lload X58.here hx rfl (hb hby at_46) rfl ?_
    show Steps p.tables e below (T58.setTop (mkF m 48 #[.val (.long cs), .second, .val (.int rs), .val (.int flag), .val (.long ce), .second, .val (.int re), .val (.long un), .second, .unset] [(.long un), (.ref b58), (.ref b58)])) _
    refine st62.trans ?_
    show Steps p.tables e below (T62.setTop (mkF m 51 #[.val (.long cs), .second, .val (.int rs), .val (.int flag), .val (.long ce), .second, .val (.int re), .val (.long un), .second, .unset] [(.ref b58)])) _
    refine XS.astore X62.here hx rfl (hb hby at_51) rfl rfl (l' := #[.val (.long cs), .second, .val (.int rs), .val (.int flag), .val (.long ce), .second, .val (.int re), .val (.long un), .second, .val (.ref b58)]) rfl ?_
    show Steps p.tables e below (T62.setTop (mkF m 53 #[.val (.long cs), .second, .val (.int rs), .val (.int flag), .val (.long ce), .second, .val (.int re), .val (.long un), .second, .val (.ref b58)] [])) _
    refine XS.aload X62.here hx rfl (hb hby at_53) rfl rfl ?_
    show Steps p.tables e below (T62.setTop (mkF m 55 #[.val (.long cs), .second, .val (.int rs), .val (.int flag), .val (.long ce), .second, .val (.int re), .val (.long un), .second, .val (.ref b58)] [(.ref b58)])) _
    refine st65.trans ?_
    show Steps p.tables e below (T65.setTop (mkF m 58 #[.val (.long cs), .second, .val (.int rs), .val (.int flag), .val (.long ce), .second, .val (.int re), .val (.long un), .second, .val (.ref b58)] [(.int r1)])) _
    refine XS.iload X65.here hx rfl (hb hby at_58) rfl ?_
    exact hk)
  obtain ⟨ex, hex, k67⟩ : ∃ (ex : Int32), (ex = (if re = (0 : Int32) then (1 : Int32) else (0 : Int32))) ∧ ∀ t, Steps p.tables e below (T65.setTop (mkF m 68 #[.val (.long cs), .second, .val (.int rs), .val (.int flag), .val (.long ce), .second, .val (.int re), .val (.long un), .second, .val (.ref b58)] [(.int ex), (.int r1)])) t → Steps p.tables e below (s₁.setTop (entryFrame m #[(.long cs), (.int rs), (.int flag)] maxLocals)) t := by
    by_cases hc60 : re = (0 : Int32)
    ·
      refine ⟨(1 : Int32), ((if_pos hc60).trans rfl).symm, fun t hk => k66 t ?_⟩
      show Steps p.tables e below (T65.setTop (mkF m 60 #[.val (.long cs), .second, .val (.int rs), .val (.int flag), .val (.long ce), .second, .val (.int re), .val (.long un), .second, .val (.ref b58)] [(.int re), (.int r1)])) _
      refine XS.ifNo X65.here hx rfl (hb hby at_60) rfl ((if0 _ _).trans (teq hc60).2) ?_
      show Steps p.tables e below (T65.setTop (mkF m 63 #[.val (.long cs), .second, .val (.int rs), .val (.int flag), .val (.long ce), .second, .val (.int re), .val (.long un), .second, .val (.ref b58)] [(.int r1)])) _
      refine XS.iconst X65.here hx rfl (hb hby at_63) ?_
      show Steps p.tables e below (T65.setTop (mkF m 64 #[.val (.long cs), .second, .val (.int rs), .val (.int flag), .val (.long ce), .second, .val (.int re), .val (.long un), .second, .val (.ref b58)] [(.int (1 : Int32)), (.int r1)])) _
      refine XS.goto X65.here hx rfl (pc0 := 64) (pc' := 68) rfl (hb hby at_64) (by decide) (by decide) ?_
      exact hk
    ·
      refine ⟨(0 : Int32), ((if_neg hc60).trans rfl).symm, fun t hk => k66 t ?_⟩
      show Steps p.tables e below (T65.setTop (mkF m 60 #[.val (.long cs), .second, .val (.int rs), .val (.int flag), .val (.long ce), .second, .val (.int re), .val (.long un), .second, .val (.ref b58)] [(.int re), (.int r1)])) _
      refine XS.ifYes X65.here hx rfl (pc0 := 60) (pc' := 67) rfl (hb hby at_60) rfl ((if0 _ _).trans (feq hc60).2) (by decide) (by decide) ?_
      show Steps p.tables e below (T65.setTop (mkF m 67 #[.val (.long cs), .second, .val (.int rs), .val (.int flag), .val (.long ce), .second, .val (.int re), .val (.long un), .second, .val (.ref b58)] [(.int r1)])) _
      refine XS.iconst X65.here hx rfl (hb hby at_67) ?_
      exact hk
  have hfin : r1 = ex := by rw [hr1, hex]; by_cases h : re = 0 <;> simp [hb2, h]
  have k68 : ∀ t, Steps p.tables e below (T65.setTop (mkF m 76 #[.val (.long cs), .second, .val (.int rs), .val (.int flag), .val (.long ce), .second, .val (.int re), .val (.long un), .second, .val (.ref b58)] [(.int (1 : Int32))])) t → Steps p.tables e below (s₁.setTop (entryFrame m #[(.long cs), (.int rs), (.int flag)] maxLocals)) t := fun t hk => k67 t (by
    show Steps p.tables e below (T65.setTop (mkF m 68 #[.val (.long cs), .second, .val (.int rs), .val (.int flag), .val (.long ce), .second, .val (.int re), .val (.long un), .second, .val (.ref b58)] [(.int ex), (.int r1)])) _
    refine XS.icmpNo X65.here hx rfl (hb hby at_68) rfl (teq hfin).2 ?_
    show Steps p.tables e below (T65.setTop (mkF m 71 #[.val (.long cs), .second, .val (.int rs), .val (.int flag), .val (.long ce), .second, .val (.int re), .val (.long un), .second, .val (.ref b58)] [])) _
    refine XS.iconst X65.here hx rfl (hb hby at_71) ?_
    show Steps p.tables e below (T65.setTop (mkF m 72 #[.val (.long cs), .second, .val (.int rs), .val (.int flag), .val (.long ce), .second, .val (.int re), .val (.long un), .second, .val (.ref b58)] [(.int (1 : Int32))])) _
    refine XS.goto X65.here hx rfl (pc0 := 72) (pc' := 76) rfl (hb hby at_72) (by decide) (by decide) ?_
    exact hk)
  obtain ⟨fs, hr, hrun, hended, hW, hsame⟩ := X65.leave (v := some (.int (nar .boolean (1 : Int32)))) (fun h => by rw [Bd.returns] at h; cases h)
  refine ⟨_, _, k68 _ ?_, hrun, hended, _, _, rfl, ?_, ⟨_, rfl⟩, hW, hsame.mono (by decide) (by decide)⟩
  · show Steps p.tables e below (T65.setTop (mkF m 76 #[.val (.long cs), .second, .val (.int rs), .val (.int flag), .val (.long ce), .second, .val (.int re), .val (.long un), .second, .val (.ref b58)] [(.int (1 : Int32))])) _
    exact retN X65 hx (t := .boolean) Bd.returns (by simp) (hb hby at_76) hr
  · show Q0 Z cs rs flag h0 n0 _ T65.heap _
    rw [e65]
    exact ⟨rfl, N65⟩
set_option maxRecDepth 65536 in
set_option maxHeartbeats 40000000 in
theorem comes_1 {Post : Tables → Env → Array Value → State → Outcome → State → Prop} (hpost : ∀ tb e args s v u, (limb_1_1.after args s (.returned v) u = true ∧ limb_1_2.after args s (.returned v) u = true ∧ True) → FrameEnd s (.returned v) u (Jvm.fieldLocs frame_1_writes args s ++ Jvm.arrayLocs frame_1_arrays args s ++ Jvm.staticLocs frame_1_statics s) 16 128 → Post tb e args s (.returned v) u) :
    ArmFor flags0 classFile x code maxLocals ret World_1 tables_1 room_1 Calls_1 rest_1 Pre_1 Post := by
  intro l hfl _ _ p e ha hc hk s m args below hf hA hF happ hP
  obtain ⟨hcalls, hrest, hpre⟩ := hP
  obtain ⟨-, -, -, hnamed, -, -, -, hat⟩ := (Spec.applies_iff hf).mp happ
  obtain ⟨hg, hn⟩ := and_e (Cond.before_iff.mp (show (Jvm.Cond.and given_1 narrow_1).before args s = true from hpre))
  obtain ⟨hcnt, hg0⟩ := and_e hg
  obtain ⟨hv0, hg1⟩ := and_e hg0
  obtain ⟨hv1, hg2⟩ := and_e hg1
  have hv2 := hg2
  obtain ⟨w0, w1, w2, rfl⟩ : ∃ w0 w1 w2 : Value, args = #[w0, w1, w2] := by
    have hs : args.size = 3 := by simpa [Cond.value, given_1] using hcnt
    obtain ⟨L⟩ := args
    match L, hs with
    | [w0, w1, w2], _ => exact ⟨w0, w1, w2, rfl⟩
  have hw := fun d (hd : d ∈ tables_1) => atoms_spec (ws := Jvm.Cond.code x code maxLocals ret :: tables_1) hat d (List.mem_cons_of_mem _ hd)
  obtain ⟨i0, ei0⟩ := isL_v hv0
  obtain rfl : w0 = (.long i0) := Option.some.inj ei0
  obtain ⟨i1, ei1⟩ := is_v hv1
  obtain rfl : w1 = (.int i1) := Option.some.inj ei1
  obtain ⟨i2, ei2⟩ := is_v hv2
  obtain rfl : w2 = (.int i2) := Option.some.inj ei2
  obtain ⟨n, o, h1, h2, h3, _, L, rfl, ⟨rfl, N⟩, hq⟩ := rm0 l s _ hw tables_1 i0 i1 i2 s.heap s.heap.size (Nat.le_refl _)  p e ha hc hk s m _ below hf ((Spec.applies_iff_loose hf).mp happ).1 ⟨rfl, State.Warmed39.refl s, rfl⟩ trivial
  refine ⟨n, _, h1, h2, h3, hpost _ _ _ _ _ _ ⟨Cond.after_iff.mpr rfl, Cond.after_iff.mpr (eq_i res_at (Term.int_eval (1)) rfl), trivial⟩ ⟨hq.1, hq.2.1, (hq.2.2.sift fun y hy => Or.inr (N y hy)).mono (by decide) (by decide)⟩⟩
theorem main_1_1 : Claimed_1_1 := comes_1 fun _ _ _ _ _ _ h hF => ⟨h.1, hF⟩
theorem main_1_2 : Claimed_1_2 := comes_1 fun _ _ _ _ _ _ h hF => ⟨h.2.1, hF⟩
end Jvm.Pilot.@@N@@
namespace Jvm.Pilot.@@N@@
open Jvm Jvm.ClassFile Sem Op Lib Jvm.Free Jvm.Stand Jvm.Pilot.@@N@@.Jvm.D
/-! MADE BY PROGRAM (witnessworld.py) out of the Statement's table words and the real class files: 11 classes; the members and pool entries that the words name. The judged class is class 1, her method 1. -/
namespace start1
open Jvm.ClassFile
def u (s : String) : CpInfo := .utf8 (stringToUtf16 s)
/-- a pool by its gaps: so many unusable entries, then the entry; so many at the end -/
def gap : Nat → List CpInfo → List CpInfo
  | 0, r => r
  | n + 1, r => .unusable :: gap n r
def poolList (es : List (Nat × CpInfo)) (last : Nat) : List CpInfo := es.foldr (fun e r => gap e.1 (e.2 :: r)) (gap last [])
def pool (es : List (Nat × CpInfo)) (last : Nat) : Array CpInfo := ⟨poolList es last⟩
def fileOf (pool : Array CpInfo) (this : Nat) (attrs : Array Attribute := #[]) (ms : Array MethodInfo := #[]) (fl : Nat := 33) (sup : Nat := 0) (ifs : Array Nat := #[]) (fds : Array FieldInfo := #[]) : ClassFile where
  minorVersion := 0
  majorVersion := 65
  constantPool := pool
  accessFlags := fl
  thisClass := this
  superClass := sup
  interfaces := ifs
  fields := fds
  methods := ms
  attributes := attrs
def plain (name : String) (sup : Option ClassId) : Class where
  name := name
  kind := .ordinary
  loader := none
  accessFlags := 33
  super := sup
  interfaces := #[]
  cf := none
  fields := #[]
  methods := #[]
  instanceTypes := #[]
  staticTypes := #[]
  resolved := #[]
  callSites := []
  init := .initialized
  statics := none
  mirror := none

def pool0 : Array CpInfo := pool [(5, u "<init>"), (0, u "()V"), (1, .class_ 10), (1, u "java/lang/Object")] 113

def k0c0 : Code := { maxStack := 0, maxLocals := 1, code := object_method_1_code, exceptionTable := #[], attributes := #[] }
def k0m0 : Method := { name := "<init>", desc := "()V", sig := { parameters := [], returnType := none }, accessFlags := 1, code := some k0c0 }
/-- java/lang/Object -/
def k0 : Class := { plain "java/lang/Object" none with
  accessFlags := 33
  interfaces := #[]
  cf := some (fileOf pool0 8 #[] #[{ accessFlags := 1, nameIndex := 5, descriptorIndex := 6, attributes := #[] }] 33 0 #[] #[])
  fields := #[]
  methods := #[k0m0]
  instanceTypes := #[]
  staticTypes := #[]
  resolved := Array.replicate 124 none
  statics := none }

def pool1 : Array CpInfo := pool [(2, .class_ 4), (1, u "java/lang/Object"), (0, u "<init>"), (0, u "()V"), (2, .long 9223372036854775807), (1, .long 10000000000), (1, .integer 2147483647), (0, .long 100), (1, .class_ 17), (0, u "com/example/bidwell/bidwell/market/Price"), (0, .methodref 16 19), (0, .nameAndType 5 20), (0, u "(J)V"), (0, .methodref 16 22), (0, .nameAndType 23 24), (0, u "isWholeCents"), (0, u "()Z"), (0, .class_ 26), (0, u "com/example/bidwell/bidwell/market/PriceIsWholeCentsPinLaw"), (2, u "law"), (0, u "(JII)Z")] 3

def k1m0 : Method := { name := "<init>", desc := "()V", sig := { parameters := [], returnType := none }, accessFlags := 1, code := none }
def k1c1 : Code := { maxStack := 4, maxLocals := 10, code := code, exceptionTable := #[], attributes := #[] }
def k1m1 : Method := { name := "law", desc := "(JII)Z", sig := { parameters := [.long, .int, .int], returnType := some .boolean }, accessFlags := 9, code := some k1c1 }
/-- com/example/bidwell/bidwell/market/PriceIsWholeCentsPinLaw -/
def k1 : Class := { plain "com/example/bidwell/bidwell/market/PriceIsWholeCentsPinLaw" (some 0) with
  accessFlags := 49
  interfaces := #[]
  cf := some (fileOf pool1 25 #[] #[{ accessFlags := 1, nameIndex := 5, descriptorIndex := 6, attributes := #[] }, { accessFlags := 9, nameIndex := 29, descriptorIndex := 30, attributes := #[] }] 49 2 #[] #[])
  fields := #[]
  methods := #[k1m0, k1m1]
  instanceTypes := #[]
  staticTypes := #[]
  resolved := Array.replicate 34 none
  statics := none }

def pool2 : Array CpInfo := pool [(1, .methodref 2 3), (0, .class_ 4), (0, .nameAndType 5 6), (0, u "java/lang/Object"), (0, u "<init>"), (0, u "()V"), (0, .class_ 8), (0, u "java/lang/Record")] 13

def k2c0 : Code := { maxStack := 1, maxLocals := 1, code := jdk_30_method_1_code, exceptionTable := #[], attributes := #[] }
def k2m0 : Method := { name := "<init>", desc := "()V", sig := { parameters := [], returnType := none }, accessFlags := 4, code := some k2c0 }
/-- java/lang/Record -/
def k2 : Class := { plain "java/lang/Record" (some 0) with
  accessFlags := 1057
  interfaces := #[]
  cf := some (fileOf pool2 7 #[] #[{ accessFlags := 4, nameIndex := 5, descriptorIndex := 6, attributes := #[] }] 1057 2 #[] #[])
  fields := #[]
  methods := #[k2m0]
  instanceTypes := #[]
  staticTypes := #[]
  resolved := Array.replicate 22 none
  statics := none }

def pool3 : Array CpInfo := pool [(1, .class_ 2), (0, u "java/lang/Comparable"), (0, .class_ 4), (0, u "java/lang/Object")] 7

/-- java/lang/Comparable -/
def k3 : Class := { plain "java/lang/Comparable" (some 0) with
  accessFlags := 1537
  interfaces := #[]
  cf := some (fileOf pool3 1 #[] #[] 1537 3 #[] #[])
  fields := #[]
  methods := #[]
  instanceTypes := #[]
  staticTypes := #[]
  resolved := Array.replicate 12 none
  statics := none }

def pool4 : Array CpInfo := pool [(1, .class_ 2), (0, u "com/example/bidwell/bidwell/market/Price"), (0, .methodref 4 5), (0, .class_ 6), (0, .nameAndType 7 8), (0, u "java/lang/Record"), (0, u "<init>"), (0, u "()V"), (0, .long 999999999999), (10, .fieldref 1 21), (0, .nameAndType 22 23), (0, u "units"), (0, u "J"), (2, u "DECIMAL"), (0, u "Ljava/util/regex/Pattern;"), (11, u "()Z"), (29, u "(J)V"), (4, .long 100), (46, .class_ 122), (0, u "java/lang/Comparable"), (0, u "UNITS_PER_DOLLAR"), (1, u "UNITS_PER_CENT"), (0, u "MAX_UNITS"), (8, u "isWholeCents")] 42

def k4c0 : Code := { maxStack := 4, maxLocals := 3, code := prog_40_method_1_code, exceptionTable := #[], attributes := #[] }
def k4m0 : Method := { name := "<init>", desc := "(J)V", sig := { parameters := [.long], returnType := none }, accessFlags := 1, code := some k4c0 }
def k4c1 : Code := { maxStack := 4, maxLocals := 1, code := prog_40_method_3_code, exceptionTable := #[], attributes := #[] }
def k4m1 : Method := { name := "isWholeCents", desc := "()Z", sig := { parameters := [], returnType := some .boolean }, accessFlags := 1, code := some k4c1 }
/-- com/example/bidwell/bidwell/market/Price -/
def k4 : Class := { plain "com/example/bidwell/bidwell/market/Price" (some 2) with
  accessFlags := 49
  interfaces := #[3]
  cf := some (fileOf pool4 1 #[] #[{ accessFlags := 1, nameIndex := 7, descriptorIndex := 69, attributes := #[] }, { accessFlags := 1, nameIndex := 135, descriptorIndex := 39, attributes := #[] }] 49 4 #[121] #[{ accessFlags := 18, nameIndex := 22, descriptorIndex := 23, attributes := #[] }, { accessFlags := 25, nameIndex := 123, descriptorIndex := 23, attributes := #[] }, { accessFlags := 25, nameIndex := 125, descriptorIndex := 23, attributes := #[] }, { accessFlags := 25, nameIndex := 126, descriptorIndex := 23, attributes := #[] }, { accessFlags := 26, nameIndex := 26, descriptorIndex := 27, attributes := #[] }])
  fields := #[{ name := "units", type := .long, accessFlags := 18, slot := 0, constantValue := 0 }, { name := "UNITS_PER_DOLLAR", type := .long, accessFlags := 25, slot := 0, constantValue := 0 }, { name := "UNITS_PER_CENT", type := .long, accessFlags := 25, slot := 1, constantValue := 0 }, { name := "MAX_UNITS", type := .long, accessFlags := 25, slot := 2, constantValue := 0 }, { name := "DECIMAL", type := (.object "java/util/regex/Pattern"), accessFlags := 26, slot := 3, constantValue := 0 }]
  methods := #[k4m0, k4m1]
  instanceTypes := #[.long]
  staticTypes := #[.long, .long, .long, (.object "java/util/regex/Pattern")]
  resolved := Array.replicate 178 none
  statics := none }

def pool5 : Array CpInfo := pool [(1, u "java/lang/Cloneable"), (0, .class_ 1), (0, u "java/lang/Object"), (0, .class_ 3)] 3

/-- java/lang/Cloneable -/
def k5 : Class := { plain "java/lang/Cloneable" (some 0) with
  accessFlags := 1537
  interfaces := #[]
  cf := some (fileOf pool5 2 #[] #[] 1537 4 #[] #[])
  fields := #[]
  methods := #[]
  instanceTypes := #[]
  staticTypes := #[]
  resolved := Array.replicate 8 none
  statics := none }

def pool6 : Array CpInfo := pool [(1, u "java/io/Serializable"), (0, .class_ 1), (0, u "java/lang/Object"), (0, .class_ 3)] 3

/-- java/io/Serializable -/
def k6 : Class := { plain "java/io/Serializable" (some 0) with
  accessFlags := 1537
  interfaces := #[]
  cf := some (fileOf pool6 2 #[] #[] 1537 4 #[] #[])
  fields := #[]
  methods := #[]
  instanceTypes := #[]
  staticTypes := #[]
  resolved := Array.replicate 8 none
  statics := none }

/-- the primitive byte -/
def k7 : Class := { plain "byte" none with kind := .primitive 'B', accessFlags := 0x411 }
/-- [B -/
def k8 : Class := { plain "[B" (some 0) with kind := .array 7 .byte, interfaces := #[5, 6], accessFlags := 1041 }

/-- the primitive int -/
def k9 : Class := { plain "int" none with kind := .primitive 'I', accessFlags := 0x411 }
/-- [I -/
def k10 : Class := { plain "[I" (some 0) with kind := .array 9 .int, interfaces := #[5, 6], accessFlags := 1041 }

def heap : Heap := #[]
def classes : Array Class := #[k0, k1, k2, k3, k4, k5, k6, k7, k8, k9, k10]
def interned : List (Array UInt16 × Addr) := []
def slotsUsed : Nat := 0
def theMethod : MethodId := ⟨1, 1⟩
def args0 : Array Value := #[.long 5, .int 7, .int 0]
def aboutOver (below : List Frame) : State where
  vm := { classes := classes, interned := interned.toArray }
  heap := heap
  slotsUsed := slotsUsed
  threads := #[{ frames := .invoking theMethod args0 :: below }]
def below0 : List Frame := [.native { method := ⟨0, 0⟩, args := #[] }]
def about1 : State := aboutOver below0
def p0 : Program := .bare "" "" ""
def e0 : Env := launch0.env 0 0 0
theorem w_frames : about1.frames = Frame.invoking theMethod args0 :: below0 := rfl
set_option maxRecDepth 65536 in
theorem w_args : argsFit about1.vm theMethod args0 = true := by decide +kernel
set_option maxRecDepth 65536 in
theorem w_heap : heapFits about1 = true := by decide +kernel
set_option maxRecDepth 65536 in
theorem w_runnable : about1.curStatus? = some .runnable := by decide +kernel
set_option maxRecDepth 65536 in
theorem w_alone : about1.alone = true := by decide +kernel
set_option maxRecDepth 65536 in
theorem w_named : about1.methodNamed? x = some theMethod := by decide +kernel
set_option maxRecDepth 65536 in
theorem w_hears : about1.hears theMethod below0 = true := by decide +kernel
set_option maxRecDepth 65536 in
theorem w_ripe : about1.ripe theMethod args0 below0 = true := by decide +kernel
theorem w_running : about1.status = .running := rfl
set_option maxRecDepth 65536 in
theorem w_room : about1.hasRoom e0.platform room_1 = true :=
  launch0.hasRoom_least _ room_1 (by decide +kernel) (by decide +kernel) (by decide +kernel) (by decide +kernel) (by decide +kernel) (by decide +kernel)
theorem allAtoms_all (ts : List Jvm.Cond) (a : Array Jvm.Value) (st : Jvm.State) : (allAtoms ts).before a st = ts.all (fun c => c.before a st) := by
  induction ts with
  | nil => rfl
  | cons c t ih =>
    show (Jvm.Cond.and c (allAtoms t)).before a st = _
    rw [Jvm.Cond.before_and, ih, List.all_cons]
def words1 : List Jvm.Cond := Jvm.Cond.code x code maxLocals ret :: tables_1
/-- a 'code' word, met by the world's own term for the bytes: nothing is compared byte by byte -/
theorem code_word {y : MethodName} {bytes : ByteArray} {mx : Nat} {rt : Option FieldType} {a : Array Value} {s : State} {m : MethodId} {meth : Method} {c : Code} (h1 : s.methodNamed? y = some m) (h2 : s.vm.method? m = some meth) (h3 : meth.code = some c) (h4 : c.code = bytes)
    (h5 : (c.maxLocals == mx && c.exceptionTable.isEmpty && decide (c.maxStack ≤ mostOperands) && decide (meth.sig.returnType = rt) && !meth.locks && decide (parseMethodDescriptor y.desc = some meth.sig)) = true) : (Jvm.Cond.code y bytes mx rt).before a s = true := by
  simp only [Bool.and_eq_true, beq_iff_eq, Bool.not_eq_true', decide_eq_true_eq] at h5
  obtain ⟨⟨⟨⟨⟨g1, g2⟩, g3⟩, g4⟩, g5⟩, g6⟩ := h5
  simp [Cond.before, Cond.holds, Cond.value, h1, h2, h3, h4, g1, g2, g3, g4, g5, g6]
def isCode : Jvm.Cond → Bool
  | .code _ _ _ _ => true
  | _ => false
theorem all_split {L : List Jvm.Cond} {P : Jvm.Cond → Bool} (h1 : L.all (fun c => isCode c || P c) = true) (h2 : ∀ c ∈ L.filter isCode, P c = true) : L.all P = true := by
  refine List.all_eq_true.mpr fun c hc => ?_
  have h := List.all_eq_true.mp h1 c hc
  rcases Bool.eq_false_or_eq_true (isCode c) with hi | hi
  · exact h2 c (List.mem_filter.mpr ⟨hc, hi⟩)
  · simpa [hi] using h
set_option maxRecDepth 65536 in
theorem w_c0 : (Jvm.Cond.code x code maxLocals ret).before args0 about1 = true := code_word (m := ⟨1, 1⟩) (meth := k1m1) (c := k1c1) (by decide +kernel) rfl rfl rfl (by decide +kernel)
set_option maxRecDepth 65536 in
theorem w_c1 : (Jvm.Cond.code ({ cls := "com/example/bidwell/bidwell/market/Price", name := "<init>", desc := "(J)V" } : Jvm.MethodName) prog_40_method_1_code (3 : Nat) (Option.none : Option Jvm.ClassFile.FieldType)).before args0 about1 = true := code_word (m := ⟨4, 0⟩) (meth := k4m0) (c := k4c0) (by decide +kernel) rfl rfl rfl (by decide +kernel)
set_option maxRecDepth 65536 in
theorem w_c2 : (Jvm.Cond.code ({ cls := "java/lang/Record", name := "<init>", desc := "()V" } : Jvm.MethodName) jdk_30_method_1_code (1 : Nat) (Option.none : Option Jvm.ClassFile.FieldType)).before args0 about1 = true := code_word (m := ⟨2, 0⟩) (meth := k2m0) (c := k2c0) (by decide +kernel) rfl rfl rfl (by decide +kernel)
set_option maxRecDepth 65536 in
theorem w_c3 : (Jvm.Cond.code ({ cls := "java/lang/Object", name := "<init>", desc := "()V" } : Jvm.MethodName) object_method_1_code (1 : Nat) (Option.none : Option Jvm.ClassFile.FieldType)).before args0 about1 = true := code_word (m := ⟨0, 0⟩) (meth := k0m0) (c := k0c0) (by decide +kernel) rfl rfl rfl (by decide +kernel)
set_option maxRecDepth 65536 in
theorem w_c4 : (Jvm.Cond.code ({ cls := "com/example/bidwell/bidwell/market/Price", name := "isWholeCents", desc := "()Z" } : Jvm.MethodName) prog_40_method_3_code (1 : Nat) (Option.some Jvm.ClassFile.FieldType.boolean)).before args0 about1 = true := code_word (m := ⟨4, 1⟩) (meth := k4m1) (c := k4c1) (by decide +kernel) rfl rfl rfl (by decide +kernel)
def codes1 : List Jvm.Cond := [Jvm.Cond.code x code maxLocals ret, Jvm.Cond.code ({ cls := "com/example/bidwell/bidwell/market/Price", name := "<init>", desc := "(J)V" } : Jvm.MethodName) prog_40_method_1_code (3 : Nat) (Option.none : Option Jvm.ClassFile.FieldType), Jvm.Cond.code ({ cls := "java/lang/Record", name := "<init>", desc := "()V" } : Jvm.MethodName) jdk_30_method_1_code (1 : Nat) (Option.none : Option Jvm.ClassFile.FieldType), Jvm.Cond.code ({ cls := "java/lang/Object", name := "<init>", desc := "()V" } : Jvm.MethodName) object_method_1_code (1 : Nat) (Option.none : Option Jvm.ClassFile.FieldType), Jvm.Cond.code ({ cls := "com/example/bidwell/bidwell/market/Price", name := "isWholeCents", desc := "()Z" } : Jvm.MethodName) prog_40_method_3_code (1 : Nat) (Option.some Jvm.ClassFile.FieldType.boolean)]
set_option maxRecDepth 65536 in
theorem codes_eq : words1.filter isCode = codes1 := rfl
theorem w_codes : ∀ c ∈ words1.filter isCode, c.before args0 about1 = true := by
  rw [codes_eq]
  intro c hc
  simp only [codes1, List.mem_cons, List.not_mem_nil, or_false] at hc
  rcases hc with rfl | rfl | rfl | rfl | rfl
  · exact w_c0
  · exact w_c1
  · exact w_c2
  · exact w_c3
  · exact w_c4
set_option maxRecDepth 65536 in
theorem w_t1 : (words1.take 24).all (fun c => isCode c || c.before args0 about1) = true := by decide +kernel
set_option maxRecDepth 65536 in
theorem w_t2 : (words1.drop 24).all (fun c => isCode c || c.before args0 about1) = true := by decide +kernel
theorem w_tables : (allAtoms (Jvm.Cond.code x code maxLocals ret :: tables_1)).before args0 about1 = true := by
  rw [allAtoms_all]
  show words1.all (fun c => c.before args0 about1) = true
  refine all_split ?_ w_codes
  rw [← List.take_append_drop 24 words1, List.all_append, w_t1, w_t2]
  rfl
set_option maxRecDepth 65536 in
theorem w_case : (Jvm.Cond.and given_1 narrow_1).before args0 about1 = true := by decide +kernel
theorem w_applies : (headSpec (Jvm.Cond.code x code maxLocals ret :: tables_1) room_1).applies x e0.platform about1 = true :=
  (Spec.applies_iff w_frames).mpr ⟨w_running, w_runnable, w_alone, w_named, w_hears, w_ripe, w_room, w_tables⟩
theorem atStart : AtStart classFile x code maxLocals ret World_1 tables_1 room_1 Calls_1 rest_1 Pre_1 launch0 p0 e0 about1 theMethod args0 below0 :=
  ⟨lists_1, trivial, launch0.admits_env _ _ _, launch0.least_env, fairChoices_fair.cas, fairChoices_fair.clock, w_frames, w_args, w_heap, w_applies, trivial, trivial, w_case⟩
end start1
theorem witness_1 : WitnessClaimed_1 := ⟨start1.p0, start1.e0, start1.about1, start1.theMethod, start1.args0, start1.below0, start1.atStart⟩
end Jvm.Pilot.@@N@@
