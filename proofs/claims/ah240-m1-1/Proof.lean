import JvmDerived
import JvmDerived.Pilot.@@N@@Statement
import JvmDerived.Pilot.@@N@@Code
set_option linter.unusedVariables false
set_option linter.unusedSimpArgs false
namespace Jvm.RoadKit
open Sem ClassFile Op Lib Jvm.Stand Jvm.Free Jvm.LawKit
section New
variable {p : Program} {l : Launch} {e : Env} {R : Room} {s : State} {m : MethodId} {args : Array Value} {below : List Frame} {meth : Method} {c : Code} {T : State} {locs : List Loc} {cells slots : Nat}
theorem retI (X : Stand p l e R s m args below meth c T locs cells slots) (hx : p.tables.exec = Jvm.exec) {pc : Nat} {Ls : Array Slot} {z : Int32} {rest : List Value} (hret : meth.sig.returnType = some .int) (hd : decode c.code pc = .ok (.ireturn, 1)) {fs : List Frame}
    (hl : ∀ (f : JFrame) (acts : List Action), f.method = m → f.locked = none → f.entered = [] → (doReturn e (T.setTop f) acts (some (.int z))).1 = T.setFrames fs) : Steps p.tables e below (T.setTop (mkF m pc Ls (.int z :: rest))) (T.setFrames fs) := by
  have hm' : T.vm.method? m = some meth := X.method'
  have hn : narrow .int (.int z) = .int z := rfl
  show Steps p.tables e below (T.setTop { method := m, pc := pc, locals := Ls, stack := _ :: rest, locked := none }) _
  jvm_step X.here [X.here.top, hx, hd, hm', hret, hn]
  first | (intro acts; rw [hl _ acts rfl rfl rfl]) | rw [hl _ _ rfl rfl rfl]
  exact Steps.refl _
theorem own_lremM {g : JFrame} {target : State} (X : Stand p l e R s m args below meth c T locs cells slots) (hx : p.tables.exec = Jvm.exec) (hg : g.method = m) {x y : Int64} {rest : List Value} (hd : decode c.code g.pc = .ok (.lrem, 1)) (hs : g.stack = .long y :: .long x :: rest) (hy : y ≠ 0)
    (hr : Steps p.tables e below (T.setTop { g with pc := g.pc + 1, stack := .long (x % y) :: rest }) target) : Steps p.tables e below (T.setTop g) target := by
  have q : x - x / y * y = x % y := lrem_mod x y
  exact XS.lrem X.here hx hg hd hs hy (by rw [q]; exact hr)
end New
end Jvm.RoadKit
namespace Jvm.Pilot.@@N@@
open Jvm Jvm.ClassFile Sem Op Lib Jvm.Free Jvm.Stand Jvm.LawKit Jvm.RoadKit Bundle Jvm.Pilot.@@N@@.Jvm.D

theorem own_nar {r : Int32} (h : r = 0 ∨ r = 1) : nar .boolean r = r := by rcases h with rfl | rfl <;> rfl
theorem pd_1 : parseMethodDescriptor "(JJJ)Z" = some ⟨[.long, .long, .long], some .boolean⟩ := by decide +kernel
theorem d1_0 : decode prog_98_method_5_code 0 = .ok (.lload 4, 2) := by decide +kernel
theorem d1_2 : decode prog_98_method_5_code 2 = .ok (.ldc2_w 17, 3) := by decide +kernel
theorem d1_5 : decode prog_98_method_5_code 5 = .ok (.lcmp, 1) := by decide +kernel
theorem d1_6 : decode prog_98_method_5_code 6 = .ok (.ifCond .eq 16, 3) := by decide +kernel
theorem d1_9 : decode prog_98_method_5_code 9 = .ok (.lload_n 0, 1) := by decide +kernel
theorem d1_10 : decode prog_98_method_5_code 10 = .ok (.lload_n 2, 1) := by decide +kernel
theorem d1_11 : decode prog_98_method_5_code 11 = .ok (.lsub, 1) := by decide +kernel
theorem d1_12 : decode prog_98_method_5_code 12 = .ok (.lload 4, 2) := by decide +kernel
theorem d1_14 : decode prog_98_method_5_code 14 = .ok (.lcmp, 1) := by decide +kernel
theorem d1_15 : decode prog_98_method_5_code 15 = .ok (.ifCond .lt 7, 3) := by decide +kernel
theorem d1_18 : decode prog_98_method_5_code 18 = .ok (.iconst 1, 1) := by decide +kernel
theorem d1_19 : decode prog_98_method_5_code 19 = .ok (.goto 4, 3) := by decide +kernel
theorem d1_22 : decode prog_98_method_5_code 22 = .ok (.iconst 0, 1) := by decide +kernel
theorem d1_23 : decode prog_98_method_5_code 23 = .ok (.ireturn, 1) := by decide +kernel
theorem pn_1 : plainName "com/example/lease/lease/core/Nanos" = true := by first | (simp [plainName, overriddenIn]; done) | decide +kernel
theorem ef_1 (m : MethodId) (q1 : Int64) (q2 : Int64) (q3 : Int64) : entryFrame m #[(.long q1), (.long q2), (.long q3)] 6 = (mkF m 0 #[.val (.long q1), .second, .val (.long q2), .second, .val (.long q3), .second] []) := by first | (simp [entryFrame, mkF, argsToLocals, Value.category]; done) | rfl
def Q1 (Z : State) (q1 : Int64) (q2 : Int64) (q3 : Int64) (h0 : Heap) (n0 : Nat) (v : Option Value) (h : Heap) (L : List Loc) : Prop := ∃ r : Int32, v = some (.int r) ∧ r = (if q3 = (9223372036854775807 : Int64) then (0 : Int32) else if (q1 - q2) < q3 then (0 : Int32) else (1 : Int32)) ∧ Fr n0 L ∧ h = h0
set_option maxRecDepth 65536 in
set_option maxHeartbeats 40000000 in
theorem rm1 (l : Launch) (Z : State) (a0 : Array Value) (hw : ∀ d ∈ tables_1, d.before a0 Z = true) (ws : List Jvm.Cond) (q1 : Int64) (q2 : Int64) (q3 : Int64) (h0 : Heap) (n0 : Nat) (Z0 : n0 ≤ h0.size)  :
    MetFree l (⟨"com/example/lease/lease/core/Nanos", "outlived", "(JJJ)Z"⟩ : MethodName) (head1 (Jvm.Cond.code (⟨"com/example/lease/lease/core/Nanos", "outlived", "(JJJ)Z"⟩ : MethodName) prog_98_method_5_code 6 (some .boolean) :: ws) ({ frames := 0, cells := 0, slots := 0, locals := 0 } : Room)) (fun a U => a = #[(.long q1), (.long q2), (.long q3)] ∧ Z.Warmed39 U.vm ∧ U.heap = h0) (fun _ _ _ _ _ => True) (fun _ U o U' => ∃ v L, o = .returned v ∧ Q1 Z q1 q2 q3 h0 n0 v U'.heap L ∧ FrameEnd U o U' L ({ frames := 0, cells := 0, slots := 0, locals := 0 } : Room).cells ({ frames := 0, cells := 0, slots := 0, locals := 0 } : Room).slots) := by
  refine MetFree.of_bodySF (plainFor_of_name pn_1) hisR ?_
  intro p e s m args below meth c s₁ Bd hml0 hP hK
  obtain ⟨rfl, hZ, hh⟩ := hP
  have hx := Bd.exec
  have hby := Bd.bytes
  have hml : c.maxLocals = 6 := hml0
  have hown : s.vm.findClass "com/example/lease/lease/core/Nanos" = some m.cls := findClass_of_methodNamed Bd.named
  have hnm := (name_of_methodNamed Bd.named Bd.method).1
  have X0 : Stand p l e ({ frames := 0, cells := 0, slots := 0, locals := 0 } : Room) s m #[(.long q1), (.long q2), (.long q3)] below meth c s₁ [] 0 0 := Stand.of_body Bd
  have e0 : s₁.heap = h0 := by rw [← hh, Bd.state]; rfl
  have N0 := Fr.nil n0
  have pre0 : ∀ t, Steps p.tables e below (s₁.setTop (mkF m 0 #[.val (.long q1), .second, .val (.long q2), .second, .val (.long q3), .second] [])) t → Steps p.tables e below (s₁.setTop (entryFrame m #[(.long q1), (.long q2), (.long q3)] 6)) t := fun t k => castTop (ef_1 m q1 q2 q3) k
  have k1 : ∀ t, Steps p.tables e below (s₁.setTop (mkF m 6 #[.val (.long q1), .second, .val (.long q2), .second, .val (.long q3), .second] [(.int (lcmpW q3 (9223372036854775807 : Int64)))])) t → Steps p.tables e below (s₁.setTop (entryFrame m #[(.long q1), (.long q2), (.long q3)] 6)) t := fun t hk => pre0 t (by
    show Steps p.tables e below (s₁.setTop (mkF m 0 #[.val (.long q1), .second, .val (.long q2), .second, .val (.long q3), .second] [])) _
    refine XS.lload X0.here hx rfl (hb hby d1_0) rfl ?_
    show Steps p.tables e below (s₁.setTop (mkF m 2 #[.val (.long q1), .second, .val (.long q2), .second, .val (.long q3), .second] [(.long q3)])) _
    refine X0.ldc2Long hx hown (mvT hZ (hw _ (List.mem_of_getElem? (i := 5) rfl))) (g := (mkF m 2 #[.val (.long q1), .second, .val (.long q2), .second, .val (.long q3), .second] [(.long q3)])) rfl (hb hby d1_2) _ ?_
    show Steps p.tables e below (s₁.setTop (mkF m 5 #[.val (.long q1), .second, .val (.long q2), .second, .val (.long q3), .second] [(.long (9223372036854775807 : Int64)), (.long q3)])) _
    refine XS.lcmp X0.here hx rfl (hb hby d1_5) rfl ?_
    exact hk)
  obtain ⟨r0, hr0, k2⟩ : ∃ (r0 : Int32), (r0 = (if q3 = (9223372036854775807 : Int64) then (0 : Int32) else (if (q1 - q2) < q3 then (0 : Int32) else (1 : Int32)))) ∧ ∀ t, Steps p.tables e below (s₁.setTop (mkF m 23 #[.val (.long q1), .second, .val (.long q2), .second, .val (.long q3), .second] [(.int r0)])) t → Steps p.tables e below (s₁.setTop (entryFrame m #[(.long q1), (.long q2), (.long q3)] 6)) t := by
    by_cases hc6 : q3 = (9223372036854775807 : Int64)
    ·
      refine ⟨(0 : Int32), ((if_pos hc6).trans rfl).symm, fun t hk => k1 t ?_⟩
      show Steps p.tables e below (s₁.setTop (mkF m 6 #[.val (.long q1), .second, .val (.long q2), .second, .val (.long q3), .second] [(.int (lcmpW q3 (9223372036854775807 : Int64)))])) _
      refine XS.ifYes X0.here hx rfl (pc0 := 6) (pc' := 22) rfl (hb hby d1_6) rfl ((if0 _ _).trans (teq ((lw_eq _ _).mpr hc6)).1) (by decide) (by decide) ?_
      show Steps p.tables e below (s₁.setTop (mkF m 22 #[.val (.long q1), .second, .val (.long q2), .second, .val (.long q3), .second] [])) _
      refine XS.iconst X0.here hx rfl (hb hby d1_22) ?_
      exact hk
    ·
      by_cases hc15 : (q1 - q2) < q3
      ·
        refine ⟨(0 : Int32), ((if_neg hc6).trans ((if_pos hc15).trans rfl)).symm, fun t hk => k1 t ?_⟩
        show Steps p.tables e below (s₁.setTop (mkF m 6 #[.val (.long q1), .second, .val (.long q2), .second, .val (.long q3), .second] [(.int (lcmpW q3 (9223372036854775807 : Int64)))])) _
        refine XS.ifNo X0.here hx rfl (hb hby d1_6) rfl ((if0 _ _).trans (feq (fun q => hc6 ((lw_eq _ _).mp q))).1) ?_
        show Steps p.tables e below (s₁.setTop (mkF m 9 #[.val (.long q1), .second, .val (.long q2), .second, .val (.long q3), .second] [])) _
        refine XS.lloadN X0.here hx rfl (hb hby d1_9) rfl ?_
        show Steps p.tables e below (s₁.setTop (mkF m 10 #[.val (.long q1), .second, .val (.long q2), .second, .val (.long q3), .second] [(.long q1)])) _
        refine XS.lloadN X0.here hx rfl (hb hby d1_10) rfl ?_
        show Steps p.tables e below (s₁.setTop (mkF m 11 #[.val (.long q1), .second, .val (.long q2), .second, .val (.long q3), .second] [(.long q2), (.long q1)])) _
        refine XS.lsub X0.here hx rfl (hb hby d1_11) rfl ?_
        show Steps p.tables e below (s₁.setTop (mkF m 12 #[.val (.long q1), .second, .val (.long q2), .second, .val (.long q3), .second] [(.long (q1 - q2))])) _
        refine XS.lload X0.here hx rfl (hb hby d1_12) rfl ?_
        show Steps p.tables e below (s₁.setTop (mkF m 14 #[.val (.long q1), .second, .val (.long q2), .second, .val (.long q3), .second] [(.long q3), (.long (q1 - q2))])) _
        refine XS.lcmp X0.here hx rfl (hb hby d1_14) rfl ?_
        show Steps p.tables e below (s₁.setTop (mkF m 15 #[.val (.long q1), .second, .val (.long q2), .second, .val (.long q3), .second] [(.int (lcmpW (q1 - q2) q3))])) _
        refine XS.ifYes X0.here hx rfl (pc0 := 15) (pc' := 22) rfl (hb hby d1_15) rfl ((if0 _ _).trans (tlt ((lw_lt _ _).mpr hc15)).1) (by decide) (by decide) ?_
        show Steps p.tables e below (s₁.setTop (mkF m 22 #[.val (.long q1), .second, .val (.long q2), .second, .val (.long q3), .second] [])) _
        refine XS.iconst X0.here hx rfl (hb hby d1_22) ?_
        exact hk
      ·
        refine ⟨(1 : Int32), ((if_neg hc6).trans ((if_neg hc15).trans rfl)).symm, fun t hk => k1 t ?_⟩
        show Steps p.tables e below (s₁.setTop (mkF m 6 #[.val (.long q1), .second, .val (.long q2), .second, .val (.long q3), .second] [(.int (lcmpW q3 (9223372036854775807 : Int64)))])) _
        refine XS.ifNo X0.here hx rfl (hb hby d1_6) rfl ((if0 _ _).trans (feq (fun q => hc6 ((lw_eq _ _).mp q))).1) ?_
        show Steps p.tables e below (s₁.setTop (mkF m 9 #[.val (.long q1), .second, .val (.long q2), .second, .val (.long q3), .second] [])) _
        refine XS.lloadN X0.here hx rfl (hb hby d1_9) rfl ?_
        show Steps p.tables e below (s₁.setTop (mkF m 10 #[.val (.long q1), .second, .val (.long q2), .second, .val (.long q3), .second] [(.long q1)])) _
        refine XS.lloadN X0.here hx rfl (hb hby d1_10) rfl ?_
        show Steps p.tables e below (s₁.setTop (mkF m 11 #[.val (.long q1), .second, .val (.long q2), .second, .val (.long q3), .second] [(.long q2), (.long q1)])) _
        refine XS.lsub X0.here hx rfl (hb hby d1_11) rfl ?_
        show Steps p.tables e below (s₁.setTop (mkF m 12 #[.val (.long q1), .second, .val (.long q2), .second, .val (.long q3), .second] [(.long (q1 - q2))])) _
        refine XS.lload X0.here hx rfl (hb hby d1_12) rfl ?_
        show Steps p.tables e below (s₁.setTop (mkF m 14 #[.val (.long q1), .second, .val (.long q2), .second, .val (.long q3), .second] [(.long q3), (.long (q1 - q2))])) _
        refine XS.lcmp X0.here hx rfl (hb hby d1_14) rfl ?_
        show Steps p.tables e below (s₁.setTop (mkF m 15 #[.val (.long q1), .second, .val (.long q2), .second, .val (.long q3), .second] [(.int (lcmpW (q1 - q2) q3))])) _
        refine XS.ifNo X0.here hx rfl (hb hby d1_15) rfl ((if0 _ _).trans (flt (fun q => hc15 ((lw_lt _ _).mp q))).1) ?_
        show Steps p.tables e below (s₁.setTop (mkF m 18 #[.val (.long q1), .second, .val (.long q2), .second, .val (.long q3), .second] [])) _
        refine XS.iconst X0.here hx rfl (hb hby d1_18) ?_
        show Steps p.tables e below (s₁.setTop (mkF m 19 #[.val (.long q1), .second, .val (.long q2), .second, .val (.long q3), .second] [(.int (1 : Int32))])) _
        refine XS.goto X0.here hx rfl (pc0 := 19) (pc' := 23) rfl (hb hby d1_19) (by decide) (by decide) ?_
        exact hk
  obtain ⟨fs, hr, hrun, hended, hW, hsame⟩ := X0.leave (v := some (.int (nar .boolean r0))) (fun h => by rw [Bd.returns] at h; cases h)
  refine ⟨_, _, k2 _ ?_, hrun, hended, _, _, rfl, ?_, ⟨_, rfl⟩, hW, hsame.mono (by decide) (by decide)⟩
  · show Steps p.tables e below (s₁.setTop (mkF m 23 #[.val (.long q1), .second, .val (.long q2), .second, .val (.long q3), .second] [(.int r0)])) _
    exact retN X0 hx (t := .boolean) Bd.returns (by simp) (hb hby d1_23) hr
  · show Q1 Z q1 q2 q3 h0 n0 _ s₁.heap _
    rw [e0]
    exact ⟨_, rfl, (own_nar (by rw [hr0]; (repeat' split) <;> simp)).trans hr0, N0, rfl⟩
theorem pn_0 : plainName "com/example/lease/lease/core/NanosOutlivedPinLaw" = true := by first | (simp [plainName, overriddenIn]; done) | decide +kernel
theorem ef_0 (m : MethodId) (since : Int64) (d : Int64) (limit : Int64) (flag : Int32) : entryFrame m #[(.long since), (.long d), (.long limit), (.int flag)] maxLocals = (mkF m 0 #[.val (.long since), .second, .val (.long d), .second, .val (.long limit), .second, .val (.int flag), .unset, .unset, .unset, .unset, .unset, .unset, .unset] []) := by first | (simp [entryFrame, mkF, argsToLocals, Value.category, maxLocals]; done) | rfl
def Q0 (Z : State) (since : Int64) (d : Int64) (limit : Int64) (flag : Int32) (h0 : Heap) (n0 : Nat) (v : Option Value) (h : Heap) (L : List Loc) : Prop := v = some (.int 1) ∧ Fr n0 L
set_option maxRecDepth 65536 in
set_option maxHeartbeats 40000000 in
theorem rm0 (l : Launch) (Z : State) (a0 : Array Value) (hw : ∀ d ∈ tables_1, d.before a0 Z = true) (ws : List Jvm.Cond) (since : Int64) (d : Int64) (limit : Int64) (flag : Int32) (h0 : Heap) (n0 : Nat) (Z0 : n0 ≤ h0.size)  :
    MetFree l x (head1 (Jvm.Cond.code x code maxLocals ret :: ws) room_1) (fun a U => a = #[(.long since), (.long d), (.long limit), (.int flag)] ∧ Z.Warmed39 U.vm ∧ U.heap = h0) (fun _ _ _ _ _ => True) (fun _ U o U' => ∃ v L, o = .returned v ∧ Q0 Z since d limit flag h0 n0 v U'.heap L ∧ FrameEnd U o U' L room_1.cells room_1.slots) := by
  refine MetFree.of_bodySF (plainFor_of_name pn_0) hisR ?_
  intro p e s m args below meth c s₁ Bd hml0 hP hK
  obtain ⟨rfl, hZ, hh⟩ := hP
  have hx := Bd.exec
  have hby := Bd.bytes
  have hml : c.maxLocals = 14 := hml0
  have hown : s.vm.findClass "com/example/lease/lease/core/NanosOutlivedPinLaw" = some m.cls := findClass_of_methodNamed Bd.named
  have hnm := (name_of_methodNamed Bd.named Bd.method).1
  have X0 : Stand p l e room_1 s m #[(.long since), (.long d), (.long limit), (.int flag)] below meth c s₁ [] 0 0 := Stand.of_body Bd
  have e0 : s₁.heap = h0 := by rw [← hh, Bd.state]; rfl
  have N0 := Fr.nil n0
  have pre0 : ∀ t, Steps p.tables e below (s₁.setTop (mkF m 0 #[.val (.long since), .second, .val (.long d), .second, .val (.long limit), .second, .val (.int flag), .unset, .unset, .unset, .unset, .unset, .unset, .unset] [])) t → Steps p.tables e below (s₁.setTop (entryFrame m #[(.long since), (.long d), (.long limit), (.int flag)] maxLocals)) t := fun t k => castTop (ef_0 m since d limit flag) k
  have k3 : ∀ t, Steps p.tables e below (s₁.setTop (mkF m 8 #[.val (.long since), .second, .val (.long d), .second, .val (.long limit), .second, .val (.int flag), .val (.long limit), .second, .unset, .unset, .unset, .unset, .unset] [(.int (flag &&& (1 : Int32)))])) t → Steps p.tables e below (s₁.setTop (entryFrame m #[(.long since), (.long d), (.long limit), (.int flag)] maxLocals)) t := fun t hk => pre0 t (by
    show Steps p.tables e below (s₁.setTop (mkF m 0 #[.val (.long since), .second, .val (.long d), .second, .val (.long limit), .second, .val (.int flag), .unset, .unset, .unset, .unset, .unset, .unset, .unset] [])) _
    refine XS.lload X0.here hx rfl (hb hby at_0) rfl ?_
    show Steps p.tables e below (s₁.setTop (mkF m 2 #[.val (.long since), .second, .val (.long d), .second, .val (.long limit), .second, .val (.int flag), .unset, .unset, .unset, .unset, .unset, .unset, .unset] [(.long limit)])) _
    refine XS.lstore X0.here hx rfl (hb hby at_2) rfl (l' := #[.val (.long since), .second, .val (.long d), .second, .val (.long limit), .second, .val (.int flag), .val (.long limit), .second, .unset, .unset, .unset, .unset, .unset]) rfl ?_
    show Steps p.tables e below (s₁.setTop (mkF m 4 #[.val (.long since), .second, .val (.long d), .second, .val (.long limit), .second, .val (.int flag), .val (.long limit), .second, .unset, .unset, .unset, .unset, .unset] [])) _
    refine XS.iload X0.here hx rfl (hb hby at_4) rfl ?_
    show Steps p.tables e below (s₁.setTop (mkF m 6 #[.val (.long since), .second, .val (.long d), .second, .val (.long limit), .second, .val (.int flag), .val (.long limit), .second, .unset, .unset, .unset, .unset, .unset] [(.int flag)])) _
    refine XS.iconst X0.here hx rfl (hb hby at_6) ?_
    show Steps p.tables e below (s₁.setTop (mkF m 7 #[.val (.long since), .second, .val (.long d), .second, .val (.long limit), .second, .val (.int flag), .val (.long limit), .second, .unset, .unset, .unset, .unset, .unset] [(.int (1 : Int32)), (.int flag)])) _
    refine XS.iand X0.here hx rfl (hb hby at_7) rfl ?_
    exact hk)
  obtain ⟨lm, hlm, k4⟩ : ∃ (lm : Int64), (lm = (if (flag &&& (1 : Int32)) = (0 : Int32) then limit else (9223372036854775807 : Int64))) ∧ ∀ t, Steps p.tables e below (s₁.setTop (mkF m 16 #[.val (.long since), .second, .val (.long d), .second, .val (.long limit), .second, .val (.int flag), .val (.long lm), .second, .unset, .unset, .unset, .unset, .unset] [])) t → Steps p.tables e below (s₁.setTop (entryFrame m #[(.long since), (.long d), (.long limit), (.int flag)] maxLocals)) t := by
    by_cases hc8 : (flag &&& (1 : Int32)) = (0 : Int32)
    ·
      refine ⟨limit, ((if_pos hc8).trans rfl).symm, fun t hk => k3 t ?_⟩
      show Steps p.tables e below (s₁.setTop (mkF m 8 #[.val (.long since), .second, .val (.long d), .second, .val (.long limit), .second, .val (.int flag), .val (.long limit), .second, .unset, .unset, .unset, .unset, .unset] [(.int (flag &&& (1 : Int32)))])) _
      refine XS.ifYes X0.here hx rfl (pc0 := 8) (pc' := 16) rfl (hb hby at_8) rfl ((if0 _ _).trans (teq hc8).1) (by decide) (by decide) ?_
      exact hk
    ·
      refine ⟨(9223372036854775807 : Int64), ((if_neg hc8).trans rfl).symm, fun t hk => k3 t ?_⟩
      show Steps p.tables e below (s₁.setTop (mkF m 8 #[.val (.long since), .second, .val (.long d), .second, .val (.long limit), .second, .val (.int flag), .val (.long limit), .second, .unset, .unset, .unset, .unset, .unset] [(.int (flag &&& (1 : Int32)))])) _
      refine XS.ifNo X0.here hx rfl (hb hby at_8) rfl ((if0 _ _).trans (feq hc8).1) ?_
      show Steps p.tables e below (s₁.setTop (mkF m 11 #[.val (.long since), .second, .val (.long d), .second, .val (.long limit), .second, .val (.int flag), .val (.long limit), .second, .unset, .unset, .unset, .unset, .unset] [])) _
      refine X0.ldc2Long hx hown (mvT hZ (hw _ (List.mem_of_getElem? (i := 0) rfl))) (g := (mkF m 11 #[.val (.long since), .second, .val (.long d), .second, .val (.long limit), .second, .val (.int flag), .val (.long limit), .second, .unset, .unset, .unset, .unset, .unset] [])) rfl (hb hby at_11) _ ?_
      show Steps p.tables e below (s₁.setTop (mkF m 14 #[.val (.long since), .second, .val (.long d), .second, .val (.long limit), .second, .val (.int flag), .val (.long limit), .second, .unset, .unset, .unset, .unset, .unset] [(.long (9223372036854775807 : Int64))])) _
      refine XS.lstore X0.here hx rfl (hb hby at_14) rfl (l' := #[.val (.long since), .second, .val (.long d), .second, .val (.long limit), .second, .val (.int flag), .val (.long (9223372036854775807 : Int64)), .second, .unset, .unset, .unset, .unset, .unset]) rfl ?_
      exact hk
  have k5 : ∀ t, Steps p.tables e below (s₁.setTop (mkF m 30 #[.val (.long since), .second, .val (.long d), .second, .val (.long limit), .second, .val (.int flag), .val (.long lm), .second, .val (.long d), .second, .val (.int (((flag.toUInt32 >>> ((1 : Int32) &&& 31).toUInt32).toInt32) &&& (3 : Int32))), .unset, .unset] [(.int (1 : Int32)), (.int (((flag.toUInt32 >>> ((1 : Int32) &&& 31).toUInt32).toInt32) &&& (3 : Int32)))])) t → Steps p.tables e below (s₁.setTop (entryFrame m #[(.long since), (.long d), (.long limit), (.int flag)] maxLocals)) t := fun t hk => k4 t (by
    show Steps p.tables e below (s₁.setTop (mkF m 16 #[.val (.long since), .second, .val (.long d), .second, .val (.long limit), .second, .val (.int flag), .val (.long lm), .second, .unset, .unset, .unset, .unset, .unset] [])) _
    refine XS.lloadN X0.here hx rfl (hb hby at_16) rfl ?_
    show Steps p.tables e below (s₁.setTop (mkF m 17 #[.val (.long since), .second, .val (.long d), .second, .val (.long limit), .second, .val (.int flag), .val (.long lm), .second, .unset, .unset, .unset, .unset, .unset] [(.long d)])) _
    refine XS.lstore X0.here hx rfl (hb hby at_17) rfl (l' := #[.val (.long since), .second, .val (.long d), .second, .val (.long limit), .second, .val (.int flag), .val (.long lm), .second, .val (.long d), .second, .unset, .unset, .unset]) rfl ?_
    show Steps p.tables e below (s₁.setTop (mkF m 19 #[.val (.long since), .second, .val (.long d), .second, .val (.long limit), .second, .val (.int flag), .val (.long lm), .second, .val (.long d), .second, .unset, .unset, .unset] [])) _
    refine XS.iload X0.here hx rfl (hb hby at_19) rfl ?_
    show Steps p.tables e below (s₁.setTop (mkF m 21 #[.val (.long since), .second, .val (.long d), .second, .val (.long limit), .second, .val (.int flag), .val (.long lm), .second, .val (.long d), .second, .unset, .unset, .unset] [(.int flag)])) _
    refine XS.iconst X0.here hx rfl (hb hby at_21) ?_
    show Steps p.tables e below (s₁.setTop (mkF m 22 #[.val (.long since), .second, .val (.long d), .second, .val (.long limit), .second, .val (.int flag), .val (.long lm), .second, .val (.long d), .second, .unset, .unset, .unset] [(.int (1 : Int32)), (.int flag)])) _
    refine XS.iushr X0.here hx rfl (hb hby at_22) rfl ?_
    show Steps p.tables e below (s₁.setTop (mkF m 23 #[.val (.long since), .second, .val (.long d), .second, .val (.long limit), .second, .val (.int flag), .val (.long lm), .second, .val (.long d), .second, .unset, .unset, .unset] [(.int ((flag.toUInt32 >>> ((1 : Int32) &&& 31).toUInt32).toInt32))])) _
    refine XS.iconst X0.here hx rfl (hb hby at_23) ?_
    show Steps p.tables e below (s₁.setTop (mkF m 24 #[.val (.long since), .second, .val (.long d), .second, .val (.long limit), .second, .val (.int flag), .val (.long lm), .second, .val (.long d), .second, .unset, .unset, .unset] [(.int (3 : Int32)), (.int ((flag.toUInt32 >>> ((1 : Int32) &&& 31).toUInt32).toInt32))])) _
    refine XS.iand X0.here hx rfl (hb hby at_24) rfl ?_
    show Steps p.tables e below (s₁.setTop (mkF m 25 #[.val (.long since), .second, .val (.long d), .second, .val (.long limit), .second, .val (.int flag), .val (.long lm), .second, .val (.long d), .second, .unset, .unset, .unset] [(.int (((flag.toUInt32 >>> ((1 : Int32) &&& 31).toUInt32).toInt32) &&& (3 : Int32)))])) _
    refine XS.istore X0.here hx rfl (hb hby at_25) rfl (l' := #[.val (.long since), .second, .val (.long d), .second, .val (.long limit), .second, .val (.int flag), .val (.long lm), .second, .val (.long d), .second, .val (.int (((flag.toUInt32 >>> ((1 : Int32) &&& 31).toUInt32).toInt32) &&& (3 : Int32))), .unset, .unset]) rfl ?_
    show Steps p.tables e below (s₁.setTop (mkF m 27 #[.val (.long since), .second, .val (.long d), .second, .val (.long limit), .second, .val (.int flag), .val (.long lm), .second, .val (.long d), .second, .val (.int (((flag.toUInt32 >>> ((1 : Int32) &&& 31).toUInt32).toInt32) &&& (3 : Int32))), .unset, .unset] [])) _
    refine XS.iload X0.here hx rfl (hb hby at_27) rfl ?_
    show Steps p.tables e below (s₁.setTop (mkF m 29 #[.val (.long since), .second, .val (.long d), .second, .val (.long limit), .second, .val (.int flag), .val (.long lm), .second, .val (.long d), .second, .val (.int (((flag.toUInt32 >>> ((1 : Int32) &&& 31).toUInt32).toInt32) &&& (3 : Int32))), .unset, .unset] [(.int (((flag.toUInt32 >>> ((1 : Int32) &&& 31).toUInt32).toInt32) &&& (3 : Int32)))])) _
    refine XS.iconst X0.here hx rfl (hb hby at_29) ?_
    exact hk)
  obtain ⟨ev, hev, k6⟩ : ∃ (ev : Int64), (ev = (if (((flag.toUInt32 >>> ((1 : Int32) &&& 31).toUInt32).toInt32) &&& (3 : Int32)) = (1 : Int32) then lm else (if (((flag.toUInt32 >>> ((1 : Int32) &&& 31).toUInt32).toInt32) &&& (3 : Int32)) = (2 : Int32) then (lm - (1 : Int64)) else (if (((flag.toUInt32 >>> ((1 : Int32) &&& 31).toUInt32).toInt32) &&& (3 : Int32)) = (3 : Int32) then (lm + (1 : Int64)) else d)))) ∧ ∀ t, Steps p.tables e below (s₁.setTop (mkF m 67 #[.val (.long since), .second, .val (.long d), .second, .val (.long limit), .second, .val (.int flag), .val (.long lm), .second, .val (.long ev), .second, .val (.int (((flag.toUInt32 >>> ((1 : Int32) &&& 31).toUInt32).toInt32) &&& (3 : Int32))), .unset, .unset] [])) t → Steps p.tables e below (s₁.setTop (entryFrame m #[(.long since), (.long d), (.long limit), (.int flag)] maxLocals)) t := by
    by_cases hc30 : (((flag.toUInt32 >>> ((1 : Int32) &&& 31).toUInt32).toInt32) &&& (3 : Int32)) = (1 : Int32)
    ·
      refine ⟨lm, ((if_pos hc30).trans rfl).symm, fun t hk => k5 t ?_⟩
      show Steps p.tables e below (s₁.setTop (mkF m 30 #[.val (.long since), .second, .val (.long d), .second, .val (.long limit), .second, .val (.int flag), .val (.long lm), .second, .val (.long d), .second, .val (.int (((flag.toUInt32 >>> ((1 : Int32) &&& 31).toUInt32).toInt32) &&& (3 : Int32))), .unset, .unset] [(.int (1 : Int32)), (.int (((flag.toUInt32 >>> ((1 : Int32) &&& 31).toUInt32).toInt32) &&& (3 : Int32)))])) _
      refine XS.icmpNo X0.here hx rfl (hb hby at_30) rfl (teq hc30).2 ?_
      show Steps p.tables e below (s₁.setTop (mkF m 33 #[.val (.long since), .second, .val (.long d), .second, .val (.long limit), .second, .val (.int flag), .val (.long lm), .second, .val (.long d), .second, .val (.int (((flag.toUInt32 >>> ((1 : Int32) &&& 31).toUInt32).toInt32) &&& (3 : Int32))), .unset, .unset] [])) _
      refine XS.lload X0.here hx rfl (hb hby at_33) rfl ?_
      show Steps p.tables e below (s₁.setTop (mkF m 35 #[.val (.long since), .second, .val (.long d), .second, .val (.long limit), .second, .val (.int flag), .val (.long lm), .second, .val (.long d), .second, .val (.int (((flag.toUInt32 >>> ((1 : Int32) &&& 31).toUInt32).toInt32) &&& (3 : Int32))), .unset, .unset] [(.long lm)])) _
      refine XS.lstore X0.here hx rfl (hb hby at_35) rfl (l' := #[.val (.long since), .second, .val (.long d), .second, .val (.long limit), .second, .val (.int flag), .val (.long lm), .second, .val (.long lm), .second, .val (.int (((flag.toUInt32 >>> ((1 : Int32) &&& 31).toUInt32).toInt32) &&& (3 : Int32))), .unset, .unset]) rfl ?_
      show Steps p.tables e below (s₁.setTop (mkF m 37 #[.val (.long since), .second, .val (.long d), .second, .val (.long limit), .second, .val (.int flag), .val (.long lm), .second, .val (.long lm), .second, .val (.int (((flag.toUInt32 >>> ((1 : Int32) &&& 31).toUInt32).toInt32) &&& (3 : Int32))), .unset, .unset] [])) _
      refine XS.goto X0.here hx rfl (pc0 := 37) (pc' := 67) rfl (hb hby at_37) (by decide) (by decide) ?_
      exact hk
    ·
      by_cases hc43 : (((flag.toUInt32 >>> ((1 : Int32) &&& 31).toUInt32).toInt32) &&& (3 : Int32)) = (2 : Int32)
      ·
        refine ⟨(lm - (1 : Int64)), ((if_neg hc30).trans ((if_pos hc43).trans rfl)).symm, fun t hk => k5 t ?_⟩
        show Steps p.tables e below (s₁.setTop (mkF m 30 #[.val (.long since), .second, .val (.long d), .second, .val (.long limit), .second, .val (.int flag), .val (.long lm), .second, .val (.long d), .second, .val (.int (((flag.toUInt32 >>> ((1 : Int32) &&& 31).toUInt32).toInt32) &&& (3 : Int32))), .unset, .unset] [(.int (1 : Int32)), (.int (((flag.toUInt32 >>> ((1 : Int32) &&& 31).toUInt32).toInt32) &&& (3 : Int32)))])) _
        refine XS.icmpYes X0.here hx rfl (pc0 := 30) (pc' := 40) rfl (hb hby at_30) rfl (feq hc30).2 (by decide) (by decide) ?_
        show Steps p.tables e below (s₁.setTop (mkF m 40 #[.val (.long since), .second, .val (.long d), .second, .val (.long limit), .second, .val (.int flag), .val (.long lm), .second, .val (.long d), .second, .val (.int (((flag.toUInt32 >>> ((1 : Int32) &&& 31).toUInt32).toInt32) &&& (3 : Int32))), .unset, .unset] [])) _
        refine XS.iload X0.here hx rfl (hb hby at_40) rfl ?_
        show Steps p.tables e below (s₁.setTop (mkF m 42 #[.val (.long since), .second, .val (.long d), .second, .val (.long limit), .second, .val (.int flag), .val (.long lm), .second, .val (.long d), .second, .val (.int (((flag.toUInt32 >>> ((1 : Int32) &&& 31).toUInt32).toInt32) &&& (3 : Int32))), .unset, .unset] [(.int (((flag.toUInt32 >>> ((1 : Int32) &&& 31).toUInt32).toInt32) &&& (3 : Int32)))])) _
        refine XS.iconst X0.here hx rfl (hb hby at_42) ?_
        show Steps p.tables e below (s₁.setTop (mkF m 43 #[.val (.long since), .second, .val (.long d), .second, .val (.long limit), .second, .val (.int flag), .val (.long lm), .second, .val (.long d), .second, .val (.int (((flag.toUInt32 >>> ((1 : Int32) &&& 31).toUInt32).toInt32) &&& (3 : Int32))), .unset, .unset] [(.int (2 : Int32)), (.int (((flag.toUInt32 >>> ((1 : Int32) &&& 31).toUInt32).toInt32) &&& (3 : Int32)))])) _
        refine XS.icmpNo X0.here hx rfl (hb hby at_43) rfl (teq hc43).2 ?_
        show Steps p.tables e below (s₁.setTop (mkF m 46 #[.val (.long since), .second, .val (.long d), .second, .val (.long limit), .second, .val (.int flag), .val (.long lm), .second, .val (.long d), .second, .val (.int (((flag.toUInt32 >>> ((1 : Int32) &&& 31).toUInt32).toInt32) &&& (3 : Int32))), .unset, .unset] [])) _
        refine XS.lload X0.here hx rfl (hb hby at_46) rfl ?_
        show Steps p.tables e below (s₁.setTop (mkF m 48 #[.val (.long since), .second, .val (.long d), .second, .val (.long limit), .second, .val (.int flag), .val (.long lm), .second, .val (.long d), .second, .val (.int (((flag.toUInt32 >>> ((1 : Int32) &&& 31).toUInt32).toInt32) &&& (3 : Int32))), .unset, .unset] [(.long lm)])) _
        refine XS.lconst X0.here hx rfl (hb hby at_48) ?_
        show Steps p.tables e below (s₁.setTop (mkF m 49 #[.val (.long since), .second, .val (.long d), .second, .val (.long limit), .second, .val (.int flag), .val (.long lm), .second, .val (.long d), .second, .val (.int (((flag.toUInt32 >>> ((1 : Int32) &&& 31).toUInt32).toInt32) &&& (3 : Int32))), .unset, .unset] [(.long (1 : Int64)), (.long lm)])) _
        refine XS.lsub X0.here hx rfl (hb hby at_49) rfl ?_
        show Steps p.tables e below (s₁.setTop (mkF m 50 #[.val (.long since), .second, .val (.long d), .second, .val (.long limit), .second, .val (.int flag), .val (.long lm), .second, .val (.long d), .second, .val (.int (((flag.toUInt32 >>> ((1 : Int32) &&& 31).toUInt32).toInt32) &&& (3 : Int32))), .unset, .unset] [(.long (lm - (1 : Int64)))])) _
        refine XS.lstore X0.here hx rfl (hb hby at_50) rfl (l' := #[.val (.long since), .second, .val (.long d), .second, .val (.long limit), .second, .val (.int flag), .val (.long lm), .second, .val (.long (lm - (1 : Int64))), .second, .val (.int (((flag.toUInt32 >>> ((1 : Int32) &&& 31).toUInt32).toInt32) &&& (3 : Int32))), .unset, .unset]) rfl ?_
        show Steps p.tables e below (s₁.setTop (mkF m 52 #[.val (.long since), .second, .val (.long d), .second, .val (.long limit), .second, .val (.int flag), .val (.long lm), .second, .val (.long (lm - (1 : Int64))), .second, .val (.int (((flag.toUInt32 >>> ((1 : Int32) &&& 31).toUInt32).toInt32) &&& (3 : Int32))), .unset, .unset] [])) _
        refine XS.goto X0.here hx rfl (pc0 := 52) (pc' := 67) rfl (hb hby at_52) (by decide) (by decide) ?_
        exact hk
      ·
        by_cases hc58 : (((flag.toUInt32 >>> ((1 : Int32) &&& 31).toUInt32).toInt32) &&& (3 : Int32)) = (3 : Int32)
        ·
          refine ⟨(lm + (1 : Int64)), ((if_neg hc30).trans ((if_neg hc43).trans ((if_pos hc58).trans rfl))).symm, fun t hk => k5 t ?_⟩
          show Steps p.tables e below (s₁.setTop (mkF m 30 #[.val (.long since), .second, .val (.long d), .second, .val (.long limit), .second, .val (.int flag), .val (.long lm), .second, .val (.long d), .second, .val (.int (((flag.toUInt32 >>> ((1 : Int32) &&& 31).toUInt32).toInt32) &&& (3 : Int32))), .unset, .unset] [(.int (1 : Int32)), (.int (((flag.toUInt32 >>> ((1 : Int32) &&& 31).toUInt32).toInt32) &&& (3 : Int32)))])) _
          refine XS.icmpYes X0.here hx rfl (pc0 := 30) (pc' := 40) rfl (hb hby at_30) rfl (feq hc30).2 (by decide) (by decide) ?_
          show Steps p.tables e below (s₁.setTop (mkF m 40 #[.val (.long since), .second, .val (.long d), .second, .val (.long limit), .second, .val (.int flag), .val (.long lm), .second, .val (.long d), .second, .val (.int (((flag.toUInt32 >>> ((1 : Int32) &&& 31).toUInt32).toInt32) &&& (3 : Int32))), .unset, .unset] [])) _
          refine XS.iload X0.here hx rfl (hb hby at_40) rfl ?_
          show Steps p.tables e below (s₁.setTop (mkF m 42 #[.val (.long since), .second, .val (.long d), .second, .val (.long limit), .second, .val (.int flag), .val (.long lm), .second, .val (.long d), .second, .val (.int (((flag.toUInt32 >>> ((1 : Int32) &&& 31).toUInt32).toInt32) &&& (3 : Int32))), .unset, .unset] [(.int (((flag.toUInt32 >>> ((1 : Int32) &&& 31).toUInt32).toInt32) &&& (3 : Int32)))])) _
          refine XS.iconst X0.here hx rfl (hb hby at_42) ?_
          show Steps p.tables e below (s₁.setTop (mkF m 43 #[.val (.long since), .second, .val (.long d), .second, .val (.long limit), .second, .val (.int flag), .val (.long lm), .second, .val (.long d), .second, .val (.int (((flag.toUInt32 >>> ((1 : Int32) &&& 31).toUInt32).toInt32) &&& (3 : Int32))), .unset, .unset] [(.int (2 : Int32)), (.int (((flag.toUInt32 >>> ((1 : Int32) &&& 31).toUInt32).toInt32) &&& (3 : Int32)))])) _
          refine XS.icmpYes X0.here hx rfl (pc0 := 43) (pc' := 55) rfl (hb hby at_43) rfl (feq hc43).2 (by decide) (by decide) ?_
          show Steps p.tables e below (s₁.setTop (mkF m 55 #[.val (.long since), .second, .val (.long d), .second, .val (.long limit), .second, .val (.int flag), .val (.long lm), .second, .val (.long d), .second, .val (.int (((flag.toUInt32 >>> ((1 : Int32) &&& 31).toUInt32).toInt32) &&& (3 : Int32))), .unset, .unset] [])) _
          refine XS.iload X0.here hx rfl (hb hby at_55) rfl ?_
          show Steps p.tables e below (s₁.setTop (mkF m 57 #[.val (.long since), .second, .val (.long d), .second, .val (.long limit), .second, .val (.int flag), .val (.long lm), .second, .val (.long d), .second, .val (.int (((flag.toUInt32 >>> ((1 : Int32) &&& 31).toUInt32).toInt32) &&& (3 : Int32))), .unset, .unset] [(.int (((flag.toUInt32 >>> ((1 : Int32) &&& 31).toUInt32).toInt32) &&& (3 : Int32)))])) _
          refine XS.iconst X0.here hx rfl (hb hby at_57) ?_
          show Steps p.tables e below (s₁.setTop (mkF m 58 #[.val (.long since), .second, .val (.long d), .second, .val (.long limit), .second, .val (.int flag), .val (.long lm), .second, .val (.long d), .second, .val (.int (((flag.toUInt32 >>> ((1 : Int32) &&& 31).toUInt32).toInt32) &&& (3 : Int32))), .unset, .unset] [(.int (3 : Int32)), (.int (((flag.toUInt32 >>> ((1 : Int32) &&& 31).toUInt32).toInt32) &&& (3 : Int32)))])) _
          refine XS.icmpNo X0.here hx rfl (hb hby at_58) rfl (teq hc58).2 ?_
          show Steps p.tables e below (s₁.setTop (mkF m 61 #[.val (.long since), .second, .val (.long d), .second, .val (.long limit), .second, .val (.int flag), .val (.long lm), .second, .val (.long d), .second, .val (.int (((flag.toUInt32 >>> ((1 : Int32) &&& 31).toUInt32).toInt32) &&& (3 : Int32))), .unset, .unset] [])) _
          refine XS.lload X0.here hx rfl (hb hby at_61) rfl ?_
          show Steps p.tables e below (s₁.setTop (mkF m 63 #[.val (.long since), .second, .val (.long d), .second, .val (.long limit), .second, .val (.int flag), .val (.long lm), .second, .val (.long d), .second, .val (.int (((flag.toUInt32 >>> ((1 : Int32) &&& 31).toUInt32).toInt32) &&& (3 : Int32))), .unset, .unset] [(.long lm)])) _
          refine XS.lconst X0.here hx rfl (hb hby at_63) ?_
          show Steps p.tables e below (s₁.setTop (mkF m 64 #[.val (.long since), .second, .val (.long d), .second, .val (.long limit), .second, .val (.int flag), .val (.long lm), .second, .val (.long d), .second, .val (.int (((flag.toUInt32 >>> ((1 : Int32) &&& 31).toUInt32).toInt32) &&& (3 : Int32))), .unset, .unset] [(.long (1 : Int64)), (.long lm)])) _
          refine XS.ladd X0.here hx rfl (hb hby at_64) rfl ?_
          show Steps p.tables e below (s₁.setTop (mkF m 65 #[.val (.long since), .second, .val (.long d), .second, .val (.long limit), .second, .val (.int flag), .val (.long lm), .second, .val (.long d), .second, .val (.int (((flag.toUInt32 >>> ((1 : Int32) &&& 31).toUInt32).toInt32) &&& (3 : Int32))), .unset, .unset] [(.long (lm + (1 : Int64)))])) _
          refine XS.lstore X0.here hx rfl (hb hby at_65) rfl (l' := #[.val (.long since), .second, .val (.long d), .second, .val (.long limit), .second, .val (.int flag), .val (.long lm), .second, .val (.long (lm + (1 : Int64))), .second, .val (.int (((flag.toUInt32 >>> ((1 : Int32) &&& 31).toUInt32).toInt32) &&& (3 : Int32))), .unset, .unset]) rfl ?_
          exact hk
        ·
          refine ⟨d, ((if_neg hc30).trans ((if_neg hc43).trans ((if_neg hc58).trans rfl))).symm, fun t hk => k5 t ?_⟩
          show Steps p.tables e below (s₁.setTop (mkF m 30 #[.val (.long since), .second, .val (.long d), .second, .val (.long limit), .second, .val (.int flag), .val (.long lm), .second, .val (.long d), .second, .val (.int (((flag.toUInt32 >>> ((1 : Int32) &&& 31).toUInt32).toInt32) &&& (3 : Int32))), .unset, .unset] [(.int (1 : Int32)), (.int (((flag.toUInt32 >>> ((1 : Int32) &&& 31).toUInt32).toInt32) &&& (3 : Int32)))])) _
          refine XS.icmpYes X0.here hx rfl (pc0 := 30) (pc' := 40) rfl (hb hby at_30) rfl (feq hc30).2 (by decide) (by decide) ?_
          show Steps p.tables e below (s₁.setTop (mkF m 40 #[.val (.long since), .second, .val (.long d), .second, .val (.long limit), .second, .val (.int flag), .val (.long lm), .second, .val (.long d), .second, .val (.int (((flag.toUInt32 >>> ((1 : Int32) &&& 31).toUInt32).toInt32) &&& (3 : Int32))), .unset, .unset] [])) _
          refine XS.iload X0.here hx rfl (hb hby at_40) rfl ?_
          show Steps p.tables e below (s₁.setTop (mkF m 42 #[.val (.long since), .second, .val (.long d), .second, .val (.long limit), .second, .val (.int flag), .val (.long lm), .second, .val (.long d), .second, .val (.int (((flag.toUInt32 >>> ((1 : Int32) &&& 31).toUInt32).toInt32) &&& (3 : Int32))), .unset, .unset] [(.int (((flag.toUInt32 >>> ((1 : Int32) &&& 31).toUInt32).toInt32) &&& (3 : Int32)))])) _
          refine XS.iconst X0.here hx rfl (hb hby at_42) ?_
          show Steps p.tables e below (s₁.setTop (mkF m 43 #[.val (.long since), .second, .val (.long d), .second, .val (.long limit), .second, .val (.int flag), .val (.long lm), .second, .val (.long d), .second, .val (.int (((flag.toUInt32 >>> ((1 : Int32) &&& 31).toUInt32).toInt32) &&& (3 : Int32))), .unset, .unset] [(.int (2 : Int32)), (.int (((flag.toUInt32 >>> ((1 : Int32) &&& 31).toUInt32).toInt32) &&& (3 : Int32)))])) _
          refine XS.icmpYes X0.here hx rfl (pc0 := 43) (pc' := 55) rfl (hb hby at_43) rfl (feq hc43).2 (by decide) (by decide) ?_
          show Steps p.tables e below (s₁.setTop (mkF m 55 #[.val (.long since), .second, .val (.long d), .second, .val (.long limit), .second, .val (.int flag), .val (.long lm), .second, .val (.long d), .second, .val (.int (((flag.toUInt32 >>> ((1 : Int32) &&& 31).toUInt32).toInt32) &&& (3 : Int32))), .unset, .unset] [])) _
          refine XS.iload X0.here hx rfl (hb hby at_55) rfl ?_
          show Steps p.tables e below (s₁.setTop (mkF m 57 #[.val (.long since), .second, .val (.long d), .second, .val (.long limit), .second, .val (.int flag), .val (.long lm), .second, .val (.long d), .second, .val (.int (((flag.toUInt32 >>> ((1 : Int32) &&& 31).toUInt32).toInt32) &&& (3 : Int32))), .unset, .unset] [(.int (((flag.toUInt32 >>> ((1 : Int32) &&& 31).toUInt32).toInt32) &&& (3 : Int32)))])) _
          refine XS.iconst X0.here hx rfl (hb hby at_57) ?_
          show Steps p.tables e below (s₁.setTop (mkF m 58 #[.val (.long since), .second, .val (.long d), .second, .val (.long limit), .second, .val (.int flag), .val (.long lm), .second, .val (.long d), .second, .val (.int (((flag.toUInt32 >>> ((1 : Int32) &&& 31).toUInt32).toInt32) &&& (3 : Int32))), .unset, .unset] [(.int (3 : Int32)), (.int (((flag.toUInt32 >>> ((1 : Int32) &&& 31).toUInt32).toInt32) &&& (3 : Int32)))])) _
          refine XS.icmpYes X0.here hx rfl (pc0 := 58) (pc' := 67) rfl (hb hby at_58) rfl (feq hc58).2 (by decide) (by decide) ?_
          exact hk
  have k7 : ∀ t, Steps p.tables e below (s₁.setTop (mkF m 73 #[.val (.long since), .second, .val (.long d), .second, .val (.long limit), .second, .val (.int flag), .val (.long lm), .second, .val (.long ev), .second, .val (.int (((flag.toUInt32 >>> ((1 : Int32) &&& 31).toUInt32).toInt32) &&& (3 : Int32))), .unset, .unset] [(.int (lcmpW lm (9223372036854775807 : Int64)))])) t → Steps p.tables e below (s₁.setTop (entryFrame m #[(.long since), (.long d), (.long limit), (.int flag)] maxLocals)) t := fun t hk => k6 t (by
    show Steps p.tables e below (s₁.setTop (mkF m 67 #[.val (.long since), .second, .val (.long d), .second, .val (.long limit), .second, .val (.int flag), .val (.long lm), .second, .val (.long ev), .second, .val (.int (((flag.toUInt32 >>> ((1 : Int32) &&& 31).toUInt32).toInt32) &&& (3 : Int32))), .unset, .unset] [])) _
    refine XS.lload X0.here hx rfl (hb hby at_67) rfl ?_
    show Steps p.tables e below (s₁.setTop (mkF m 69 #[.val (.long since), .second, .val (.long d), .second, .val (.long limit), .second, .val (.int flag), .val (.long lm), .second, .val (.long ev), .second, .val (.int (((flag.toUInt32 >>> ((1 : Int32) &&& 31).toUInt32).toInt32) &&& (3 : Int32))), .unset, .unset] [(.long lm)])) _
    refine X0.ldc2Long hx hown (mvT hZ (hw _ (List.mem_of_getElem? (i := 0) rfl))) (g := (mkF m 69 #[.val (.long since), .second, .val (.long d), .second, .val (.long limit), .second, .val (.int flag), .val (.long lm), .second, .val (.long ev), .second, .val (.int (((flag.toUInt32 >>> ((1 : Int32) &&& 31).toUInt32).toInt32) &&& (3 : Int32))), .unset, .unset] [(.long lm)])) rfl (hb hby at_69) _ ?_
    show Steps p.tables e below (s₁.setTop (mkF m 72 #[.val (.long since), .second, .val (.long d), .second, .val (.long limit), .second, .val (.int flag), .val (.long lm), .second, .val (.long ev), .second, .val (.int (((flag.toUInt32 >>> ((1 : Int32) &&& 31).toUInt32).toInt32) &&& (3 : Int32))), .unset, .unset] [(.long (9223372036854775807 : Int64)), (.long lm)])) _
    refine XS.lcmp X0.here hx rfl (hb hby at_72) rfl ?_
    exact hk)
  obtain ⟨ex, hex, k8⟩ : ∃ (ex : Int32), (ex = (if lm = (9223372036854775807 : Int64) then (0 : Int32) else (if ev < lm then (0 : Int32) else (1 : Int32)))) ∧ ∀ t, Steps p.tables e below (s₁.setTop (mkF m 89 #[.val (.long since), .second, .val (.long d), .second, .val (.long limit), .second, .val (.int flag), .val (.long lm), .second, .val (.long ev), .second, .val (.int (((flag.toUInt32 >>> ((1 : Int32) &&& 31).toUInt32).toInt32) &&& (3 : Int32))), .unset, .unset] [(.int ex)])) t → Steps p.tables e below (s₁.setTop (entryFrame m #[(.long since), (.long d), (.long limit), (.int flag)] maxLocals)) t := by
    by_cases hc73 : lm = (9223372036854775807 : Int64)
    ·
      refine ⟨(0 : Int32), ((if_pos hc73).trans rfl).symm, fun t hk => k7 t ?_⟩
      show Steps p.tables e below (s₁.setTop (mkF m 73 #[.val (.long since), .second, .val (.long d), .second, .val (.long limit), .second, .val (.int flag), .val (.long lm), .second, .val (.long ev), .second, .val (.int (((flag.toUInt32 >>> ((1 : Int32) &&& 31).toUInt32).toInt32) &&& (3 : Int32))), .unset, .unset] [(.int (lcmpW lm (9223372036854775807 : Int64)))])) _
      refine XS.ifYes X0.here hx rfl (pc0 := 73) (pc' := 88) rfl (hb hby at_73) rfl ((if0 _ _).trans (teq ((lw_eq _ _).mpr hc73)).1) (by decide) (by decide) ?_
      show Steps p.tables e below (s₁.setTop (mkF m 88 #[.val (.long since), .second, .val (.long d), .second, .val (.long limit), .second, .val (.int flag), .val (.long lm), .second, .val (.long ev), .second, .val (.int (((flag.toUInt32 >>> ((1 : Int32) &&& 31).toUInt32).toInt32) &&& (3 : Int32))), .unset, .unset] [])) _
      refine XS.iconst X0.here hx rfl (hb hby at_88) ?_
      exact hk
    ·
      by_cases hc81 : ev < lm
      ·
        refine ⟨(0 : Int32), ((if_neg hc73).trans ((if_pos hc81).trans rfl)).symm, fun t hk => k7 t ?_⟩
        show Steps p.tables e below (s₁.setTop (mkF m 73 #[.val (.long since), .second, .val (.long d), .second, .val (.long limit), .second, .val (.int flag), .val (.long lm), .second, .val (.long ev), .second, .val (.int (((flag.toUInt32 >>> ((1 : Int32) &&& 31).toUInt32).toInt32) &&& (3 : Int32))), .unset, .unset] [(.int (lcmpW lm (9223372036854775807 : Int64)))])) _
        refine XS.ifNo X0.here hx rfl (hb hby at_73) rfl ((if0 _ _).trans (feq (fun q => hc73 ((lw_eq _ _).mp q))).1) ?_
        show Steps p.tables e below (s₁.setTop (mkF m 76 #[.val (.long since), .second, .val (.long d), .second, .val (.long limit), .second, .val (.int flag), .val (.long lm), .second, .val (.long ev), .second, .val (.int (((flag.toUInt32 >>> ((1 : Int32) &&& 31).toUInt32).toInt32) &&& (3 : Int32))), .unset, .unset] [])) _
        refine XS.lload X0.here hx rfl (hb hby at_76) rfl ?_
        show Steps p.tables e below (s₁.setTop (mkF m 78 #[.val (.long since), .second, .val (.long d), .second, .val (.long limit), .second, .val (.int flag), .val (.long lm), .second, .val (.long ev), .second, .val (.int (((flag.toUInt32 >>> ((1 : Int32) &&& 31).toUInt32).toInt32) &&& (3 : Int32))), .unset, .unset] [(.long ev)])) _
        refine XS.lload X0.here hx rfl (hb hby at_78) rfl ?_
        show Steps p.tables e below (s₁.setTop (mkF m 80 #[.val (.long since), .second, .val (.long d), .second, .val (.long limit), .second, .val (.int flag), .val (.long lm), .second, .val (.long ev), .second, .val (.int (((flag.toUInt32 >>> ((1 : Int32) &&& 31).toUInt32).toInt32) &&& (3 : Int32))), .unset, .unset] [(.long lm), (.long ev)])) _
        refine XS.lcmp X0.here hx rfl (hb hby at_80) rfl ?_
        show Steps p.tables e below (s₁.setTop (mkF m 81 #[.val (.long since), .second, .val (.long d), .second, .val (.long limit), .second, .val (.int flag), .val (.long lm), .second, .val (.long ev), .second, .val (.int (((flag.toUInt32 >>> ((1 : Int32) &&& 31).toUInt32).toInt32) &&& (3 : Int32))), .unset, .unset] [(.int (lcmpW ev lm))])) _
        refine XS.ifYes X0.here hx rfl (pc0 := 81) (pc' := 88) rfl (hb hby at_81) rfl ((if0 _ _).trans (tlt ((lw_lt _ _).mpr hc81)).1) (by decide) (by decide) ?_
        show Steps p.tables e below (s₁.setTop (mkF m 88 #[.val (.long since), .second, .val (.long d), .second, .val (.long limit), .second, .val (.int flag), .val (.long lm), .second, .val (.long ev), .second, .val (.int (((flag.toUInt32 >>> ((1 : Int32) &&& 31).toUInt32).toInt32) &&& (3 : Int32))), .unset, .unset] [])) _
        refine XS.iconst X0.here hx rfl (hb hby at_88) ?_
        exact hk
      ·
        refine ⟨(1 : Int32), ((if_neg hc73).trans ((if_neg hc81).trans rfl)).symm, fun t hk => k7 t ?_⟩
        show Steps p.tables e below (s₁.setTop (mkF m 73 #[.val (.long since), .second, .val (.long d), .second, .val (.long limit), .second, .val (.int flag), .val (.long lm), .second, .val (.long ev), .second, .val (.int (((flag.toUInt32 >>> ((1 : Int32) &&& 31).toUInt32).toInt32) &&& (3 : Int32))), .unset, .unset] [(.int (lcmpW lm (9223372036854775807 : Int64)))])) _
        refine XS.ifNo X0.here hx rfl (hb hby at_73) rfl ((if0 _ _).trans (feq (fun q => hc73 ((lw_eq _ _).mp q))).1) ?_
        show Steps p.tables e below (s₁.setTop (mkF m 76 #[.val (.long since), .second, .val (.long d), .second, .val (.long limit), .second, .val (.int flag), .val (.long lm), .second, .val (.long ev), .second, .val (.int (((flag.toUInt32 >>> ((1 : Int32) &&& 31).toUInt32).toInt32) &&& (3 : Int32))), .unset, .unset] [])) _
        refine XS.lload X0.here hx rfl (hb hby at_76) rfl ?_
        show Steps p.tables e below (s₁.setTop (mkF m 78 #[.val (.long since), .second, .val (.long d), .second, .val (.long limit), .second, .val (.int flag), .val (.long lm), .second, .val (.long ev), .second, .val (.int (((flag.toUInt32 >>> ((1 : Int32) &&& 31).toUInt32).toInt32) &&& (3 : Int32))), .unset, .unset] [(.long ev)])) _
        refine XS.lload X0.here hx rfl (hb hby at_78) rfl ?_
        show Steps p.tables e below (s₁.setTop (mkF m 80 #[.val (.long since), .second, .val (.long d), .second, .val (.long limit), .second, .val (.int flag), .val (.long lm), .second, .val (.long ev), .second, .val (.int (((flag.toUInt32 >>> ((1 : Int32) &&& 31).toUInt32).toInt32) &&& (3 : Int32))), .unset, .unset] [(.long lm), (.long ev)])) _
        refine XS.lcmp X0.here hx rfl (hb hby at_80) rfl ?_
        show Steps p.tables e below (s₁.setTop (mkF m 81 #[.val (.long since), .second, .val (.long d), .second, .val (.long limit), .second, .val (.int flag), .val (.long lm), .second, .val (.long ev), .second, .val (.int (((flag.toUInt32 >>> ((1 : Int32) &&& 31).toUInt32).toInt32) &&& (3 : Int32))), .unset, .unset] [(.int (lcmpW ev lm))])) _
        refine XS.ifNo X0.here hx rfl (hb hby at_81) rfl ((if0 _ _).trans (flt (fun q => hc81 ((lw_lt _ _).mp q))).1) ?_
        show Steps p.tables e below (s₁.setTop (mkF m 84 #[.val (.long since), .second, .val (.long d), .second, .val (.long limit), .second, .val (.int flag), .val (.long lm), .second, .val (.long ev), .second, .val (.int (((flag.toUInt32 >>> ((1 : Int32) &&& 31).toUInt32).toInt32) &&& (3 : Int32))), .unset, .unset] [])) _
        refine XS.iconst X0.here hx rfl (hb hby at_84) ?_
        show Steps p.tables e below (s₁.setTop (mkF m 85 #[.val (.long since), .second, .val (.long d), .second, .val (.long limit), .second, .val (.int flag), .val (.long lm), .second, .val (.long ev), .second, .val (.int (((flag.toUInt32 >>> ((1 : Int32) &&& 31).toUInt32).toInt32) &&& (3 : Int32))), .unset, .unset] [(.int (1 : Int32))])) _
        refine XS.goto X0.here hx rfl (pc0 := 85) (pc' := 89) rfl (hb hby at_85) (by decide) (by decide) ?_
        exact hk
  obtain ⟨_, _, ⟨T9, L9, k9, n9⟩, -, X9, ⟨Lc9, hQ9, l9, y9, z9⟩, st9⟩ := Jvm.LawKit.callS X0 hx (y := (⟨"com/example/lease/lease/core/Nanos", "outlived", "(JJJ)Z"⟩ : MethodName)) hown (mvT hZ (hw _ (List.mem_of_getElem? (i := 1) rfl))) (mvT hZ (hw _ (List.mem_of_getElem? (i := 2) rfl))) (mvT hZ (hw _ (List.mem_of_getElem? (i := 3) rfl))) (mvT hZ (hw _ (List.mem_of_getElem? (i := 4) rfl))) (by decide) (backOf (W := 0) (rm1 l Z a0 hw [] (since + ev) since lm  h0 n0 Z0 ) hZ (hw _ (List.mem_of_getElem? (i := 4) rfl)) (hw _ (List.mem_of_getElem? (i := 3) rfl)) (by decide) (by decide)) (g := (mkF m 98 #[.val (.long since), .second, .val (.long d), .second, .val (.long limit), .second, .val (.int flag), .val (.long lm), .second, .val (.long ev), .second, .val (.int (((flag.toUInt32 >>> ((1 : Int32) &&& 31).toUInt32).toInt32) &&& (3 : Int32))), .val (.int ex), .unset] [(.long lm), (.long since), (.long (since + ev))])) rfl (by rw [hml]; rfl) (argsL := [(.long (since + ev)), (.long since), (.long lm)]) (rest := []) (lenOf pd_1 rfl) rfl (by show 2 * 0 + _ ≤ _; exact Nat.le_of_eq rfl) (hb hby at_98) (fun _ _ => ⟨rfl, e0, (by decide : 0 + 0 ≤ _), (by decide : 0 + 0 ≤ _)⟩)
  dsimp only [Pt.U, Pt.locs, Pt.cells, Pt.slots] at X9 l9 y9 z9 st9 hQ9
  subst l9 y9 z9
  obtain ⟨r1, rfl, hr1, N9q, e9⟩ := hQ9
  have N9 := Fr.app N0 N9q
  have k10 : ∀ t, Steps p.tables e below (T9.setTop (mkF m 107 #[.val (.long since), .second, .val (.long d), .second, .val (.long limit), .second, .val (.int flag), .val (.long lm), .second, .val (.long ev), .second, .val (.int (((flag.toUInt32 >>> ((1 : Int32) &&& 31).toUInt32).toInt32) &&& (3 : Int32))), .val (.int ex), .val (.int r1)] [(.int ex), (.int r1)])) t → Steps p.tables e below (s₁.setTop (entryFrame m #[(.long since), (.long d), (.long limit), (.int flag)] maxLocals)) t := fun t hk => k8 t (by
    show Steps p.tables e below (s₁.setTop (mkF m 89 #[.val (.long since), .second, .val (.long d), .second, .val (.long limit), .second, .val (.int flag), .val (.long lm), .second, .val (.long ev), .second, .val (.int (((flag.toUInt32 >>> ((1 : Int32) &&& 31).toUInt32).toInt32) &&& (3 : Int32))), .unset, .unset] [(.int ex)])) _
    refine XS.istore X0.here hx rfl (hb hby at_89) rfl (l' := #[.val (.long since), .second, .val (.long d), .second, .val (.long limit), .second, .val (.int flag), .val (.long lm), .second, .val (.long ev), .second, .val (.int (((flag.toUInt32 >>> ((1 : Int32) &&& 31).toUInt32).toInt32) &&& (3 : Int32))), .val (.int ex), .unset]) rfl ?_
    show Steps p.tables e below (s₁.setTop (mkF m 91 #[.val (.long since), .second, .val (.long d), .second, .val (.long limit), .second, .val (.int flag), .val (.long lm), .second, .val (.long ev), .second, .val (.int (((flag.toUInt32 >>> ((1 : Int32) &&& 31).toUInt32).toInt32) &&& (3 : Int32))), .val (.int ex), .unset] [])) _
    refine XS.lloadN X0.here hx rfl (hb hby at_91) rfl ?_
    show Steps p.tables e below (s₁.setTop (mkF m 92 #[.val (.long since), .second, .val (.long d), .second, .val (.long limit), .second, .val (.int flag), .val (.long lm), .second, .val (.long ev), .second, .val (.int (((flag.toUInt32 >>> ((1 : Int32) &&& 31).toUInt32).toInt32) &&& (3 : Int32))), .val (.int ex), .unset] [(.long since)])) _
    refine XS.lload X0.here hx rfl (hb hby at_92) rfl ?_
    show Steps p.tables e below (s₁.setTop (mkF m 94 #[.val (.long since), .second, .val (.long d), .second, .val (.long limit), .second, .val (.int flag), .val (.long lm), .second, .val (.long ev), .second, .val (.int (((flag.toUInt32 >>> ((1 : Int32) &&& 31).toUInt32).toInt32) &&& (3 : Int32))), .val (.int ex), .unset] [(.long ev), (.long since)])) _
    refine XS.ladd X0.here hx rfl (hb hby at_94) rfl ?_
    show Steps p.tables e below (s₁.setTop (mkF m 95 #[.val (.long since), .second, .val (.long d), .second, .val (.long limit), .second, .val (.int flag), .val (.long lm), .second, .val (.long ev), .second, .val (.int (((flag.toUInt32 >>> ((1 : Int32) &&& 31).toUInt32).toInt32) &&& (3 : Int32))), .val (.int ex), .unset] [(.long (since + ev))])) _
    refine XS.lloadN X0.here hx rfl (hb hby at_95) rfl ?_
    show Steps p.tables e below (s₁.setTop (mkF m 96 #[.val (.long since), .second, .val (.long d), .second, .val (.long limit), .second, .val (.int flag), .val (.long lm), .second, .val (.long ev), .second, .val (.int (((flag.toUInt32 >>> ((1 : Int32) &&& 31).toUInt32).toInt32) &&& (3 : Int32))), .val (.int ex), .unset] [(.long since), (.long (since + ev))])) _
    refine XS.lload X0.here hx rfl (hb hby at_96) rfl ?_
    show Steps p.tables e below (s₁.setTop (mkF m 98 #[.val (.long since), .second, .val (.long d), .second, .val (.long limit), .second, .val (.int flag), .val (.long lm), .second, .val (.long ev), .second, .val (.int (((flag.toUInt32 >>> ((1 : Int32) &&& 31).toUInt32).toInt32) &&& (3 : Int32))), .val (.int ex), .unset] [(.long lm), (.long since), (.long (since + ev))])) _
    refine st9 _ ?_
    show Steps p.tables e below (T9.setTop (mkF m 101 #[.val (.long since), .second, .val (.long d), .second, .val (.long limit), .second, .val (.int flag), .val (.long lm), .second, .val (.long ev), .second, .val (.int (((flag.toUInt32 >>> ((1 : Int32) &&& 31).toUInt32).toInt32) &&& (3 : Int32))), .val (.int ex), .unset] [(.int r1)])) _
    refine XS.istore X9.here hx rfl (hb hby at_101) rfl (l' := #[.val (.long since), .second, .val (.long d), .second, .val (.long limit), .second, .val (.int flag), .val (.long lm), .second, .val (.long ev), .second, .val (.int (((flag.toUInt32 >>> ((1 : Int32) &&& 31).toUInt32).toInt32) &&& (3 : Int32))), .val (.int ex), .val (.int r1)]) rfl ?_
    show Steps p.tables e below (T9.setTop (mkF m 103 #[.val (.long since), .second, .val (.long d), .second, .val (.long limit), .second, .val (.int flag), .val (.long lm), .second, .val (.long ev), .second, .val (.int (((flag.toUInt32 >>> ((1 : Int32) &&& 31).toUInt32).toInt32) &&& (3 : Int32))), .val (.int ex), .val (.int r1)] [])) _
    refine XS.iload X9.here hx rfl (hb hby at_103) rfl ?_
    show Steps p.tables e below (T9.setTop (mkF m 105 #[.val (.long since), .second, .val (.long d), .second, .val (.long limit), .second, .val (.int flag), .val (.long lm), .second, .val (.long ev), .second, .val (.int (((flag.toUInt32 >>> ((1 : Int32) &&& 31).toUInt32).toInt32) &&& (3 : Int32))), .val (.int ex), .val (.int r1)] [(.int r1)])) _
    refine XS.iload X9.here hx rfl (hb hby at_105) rfl ?_
    exact hk)
  have hfin : r1 = ex := by
    have h0 : since + ev - since = ev := by rw [Int64.add_comm, Int64.add_sub_cancel]
    rw [hr1, hex, h0]
  have k11 : ∀ t, Steps p.tables e below (T9.setTop (mkF m 115 #[.val (.long since), .second, .val (.long d), .second, .val (.long limit), .second, .val (.int flag), .val (.long lm), .second, .val (.long ev), .second, .val (.int (((flag.toUInt32 >>> ((1 : Int32) &&& 31).toUInt32).toInt32) &&& (3 : Int32))), .val (.int ex), .val (.int r1)] [(.int (1 : Int32))])) t → Steps p.tables e below (s₁.setTop (entryFrame m #[(.long since), (.long d), (.long limit), (.int flag)] maxLocals)) t := fun t hk => k10 t (by
    show Steps p.tables e below (T9.setTop (mkF m 107 #[.val (.long since), .second, .val (.long d), .second, .val (.long limit), .second, .val (.int flag), .val (.long lm), .second, .val (.long ev), .second, .val (.int (((flag.toUInt32 >>> ((1 : Int32) &&& 31).toUInt32).toInt32) &&& (3 : Int32))), .val (.int ex), .val (.int r1)] [(.int ex), (.int r1)])) _
    refine XS.icmpNo X9.here hx rfl (hb hby at_107) rfl (teq hfin).2 ?_
    show Steps p.tables e below (T9.setTop (mkF m 110 #[.val (.long since), .second, .val (.long d), .second, .val (.long limit), .second, .val (.int flag), .val (.long lm), .second, .val (.long ev), .second, .val (.int (((flag.toUInt32 >>> ((1 : Int32) &&& 31).toUInt32).toInt32) &&& (3 : Int32))), .val (.int ex), .val (.int r1)] [])) _
    refine XS.iconst X9.here hx rfl (hb hby at_110) ?_
    show Steps p.tables e below (T9.setTop (mkF m 111 #[.val (.long since), .second, .val (.long d), .second, .val (.long limit), .second, .val (.int flag), .val (.long lm), .second, .val (.long ev), .second, .val (.int (((flag.toUInt32 >>> ((1 : Int32) &&& 31).toUInt32).toInt32) &&& (3 : Int32))), .val (.int ex), .val (.int r1)] [(.int (1 : Int32))])) _
    refine XS.goto X9.here hx rfl (pc0 := 111) (pc' := 115) rfl (hb hby at_111) (by decide) (by decide) ?_
    exact hk)
  obtain ⟨fs, hr, hrun, hended, hW, hsame⟩ := X9.leave (v := some (.int (nar .boolean (1 : Int32)))) (fun h => by rw [Bd.returns] at h; cases h)
  refine ⟨_, _, k11 _ ?_, hrun, hended, _, _, rfl, ?_, ⟨_, rfl⟩, hW, hsame.mono (by decide) (by decide)⟩
  · show Steps p.tables e below (T9.setTop (mkF m 115 #[.val (.long since), .second, .val (.long d), .second, .val (.long limit), .second, .val (.int flag), .val (.long lm), .second, .val (.long ev), .second, .val (.int (((flag.toUInt32 >>> ((1 : Int32) &&& 31).toUInt32).toInt32) &&& (3 : Int32))), .val (.int ex), .val (.int r1)] [(.int (1 : Int32))])) _
    exact retN X9 hx (t := .boolean) Bd.returns (by simp) (hb hby at_115) hr
  · show Q0 Z since d limit flag h0 n0 _ T9.heap _
    rw [e9]
    exact ⟨rfl, N9⟩
set_option maxRecDepth 65536 in
set_option maxHeartbeats 40000000 in
theorem comes_1 {Post : Tables → Env → Array Value → State → Outcome → State → Prop} (hpost : ∀ tb e args s v u, (limb_1_1.after args s (.returned v) u = true ∧ limb_1_2.after args s (.returned v) u = true ∧ True) → FrameEnd s (.returned v) u (Jvm.fieldLocs frame_1_writes args s ++ Jvm.arrayLocs frame_1_arrays args s ++ Jvm.staticLocs frame_1_statics s) 0 0 → Post tb e args s (.returned v) u) :
    ArmFor flags0 classFile x code maxLocals ret World_1 tables_1 room_1 Calls_1 rest_1 Pre_1 Post := by
  intro l hfl _ _ p e ha hc hk s m args below hf hA hF happ hP
  obtain ⟨hcalls, hrest, hpre⟩ := hP
  obtain ⟨-, -, -, hnamed, -, -, -, hat⟩ := (Spec.applies_iff hf).mp happ
  obtain ⟨hg, hn⟩ := and_e (Cond.before_iff.mp (show (Jvm.Cond.and given_1 narrow_1).before args s = true from hpre))
  obtain ⟨hcnt, hg0⟩ := and_e hg
  obtain ⟨hv0, hg1⟩ := and_e hg0
  obtain ⟨hv1, hg2⟩ := and_e hg1
  obtain ⟨hv2, hg3⟩ := and_e hg2
  have hv3 := hg3
  obtain ⟨w0, w1, w2, w3, rfl⟩ : ∃ w0 w1 w2 w3 : Value, args = #[w0, w1, w2, w3] := by
    have hs : args.size = 4 := by simpa [Cond.value, given_1] using hcnt
    obtain ⟨L⟩ := args
    match L, hs with
    | [w0, w1, w2, w3], _ => exact ⟨w0, w1, w2, w3, rfl⟩
  have hw := fun d (hd : d ∈ tables_1) => atoms_spec (ws := Jvm.Cond.code x code maxLocals ret :: tables_1) hat d (List.mem_cons_of_mem _ hd)
  obtain ⟨i0, ei0⟩ := isL_v hv0
  obtain rfl : w0 = (.long i0) := Option.some.inj ei0
  obtain ⟨i1, ei1⟩ := isL_v hv1
  obtain rfl : w1 = (.long i1) := Option.some.inj ei1
  obtain ⟨i2, ei2⟩ := isL_v hv2
  obtain rfl : w2 = (.long i2) := Option.some.inj ei2
  obtain ⟨i3, ei3⟩ := is_v hv3
  obtain rfl : w3 = (.int i3) := Option.some.inj ei3
  obtain ⟨n, o, h1, h2, h3, _, L, rfl, ⟨rfl, N⟩, hq⟩ := rm0 l s _ hw tables_1 i0 i1 i2 i3 s.heap s.heap.size (Nat.le_refl _)  p e ha hc hk s m _ below hf ((Spec.applies_iff_loose hf).mp happ).1 ⟨rfl, State.Warmed39.refl s, rfl⟩ trivial
  refine ⟨n, _, h1, h2, h3, hpost _ _ _ _ _ _ ⟨Cond.after_iff.mpr rfl, Cond.after_iff.mpr (eq_i res_at (Term.int_eval (1)) rfl), trivial⟩ ⟨hq.1, hq.2.1, (hq.2.2.sift fun y hy => Or.inr (N y hy)).mono (by decide) (by decide)⟩⟩
theorem main_1_1 : Claimed_1_1 := comes_1 fun _ _ _ _ _ _ h hF => ⟨h.1, hF⟩
theorem main_1_2 : Claimed_1_2 := comes_1 fun _ _ _ _ _ _ h hF => ⟨h.2.1, hF⟩
end Jvm.Pilot.@@N@@
namespace Jvm.Pilot.@@N@@
open Jvm Jvm.ClassFile Sem Op Lib Jvm.Free Jvm.Stand Jvm.Pilot.@@N@@.Jvm.D
/-! MADE BY PROGRAM (witnessworld.py) out of the Statement's table words and the real class files: 9 classes; the members and pool entries that the words name. The judged class is class 1, her method 1. -/
namespace start1
open Jvm.ClassFile
def u (s : String) : CpInfo := .utf8 (stringToUtf16 s)
/-- a pool by its gaps: so many unusable entries, then the entry; so many at the end -/
def gap : Nat → List CpInfo → List CpInfo
  | 0, r => r
  | n + 1, r => .unusable :: gap n r
def poolList (es : List (Nat × CpInfo)) (last : Nat) : List CpInfo := es.foldr (fun e r => gap e.1 (e.2 :: r)) (gap last [])
def pool (es : List (Nat × CpInfo)) (last : Nat) : Array CpInfo := ⟨poolList es last⟩
def fileOf (pool : Array CpInfo) (this : Nat) (attrs : Array Attribute := #[]) (ms : Array MethodInfo := #[]) (fl : Nat := 33) (sup : Nat := 0) (ifs : Array Nat := #[]) (fds : Array FieldInfo := #[]) : ClassFile where
  minorVersion := 0
  majorVersion := 65
  constantPool := pool
  accessFlags := fl
  thisClass := this
  superClass := sup
  interfaces := ifs
  fields := fds
  methods := ms
  attributes := attrs
def plain (name : String) (sup : Option ClassId) : Class where
  name := name
  kind := .ordinary
  loader := none
  accessFlags := 33
  super := sup
  interfaces := #[]
  cf := none
  fields := #[]
  methods := #[]
  instanceTypes := #[]
  staticTypes := #[]
  resolved := #[]
  callSites := []
  init := .initialized
  statics := none
  mirror := none

def pool0 : Array CpInfo := pool [(5, u "<init>"), (0, u "()V"), (1, .class_ 10), (1, u "java/lang/Object")] 113

def k0m0 : Method := { name := "<init>", desc := "()V", sig := { parameters := [], returnType := none }, accessFlags := 1, code := none }
/-- java/lang/Object -/
def k0 : Class := { plain "java/lang/Object" none with
  accessFlags := 33
  interfaces := #[]
  cf := some (fileOf pool0 8 #[] #[{ accessFlags := 1, nameIndex := 5, descriptorIndex := 6, attributes := #[] }] 33 0 #[] #[])
  fields := #[]
  methods := #[k0m0]
  instanceTypes := #[]
  staticTypes := #[]
  resolved := Array.replicate 124 none
  statics := none }

def pool1 : Array CpInfo := pool [(2, .class_ 4), (1, u "java/lang/Object"), (0, u "<init>"), (0, u "()V"), (2, .long 9223372036854775807), (1, .methodref 12 13), (0, .class_ 14), (0, .nameAndType 15 16), (0, u "com/example/lease/lease/core/Nanos"), (0, u "outlived"), (0, u "(JJJ)Z"), (0, .class_ 18), (0, u "com/example/lease/lease/core/NanosOutlivedPinLaw"), (2, u "law"), (0, u "(JJJI)Z")] 3

def k1m0 : Method := { name := "<init>", desc := "()V", sig := { parameters := [], returnType := none }, accessFlags := 2, code := none }
def k1c1 : Code := { maxStack := 6, maxLocals := 14, code := code, exceptionTable := #[], attributes := #[] }
def k1m1 : Method := { name := "law", desc := "(JJJI)Z", sig := { parameters := [.long, .long, .long, .int], returnType := some .boolean }, accessFlags := 9, code := some k1c1 }
/-- com/example/lease/lease/core/NanosOutlivedPinLaw -/
def k1 : Class := { plain "com/example/lease/lease/core/NanosOutlivedPinLaw" (some 0) with
  accessFlags := 49
  interfaces := #[]
  cf := some (fileOf pool1 17 #[] #[{ accessFlags := 2, nameIndex := 5, descriptorIndex := 6, attributes := #[] }, { accessFlags := 9, nameIndex := 21, descriptorIndex := 22, attributes := #[] }] 49 2 #[] #[])
  fields := #[]
  methods := #[k1m0, k1m1]
  instanceTypes := #[]
  staticTypes := #[]
  resolved := Array.replicate 26 none
  statics := none }

def pool2 : Array CpInfo := pool [(4, .class_ 6), (1, u "java/lang/Object"), (0, u "<init>"), (0, u "()V"), (8, .long 9223372036854775807), (1, .class_ 20), (0, u "com/example/lease/lease/core/Nanos"), (7, u "NEVER"), (0, u "J"), (5, u "outlived"), (0, u "(JJJ)Z")] 2

def k2m0 : Method := { name := "<init>", desc := "()V", sig := { parameters := [], returnType := none }, accessFlags := 2, code := none }
def k2c1 : Code := { maxStack := 4, maxLocals := 6, code := prog_98_method_5_code, exceptionTable := #[], attributes := #[] }
def k2m1 : Method := { name := "outlived", desc := "(JJJ)Z", sig := { parameters := [.long, .long, .long], returnType := some .boolean }, accessFlags := 8, code := some k2c1 }
/-- com/example/lease/lease/core/Nanos -/
def k2 : Class := { plain "com/example/lease/lease/core/Nanos" (some 0) with
  accessFlags := 32
  interfaces := #[]
  cf := some (fileOf pool2 19 #[] #[{ accessFlags := 2, nameIndex := 7, descriptorIndex := 8, attributes := #[] }, { accessFlags := 8, nameIndex := 35, descriptorIndex := 36, attributes := #[] }] 32 4 #[] #[{ accessFlags := 24, nameIndex := 28, descriptorIndex := 29, attributes := #[] }])
  fields := #[{ name := "NEVER", type := .long, accessFlags := 24, slot := 0, constantValue := 0 }]
  methods := #[k2m0, k2m1]
  instanceTypes := #[]
  staticTypes := #[.long]
  resolved := Array.replicate 39 none
  statics := none }

def pool3 : Array CpInfo := pool [(1, u "java/lang/Cloneable"), (0, .class_ 1), (0, u "java/lang/Object"), (0, .class_ 3)] 3

/-- java/lang/Cloneable -/
def k3 : Class := { plain "java/lang/Cloneable" (some 0) with
  accessFlags := 1537
  interfaces := #[]
  cf := some (fileOf pool3 2 #[] #[] 1537 4 #[] #[])
  fields := #[]
  methods := #[]
  instanceTypes := #[]
  staticTypes := #[]
  resolved := Array.replicate 8 none
  statics := none }

def pool4 : Array CpInfo := pool [(1, u "java/io/Serializable"), (0, .class_ 1), (0, u "java/lang/Object"), (0, .class_ 3)] 3

/-- java/io/Serializable -/
def k4 : Class := { plain "java/io/Serializable" (some 0) with
  accessFlags := 1537
  interfaces := #[]
  cf := some (fileOf pool4 2 #[] #[] 1537 4 #[] #[])
  fields := #[]
  methods := #[]
  instanceTypes := #[]
  staticTypes := #[]
  resolved := Array.replicate 8 none
  statics := none }

/-- the primitive byte -/
def k5 : Class := { plain "byte" none with kind := .primitive 'B', accessFlags := 0x411 }
/-- [B -/
def k6 : Class := { plain "[B" (some 0) with kind := .array 5 .byte, interfaces := #[3, 4], accessFlags := 1041 }

/-- the primitive int -/
def k7 : Class := { plain "int" none with kind := .primitive 'I', accessFlags := 0x411 }
/-- [I -/
def k8 : Class := { plain "[I" (some 0) with kind := .array 7 .int, interfaces := #[3, 4], accessFlags := 1041 }

def heap : Heap := #[]
def classes : Array Class := #[k0, k1, k2, k3, k4, k5, k6, k7, k8]
def interned : List (Array UInt16 × Addr) := []
def slotsUsed : Nat := 0
def theMethod : MethodId := ⟨1, 1⟩
def args0 : Array Value := #[.long 5, .long 7, .long 3, .int 0]
def aboutOver (below : List Frame) : State where
  vm := { classes := classes, interned := interned.toArray }
  heap := heap
  slotsUsed := slotsUsed
  threads := #[{ frames := .invoking theMethod args0 :: below }]
def below0 : List Frame := [.native { method := ⟨0, 0⟩, args := #[] }]
def about1 : State := aboutOver below0
def p0 : Program := .bare "" "" ""
def e0 : Env := launch0.env 0 0 0
theorem w_frames : about1.frames = Frame.invoking theMethod args0 :: below0 := rfl
set_option maxRecDepth 65536 in
theorem w_args : argsFit about1.vm theMethod args0 = true := by decide +kernel
set_option maxRecDepth 65536 in
theorem w_heap : heapFits about1 = true := by decide +kernel
set_option maxRecDepth 65536 in
theorem w_runnable : about1.curStatus? = some .runnable := by decide +kernel
set_option maxRecDepth 65536 in
theorem w_alone : about1.alone = true := by decide +kernel
set_option maxRecDepth 65536 in
theorem w_named : about1.methodNamed? x = some theMethod := by decide +kernel
set_option maxRecDepth 65536 in
theorem w_hears : about1.hears theMethod below0 = true := by decide +kernel
set_option maxRecDepth 65536 in
theorem w_ripe : about1.ripe theMethod args0 below0 = true := by decide +kernel
theorem w_running : about1.status = .running := rfl
set_option maxRecDepth 65536 in
theorem w_room : about1.hasRoom e0.platform room_1 = true :=
  launch0.hasRoom_least _ room_1 (by decide +kernel) (by decide +kernel) (by decide +kernel) (by decide +kernel) (by decide +kernel) (by decide +kernel)
theorem allAtoms_all (ts : List Jvm.Cond) (a : Array Jvm.Value) (st : Jvm.State) : (allAtoms ts).before a st = ts.all (fun c => c.before a st) := by
  induction ts with
  | nil => rfl
  | cons c t ih =>
    show (Jvm.Cond.and c (allAtoms t)).before a st = _
    rw [Jvm.Cond.before_and, ih, List.all_cons]
def words1 : List Jvm.Cond := Jvm.Cond.code x code maxLocals ret :: tables_1
/-- a 'code' word, met by the world's own term for the bytes: nothing is compared byte by byte -/
theorem code_word {y : MethodName} {bytes : ByteArray} {mx : Nat} {rt : Option FieldType} {a : Array Value} {s : State} {m : MethodId} {meth : Method} {c : Code} (h1 : s.methodNamed? y = some m) (h2 : s.vm.method? m = some meth) (h3 : meth.code = some c) (h4 : c.code = bytes)
    (h5 : (c.maxLocals == mx && c.exceptionTable.isEmpty && decide (c.maxStack ≤ mostOperands) && decide (meth.sig.returnType = rt) && !meth.locks && decide (parseMethodDescriptor y.desc = some meth.sig)) = true) : (Jvm.Cond.code y bytes mx rt).before a s = true := by
  simp only [Bool.and_eq_true, beq_iff_eq, Bool.not_eq_true', decide_eq_true_eq] at h5
  obtain ⟨⟨⟨⟨⟨g1, g2⟩, g3⟩, g4⟩, g5⟩, g6⟩ := h5
  simp [Cond.before, Cond.holds, Cond.value, h1, h2, h3, h4, g1, g2, g3, g4, g5, g6]
def isCode : Jvm.Cond → Bool
  | .code _ _ _ _ => true
  | _ => false
theorem all_split {L : List Jvm.Cond} {P : Jvm.Cond → Bool} (h1 : L.all (fun c => isCode c || P c) = true) (h2 : ∀ c ∈ L.filter isCode, P c = true) : L.all P = true := by
  refine List.all_eq_true.mpr fun c hc => ?_
  have h := List.all_eq_true.mp h1 c hc
  rcases Bool.eq_false_or_eq_true (isCode c) with hi | hi
  · exact h2 c (List.mem_filter.mpr ⟨hc, hi⟩)
  · simpa [hi] using h
set_option maxRecDepth 65536 in
theorem w_c0 : (Jvm.Cond.code x code maxLocals ret).before args0 about1 = true := code_word (m := ⟨1, 1⟩) (meth := k1m1) (c := k1c1) (by decide +kernel) rfl rfl rfl (by decide +kernel)
set_option maxRecDepth 65536 in
theorem w_c1 : (Jvm.Cond.code ({ cls := "com/example/lease/lease/core/Nanos", name := "outlived", desc := "(JJJ)Z" } : Jvm.MethodName) prog_98_method_5_code (6 : Nat) (Option.some Jvm.ClassFile.FieldType.boolean)).before args0 about1 = true := code_word (m := ⟨2, 1⟩) (meth := k2m1) (c := k2c1) (by decide +kernel) rfl rfl rfl (by decide +kernel)
def codes1 : List Jvm.Cond := [Jvm.Cond.code x code maxLocals ret, Jvm.Cond.code ({ cls := "com/example/lease/lease/core/Nanos", name := "outlived", desc := "(JJJ)Z" } : Jvm.MethodName) prog_98_method_5_code (6 : Nat) (Option.some Jvm.ClassFile.FieldType.boolean)]
set_option maxRecDepth 65536 in
theorem codes_eq : words1.filter isCode = codes1 := rfl
theorem w_codes : ∀ c ∈ words1.filter isCode, c.before args0 about1 = true := by
  rw [codes_eq]
  intro c hc
  simp only [codes1, List.mem_cons, List.not_mem_nil, or_false] at hc
  rcases hc with rfl | rfl
  · exact w_c0
  · exact w_c1
set_option maxRecDepth 65536 in
theorem w_t1 : words1.all (fun c => isCode c || c.before args0 about1) = true := by decide +kernel
theorem w_tables : (allAtoms (Jvm.Cond.code x code maxLocals ret :: tables_1)).before args0 about1 = true := by
  rw [allAtoms_all]
  show words1.all (fun c => c.before args0 about1) = true
  refine all_split ?_ w_codes
  rw [w_t1]
set_option maxRecDepth 65536 in
theorem w_case : (Jvm.Cond.and given_1 narrow_1).before args0 about1 = true := by decide +kernel
theorem w_applies : (headSpec (Jvm.Cond.code x code maxLocals ret :: tables_1) room_1).applies x e0.platform about1 = true :=
  (Spec.applies_iff w_frames).mpr ⟨w_running, w_runnable, w_alone, w_named, w_hears, w_ripe, w_room, w_tables⟩
theorem atStart : AtStart classFile x code maxLocals ret World_1 tables_1 room_1 Calls_1 rest_1 Pre_1 launch0 p0 e0 about1 theMethod args0 below0 :=
  ⟨lists_1, trivial, launch0.admits_env _ _ _, launch0.least_env, fairChoices_fair.cas, fairChoices_fair.clock, w_frames, w_args, w_heap, w_applies, trivial, trivial, w_case⟩
end start1
theorem witness_1 : WitnessClaimed_1 := ⟨start1.p0, start1.e0, start1.about1, start1.theMethod, start1.args0, start1.below0, start1.atStart⟩
end Jvm.Pilot.@@N@@
