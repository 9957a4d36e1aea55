import JvmDerived
import JvmDerived.Pilot.@@N@@Statement
import JvmDerived.Pilot.@@N@@Code
set_option linter.unusedVariables false
set_option linter.unusedSimpArgs false
namespace Jvm.RoadKit
open Sem ClassFile Op Lib Jvm.Stand Jvm.Free Jvm.LawKit
section New
variable {p : Program} {l : Launch} {e : Env} {R : Room} {s : State} {m : MethodId} {args : Array Value} {below : List Frame} {meth : Method} {c : Code} {T : State} {locs : List Loc} {cells slots : Nat}
theorem retI (X : Stand p l e R s m args below meth c T locs cells slots) (hx : p.tables.exec = Jvm.exec) {pc : Nat} {Ls : Array Slot} {z : Int32} {rest : List Value} (hret : meth.sig.returnType = some .int) (hd : decode c.code pc = .ok (.ireturn, 1)) {fs : List Frame}
    (hl : ∀ (f : JFrame) (acts : List Action), f.method = m → f.locked = none → f.entered = [] → (doReturn e (T.setTop f) acts (some (.int z))).1 = T.setFrames fs) : Steps p.tables e below (T.setTop (mkF m pc Ls (.int z :: rest))) (T.setFrames fs) := by
  have hm' : T.vm.method? m = some meth := X.method'
  have hn : narrow .int (.int z) = .int z := rfl
  show Steps p.tables e below (T.setTop { method := m, pc := pc, locals := Ls, stack := _ :: rest, locked := none }) _
  jvm_step X.here [X.here.top, hx, hd, hm', hret, hn]
  first | (intro acts; rw [hl _ acts rfl rfl rfl]) | rw [hl _ _ rfl rfl rfl]
  exact Steps.refl _
theorem own_lremM {g : JFrame} {target : State} (X : Stand p l e R s m args below meth c T locs cells slots) (hx : p.tables.exec = Jvm.exec) (hg : g.method = m) {x y : Int64} {rest : List Value} (hd : decode c.code g.pc = .ok (.lrem, 1)) (hs : g.stack = .long y :: .long x :: rest) (hy : y ≠ 0)
    (hr : Steps p.tables e below (T.setTop { g with pc := g.pc + 1, stack := .long (x % y) :: rest }) target) : Steps p.tables e below (T.setTop g) target := by
  have q : x - x / y * y = x % y := lrem_mod x y
  exact XS.lrem X.here hx hg hd hs hy (by rw [q]; exact hr)
end New
end Jvm.RoadKit
namespace Jvm.Pilot.@@N@@
open Jvm Jvm.ClassFile Sem Op Lib Jvm.Free Jvm.Stand Jvm.LawKit Jvm.RoadKit Bundle Jvm.Pilot.@@N@@.Jvm.D

theorem own_nar {r : Int32} (h : r = 0 ∨ r = 1) : nar .boolean r = r := by rcases h with rfl | rfl <;> rfl
theorem pd_1 : parseMethodDescriptor "(JJJ)Z" = some ⟨[.long, .long, .long], some .boolean⟩ := by decide +kernel
theorem pd_2 : parseMethodDescriptor "(JJ)V" = some ⟨[.long, .long], none⟩ := by decide +kernel
theorem pd_3 : parseMethodDescriptor "(JJZ)Z" = some ⟨[.long, .long, .boolean], some .boolean⟩ := by decide +kernel
theorem own_lim (limit l1 lm : Int64) (hl1 : l1 = (limit &&& (9223372036854775807 : Int64))) (hlm : lm = (if l1 = (0 : Int64) then (1 : Int64) else l1)) : 1 ≤ lm.toInt := by
  have a1 : (limit &&& (9223372036854775807 : Int64)).toInt = limit.toInt % (2 ^ 63 : Nat) := c_maskL limit _ 63 (by decide) (by decide)
  have z0 : (0 : Int64).toInt = 0 := by decide
  have z1 : (1 : Int64).toInt = 1 := by decide
  rw [← hl1] at a1
  rw [hlm]
  split
  · rw [z1]; omega
  · rename_i q; rw [← Int64.toInt_inj, z0] at q; omega
theorem own_self (lm now : Int64) (h : 1 ≤ lm.toInt) : (now - now) < lm := by
  have z0 : (0 : Int64).toInt = 0 := by decide
  rw [Int64.sub_self, Int64.lt_iff_toInt_lt, z0]; omega
theorem own_one (iu io nv u r ex : Int32) (bo bs sn nw lm s z : Int64) (hself : (nw - nw) < lm) (hnv : nv = (if lm = (9223372036854775807 : Int64) then (1 : Int32) else (0 : Int32)))
    (hs : s = (if iu = (0 : Int32) then (if io = (0 : Int32) then (if bo = bs then sn else nw) else nw) else nw)) (hu : u = (if iu = (0 : Int32) then (if io = (0 : Int32) then (if bo = bs then (0 : Int32) else (1 : Int32)) else (1 : Int32)) else (1 : Int32)))
    (hz : z = (if u = (0 : Int32) then sn else nw)) (hr : r = (if lm = (9223372036854775807 : Int64) then (0 : Int32) else (if (nw - s) < lm then (0 : Int32) else (1 : Int32)))) (he : ex = (if u = (0 : Int32) then (if nv = (0 : Int32) then (if (nw - sn) < lm then (0 : Int32) else (1 : Int32)) else (0 : Int32)) else (0 : Int32))) : s = z ∧ r = ex := by
  have z10 : ¬ (1 : Int32) = 0 := by decide
  have key : (s = sn ∧ u = 0) ∨ (s = nw ∧ u = 1) := by
    rw [hs, hu]
    by_cases h1 : iu = 0
    · by_cases h2 : io = 0
      · by_cases h3 : bo = bs
        · rw [if_pos h1, if_pos h2, if_pos h3, if_pos h1, if_pos h2, if_pos h3]; exact Or.inl ⟨rfl, rfl⟩
        · rw [if_pos h1, if_pos h2, if_neg h3, if_pos h1, if_pos h2, if_neg h3]; exact Or.inr ⟨rfl, rfl⟩
      · rw [if_pos h1, if_neg h2, if_pos h1, if_neg h2]; exact Or.inr ⟨rfl, rfl⟩
    · rw [if_neg h1, if_neg h1]; exact Or.inr ⟨rfl, rfl⟩
  rcases key with ⟨k1, k2⟩ | ⟨k1, k2⟩
  · refine ⟨by rw [hz, if_pos k2, k1], ?_⟩
    rw [hr, he, if_pos k2, hnv, k1]
    by_cases hm : lm = (9223372036854775807 : Int64)
    · rw [if_pos hm, if_pos hm, if_neg z10]
    · rw [if_neg hm, if_neg hm, if_pos rfl]
  · have k3 : ¬ u = 0 := by rw [k2]; exact z10
    refine ⟨by rw [hz, if_neg k3, k1], ?_⟩
    rw [hr, he, if_neg k3, k1, if_pos hself]
    by_cases hm : lm = (9223372036854775807 : Int64)
    · rw [if_pos hm]
    · rw [if_neg hm]
theorem own_plain (l1 lm b1 b2 b3 now1 now2 now3 t0 s1 s2 s3 z1 z2 : Int64) (i1 i2 i3 nv r1 r2 r3 u1 u2 u3 e1 e2 e3 : Int32) (hlm : 1 ≤ lm.toInt) (hb1 : i1 = 0 ∨ i1 = 1) (hb2 : i2 = 0 ∨ i2 = 1) (hb3 : i3 = 0 ∨ i3 = 1) (hnv : nv = (if lm = (9223372036854775807 : Int64) then (1 : Int32) else (0 : Int32))) (hs1 : s1 = (if i1 = (0 : Int32) then (if (0 : Int32) = (0 : Int32) then (if b1 = (0 : Int64) then t0 else now1) else now1) else now1)) (hr1 : r1 = (if lm = (9223372036854775807 : Int64) then (0 : Int32) else (if (now1 - s1) < lm then (0 : Int32) else (1 : Int32)))) (hs2 : s2 = (if i2 = (0 : Int32) then (if i1 = (0 : Int32) then (if b2 = b1 then s1 else now2) else now2) else now2)) (hr2 : r2 = (if lm = (9223372036854775807 : Int64) then (0 : Int32) else (if (now2 - s2) < lm then (0 : Int32) else (1 : Int32)))) (hs3 : s3 = (if i3 = (0 : Int32) then (if i2 = (0 : Int32) then (if b3 = b2 then s2 else now3) else now3) else now3)) (hr3 : r3 = (if lm = (9223372036854775807 : Int64) then (0 : Int32) else (if (now3 - s3) < lm then (0 : Int32) else (1 : Int32)))) (hu1 : u1 = (if i1 = (0 : Int32) then (if b1 = (0 : Int64) then (0 : Int32) else (1 : Int32)) else (1 : Int32))) (hz1 : z1 = (if u1 = (0 : Int32) then t0 else now1)) (he1 : e1 = (if u1 = (0 : Int32) then (if nv = (0 : Int32) then (if (now1 - t0) < lm then (0 : Int32) else (1 : Int32)) else (0 : Int32)) else (0 : Int32))) (hu2 : u2 = (if i2 = (0 : Int32) then (if i1 = (0 : Int32) then (if b2 = b1 then (0 : Int32) else (1 : Int32)) else (1 : Int32)) else (1 : Int32))) (hz2 : z2 = (if u2 = (0 : Int32) then z1 else now2)) (he2 : e2 = (if u2 = (0 : Int32) then (if nv = (0 : Int32) then (if (now2 - z1) < lm then (0 : Int32) else (1 : Int32)) else (0 : Int32)) else (0 : Int32))) (hu3 : u3 = (if i3 = (0 : Int32) then (if i2 = (0 : Int32) then (if b3 = b2 then (0 : Int32) else (1 : Int32)) else (1 : Int32)) else (1 : Int32))) (he3 : e3 = (if u3 = (0 : Int32) then (if nv = (0 : Int32) then (if (now3 - z2) < lm then (0 : Int32) else (1 : Int32)) else (0 : Int32)) else (0 : Int32))) : r1 = e1 ∧ r2 = e2 ∧ r3 = e3 := by
  have g1 := own_self lm now1 hlm
  have g2 := own_self lm now2 hlm
  have g3 := own_self lm now3 hlm
  obtain ⟨q1, f1⟩ := own_one i1 0 nv u1 r1 e1 b1 0 t0 now1 lm s1 z1 g1 hnv hs1 (by rw [if_pos (rfl : (0 : Int32) = 0)]; exact hu1) hz1 hr1 he1
  rw [q1] at hs2
  obtain ⟨q2, f2⟩ := own_one i2 i1 nv u2 r2 e2 b2 b1 z1 now2 lm s2 z2 g2 hnv hs2 hu2 hz2 hr2 he2
  rw [q2] at hs3
  obtain ⟨q3, f3⟩ := own_one i3 i2 nv u3 r3 e3 b3 b2 z2 now3 lm s3 _ g3 hnv hs3 hu3 rfl hr3 he3
  exact ⟨f1, f2, f3⟩
theorem d4_0 : decode prog_99_method_5_code 0 = .ok (.lload 4, 2) := by decide +kernel
theorem d4_2 : decode prog_99_method_5_code 2 = .ok (.ldc2_w 17, 3) := by decide +kernel
theorem d4_5 : decode prog_99_method_5_code 5 = .ok (.lcmp, 1) := by decide +kernel
theorem d4_6 : decode prog_99_method_5_code 6 = .ok (.ifCond .eq 16, 3) := by decide +kernel
theorem d4_9 : decode prog_99_method_5_code 9 = .ok (.lload_n 0, 1) := by decide +kernel
theorem d4_10 : decode prog_99_method_5_code 10 = .ok (.lload_n 2, 1) := by decide +kernel
theorem d4_11 : decode prog_99_method_5_code 11 = .ok (.lsub, 1) := by decide +kernel
theorem d4_12 : decode prog_99_method_5_code 12 = .ok (.lload 4, 2) := by decide +kernel
theorem d4_14 : decode prog_99_method_5_code 14 = .ok (.lcmp, 1) := by decide +kernel
theorem d4_15 : decode prog_99_method_5_code 15 = .ok (.ifCond .lt 7, 3) := by decide +kernel
theorem d4_18 : decode prog_99_method_5_code 18 = .ok (.iconst 1, 1) := by decide +kernel
theorem d4_19 : decode prog_99_method_5_code 19 = .ok (.goto 4, 3) := by decide +kernel
theorem d4_22 : decode prog_99_method_5_code 22 = .ok (.iconst 0, 1) := by decide +kernel
theorem d4_23 : decode prog_99_method_5_code 23 = .ok (.ireturn, 1) := by decide +kernel
theorem pn_4 : plainName "com/example/lease/lease/core/Nanos" = true := by first | (simp [plainName, overriddenIn]; done) | decide +kernel
theorem ef_4 (m : MethodId) (q1 : Int64) (q2 : Int64) (q3 : Int64) : entryFrame m #[(.long q1), (.long q2), (.long q3)] 6 = (mkF m 0 #[.val (.long q1), .second, .val (.long q2), .second, .val (.long q3), .second] []) := by first | (simp [entryFrame, mkF, argsToLocals, Value.category]; done) | rfl
def Q4 (Z : State) (q1 : Int64) (q2 : Int64) (q3 : Int64) (h0 : Heap) (n0 : Nat) (v : Option Value) (h : Heap) (L : List Loc) : Prop := ∃ r : Int32, v = some (.int r) ∧ r = (if q3 = (9223372036854775807 : Int64) then (0 : Int32) else (if (q1 - q2) < q3 then (0 : Int32) else (1 : Int32))) ∧ (r = 0 ∨ r = 1) ∧ Fr n0 L ∧ h = h0
set_option maxRecDepth 65536 in
set_option maxHeartbeats 40000000 in
theorem rm4 (l : Launch) (Z : State) (a0 : Array Value) (hw : ∀ d ∈ tables_1, d.before a0 Z = true) (ws : List Jvm.Cond) (q1 : Int64) (q2 : Int64) (q3 : Int64) (h0 : Heap) (n0 : Nat) (Z0 : n0 ≤ h0.size)  :
    MetFree l (⟨"com/example/lease/lease/core/Nanos", "outlived", "(JJJ)Z"⟩ : MethodName) (head1 (Jvm.Cond.code (⟨"com/example/lease/lease/core/Nanos", "outlived", "(JJJ)Z"⟩ : MethodName) prog_99_method_5_code 6 (some .boolean) :: ws) ({ frames := 0, cells := 0, slots := 0, locals := 0 } : Room)) (fun a U => a = #[(.long q1), (.long q2), (.long q3)] ∧ Z.Warmed39 U.vm ∧ U.heap = h0) (fun _ _ _ _ _ => True) (fun _ U o U' => ∃ v L, o = .returned v ∧ Q4 Z q1 q2 q3 h0 n0 v U'.heap L ∧ FrameEnd U o U' L ({ frames := 0, cells := 0, slots := 0, locals := 0 } : Room).cells ({ frames := 0, cells := 0, slots := 0, locals := 0 } : Room).slots) := by
  refine MetFree.of_bodySF (plainFor_of_name pn_4) hisR ?_
  intro p e s m args below meth c s₁ Bd hml0 hP hK
  obtain ⟨rfl, hZ, hh⟩ := hP
  have hx := Bd.exec
  have hby := Bd.bytes
  have hml : c.maxLocals = 6 := hml0
  have hown : s.vm.findClass "com/example/lease/lease/core/Nanos" = some m.cls := findClass_of_methodNamed Bd.named
  have hnm := (name_of_methodNamed Bd.named Bd.method).1
  have X0 : Stand p l e ({ frames := 0, cells := 0, slots := 0, locals := 0 } : Room) s m #[(.long q1), (.long q2), (.long q3)] below meth c s₁ [] 0 0 := Stand.of_body Bd
  have e0 : s₁.heap = h0 := by rw [← hh, Bd.state]; rfl
  have N0 := Fr.nil n0
  have pre0 : ∀ t, Steps p.tables e below (s₁.setTop (mkF m 0 #[.val (.long q1), .second, .val (.long q2), .second, .val (.long q3), .second] [])) t → Steps p.tables e below (s₁.setTop (entryFrame m #[(.long q1), (.long q2), (.long q3)] 6)) t := fun t k => castTop (ef_4 m q1 q2 q3) k
  have k39 : ∀ t, Steps p.tables e below (s₁.setTop (mkF m 6 #[.val (.long q1), .second, .val (.long q2), .second, .val (.long q3), .second] [(.int (lcmpW q3 (9223372036854775807 : Int64)))])) t → Steps p.tables e below (s₁.setTop (entryFrame m #[(.long q1), (.long q2), (.long q3)] 6)) t := fun t hk => pre0 t (by
    show Steps p.tables e below (s₁.setTop (mkF m 0 #[.val (.long q1), .second, .val (.long q2), .second, .val (.long q3), .second] [])) _
    refine XS.lload X0.here hx rfl (hb hby d4_0) rfl ?_
    show Steps p.tables e below (s₁.setTop (mkF m 2 #[.val (.long q1), .second, .val (.long q2), .second, .val (.long q3), .second] [(.long q3)])) _
    refine X0.ldc2Long hx hown (mvT hZ (hw _ (List.mem_of_getElem? (i := 28) rfl))) (g := (mkF m 2 #[.val (.long q1), .second, .val (.long q2), .second, .val (.long q3), .second] [(.long q3)])) rfl (hb hby d4_2) _ ?_
    show Steps p.tables e below (s₁.setTop (mkF m 5 #[.val (.long q1), .second, .val (.long q2), .second, .val (.long q3), .second] [(.long (9223372036854775807 : Int64)), (.long q3)])) _
    refine XS.lcmp X0.here hx rfl (hb hby d4_5) rfl ?_
    exact hk)
  obtain ⟨r0, hr0, k40⟩ : ∃ (r0 : Int32), (r0 = (if q3 = (9223372036854775807 : Int64) then (0 : Int32) else (if (q1 - q2) < q3 then (0 : Int32) else (1 : Int32)))) ∧ ∀ t, Steps p.tables e below (s₁.setTop (mkF m 23 #[.val (.long q1), .second, .val (.long q2), .second, .val (.long q3), .second] [(.int r0)])) t → Steps p.tables e below (s₁.setTop (entryFrame m #[(.long q1), (.long q2), (.long q3)] 6)) t := by
    by_cases hc6 : q3 = (9223372036854775807 : Int64)
    ·
      refine ⟨(0 : Int32), ((if_pos hc6).trans rfl).symm, fun t hk => k39 t ?_⟩
      show Steps p.tables e below (s₁.setTop (mkF m 6 #[.val (.long q1), .second, .val (.long q2), .second, .val (.long q3), .second] [(.int (lcmpW q3 (9223372036854775807 : Int64)))])) _
      refine XS.ifYes X0.here hx rfl (pc0 := 6) (pc' := 22) rfl (hb hby d4_6) rfl ((if0 _ _).trans (teq ((lw_eq _ _).mpr hc6)).1) (by decide) (by decide) ?_
      show Steps p.tables e below (s₁.setTop (mkF m 22 #[.val (.long q1), .second, .val (.long q2), .second, .val (.long q3), .second] [])) _
      refine XS.iconst X0.here hx rfl (hb hby d4_22) ?_
      exact hk
    ·
      by_cases hc15 : (q1 - q2) < q3
      ·
        refine ⟨(0 : Int32), ((if_neg hc6).trans ((if_pos hc15).trans rfl)).symm, fun t hk => k39 t ?_⟩
        show Steps p.tables e below (s₁.setTop (mkF m 6 #[.val (.long q1), .second, .val (.long q2), .second, .val (.long q3), .second] [(.int (lcmpW q3 (9223372036854775807 : Int64)))])) _
        refine XS.ifNo X0.here hx rfl (hb hby d4_6) rfl ((if0 _ _).trans (feq (fun q => hc6 ((lw_eq _ _).mp q))).1) ?_
        show Steps p.tables e below (s₁.setTop (mkF m 9 #[.val (.long q1), .second, .val (.long q2), .second, .val (.long q3), .second] [])) _
        refine XS.lloadN X0.here hx rfl (hb hby d4_9) rfl ?_
        show Steps p.tables e below (s₁.setTop (mkF m 10 #[.val (.long q1), .second, .val (.long q2), .second, .val (.long q3), .second] [(.long q1)])) _
        refine XS.lloadN X0.here hx rfl (hb hby d4_10) rfl ?_
        show Steps p.tables e below (s₁.setTop (mkF m 11 #[.val (.long q1), .second, .val (.long q2), .second, .val (.long q3), .second] [(.long q2), (.long q1)])) _
        refine XS.lsub X0.here hx rfl (hb hby d4_11) rfl ?_
        show Steps p.tables e below (s₁.setTop (mkF m 12 #[.val (.long q1), .second, .val (.long q2), .second, .val (.long q3), .second] [(.long (q1 - q2))])) _
        refine XS.lload X0.here hx rfl (hb hby d4_12) rfl ?_
        show Steps p.tables e below (s₁.setTop (mkF m 14 #[.val (.long q1), .second, .val (.long q2), .second, .val (.long q3), .second] [(.long q3), (.long (q1 - q2))])) _
        refine XS.lcmp X0.here hx rfl (hb hby d4_14) rfl ?_
        show Steps p.tables e below (s₁.setTop (mkF m 15 #[.val (.long q1), .second, .val (.long q2), .second, .val (.long q3), .second] [(.int (lcmpW (q1 - q2) q3))])) _
        refine XS.ifYes X0.here hx rfl (pc0 := 15) (pc' := 22) rfl (hb hby d4_15) rfl ((if0 _ _).trans (tlt ((lw_lt _ _).mpr hc15)).1) (by decide) (by decide) ?_
        show Steps p.tables e below (s₁.setTop (mkF m 22 #[.val (.long q1), .second, .val (.long q2), .second, .val (.long q3), .second] [])) _
        refine XS.iconst X0.here hx rfl (hb hby d4_22) ?_
        exact hk
      ·
        refine ⟨(1 : Int32), ((if_neg hc6).trans ((if_neg hc15).trans rfl)).symm, fun t hk => k39 t ?_⟩
        show Steps p.tables e below (s₁.setTop (mkF m 6 #[.val (.long q1), .second, .val (.long q2), .second, .val (.long q3), .second] [(.int (lcmpW q3 (9223372036854775807 : Int64)))])) _
        refine XS.ifNo X0.here hx rfl (hb hby d4_6) rfl ((if0 _ _).trans (feq (fun q => hc6 ((lw_eq _ _).mp q))).1) ?_
        show Steps p.tables e below (s₁.setTop (mkF m 9 #[.val (.long q1), .second, .val (.long q2), .second, .val (.long q3), .second] [])) _
        refine XS.lloadN X0.here hx rfl (hb hby d4_9) rfl ?_
        show Steps p.tables e below (s₁.setTop (mkF m 10 #[.val (.long q1), .second, .val (.long q2), .second, .val (.long q3), .second] [(.long q1)])) _
        refine XS.lloadN X0.here hx rfl (hb hby d4_10) rfl ?_
        show Steps p.tables e below (s₁.setTop (mkF m 11 #[.val (.long q1), .second, .val (.long q2), .second, .val (.long q3), .second] [(.long q2), (.long q1)])) _
        refine XS.lsub X0.here hx rfl (hb hby d4_11) rfl ?_
        show Steps p.tables e below (s₁.setTop (mkF m 12 #[.val (.long q1), .second, .val (.long q2), .second, .val (.long q3), .second] [(.long (q1 - q2))])) _
        refine XS.lload X0.here hx rfl (hb hby d4_12) rfl ?_
        show Steps p.tables e below (s₁.setTop (mkF m 14 #[.val (.long q1), .second, .val (.long q2), .second, .val (.long q3), .second] [(.long q3), (.long (q1 - q2))])) _
        refine XS.lcmp X0.here hx rfl (hb hby d4_14) rfl ?_
        show Steps p.tables e below (s₁.setTop (mkF m 15 #[.val (.long q1), .second, .val (.long q2), .second, .val (.long q3), .second] [(.int (lcmpW (q1 - q2) q3))])) _
        refine XS.ifNo X0.here hx rfl (hb hby d4_15) rfl ((if0 _ _).trans (flt (fun q => hc15 ((lw_lt _ _).mp q))).1) ?_
        show Steps p.tables e below (s₁.setTop (mkF m 18 #[.val (.long q1), .second, .val (.long q2), .second, .val (.long q3), .second] [])) _
        refine XS.iconst X0.here hx rfl (hb hby d4_18) ?_
        show Steps p.tables e below (s₁.setTop (mkF m 19 #[.val (.long q1), .second, .val (.long q2), .second, .val (.long q3), .second] [(.int (1 : Int32))])) _
        refine XS.goto X0.here hx rfl (pc0 := 19) (pc' := 23) rfl (hb hby d4_19) (by decide) (by decide) ?_
        exact hk
  have hb0 : r0 = 0 ∨ r0 = 1 := by rw [hr0]; (repeat' split) <;> simp
  obtain ⟨fs, hr, hrun, hended, hW, hsame⟩ := X0.leave (v := some (.int (nar .boolean r0))) (fun h => by rw [Bd.returns] at h; cases h)
  refine ⟨_, _, k40 _ ?_, hrun, hended, _, _, rfl, ?_, ⟨_, rfl⟩, hW, hsame.mono (by decide) (by decide)⟩
  · show Steps p.tables e below (s₁.setTop (mkF m 23 #[.val (.long q1), .second, .val (.long q2), .second, .val (.long q3), .second] [(.int r0)])) _
    exact retN X0 hx (t := .boolean) Bd.returns (by simp) (hb hby d4_23) hr
  · show Q4 Z q1 q2 q3 h0 n0 _ s₁.heap _
    rw [e0]
    exact ⟨_, rfl, (own_nar hb0).trans hr0, (own_nar hb0).symm ▸ hb0, N0, rfl⟩
theorem d1_0 : decode prog_93_method_1_code 0 = .ok (.aload_n 0, 1) := by decide +kernel
theorem d1_1 : decode prog_93_method_1_code 1 = .ok (.invokespecial 1, 3) := by decide +kernel
theorem d1_4 : decode prog_93_method_1_code 4 = .ok (.aload_n 0, 1) := by decide +kernel
theorem d1_5 : decode prog_93_method_1_code 5 = .ok (.lload_n 1, 1) := by decide +kernel
theorem d1_6 : decode prog_93_method_1_code 6 = .ok (.putfield 7, 3) := by decide +kernel
theorem d1_9 : decode prog_93_method_1_code 9 = .ok (.aload_n 0, 1) := by decide +kernel
theorem d1_10 : decode prog_93_method_1_code 10 = .ok (.lload_n 3, 1) := by decide +kernel
theorem d1_11 : decode prog_93_method_1_code 11 = .ok (.putfield 13, 3) := by decide +kernel
theorem d1_14 : decode prog_93_method_1_code 14 = .ok (.return_, 1) := by decide +kernel
theorem pn_1 : plainName "com/example/lease/lease/core/LastUse" = true := by first | (simp [plainName, overriddenIn]; done) | decide +kernel
theorem ef_1 (m : MethodId) (a1 : Addr) (lm : Int64) (t0 : Int64) : entryFrame m #[(.ref a1), (.long lm), (.long t0)] 5 = (mkF m 0 #[.val (.ref a1), .val (.long lm), .second, .val (.long t0), .second] []) := by first | (simp [entryFrame, mkF, argsToLocals, Value.category]; done) | rfl
def Q1 (Z : State) (a1 : Addr) (lm : Int64) (t0 : Int64) (h0 : Heap) (n0 : Nat) (v : Option Value) (h : Heap) (L : List Loc) : Prop := v = none ∧ Fr n0 L ∧ Keep h0 h [a1] ∧ Exa Z h a1 "com/example/lease/lease/core/LastUse" ∧ Fld Z h a1 "com/example/lease/lease/core/LastUse" "limitNanos" "J" (.long lm) ∧ Fld Z h a1 "com/example/lease/lease/core/LastUse" "seenAt" "J" (.long t0) ∧ Fld Z h a1 "com/example/lease/lease/core/LastUse" "borrowsSeen" "J" (.long (0 : Int64)) ∧ Fld Z h a1 "com/example/lease/lease/core/LastUse" "inUseWhenSeen" "Z" (.int (0 : Int32))
set_option maxRecDepth 65536 in
set_option maxHeartbeats 40000000 in
theorem rm1 (l : Launch) (Z : State) (a0 : Array Value) (hw : ∀ d ∈ tables_1, d.before a0 Z = true) (ws : List Jvm.Cond) (a1 : Addr) (lm : Int64) (t0 : Int64) (h0 : Heap) (n0 : Nat) (Z0 : n0 ≤ h0.size) (Ex : Exa Z h0 a1 "com/example/lease/lease/core/LastUse") (ga : n0 ≤ a1) (Fs : Fld Z h0 a1 "com/example/lease/lease/core/LastUse" "limitNanos" "J" (.long (0 : Int64)) ∧ Fld Z h0 a1 "com/example/lease/lease/core/LastUse" "seenAt" "J" (.long (0 : Int64)) ∧ Fld Z h0 a1 "com/example/lease/lease/core/LastUse" "borrowsSeen" "J" (.long (0 : Int64)) ∧ Fld Z h0 a1 "com/example/lease/lease/core/LastUse" "inUseWhenSeen" "Z" (.int (0 : Int32))) :
    MetFree l (⟨"com/example/lease/lease/core/LastUse", "<init>", "(JJ)V"⟩ : MethodName) (head1 (Jvm.Cond.code (⟨"com/example/lease/lease/core/LastUse", "<init>", "(JJ)V"⟩ : MethodName) prog_93_method_1_code 5 none :: ws) ({ frames := 1, cells := 0, slots := 0, locals := 12 } : Room)) (fun a U => a = #[(.ref a1), (.long lm), (.long t0)] ∧ Z.Warmed39 U.vm ∧ U.heap = h0) (fun _ _ _ _ _ => True) (fun _ U o U' => ∃ v L, o = .returned v ∧ Q1 Z a1 lm t0 h0 n0 v U'.heap L ∧ FrameEnd U o U' L ({ frames := 1, cells := 0, slots := 0, locals := 12 } : Room).cells ({ frames := 1, cells := 0, slots := 0, locals := 12 } : Room).slots) := by
  refine MetFree.of_bodySF (plainFor_of_name pn_1) hisR ?_
  intro p e s m args below meth c s₁ Bd hml0 hP hK
  obtain ⟨rfl, hZ, hh⟩ := hP
  have hx := Bd.exec
  have hby := Bd.bytes
  have hml : c.maxLocals = 5 := hml0
  have hown : s.vm.findClass "com/example/lease/lease/core/LastUse" = some m.cls := findClass_of_methodNamed Bd.named
  have hnm := (name_of_methodNamed Bd.named Bd.method).1
  have X0 : Stand p l e ({ frames := 1, cells := 0, slots := 0, locals := 12 } : Room) s m #[(.ref a1), (.long lm), (.long t0)] below meth c s₁ [] 0 0 := Stand.of_body Bd
  have e0 : s₁.heap = h0 := by rw [← hh, Bd.state]; rfl
  have N0 := Fr.nil n0
  have pre0 : ∀ t, Steps p.tables e below (s₁.setTop (mkF m 0 #[.val (.ref a1), .val (.long lm), .second, .val (.long t0), .second] [])) t → Steps p.tables e below (s₁.setTop (entryFrame m #[(.ref a1), (.long lm), (.long t0)] 5)) t := fun t k => castTop (ef_1 m a1 lm t0) k
  obtain ⟨Fl, Fa, Fb, Fi⟩ := Fs
  obtain ⟨T41, X41, e41, st41⟩ := initO X0 hx hZ hown (hw _ (List.mem_of_getElem? (i := 8) rfl)) (hw _ (List.mem_of_getElem? (i := 9) rfl)) (hw _ (List.mem_of_getElem? (i := 10) rfl)) e0 (g := (mkF m 1 #[.val (.ref a1), .val (.long lm), .second, .val (.long t0), .second] [(.ref a1)])) rfl (by rw [hml]; rfl) rfl (hb hby d1_1) (by decide) (W := 0) (by show 2 * 0 + _ ≤ _; exact Nat.le_of_eq rfl) (by decide)
  obtain ⟨T42, h42, X42, e42, W42, st42⟩ := putF X41 hx hZ hown (host := "") (Or.inl (hw _ (List.mem_of_getElem? (i := 11) rfl))) Via.refl e41 Fl Ex (Or.inr ⟨(hw _ (List.mem_of_getElem? (i := 12) rfl)), rfl, hnm⟩) (hw _ (List.mem_of_getElem? (i := 3) rfl)) (ty := .long) (by decide) rfl rfl (g := (mkF m 6 #[.val (.ref a1), .val (.long lm), .second, .val (.long t0), .second] [(.long lm), (.ref a1)])) rfl rfl (hb hby d1_6)
  have F43 := Fl.same W42
  have F44 := Fa.other W42 (Or.inr (slot_ne (Or.inl (hw _ (List.mem_of_getElem? (i := 14) rfl))) (Or.inr (hw _ (List.mem_of_getElem? (i := 12) rfl))) (by decide) (by decide : parseFieldDescriptor "J" = some .long) (by decide : parseFieldDescriptor "J" = some .long)))
  have F45 := Fb.other W42 (Or.inr (slot_ne (Or.inl (hw _ (List.mem_of_getElem? (i := 23) rfl))) (Or.inr (hw _ (List.mem_of_getElem? (i := 12) rfl))) (by decide) (by decide : parseFieldDescriptor "J" = some .long) (by decide : parseFieldDescriptor "J" = some .long)))
  have F46 := Fi.other W42 (Or.inr (slot_ne (Or.inl (hw _ (List.mem_of_getElem? (i := 21) rfl))) (Or.inr (hw _ (List.mem_of_getElem? (i := 12) rfl))) (by decide) (by decide : parseFieldDescriptor "Z" = some .boolean) (by decide : parseFieldDescriptor "J" = some .long)))
  have E47 := Ex.wr W42
  have K48 := (Keep.refl h0 [a1]).wr W42 (Or.inl (List.mem_of_getElem? (i := 0) rfl))
  have Z49 : n0 ≤ h42.size := W42.size ▸ Z0
  have N50 := Fr.snoc X42 N0 ga
  obtain ⟨T51, h51, X51, e51, W51, st51⟩ := putF X42 hx hZ hown (host := "") (Or.inl (hw _ (List.mem_of_getElem? (i := 13) rfl))) Via.refl e42 F44 E47 (Or.inl (hw _ (List.mem_of_getElem? (i := 14) rfl))) (hw _ (List.mem_of_getElem? (i := 3) rfl)) (ty := .long) (by decide) rfl rfl (g := (mkF m 11 #[.val (.ref a1), .val (.long lm), .second, .val (.long t0), .second] [(.long t0), (.ref a1)])) rfl rfl (hb hby d1_11)
  have F52 := F43.other W51 (Or.inr (slot_ne (Or.inr (hw _ (List.mem_of_getElem? (i := 12) rfl))) (Or.inl (hw _ (List.mem_of_getElem? (i := 14) rfl))) (by decide) (by decide : parseFieldDescriptor "J" = some .long) (by decide : parseFieldDescriptor "J" = some .long)))
  have F53 := F44.same W51
  have F54 := F45.other W51 (Or.inr (slot_ne (Or.inl (hw _ (List.mem_of_getElem? (i := 23) rfl))) (Or.inl (hw _ (List.mem_of_getElem? (i := 14) rfl))) (by decide) (by decide : parseFieldDescriptor "J" = some .long) (by decide : parseFieldDescriptor "J" = some .long)))
  have F55 := F46.other W51 (Or.inr (slot_ne (Or.inl (hw _ (List.mem_of_getElem? (i := 21) rfl))) (Or.inl (hw _ (List.mem_of_getElem? (i := 14) rfl))) (by decide) (by decide : parseFieldDescriptor "Z" = some .boolean) (by decide : parseFieldDescriptor "J" = some .long)))
  have E56 := E47.wr W51
  have K57 := K48.wr W51 (Or.inl (List.mem_of_getElem? (i := 0) rfl))
  have Z58 : n0 ≤ h51.size := W51.size ▸ Z49
  have N59 := Fr.snoc X51 N50 ga
  have k60 : ∀ t, Steps p.tables e below (T51.setTop (mkF m 14 #[.val (.ref a1), .val (.long lm), .second, .val (.long t0), .second] [])) t → Steps p.tables e below (s₁.setTop (entryFrame m #[(.ref a1), (.long lm), (.long t0)] 5)) t := fun t hk => pre0 t (by
    show Steps p.tables e below (s₁.setTop (mkF m 0 #[.val (.ref a1), .val (.long lm), .second, .val (.long t0), .second] [])) _
    refine XS.aloadN X0.here hx rfl (hb hby d1_0) rfl rfl ?_
    show Steps p.tables e below (s₁.setTop (mkF m 1 #[.val (.ref a1), .val (.long lm), .second, .val (.long t0), .second] [(.ref a1)])) _
    refine st41 _ ?_
    show Steps p.tables e below (T41.setTop (mkF m 4 #[.val (.ref a1), .val (.long lm), .second, .val (.long t0), .second] [])) _
    refine XS.aloadN X41.here hx rfl (hb hby d1_4) rfl rfl ?_
    show Steps p.tables e below (T41.setTop (mkF m 5 #[.val (.ref a1), .val (.long lm), .second, .val (.long t0), .second] [(.ref a1)])) _
    refine XS.lloadN X41.here hx rfl (hb hby d1_5) rfl ?_
    show Steps p.tables e below (T41.setTop (mkF m 6 #[.val (.ref a1), .val (.long lm), .second, .val (.long t0), .second] [(.long lm), (.ref a1)])) _
    refine st42 _ ?_
    show Steps p.tables e below (T42.setTop (mkF m 9 #[.val (.ref a1), .val (.long lm), .second, .val (.long t0), .second] [])) _
    refine XS.aloadN X42.here hx rfl (hb hby d1_9) rfl rfl ?_
    show Steps p.tables e below (T42.setTop (mkF m 10 #[.val (.ref a1), .val (.long lm), .second, .val (.long t0), .second] [(.ref a1)])) _
    refine XS.lloadN X42.here hx rfl (hb hby d1_10) rfl ?_
    show Steps p.tables e below (T42.setTop (mkF m 11 #[.val (.ref a1), .val (.long lm), .second, .val (.long t0), .second] [(.long t0), (.ref a1)])) _
    refine st51 _ ?_
    exact hk)
  obtain ⟨fs, hr, hrun, hended, hW, hsame⟩ := X51.leave (v := none) (fun _ => rfl)
  refine ⟨_, _, k60 _ ?_, hrun, hended, _, _, rfl, ?_, ⟨_, rfl⟩, hW, hsame.mono (by decide) (by decide)⟩
  · show Steps p.tables e below (T51.setTop (mkF m 14 #[.val (.ref a1), .val (.long lm), .second, .val (.long t0), .second] [])) _
    exact X51.returnOut hx Bd.returns (hb hby d1_14) hr
  · show Q1 Z a1 lm t0 h0 n0 _ T51.heap _
    rw [e51]
    exact ⟨rfl, N59, K57, E56, F52, F53, F54, F55⟩
theorem d3_0 : decode prog_93_method_2_code 0 = .ok (.iload 5, 2) := by decide +kernel
theorem d3_2 : decode prog_93_method_2_code 2 = .ok (.ifCond .ne 19, 3) := by decide +kernel
theorem d3_5 : decode prog_93_method_2_code 5 = .ok (.aload_n 0, 1) := by decide +kernel
theorem d3_6 : decode prog_93_method_2_code 6 = .ok (.getfield 16, 3) := by decide +kernel
theorem d3_9 : decode prog_93_method_2_code 9 = .ok (.ifCond .ne 12, 3) := by decide +kernel
theorem d3_12 : decode prog_93_method_2_code 12 = .ok (.lload_n 3, 1) := by decide +kernel
theorem d3_13 : decode prog_93_method_2_code 13 = .ok (.aload_n 0, 1) := by decide +kernel
theorem d3_14 : decode prog_93_method_2_code 14 = .ok (.getfield 20, 3) := by decide +kernel
theorem d3_17 : decode prog_93_method_2_code 17 = .ok (.lcmp, 1) := by decide +kernel
theorem d3_18 : decode prog_93_method_2_code 18 = .ok (.ifCond .eq 8, 3) := by decide +kernel
theorem d3_21 : decode prog_93_method_2_code 21 = .ok (.aload_n 0, 1) := by decide +kernel
theorem d3_22 : decode prog_93_method_2_code 22 = .ok (.lload_n 1, 1) := by decide +kernel
theorem d3_23 : decode prog_93_method_2_code 23 = .ok (.putfield 13, 3) := by decide +kernel
theorem d3_26 : decode prog_93_method_2_code 26 = .ok (.aload_n 0, 1) := by decide +kernel
theorem d3_27 : decode prog_93_method_2_code 27 = .ok (.iload 5, 2) := by decide +kernel
theorem d3_29 : decode prog_93_method_2_code 29 = .ok (.putfield 16, 3) := by decide +kernel
theorem d3_32 : decode prog_93_method_2_code 32 = .ok (.aload_n 0, 1) := by decide +kernel
theorem d3_33 : decode prog_93_method_2_code 33 = .ok (.lload_n 3, 1) := by decide +kernel
theorem d3_34 : decode prog_93_method_2_code 34 = .ok (.putfield 20, 3) := by decide +kernel
theorem d3_37 : decode prog_93_method_2_code 37 = .ok (.lload_n 1, 1) := by decide +kernel
theorem d3_38 : decode prog_93_method_2_code 38 = .ok (.aload_n 0, 1) := by decide +kernel
theorem d3_39 : decode prog_93_method_2_code 39 = .ok (.getfield 13, 3) := by decide +kernel
theorem d3_42 : decode prog_93_method_2_code 42 = .ok (.aload_n 0, 1) := by decide +kernel
theorem d3_43 : decode prog_93_method_2_code 43 = .ok (.getfield 7, 3) := by decide +kernel
theorem d3_46 : decode prog_93_method_2_code 46 = .ok (.invokestatic 23, 3) := by decide +kernel
theorem d3_49 : decode prog_93_method_2_code 49 = .ok (.ireturn, 1) := by decide +kernel
theorem pn_3 : plainName "com/example/lease/lease/core/LastUse" = true := by first | (simp [plainName, overriddenIn]; done) | decide +kernel
theorem ef_3 (m : MethodId) (a1 : Addr) (nw : Int64) (bo : Int64) (iu : Int32) : entryFrame m #[(.ref a1), (.long nw), (.long bo), (.int iu)] 6 = (mkF m 0 #[.val (.ref a1), .val (.long nw), .second, .val (.long bo), .second, .val (.int iu)] []) := by first | (simp [entryFrame, mkF, argsToLocals, Value.category]; done) | rfl
def Q3 (Z : State) (a1 : Addr) (nw : Int64) (bo : Int64) (iu : Int32) (lm : Int64) (sn : Int64) (bs : Int64) (io : Int32) (h0 : Heap) (n0 : Nat) (v : Option Value) (h : Heap) (L : List Loc) : Prop := ∃ (r : Int32) (sx : Int64), v = some (.int r) ∧ sx = (if iu = (0 : Int32) then (if io = (0 : Int32) then (if bo = bs then sn else nw) else nw) else nw) ∧ r = (if lm = (9223372036854775807 : Int64) then (0 : Int32) else (if (nw - sx) < lm then (0 : Int32) else (1 : Int32))) ∧ Fr n0 L ∧ Keep h0 h [a1] ∧ Exa Z h a1 "com/example/lease/lease/core/LastUse" ∧ Fld Z h a1 "com/example/lease/lease/core/LastUse" "limitNanos" "J" (.long lm) ∧ Fld Z h a1 "com/example/lease/lease/core/LastUse" "seenAt" "J" (.long sx) ∧ Fld Z h a1 "com/example/lease/lease/core/LastUse" "borrowsSeen" "J" (.long bo) ∧ Fld Z h a1 "com/example/lease/lease/core/LastUse" "inUseWhenSeen" "Z" (.int iu)
set_option maxRecDepth 65536 in
set_option maxHeartbeats 40000000 in
theorem rm3 (l : Launch) (Z : State) (a0 : Array Value) (hw : ∀ d ∈ tables_1, d.before a0 Z = true) (ws : List Jvm.Cond) (a1 : Addr) (nw : Int64) (bo : Int64) (iu : Int32) (lm : Int64) (sn : Int64) (bs : Int64) (io : Int32) (h0 : Heap) (n0 : Nat) (Z0 : n0 ≤ h0.size) (Ex : Exa Z h0 a1 "com/example/lease/lease/core/LastUse") (ga : n0 ≤ a1) (hiu : iu = 0 ∨ iu = 1) (Fs : Fld Z h0 a1 "com/example/lease/lease/core/LastUse" "limitNanos" "J" (.long lm) ∧ Fld Z h0 a1 "com/example/lease/lease/core/LastUse" "seenAt" "J" (.long sn) ∧ Fld Z h0 a1 "com/example/lease/lease/core/LastUse" "borrowsSeen" "J" (.long bs) ∧ Fld Z h0 a1 "com/example/lease/lease/core/LastUse" "inUseWhenSeen" "Z" (.int io)) :
    MetFree l (⟨"com/example/lease/lease/core/LastUse", "unusedAt", "(JJZ)Z"⟩ : MethodName) (head1 (Jvm.Cond.code (⟨"com/example/lease/lease/core/LastUse", "unusedAt", "(JJZ)Z"⟩ : MethodName) prog_93_method_2_code 6 (some .boolean) :: ws) ({ frames := 1, cells := 0, slots := 0, locals := 17 } : Room)) (fun a U => a = #[(.ref a1), (.long nw), (.long bo), (.int iu)] ∧ Z.Warmed39 U.vm ∧ U.heap = h0) (fun _ _ _ _ _ => True) (fun _ U o U' => ∃ v L, o = .returned v ∧ Q3 Z a1 nw bo iu lm sn bs io h0 n0 v U'.heap L ∧ FrameEnd U o U' L ({ frames := 1, cells := 0, slots := 0, locals := 17 } : Room).cells ({ frames := 1, cells := 0, slots := 0, locals := 17 } : Room).slots) := by
  refine MetFree.of_bodySF (plainFor_of_name pn_3) hisR ?_
  intro p e s m args below meth c s₁ Bd hml0 hP hK
  obtain ⟨rfl, hZ, hh⟩ := hP
  have hx := Bd.exec
  have hby := Bd.bytes
  have hml : c.maxLocals = 6 := hml0
  have hown : s.vm.findClass "com/example/lease/lease/core/LastUse" = some m.cls := findClass_of_methodNamed Bd.named
  have hnm := (name_of_methodNamed Bd.named Bd.method).1
  have X0 : Stand p l e ({ frames := 1, cells := 0, slots := 0, locals := 17 } : Room) s m #[(.ref a1), (.long nw), (.long bo), (.int iu)] below meth c s₁ [] 0 0 := Stand.of_body Bd
  have e0 : s₁.heap = h0 := by rw [← hh, Bd.state]; rfl
  have N0 := Fr.nil n0
  have pre0 : ∀ t, Steps p.tables e below (s₁.setTop (mkF m 0 #[.val (.ref a1), .val (.long nw), .second, .val (.long bo), .second, .val (.int iu)] [])) t → Steps p.tables e below (s₁.setTop (entryFrame m #[(.ref a1), (.long nw), (.long bo), (.int iu)] 6)) t := fun t k => castTop (ef_3 m a1 nw bo iu) k
  obtain ⟨Fl, Fa, Fb, Fi⟩ := Fs
  have k61 : ∀ t, Steps p.tables e below (s₁.setTop (mkF m 2 #[.val (.ref a1), .val (.long nw), .second, .val (.long bo), .second, .val (.int iu)] [(.int iu)])) t → Steps p.tables e below (s₁.setTop (entryFrame m #[(.ref a1), (.long nw), (.long bo), (.int iu)] 6)) t := fun t hk => pre0 t (by
    show Steps p.tables e below (s₁.setTop (mkF m 0 #[.val (.ref a1), .val (.long nw), .second, .val (.long bo), .second, .val (.int iu)] [])) _
    refine XS.iload X0.here hx rfl (hb hby d3_0) rfl ?_
    exact hk)
  by_cases hc2 : iu = (0 : Int32)
  ·
    obtain ⟨T62, X62, e62, st62⟩ := getF X0 hx hZ hown (host := "") (Or.inl (hw _ (List.mem_of_getElem? (i := 20) rfl))) Via.refl e0 Fi (g := (mkF m 6 #[.val (.ref a1), .val (.long nw), .second, .val (.long bo), .second, .val (.int iu)] [(.ref a1)])) rfl rfl (hb hby d3_6)
    have k63 : ∀ t, Steps p.tables e below (T62.setTop (mkF m 9 #[.val (.ref a1), .val (.long nw), .second, .val (.long bo), .second, .val (.int iu)] [(.int io)])) t → Steps p.tables e below (s₁.setTop (entryFrame m #[(.ref a1), (.long nw), (.long bo), (.int iu)] 6)) t := fun t hk => k61 t (by
      show Steps p.tables e below (s₁.setTop (mkF m 2 #[.val (.ref a1), .val (.long nw), .second, .val (.long bo), .second, .val (.int iu)] [(.int iu)])) _
      refine XS.ifNo X0.here hx rfl (hb hby d3_2) rfl ((if0 _ _).trans (teq hc2).2) ?_
      show Steps p.tables e below (s₁.setTop (mkF m 5 #[.val (.ref a1), .val (.long nw), .second, .val (.long bo), .second, .val (.int iu)] [])) _
      refine XS.aloadN X0.here hx rfl (hb hby d3_5) rfl rfl ?_
      show Steps p.tables e below (s₁.setTop (mkF m 6 #[.val (.ref a1), .val (.long nw), .second, .val (.long bo), .second, .val (.int iu)] [(.ref a1)])) _
      refine st62 _ ?_
      exact hk)
    by_cases hc9 : io = (0 : Int32)
    ·
      obtain ⟨T64, X64, e64, st64⟩ := getF X62 hx hZ hown (host := "") (Or.inl (hw _ (List.mem_of_getElem? (i := 22) rfl))) Via.refl e62 Fb (g := (mkF m 14 #[.val (.ref a1), .val (.long nw), .second, .val (.long bo), .second, .val (.int iu)] [(.ref a1), (.long bo)])) rfl rfl (hb hby d3_14)
      have k65 : ∀ t, Steps p.tables e below (T64.setTop (mkF m 18 #[.val (.ref a1), .val (.long nw), .second, .val (.long bo), .second, .val (.int iu)] [(.int (lcmpW bo bs))])) t → Steps p.tables e below (s₁.setTop (entryFrame m #[(.ref a1), (.long nw), (.long bo), (.int iu)] 6)) t := fun t hk => k63 t (by
        show Steps p.tables e below (T62.setTop (mkF m 9 #[.val (.ref a1), .val (.long nw), .second, .val (.long bo), .second, .val (.int iu)] [(.int io)])) _
        refine XS.ifNo X62.here hx rfl (hb hby d3_9) rfl ((if0 _ _).trans (teq hc9).2) ?_
        show Steps p.tables e below (T62.setTop (mkF m 12 #[.val (.ref a1), .val (.long nw), .second, .val (.long bo), .second, .val (.int iu)] [])) _
        refine XS.lloadN X62.here hx rfl (hb hby d3_12) rfl ?_
        show Steps p.tables e below (T62.setTop (mkF m 13 #[.val (.ref a1), .val (.long nw), .second, .val (.long bo), .second, .val (.int iu)] [(.long bo)])) _
        refine XS.aloadN X62.here hx rfl (hb hby d3_13) rfl rfl ?_
        show Steps p.tables e below (T62.setTop (mkF m 14 #[.val (.ref a1), .val (.long nw), .second, .val (.long bo), .second, .val (.int iu)] [(.ref a1), (.long bo)])) _
        refine st64 _ ?_
        show Steps p.tables e below (T64.setTop (mkF m 17 #[.val (.ref a1), .val (.long nw), .second, .val (.long bo), .second, .val (.int iu)] [(.long bs), (.long bo)])) _
        refine XS.lcmp X64.here hx rfl (hb hby d3_17) rfl ?_
        exact hk)
      by_cases hc18 : bo = bs
      ·
        obtain ⟨T66, h66, X66, e66, W66, st66⟩ := putFN X64 hx hZ hown (hw _ (List.mem_of_getElem? (i := 20) rfl)) Via.refl e64 Fi Ex (Or.inl (hw _ (List.mem_of_getElem? (i := 21) rfl))) (hw _ (List.mem_of_getElem? (i := 3) rfl)) (ty := .boolean) (v' := (.int (nar .boolean iu))) (by decide) rfl (fits_nar_bool _) (g := (mkF m 29 #[.val (.ref a1), .val (.long nw), .second, .val (.long bo), .second, .val (.int iu)] [(.int iu), (.ref a1)])) rfl rfl (hb hby d3_29)
        have F67 := Fl.other W66 (Or.inr (slot_ne (Or.inr (hw _ (List.mem_of_getElem? (i := 12) rfl))) (Or.inl (hw _ (List.mem_of_getElem? (i := 21) rfl))) (by decide) (by decide : parseFieldDescriptor "J" = some .long) (by decide : parseFieldDescriptor "Z" = some .boolean)))
        have F68 := Fa.other W66 (Or.inr (slot_ne (Or.inl (hw _ (List.mem_of_getElem? (i := 14) rfl))) (Or.inl (hw _ (List.mem_of_getElem? (i := 21) rfl))) (by decide) (by decide : parseFieldDescriptor "J" = some .long) (by decide : parseFieldDescriptor "Z" = some .boolean)))
        have F69 := Fb.other W66 (Or.inr (slot_ne (Or.inl (hw _ (List.mem_of_getElem? (i := 23) rfl))) (Or.inl (hw _ (List.mem_of_getElem? (i := 21) rfl))) (by decide) (by decide : parseFieldDescriptor "J" = some .long) (by decide : parseFieldDescriptor "Z" = some .boolean)))
        have F70 := Fi.same W66
        have E71 := Ex.wr W66
        have K72 := (Keep.refl h0 [a1]).wr W66 (Or.inl (List.mem_of_getElem? (i := 0) rfl))
        have Z73 : n0 ≤ h66.size := W66.size ▸ Z0
        have N74 := Fr.snoc X66 N0 ga
        obtain ⟨T75, h75, X75, e75, W75, st75⟩ := putF X66 hx hZ hown (host := "") (Or.inl (hw _ (List.mem_of_getElem? (i := 22) rfl))) Via.refl e66 F69 E71 (Or.inl (hw _ (List.mem_of_getElem? (i := 23) rfl))) (hw _ (List.mem_of_getElem? (i := 3) rfl)) (ty := .long) (by decide) rfl rfl (g := (mkF m 34 #[.val (.ref a1), .val (.long nw), .second, .val (.long bo), .second, .val (.int iu)] [(.long bo), (.ref a1)])) rfl rfl (hb hby d3_34)
        have F76 := F67.other W75 (Or.inr (slot_ne (Or.inr (hw _ (List.mem_of_getElem? (i := 12) rfl))) (Or.inl (hw _ (List.mem_of_getElem? (i := 23) rfl))) (by decide) (by decide : parseFieldDescriptor "J" = some .long) (by decide : parseFieldDescriptor "J" = some .long)))
        have F77 := F68.other W75 (Or.inr (slot_ne (Or.inl (hw _ (List.mem_of_getElem? (i := 14) rfl))) (Or.inl (hw _ (List.mem_of_getElem? (i := 23) rfl))) (by decide) (by decide : parseFieldDescriptor "J" = some .long) (by decide : parseFieldDescriptor "J" = some .long)))
        have F78 := F69.same W75
        have F79 := F70.other W75 (Or.inr (slot_ne (Or.inl (hw _ (List.mem_of_getElem? (i := 21) rfl))) (Or.inl (hw _ (List.mem_of_getElem? (i := 23) rfl))) (by decide) (by decide : parseFieldDescriptor "Z" = some .boolean) (by decide : parseFieldDescriptor "J" = some .long)))
        have E80 := E71.wr W75
        have K81 := K72.wr W75 (Or.inl (List.mem_of_getElem? (i := 0) rfl))
        have Z82 : n0 ≤ h75.size := W75.size ▸ Z73
        have N83 := Fr.snoc X75 N74 ga
        obtain ⟨T84, X84, e84, st84⟩ := getF X75 hx hZ hown (host := "") (Or.inl (hw _ (List.mem_of_getElem? (i := 13) rfl))) Via.refl e75 F77 (g := (mkF m 39 #[.val (.ref a1), .val (.long nw), .second, .val (.long bo), .second, .val (.int iu)] [(.ref a1), (.long nw)])) rfl rfl (hb hby d3_39)
        obtain ⟨T85, X85, e85, st85⟩ := getF X84 hx hZ hown (host := "") (Or.inl (hw _ (List.mem_of_getElem? (i := 11) rfl))) Via.refl e84 F76 (g := (mkF m 43 #[.val (.ref a1), .val (.long nw), .second, .val (.long bo), .second, .val (.int iu)] [(.ref a1), (.long sn), (.long nw)])) rfl rfl (hb hby d3_43)
        have k86 : ∀ t, Steps p.tables e below (T85.setTop (mkF m 46 #[.val (.ref a1), .val (.long nw), .second, .val (.long bo), .second, .val (.int iu)] [(.long lm), (.long sn), (.long nw)])) t → Steps p.tables e below (s₁.setTop (entryFrame m #[(.ref a1), (.long nw), (.long bo), (.int iu)] 6)) t := fun t hk => k65 t (by
          show Steps p.tables e below (T64.setTop (mkF m 18 #[.val (.ref a1), .val (.long nw), .second, .val (.long bo), .second, .val (.int iu)] [(.int (lcmpW bo bs))])) _
          refine XS.ifYes X64.here hx rfl (pc0 := 18) (pc' := 26) rfl (hb hby d3_18) rfl ((if0 _ _).trans (teq ((lw_eq _ _).mpr hc18)).1) (by decide) (by decide) ?_
          show Steps p.tables e below (T64.setTop (mkF m 26 #[.val (.ref a1), .val (.long nw), .second, .val (.long bo), .second, .val (.int iu)] [])) _
          refine XS.aloadN X64.here hx rfl (hb hby d3_26) rfl rfl ?_
          show Steps p.tables e below (T64.setTop (mkF m 27 #[.val (.ref a1), .val (.long nw), .second, .val (.long bo), .second, .val (.int iu)] [(.ref a1)])) _
          refine XS.iload X64.here hx rfl (hb hby d3_27) rfl ?_
          show Steps p.tables e below (T64.setTop (mkF m 29 #[.val (.ref a1), .val (.long nw), .second, .val (.long bo), .second, .val (.int iu)] [(.int iu), (.ref a1)])) _
          refine st66 _ ?_
          show Steps p.tables e below (T66.setTop (mkF m 32 #[.val (.ref a1), .val (.long nw), .second, .val (.long bo), .second, .val (.int iu)] [])) _
          refine XS.aloadN X66.here hx rfl (hb hby d3_32) rfl rfl ?_
          show Steps p.tables e below (T66.setTop (mkF m 33 #[.val (.ref a1), .val (.long nw), .second, .val (.long bo), .second, .val (.int iu)] [(.ref a1)])) _
          refine XS.lloadN X66.here hx rfl (hb hby d3_33) rfl ?_
          show Steps p.tables e below (T66.setTop (mkF m 34 #[.val (.ref a1), .val (.long nw), .second, .val (.long bo), .second, .val (.int iu)] [(.long bo), (.ref a1)])) _
          refine st75 _ ?_
          show Steps p.tables e below (T75.setTop (mkF m 37 #[.val (.ref a1), .val (.long nw), .second, .val (.long bo), .second, .val (.int iu)] [])) _
          refine XS.lloadN X75.here hx rfl (hb hby d3_37) rfl ?_
          show Steps p.tables e below (T75.setTop (mkF m 38 #[.val (.ref a1), .val (.long nw), .second, .val (.long bo), .second, .val (.int iu)] [(.long nw)])) _
          refine XS.aloadN X75.here hx rfl (hb hby d3_38) rfl rfl ?_
          show Steps p.tables e below (T75.setTop (mkF m 39 #[.val (.ref a1), .val (.long nw), .second, .val (.long bo), .second, .val (.int iu)] [(.ref a1), (.long nw)])) _
          refine st84 _ ?_
          show Steps p.tables e below (T84.setTop (mkF m 42 #[.val (.ref a1), .val (.long nw), .second, .val (.long bo), .second, .val (.int iu)] [(.long sn), (.long nw)])) _
          refine XS.aloadN X84.here hx rfl (hb hby d3_42) rfl rfl ?_
          show Steps p.tables e below (T84.setTop (mkF m 43 #[.val (.ref a1), .val (.long nw), .second, .val (.long bo), .second, .val (.int iu)] [(.ref a1), (.long sn), (.long nw)])) _
          refine st85 _ ?_
          exact hk)
        obtain ⟨_, _, ⟨T87, L87, k87, n87⟩, -, X87, ⟨Lc87, hQ87, l87, y87, z87⟩, st87⟩ := Jvm.LawKit.callS X85 hx (y := (⟨"com/example/lease/lease/core/Nanos", "outlived", "(JJJ)Z"⟩ : MethodName)) hown (mvT hZ (hw _ (List.mem_of_getElem? (i := 24) rfl))) (mvT hZ (hw _ (List.mem_of_getElem? (i := 25) rfl))) (mvT hZ (hw _ (List.mem_of_getElem? (i := 26) rfl))) (mvT hZ (hw _ (List.mem_of_getElem? (i := 27) rfl))) (by decide) (backOf (W := 0) (rm4 l Z a0 hw [] nw sn lm  h75 n0 Z82 ) hZ (hw _ (List.mem_of_getElem? (i := 27) rfl)) (hw _ (List.mem_of_getElem? (i := 26) rfl)) (by decide) (by decide)) (g := (mkF m 46 #[.val (.ref a1), .val (.long nw), .second, .val (.long bo), .second, .val (.int iu)] [(.long lm), (.long sn), (.long nw)])) rfl (by rw [hml]; rfl) (argsL := [(.long nw), (.long sn), (.long lm)]) (rest := []) (lenOf pd_1 rfl) rfl (by show 2 * 0 + _ ≤ _; exact Nat.le_of_eq rfl) (hb hby d3_46) (fun _ _ => ⟨rfl, e85, (by decide : 0 + 0 ≤ _), (by decide : 0 + 0 ≤ _)⟩)
        dsimp only [Pt.U, Pt.locs, Pt.cells, Pt.slots] at X87 l87 y87 z87 st87 hQ87
        subst l87 y87 z87
        obtain ⟨r1, rfl, hr1, hb1, N87q, e87⟩ := hQ87
        have N87 := Fr.app N83 N87q
        have k88 : ∀ t, Steps p.tables e below (T87.setTop (mkF m 49 #[.val (.ref a1), .val (.long nw), .second, .val (.long bo), .second, .val (.int iu)] [(.int r1)])) t → Steps p.tables e below (s₁.setTop (entryFrame m #[(.ref a1), (.long nw), (.long bo), (.int iu)] 6)) t := fun t hk => k86 t (by
          show Steps p.tables e below (T85.setTop (mkF m 46 #[.val (.ref a1), .val (.long nw), .second, .val (.long bo), .second, .val (.int iu)] [(.long lm), (.long sn), (.long nw)])) _
          refine st87 _ ?_
          exact hk)
        obtain ⟨fs, hr, hrun, hended, hW, hsame⟩ := X87.leave (v := some (.int (nar .boolean r1))) (fun h => by rw [Bd.returns] at h; cases h)
        refine ⟨_, _, k88 _ ?_, hrun, hended, _, _, rfl, ?_, ⟨_, rfl⟩, hW, hsame.mono (by decide) (by decide)⟩
        · show Steps p.tables e below (T87.setTop (mkF m 49 #[.val (.ref a1), .val (.long nw), .second, .val (.long bo), .second, .val (.int iu)] [(.int r1)])) _
          exact retN X87 hx (t := .boolean) Bd.returns (by simp) (hb hby d3_49) hr
        · show Q3 Z a1 nw bo iu lm sn bs io h0 n0 _ T87.heap _
          rw [e87]
          refine ⟨_, sn, rfl, by rw [if_pos hc2, if_pos hc9, if_pos hc18], (own_nar hb1).trans hr1, N87, K81, E80, F76, F77, F78, ?_⟩
          exact (own_nar hiu) ▸ F79
      ·
        obtain ⟨T89, h89, X89, e89, W89, st89⟩ := putF X64 hx hZ hown (host := "") (Or.inl (hw _ (List.mem_of_getElem? (i := 13) rfl))) Via.refl e64 Fa Ex (Or.inl (hw _ (List.mem_of_getElem? (i := 14) rfl))) (hw _ (List.mem_of_getElem? (i := 3) rfl)) (ty := .long) (by decide) rfl rfl (g := (mkF m 23 #[.val (.ref a1), .val (.long nw), .second, .val (.long bo), .second, .val (.int iu)] [(.long nw), (.ref a1)])) rfl rfl (hb hby d3_23)
        have F90 := Fl.other W89 (Or.inr (slot_ne (Or.inr (hw _ (List.mem_of_getElem? (i := 12) rfl))) (Or.inl (hw _ (List.mem_of_getElem? (i := 14) rfl))) (by decide) (by decide : parseFieldDescriptor "J" = some .long) (by decide : parseFieldDescriptor "J" = some .long)))
        have F91 := Fa.same W89
        have F92 := Fb.other W89 (Or.inr (slot_ne (Or.inl (hw _ (List.mem_of_getElem? (i := 23) rfl))) (Or.inl (hw _ (List.mem_of_getElem? (i := 14) rfl))) (by decide) (by decide : parseFieldDescriptor "J" = some .long) (by decide : parseFieldDescriptor "J" = some .long)))
        have F93 := Fi.other W89 (Or.inr (slot_ne (Or.inl (hw _ (List.mem_of_getElem? (i := 21) rfl))) (Or.inl (hw _ (List.mem_of_getElem? (i := 14) rfl))) (by decide) (by decide : parseFieldDescriptor "Z" = some .boolean) (by decide : parseFieldDescriptor "J" = some .long)))
        have E94 := Ex.wr W89
        have K95 := (Keep.refl h0 [a1]).wr W89 (Or.inl (List.mem_of_getElem? (i := 0) rfl))
        have Z96 : n0 ≤ h89.size := W89.size ▸ Z0
        have N97 := Fr.snoc X89 N0 ga
        obtain ⟨T98, h98, X98, e98, W98, st98⟩ := putFN X89 hx hZ hown (hw _ (List.mem_of_getElem? (i := 20) rfl)) Via.refl e89 F93 E94 (Or.inl (hw _ (List.mem_of_getElem? (i := 21) rfl))) (hw _ (List.mem_of_getElem? (i := 3) rfl)) (ty := .boolean) (v' := (.int (nar .boolean iu))) (by decide) rfl (fits_nar_bool _) (g := (mkF m 29 #[.val (.ref a1), .val (.long nw), .second, .val (.long bo), .second, .val (.int iu)] [(.int iu), (.ref a1)])) rfl rfl (hb hby d3_29)
        have F99 := F90.other W98 (Or.inr (slot_ne (Or.inr (hw _ (List.mem_of_getElem? (i := 12) rfl))) (Or.inl (hw _ (List.mem_of_getElem? (i := 21) rfl))) (by decide) (by decide : parseFieldDescriptor "J" = some .long) (by decide : parseFieldDescriptor "Z" = some .boolean)))
        have F100 := F91.other W98 (Or.inr (slot_ne (Or.inl (hw _ (List.mem_of_getElem? (i := 14) rfl))) (Or.inl (hw _ (List.mem_of_getElem? (i := 21) rfl))) (by decide) (by decide : parseFieldDescriptor "J" = some .long) (by decide : parseFieldDescriptor "Z" = some .boolean)))
        have F101 := F92.other W98 (Or.inr (slot_ne (Or.inl (hw _ (List.mem_of_getElem? (i := 23) rfl))) (Or.inl (hw _ (List.mem_of_getElem? (i := 21) rfl))) (by decide) (by decide : parseFieldDescriptor "J" = some .long) (by decide : parseFieldDescriptor "Z" = some .boolean)))
        have F102 := F93.same W98
        have E103 := E94.wr W98
        have K104 := K95.wr W98 (Or.inl (List.mem_of_getElem? (i := 0) rfl))
        have Z105 : n0 ≤ h98.size := W98.size ▸ Z96
        have N106 := Fr.snoc X98 N97 ga
        obtain ⟨T107, h107, X107, e107, W107, st107⟩ := putF X98 hx hZ hown (host := "") (Or.inl (hw _ (List.mem_of_getElem? (i := 22) rfl))) Via.refl e98 F101 E103 (Or.inl (hw _ (List.mem_of_getElem? (i := 23) rfl))) (hw _ (List.mem_of_getElem? (i := 3) rfl)) (ty := .long) (by decide) rfl rfl (g := (mkF m 34 #[.val (.ref a1), .val (.long nw), .second, .val (.long bo), .second, .val (.int iu)] [(.long bo), (.ref a1)])) rfl rfl (hb hby d3_34)
        have F108 := F99.other W107 (Or.inr (slot_ne (Or.inr (hw _ (List.mem_of_getElem? (i := 12) rfl))) (Or.inl (hw _ (List.mem_of_getElem? (i := 23) rfl))) (by decide) (by decide : parseFieldDescriptor "J" = some .long) (by decide : parseFieldDescriptor "J" = some .long)))
        have F109 := F100.other W107 (Or.inr (slot_ne (Or.inl (hw _ (List.mem_of_getElem? (i := 14) rfl))) (Or.inl (hw _ (List.mem_of_getElem? (i := 23) rfl))) (by decide) (by decide : parseFieldDescriptor "J" = some .long) (by decide : parseFieldDescriptor "J" = some .long)))
        have F110 := F101.same W107
        have F111 := F102.other W107 (Or.inr (slot_ne (Or.inl (hw _ (List.mem_of_getElem? (i := 21) rfl))) (Or.inl (hw _ (List.mem_of_getElem? (i := 23) rfl))) (by decide) (by decide : parseFieldDescriptor "Z" = some .boolean) (by decide : parseFieldDescriptor "J" = some .long)))
        have E112 := E103.wr W107
        have K113 := K104.wr W107 (Or.inl (List.mem_of_getElem? (i := 0) rfl))
        have Z114 : n0 ≤ h107.size := W107.size ▸ Z105
        have N115 := Fr.snoc X107 N106 ga
        obtain ⟨T116, X116, e116, st116⟩ := getF X107 hx hZ hown (host := "") (Or.inl (hw _ (List.mem_of_getElem? (i := 13) rfl))) Via.refl e107 F109 (g := (mkF m 39 #[.val (.ref a1), .val (.long nw), .second, .val (.long bo), .second, .val (.int iu)] [(.ref a1), (.long nw)])) rfl rfl (hb hby d3_39)
        obtain ⟨T117, X117, e117, st117⟩ := getF X116 hx hZ hown (host := "") (Or.inl (hw _ (List.mem_of_getElem? (i := 11) rfl))) Via.refl e116 F108 (g := (mkF m 43 #[.val (.ref a1), .val (.long nw), .second, .val (.long bo), .second, .val (.int iu)] [(.ref a1), (.long nw), (.long nw)])) rfl rfl (hb hby d3_43)
        have k118 : ∀ t, Steps p.tables e below (T117.setTop (mkF m 46 #[.val (.ref a1), .val (.long nw), .second, .val (.long bo), .second, .val (.int iu)] [(.long lm), (.long nw), (.long nw)])) t → Steps p.tables e below (s₁.setTop (entryFrame m #[(.ref a1), (.long nw), (.long bo), (.int iu)] 6)) t := fun t hk => k65 t (by
          show Steps p.tables e below (T64.setTop (mkF m 18 #[.val (.ref a1), .val (.long nw), .second, .val (.long bo), .second, .val (.int iu)] [(.int (lcmpW bo bs))])) _
          refine XS.ifNo X64.here hx rfl (hb hby d3_18) rfl ((if0 _ _).trans (feq (fun q => hc18 ((lw_eq _ _).mp q))).1) ?_
          show Steps p.tables e below (T64.setTop (mkF m 21 #[.val (.ref a1), .val (.long nw), .second, .val (.long bo), .second, .val (.int iu)] [])) _
          refine XS.aloadN X64.here hx rfl (hb hby d3_21) rfl rfl ?_
          show Steps p.tables e below (T64.setTop (mkF m 22 #[.val (.ref a1), .val (.long nw), .second, .val (.long bo), .second, .val (.int iu)] [(.ref a1)])) _
          refine XS.lloadN X64.here hx rfl (hb hby d3_22) rfl ?_
          show Steps p.tables e below (T64.setTop (mkF m 23 #[.val (.ref a1), .val (.long nw), .second, .val (.long bo), .second, .val (.int iu)] [(.long nw), (.ref a1)])) _
          refine st89 _ ?_
          show Steps p.tables e below (T89.setTop (mkF m 26 #[.val (.ref a1), .val (.long nw), .second, .val (.long bo), .second, .val (.int iu)] [])) _
          refine XS.aloadN X89.here hx rfl (hb hby d3_26) rfl rfl ?_
          show Steps p.tables e below (T89.setTop (mkF m 27 #[.val (.ref a1), .val (.long nw), .second, .val (.long bo), .second, .val (.int iu)] [(.ref a1)])) _
          refine XS.iload X89.here hx rfl (hb hby d3_27) rfl ?_
          show Steps p.tables e below (T89.setTop (mkF m 29 #[.val (.ref a1), .val (.long nw), .second, .val (.long bo), .second, .val (.int iu)] [(.int iu), (.ref a1)])) _
          refine st98 _ ?_
          show Steps p.tables e below (T98.setTop (mkF m 32 #[.val (.ref a1), .val (.long nw), .second, .val (.long bo), .second, .val (.int iu)] [])) _
          refine XS.aloadN X98.here hx rfl (hb hby d3_32) rfl rfl ?_
          show Steps p.tables e below (T98.setTop (mkF m 33 #[.val (.ref a1), .val (.long nw), .second, .val (.long bo), .second, .val (.int iu)] [(.ref a1)])) _
          refine XS.lloadN X98.here hx rfl (hb hby d3_33) rfl ?_
          show Steps p.tables e below (T98.setTop (mkF m 34 #[.val (.ref a1), .val (.long nw), .second, .val (.long bo), .second, .val (.int iu)] [(.long bo), (.ref a1)])) _
          refine st107 _ ?_
          show Steps p.tables e below (T107.setTop (mkF m 37 #[.val (.ref a1), .val (.long nw), .second, .val (.long bo), .second, .val (.int iu)] [])) _
          refine XS.lloadN X107.here hx rfl (hb hby d3_37) rfl ?_
          show Steps p.tables e below (T107.setTop (mkF m 38 #[.val (.ref a1), .val (.long nw), .second, .val (.long bo), .second, .val (.int iu)] [(.long nw)])) _
          refine XS.aloadN X107.here hx rfl (hb hby d3_38) rfl rfl ?_
          show Steps p.tables e below (T107.setTop (mkF m 39 #[.val (.ref a1), .val (.long nw), .second, .val (.long bo), .second, .val (.int iu)] [(.ref a1), (.long nw)])) _
          refine st116 _ ?_
          show Steps p.tables e below (T116.setTop (mkF m 42 #[.val (.ref a1), .val (.long nw), .second, .val (.long bo), .second, .val (.int iu)] [(.long nw), (.long nw)])) _
          refine XS.aloadN X116.here hx rfl (hb hby d3_42) rfl rfl ?_
          show Steps p.tables e below (T116.setTop (mkF m 43 #[.val (.ref a1), .val (.long nw), .second, .val (.long bo), .second, .val (.int iu)] [(.ref a1), (.long nw), (.long nw)])) _
          refine st117 _ ?_
          exact hk)
        obtain ⟨_, _, ⟨T119, L119, k119, n119⟩, -, X119, ⟨Lc119, hQ119, l119, y119, z119⟩, st119⟩ := Jvm.LawKit.callS X117 hx (y := (⟨"com/example/lease/lease/core/Nanos", "outlived", "(JJJ)Z"⟩ : MethodName)) hown (mvT hZ (hw _ (List.mem_of_getElem? (i := 24) rfl))) (mvT hZ (hw _ (List.mem_of_getElem? (i := 25) rfl))) (mvT hZ (hw _ (List.mem_of_getElem? (i := 26) rfl))) (mvT hZ (hw _ (List.mem_of_getElem? (i := 27) rfl))) (by decide) (backOf (W := 0) (rm4 l Z a0 hw [] nw nw lm  h107 n0 Z114 ) hZ (hw _ (List.mem_of_getElem? (i := 27) rfl)) (hw _ (List.mem_of_getElem? (i := 26) rfl)) (by decide) (by decide)) (g := (mkF m 46 #[.val (.ref a1), .val (.long nw), .second, .val (.long bo), .second, .val (.int iu)] [(.long lm), (.long nw), (.long nw)])) rfl (by rw [hml]; rfl) (argsL := [(.long nw), (.long nw), (.long lm)]) (rest := []) (lenOf pd_1 rfl) rfl (by show 2 * 0 + _ ≤ _; exact Nat.le_of_eq rfl) (hb hby d3_46) (fun _ _ => ⟨rfl, e117, (by decide : 0 + 0 ≤ _), (by decide : 0 + 0 ≤ _)⟩)
        dsimp only [Pt.U, Pt.locs, Pt.cells, Pt.slots] at X119 l119 y119 z119 st119 hQ119
        subst l119 y119 z119
        obtain ⟨r1, rfl, hr1, hb1, N119q, e119⟩ := hQ119
        have N119 := Fr.app N115 N119q
        have k120 : ∀ t, Steps p.tables e below (T119.setTop (mkF m 49 #[.val (.ref a1), .val (.long nw), .second, .val (.long bo), .second, .val (.int iu)] [(.int r1)])) t → Steps p.tables e below (s₁.setTop (entryFrame m #[(.ref a1), (.long nw), (.long bo), (.int iu)] 6)) t := fun t hk => k118 t (by
          show Steps p.tables e below (T117.setTop (mkF m 46 #[.val (.ref a1), .val (.long nw), .second, .val (.long bo), .second, .val (.int iu)] [(.long lm), (.long nw), (.long nw)])) _
          refine st119 _ ?_
          exact hk)
        obtain ⟨fs, hr, hrun, hended, hW, hsame⟩ := X119.leave (v := some (.int (nar .boolean r1))) (fun h => by rw [Bd.returns] at h; cases h)
        refine ⟨_, _, k120 _ ?_, hrun, hended, _, _, rfl, ?_, ⟨_, rfl⟩, hW, hsame.mono (by decide) (by decide)⟩
        · show Steps p.tables e below (T119.setTop (mkF m 49 #[.val (.ref a1), .val (.long nw), .second, .val (.long bo), .second, .val (.int iu)] [(.int r1)])) _
          exact retN X119 hx (t := .boolean) Bd.returns (by simp) (hb hby d3_49) hr
        · show Q3 Z a1 nw bo iu lm sn bs io h0 n0 _ T119.heap _
          rw [e119]
          refine ⟨_, nw, rfl, by rw [if_pos hc2, if_pos hc9, if_neg hc18], (own_nar hb1).trans hr1, N119, K113, E112, F108, F109, F110, ?_⟩
          exact (own_nar hiu) ▸ F111
    ·
      obtain ⟨T121, h121, X121, e121, W121, st121⟩ := putF X62 hx hZ hown (host := "") (Or.inl (hw _ (List.mem_of_getElem? (i := 13) rfl))) Via.refl e62 Fa Ex (Or.inl (hw _ (List.mem_of_getElem? (i := 14) rfl))) (hw _ (List.mem_of_getElem? (i := 3) rfl)) (ty := .long) (by decide) rfl rfl (g := (mkF m 23 #[.val (.ref a1), .val (.long nw), .second, .val (.long bo), .second, .val (.int iu)] [(.long nw), (.ref a1)])) rfl rfl (hb hby d3_23)
      have F122 := Fl.other W121 (Or.inr (slot_ne (Or.inr (hw _ (List.mem_of_getElem? (i := 12) rfl))) (Or.inl (hw _ (List.mem_of_getElem? (i := 14) rfl))) (by decide) (by decide : parseFieldDescriptor "J" = some .long) (by decide : parseFieldDescriptor "J" = some .long)))
      have F123 := Fa.same W121
      have F124 := Fb.other W121 (Or.inr (slot_ne (Or.inl (hw _ (List.mem_of_getElem? (i := 23) rfl))) (Or.inl (hw _ (List.mem_of_getElem? (i := 14) rfl))) (by decide) (by decide : parseFieldDescriptor "J" = some .long) (by decide : parseFieldDescriptor "J" = some .long)))
      have F125 := Fi.other W121 (Or.inr (slot_ne (Or.inl (hw _ (List.mem_of_getElem? (i := 21) rfl))) (Or.inl (hw _ (List.mem_of_getElem? (i := 14) rfl))) (by decide) (by decide : parseFieldDescriptor "Z" = some .boolean) (by decide : parseFieldDescriptor "J" = some .long)))
      have E126 := Ex.wr W121
      have K127 := (Keep.refl h0 [a1]).wr W121 (Or.inl (List.mem_of_getElem? (i := 0) rfl))
      have Z128 : n0 ≤ h121.size := W121.size ▸ Z0
      have N129 := Fr.snoc X121 N0 ga
      obtain ⟨T130, h130, X130, e130, W130, st130⟩ := putFN X121 hx hZ hown (hw _ (List.mem_of_getElem? (i := 20) rfl)) Via.refl e121 F125 E126 (Or.inl (hw _ (List.mem_of_getElem? (i := 21) rfl))) (hw _ (List.mem_of_getElem? (i := 3) rfl)) (ty := .boolean) (v' := (.int (nar .boolean iu))) (by decide) rfl (fits_nar_bool _) (g := (mkF m 29 #[.val (.ref a1), .val (.long nw), .second, .val (.long bo), .second, .val (.int iu)] [(.int iu), (.ref a1)])) rfl rfl (hb hby d3_29)
      have F131 := F122.other W130 (Or.inr (slot_ne (Or.inr (hw _ (List.mem_of_getElem? (i := 12) rfl))) (Or.inl (hw _ (List.mem_of_getElem? (i := 21) rfl))) (by decide) (by decide : parseFieldDescriptor "J" = some .long) (by decide : parseFieldDescriptor "Z" = some .boolean)))
      have F132 := F123.other W130 (Or.inr (slot_ne (Or.inl (hw _ (List.mem_of_getElem? (i := 14) rfl))) (Or.inl (hw _ (List.mem_of_getElem? (i := 21) rfl))) (by decide) (by decide : parseFieldDescriptor "J" = some .long) (by decide : parseFieldDescriptor "Z" = some .boolean)))
      have F133 := F124.other W130 (Or.inr (slot_ne (Or.inl (hw _ (List.mem_of_getElem? (i := 23) rfl))) (Or.inl (hw _ (List.mem_of_getElem? (i := 21) rfl))) (by decide) (by decide : parseFieldDescriptor "J" = some .long) (by decide : parseFieldDescriptor "Z" = some .boolean)))
      have F134 := F125.same W130
      have E135 := E126.wr W130
      have K136 := K127.wr W130 (Or.inl (List.mem_of_getElem? (i := 0) rfl))
      have Z137 : n0 ≤ h130.size := W130.size ▸ Z128
      have N138 := Fr.snoc X130 N129 ga
      obtain ⟨T139, h139, X139, e139, W139, st139⟩ := putF X130 hx hZ hown (host := "") (Or.inl (hw _ (List.mem_of_getElem? (i := 22) rfl))) Via.refl e130 F133 E135 (Or.inl (hw _ (List.mem_of_getElem? (i := 23) rfl))) (hw _ (List.mem_of_getElem? (i := 3) rfl)) (ty := .long) (by decide) rfl rfl (g := (mkF m 34 #[.val (.ref a1), .val (.long nw), .second, .val (.long bo), .second, .val (.int iu)] [(.long bo), (.ref a1)])) rfl rfl (hb hby d3_34)
      have F140 := F131.other W139 (Or.inr (slot_ne (Or.inr (hw _ (List.mem_of_getElem? (i := 12) rfl))) (Or.inl (hw _ (List.mem_of_getElem? (i := 23) rfl))) (by decide) (by decide : parseFieldDescriptor "J" = some .long) (by decide : parseFieldDescriptor "J" = some .long)))
      have F141 := F132.other W139 (Or.inr (slot_ne (Or.inl (hw _ (List.mem_of_getElem? (i := 14) rfl))) (Or.inl (hw _ (List.mem_of_getElem? (i := 23) rfl))) (by decide) (by decide : parseFieldDescriptor "J" = some .long) (by decide : parseFieldDescriptor "J" = some .long)))
      have F142 := F133.same W139
      have F143 := F134.other W139 (Or.inr (slot_ne (Or.inl (hw _ (List.mem_of_getElem? (i := 21) rfl))) (Or.inl (hw _ (List.mem_of_getElem? (i := 23) rfl))) (by decide) (by decide : parseFieldDescriptor "Z" = some .boolean) (by decide : parseFieldDescriptor "J" = some .long)))
      have E144 := E135.wr W139
      have K145 := K136.wr W139 (Or.inl (List.mem_of_getElem? (i := 0) rfl))
      have Z146 : n0 ≤ h139.size := W139.size ▸ Z137
      have N147 := Fr.snoc X139 N138 ga
      obtain ⟨T148, X148, e148, st148⟩ := getF X139 hx hZ hown (host := "") (Or.inl (hw _ (List.mem_of_getElem? (i := 13) rfl))) Via.refl e139 F141 (g := (mkF m 39 #[.val (.ref a1), .val (.long nw), .second, .val (.long bo), .second, .val (.int iu)] [(.ref a1), (.long nw)])) rfl rfl (hb hby d3_39)
      obtain ⟨T149, X149, e149, st149⟩ := getF X148 hx hZ hown (host := "") (Or.inl (hw _ (List.mem_of_getElem? (i := 11) rfl))) Via.refl e148 F140 (g := (mkF m 43 #[.val (.ref a1), .val (.long nw), .second, .val (.long bo), .second, .val (.int iu)] [(.ref a1), (.long nw), (.long nw)])) rfl rfl (hb hby d3_43)
      have k150 : ∀ t, Steps p.tables e below (T149.setTop (mkF m 46 #[.val (.ref a1), .val (.long nw), .second, .val (.long bo), .second, .val (.int iu)] [(.long lm), (.long nw), (.long nw)])) t → Steps p.tables e below (s₁.setTop (entryFrame m #[(.ref a1), (.long nw), (.long bo), (.int iu)] 6)) t := fun t hk => k63 t (by
        show Steps p.tables e below (T62.setTop (mkF m 9 #[.val (.ref a1), .val (.long nw), .second, .val (.long bo), .second, .val (.int iu)] [(.int io)])) _
        refine XS.ifYes X62.here hx rfl (pc0 := 9) (pc' := 21) rfl (hb hby d3_9) rfl ((if0 _ _).trans (feq hc9).2) (by decide) (by decide) ?_
        show Steps p.tables e below (T62.setTop (mkF m 21 #[.val (.ref a1), .val (.long nw), .second, .val (.long bo), .second, .val (.int iu)] [])) _
        refine XS.aloadN X62.here hx rfl (hb hby d3_21) rfl rfl ?_
        show Steps p.tables e below (T62.setTop (mkF m 22 #[.val (.ref a1), .val (.long nw), .second, .val (.long bo), .second, .val (.int iu)] [(.ref a1)])) _
        refine XS.lloadN X62.here hx rfl (hb hby d3_22) rfl ?_
        show Steps p.tables e below (T62.setTop (mkF m 23 #[.val (.ref a1), .val (.long nw), .second, .val (.long bo), .second, .val (.int iu)] [(.long nw), (.ref a1)])) _
        refine st121 _ ?_
        show Steps p.tables e below (T121.setTop (mkF m 26 #[.val (.ref a1), .val (.long nw), .second, .val (.long bo), .second, .val (.int iu)] [])) _
        refine XS.aloadN X121.here hx rfl (hb hby d3_26) rfl rfl ?_
        show Steps p.tables e below (T121.setTop (mkF m 27 #[.val (.ref a1), .val (.long nw), .second, .val (.long bo), .second, .val (.int iu)] [(.ref a1)])) _
        refine XS.iload X121.here hx rfl (hb hby d3_27) rfl ?_
        show Steps p.tables e below (T121.setTop (mkF m 29 #[.val (.ref a1), .val (.long nw), .second, .val (.long bo), .second, .val (.int iu)] [(.int iu), (.ref a1)])) _
        refine st130 _ ?_
        show Steps p.tables e below (T130.setTop (mkF m 32 #[.val (.ref a1), .val (.long nw), .second, .val (.long bo), .second, .val (.int iu)] [])) _
        refine XS.aloadN X130.here hx rfl (hb hby d3_32) rfl rfl ?_
        show Steps p.tables e below (T130.setTop (mkF m 33 #[.val (.ref a1), .val (.long nw), .second, .val (.long bo), .second, .val (.int iu)] [(.ref a1)])) _
        refine XS.lloadN X130.here hx rfl (hb hby d3_33) rfl ?_
        show Steps p.tables e below (T130.setTop (mkF m 34 #[.val (.ref a1), .val (.long nw), .second, .val (.long bo), .second, .val (.int iu)] [(.long bo), (.ref a1)])) _
        refine st139 _ ?_
        show Steps p.tables e below (T139.setTop (mkF m 37 #[.val (.ref a1), .val (.long nw), .second, .val (.long bo), .second, .val (.int iu)] [])) _
        refine XS.lloadN X139.here hx rfl (hb hby d3_37) rfl ?_
        show Steps p.tables e below (T139.setTop (mkF m 38 #[.val (.ref a1), .val (.long nw), .second, .val (.long bo), .second, .val (.int iu)] [(.long nw)])) _
        refine XS.aloadN X139.here hx rfl (hb hby d3_38) rfl rfl ?_
        show Steps p.tables e below (T139.setTop (mkF m 39 #[.val (.ref a1), .val (.long nw), .second, .val (.long bo), .second, .val (.int iu)] [(.ref a1), (.long nw)])) _
        refine st148 _ ?_
        show Steps p.tables e below (T148.setTop (mkF m 42 #[.val (.ref a1), .val (.long nw), .second, .val (.long bo), .second, .val (.int iu)] [(.long nw), (.long nw)])) _
        refine XS.aloadN X148.here hx rfl (hb hby d3_42) rfl rfl ?_
        show Steps p.tables e below (T148.setTop (mkF m 43 #[.val (.ref a1), .val (.long nw), .second, .val (.long bo), .second, .val (.int iu)] [(.ref a1), (.long nw), (.long nw)])) _
        refine st149 _ ?_
        exact hk)
      obtain ⟨_, _, ⟨T151, L151, k151, n151⟩, -, X151, ⟨Lc151, hQ151, l151, y151, z151⟩, st151⟩ := Jvm.LawKit.callS X149 hx (y := (⟨"com/example/lease/lease/core/Nanos", "outlived", "(JJJ)Z"⟩ : MethodName)) hown (mvT hZ (hw _ (List.mem_of_getElem? (i := 24) rfl))) (mvT hZ (hw _ (List.mem_of_getElem? (i := 25) rfl))) (mvT hZ (hw _ (List.mem_of_getElem? (i := 26) rfl))) (mvT hZ (hw _ (List.mem_of_getElem? (i := 27) rfl))) (by decide) (backOf (W := 0) (rm4 l Z a0 hw [] nw nw lm  h139 n0 Z146 ) hZ (hw _ (List.mem_of_getElem? (i := 27) rfl)) (hw _ (List.mem_of_getElem? (i := 26) rfl)) (by decide) (by decide)) (g := (mkF m 46 #[.val (.ref a1), .val (.long nw), .second, .val (.long bo), .second, .val (.int iu)] [(.long lm), (.long nw), (.long nw)])) rfl (by rw [hml]; rfl) (argsL := [(.long nw), (.long nw), (.long lm)]) (rest := []) (lenOf pd_1 rfl) rfl (by show 2 * 0 + _ ≤ _; exact Nat.le_of_eq rfl) (hb hby d3_46) (fun _ _ => ⟨rfl, e149, (by decide : 0 + 0 ≤ _), (by decide : 0 + 0 ≤ _)⟩)
      dsimp only [Pt.U, Pt.locs, Pt.cells, Pt.slots] at X151 l151 y151 z151 st151 hQ151
      subst l151 y151 z151
      obtain ⟨r1, rfl, hr1, hb1, N151q, e151⟩ := hQ151
      have N151 := Fr.app N147 N151q
      have k152 : ∀ t, Steps p.tables e below (T151.setTop (mkF m 49 #[.val (.ref a1), .val (.long nw), .second, .val (.long bo), .second, .val (.int iu)] [(.int r1)])) t → Steps p.tables e below (s₁.setTop (entryFrame m #[(.ref a1), (.long nw), (.long bo), (.int iu)] 6)) t := fun t hk => k150 t (by
        show Steps p.tables e below (T149.setTop (mkF m 46 #[.val (.ref a1), .val (.long nw), .second, .val (.long bo), .second, .val (.int iu)] [(.long lm), (.long nw), (.long nw)])) _
        refine st151 _ ?_
        exact hk)
      obtain ⟨fs, hr, hrun, hended, hW, hsame⟩ := X151.leave (v := some (.int (nar .boolean r1))) (fun h => by rw [Bd.returns] at h; cases h)
      refine ⟨_, _, k152 _ ?_, hrun, hended, _, _, rfl, ?_, ⟨_, rfl⟩, hW, hsame.mono (by decide) (by decide)⟩
      · show Steps p.tables e below (T151.setTop (mkF m 49 #[.val (.ref a1), .val (.long nw), .second, .val (.long bo), .second, .val (.int iu)] [(.int r1)])) _
        exact retN X151 hx (t := .boolean) Bd.returns (by simp) (hb hby d3_49) hr
      · show Q3 Z a1 nw bo iu lm sn bs io h0 n0 _ T151.heap _
        rw [e151]
        refine ⟨_, nw, rfl, by rw [if_pos hc2, if_neg hc9], (own_nar hb1).trans hr1, N151, K145, E144, F140, F141, F142, ?_⟩
        exact (own_nar hiu) ▸ F143
  ·
    obtain ⟨T153, h153, X153, e153, W153, st153⟩ := putF X0 hx hZ hown (host := "") (Or.inl (hw _ (List.mem_of_getElem? (i := 13) rfl))) Via.refl e0 Fa Ex (Or.inl (hw _ (List.mem_of_getElem? (i := 14) rfl))) (hw _ (List.mem_of_getElem? (i := 3) rfl)) (ty := .long) (by decide) rfl rfl (g := (mkF m 23 #[.val (.ref a1), .val (.long nw), .second, .val (.long bo), .second, .val (.int iu)] [(.long nw), (.ref a1)])) rfl rfl (hb hby d3_23)
    have F154 := Fl.other W153 (Or.inr (slot_ne (Or.inr (hw _ (List.mem_of_getElem? (i := 12) rfl))) (Or.inl (hw _ (List.mem_of_getElem? (i := 14) rfl))) (by decide) (by decide : parseFieldDescriptor "J" = some .long) (by decide : parseFieldDescriptor "J" = some .long)))
    have F155 := Fa.same W153
    have F156 := Fb.other W153 (Or.inr (slot_ne (Or.inl (hw _ (List.mem_of_getElem? (i := 23) rfl))) (Or.inl (hw _ (List.mem_of_getElem? (i := 14) rfl))) (by decide) (by decide : parseFieldDescriptor "J" = some .long) (by decide : parseFieldDescriptor "J" = some .long)))
    have F157 := Fi.other W153 (Or.inr (slot_ne (Or.inl (hw _ (List.mem_of_getElem? (i := 21) rfl))) (Or.inl (hw _ (List.mem_of_getElem? (i := 14) rfl))) (by decide) (by decide : parseFieldDescriptor "Z" = some .boolean) (by decide : parseFieldDescriptor "J" = some .long)))
    have E158 := Ex.wr W153
    have K159 := (Keep.refl h0 [a1]).wr W153 (Or.inl (List.mem_of_getElem? (i := 0) rfl))
    have Z160 : n0 ≤ h153.size := W153.size ▸ Z0
    have N161 := Fr.snoc X153 N0 ga
    obtain ⟨T162, h162, X162, e162, W162, st162⟩ := putFN X153 hx hZ hown (hw _ (List.mem_of_getElem? (i := 20) rfl)) Via.refl e153 F157 E158 (Or.inl (hw _ (List.mem_of_getElem? (i := 21) rfl))) (hw _ (List.mem_of_getElem? (i := 3) rfl)) (ty := .boolean) (v' := (.int (nar .boolean iu))) (by decide) rfl (fits_nar_bool _) (g := (mkF m 29 #[.val (.ref a1), .val (.long nw), .second, .val (.long bo), .second, .val (.int iu)] [(.int iu), (.ref a1)])) rfl rfl (hb hby d3_29)
    have F163 := F154.other W162 (Or.inr (slot_ne (Or.inr (hw _ (List.mem_of_getElem? (i := 12) rfl))) (Or.inl (hw _ (List.mem_of_getElem? (i := 21) rfl))) (by decide) (by decide : parseFieldDescriptor "J" = some .long) (by decide : parseFieldDescriptor "Z" = some .boolean)))
    have F164 := F155.other W162 (Or.inr (slot_ne (Or.inl (hw _ (List.mem_of_getElem? (i := 14) rfl))) (Or.inl (hw _ (List.mem_of_getElem? (i := 21) rfl))) (by decide) (by decide : parseFieldDescriptor "J" = some .long) (by decide : parseFieldDescriptor "Z" = some .boolean)))
    have F165 := F156.other W162 (Or.inr (slot_ne (Or.inl (hw _ (List.mem_of_getElem? (i := 23) rfl))) (Or.inl (hw _ (List.mem_of_getElem? (i := 21) rfl))) (by decide) (by decide : parseFieldDescriptor "J" = some .long) (by decide : parseFieldDescriptor "Z" = some .boolean)))
    have F166 := F157.same W162
    have E167 := E158.wr W162
    have K168 := K159.wr W162 (Or.inl (List.mem_of_getElem? (i := 0) rfl))
    have Z169 : n0 ≤ h162.size := W162.size ▸ Z160
    have N170 := Fr.snoc X162 N161 ga
    obtain ⟨T171, h171, X171, e171, W171, st171⟩ := putF X162 hx hZ hown (host := "") (Or.inl (hw _ (List.mem_of_getElem? (i := 22) rfl))) Via.refl e162 F165 E167 (Or.inl (hw _ (List.mem_of_getElem? (i := 23) rfl))) (hw _ (List.mem_of_getElem? (i := 3) rfl)) (ty := .long) (by decide) rfl rfl (g := (mkF m 34 #[.val (.ref a1), .val (.long nw), .second, .val (.long bo), .second, .val (.int iu)] [(.long bo), (.ref a1)])) rfl rfl (hb hby d3_34)
    have F172 := F163.other W171 (Or.inr (slot_ne (Or.inr (hw _ (List.mem_of_getElem? (i := 12) rfl))) (Or.inl (hw _ (List.mem_of_getElem? (i := 23) rfl))) (by decide) (by decide : parseFieldDescriptor "J" = some .long) (by decide : parseFieldDescriptor "J" = some .long)))
    have F173 := F164.other W171 (Or.inr (slot_ne (Or.inl (hw _ (List.mem_of_getElem? (i := 14) rfl))) (Or.inl (hw _ (List.mem_of_getElem? (i := 23) rfl))) (by decide) (by decide : parseFieldDescriptor "J" = some .long) (by decide : parseFieldDescriptor "J" = some .long)))
    have F174 := F165.same W171
    have F175 := F166.other W171 (Or.inr (slot_ne (Or.inl (hw _ (List.mem_of_getElem? (i := 21) rfl))) (Or.inl (hw _ (List.mem_of_getElem? (i := 23) rfl))) (by decide) (by decide : parseFieldDescriptor "Z" = some .boolean) (by decide : parseFieldDescriptor "J" = some .long)))
    have E176 := E167.wr W171
    have K177 := K168.wr W171 (Or.inl (List.mem_of_getElem? (i := 0) rfl))
    have Z178 : n0 ≤ h171.size := W171.size ▸ Z169
    have N179 := Fr.snoc X171 N170 ga
    obtain ⟨T180, X180, e180, st180⟩ := getF X171 hx hZ hown (host := "") (Or.inl (hw _ (List.mem_of_getElem? (i := 13) rfl))) Via.refl e171 F173 (g := (mkF m 39 #[.val (.ref a1), .val (.long nw), .second, .val (.long bo), .second, .val (.int iu)] [(.ref a1), (.long nw)])) rfl rfl (hb hby d3_39)
    obtain ⟨T181, X181, e181, st181⟩ := getF X180 hx hZ hown (host := "") (Or.inl (hw _ (List.mem_of_getElem? (i := 11) rfl))) Via.refl e180 F172 (g := (mkF m 43 #[.val (.ref a1), .val (.long nw), .second, .val (.long bo), .second, .val (.int iu)] [(.ref a1), (.long nw), (.long nw)])) rfl rfl (hb hby d3_43)
    have k182 : ∀ t, Steps p.tables e below (T181.setTop (mkF m 46 #[.val (.ref a1), .val (.long nw), .second, .val (.long bo), .second, .val (.int iu)] [(.long lm), (.long nw), (.long nw)])) t → Steps p.tables e below (s₁.setTop (entryFrame m #[(.ref a1), (.long nw), (.long bo), (.int iu)] 6)) t := fun t hk => k61 t (by
      show Steps p.tables e below (s₁.setTop (mkF m 2 #[.val (.ref a1), .val (.long nw), .second, .val (.long bo), .second, .val (.int iu)] [(.int iu)])) _
      refine XS.ifYes X0.here hx rfl (pc0 := 2) (pc' := 21) rfl (hb hby d3_2) rfl ((if0 _ _).trans (feq hc2).2) (by decide) (by decide) ?_
      show Steps p.tables e below (s₁.setTop (mkF m 21 #[.val (.ref a1), .val (.long nw), .second, .val (.long bo), .second, .val (.int iu)] [])) _
      refine XS.aloadN X0.here hx rfl (hb hby d3_21) rfl rfl ?_
      show Steps p.tables e below (s₁.setTop (mkF m 22 #[.val (.ref a1), .val (.long nw), .second, .val (.long bo), .second, .val (.int iu)] [(.ref a1)])) _
      refine XS.lloadN X0.here hx rfl (hb hby d3_22) rfl ?_
      show Steps p.tables e below (s₁.setTop (mkF m 23 #[.val (.ref a1), .val (.long nw), .second, .val (.long bo), .second, .val (.int iu)] [(.long nw), (.ref a1)])) _
      refine st153 _ ?_
      show Steps p.tables e below (T153.setTop (mkF m 26 #[.val (.ref a1), .val (.long nw), .second, .val (.long bo), .second, .val (.int iu)] [])) _
      refine XS.aloadN X153.here hx rfl (hb hby d3_26) rfl rfl ?_
      show Steps p.tables e below (T153.setTop (mkF m 27 #[.val (.ref a1), .val (.long nw), .second, .val (.long bo), .second, .val (.int iu)] [(.ref a1)])) _
      refine XS.iload X153.here hx rfl (hb hby d3_27) rfl ?_
      show Steps p.tables e below (T153.setTop (mkF m 29 #[.val (.ref a1), .val (.long nw), .second, .val (.long bo), .second, .val (.int iu)] [(.int iu), (.ref a1)])) _
      refine st162 _ ?_
      show Steps p.tables e below (T162.setTop (mkF m 32 #[.val (.ref a1), .val (.long nw), .second, .val (.long bo), .second, .val (.int iu)] [])) _
      refine XS.aloadN X162.here hx rfl (hb hby d3_32) rfl rfl ?_
      show Steps p.tables e below (T162.setTop (mkF m 33 #[.val (.ref a1), .val (.long nw), .second, .val (.long bo), .second, .val (.int iu)] [(.ref a1)])) _
      refine XS.lloadN X162.here hx rfl (hb hby d3_33) rfl ?_
      show Steps p.tables e below (T162.setTop (mkF m 34 #[.val (.ref a1), .val (.long nw), .second, .val (.long bo), .second, .val (.int iu)] [(.long bo), (.ref a1)])) _
      refine st171 _ ?_
      show Steps p.tables e below (T171.setTop (mkF m 37 #[.val (.ref a1), .val (.long nw), .second, .val (.long bo), .second, .val (.int iu)] [])) _
      refine XS.lloadN X171.here hx rfl (hb hby d3_37) rfl ?_
      show Steps p.tables e below (T171.setTop (mkF m 38 #[.val (.ref a1), .val (.long nw), .second, .val (.long bo), .second, .val (.int iu)] [(.long nw)])) _
      refine XS.aloadN X171.here hx rfl (hb hby d3_38) rfl rfl ?_
      show Steps p.tables e below (T171.setTop (mkF m 39 #[.val (.ref a1), .val (.long nw), .second, .val (.long bo), .second, .val (.int iu)] [(.ref a1), (.long nw)])) _
      refine st180 _ ?_
      show Steps p.tables e below (T180.setTop (mkF m 42 #[.val (.ref a1), .val (.long nw), .second, .val (.long bo), .second, .val (.int iu)] [(.long nw), (.long nw)])) _
      refine XS.aloadN X180.here hx rfl (hb hby d3_42) rfl rfl ?_
      show Steps p.tables e below (T180.setTop (mkF m 43 #[.val (.ref a1), .val (.long nw), .second, .val (.long bo), .second, .val (.int iu)] [(.ref a1), (.long nw), (.long nw)])) _
      refine st181 _ ?_
      exact hk)
    obtain ⟨_, _, ⟨T183, L183, k183, n183⟩, -, X183, ⟨Lc183, hQ183, l183, y183, z183⟩, st183⟩ := Jvm.LawKit.callS X181 hx (y := (⟨"com/example/lease/lease/core/Nanos", "outlived", "(JJJ)Z"⟩ : MethodName)) hown (mvT hZ (hw _ (List.mem_of_getElem? (i := 24) rfl))) (mvT hZ (hw _ (List.mem_of_getElem? (i := 25) rfl))) (mvT hZ (hw _ (List.mem_of_getElem? (i := 26) rfl))) (mvT hZ (hw _ (List.mem_of_getElem? (i := 27) rfl))) (by decide) (backOf (W := 0) (rm4 l Z a0 hw [] nw nw lm  h171 n0 Z178 ) hZ (hw _ (List.mem_of_getElem? (i := 27) rfl)) (hw _ (List.mem_of_getElem? (i := 26) rfl)) (by decide) (by decide)) (g := (mkF m 46 #[.val (.ref a1), .val (.long nw), .second, .val (.long bo), .second, .val (.int iu)] [(.long lm), (.long nw), (.long nw)])) rfl (by rw [hml]; rfl) (argsL := [(.long nw), (.long nw), (.long lm)]) (rest := []) (lenOf pd_1 rfl) rfl (by show 2 * 0 + _ ≤ _; exact Nat.le_of_eq rfl) (hb hby d3_46) (fun _ _ => ⟨rfl, e181, (by decide : 0 + 0 ≤ _), (by decide : 0 + 0 ≤ _)⟩)
    dsimp only [Pt.U, Pt.locs, Pt.cells, Pt.slots] at X183 l183 y183 z183 st183 hQ183
    subst l183 y183 z183
    obtain ⟨r1, rfl, hr1, hb1, N183q, e183⟩ := hQ183
    have N183 := Fr.app N179 N183q
    have k184 : ∀ t, Steps p.tables e below (T183.setTop (mkF m 49 #[.val (.ref a1), .val (.long nw), .second, .val (.long bo), .second, .val (.int iu)] [(.int r1)])) t → Steps p.tables e below (s₁.setTop (entryFrame m #[(.ref a1), (.long nw), (.long bo), (.int iu)] 6)) t := fun t hk => k182 t (by
      show Steps p.tables e below (T181.setTop (mkF m 46 #[.val (.ref a1), .val (.long nw), .second, .val (.long bo), .second, .val (.int iu)] [(.long lm), (.long nw), (.long nw)])) _
      refine st183 _ ?_
      exact hk)
    obtain ⟨fs, hr, hrun, hended, hW, hsame⟩ := X183.leave (v := some (.int (nar .boolean r1))) (fun h => by rw [Bd.returns] at h; cases h)
    refine ⟨_, _, k184 _ ?_, hrun, hended, _, _, rfl, ?_, ⟨_, rfl⟩, hW, hsame.mono (by decide) (by decide)⟩
    · show Steps p.tables e below (T183.setTop (mkF m 49 #[.val (.ref a1), .val (.long nw), .second, .val (.long bo), .second, .val (.int iu)] [(.int r1)])) _
      exact retN X183 hx (t := .boolean) Bd.returns (by simp) (hb hby d3_49) hr
    · show Q3 Z a1 nw bo iu lm sn bs io h0 n0 _ T183.heap _
      rw [e183]
      refine ⟨_, nw, rfl, by rw [if_neg hc2], (own_nar hb1).trans hr1, N183, K177, E176, F172, F173, F174, ?_⟩
      exact (own_nar hiu) ▸ F175
theorem pn_0 : plainName "com/example/lease/lease/core/LastUseUnusedAtPinLaw" = true := by first | (simp [plainName, overriddenIn]; done) | decide +kernel
theorem ef_0 (m : MethodId) (limit : Int64) (t0 : Int64) (now1 : Int64) (now2 : Int64) (bb : Int64) (flags : Int32) : entryFrame m #[(.long limit), (.long t0), (.long now1), (.long now2), (.long bb), (.int flags)] maxLocals = (mkF m 0 #[.val (.long limit), .second, .val (.long t0), .second, .val (.long now1), .second, .val (.long now2), .second, .val (.long bb), .second, .val (.int flags), .unset, .unset, .unset, .unset, .unset, .unset, .unset, .unset, .unset, .unset, .unset, .unset, .unset, .unset, .unset, .unset, .unset, .unset, .unset, .unset, .unset, .unset, .unset, .unset, .unset, .unset, .unset, .unset] []) := by first | (simp [entryFrame, mkF, argsToLocals, Value.category, maxLocals]; done) | rfl
def Q0 (Z : State) (limit : Int64) (t0 : Int64) (now1 : Int64) (now2 : Int64) (bb : Int64) (flags : Int32) (h0 : Heap) (n0 : Nat) (v : Option Value) (h : Heap) (L : List Loc) : Prop := v = some (.int 1) ∧ Fr n0 L
set_option maxRecDepth 65536 in
set_option maxHeartbeats 40000000 in
theorem rm0 (l : Launch) (Z : State) (a0 : Array Value) (hw : ∀ d ∈ tables_1, d.before a0 Z = true) (ws : List Jvm.Cond) (limit : Int64) (t0 : Int64) (now1 : Int64) (now2 : Int64) (bb : Int64) (flags : Int32) (h0 : Heap) (n0 : Nat) (Z0 : n0 ≤ h0.size)  :
    MetFree l x (head1 (Jvm.Cond.code x code maxLocals ret :: ws) room_1) (fun a U => a = #[(.long limit), (.long t0), (.long now1), (.long now2), (.long bb), (.int flags)] ∧ Z.Warmed39 U.vm ∧ U.heap = h0) (fun _ _ _ _ _ => True) (fun _ U o U' => ∃ v L, o = .returned v ∧ Q0 Z limit t0 now1 now2 bb flags h0 n0 v U'.heap L ∧ FrameEnd U o U' L room_1.cells room_1.slots) := by
  refine MetFree.of_bodySF (plainFor_of_name pn_0) hisR ?_
  intro p e s m args below meth c s₁ Bd hml0 hP hK
  obtain ⟨rfl, hZ, hh⟩ := hP
  have hx := Bd.exec
  have hby := Bd.bytes
  have hml : c.maxLocals = 39 := hml0
  have hown : s.vm.findClass "com/example/lease/lease/core/LastUseUnusedAtPinLaw" = some m.cls := findClass_of_methodNamed Bd.named
  have hnm := (name_of_methodNamed Bd.named Bd.method).1
  have X0 : Stand p l e room_1 s m #[(.long limit), (.long t0), (.long now1), (.long now2), (.long bb), (.int flags)] below meth c s₁ [] 0 0 := Stand.of_body Bd
  have e0 : s₁.heap = h0 := by rw [← hh, Bd.state]; rfl
  have N0 := Fr.nil n0
  have pre0 : ∀ t, Steps p.tables e below (s₁.setTop (mkF m 0 #[.val (.long limit), .second, .val (.long t0), .second, .val (.long now1), .second, .val (.long now2), .second, .val (.long bb), .second, .val (.int flags), .unset, .unset, .unset, .unset, .unset, .unset, .unset, .unset, .unset, .unset, .unset, .unset, .unset, .unset, .unset, .unset, .unset, .unset, .unset, .unset, .unset, .unset, .unset, .unset, .unset, .unset, .unset, .unset] [])) t → Steps p.tables e below (s₁.setTop (entryFrame m #[(.long limit), (.long t0), (.long now1), (.long now2), (.long bb), (.int flags)] maxLocals)) t := fun t k => castTop (ef_0 m limit t0 now1 now2 bb flags) k
  have k185 : ∀ t, Steps p.tables e below (s₁.setTop (mkF m 7 #[.val (.long limit), .second, .val (.long t0), .second, .val (.long now1), .second, .val (.long now2), .second, .val (.long bb), .second, .val (.int flags), .val (.long (limit &&& (9223372036854775807 : Int64))), .second, .unset, .unset, .unset, .unset, .unset, .unset, .unset, .unset, .unset, .unset, .unset, .unset, .unset, .unset, .unset, .unset, .unset, .unset, .unset, .unset, .unset, .unset, .unset, .unset, .unset, .unset] [])) t → Steps p.tables e below (s₁.setTop (entryFrame m #[(.long limit), (.long t0), (.long now1), (.long now2), (.long bb), (.int flags)] maxLocals)) t := fun t hk => pre0 t (by
    show Steps p.tables e below (s₁.setTop (mkF m 0 #[.val (.long limit), .second, .val (.long t0), .second, .val (.long now1), .second, .val (.long now2), .second, .val (.long bb), .second, .val (.int flags), .unset, .unset, .unset, .unset, .unset, .unset, .unset, .unset, .unset, .unset, .unset, .unset, .unset, .unset, .unset, .unset, .unset, .unset, .unset, .unset, .unset, .unset, .unset, .unset, .unset, .unset, .unset, .unset] [])) _
    refine XS.lloadN X0.here hx rfl (hb hby at_0) rfl ?_
    show Steps p.tables e below (s₁.setTop (mkF m 1 #[.val (.long limit), .second, .val (.long t0), .second, .val (.long now1), .second, .val (.long now2), .second, .val (.long bb), .second, .val (.int flags), .unset, .unset, .unset, .unset, .unset, .unset, .unset, .unset, .unset, .unset, .unset, .unset, .unset, .unset, .unset, .unset, .unset, .unset, .unset, .unset, .unset, .unset, .unset, .unset, .unset, .unset, .unset, .unset] [(.long limit)])) _
    refine X0.ldc2Long hx hown (mvT hZ (hw _ (List.mem_of_getElem? (i := 0) rfl))) (g := (mkF m 1 #[.val (.long limit), .second, .val (.long t0), .second, .val (.long now1), .second, .val (.long now2), .second, .val (.long bb), .second, .val (.int flags), .unset, .unset, .unset, .unset, .unset, .unset, .unset, .unset, .unset, .unset, .unset, .unset, .unset, .unset, .unset, .unset, .unset, .unset, .unset, .unset, .unset, .unset, .unset, .unset, .unset, .unset, .unset, .unset] [(.long limit)])) rfl (hb hby at_1) _ ?_
    show Steps p.tables e below (s₁.setTop (mkF m 4 #[.val (.long limit), .second, .val (.long t0), .second, .val (.long now1), .second, .val (.long now2), .second, .val (.long bb), .second, .val (.int flags), .unset, .unset, .unset, .unset, .unset, .unset, .unset, .unset, .unset, .unset, .unset, .unset, .unset, .unset, .unset, .unset, .unset, .unset, .unset, .unset, .unset, .unset, .unset, .unset, .unset, .unset, .unset, .unset] [(.long (9223372036854775807 : Int64)), (.long limit)])) _
    refine XS.land X0.here hx rfl (hb hby at_4) rfl ?_
    show Steps p.tables e below (s₁.setTop (mkF m 5 #[.val (.long limit), .second, .val (.long t0), .second, .val (.long now1), .second, .val (.long now2), .second, .val (.long bb), .second, .val (.int flags), .unset, .unset, .unset, .unset, .unset, .unset, .unset, .unset, .unset, .unset, .unset, .unset, .unset, .unset, .unset, .unset, .unset, .unset, .unset, .unset, .unset, .unset, .unset, .unset, .unset, .unset, .unset, .unset] [(.long (limit &&& (9223372036854775807 : Int64)))])) _
    refine XS.lstore X0.here hx rfl (hb hby at_5) rfl (l' := #[.val (.long limit), .second, .val (.long t0), .second, .val (.long now1), .second, .val (.long now2), .second, .val (.long bb), .second, .val (.int flags), .val (.long (limit &&& (9223372036854775807 : Int64))), .second, .unset, .unset, .unset, .unset, .unset, .unset, .unset, .unset, .unset, .unset, .unset, .unset, .unset, .unset, .unset, .unset, .unset, .unset, .unset, .unset, .unset, .unset, .unset, .unset, .unset, .unset]) rfl ?_
    exact hk)
  obtain ⟨l1, hl1, k186⟩ : ∃ (l1 : Int64), l1 = (limit &&& (9223372036854775807 : Int64)) ∧ ∀ t, Steps p.tables e below (s₁.setTop (mkF m 7 #[.val (.long limit), .second, .val (.long t0), .second, .val (.long now1), .second, .val (.long now2), .second, .val (.long bb), .second, .val (.int flags), .val (.long l1), .second, .unset, .unset, .unset, .unset, .unset, .unset, .unset, .unset, .unset, .unset, .unset, .unset, .unset, .unset, .unset, .unset, .unset, .unset, .unset, .unset, .unset, .unset, .unset, .unset, .unset, .unset] [])) t → Steps p.tables e below (s₁.setTop (entryFrame m #[(.long limit), (.long t0), (.long now1), (.long now2), (.long bb), (.int flags)] maxLocals)) t := ⟨(limit &&& (9223372036854775807 : Int64)), rfl, k185⟩
  have k187 : ∀ t, Steps p.tables e below (s₁.setTop (mkF m 11 #[.val (.long limit), .second, .val (.long t0), .second, .val (.long now1), .second, .val (.long now2), .second, .val (.long bb), .second, .val (.int flags), .val (.long l1), .second, .unset, .unset, .unset, .unset, .unset, .unset, .unset, .unset, .unset, .unset, .unset, .unset, .unset, .unset, .unset, .unset, .unset, .unset, .unset, .unset, .unset, .unset, .unset, .unset, .unset, .unset] [(.int (lcmpW l1 (0 : Int64)))])) t → Steps p.tables e below (s₁.setTop (entryFrame m #[(.long limit), (.long t0), (.long now1), (.long now2), (.long bb), (.int flags)] maxLocals)) t := fun t hk => k186 t (by
    show Steps p.tables e below (s₁.setTop (mkF m 7 #[.val (.long limit), .second, .val (.long t0), .second, .val (.long now1), .second, .val (.long now2), .second, .val (.long bb), .second, .val (.int flags), .val (.long l1), .second, .unset, .unset, .unset, .unset, .unset, .unset, .unset, .unset, .unset, .unset, .unset, .unset, .unset, .unset, .unset, .unset, .unset, .unset, .unset, .unset, .unset, .unset, .unset, .unset, .unset, .unset] [])) _
    refine XS.lload X0.here hx rfl (hb hby at_7) rfl ?_
    show Steps p.tables e below (s₁.setTop (mkF m 9 #[.val (.long limit), .second, .val (.long t0), .second, .val (.long now1), .second, .val (.long now2), .second, .val (.long bb), .second, .val (.int flags), .val (.long l1), .second, .unset, .unset, .unset, .unset, .unset, .unset, .unset, .unset, .unset, .unset, .unset, .unset, .unset, .unset, .unset, .unset, .unset, .unset, .unset, .unset, .unset, .unset, .unset, .unset, .unset, .unset] [(.long l1)])) _
    refine XS.lconst X0.here hx rfl (hb hby at_9) ?_
    show Steps p.tables e below (s₁.setTop (mkF m 10 #[.val (.long limit), .second, .val (.long t0), .second, .val (.long now1), .second, .val (.long now2), .second, .val (.long bb), .second, .val (.int flags), .val (.long l1), .second, .unset, .unset, .unset, .unset, .unset, .unset, .unset, .unset, .unset, .unset, .unset, .unset, .unset, .unset, .unset, .unset, .unset, .unset, .unset, .unset, .unset, .unset, .unset, .unset, .unset, .unset] [(.long (0 : Int64)), (.long l1)])) _
    refine XS.lcmp X0.here hx rfl (hb hby at_10) rfl ?_
    exact hk)
  obtain ⟨lm, hlm, k188⟩ : ∃ (lm : Int64), (lm = (if l1 = (0 : Int64) then (1 : Int64) else l1)) ∧ ∀ t, Steps p.tables e below (s₁.setTop (mkF m 17 #[.val (.long limit), .second, .val (.long t0), .second, .val (.long now1), .second, .val (.long now2), .second, .val (.long bb), .second, .val (.int flags), .val (.long lm), .second, .unset, .unset, .unset, .unset, .unset, .unset, .unset, .unset, .unset, .unset, .unset, .unset, .unset, .unset, .unset, .unset, .unset, .unset, .unset, .unset, .unset, .unset, .unset, .unset, .unset, .unset] [])) t → Steps p.tables e below (s₁.setTop (entryFrame m #[(.long limit), (.long t0), (.long now1), (.long now2), (.long bb), (.int flags)] maxLocals)) t := by
    by_cases hc11 : l1 = (0 : Int64)
    ·
      refine ⟨(1 : Int64), ((if_pos hc11).trans rfl).symm, fun t hk => k187 t ?_⟩
      show Steps p.tables e below (s₁.setTop (mkF m 11 #[.val (.long limit), .second, .val (.long t0), .second, .val (.long now1), .second, .val (.long now2), .second, .val (.long bb), .second, .val (.int flags), .val (.long l1), .second, .unset, .unset, .unset, .unset, .unset, .unset, .unset, .unset, .unset, .unset, .unset, .unset, .unset, .unset, .unset, .unset, .unset, .unset, .unset, .unset, .unset, .unset, .unset, .unset, .unset, .unset] [(.int (lcmpW l1 (0 : Int64)))])) _
      refine XS.ifNo X0.here hx rfl (hb hby at_11) rfl ((if0 _ _).trans (teq ((lw_eq _ _).mpr hc11)).2) ?_
      show Steps p.tables e below (s₁.setTop (mkF m 14 #[.val (.long limit), .second, .val (.long t0), .second, .val (.long now1), .second, .val (.long now2), .second, .val (.long bb), .second, .val (.int flags), .val (.long l1), .second, .unset, .unset, .unset, .unset, .unset, .unset, .unset, .unset, .unset, .unset, .unset, .unset, .unset, .unset, .unset, .unset, .unset, .unset, .unset, .unset, .unset, .unset, .unset, .unset, .unset, .unset] [])) _
      refine XS.lconst X0.here hx rfl (hb hby at_14) ?_
      show Steps p.tables e below (s₁.setTop (mkF m 15 #[.val (.long limit), .second, .val (.long t0), .second, .val (.long now1), .second, .val (.long now2), .second, .val (.long bb), .second, .val (.int flags), .val (.long l1), .second, .unset, .unset, .unset, .unset, .unset, .unset, .unset, .unset, .unset, .unset, .unset, .unset, .unset, .unset, .unset, .unset, .unset, .unset, .unset, .unset, .unset, .unset, .unset, .unset, .unset, .unset] [(.long (1 : Int64))])) _
      refine XS.lstore X0.here hx rfl (hb hby at_15) rfl (l' := #[.val (.long limit), .second, .val (.long t0), .second, .val (.long now1), .second, .val (.long now2), .second, .val (.long bb), .second, .val (.int flags), .val (.long (1 : Int64)), .second, .unset, .unset, .unset, .unset, .unset, .unset, .unset, .unset, .unset, .unset, .unset, .unset, .unset, .unset, .unset, .unset, .unset, .unset, .unset, .unset, .unset, .unset, .unset, .unset, .unset, .unset]) rfl ?_
      exact hk
    ·
      refine ⟨l1, ((if_neg hc11).trans rfl).symm, fun t hk => k187 t ?_⟩
      show Steps p.tables e below (s₁.setTop (mkF m 11 #[.val (.long limit), .second, .val (.long t0), .second, .val (.long now1), .second, .val (.long now2), .second, .val (.long bb), .second, .val (.int flags), .val (.long l1), .second, .unset, .unset, .unset, .unset, .unset, .unset, .unset, .unset, .unset, .unset, .unset, .unset, .unset, .unset, .unset, .unset, .unset, .unset, .unset, .unset, .unset, .unset, .unset, .unset, .unset, .unset] [(.int (lcmpW l1 (0 : Int64)))])) _
      refine XS.ifYes X0.here hx rfl (pc0 := 11) (pc' := 17) rfl (hb hby at_11) rfl ((if0 _ _).trans (feq (fun q => hc11 ((lw_eq _ _).mp q))).2) (by decide) (by decide) ?_
      exact hk
  have k189 : ∀ t, Steps p.tables e below (s₁.setTop (mkF m 21 #[.val (.long limit), .second, .val (.long t0), .second, .val (.long now1), .second, .val (.long now2), .second, .val (.long bb), .second, .val (.int flags), .val (.long lm), .second, .unset, .unset, .unset, .unset, .unset, .unset, .unset, .unset, .unset, .unset, .unset, .unset, .unset, .unset, .unset, .unset, .unset, .unset, .unset, .unset, .unset, .unset, .unset, .unset, .unset, .unset] [(.int (flags &&& (1 : Int32)))])) t → Steps p.tables e below (s₁.setTop (entryFrame m #[(.long limit), (.long t0), (.long now1), (.long now2), (.long bb), (.int flags)] maxLocals)) t := fun t hk => k188 t (by
    show Steps p.tables e below (s₁.setTop (mkF m 17 #[.val (.long limit), .second, .val (.long t0), .second, .val (.long now1), .second, .val (.long now2), .second, .val (.long bb), .second, .val (.int flags), .val (.long lm), .second, .unset, .unset, .unset, .unset, .unset, .unset, .unset, .unset, .unset, .unset, .unset, .unset, .unset, .unset, .unset, .unset, .unset, .unset, .unset, .unset, .unset, .unset, .unset, .unset, .unset, .unset] [])) _
    refine XS.iload X0.here hx rfl (hb hby at_17) rfl ?_
    show Steps p.tables e below (s₁.setTop (mkF m 19 #[.val (.long limit), .second, .val (.long t0), .second, .val (.long now1), .second, .val (.long now2), .second, .val (.long bb), .second, .val (.int flags), .val (.long lm), .second, .unset, .unset, .unset, .unset, .unset, .unset, .unset, .unset, .unset, .unset, .unset, .unset, .unset, .unset, .unset, .unset, .unset, .unset, .unset, .unset, .unset, .unset, .unset, .unset, .unset, .unset] [(.int flags)])) _
    refine XS.iconst X0.here hx rfl (hb hby at_19) ?_
    show Steps p.tables e below (s₁.setTop (mkF m 20 #[.val (.long limit), .second, .val (.long t0), .second, .val (.long now1), .second, .val (.long now2), .second, .val (.long bb), .second, .val (.int flags), .val (.long lm), .second, .unset, .unset, .unset, .unset, .unset, .unset, .unset, .unset, .unset, .unset, .unset, .unset, .unset, .unset, .unset, .unset, .unset, .unset, .unset, .unset, .unset, .unset, .unset, .unset, .unset, .unset] [(.int (1 : Int32)), (.int flags)])) _
    refine XS.iand X0.here hx rfl (hb hby at_20) rfl ?_
    exact hk)
  obtain ⟨i1, hi1, k190⟩ : ∃ (i1 : Int32), (i1 = (if (flags &&& (1 : Int32)) = (0 : Int32) then (0 : Int32) else (1 : Int32))) ∧ ∀ t, Steps p.tables e below (s₁.setTop (mkF m 29 #[.val (.long limit), .second, .val (.long t0), .second, .val (.long now1), .second, .val (.long now2), .second, .val (.long bb), .second, .val (.int flags), .val (.long lm), .second, .unset, .unset, .unset, .unset, .unset, .unset, .unset, .unset, .unset, .unset, .unset, .unset, .unset, .unset, .unset, .unset, .unset, .unset, .unset, .unset, .unset, .unset, .unset, .unset, .unset, .unset] [(.int i1)])) t → Steps p.tables e below (s₁.setTop (entryFrame m #[(.long limit), (.long t0), (.long now1), (.long now2), (.long bb), (.int flags)] maxLocals)) t := by
    by_cases hc21 : (flags &&& (1 : Int32)) = (0 : Int32)
    ·
      refine ⟨(0 : Int32), ((if_pos hc21).trans rfl).symm, fun t hk => k189 t ?_⟩
      show Steps p.tables e below (s₁.setTop (mkF m 21 #[.val (.long limit), .second, .val (.long t0), .second, .val (.long now1), .second, .val (.long now2), .second, .val (.long bb), .second, .val (.int flags), .val (.long lm), .second, .unset, .unset, .unset, .unset, .unset, .unset, .unset, .unset, .unset, .unset, .unset, .unset, .unset, .unset, .unset, .unset, .unset, .unset, .unset, .unset, .unset, .unset, .unset, .unset, .unset, .unset] [(.int (flags &&& (1 : Int32)))])) _
      refine XS.ifYes X0.here hx rfl (pc0 := 21) (pc' := 28) rfl (hb hby at_21) rfl ((if0 _ _).trans (teq hc21).1) (by decide) (by decide) ?_
      show Steps p.tables e below (s₁.setTop (mkF m 28 #[.val (.long limit), .second, .val (.long t0), .second, .val (.long now1), .second, .val (.long now2), .second, .val (.long bb), .second, .val (.int flags), .val (.long lm), .second, .unset, .unset, .unset, .unset, .unset, .unset, .unset, .unset, .unset, .unset, .unset, .unset, .unset, .unset, .unset, .unset, .unset, .unset, .unset, .unset, .unset, .unset, .unset, .unset, .unset, .unset] [])) _
      refine XS.iconst X0.here hx rfl (hb hby at_28) ?_
      exact hk
    ·
      refine ⟨(1 : Int32), ((if_neg hc21).trans rfl).symm, fun t hk => k189 t ?_⟩
      show Steps p.tables e below (s₁.setTop (mkF m 21 #[.val (.long limit), .second, .val (.long t0), .second, .val (.long now1), .second, .val (.long now2), .second, .val (.long bb), .second, .val (.int flags), .val (.long lm), .second, .unset, .unset, .unset, .unset, .unset, .unset, .unset, .unset, .unset, .unset, .unset, .unset, .unset, .unset, .unset, .unset, .unset, .unset, .unset, .unset, .unset, .unset, .unset, .unset, .unset, .unset] [(.int (flags &&& (1 : Int32)))])) _
      refine XS.ifNo X0.here hx rfl (hb hby at_21) rfl ((if0 _ _).trans (feq hc21).1) ?_
      show Steps p.tables e below (s₁.setTop (mkF m 24 #[.val (.long limit), .second, .val (.long t0), .second, .val (.long now1), .second, .val (.long now2), .second, .val (.long bb), .second, .val (.int flags), .val (.long lm), .second, .unset, .unset, .unset, .unset, .unset, .unset, .unset, .unset, .unset, .unset, .unset, .unset, .unset, .unset, .unset, .unset, .unset, .unset, .unset, .unset, .unset, .unset, .unset, .unset, .unset, .unset] [])) _
      refine XS.iconst X0.here hx rfl (hb hby at_24) ?_
      show Steps p.tables e below (s₁.setTop (mkF m 25 #[.val (.long limit), .second, .val (.long t0), .second, .val (.long now1), .second, .val (.long now2), .second, .val (.long bb), .second, .val (.int flags), .val (.long lm), .second, .unset, .unset, .unset, .unset, .unset, .unset, .unset, .unset, .unset, .unset, .unset, .unset, .unset, .unset, .unset, .unset, .unset, .unset, .unset, .unset, .unset, .unset, .unset, .unset, .unset, .unset] [(.int (1 : Int32))])) _
      refine XS.goto X0.here hx rfl (pc0 := 25) (pc' := 29) rfl (hb hby at_25) (by decide) (by decide) ?_
      exact hk
  have k191 : ∀ t, Steps p.tables e below (s₁.setTop (mkF m 35 #[.val (.long limit), .second, .val (.long t0), .second, .val (.long now1), .second, .val (.long now2), .second, .val (.long bb), .second, .val (.int flags), .val (.long lm), .second, .val (.int i1), .unset, .unset, .unset, .unset, .unset, .unset, .unset, .unset, .unset, .unset, .unset, .unset, .unset, .unset, .unset, .unset, .unset, .unset, .unset, .unset, .unset, .unset, .unset, .unset, .unset] [(.int (flags &&& (2 : Int32)))])) t → Steps p.tables e below (s₁.setTop (entryFrame m #[(.long limit), (.long t0), (.long now1), (.long now2), (.long bb), (.int flags)] maxLocals)) t := fun t hk => k190 t (by
    show Steps p.tables e below (s₁.setTop (mkF m 29 #[.val (.long limit), .second, .val (.long t0), .second, .val (.long now1), .second, .val (.long now2), .second, .val (.long bb), .second, .val (.int flags), .val (.long lm), .second, .unset, .unset, .unset, .unset, .unset, .unset, .unset, .unset, .unset, .unset, .unset, .unset, .unset, .unset, .unset, .unset, .unset, .unset, .unset, .unset, .unset, .unset, .unset, .unset, .unset, .unset] [(.int i1)])) _
    refine XS.istore X0.here hx rfl (hb hby at_29) rfl (l' := #[.val (.long limit), .second, .val (.long t0), .second, .val (.long now1), .second, .val (.long now2), .second, .val (.long bb), .second, .val (.int flags), .val (.long lm), .second, .val (.int i1), .unset, .unset, .unset, .unset, .unset, .unset, .unset, .unset, .unset, .unset, .unset, .unset, .unset, .unset, .unset, .unset, .unset, .unset, .unset, .unset, .unset, .unset, .unset, .unset, .unset]) rfl ?_
    show Steps p.tables e below (s₁.setTop (mkF m 31 #[.val (.long limit), .second, .val (.long t0), .second, .val (.long now1), .second, .val (.long now2), .second, .val (.long bb), .second, .val (.int flags), .val (.long lm), .second, .val (.int i1), .unset, .unset, .unset, .unset, .unset, .unset, .unset, .unset, .unset, .unset, .unset, .unset, .unset, .unset, .unset, .unset, .unset, .unset, .unset, .unset, .unset, .unset, .unset, .unset, .unset] [])) _
    refine XS.iload X0.here hx rfl (hb hby at_31) rfl ?_
    show Steps p.tables e below (s₁.setTop (mkF m 33 #[.val (.long limit), .second, .val (.long t0), .second, .val (.long now1), .second, .val (.long now2), .second, .val (.long bb), .second, .val (.int flags), .val (.long lm), .second, .val (.int i1), .unset, .unset, .unset, .unset, .unset, .unset, .unset, .unset, .unset, .unset, .unset, .unset, .unset, .unset, .unset, .unset, .unset, .unset, .unset, .unset, .unset, .unset, .unset, .unset, .unset] [(.int flags)])) _
    refine XS.iconst X0.here hx rfl (hb hby at_33) ?_
    show Steps p.tables e below (s₁.setTop (mkF m 34 #[.val (.long limit), .second, .val (.long t0), .second, .val (.long now1), .second, .val (.long now2), .second, .val (.long bb), .second, .val (.int flags), .val (.long lm), .second, .val (.int i1), .unset, .unset, .unset, .unset, .unset, .unset, .unset, .unset, .unset, .unset, .unset, .unset, .unset, .unset, .unset, .unset, .unset, .unset, .unset, .unset, .unset, .unset, .unset, .unset, .unset] [(.int (2 : Int32)), (.int flags)])) _
    refine XS.iand X0.here hx rfl (hb hby at_34) rfl ?_
    exact hk)
  obtain ⟨i2, hi2, k192⟩ : ∃ (i2 : Int32), (i2 = (if (flags &&& (2 : Int32)) = (0 : Int32) then (0 : Int32) else (1 : Int32))) ∧ ∀ t, Steps p.tables e below (s₁.setTop (mkF m 43 #[.val (.long limit), .second, .val (.long t0), .second, .val (.long now1), .second, .val (.long now2), .second, .val (.long bb), .second, .val (.int flags), .val (.long lm), .second, .val (.int i1), .unset, .unset, .unset, .unset, .unset, .unset, .unset, .unset, .unset, .unset, .unset, .unset, .unset, .unset, .unset, .unset, .unset, .unset, .unset, .unset, .unset, .unset, .unset, .unset, .unset] [(.int i2)])) t → Steps p.tables e below (s₁.setTop (entryFrame m #[(.long limit), (.long t0), (.long now1), (.long now2), (.long bb), (.int flags)] maxLocals)) t := by
    by_cases hc35 : (flags &&& (2 : Int32)) = (0 : Int32)
    ·
      refine ⟨(0 : Int32), ((if_pos hc35).trans rfl).symm, fun t hk => k191 t ?_⟩
      show Steps p.tables e below (s₁.setTop (mkF m 35 #[.val (.long limit), .second, .val (.long t0), .second, .val (.long now1), .second, .val (.long now2), .second, .val (.long bb), .second, .val (.int flags), .val (.long lm), .second, .val (.int i1), .unset, .unset, .unset, .unset, .unset, .unset, .unset, .unset, .unset, .unset, .unset, .unset, .unset, .unset, .unset, .unset, .unset, .unset, .unset, .unset, .unset, .unset, .unset, .unset, .unset] [(.int (flags &&& (2 : Int32)))])) _
      refine XS.ifYes X0.here hx rfl (pc0 := 35) (pc' := 42) rfl (hb hby at_35) rfl ((if0 _ _).trans (teq hc35).1) (by decide) (by decide) ?_
      show Steps p.tables e below (s₁.setTop (mkF m 42 #[.val (.long limit), .second, .val (.long t0), .second, .val (.long now1), .second, .val (.long now2), .second, .val (.long bb), .second, .val (.int flags), .val (.long lm), .second, .val (.int i1), .unset, .unset, .unset, .unset, .unset, .unset, .unset, .unset, .unset, .unset, .unset, .unset, .unset, .unset, .unset, .unset, .unset, .unset, .unset, .unset, .unset, .unset, .unset, .unset, .unset] [])) _
      refine XS.iconst X0.here hx rfl (hb hby at_42) ?_
      exact hk
    ·
      refine ⟨(1 : Int32), ((if_neg hc35).trans rfl).symm, fun t hk => k191 t ?_⟩
      show Steps p.tables e below (s₁.setTop (mkF m 35 #[.val (.long limit), .second, .val (.long t0), .second, .val (.long now1), .second, .val (.long now2), .second, .val (.long bb), .second, .val (.int flags), .val (.long lm), .second, .val (.int i1), .unset, .unset, .unset, .unset, .unset, .unset, .unset, .unset, .unset, .unset, .unset, .unset, .unset, .unset, .unset, .unset, .unset, .unset, .unset, .unset, .unset, .unset, .unset, .unset, .unset] [(.int (flags &&& (2 : Int32)))])) _
      refine XS.ifNo X0.here hx rfl (hb hby at_35) rfl ((if0 _ _).trans (feq hc35).1) ?_
      show Steps p.tables e below (s₁.setTop (mkF m 38 #[.val (.long limit), .second, .val (.long t0), .second, .val (.long now1), .second, .val (.long now2), .second, .val (.long bb), .second, .val (.int flags), .val (.long lm), .second, .val (.int i1), .unset, .unset, .unset, .unset, .unset, .unset, .unset, .unset, .unset, .unset, .unset, .unset, .unset, .unset, .unset, .unset, .unset, .unset, .unset, .unset, .unset, .unset, .unset, .unset, .unset] [])) _
      refine XS.iconst X0.here hx rfl (hb hby at_38) ?_
      show Steps p.tables e below (s₁.setTop (mkF m 39 #[.val (.long limit), .second, .val (.long t0), .second, .val (.long now1), .second, .val (.long now2), .second, .val (.long bb), .second, .val (.int flags), .val (.long lm), .second, .val (.int i1), .unset, .unset, .unset, .unset, .unset, .unset, .unset, .unset, .unset, .unset, .unset, .unset, .unset, .unset, .unset, .unset, .unset, .unset, .unset, .unset, .unset, .unset, .unset, .unset, .unset] [(.int (1 : Int32))])) _
      refine XS.goto X0.here hx rfl (pc0 := 39) (pc' := 43) rfl (hb hby at_39) (by decide) (by decide) ?_
      exact hk
  have k193 : ∀ t, Steps p.tables e below (s₁.setTop (mkF m 49 #[.val (.long limit), .second, .val (.long t0), .second, .val (.long now1), .second, .val (.long now2), .second, .val (.long bb), .second, .val (.int flags), .val (.long lm), .second, .val (.int i1), .val (.int i2), .unset, .unset, .unset, .unset, .unset, .unset, .unset, .unset, .unset, .unset, .unset, .unset, .unset, .unset, .unset, .unset, .unset, .unset, .unset, .unset, .unset, .unset, .unset, .unset] [(.int (flags &&& (4 : Int32)))])) t → Steps p.tables e below (s₁.setTop (entryFrame m #[(.long limit), (.long t0), (.long now1), (.long now2), (.long bb), (.int flags)] maxLocals)) t := fun t hk => k192 t (by
    show Steps p.tables e below (s₁.setTop (mkF m 43 #[.val (.long limit), .second, .val (.long t0), .second, .val (.long now1), .second, .val (.long now2), .second, .val (.long bb), .second, .val (.int flags), .val (.long lm), .second, .val (.int i1), .unset, .unset, .unset, .unset, .unset, .unset, .unset, .unset, .unset, .unset, .unset, .unset, .unset, .unset, .unset, .unset, .unset, .unset, .unset, .unset, .unset, .unset, .unset, .unset, .unset] [(.int i2)])) _
    refine XS.istore X0.here hx rfl (hb hby at_43) rfl (l' := #[.val (.long limit), .second, .val (.long t0), .second, .val (.long now1), .second, .val (.long now2), .second, .val (.long bb), .second, .val (.int flags), .val (.long lm), .second, .val (.int i1), .val (.int i2), .unset, .unset, .unset, .unset, .unset, .unset, .unset, .unset, .unset, .unset, .unset, .unset, .unset, .unset, .unset, .unset, .unset, .unset, .unset, .unset, .unset, .unset, .unset, .unset]) rfl ?_
    show Steps p.tables e below (s₁.setTop (mkF m 45 #[.val (.long limit), .second, .val (.long t0), .second, .val (.long now1), .second, .val (.long now2), .second, .val (.long bb), .second, .val (.int flags), .val (.long lm), .second, .val (.int i1), .val (.int i2), .unset, .unset, .unset, .unset, .unset, .unset, .unset, .unset, .unset, .unset, .unset, .unset, .unset, .unset, .unset, .unset, .unset, .unset, .unset, .unset, .unset, .unset, .unset, .unset] [])) _
    refine XS.iload X0.here hx rfl (hb hby at_45) rfl ?_
    show Steps p.tables e below (s₁.setTop (mkF m 47 #[.val (.long limit), .second, .val (.long t0), .second, .val (.long now1), .second, .val (.long now2), .second, .val (.long bb), .second, .val (.int flags), .val (.long lm), .second, .val (.int i1), .val (.int i2), .unset, .unset, .unset, .unset, .unset, .unset, .unset, .unset, .unset, .unset, .unset, .unset, .unset, .unset, .unset, .unset, .unset, .unset, .unset, .unset, .unset, .unset, .unset, .unset] [(.int flags)])) _
    refine XS.iconst X0.here hx rfl (hb hby at_47) ?_
    show Steps p.tables e below (s₁.setTop (mkF m 48 #[.val (.long limit), .second, .val (.long t0), .second, .val (.long now1), .second, .val (.long now2), .second, .val (.long bb), .second, .val (.int flags), .val (.long lm), .second, .val (.int i1), .val (.int i2), .unset, .unset, .unset, .unset, .unset, .unset, .unset, .unset, .unset, .unset, .unset, .unset, .unset, .unset, .unset, .unset, .unset, .unset, .unset, .unset, .unset, .unset, .unset, .unset] [(.int (4 : Int32)), (.int flags)])) _
    refine XS.iand X0.here hx rfl (hb hby at_48) rfl ?_
    exact hk)
  obtain ⟨i3, hi3, k194⟩ : ∃ (i3 : Int32), (i3 = (if (flags &&& (4 : Int32)) = (0 : Int32) then (0 : Int32) else (1 : Int32))) ∧ ∀ t, Steps p.tables e below (s₁.setTop (mkF m 57 #[.val (.long limit), .second, .val (.long t0), .second, .val (.long now1), .second, .val (.long now2), .second, .val (.long bb), .second, .val (.int flags), .val (.long lm), .second, .val (.int i1), .val (.int i2), .unset, .unset, .unset, .unset, .unset, .unset, .unset, .unset, .unset, .unset, .unset, .unset, .unset, .unset, .unset, .unset, .unset, .unset, .unset, .unset, .unset, .unset, .unset, .unset] [(.int i3)])) t → Steps p.tables e below (s₁.setTop (entryFrame m #[(.long limit), (.long t0), (.long now1), (.long now2), (.long bb), (.int flags)] maxLocals)) t := by
    by_cases hc49 : (flags &&& (4 : Int32)) = (0 : Int32)
    ·
      refine ⟨(0 : Int32), ((if_pos hc49).trans rfl).symm, fun t hk => k193 t ?_⟩
      show Steps p.tables e below (s₁.setTop (mkF m 49 #[.val (.long limit), .second, .val (.long t0), .second, .val (.long now1), .second, .val (.long now2), .second, .val (.long bb), .second, .val (.int flags), .val (.long lm), .second, .val (.int i1), .val (.int i2), .unset, .unset, .unset, .unset, .unset, .unset, .unset, .unset, .unset, .unset, .unset, .unset, .unset, .unset, .unset, .unset, .unset, .unset, .unset, .unset, .unset, .unset, .unset, .unset] [(.int (flags &&& (4 : Int32)))])) _
      refine XS.ifYes X0.here hx rfl (pc0 := 49) (pc' := 56) rfl (hb hby at_49) rfl ((if0 _ _).trans (teq hc49).1) (by decide) (by decide) ?_
      show Steps p.tables e below (s₁.setTop (mkF m 56 #[.val (.long limit), .second, .val (.long t0), .second, .val (.long now1), .second, .val (.long now2), .second, .val (.long bb), .second, .val (.int flags), .val (.long lm), .second, .val (.int i1), .val (.int i2), .unset, .unset, .unset, .unset, .unset, .unset, .unset, .unset, .unset, .unset, .unset, .unset, .unset, .unset, .unset, .unset, .unset, .unset, .unset, .unset, .unset, .unset, .unset, .unset] [])) _
      refine XS.iconst X0.here hx rfl (hb hby at_56) ?_
      exact hk
    ·
      refine ⟨(1 : Int32), ((if_neg hc49).trans rfl).symm, fun t hk => k193 t ?_⟩
      show Steps p.tables e below (s₁.setTop (mkF m 49 #[.val (.long limit), .second, .val (.long t0), .second, .val (.long now1), .second, .val (.long now2), .second, .val (.long bb), .second, .val (.int flags), .val (.long lm), .second, .val (.int i1), .val (.int i2), .unset, .unset, .unset, .unset, .unset, .unset, .unset, .unset, .unset, .unset, .unset, .unset, .unset, .unset, .unset, .unset, .unset, .unset, .unset, .unset, .unset, .unset, .unset, .unset] [(.int (flags &&& (4 : Int32)))])) _
      refine XS.ifNo X0.here hx rfl (hb hby at_49) rfl ((if0 _ _).trans (feq hc49).1) ?_
      show Steps p.tables e below (s₁.setTop (mkF m 52 #[.val (.long limit), .second, .val (.long t0), .second, .val (.long now1), .second, .val (.long now2), .second, .val (.long bb), .second, .val (.int flags), .val (.long lm), .second, .val (.int i1), .val (.int i2), .unset, .unset, .unset, .unset, .unset, .unset, .unset, .unset, .unset, .unset, .unset, .unset, .unset, .unset, .unset, .unset, .unset, .unset, .unset, .unset, .unset, .unset, .unset, .unset] [])) _
      refine XS.iconst X0.here hx rfl (hb hby at_52) ?_
      show Steps p.tables e below (s₁.setTop (mkF m 53 #[.val (.long limit), .second, .val (.long t0), .second, .val (.long now1), .second, .val (.long now2), .second, .val (.long bb), .second, .val (.int flags), .val (.long lm), .second, .val (.int i1), .val (.int i2), .unset, .unset, .unset, .unset, .unset, .unset, .unset, .unset, .unset, .unset, .unset, .unset, .unset, .unset, .unset, .unset, .unset, .unset, .unset, .unset, .unset, .unset, .unset, .unset] [(.int (1 : Int32))])) _
      refine XS.goto X0.here hx rfl (pc0 := 53) (pc' := 57) rfl (hb hby at_53) (by decide) (by decide) ?_
      exact hk
  have k195 : ∀ t, Steps p.tables e below (s₁.setTop (mkF m 64 #[.val (.long limit), .second, .val (.long t0), .second, .val (.long now1), .second, .val (.long now2), .second, .val (.long bb), .second, .val (.int flags), .val (.long lm), .second, .val (.int i1), .val (.int i2), .val (.int i3), .unset, .unset, .unset, .unset, .unset, .unset, .unset, .unset, .unset, .unset, .unset, .unset, .unset, .unset, .unset, .unset, .unset, .unset, .unset, .unset, .unset, .unset, .unset] [(.int (flags &&& (8 : Int32)))])) t → Steps p.tables e below (s₁.setTop (entryFrame m #[(.long limit), (.long t0), (.long now1), (.long now2), (.long bb), (.int flags)] maxLocals)) t := fun t hk => k194 t (by
    show Steps p.tables e below (s₁.setTop (mkF m 57 #[.val (.long limit), .second, .val (.long t0), .second, .val (.long now1), .second, .val (.long now2), .second, .val (.long bb), .second, .val (.int flags), .val (.long lm), .second, .val (.int i1), .val (.int i2), .unset, .unset, .unset, .unset, .unset, .unset, .unset, .unset, .unset, .unset, .unset, .unset, .unset, .unset, .unset, .unset, .unset, .unset, .unset, .unset, .unset, .unset, .unset, .unset] [(.int i3)])) _
    refine XS.istore X0.here hx rfl (hb hby at_57) rfl (l' := #[.val (.long limit), .second, .val (.long t0), .second, .val (.long now1), .second, .val (.long now2), .second, .val (.long bb), .second, .val (.int flags), .val (.long lm), .second, .val (.int i1), .val (.int i2), .val (.int i3), .unset, .unset, .unset, .unset, .unset, .unset, .unset, .unset, .unset, .unset, .unset, .unset, .unset, .unset, .unset, .unset, .unset, .unset, .unset, .unset, .unset, .unset, .unset]) rfl ?_
    show Steps p.tables e below (s₁.setTop (mkF m 59 #[.val (.long limit), .second, .val (.long t0), .second, .val (.long now1), .second, .val (.long now2), .second, .val (.long bb), .second, .val (.int flags), .val (.long lm), .second, .val (.int i1), .val (.int i2), .val (.int i3), .unset, .unset, .unset, .unset, .unset, .unset, .unset, .unset, .unset, .unset, .unset, .unset, .unset, .unset, .unset, .unset, .unset, .unset, .unset, .unset, .unset, .unset, .unset] [])) _
    refine XS.iload X0.here hx rfl (hb hby at_59) rfl ?_
    show Steps p.tables e below (s₁.setTop (mkF m 61 #[.val (.long limit), .second, .val (.long t0), .second, .val (.long now1), .second, .val (.long now2), .second, .val (.long bb), .second, .val (.int flags), .val (.long lm), .second, .val (.int i1), .val (.int i2), .val (.int i3), .unset, .unset, .unset, .unset, .unset, .unset, .unset, .unset, .unset, .unset, .unset, .unset, .unset, .unset, .unset, .unset, .unset, .unset, .unset, .unset, .unset, .unset, .unset] [(.int flags)])) _
    refine XS.bipush X0.here hx rfl (hb hby at_61) ?_
    show Steps p.tables e below (s₁.setTop (mkF m 63 #[.val (.long limit), .second, .val (.long t0), .second, .val (.long now1), .second, .val (.long now2), .second, .val (.long bb), .second, .val (.int flags), .val (.long lm), .second, .val (.int i1), .val (.int i2), .val (.int i3), .unset, .unset, .unset, .unset, .unset, .unset, .unset, .unset, .unset, .unset, .unset, .unset, .unset, .unset, .unset, .unset, .unset, .unset, .unset, .unset, .unset, .unset, .unset] [(.int (8 : Int32)), (.int flags)])) _
    refine XS.iand X0.here hx rfl (hb hby at_63) rfl ?_
    exact hk)
  obtain ⟨b1, hb1, k196⟩ : ∃ (b1 : Int64), (b1 = (if (flags &&& (8 : Int32)) = (0 : Int32) then (0 : Int64) else bb)) ∧ ∀ t, Steps p.tables e below (s₁.setTop (mkF m 73 #[.val (.long limit), .second, .val (.long t0), .second, .val (.long now1), .second, .val (.long now2), .second, .val (.long bb), .second, .val (.int flags), .val (.long lm), .second, .val (.int i1), .val (.int i2), .val (.int i3), .unset, .unset, .unset, .unset, .unset, .unset, .unset, .unset, .unset, .unset, .unset, .unset, .unset, .unset, .unset, .unset, .unset, .unset, .unset, .unset, .unset, .unset, .unset] [(.long b1)])) t → Steps p.tables e below (s₁.setTop (entryFrame m #[(.long limit), (.long t0), (.long now1), (.long now2), (.long bb), (.int flags)] maxLocals)) t := by
    by_cases hc64 : (flags &&& (8 : Int32)) = (0 : Int32)
    ·
      refine ⟨(0 : Int64), ((if_pos hc64).trans rfl).symm, fun t hk => k195 t ?_⟩
      show Steps p.tables e below (s₁.setTop (mkF m 64 #[.val (.long limit), .second, .val (.long t0), .second, .val (.long now1), .second, .val (.long now2), .second, .val (.long bb), .second, .val (.int flags), .val (.long lm), .second, .val (.int i1), .val (.int i2), .val (.int i3), .unset, .unset, .unset, .unset, .unset, .unset, .unset, .unset, .unset, .unset, .unset, .unset, .unset, .unset, .unset, .unset, .unset, .unset, .unset, .unset, .unset, .unset, .unset] [(.int (flags &&& (8 : Int32)))])) _
      refine XS.ifYes X0.here hx rfl (pc0 := 64) (pc' := 72) rfl (hb hby at_64) rfl ((if0 _ _).trans (teq hc64).1) (by decide) (by decide) ?_
      show Steps p.tables e below (s₁.setTop (mkF m 72 #[.val (.long limit), .second, .val (.long t0), .second, .val (.long now1), .second, .val (.long now2), .second, .val (.long bb), .second, .val (.int flags), .val (.long lm), .second, .val (.int i1), .val (.int i2), .val (.int i3), .unset, .unset, .unset, .unset, .unset, .unset, .unset, .unset, .unset, .unset, .unset, .unset, .unset, .unset, .unset, .unset, .unset, .unset, .unset, .unset, .unset, .unset, .unset] [])) _
      refine XS.lconst X0.here hx rfl (hb hby at_72) ?_
      exact hk
    ·
      refine ⟨bb, ((if_neg hc64).trans rfl).symm, fun t hk => k195 t ?_⟩
      show Steps p.tables e below (s₁.setTop (mkF m 64 #[.val (.long limit), .second, .val (.long t0), .second, .val (.long now1), .second, .val (.long now2), .second, .val (.long bb), .second, .val (.int flags), .val (.long lm), .second, .val (.int i1), .val (.int i2), .val (.int i3), .unset, .unset, .unset, .unset, .unset, .unset, .unset, .unset, .unset, .unset, .unset, .unset, .unset, .unset, .unset, .unset, .unset, .unset, .unset, .unset, .unset, .unset, .unset] [(.int (flags &&& (8 : Int32)))])) _
      refine XS.ifNo X0.here hx rfl (hb hby at_64) rfl ((if0 _ _).trans (feq hc64).1) ?_
      show Steps p.tables e below (s₁.setTop (mkF m 67 #[.val (.long limit), .second, .val (.long t0), .second, .val (.long now1), .second, .val (.long now2), .second, .val (.long bb), .second, .val (.int flags), .val (.long lm), .second, .val (.int i1), .val (.int i2), .val (.int i3), .unset, .unset, .unset, .unset, .unset, .unset, .unset, .unset, .unset, .unset, .unset, .unset, .unset, .unset, .unset, .unset, .unset, .unset, .unset, .unset, .unset, .unset, .unset] [])) _
      refine XS.lload X0.here hx rfl (hb hby at_67) rfl ?_
      show Steps p.tables e below (s₁.setTop (mkF m 69 #[.val (.long limit), .second, .val (.long t0), .second, .val (.long now1), .second, .val (.long now2), .second, .val (.long bb), .second, .val (.int flags), .val (.long lm), .second, .val (.int i1), .val (.int i2), .val (.int i3), .unset, .unset, .unset, .unset, .unset, .unset, .unset, .unset, .unset, .unset, .unset, .unset, .unset, .unset, .unset, .unset, .unset, .unset, .unset, .unset, .unset, .unset, .unset] [(.long bb)])) _
      refine XS.goto X0.here hx rfl (pc0 := 69) (pc' := 73) rfl (hb hby at_69) (by decide) (by decide) ?_
      exact hk
  have k197 : ∀ t, Steps p.tables e below (s₁.setTop (mkF m 80 #[.val (.long limit), .second, .val (.long t0), .second, .val (.long now1), .second, .val (.long now2), .second, .val (.long bb), .second, .val (.int flags), .val (.long lm), .second, .val (.int i1), .val (.int i2), .val (.int i3), .val (.long b1), .second, .unset, .unset, .unset, .unset, .unset, .unset, .unset, .unset, .unset, .unset, .unset, .unset, .unset, .unset, .unset, .unset, .unset, .unset, .unset, .unset, .unset] [(.int (flags &&& (16 : Int32)))])) t → Steps p.tables e below (s₁.setTop (entryFrame m #[(.long limit), (.long t0), (.long now1), (.long now2), (.long bb), (.int flags)] maxLocals)) t := fun t hk => k196 t (by
    show Steps p.tables e below (s₁.setTop (mkF m 73 #[.val (.long limit), .second, .val (.long t0), .second, .val (.long now1), .second, .val (.long now2), .second, .val (.long bb), .second, .val (.int flags), .val (.long lm), .second, .val (.int i1), .val (.int i2), .val (.int i3), .unset, .unset, .unset, .unset, .unset, .unset, .unset, .unset, .unset, .unset, .unset, .unset, .unset, .unset, .unset, .unset, .unset, .unset, .unset, .unset, .unset, .unset, .unset] [(.long b1)])) _
    refine XS.lstore X0.here hx rfl (hb hby at_73) rfl (l' := #[.val (.long limit), .second, .val (.long t0), .second, .val (.long now1), .second, .val (.long now2), .second, .val (.long bb), .second, .val (.int flags), .val (.long lm), .second, .val (.int i1), .val (.int i2), .val (.int i3), .val (.long b1), .second, .unset, .unset, .unset, .unset, .unset, .unset, .unset, .unset, .unset, .unset, .unset, .unset, .unset, .unset, .unset, .unset, .unset, .unset, .unset, .unset, .unset]) rfl ?_
    show Steps p.tables e below (s₁.setTop (mkF m 75 #[.val (.long limit), .second, .val (.long t0), .second, .val (.long now1), .second, .val (.long now2), .second, .val (.long bb), .second, .val (.int flags), .val (.long lm), .second, .val (.int i1), .val (.int i2), .val (.int i3), .val (.long b1), .second, .unset, .unset, .unset, .unset, .unset, .unset, .unset, .unset, .unset, .unset, .unset, .unset, .unset, .unset, .unset, .unset, .unset, .unset, .unset, .unset, .unset] [])) _
    refine XS.iload X0.here hx rfl (hb hby at_75) rfl ?_
    show Steps p.tables e below (s₁.setTop (mkF m 77 #[.val (.long limit), .second, .val (.long t0), .second, .val (.long now1), .second, .val (.long now2), .second, .val (.long bb), .second, .val (.int flags), .val (.long lm), .second, .val (.int i1), .val (.int i2), .val (.int i3), .val (.long b1), .second, .unset, .unset, .unset, .unset, .unset, .unset, .unset, .unset, .unset, .unset, .unset, .unset, .unset, .unset, .unset, .unset, .unset, .unset, .unset, .unset, .unset] [(.int flags)])) _
    refine XS.bipush X0.here hx rfl (hb hby at_77) ?_
    show Steps p.tables e below (s₁.setTop (mkF m 79 #[.val (.long limit), .second, .val (.long t0), .second, .val (.long now1), .second, .val (.long now2), .second, .val (.long bb), .second, .val (.int flags), .val (.long lm), .second, .val (.int i1), .val (.int i2), .val (.int i3), .val (.long b1), .second, .unset, .unset, .unset, .unset, .unset, .unset, .unset, .unset, .unset, .unset, .unset, .unset, .unset, .unset, .unset, .unset, .unset, .unset, .unset, .unset, .unset] [(.int (16 : Int32)), (.int flags)])) _
    refine XS.iand X0.here hx rfl (hb hby at_79) rfl ?_
    exact hk)
  obtain ⟨b2, hb2, k198⟩ : ∃ (b2 : Int64), (b2 = (if (flags &&& (16 : Int32)) = (0 : Int32) then bb else b1)) ∧ ∀ t, Steps p.tables e below (s₁.setTop (mkF m 90 #[.val (.long limit), .second, .val (.long t0), .second, .val (.long now1), .second, .val (.long now2), .second, .val (.long bb), .second, .val (.int flags), .val (.long lm), .second, .val (.int i1), .val (.int i2), .val (.int i3), .val (.long b1), .second, .unset, .unset, .unset, .unset, .unset, .unset, .unset, .unset, .unset, .unset, .unset, .unset, .unset, .unset, .unset, .unset, .unset, .unset, .unset, .unset, .unset] [(.long b2)])) t → Steps p.tables e below (s₁.setTop (entryFrame m #[(.long limit), (.long t0), (.long now1), (.long now2), (.long bb), (.int flags)] maxLocals)) t := by
    by_cases hc80 : (flags &&& (16 : Int32)) = (0 : Int32)
    ·
      refine ⟨bb, ((if_pos hc80).trans rfl).symm, fun t hk => k197 t ?_⟩
      show Steps p.tables e below (s₁.setTop (mkF m 80 #[.val (.long limit), .second, .val (.long t0), .second, .val (.long now1), .second, .val (.long now2), .second, .val (.long bb), .second, .val (.int flags), .val (.long lm), .second, .val (.int i1), .val (.int i2), .val (.int i3), .val (.long b1), .second, .unset, .unset, .unset, .unset, .unset, .unset, .unset, .unset, .unset, .unset, .unset, .unset, .unset, .unset, .unset, .unset, .unset, .unset, .unset, .unset, .unset] [(.int (flags &&& (16 : Int32)))])) _
      refine XS.ifYes X0.here hx rfl (pc0 := 80) (pc' := 88) rfl (hb hby at_80) rfl ((if0 _ _).trans (teq hc80).1) (by decide) (by decide) ?_
      show Steps p.tables e below (s₁.setTop (mkF m 88 #[.val (.long limit), .second, .val (.long t0), .second, .val (.long now1), .second, .val (.long now2), .second, .val (.long bb), .second, .val (.int flags), .val (.long lm), .second, .val (.int i1), .val (.int i2), .val (.int i3), .val (.long b1), .second, .unset, .unset, .unset, .unset, .unset, .unset, .unset, .unset, .unset, .unset, .unset, .unset, .unset, .unset, .unset, .unset, .unset, .unset, .unset, .unset, .unset] [])) _
      refine XS.lload X0.here hx rfl (hb hby at_88) rfl ?_
      exact hk
    ·
      refine ⟨b1, ((if_neg hc80).trans rfl).symm, fun t hk => k197 t ?_⟩
      show Steps p.tables e below (s₁.setTop (mkF m 80 #[.val (.long limit), .second, .val (.long t0), .second, .val (.long now1), .second, .val (.long now2), .second, .val (.long bb), .second, .val (.int flags), .val (.long lm), .second, .val (.int i1), .val (.int i2), .val (.int i3), .val (.long b1), .second, .unset, .unset, .unset, .unset, .unset, .unset, .unset, .unset, .unset, .unset, .unset, .unset, .unset, .unset, .unset, .unset, .unset, .unset, .unset, .unset, .unset] [(.int (flags &&& (16 : Int32)))])) _
      refine XS.ifNo X0.here hx rfl (hb hby at_80) rfl ((if0 _ _).trans (feq hc80).1) ?_
      show Steps p.tables e below (s₁.setTop (mkF m 83 #[.val (.long limit), .second, .val (.long t0), .second, .val (.long now1), .second, .val (.long now2), .second, .val (.long bb), .second, .val (.int flags), .val (.long lm), .second, .val (.int i1), .val (.int i2), .val (.int i3), .val (.long b1), .second, .unset, .unset, .unset, .unset, .unset, .unset, .unset, .unset, .unset, .unset, .unset, .unset, .unset, .unset, .unset, .unset, .unset, .unset, .unset, .unset, .unset] [])) _
      refine XS.lload X0.here hx rfl (hb hby at_83) rfl ?_
      show Steps p.tables e below (s₁.setTop (mkF m 85 #[.val (.long limit), .second, .val (.long t0), .second, .val (.long now1), .second, .val (.long now2), .second, .val (.long bb), .second, .val (.int flags), .val (.long lm), .second, .val (.int i1), .val (.int i2), .val (.int i3), .val (.long b1), .second, .unset, .unset, .unset, .unset, .unset, .unset, .unset, .unset, .unset, .unset, .unset, .unset, .unset, .unset, .unset, .unset, .unset, .unset, .unset, .unset, .unset] [(.long b1)])) _
      refine XS.goto X0.here hx rfl (pc0 := 85) (pc' := 90) rfl (hb hby at_85) (by decide) (by decide) ?_
      exact hk
  have k199 : ∀ t, Steps p.tables e below (s₁.setTop (mkF m 97 #[.val (.long limit), .second, .val (.long t0), .second, .val (.long now1), .second, .val (.long now2), .second, .val (.long bb), .second, .val (.int flags), .val (.long lm), .second, .val (.int i1), .val (.int i2), .val (.int i3), .val (.long b1), .second, .val (.long b2), .second, .unset, .unset, .unset, .unset, .unset, .unset, .unset, .unset, .unset, .unset, .unset, .unset, .unset, .unset, .unset, .unset, .unset, .unset, .unset] [(.int (flags &&& (32 : Int32)))])) t → Steps p.tables e below (s₁.setTop (entryFrame m #[(.long limit), (.long t0), (.long now1), (.long now2), (.long bb), (.int flags)] maxLocals)) t := fun t hk => k198 t (by
    show Steps p.tables e below (s₁.setTop (mkF m 90 #[.val (.long limit), .second, .val (.long t0), .second, .val (.long now1), .second, .val (.long now2), .second, .val (.long bb), .second, .val (.int flags), .val (.long lm), .second, .val (.int i1), .val (.int i2), .val (.int i3), .val (.long b1), .second, .unset, .unset, .unset, .unset, .unset, .unset, .unset, .unset, .unset, .unset, .unset, .unset, .unset, .unset, .unset, .unset, .unset, .unset, .unset, .unset, .unset] [(.long b2)])) _
    refine XS.lstore X0.here hx rfl (hb hby at_90) rfl (l' := #[.val (.long limit), .second, .val (.long t0), .second, .val (.long now1), .second, .val (.long now2), .second, .val (.long bb), .second, .val (.int flags), .val (.long lm), .second, .val (.int i1), .val (.int i2), .val (.int i3), .val (.long b1), .second, .val (.long b2), .second, .unset, .unset, .unset, .unset, .unset, .unset, .unset, .unset, .unset, .unset, .unset, .unset, .unset, .unset, .unset, .unset, .unset, .unset, .unset]) rfl ?_
    show Steps p.tables e below (s₁.setTop (mkF m 92 #[.val (.long limit), .second, .val (.long t0), .second, .val (.long now1), .second, .val (.long now2), .second, .val (.long bb), .second, .val (.int flags), .val (.long lm), .second, .val (.int i1), .val (.int i2), .val (.int i3), .val (.long b1), .second, .val (.long b2), .second, .unset, .unset, .unset, .unset, .unset, .unset, .unset, .unset, .unset, .unset, .unset, .unset, .unset, .unset, .unset, .unset, .unset, .unset, .unset] [])) _
    refine XS.iload X0.here hx rfl (hb hby at_92) rfl ?_
    show Steps p.tables e below (s₁.setTop (mkF m 94 #[.val (.long limit), .second, .val (.long t0), .second, .val (.long now1), .second, .val (.long now2), .second, .val (.long bb), .second, .val (.int flags), .val (.long lm), .second, .val (.int i1), .val (.int i2), .val (.int i3), .val (.long b1), .second, .val (.long b2), .second, .unset, .unset, .unset, .unset, .unset, .unset, .unset, .unset, .unset, .unset, .unset, .unset, .unset, .unset, .unset, .unset, .unset, .unset, .unset] [(.int flags)])) _
    refine XS.bipush X0.here hx rfl (hb hby at_94) ?_
    show Steps p.tables e below (s₁.setTop (mkF m 96 #[.val (.long limit), .second, .val (.long t0), .second, .val (.long now1), .second, .val (.long now2), .second, .val (.long bb), .second, .val (.int flags), .val (.long lm), .second, .val (.int i1), .val (.int i2), .val (.int i3), .val (.long b1), .second, .val (.long b2), .second, .unset, .unset, .unset, .unset, .unset, .unset, .unset, .unset, .unset, .unset, .unset, .unset, .unset, .unset, .unset, .unset, .unset, .unset, .unset] [(.int (32 : Int32)), (.int flags)])) _
    refine XS.iand X0.here hx rfl (hb hby at_96) rfl ?_
    exact hk)
  obtain ⟨b3, hb3, k200⟩ : ∃ (b3 : Int64), (b3 = (if (flags &&& (32 : Int32)) = (0 : Int32) then (b2 ^^^ (-1 : Int64)) else b2)) ∧ ∀ t, Steps p.tables e below (s₁.setTop (mkF m 111 #[.val (.long limit), .second, .val (.long t0), .second, .val (.long now1), .second, .val (.long now2), .second, .val (.long bb), .second, .val (.int flags), .val (.long lm), .second, .val (.int i1), .val (.int i2), .val (.int i3), .val (.long b1), .second, .val (.long b2), .second, .unset, .unset, .unset, .unset, .unset, .unset, .unset, .unset, .unset, .unset, .unset, .unset, .unset, .unset, .unset, .unset, .unset, .unset, .unset] [(.long b3)])) t → Steps p.tables e below (s₁.setTop (entryFrame m #[(.long limit), (.long t0), (.long now1), (.long now2), (.long bb), (.int flags)] maxLocals)) t := by
    by_cases hc97 : (flags &&& (32 : Int32)) = (0 : Int32)
    ·
      refine ⟨(b2 ^^^ (-1 : Int64)), ((if_pos hc97).trans rfl).symm, fun t hk => k199 t ?_⟩
      show Steps p.tables e below (s₁.setTop (mkF m 97 #[.val (.long limit), .second, .val (.long t0), .second, .val (.long now1), .second, .val (.long now2), .second, .val (.long bb), .second, .val (.int flags), .val (.long lm), .second, .val (.int i1), .val (.int i2), .val (.int i3), .val (.long b1), .second, .val (.long b2), .second, .unset, .unset, .unset, .unset, .unset, .unset, .unset, .unset, .unset, .unset, .unset, .unset, .unset, .unset, .unset, .unset, .unset, .unset, .unset] [(.int (flags &&& (32 : Int32)))])) _
      refine XS.ifYes X0.here hx rfl (pc0 := 97) (pc' := 105) rfl (hb hby at_97) rfl ((if0 _ _).trans (teq hc97).1) (by decide) (by decide) ?_
      show Steps p.tables e below (s₁.setTop (mkF m 105 #[.val (.long limit), .second, .val (.long t0), .second, .val (.long now1), .second, .val (.long now2), .second, .val (.long bb), .second, .val (.int flags), .val (.long lm), .second, .val (.int i1), .val (.int i2), .val (.int i3), .val (.long b1), .second, .val (.long b2), .second, .unset, .unset, .unset, .unset, .unset, .unset, .unset, .unset, .unset, .unset, .unset, .unset, .unset, .unset, .unset, .unset, .unset, .unset, .unset] [])) _
      refine XS.lload X0.here hx rfl (hb hby at_105) rfl ?_
      show Steps p.tables e below (s₁.setTop (mkF m 107 #[.val (.long limit), .second, .val (.long t0), .second, .val (.long now1), .second, .val (.long now2), .second, .val (.long bb), .second, .val (.int flags), .val (.long lm), .second, .val (.int i1), .val (.int i2), .val (.int i3), .val (.long b1), .second, .val (.long b2), .second, .unset, .unset, .unset, .unset, .unset, .unset, .unset, .unset, .unset, .unset, .unset, .unset, .unset, .unset, .unset, .unset, .unset, .unset, .unset] [(.long b2)])) _
      refine X0.ldc2Long hx hown (mvT hZ (hw _ (List.mem_of_getElem? (i := 1) rfl))) (g := (mkF m 107 #[.val (.long limit), .second, .val (.long t0), .second, .val (.long now1), .second, .val (.long now2), .second, .val (.long bb), .second, .val (.int flags), .val (.long lm), .second, .val (.int i1), .val (.int i2), .val (.int i3), .val (.long b1), .second, .val (.long b2), .second, .unset, .unset, .unset, .unset, .unset, .unset, .unset, .unset, .unset, .unset, .unset, .unset, .unset, .unset, .unset, .unset, .unset, .unset, .unset] [(.long b2)])) rfl (hb hby at_107) _ ?_
      show Steps p.tables e below (s₁.setTop (mkF m 110 #[.val (.long limit), .second, .val (.long t0), .second, .val (.long now1), .second, .val (.long now2), .second, .val (.long bb), .second, .val (.int flags), .val (.long lm), .second, .val (.int i1), .val (.int i2), .val (.int i3), .val (.long b1), .second, .val (.long b2), .second, .unset, .unset, .unset, .unset, .unset, .unset, .unset, .unset, .unset, .unset, .unset, .unset, .unset, .unset, .unset, .unset, .unset, .unset, .unset] [(.long (-1 : Int64)), (.long b2)])) _
      refine XS.lxor X0.here hx rfl (hb hby at_110) rfl ?_
      exact hk
    ·
      refine ⟨b2, ((if_neg hc97).trans rfl).symm, fun t hk => k199 t ?_⟩
      show Steps p.tables e below (s₁.setTop (mkF m 97 #[.val (.long limit), .second, .val (.long t0), .second, .val (.long now1), .second, .val (.long now2), .second, .val (.long bb), .second, .val (.int flags), .val (.long lm), .second, .val (.int i1), .val (.int i2), .val (.int i3), .val (.long b1), .second, .val (.long b2), .second, .unset, .unset, .unset, .unset, .unset, .unset, .unset, .unset, .unset, .unset, .unset, .unset, .unset, .unset, .unset, .unset, .unset, .unset, .unset] [(.int (flags &&& (32 : Int32)))])) _
      refine XS.ifNo X0.here hx rfl (hb hby at_97) rfl ((if0 _ _).trans (feq hc97).1) ?_
      show Steps p.tables e below (s₁.setTop (mkF m 100 #[.val (.long limit), .second, .val (.long t0), .second, .val (.long now1), .second, .val (.long now2), .second, .val (.long bb), .second, .val (.int flags), .val (.long lm), .second, .val (.int i1), .val (.int i2), .val (.int i3), .val (.long b1), .second, .val (.long b2), .second, .unset, .unset, .unset, .unset, .unset, .unset, .unset, .unset, .unset, .unset, .unset, .unset, .unset, .unset, .unset, .unset, .unset, .unset, .unset] [])) _
      refine XS.lload X0.here hx rfl (hb hby at_100) rfl ?_
      show Steps p.tables e below (s₁.setTop (mkF m 102 #[.val (.long limit), .second, .val (.long t0), .second, .val (.long now1), .second, .val (.long now2), .second, .val (.long bb), .second, .val (.int flags), .val (.long lm), .second, .val (.int i1), .val (.int i2), .val (.int i3), .val (.long b1), .second, .val (.long b2), .second, .unset, .unset, .unset, .unset, .unset, .unset, .unset, .unset, .unset, .unset, .unset, .unset, .unset, .unset, .unset, .unset, .unset, .unset, .unset] [(.long b2)])) _
      refine XS.goto X0.here hx rfl (pc0 := 102) (pc' := 111) rfl (hb hby at_102) (by decide) (by decide) ?_
      exact hk
  have k201 : ∀ t, Steps p.tables e below (s₁.setTop (mkF m 120 #[.val (.long limit), .second, .val (.long t0), .second, .val (.long now1), .second, .val (.long now2), .second, .val (.long bb), .second, .val (.int flags), .val (.long lm), .second, .val (.int i1), .val (.int i2), .val (.int i3), .val (.long b1), .second, .val (.long b2), .second, .val (.long b3), .second, .val (.long (now1 + now2)), .second, .unset, .unset, .unset, .unset, .unset, .unset, .unset, .unset, .unset, .unset, .unset, .unset, .unset, .unset, .unset] [])) t → Steps p.tables e below (s₁.setTop (entryFrame m #[(.long limit), (.long t0), (.long now1), (.long now2), (.long bb), (.int flags)] maxLocals)) t := fun t hk => k200 t (by
    show Steps p.tables e below (s₁.setTop (mkF m 111 #[.val (.long limit), .second, .val (.long t0), .second, .val (.long now1), .second, .val (.long now2), .second, .val (.long bb), .second, .val (.int flags), .val (.long lm), .second, .val (.int i1), .val (.int i2), .val (.int i3), .val (.long b1), .second, .val (.long b2), .second, .unset, .unset, .unset, .unset, .unset, .unset, .unset, .unset, .unset, .unset, .unset, .unset, .unset, .unset, .unset, .unset, .unset, .unset, .unset] [(.long b3)])) _
    refine XS.lstore X0.here hx rfl (hb hby at_111) rfl (l' := #[.val (.long limit), .second, .val (.long t0), .second, .val (.long now1), .second, .val (.long now2), .second, .val (.long bb), .second, .val (.int flags), .val (.long lm), .second, .val (.int i1), .val (.int i2), .val (.int i3), .val (.long b1), .second, .val (.long b2), .second, .val (.long b3), .second, .unset, .unset, .unset, .unset, .unset, .unset, .unset, .unset, .unset, .unset, .unset, .unset, .unset, .unset, .unset, .unset, .unset]) rfl ?_
    show Steps p.tables e below (s₁.setTop (mkF m 113 #[.val (.long limit), .second, .val (.long t0), .second, .val (.long now1), .second, .val (.long now2), .second, .val (.long bb), .second, .val (.int flags), .val (.long lm), .second, .val (.int i1), .val (.int i2), .val (.int i3), .val (.long b1), .second, .val (.long b2), .second, .val (.long b3), .second, .unset, .unset, .unset, .unset, .unset, .unset, .unset, .unset, .unset, .unset, .unset, .unset, .unset, .unset, .unset, .unset, .unset] [])) _
    refine XS.lload X0.here hx rfl (hb hby at_113) rfl ?_
    show Steps p.tables e below (s₁.setTop (mkF m 115 #[.val (.long limit), .second, .val (.long t0), .second, .val (.long now1), .second, .val (.long now2), .second, .val (.long bb), .second, .val (.int flags), .val (.long lm), .second, .val (.int i1), .val (.int i2), .val (.int i3), .val (.long b1), .second, .val (.long b2), .second, .val (.long b3), .second, .unset, .unset, .unset, .unset, .unset, .unset, .unset, .unset, .unset, .unset, .unset, .unset, .unset, .unset, .unset, .unset, .unset] [(.long now1)])) _
    refine XS.lload X0.here hx rfl (hb hby at_115) rfl ?_
    show Steps p.tables e below (s₁.setTop (mkF m 117 #[.val (.long limit), .second, .val (.long t0), .second, .val (.long now1), .second, .val (.long now2), .second, .val (.long bb), .second, .val (.int flags), .val (.long lm), .second, .val (.int i1), .val (.int i2), .val (.int i3), .val (.long b1), .second, .val (.long b2), .second, .val (.long b3), .second, .unset, .unset, .unset, .unset, .unset, .unset, .unset, .unset, .unset, .unset, .unset, .unset, .unset, .unset, .unset, .unset, .unset] [(.long now2), (.long now1)])) _
    refine XS.ladd X0.here hx rfl (hb hby at_117) rfl ?_
    show Steps p.tables e below (s₁.setTop (mkF m 118 #[.val (.long limit), .second, .val (.long t0), .second, .val (.long now1), .second, .val (.long now2), .second, .val (.long bb), .second, .val (.int flags), .val (.long lm), .second, .val (.int i1), .val (.int i2), .val (.int i3), .val (.long b1), .second, .val (.long b2), .second, .val (.long b3), .second, .unset, .unset, .unset, .unset, .unset, .unset, .unset, .unset, .unset, .unset, .unset, .unset, .unset, .unset, .unset, .unset, .unset] [(.long (now1 + now2))])) _
    refine XS.lstore X0.here hx rfl (hb hby at_118) rfl (l' := #[.val (.long limit), .second, .val (.long t0), .second, .val (.long now1), .second, .val (.long now2), .second, .val (.long bb), .second, .val (.int flags), .val (.long lm), .second, .val (.int i1), .val (.int i2), .val (.int i3), .val (.long b1), .second, .val (.long b2), .second, .val (.long b3), .second, .val (.long (now1 + now2)), .second, .unset, .unset, .unset, .unset, .unset, .unset, .unset, .unset, .unset, .unset, .unset, .unset, .unset, .unset, .unset]) rfl ?_
    exact hk)
  obtain ⟨now3, hnow3, k202⟩ : ∃ (now3 : Int64), now3 = (now1 + now2) ∧ ∀ t, Steps p.tables e below (s₁.setTop (mkF m 120 #[.val (.long limit), .second, .val (.long t0), .second, .val (.long now1), .second, .val (.long now2), .second, .val (.long bb), .second, .val (.int flags), .val (.long lm), .second, .val (.int i1), .val (.int i2), .val (.int i3), .val (.long b1), .second, .val (.long b2), .second, .val (.long b3), .second, .val (.long now3), .second, .unset, .unset, .unset, .unset, .unset, .unset, .unset, .unset, .unset, .unset, .unset, .unset, .unset, .unset, .unset] [])) t → Steps p.tables e below (s₁.setTop (entryFrame m #[(.long limit), (.long t0), (.long now1), (.long now2), (.long bb), (.int flags)] maxLocals)) t := ⟨(now1 + now2), rfl, k201⟩
  have k203 : ∀ t, Steps p.tables e below (s₁.setTop (mkF m 126 #[.val (.long limit), .second, .val (.long t0), .second, .val (.long now1), .second, .val (.long now2), .second, .val (.long bb), .second, .val (.int flags), .val (.long lm), .second, .val (.int i1), .val (.int i2), .val (.int i3), .val (.long b1), .second, .val (.long b2), .second, .val (.long b3), .second, .val (.long now3), .second, .unset, .unset, .unset, .unset, .unset, .unset, .unset, .unset, .unset, .unset, .unset, .unset, .unset, .unset, .unset] [(.int (lcmpW lm (9223372036854775807 : Int64)))])) t → Steps p.tables e below (s₁.setTop (entryFrame m #[(.long limit), (.long t0), (.long now1), (.long now2), (.long bb), (.int flags)] maxLocals)) t := fun t hk => k202 t (by
    show Steps p.tables e below (s₁.setTop (mkF m 120 #[.val (.long limit), .second, .val (.long t0), .second, .val (.long now1), .second, .val (.long now2), .second, .val (.long bb), .second, .val (.int flags), .val (.long lm), .second, .val (.int i1), .val (.int i2), .val (.int i3), .val (.long b1), .second, .val (.long b2), .second, .val (.long b3), .second, .val (.long now3), .second, .unset, .unset, .unset, .unset, .unset, .unset, .unset, .unset, .unset, .unset, .unset, .unset, .unset, .unset, .unset] [])) _
    refine XS.lload X0.here hx rfl (hb hby at_120) rfl ?_
    show Steps p.tables e below (s₁.setTop (mkF m 122 #[.val (.long limit), .second, .val (.long t0), .second, .val (.long now1), .second, .val (.long now2), .second, .val (.long bb), .second, .val (.int flags), .val (.long lm), .second, .val (.int i1), .val (.int i2), .val (.int i3), .val (.long b1), .second, .val (.long b2), .second, .val (.long b3), .second, .val (.long now3), .second, .unset, .unset, .unset, .unset, .unset, .unset, .unset, .unset, .unset, .unset, .unset, .unset, .unset, .unset, .unset] [(.long lm)])) _
    refine X0.ldc2Long hx hown (mvT hZ (hw _ (List.mem_of_getElem? (i := 0) rfl))) (g := (mkF m 122 #[.val (.long limit), .second, .val (.long t0), .second, .val (.long now1), .second, .val (.long now2), .second, .val (.long bb), .second, .val (.int flags), .val (.long lm), .second, .val (.int i1), .val (.int i2), .val (.int i3), .val (.long b1), .second, .val (.long b2), .second, .val (.long b3), .second, .val (.long now3), .second, .unset, .unset, .unset, .unset, .unset, .unset, .unset, .unset, .unset, .unset, .unset, .unset, .unset, .unset, .unset] [(.long lm)])) rfl (hb hby at_122) _ ?_
    show Steps p.tables e below (s₁.setTop (mkF m 125 #[.val (.long limit), .second, .val (.long t0), .second, .val (.long now1), .second, .val (.long now2), .second, .val (.long bb), .second, .val (.int flags), .val (.long lm), .second, .val (.int i1), .val (.int i2), .val (.int i3), .val (.long b1), .second, .val (.long b2), .second, .val (.long b3), .second, .val (.long now3), .second, .unset, .unset, .unset, .unset, .unset, .unset, .unset, .unset, .unset, .unset, .unset, .unset, .unset, .unset, .unset] [(.long (9223372036854775807 : Int64)), (.long lm)])) _
    refine XS.lcmp X0.here hx rfl (hb hby at_125) rfl ?_
    exact hk)
  obtain ⟨nv, hnv, k204⟩ : ∃ (nv : Int32), (nv = (if lm = (9223372036854775807 : Int64) then (1 : Int32) else (0 : Int32))) ∧ ∀ t, Steps p.tables e below (s₁.setTop (mkF m 134 #[.val (.long limit), .second, .val (.long t0), .second, .val (.long now1), .second, .val (.long now2), .second, .val (.long bb), .second, .val (.int flags), .val (.long lm), .second, .val (.int i1), .val (.int i2), .val (.int i3), .val (.long b1), .second, .val (.long b2), .second, .val (.long b3), .second, .val (.long now3), .second, .unset, .unset, .unset, .unset, .unset, .unset, .unset, .unset, .unset, .unset, .unset, .unset, .unset, .unset, .unset] [(.int nv)])) t → Steps p.tables e below (s₁.setTop (entryFrame m #[(.long limit), (.long t0), (.long now1), (.long now2), (.long bb), (.int flags)] maxLocals)) t := by
    by_cases hc126 : lm = (9223372036854775807 : Int64)
    ·
      refine ⟨(1 : Int32), ((if_pos hc126).trans rfl).symm, fun t hk => k203 t ?_⟩
      show Steps p.tables e below (s₁.setTop (mkF m 126 #[.val (.long limit), .second, .val (.long t0), .second, .val (.long now1), .second, .val (.long now2), .second, .val (.long bb), .second, .val (.int flags), .val (.long lm), .second, .val (.int i1), .val (.int i2), .val (.int i3), .val (.long b1), .second, .val (.long b2), .second, .val (.long b3), .second, .val (.long now3), .second, .unset, .unset, .unset, .unset, .unset, .unset, .unset, .unset, .unset, .unset, .unset, .unset, .unset, .unset, .unset] [(.int (lcmpW lm (9223372036854775807 : Int64)))])) _
      refine XS.ifNo X0.here hx rfl (hb hby at_126) rfl ((if0 _ _).trans (teq ((lw_eq _ _).mpr hc126)).2) ?_
      show Steps p.tables e below (s₁.setTop (mkF m 129 #[.val (.long limit), .second, .val (.long t0), .second, .val (.long now1), .second, .val (.long now2), .second, .val (.long bb), .second, .val (.int flags), .val (.long lm), .second, .val (.int i1), .val (.int i2), .val (.int i3), .val (.long b1), .second, .val (.long b2), .second, .val (.long b3), .second, .val (.long now3), .second, .unset, .unset, .unset, .unset, .unset, .unset, .unset, .unset, .unset, .unset, .unset, .unset, .unset, .unset, .unset] [])) _
      refine XS.iconst X0.here hx rfl (hb hby at_129) ?_
      show Steps p.tables e below (s₁.setTop (mkF m 130 #[.val (.long limit), .second, .val (.long t0), .second, .val (.long now1), .second, .val (.long now2), .second, .val (.long bb), .second, .val (.int flags), .val (.long lm), .second, .val (.int i1), .val (.int i2), .val (.int i3), .val (.long b1), .second, .val (.long b2), .second, .val (.long b3), .second, .val (.long now3), .second, .unset, .unset, .unset, .unset, .unset, .unset, .unset, .unset, .unset, .unset, .unset, .unset, .unset, .unset, .unset] [(.int (1 : Int32))])) _
      refine XS.goto X0.here hx rfl (pc0 := 130) (pc' := 134) rfl (hb hby at_130) (by decide) (by decide) ?_
      exact hk
    ·
      refine ⟨(0 : Int32), ((if_neg hc126).trans rfl).symm, fun t hk => k203 t ?_⟩
      show Steps p.tables e below (s₁.setTop (mkF m 126 #[.val (.long limit), .second, .val (.long t0), .second, .val (.long now1), .second, .val (.long now2), .second, .val (.long bb), .second, .val (.int flags), .val (.long lm), .second, .val (.int i1), .val (.int i2), .val (.int i3), .val (.long b1), .second, .val (.long b2), .second, .val (.long b3), .second, .val (.long now3), .second, .unset, .unset, .unset, .unset, .unset, .unset, .unset, .unset, .unset, .unset, .unset, .unset, .unset, .unset, .unset] [(.int (lcmpW lm (9223372036854775807 : Int64)))])) _
      refine XS.ifYes X0.here hx rfl (pc0 := 126) (pc' := 133) rfl (hb hby at_126) rfl ((if0 _ _).trans (feq (fun q => hc126 ((lw_eq _ _).mp q))).2) (by decide) (by decide) ?_
      show Steps p.tables e below (s₁.setTop (mkF m 133 #[.val (.long limit), .second, .val (.long t0), .second, .val (.long now1), .second, .val (.long now2), .second, .val (.long bb), .second, .val (.int flags), .val (.long lm), .second, .val (.int i1), .val (.int i2), .val (.int i3), .val (.long b1), .second, .val (.long b2), .second, .val (.long b3), .second, .val (.long now3), .second, .unset, .unset, .unset, .unset, .unset, .unset, .unset, .unset, .unset, .unset, .unset, .unset, .unset, .unset, .unset] [])) _
      refine XS.iconst X0.here hx rfl (hb hby at_133) ?_
      exact hk
  have hb1 : i1 = 0 ∨ i1 = 1 := by rw [hi1]; (repeat' split) <;> simp
  have hb2 : i2 = 0 ∨ i2 = 1 := by rw [hi2]; (repeat' split) <;> simp
  have hb3 : i3 = 0 ∨ i3 = 1 := by rw [hi3]; (repeat' split) <;> simp
  obtain ⟨T205, h205, X205, e205, E205, A205, D205, -, st205⟩ := newO X0 hx hZ hown (hw _ (List.mem_of_getElem? (i := 2) rfl)) (hw _ (List.mem_of_getElem? (i := 3) rfl)) (hw _ (List.mem_of_getElem? (i := 4) rfl)) e0 (g := (mkF m 136 #[.val (.long limit), .second, .val (.long t0), .second, .val (.long now1), .second, .val (.long now2), .second, .val (.long bb), .second, .val (.int flags), .val (.long lm), .second, .val (.int i1), .val (.int i2), .val (.int i3), .val (.long b1), .second, .val (.long b2), .second, .val (.long b3), .second, .val (.long now3), .second, .val (.int nv), .unset, .unset, .unset, .unset, .unset, .unset, .unset, .unset, .unset, .unset, .unset, .unset, .unset, .unset] [])) rfl (hb hby at_136) (by decide) (by decide)
  obtain ⟨b205, g205⟩ : ∃ z, z = h0.size := ⟨_, rfl⟩
  have g206 : n0 ≤ b205 := g205 ▸ Z0
  rw [← g205] at A205 D205 st205
  have Z207 : n0 ≤ h205.size := Nat.le_trans Z0 E205.1
  have F208 : Fld Z h205 b205 "com/example/lease/lease/core/LastUse" "limitNanos" "J" (.long (0 : Int64)) := D205 (Or.inr (hw _ (List.mem_of_getElem? (i := 12) rfl))) (ty := .long) (by decide)
  have F209 : Fld Z h205 b205 "com/example/lease/lease/core/LastUse" "seenAt" "J" (.long (0 : Int64)) := D205 (Or.inl (hw _ (List.mem_of_getElem? (i := 14) rfl))) (ty := .long) (by decide)
  have F210 : Fld Z h205 b205 "com/example/lease/lease/core/LastUse" "inUseWhenSeen" "Z" (.int (0 : Int32)) := D205 (Or.inl (hw _ (List.mem_of_getElem? (i := 21) rfl))) (ty := .boolean) (by decide)
  have F211 : Fld Z h205 b205 "com/example/lease/lease/core/LastUse" "borrowsSeen" "J" (.long (0 : Int64)) := D205 (Or.inl (hw _ (List.mem_of_getElem? (i := 23) rfl))) (ty := .long) (by decide)
  obtain ⟨_, _, ⟨T212, L212, k212, n212⟩, -, X212, ⟨Lc212, hQ212, l212, y212, z212⟩, st212⟩ := X205.specialBack hx (y := (⟨"com/example/lease/lease/core/LastUse", "<init>", "(JJ)V"⟩ : MethodName)) rfl hown (mvT hZ (hw _ (List.mem_of_getElem? (i := 5) rfl))) (mvT hZ (hw _ (List.mem_of_getElem? (i := 6) rfl))) (mvT hZ (hw _ (List.mem_of_getElem? (i := 7) rfl))) (by decide) (backOf (W := 1) (rm1 l Z a0 hw [] b205 lm t0  h205 n0 Z207 A205 g206 ⟨F208, F209, F211, F210⟩) hZ (hw _ (List.mem_of_getElem? (i := 7) rfl)) (hw _ (List.mem_of_getElem? (i := 4) rfl)) (by decide) (by decide)) (g := (mkF m 143 #[.val (.long limit), .second, .val (.long t0), .second, .val (.long now1), .second, .val (.long now2), .second, .val (.long bb), .second, .val (.int flags), .val (.long lm), .second, .val (.int i1), .val (.int i2), .val (.int i3), .val (.long b1), .second, .val (.long b2), .second, .val (.long b3), .second, .val (.long now3), .second, .val (.int nv), .unset, .unset, .unset, .unset, .unset, .unset, .unset, .unset, .unset, .unset, .unset, .unset, .unset, .unset] [(.long t0), (.long lm), (.ref b205), (.ref b205)])) rfl (by rw [hml]; rfl) (Steps.refl _) (a := b205) (argsL := [(.long lm), (.long t0)]) (rest := [(.ref b205)]) (lenOf pd_2 rfl) rfl (by show 2 * 0 + _ ≤ _; exact Nat.le_of_eq rfl) (hb hby at_143) (fun _ _ => ⟨rfl, e205, (by decide : 1 + 0 ≤ _), (by decide : 4 + 0 ≤ _)⟩)
  dsimp only [Pt.U, Pt.locs, Pt.cells, Pt.slots] at X212 l212 y212 z212 st212 hQ212
  subst l212 y212 z212
  obtain ⟨rfl, N212q, K212, Ex212, Fl212, Fa212, Fb212, Fi212⟩ := hQ212
  have N212 := Fr.app N0 N212q
  have E213 := A205.keep K212
  have Z214 : n0 ≤ T212.heap.size := Nat.le_trans Z207 K212.1
  obtain ⟨cq215, kq215, q215a, q215b, q215c⟩ := isOf hZ rfl E213
  obtain ⟨_, _, ⟨T215, L215, k215, n215⟩, -, X215, ⟨Lc215, hQ215, l215, y215, z215⟩, st215⟩ := X212.virtualBack hx (y := (⟨"com/example/lease/lease/core/LastUse", "unusedAt", "(JJZ)Z"⟩ : MethodName)) (z := (⟨"com/example/lease/lease/core/LastUse", "unusedAt", "(JJZ)Z"⟩ : MethodName)) hown (mvT hZ (hw _ (List.mem_of_getElem? (i := 15) rfl))) (mvT hZ (hw _ (List.mem_of_getElem? (i := 16) rfl))) (notFace_of_selects (args := #[]) (mvT hZ (hw _ (List.mem_of_getElem? (i := 18) rfl)))) (mvT hZ (hw _ (List.mem_of_getElem? (i := 18) rfl))) (mvT hZ (hw _ (List.mem_of_getElem? (i := 17) rfl))) (by decide) (backOf (W := 0) (rm3 l Z a0 hw [] b205 now1 b1 i1 lm t0 (0 : Int64) (0 : Int32) T212.heap n0 Z214 E213 g206 hb1 ⟨Fl212, Fa212, Fb212, Fi212⟩) hZ (hw _ (List.mem_of_getElem? (i := 19) rfl)) (hw _ (List.mem_of_getElem? (i := 4) rfl)) (by decide) (by decide)) q215a q215c (g := (mkF m 156 #[.val (.long limit), .second, .val (.long t0), .second, .val (.long now1), .second, .val (.long now2), .second, .val (.long bb), .second, .val (.int flags), .val (.long lm), .second, .val (.int i1), .val (.int i2), .val (.int i3), .val (.long b1), .second, .val (.long b2), .second, .val (.long b3), .second, .val (.long now3), .second, .val (.int nv), .val (.ref b205), .unset, .unset, .unset, .unset, .unset, .unset, .unset, .unset, .unset, .unset, .unset, .unset, .unset] [(.int i1), (.long b1), (.long now1), (.ref b205)])) rfl (by rw [hml]; rfl) (Steps.refl _) (argsL := [(.long now1), (.long b1), (.int i1)]) (rest := []) (lenOf pd_3 rfl) rfl (by show 2 * 0 + _ ≤ _; exact Nat.le_of_eq rfl) (hb hby at_156) (fun _ _ => ⟨rfl, rfl, (by decide : 1 + 0 ≤ _), (by decide : 4 + 0 ≤ _)⟩)
  dsimp only [Pt.U, Pt.locs, Pt.cells, Pt.slots] at X215 l215 y215 z215 st215 hQ215
  subst l215 y215 z215
  obtain ⟨r1, s1, rfl, hs1, hr1, N215q, K215, Ex215, Fl215, Fa215, Fb215, Fi215⟩ := hQ215
  have N215 := Fr.app N212 N215q
  have E216 := E213.keep K215
  have Z217 : n0 ≤ T215.heap.size := Nat.le_trans Z214 K215.1
  obtain ⟨cq218, kq218, q218a, q218b, q218c⟩ := isOf hZ rfl E216
  obtain ⟨_, _, ⟨T218, L218, k218, n218⟩, -, X218, ⟨Lc218, hQ218, l218, y218, z218⟩, st218⟩ := X215.virtualBack hx (y := (⟨"com/example/lease/lease/core/LastUse", "unusedAt", "(JJZ)Z"⟩ : MethodName)) (z := (⟨"com/example/lease/lease/core/LastUse", "unusedAt", "(JJZ)Z"⟩ : MethodName)) hown (mvT hZ (hw _ (List.mem_of_getElem? (i := 15) rfl))) (mvT hZ (hw _ (List.mem_of_getElem? (i := 16) rfl))) (notFace_of_selects (args := #[]) (mvT hZ (hw _ (List.mem_of_getElem? (i := 18) rfl)))) (mvT hZ (hw _ (List.mem_of_getElem? (i := 18) rfl))) (mvT hZ (hw _ (List.mem_of_getElem? (i := 17) rfl))) (by decide) (backOf (W := 0) (rm3 l Z a0 hw [] b205 now2 b2 i2 lm s1 b1 i1 T215.heap n0 Z217 E216 g206 hb2 ⟨Fl215, Fa215, Fb215, Fi215⟩) hZ (hw _ (List.mem_of_getElem? (i := 19) rfl)) (hw _ (List.mem_of_getElem? (i := 4) rfl)) (by decide) (by decide)) q218a q218c (g := (mkF m 169 #[.val (.long limit), .second, .val (.long t0), .second, .val (.long now1), .second, .val (.long now2), .second, .val (.long bb), .second, .val (.int flags), .val (.long lm), .second, .val (.int i1), .val (.int i2), .val (.int i3), .val (.long b1), .second, .val (.long b2), .second, .val (.long b3), .second, .val (.long now3), .second, .val (.int nv), .val (.ref b205), .val (.int r1), .unset, .unset, .unset, .unset, .unset, .unset, .unset, .unset, .unset, .unset, .unset, .unset] [(.int i2), (.long b2), (.long now2), (.ref b205)])) rfl (by rw [hml]; rfl) (Steps.refl _) (argsL := [(.long now2), (.long b2), (.int i2)]) (rest := []) (lenOf pd_3 rfl) rfl (by show 2 * 0 + _ ≤ _; exact Nat.le_of_eq rfl) (hb hby at_169) (fun _ _ => ⟨rfl, rfl, (by decide : 1 + 0 ≤ _), (by decide : 4 + 0 ≤ _)⟩)
  dsimp only [Pt.U, Pt.locs, Pt.cells, Pt.slots] at X218 l218 y218 z218 st218 hQ218
  subst l218 y218 z218
  obtain ⟨r2, s2, rfl, hs2, hr2, N218q, K218, Ex218, Fl218, Fa218, Fb218, Fi218⟩ := hQ218
  have N218 := Fr.app N215 N218q
  have E219 := E216.keep K218
  have Z220 : n0 ≤ T218.heap.size := Nat.le_trans Z217 K218.1
  obtain ⟨cq221, kq221, q221a, q221b, q221c⟩ := isOf hZ rfl E219
  obtain ⟨_, _, ⟨T221, L221, k221, n221⟩, -, X221, ⟨Lc221, hQ221, l221, y221, z221⟩, st221⟩ := X218.virtualBack hx (y := (⟨"com/example/lease/lease/core/LastUse", "unusedAt", "(JJZ)Z"⟩ : MethodName)) (z := (⟨"com/example/lease/lease/core/LastUse", "unusedAt", "(JJZ)Z"⟩ : MethodName)) hown (mvT hZ (hw _ (List.mem_of_getElem? (i := 15) rfl))) (mvT hZ (hw _ (List.mem_of_getElem? (i := 16) rfl))) (notFace_of_selects (args := #[]) (mvT hZ (hw _ (List.mem_of_getElem? (i := 18) rfl)))) (mvT hZ (hw _ (List.mem_of_getElem? (i := 18) rfl))) (mvT hZ (hw _ (List.mem_of_getElem? (i := 17) rfl))) (by decide) (backOf (W := 0) (rm3 l Z a0 hw [] b205 now3 b3 i3 lm s2 b2 i2 T218.heap n0 Z220 E219 g206 hb3 ⟨Fl218, Fa218, Fb218, Fi218⟩) hZ (hw _ (List.mem_of_getElem? (i := 19) rfl)) (hw _ (List.mem_of_getElem? (i := 4) rfl)) (by decide) (by decide)) q221a q221c (g := (mkF m 182 #[.val (.long limit), .second, .val (.long t0), .second, .val (.long now1), .second, .val (.long now2), .second, .val (.long bb), .second, .val (.int flags), .val (.long lm), .second, .val (.int i1), .val (.int i2), .val (.int i3), .val (.long b1), .second, .val (.long b2), .second, .val (.long b3), .second, .val (.long now3), .second, .val (.int nv), .val (.ref b205), .val (.int r1), .val (.int r2), .unset, .unset, .unset, .unset, .unset, .unset, .unset, .unset, .unset, .unset, .unset] [(.int i3), (.long b3), (.long now3), (.ref b205)])) rfl (by rw [hml]; rfl) (Steps.refl _) (argsL := [(.long now3), (.long b3), (.int i3)]) (rest := []) (lenOf pd_3 rfl) rfl (by show 2 * 0 + _ ≤ _; exact Nat.le_of_eq rfl) (hb hby at_182) (fun _ _ => ⟨rfl, rfl, (by decide : 1 + 0 ≤ _), (by decide : 4 + 0 ≤ _)⟩)
  dsimp only [Pt.U, Pt.locs, Pt.cells, Pt.slots] at X221 l221 y221 z221 st221 hQ221
  subst l221 y221 z221
  obtain ⟨r3, s3, rfl, hs3, hr3, N221q, K221, Ex221, Fl221, Fa221, Fb221, Fi221⟩ := hQ221
  have N221 := Fr.app N218 N221q
  have E222 := E219.keep K221
  have Z223 : n0 ≤ T221.heap.size := Nat.le_trans Z220 K221.1
  have k224 : ∀ t, Steps p.tables e below (T221.setTop (mkF m 189 #[.val (.long limit), .second, .val (.long t0), .second, .val (.long now1), .second, .val (.long now2), .second, .val (.long bb), .second, .val (.int flags), .val (.long lm), .second, .val (.int i1), .val (.int i2), .val (.int i3), .val (.long b1), .second, .val (.long b2), .second, .val (.long b3), .second, .val (.long now3), .second, .val (.int nv), .val (.ref b205), .val (.int r1), .val (.int r2), .val (.int r3), .unset, .unset, .unset, .unset, .unset, .unset, .unset, .unset, .unset, .unset] [(.int i1)])) t → Steps p.tables e below (s₁.setTop (entryFrame m #[(.long limit), (.long t0), (.long now1), (.long now2), (.long bb), (.int flags)] maxLocals)) t := fun t hk => k204 t (by
    show Steps p.tables e below (s₁.setTop (mkF m 134 #[.val (.long limit), .second, .val (.long t0), .second, .val (.long now1), .second, .val (.long now2), .second, .val (.long bb), .second, .val (.int flags), .val (.long lm), .second, .val (.int i1), .val (.int i2), .val (.int i3), .val (.long b1), .second, .val (.long b2), .second, .val (.long b3), .second, .val (.long now3), .second, .unset, .unset, .unset, .unset, .unset, .unset, .unset, .unset, .unset, .unset, .unset, .unset, .unset, .unset, .unset] [(.int nv)])) _
    refine XS.istore X0.here hx rfl (hb hby at_134) rfl (l' := #[.val (.long limit), .second, .val (.long t0), .second, .val (.long now1), .second, .val (.long now2), .second, .val (.long bb), .second, .val (.int flags), .val (.long lm), .second, .val (.int i1), .val (.int i2), .val (.int i3), .val (.long b1), .second, .val (.long b2), .second, .val (.long b3), .second, .val (.long now3), .second, .val (.int nv), .unset, .unset, .unset, .unset, .unset, .unset, .unset, .unset, .unset, .unset, .unset, .unset, .unset, .unset]) rfl ?_
    show Steps p.tables e below (s₁.setTop (mkF m 136 #[.val (.long limit), .second, .val (.long t0), .second, .val (.long now1), .second, .val (.long now2), .second, .val (.long bb), .second, .val (.int flags), .val (.long lm), .second, .val (.int i1), .val (.int i2), .val (.int i3), .val (.long b1), .second, .val (.long b2), .second, .val (.long b3), .second, .val (.long now3), .second, .val (.int nv), .unset, .unset, .unset, .unset, .unset, .unset, .unset, .unset, .unset, .unset, .unset, .unset, .unset, .unset] [])) _
    refine st205 _ ?_
    show Steps p.tables e below (T205.setTop (mkF m 139 #[.val (.long limit), .second, .val (.long t0), .second, .val (.long now1), .second, .val (.long now2), .second, .val (.long bb), .second, .val (.int flags), .val (.long lm), .second, .val (.int i1), .val (.int i2), .val (.int i3), .val (.long b1), .second, .val (.long b2), .second, .val (.long b3), .second, .val (.long now3), .second, .val (.int nv), .unset, .unset, .unset, .unset, .unset, .unset, .unset, .unset, .unset, .unset, .unset, .unset, .unset, .unset] [(.ref b205)])) _
    refine XS.dup X205.here hx rfl (hb hby at_139) rfl rfl ?_
    show Steps p.tables e below (T205.setTop (mkF m 140 #[.val (.long limit), .second, .val (.long t0), .second, .val (.long now1), .second, .val (.long now2), .second, .val (.long bb), .second, .val (.int flags), .val (.long lm), .second, .val (.int i1), .val (.int i2), .val (.int i3), .val (.long b1), .second, .val (.long b2), .second, .val (.long b3), .second, .val (.long now3), .second, .val (.int nv), .unset, .unset, .unset, .unset, .unset, .unset, .unset, .unset, .unset, .unset, .unset, .unset, .unset, .unset] [(.ref b205), (.ref b205)])) _
    refine XS.lload X205.here hx rfl (hb hby at_140) rfl ?_
    show Steps p.tables e below (T205.setTop (mkF m 142 #[.val (.long limit), .second, .val (.long t0), .second, .val (.long now1), .second, .val (.long now2), .second, .val (.long bb), .second, .val (.int flags), .val (.long lm), .second, .val (.int i1), .val (.int i2), .val (.int i3), .val (.long b1), .second, .val (.long b2), .second, .val (.long b3), .second, .val (.long now3), .second, .val (.int nv), .unset, .unset, .unset, .unset, .unset, .unset, .unset, .unset, .unset, .unset, .unset, .unset, .unset, .unset] [(.long lm), (.ref b205), (.ref b205)])) _
    refine XS.lloadN X205.here hx rfl (hb hby at_142) rfl ?_
    show Steps p.tables e below (T205.setTop (mkF m 143 #[.val (.long limit), .second, .val (.long t0), .second, .val (.long now1), .second, .val (.long now2), .second, .val (.long bb), .second, .val (.int flags), .val (.long lm), .second, .val (.int i1), .val (.int i2), .val (.int i3), .val (.long b1), .second, .val (.long b2), .second, .val (.long b3), .second, .val (.long now3), .second, .val (.int nv), .unset, .unset, .unset, .unset, .unset, .unset, .unset, .unset, .unset, .unset, .unset, .unset, .unset, .unset] [(.long t0), (.long lm), (.ref b205), (.ref b205)])) _
    refine st212.trans ?_
    show Steps p.tables e below (T212.setTop (mkF m 146 #[.val (.long limit), .second, .val (.long t0), .second, .val (.long now1), .second, .val (.long now2), .second, .val (.long bb), .second, .val (.int flags), .val (.long lm), .second, .val (.int i1), .val (.int i2), .val (.int i3), .val (.long b1), .second, .val (.long b2), .second, .val (.long b3), .second, .val (.long now3), .second, .val (.int nv), .unset, .unset, .unset, .unset, .unset, .unset, .unset, .unset, .unset, .unset, .unset, .unset, .unset, .unset] [(.ref b205)])) _
    refine XS.astore X212.here hx rfl (hb hby at_146) rfl rfl (l' := #[.val (.long limit), .second, .val (.long t0), .second, .val (.long now1), .second, .val (.long now2), .second, .val (.long bb), .second, .val (.int flags), .val (.long lm), .second, .val (.int i1), .val (.int i2), .val (.int i3), .val (.long b1), .second, .val (.long b2), .second, .val (.long b3), .second, .val (.long now3), .second, .val (.int nv), .val (.ref b205), .unset, .unset, .unset, .unset, .unset, .unset, .unset, .unset, .unset, .unset, .unset, .unset, .unset]) rfl ?_
    show Steps p.tables e below (T212.setTop (mkF m 148 #[.val (.long limit), .second, .val (.long t0), .second, .val (.long now1), .second, .val (.long now2), .second, .val (.long bb), .second, .val (.int flags), .val (.long lm), .second, .val (.int i1), .val (.int i2), .val (.int i3), .val (.long b1), .second, .val (.long b2), .second, .val (.long b3), .second, .val (.long now3), .second, .val (.int nv), .val (.ref b205), .unset, .unset, .unset, .unset, .unset, .unset, .unset, .unset, .unset, .unset, .unset, .unset, .unset] [])) _
    refine XS.aload X212.here hx rfl (hb hby at_148) rfl rfl ?_
    show Steps p.tables e below (T212.setTop (mkF m 150 #[.val (.long limit), .second, .val (.long t0), .second, .val (.long now1), .second, .val (.long now2), .second, .val (.long bb), .second, .val (.int flags), .val (.long lm), .second, .val (.int i1), .val (.int i2), .val (.int i3), .val (.long b1), .second, .val (.long b2), .second, .val (.long b3), .second, .val (.long now3), .second, .val (.int nv), .val (.ref b205), .unset, .unset, .unset, .unset, .unset, .unset, .unset, .unset, .unset, .unset, .unset, .unset, .unset] [(.ref b205)])) _
    refine XS.lload X212.here hx rfl (hb hby at_150) rfl ?_
    show Steps p.tables e below (T212.setTop (mkF m 152 #[.val (.long limit), .second, .val (.long t0), .second, .val (.long now1), .second, .val (.long now2), .second, .val (.long bb), .second, .val (.int flags), .val (.long lm), .second, .val (.int i1), .val (.int i2), .val (.int i3), .val (.long b1), .second, .val (.long b2), .second, .val (.long b3), .second, .val (.long now3), .second, .val (.int nv), .val (.ref b205), .unset, .unset, .unset, .unset, .unset, .unset, .unset, .unset, .unset, .unset, .unset, .unset, .unset] [(.long now1), (.ref b205)])) _
    refine XS.lload X212.here hx rfl (hb hby at_152) rfl ?_
    show Steps p.tables e below (T212.setTop (mkF m 154 #[.val (.long limit), .second, .val (.long t0), .second, .val (.long now1), .second, .val (.long now2), .second, .val (.long bb), .second, .val (.int flags), .val (.long lm), .second, .val (.int i1), .val (.int i2), .val (.int i3), .val (.long b1), .second, .val (.long b2), .second, .val (.long b3), .second, .val (.long now3), .second, .val (.int nv), .val (.ref b205), .unset, .unset, .unset, .unset, .unset, .unset, .unset, .unset, .unset, .unset, .unset, .unset, .unset] [(.long b1), (.long now1), (.ref b205)])) _
    refine XS.iload X212.here hx rfl (hb hby at_154) rfl ?_
    show Steps p.tables e below (T212.setTop (mkF m 156 #[.val (.long limit), .second, .val (.long t0), .second, .val (.long now1), .second, .val (.long now2), .second, .val (.long bb), .second, .val (.int flags), .val (.long lm), .second, .val (.int i1), .val (.int i2), .val (.int i3), .val (.long b1), .second, .val (.long b2), .second, .val (.long b3), .second, .val (.long now3), .second, .val (.int nv), .val (.ref b205), .unset, .unset, .unset, .unset, .unset, .unset, .unset, .unset, .unset, .unset, .unset, .unset, .unset] [(.int i1), (.long b1), (.long now1), (.ref b205)])) _
    refine st215.trans ?_
    show Steps p.tables e below (T215.setTop (mkF m 159 #[.val (.long limit), .second, .val (.long t0), .second, .val (.long now1), .second, .val (.long now2), .second, .val (.long bb), .second, .val (.int flags), .val (.long lm), .second, .val (.int i1), .val (.int i2), .val (.int i3), .val (.long b1), .second, .val (.long b2), .second, .val (.long b3), .second, .val (.long now3), .second, .val (.int nv), .val (.ref b205), .unset, .unset, .unset, .unset, .unset, .unset, .unset, .unset, .unset, .unset, .unset, .unset, .unset] [(.int r1)])) _
    refine XS.istore X215.here hx rfl (hb hby at_159) rfl (l' := #[.val (.long limit), .second, .val (.long t0), .second, .val (.long now1), .second, .val (.long now2), .second, .val (.long bb), .second, .val (.int flags), .val (.long lm), .second, .val (.int i1), .val (.int i2), .val (.int i3), .val (.long b1), .second, .val (.long b2), .second, .val (.long b3), .second, .val (.long now3), .second, .val (.int nv), .val (.ref b205), .val (.int r1), .unset, .unset, .unset, .unset, .unset, .unset, .unset, .unset, .unset, .unset, .unset, .unset]) rfl ?_
    show Steps p.tables e below (T215.setTop (mkF m 161 #[.val (.long limit), .second, .val (.long t0), .second, .val (.long now1), .second, .val (.long now2), .second, .val (.long bb), .second, .val (.int flags), .val (.long lm), .second, .val (.int i1), .val (.int i2), .val (.int i3), .val (.long b1), .second, .val (.long b2), .second, .val (.long b3), .second, .val (.long now3), .second, .val (.int nv), .val (.ref b205), .val (.int r1), .unset, .unset, .unset, .unset, .unset, .unset, .unset, .unset, .unset, .unset, .unset, .unset] [])) _
    refine XS.aload X215.here hx rfl (hb hby at_161) rfl rfl ?_
    show Steps p.tables e below (T215.setTop (mkF m 163 #[.val (.long limit), .second, .val (.long t0), .second, .val (.long now1), .second, .val (.long now2), .second, .val (.long bb), .second, .val (.int flags), .val (.long lm), .second, .val (.int i1), .val (.int i2), .val (.int i3), .val (.long b1), .second, .val (.long b2), .second, .val (.long b3), .second, .val (.long now3), .second, .val (.int nv), .val (.ref b205), .val (.int r1), .unset, .unset, .unset, .unset, .unset, .unset, .unset, .unset, .unset, .unset, .unset, .unset] [(.ref b205)])) _
    refine XS.lload X215.here hx rfl (hb hby at_163) rfl ?_
    show Steps p.tables e below (T215.setTop (mkF m 165 #[.val (.long limit), .second, .val (.long t0), .second, .val (.long now1), .second, .val (.long now2), .second, .val (.long bb), .second, .val (.int flags), .val (.long lm), .second, .val (.int i1), .val (.int i2), .val (.int i3), .val (.long b1), .second, .val (.long b2), .second, .val (.long b3), .second, .val (.long now3), .second, .val (.int nv), .val (.ref b205), .val (.int r1), .unset, .unset, .unset, .unset, .unset, .unset, .unset, .unset, .unset, .unset, .unset, .unset] [(.long now2), (.ref b205)])) _
    refine XS.lload X215.here hx rfl (hb hby at_165) rfl ?_
    show Steps p.tables e below (T215.setTop (mkF m 167 #[.val (.long limit), .second, .val (.long t0), .second, .val (.long now1), .second, .val (.long now2), .second, .val (.long bb), .second, .val (.int flags), .val (.long lm), .second, .val (.int i1), .val (.int i2), .val (.int i3), .val (.long b1), .second, .val (.long b2), .second, .val (.long b3), .second, .val (.long now3), .second, .val (.int nv), .val (.ref b205), .val (.int r1), .unset, .unset, .unset, .unset, .unset, .unset, .unset, .unset, .unset, .unset, .unset, .unset] [(.long b2), (.long now2), (.ref b205)])) _
    refine XS.iload X215.here hx rfl (hb hby at_167) rfl ?_
    show Steps p.tables e below (T215.setTop (mkF m 169 #[.val (.long limit), .second, .val (.long t0), .second, .val (.long now1), .second, .val (.long now2), .second, .val (.long bb), .second, .val (.int flags), .val (.long lm), .second, .val (.int i1), .val (.int i2), .val (.int i3), .val (.long b1), .second, .val (.long b2), .second, .val (.long b3), .second, .val (.long now3), .second, .val (.int nv), .val (.ref b205), .val (.int r1), .unset, .unset, .unset, .unset, .unset, .unset, .unset, .unset, .unset, .unset, .unset, .unset] [(.int i2), (.long b2), (.long now2), (.ref b205)])) _
    refine st218.trans ?_
    show Steps p.tables e below (T218.setTop (mkF m 172 #[.val (.long limit), .second, .val (.long t0), .second, .val (.long now1), .second, .val (.long now2), .second, .val (.long bb), .second, .val (.int flags), .val (.long lm), .second, .val (.int i1), .val (.int i2), .val (.int i3), .val (.long b1), .second, .val (.long b2), .second, .val (.long b3), .second, .val (.long now3), .second, .val (.int nv), .val (.ref b205), .val (.int r1), .unset, .unset, .unset, .unset, .unset, .unset, .unset, .unset, .unset, .unset, .unset, .unset] [(.int r2)])) _
    refine XS.istore X218.here hx rfl (hb hby at_172) rfl (l' := #[.val (.long limit), .second, .val (.long t0), .second, .val (.long now1), .second, .val (.long now2), .second, .val (.long bb), .second, .val (.int flags), .val (.long lm), .second, .val (.int i1), .val (.int i2), .val (.int i3), .val (.long b1), .second, .val (.long b2), .second, .val (.long b3), .second, .val (.long now3), .second, .val (.int nv), .val (.ref b205), .val (.int r1), .val (.int r2), .unset, .unset, .unset, .unset, .unset, .unset, .unset, .unset, .unset, .unset, .unset]) rfl ?_
    show Steps p.tables e below (T218.setTop (mkF m 174 #[.val (.long limit), .second, .val (.long t0), .second, .val (.long now1), .second, .val (.long now2), .second, .val (.long bb), .second, .val (.int flags), .val (.long lm), .second, .val (.int i1), .val (.int i2), .val (.int i3), .val (.long b1), .second, .val (.long b2), .second, .val (.long b3), .second, .val (.long now3), .second, .val (.int nv), .val (.ref b205), .val (.int r1), .val (.int r2), .unset, .unset, .unset, .unset, .unset, .unset, .unset, .unset, .unset, .unset, .unset] [])) _
    refine XS.aload X218.here hx rfl (hb hby at_174) rfl rfl ?_
    show Steps p.tables e below (T218.setTop (mkF m 176 #[.val (.long limit), .second, .val (.long t0), .second, .val (.long now1), .second, .val (.long now2), .second, .val (.long bb), .second, .val (.int flags), .val (.long lm), .second, .val (.int i1), .val (.int i2), .val (.int i3), .val (.long b1), .second, .val (.long b2), .second, .val (.long b3), .second, .val (.long now3), .second, .val (.int nv), .val (.ref b205), .val (.int r1), .val (.int r2), .unset, .unset, .unset, .unset, .unset, .unset, .unset, .unset, .unset, .unset, .unset] [(.ref b205)])) _
    refine XS.lload X218.here hx rfl (hb hby at_176) rfl ?_
    show Steps p.tables e below (T218.setTop (mkF m 178 #[.val (.long limit), .second, .val (.long t0), .second, .val (.long now1), .second, .val (.long now2), .second, .val (.long bb), .second, .val (.int flags), .val (.long lm), .second, .val (.int i1), .val (.int i2), .val (.int i3), .val (.long b1), .second, .val (.long b2), .second, .val (.long b3), .second, .val (.long now3), .second, .val (.int nv), .val (.ref b205), .val (.int r1), .val (.int r2), .unset, .unset, .unset, .unset, .unset, .unset, .unset, .unset, .unset, .unset, .unset] [(.long now3), (.ref b205)])) _
    refine XS.lload X218.here hx rfl (hb hby at_178) rfl ?_
    show Steps p.tables e below (T218.setTop (mkF m 180 #[.val (.long limit), .second, .val (.long t0), .second, .val (.long now1), .second, .val (.long now2), .second, .val (.long bb), .second, .val (.int flags), .val (.long lm), .second, .val (.int i1), .val (.int i2), .val (.int i3), .val (.long b1), .second, .val (.long b2), .second, .val (.long b3), .second, .val (.long now3), .second, .val (.int nv), .val (.ref b205), .val (.int r1), .val (.int r2), .unset, .unset, .unset, .unset, .unset, .unset, .unset, .unset, .unset, .unset, .unset] [(.long b3), (.long now3), (.ref b205)])) _
    refine XS.iload X218.here hx rfl (hb hby at_180) rfl ?_
    show Steps p.tables e below (T218.setTop (mkF m 182 #[.val (.long limit), .second, .val (.long t0), .second, .val (.long now1), .second, .val (.long now2), .second, .val (.long bb), .second, .val (.int flags), .val (.long lm), .second, .val (.int i1), .val (.int i2), .val (.int i3), .val (.long b1), .second, .val (.long b2), .second, .val (.long b3), .second, .val (.long now3), .second, .val (.int nv), .val (.ref b205), .val (.int r1), .val (.int r2), .unset, .unset, .unset, .unset, .unset, .unset, .unset, .unset, .unset, .unset, .unset] [(.int i3), (.long b3), (.long now3), (.ref b205)])) _
    refine st221.trans ?_
    show Steps p.tables e below (T221.setTop (mkF m 185 #[.val (.long limit), .second, .val (.long t0), .second, .val (.long now1), .second, .val (.long now2), .second, .val (.long bb), .second, .val (.int flags), .val (.long lm), .second, .val (.int i1), .val (.int i2), .val (.int i3), .val (.long b1), .second, .val (.long b2), .second, .val (.long b3), .second, .val (.long now3), .second, .val (.int nv), .val (.ref b205), .val (.int r1), .val (.int r2), .unset, .unset, .unset, .unset, .unset, .unset, .unset, .unset, .unset, .unset, .unset] [(.int r3)])) _
    refine XS.istore X221.here hx rfl (hb hby at_185) rfl (l' := #[.val (.long limit), .second, .val (.long t0), .second, .val (.long now1), .second, .val (.long now2), .second, .val (.long bb), .second, .val (.int flags), .val (.long lm), .second, .val (.int i1), .val (.int i2), .val (.int i3), .val (.long b1), .second, .val (.long b2), .second, .val (.long b3), .second, .val (.long now3), .second, .val (.int nv), .val (.ref b205), .val (.int r1), .val (.int r2), .val (.int r3), .unset, .unset, .unset, .unset, .unset, .unset, .unset, .unset, .unset, .unset]) rfl ?_
    show Steps p.tables e below (T221.setTop (mkF m 187 #[.val (.long limit), .second, .val (.long t0), .second, .val (.long now1), .second, .val (.long now2), .second, .val (.long bb), .second, .val (.int flags), .val (.long lm), .second, .val (.int i1), .val (.int i2), .val (.int i3), .val (.long b1), .second, .val (.long b2), .second, .val (.long b3), .second, .val (.long now3), .second, .val (.int nv), .val (.ref b205), .val (.int r1), .val (.int r2), .val (.int r3), .unset, .unset, .unset, .unset, .unset, .unset, .unset, .unset, .unset, .unset] [])) _
    refine XS.iload X221.here hx rfl (hb hby at_187) rfl ?_
    exact hk)
  obtain ⟨u1, hu1, k225⟩ : ∃ (u1 : Int32), (u1 = (if i1 = (0 : Int32) then (if b1 = (0 : Int64) then (0 : Int32) else (1 : Int32)) else (1 : Int32))) ∧ ∀ t, Steps p.tables e below (T221.setTop (mkF m 204 #[.val (.long limit), .second, .val (.long t0), .second, .val (.long now1), .second, .val (.long now2), .second, .val (.long bb), .second, .val (.int flags), .val (.long lm), .second, .val (.int i1), .val (.int i2), .val (.int i3), .val (.long b1), .second, .val (.long b2), .second, .val (.long b3), .second, .val (.long now3), .second, .val (.int nv), .val (.ref b205), .val (.int r1), .val (.int r2), .val (.int r3), .unset, .unset, .unset, .unset, .unset, .unset, .unset, .unset, .unset, .unset] [(.int u1)])) t → Steps p.tables e below (s₁.setTop (entryFrame m #[(.long limit), (.long t0), (.long now1), (.long now2), (.long bb), (.int flags)] maxLocals)) t := by
    by_cases hc189 : i1 = (0 : Int32)
    ·
      by_cases hc196 : b1 = (0 : Int64)
      ·
        refine ⟨(0 : Int32), ((if_pos hc189).trans ((if_pos hc196).trans rfl)).symm, fun t hk => k224 t ?_⟩
        show Steps p.tables e below (T221.setTop (mkF m 189 #[.val (.long limit), .second, .val (.long t0), .second, .val (.long now1), .second, .val (.long now2), .second, .val (.long bb), .second, .val (.int flags), .val (.long lm), .second, .val (.int i1), .val (.int i2), .val (.int i3), .val (.long b1), .second, .val (.long b2), .second, .val (.long b3), .second, .val (.long now3), .second, .val (.int nv), .val (.ref b205), .val (.int r1), .val (.int r2), .val (.int r3), .unset, .unset, .unset, .unset, .unset, .unset, .unset, .unset, .unset, .unset] [(.int i1)])) _
        refine XS.ifNo X221.here hx rfl (hb hby at_189) rfl ((if0 _ _).trans (teq hc189).2) ?_
        show Steps p.tables e below (T221.setTop (mkF m 192 #[.val (.long limit), .second, .val (.long t0), .second, .val (.long now1), .second, .val (.long now2), .second, .val (.long bb), .second, .val (.int flags), .val (.long lm), .second, .val (.int i1), .val (.int i2), .val (.int i3), .val (.long b1), .second, .val (.long b2), .second, .val (.long b3), .second, .val (.long now3), .second, .val (.int nv), .val (.ref b205), .val (.int r1), .val (.int r2), .val (.int r3), .unset, .unset, .unset, .unset, .unset, .unset, .unset, .unset, .unset, .unset] [])) _
        refine XS.lload X221.here hx rfl (hb hby at_192) rfl ?_
        show Steps p.tables e below (T221.setTop (mkF m 194 #[.val (.long limit), .second, .val (.long t0), .second, .val (.long now1), .second, .val (.long now2), .second, .val (.long bb), .second, .val (.int flags), .val (.long lm), .second, .val (.int i1), .val (.int i2), .val (.int i3), .val (.long b1), .second, .val (.long b2), .second, .val (.long b3), .second, .val (.long now3), .second, .val (.int nv), .val (.ref b205), .val (.int r1), .val (.int r2), .val (.int r3), .unset, .unset, .unset, .unset, .unset, .unset, .unset, .unset, .unset, .unset] [(.long b1)])) _
        refine XS.lconst X221.here hx rfl (hb hby at_194) ?_
        show Steps p.tables e below (T221.setTop (mkF m 195 #[.val (.long limit), .second, .val (.long t0), .second, .val (.long now1), .second, .val (.long now2), .second, .val (.long bb), .second, .val (.int flags), .val (.long lm), .second, .val (.int i1), .val (.int i2), .val (.int i3), .val (.long b1), .second, .val (.long b2), .second, .val (.long b3), .second, .val (.long now3), .second, .val (.int nv), .val (.ref b205), .val (.int r1), .val (.int r2), .val (.int r3), .unset, .unset, .unset, .unset, .unset, .unset, .unset, .unset, .unset, .unset] [(.long (0 : Int64)), (.long b1)])) _
        refine XS.lcmp X221.here hx rfl (hb hby at_195) rfl ?_
        show Steps p.tables e below (T221.setTop (mkF m 196 #[.val (.long limit), .second, .val (.long t0), .second, .val (.long now1), .second, .val (.long now2), .second, .val (.long bb), .second, .val (.int flags), .val (.long lm), .second, .val (.int i1), .val (.int i2), .val (.int i3), .val (.long b1), .second, .val (.long b2), .second, .val (.long b3), .second, .val (.long now3), .second, .val (.int nv), .val (.ref b205), .val (.int r1), .val (.int r2), .val (.int r3), .unset, .unset, .unset, .unset, .unset, .unset, .unset, .unset, .unset, .unset] [(.int (lcmpW b1 (0 : Int64)))])) _
        refine XS.ifYes X221.here hx rfl (pc0 := 196) (pc' := 203) rfl (hb hby at_196) rfl ((if0 _ _).trans (teq ((lw_eq _ _).mpr hc196)).1) (by decide) (by decide) ?_
        show Steps p.tables e below (T221.setTop (mkF m 203 #[.val (.long limit), .second, .val (.long t0), .second, .val (.long now1), .second, .val (.long now2), .second, .val (.long bb), .second, .val (.int flags), .val (.long lm), .second, .val (.int i1), .val (.int i2), .val (.int i3), .val (.long b1), .second, .val (.long b2), .second, .val (.long b3), .second, .val (.long now3), .second, .val (.int nv), .val (.ref b205), .val (.int r1), .val (.int r2), .val (.int r3), .unset, .unset, .unset, .unset, .unset, .unset, .unset, .unset, .unset, .unset] [])) _
        refine XS.iconst X221.here hx rfl (hb hby at_203) ?_
        exact hk
      ·
        refine ⟨(1 : Int32), ((if_pos hc189).trans ((if_neg hc196).trans rfl)).symm, fun t hk => k224 t ?_⟩
        show Steps p.tables e below (T221.setTop (mkF m 189 #[.val (.long limit), .second, .val (.long t0), .second, .val (.long now1), .second, .val (.long now2), .second, .val (.long bb), .second, .val (.int flags), .val (.long lm), .second, .val (.int i1), .val (.int i2), .val (.int i3), .val (.long b1), .second, .val (.long b2), .second, .val (.long b3), .second, .val (.long now3), .second, .val (.int nv), .val (.ref b205), .val (.int r1), .val (.int r2), .val (.int r3), .unset, .unset, .unset, .unset, .unset, .unset, .unset, .unset, .unset, .unset] [(.int i1)])) _
        refine XS.ifNo X221.here hx rfl (hb hby at_189) rfl ((if0 _ _).trans (teq hc189).2) ?_
        show Steps p.tables e below (T221.setTop (mkF m 192 #[.val (.long limit), .second, .val (.long t0), .second, .val (.long now1), .second, .val (.long now2), .second, .val (.long bb), .second, .val (.int flags), .val (.long lm), .second, .val (.int i1), .val (.int i2), .val (.int i3), .val (.long b1), .second, .val (.long b2), .second, .val (.long b3), .second, .val (.long now3), .second, .val (.int nv), .val (.ref b205), .val (.int r1), .val (.int r2), .val (.int r3), .unset, .unset, .unset, .unset, .unset, .unset, .unset, .unset, .unset, .unset] [])) _
        refine XS.lload X221.here hx rfl (hb hby at_192) rfl ?_
        show Steps p.tables e below (T221.setTop (mkF m 194 #[.val (.long limit), .second, .val (.long t0), .second, .val (.long now1), .second, .val (.long now2), .second, .val (.long bb), .second, .val (.int flags), .val (.long lm), .second, .val (.int i1), .val (.int i2), .val (.int i3), .val (.long b1), .second, .val (.long b2), .second, .val (.long b3), .second, .val (.long now3), .second, .val (.int nv), .val (.ref b205), .val (.int r1), .val (.int r2), .val (.int r3), .unset, .unset, .unset, .unset, .unset, .unset, .unset, .unset, .unset, .unset] [(.long b1)])) _
        refine XS.lconst X221.here hx rfl (hb hby at_194) ?_
        show Steps p.tables e below (T221.setTop (mkF m 195 #[.val (.long limit), .second, .val (.long t0), .second, .val (.long now1), .second, .val (.long now2), .second, .val (.long bb), .second, .val (.int flags), .val (.long lm), .second, .val (.int i1), .val (.int i2), .val (.int i3), .val (.long b1), .second, .val (.long b2), .second, .val (.long b3), .second, .val (.long now3), .second, .val (.int nv), .val (.ref b205), .val (.int r1), .val (.int r2), .val (.int r3), .unset, .unset, .unset, .unset, .unset, .unset, .unset, .unset, .unset, .unset] [(.long (0 : Int64)), (.long b1)])) _
        refine XS.lcmp X221.here hx rfl (hb hby at_195) rfl ?_
        show Steps p.tables e below (T221.setTop (mkF m 196 #[.val (.long limit), .second, .val (.long t0), .second, .val (.long now1), .second, .val (.long now2), .second, .val (.long bb), .second, .val (.int flags), .val (.long lm), .second, .val (.int i1), .val (.int i2), .val (.int i3), .val (.long b1), .second, .val (.long b2), .second, .val (.long b3), .second, .val (.long now3), .second, .val (.int nv), .val (.ref b205), .val (.int r1), .val (.int r2), .val (.int r3), .unset, .unset, .unset, .unset, .unset, .unset, .unset, .unset, .unset, .unset] [(.int (lcmpW b1 (0 : Int64)))])) _
        refine XS.ifNo X221.here hx rfl (hb hby at_196) rfl ((if0 _ _).trans (feq (fun q => hc196 ((lw_eq _ _).mp q))).1) ?_
        show Steps p.tables e below (T221.setTop (mkF m 199 #[.val (.long limit), .second, .val (.long t0), .second, .val (.long now1), .second, .val (.long now2), .second, .val (.long bb), .second, .val (.int flags), .val (.long lm), .second, .val (.int i1), .val (.int i2), .val (.int i3), .val (.long b1), .second, .val (.long b2), .second, .val (.long b3), .second, .val (.long now3), .second, .val (.int nv), .val (.ref b205), .val (.int r1), .val (.int r2), .val (.int r3), .unset, .unset, .unset, .unset, .unset, .unset, .unset, .unset, .unset, .unset] [])) _
        refine XS.iconst X221.here hx rfl (hb hby at_199) ?_
        show Steps p.tables e below (T221.setTop (mkF m 200 #[.val (.long limit), .second, .val (.long t0), .second, .val (.long now1), .second, .val (.long now2), .second, .val (.long bb), .second, .val (.int flags), .val (.long lm), .second, .val (.int i1), .val (.int i2), .val (.int i3), .val (.long b1), .second, .val (.long b2), .second, .val (.long b3), .second, .val (.long now3), .second, .val (.int nv), .val (.ref b205), .val (.int r1), .val (.int r2), .val (.int r3), .unset, .unset, .unset, .unset, .unset, .unset, .unset, .unset, .unset, .unset] [(.int (1 : Int32))])) _
        refine XS.goto X221.here hx rfl (pc0 := 200) (pc' := 204) rfl (hb hby at_200) (by decide) (by decide) ?_
        exact hk
    ·
      refine ⟨(1 : Int32), ((if_neg hc189).trans rfl).symm, fun t hk => k224 t ?_⟩
      show Steps p.tables e below (T221.setTop (mkF m 189 #[.val (.long limit), .second, .val (.long t0), .second, .val (.long now1), .second, .val (.long now2), .second, .val (.long bb), .second, .val (.int flags), .val (.long lm), .second, .val (.int i1), .val (.int i2), .val (.int i3), .val (.long b1), .second, .val (.long b2), .second, .val (.long b3), .second, .val (.long now3), .second, .val (.int nv), .val (.ref b205), .val (.int r1), .val (.int r2), .val (.int r3), .unset, .unset, .unset, .unset, .unset, .unset, .unset, .unset, .unset, .unset] [(.int i1)])) _
      refine XS.ifYes X221.here hx rfl (pc0 := 189) (pc' := 199) rfl (hb hby at_189) rfl ((if0 _ _).trans (feq hc189).2) (by decide) (by decide) ?_
      show Steps p.tables e below (T221.setTop (mkF m 199 #[.val (.long limit), .second, .val (.long t0), .second, .val (.long now1), .second, .val (.long now2), .second, .val (.long bb), .second, .val (.int flags), .val (.long lm), .second, .val (.int i1), .val (.int i2), .val (.int i3), .val (.long b1), .second, .val (.long b2), .second, .val (.long b3), .second, .val (.long now3), .second, .val (.int nv), .val (.ref b205), .val (.int r1), .val (.int r2), .val (.int r3), .unset, .unset, .unset, .unset, .unset, .unset, .unset, .unset, .unset, .unset] [])) _
      refine XS.iconst X221.here hx rfl (hb hby at_199) ?_
      show Steps p.tables e below (T221.setTop (mkF m 200 #[.val (.long limit), .second, .val (.long t0), .second, .val (.long now1), .second, .val (.long now2), .second, .val (.long bb), .second, .val (.int flags), .val (.long lm), .second, .val (.int i1), .val (.int i2), .val (.int i3), .val (.long b1), .second, .val (.long b2), .second, .val (.long b3), .second, .val (.long now3), .second, .val (.int nv), .val (.ref b205), .val (.int r1), .val (.int r2), .val (.int r3), .unset, .unset, .unset, .unset, .unset, .unset, .unset, .unset, .unset, .unset] [(.int (1 : Int32))])) _
      refine XS.goto X221.here hx rfl (pc0 := 200) (pc' := 204) rfl (hb hby at_200) (by decide) (by decide) ?_
      exact hk
  have k226 : ∀ t, Steps p.tables e below (T221.setTop (mkF m 208 #[.val (.long limit), .second, .val (.long t0), .second, .val (.long now1), .second, .val (.long now2), .second, .val (.long bb), .second, .val (.int flags), .val (.long lm), .second, .val (.int i1), .val (.int i2), .val (.int i3), .val (.long b1), .second, .val (.long b2), .second, .val (.long b3), .second, .val (.long now3), .second, .val (.int nv), .val (.ref b205), .val (.int r1), .val (.int r2), .val (.int r3), .val (.int u1), .unset, .unset, .unset, .unset, .unset, .unset, .unset, .unset, .unset] [(.int u1)])) t → Steps p.tables e below (s₁.setTop (entryFrame m #[(.long limit), (.long t0), (.long now1), (.long now2), (.long bb), (.int flags)] maxLocals)) t := fun t hk => k225 t (by
    show Steps p.tables e below (T221.setTop (mkF m 204 #[.val (.long limit), .second, .val (.long t0), .second, .val (.long now1), .second, .val (.long now2), .second, .val (.long bb), .second, .val (.int flags), .val (.long lm), .second, .val (.int i1), .val (.int i2), .val (.int i3), .val (.long b1), .second, .val (.long b2), .second, .val (.long b3), .second, .val (.long now3), .second, .val (.int nv), .val (.ref b205), .val (.int r1), .val (.int r2), .val (.int r3), .unset, .unset, .unset, .unset, .unset, .unset, .unset, .unset, .unset, .unset] [(.int u1)])) _
    refine XS.istore X221.here hx rfl (hb hby at_204) rfl (l' := #[.val (.long limit), .second, .val (.long t0), .second, .val (.long now1), .second, .val (.long now2), .second, .val (.long bb), .second, .val (.int flags), .val (.long lm), .second, .val (.int i1), .val (.int i2), .val (.int i3), .val (.long b1), .second, .val (.long b2), .second, .val (.long b3), .second, .val (.long now3), .second, .val (.int nv), .val (.ref b205), .val (.int r1), .val (.int r2), .val (.int r3), .val (.int u1), .unset, .unset, .unset, .unset, .unset, .unset, .unset, .unset, .unset]) rfl ?_
    show Steps p.tables e below (T221.setTop (mkF m 206 #[.val (.long limit), .second, .val (.long t0), .second, .val (.long now1), .second, .val (.long now2), .second, .val (.long bb), .second, .val (.int flags), .val (.long lm), .second, .val (.int i1), .val (.int i2), .val (.int i3), .val (.long b1), .second, .val (.long b2), .second, .val (.long b3), .second, .val (.long now3), .second, .val (.int nv), .val (.ref b205), .val (.int r1), .val (.int r2), .val (.int r3), .val (.int u1), .unset, .unset, .unset, .unset, .unset, .unset, .unset, .unset, .unset] [])) _
    refine XS.iload X221.here hx rfl (hb hby at_206) rfl ?_
    exact hk)
  obtain ⟨z1, hz1, k227⟩ : ∃ (z1 : Int64), (z1 = (if u1 = (0 : Int32) then t0 else now1)) ∧ ∀ t, Steps p.tables e below (T221.setTop (mkF m 217 #[.val (.long limit), .second, .val (.long t0), .second, .val (.long now1), .second, .val (.long now2), .second, .val (.long bb), .second, .val (.int flags), .val (.long lm), .second, .val (.int i1), .val (.int i2), .val (.int i3), .val (.long b1), .second, .val (.long b2), .second, .val (.long b3), .second, .val (.long now3), .second, .val (.int nv), .val (.ref b205), .val (.int r1), .val (.int r2), .val (.int r3), .val (.int u1), .unset, .unset, .unset, .unset, .unset, .unset, .unset, .unset, .unset] [(.long z1)])) t → Steps p.tables e below (s₁.setTop (entryFrame m #[(.long limit), (.long t0), (.long now1), (.long now2), (.long bb), (.int flags)] maxLocals)) t := by
    by_cases hc208 : u1 = (0 : Int32)
    ·
      refine ⟨t0, ((if_pos hc208).trans rfl).symm, fun t hk => k226 t ?_⟩
      show Steps p.tables e below (T221.setTop (mkF m 208 #[.val (.long limit), .second, .val (.long t0), .second, .val (.long now1), .second, .val (.long now2), .second, .val (.long bb), .second, .val (.int flags), .val (.long lm), .second, .val (.int i1), .val (.int i2), .val (.int i3), .val (.long b1), .second, .val (.long b2), .second, .val (.long b3), .second, .val (.long now3), .second, .val (.int nv), .val (.ref b205), .val (.int r1), .val (.int r2), .val (.int r3), .val (.int u1), .unset, .unset, .unset, .unset, .unset, .unset, .unset, .unset, .unset] [(.int u1)])) _
      refine XS.ifYes X221.here hx rfl (pc0 := 208) (pc' := 216) rfl (hb hby at_208) rfl ((if0 _ _).trans (teq hc208).1) (by decide) (by decide) ?_
      show Steps p.tables e below (T221.setTop (mkF m 216 #[.val (.long limit), .second, .val (.long t0), .second, .val (.long now1), .second, .val (.long now2), .second, .val (.long bb), .second, .val (.int flags), .val (.long lm), .second, .val (.int i1), .val (.int i2), .val (.int i3), .val (.long b1), .second, .val (.long b2), .second, .val (.long b3), .second, .val (.long now3), .second, .val (.int nv), .val (.ref b205), .val (.int r1), .val (.int r2), .val (.int r3), .val (.int u1), .unset, .unset, .unset, .unset, .unset, .unset, .unset, .unset, .unset] [])) _
      refine XS.lloadN X221.here hx rfl (hb hby at_216) rfl ?_
      exact hk
    ·
      refine ⟨now1, ((if_neg hc208).trans rfl).symm, fun t hk => k226 t ?_⟩
      show Steps p.tables e below (T221.setTop (mkF m 208 #[.val (.long limit), .second, .val (.long t0), .second, .val (.long now1), .second, .val (.long now2), .second, .val (.long bb), .second, .val (.int flags), .val (.long lm), .second, .val (.int i1), .val (.int i2), .val (.int i3), .val (.long b1), .second, .val (.long b2), .second, .val (.long b3), .second, .val (.long now3), .second, .val (.int nv), .val (.ref b205), .val (.int r1), .val (.int r2), .val (.int r3), .val (.int u1), .unset, .unset, .unset, .unset, .unset, .unset, .unset, .unset, .unset] [(.int u1)])) _
      refine XS.ifNo X221.here hx rfl (hb hby at_208) rfl ((if0 _ _).trans (feq hc208).1) ?_
      show Steps p.tables e below (T221.setTop (mkF m 211 #[.val (.long limit), .second, .val (.long t0), .second, .val (.long now1), .second, .val (.long now2), .second, .val (.long bb), .second, .val (.int flags), .val (.long lm), .second, .val (.int i1), .val (.int i2), .val (.int i3), .val (.long b1), .second, .val (.long b2), .second, .val (.long b3), .second, .val (.long now3), .second, .val (.int nv), .val (.ref b205), .val (.int r1), .val (.int r2), .val (.int r3), .val (.int u1), .unset, .unset, .unset, .unset, .unset, .unset, .unset, .unset, .unset] [])) _
      refine XS.lload X221.here hx rfl (hb hby at_211) rfl ?_
      show Steps p.tables e below (T221.setTop (mkF m 213 #[.val (.long limit), .second, .val (.long t0), .second, .val (.long now1), .second, .val (.long now2), .second, .val (.long bb), .second, .val (.int flags), .val (.long lm), .second, .val (.int i1), .val (.int i2), .val (.int i3), .val (.long b1), .second, .val (.long b2), .second, .val (.long b3), .second, .val (.long now3), .second, .val (.int nv), .val (.ref b205), .val (.int r1), .val (.int r2), .val (.int r3), .val (.int u1), .unset, .unset, .unset, .unset, .unset, .unset, .unset, .unset, .unset] [(.long now1)])) _
      refine XS.goto X221.here hx rfl (pc0 := 213) (pc' := 217) rfl (hb hby at_213) (by decide) (by decide) ?_
      exact hk
  have k228 : ∀ t, Steps p.tables e below (T221.setTop (mkF m 221 #[.val (.long limit), .second, .val (.long t0), .second, .val (.long now1), .second, .val (.long now2), .second, .val (.long bb), .second, .val (.int flags), .val (.long lm), .second, .val (.int i1), .val (.int i2), .val (.int i3), .val (.long b1), .second, .val (.long b2), .second, .val (.long b3), .second, .val (.long now3), .second, .val (.int nv), .val (.ref b205), .val (.int r1), .val (.int r2), .val (.int r3), .val (.int u1), .val (.long z1), .second, .unset, .unset, .unset, .unset, .unset, .unset, .unset] [(.int u1)])) t → Steps p.tables e below (s₁.setTop (entryFrame m #[(.long limit), (.long t0), (.long now1), (.long now2), (.long bb), (.int flags)] maxLocals)) t := fun t hk => k227 t (by
    show Steps p.tables e below (T221.setTop (mkF m 217 #[.val (.long limit), .second, .val (.long t0), .second, .val (.long now1), .second, .val (.long now2), .second, .val (.long bb), .second, .val (.int flags), .val (.long lm), .second, .val (.int i1), .val (.int i2), .val (.int i3), .val (.long b1), .second, .val (.long b2), .second, .val (.long b3), .second, .val (.long now3), .second, .val (.int nv), .val (.ref b205), .val (.int r1), .val (.int r2), .val (.int r3), .val (.int u1), .unset, .unset, .unset, .unset, .unset, .unset, .unset, .unset, .unset] [(.long z1)])) _
    refine XS.lstore X221.here hx rfl (hb hby at_217) rfl (l' := #[.val (.long limit), .second, .val (.long t0), .second, .val (.long now1), .second, .val (.long now2), .second, .val (.long bb), .second, .val (.int flags), .val (.long lm), .second, .val (.int i1), .val (.int i2), .val (.int i3), .val (.long b1), .second, .val (.long b2), .second, .val (.long b3), .second, .val (.long now3), .second, .val (.int nv), .val (.ref b205), .val (.int r1), .val (.int r2), .val (.int r3), .val (.int u1), .val (.long z1), .second, .unset, .unset, .unset, .unset, .unset, .unset, .unset]) rfl ?_
    show Steps p.tables e below (T221.setTop (mkF m 219 #[.val (.long limit), .second, .val (.long t0), .second, .val (.long now1), .second, .val (.long now2), .second, .val (.long bb), .second, .val (.int flags), .val (.long lm), .second, .val (.int i1), .val (.int i2), .val (.int i3), .val (.long b1), .second, .val (.long b2), .second, .val (.long b3), .second, .val (.long now3), .second, .val (.int nv), .val (.ref b205), .val (.int r1), .val (.int r2), .val (.int r3), .val (.int u1), .val (.long z1), .second, .unset, .unset, .unset, .unset, .unset, .unset, .unset] [])) _
    refine XS.iload X221.here hx rfl (hb hby at_219) rfl ?_
    exact hk)
  obtain ⟨e1, he1, k229⟩ : ∃ (e1 : Int32), (e1 = (if u1 = (0 : Int32) then (if nv = (0 : Int32) then (if (now1 - t0) < lm then (0 : Int32) else (1 : Int32)) else (0 : Int32)) else (0 : Int32))) ∧ ∀ t, Steps p.tables e below (T221.setTop (mkF m 244 #[.val (.long limit), .second, .val (.long t0), .second, .val (.long now1), .second, .val (.long now2), .second, .val (.long bb), .second, .val (.int flags), .val (.long lm), .second, .val (.int i1), .val (.int i2), .val (.int i3), .val (.long b1), .second, .val (.long b2), .second, .val (.long b3), .second, .val (.long now3), .second, .val (.int nv), .val (.ref b205), .val (.int r1), .val (.int r2), .val (.int r3), .val (.int u1), .val (.long z1), .second, .unset, .unset, .unset, .unset, .unset, .unset, .unset] [(.int e1)])) t → Steps p.tables e below (s₁.setTop (entryFrame m #[(.long limit), (.long t0), (.long now1), (.long now2), (.long bb), (.int flags)] maxLocals)) t := by
    by_cases hc221 : u1 = (0 : Int32)
    ·
      by_cases hc226 : nv = (0 : Int32)
      ·
        by_cases hc236 : (now1 - t0) < lm
        ·
          refine ⟨(0 : Int32), ((if_pos hc221).trans ((if_pos hc226).trans ((if_pos hc236).trans rfl))).symm, fun t hk => k228 t ?_⟩
          show Steps p.tables e below (T221.setTop (mkF m 221 #[.val (.long limit), .second, .val (.long t0), .second, .val (.long now1), .second, .val (.long now2), .second, .val (.long bb), .second, .val (.int flags), .val (.long lm), .second, .val (.int i1), .val (.int i2), .val (.int i3), .val (.long b1), .second, .val (.long b2), .second, .val (.long b3), .second, .val (.long now3), .second, .val (.int nv), .val (.ref b205), .val (.int r1), .val (.int r2), .val (.int r3), .val (.int u1), .val (.long z1), .second, .unset, .unset, .unset, .unset, .unset, .unset, .unset] [(.int u1)])) _
          refine XS.ifNo X221.here hx rfl (hb hby at_221) rfl ((if0 _ _).trans (teq hc221).2) ?_
          show Steps p.tables e below (T221.setTop (mkF m 224 #[.val (.long limit), .second, .val (.long t0), .second, .val (.long now1), .second, .val (.long now2), .second, .val (.long bb), .second, .val (.int flags), .val (.long lm), .second, .val (.int i1), .val (.int i2), .val (.int i3), .val (.long b1), .second, .val (.long b2), .second, .val (.long b3), .second, .val (.long now3), .second, .val (.int nv), .val (.ref b205), .val (.int r1), .val (.int r2), .val (.int r3), .val (.int u1), .val (.long z1), .second, .unset, .unset, .unset, .unset, .unset, .unset, .unset] [])) _
          refine XS.iload X221.here hx rfl (hb hby at_224) rfl ?_
          show Steps p.tables e below (T221.setTop (mkF m 226 #[.val (.long limit), .second, .val (.long t0), .second, .val (.long now1), .second, .val (.long now2), .second, .val (.long bb), .second, .val (.int flags), .val (.long lm), .second, .val (.int i1), .val (.int i2), .val (.int i3), .val (.long b1), .second, .val (.long b2), .second, .val (.long b3), .second, .val (.long now3), .second, .val (.int nv), .val (.ref b205), .val (.int r1), .val (.int r2), .val (.int r3), .val (.int u1), .val (.long z1), .second, .unset, .unset, .unset, .unset, .unset, .unset, .unset] [(.int nv)])) _
          refine XS.ifNo X221.here hx rfl (hb hby at_226) rfl ((if0 _ _).trans (teq hc226).2) ?_
          show Steps p.tables e below (T221.setTop (mkF m 229 #[.val (.long limit), .second, .val (.long t0), .second, .val (.long now1), .second, .val (.long now2), .second, .val (.long bb), .second, .val (.int flags), .val (.long lm), .second, .val (.int i1), .val (.int i2), .val (.int i3), .val (.long b1), .second, .val (.long b2), .second, .val (.long b3), .second, .val (.long now3), .second, .val (.int nv), .val (.ref b205), .val (.int r1), .val (.int r2), .val (.int r3), .val (.int u1), .val (.long z1), .second, .unset, .unset, .unset, .unset, .unset, .unset, .unset] [])) _
          refine XS.lload X221.here hx rfl (hb hby at_229) rfl ?_
          show Steps p.tables e below (T221.setTop (mkF m 231 #[.val (.long limit), .second, .val (.long t0), .second, .val (.long now1), .second, .val (.long now2), .second, .val (.long bb), .second, .val (.int flags), .val (.long lm), .second, .val (.int i1), .val (.int i2), .val (.int i3), .val (.long b1), .second, .val (.long b2), .second, .val (.long b3), .second, .val (.long now3), .second, .val (.int nv), .val (.ref b205), .val (.int r1), .val (.int r2), .val (.int r3), .val (.int u1), .val (.long z1), .second, .unset, .unset, .unset, .unset, .unset, .unset, .unset] [(.long now1)])) _
          refine XS.lloadN X221.here hx rfl (hb hby at_231) rfl ?_
          show Steps p.tables e below (T221.setTop (mkF m 232 #[.val (.long limit), .second, .val (.long t0), .second, .val (.long now1), .second, .val (.long now2), .second, .val (.long bb), .second, .val (.int flags), .val (.long lm), .second, .val (.int i1), .val (.int i2), .val (.int i3), .val (.long b1), .second, .val (.long b2), .second, .val (.long b3), .second, .val (.long now3), .second, .val (.int nv), .val (.ref b205), .val (.int r1), .val (.int r2), .val (.int r3), .val (.int u1), .val (.long z1), .second, .unset, .unset, .unset, .unset, .unset, .unset, .unset] [(.long t0), (.long now1)])) _
          refine XS.lsub X221.here hx rfl (hb hby at_232) rfl ?_
          show Steps p.tables e below (T221.setTop (mkF m 233 #[.val (.long limit), .second, .val (.long t0), .second, .val (.long now1), .second, .val (.long now2), .second, .val (.long bb), .second, .val (.int flags), .val (.long lm), .second, .val (.int i1), .val (.int i2), .val (.int i3), .val (.long b1), .second, .val (.long b2), .second, .val (.long b3), .second, .val (.long now3), .second, .val (.int nv), .val (.ref b205), .val (.int r1), .val (.int r2), .val (.int r3), .val (.int u1), .val (.long z1), .second, .unset, .unset, .unset, .unset, .unset, .unset, .unset] [(.long (now1 - t0))])) _
          refine XS.lload X221.here hx rfl (hb hby at_233) rfl ?_
          show Steps p.tables e below (T221.setTop (mkF m 235 #[.val (.long limit), .second, .val (.long t0), .second, .val (.long now1), .second, .val (.long now2), .second, .val (.long bb), .second, .val (.int flags), .val (.long lm), .second, .val (.int i1), .val (.int i2), .val (.int i3), .val (.long b1), .second, .val (.long b2), .second, .val (.long b3), .second, .val (.long now3), .second, .val (.int nv), .val (.ref b205), .val (.int r1), .val (.int r2), .val (.int r3), .val (.int u1), .val (.long z1), .second, .unset, .unset, .unset, .unset, .unset, .unset, .unset] [(.long lm), (.long (now1 - t0))])) _
          refine XS.lcmp X221.here hx rfl (hb hby at_235) rfl ?_
          show Steps p.tables e below (T221.setTop (mkF m 236 #[.val (.long limit), .second, .val (.long t0), .second, .val (.long now1), .second, .val (.long now2), .second, .val (.long bb), .second, .val (.int flags), .val (.long lm), .second, .val (.int i1), .val (.int i2), .val (.int i3), .val (.long b1), .second, .val (.long b2), .second, .val (.long b3), .second, .val (.long now3), .second, .val (.int nv), .val (.ref b205), .val (.int r1), .val (.int r2), .val (.int r3), .val (.int u1), .val (.long z1), .second, .unset, .unset, .unset, .unset, .unset, .unset, .unset] [(.int (lcmpW (now1 - t0) lm))])) _
          refine XS.ifYes X221.here hx rfl (pc0 := 236) (pc' := 243) rfl (hb hby at_236) rfl ((if0 _ _).trans (tlt ((lw_lt _ _).mpr hc236)).1) (by decide) (by decide) ?_
          show Steps p.tables e below (T221.setTop (mkF m 243 #[.val (.long limit), .second, .val (.long t0), .second, .val (.long now1), .second, .val (.long now2), .second, .val (.long bb), .second, .val (.int flags), .val (.long lm), .second, .val (.int i1), .val (.int i2), .val (.int i3), .val (.long b1), .second, .val (.long b2), .second, .val (.long b3), .second, .val (.long now3), .second, .val (.int nv), .val (.ref b205), .val (.int r1), .val (.int r2), .val (.int r3), .val (.int u1), .val (.long z1), .second, .unset, .unset, .unset, .unset, .unset, .unset, .unset] [])) _
          refine XS.iconst X221.here hx rfl (hb hby at_243) ?_
          exact hk
        ·
          refine ⟨(1 : Int32), ((if_pos hc221).trans ((if_pos hc226).trans ((if_neg hc236).trans rfl))).symm, fun t hk => k228 t ?_⟩
          show Steps p.tables e below (T221.setTop (mkF m 221 #[.val (.long limit), .second, .val (.long t0), .second, .val (.long now1), .second, .val (.long now2), .second, .val (.long bb), .second, .val (.int flags), .val (.long lm), .second, .val (.int i1), .val (.int i2), .val (.int i3), .val (.long b1), .second, .val (.long b2), .second, .val (.long b3), .second, .val (.long now3), .second, .val (.int nv), .val (.ref b205), .val (.int r1), .val (.int r2), .val (.int r3), .val (.int u1), .val (.long z1), .second, .unset, .unset, .unset, .unset, .unset, .unset, .unset] [(.int u1)])) _
          refine XS.ifNo X221.here hx rfl (hb hby at_221) rfl ((if0 _ _).trans (teq hc221).2) ?_
          show Steps p.tables e below (T221.setTop (mkF m 224 #[.val (.long limit), .second, .val (.long t0), .second, .val (.long now1), .second, .val (.long now2), .second, .val (.long bb), .second, .val (.int flags), .val (.long lm), .second, .val (.int i1), .val (.int i2), .val (.int i3), .val (.long b1), .second, .val (.long b2), .second, .val (.long b3), .second, .val (.long now3), .second, .val (.int nv), .val (.ref b205), .val (.int r1), .val (.int r2), .val (.int r3), .val (.int u1), .val (.long z1), .second, .unset, .unset, .unset, .unset, .unset, .unset, .unset] [])) _
          refine XS.iload X221.here hx rfl (hb hby at_224) rfl ?_
          show Steps p.tables e below (T221.setTop (mkF m 226 #[.val (.long limit), .second, .val (.long t0), .second, .val (.long now1), .second, .val (.long now2), .second, .val (.long bb), .second, .val (.int flags), .val (.long lm), .second, .val (.int i1), .val (.int i2), .val (.int i3), .val (.long b1), .second, .val (.long b2), .second, .val (.long b3), .second, .val (.long now3), .second, .val (.int nv), .val (.ref b205), .val (.int r1), .val (.int r2), .val (.int r3), .val (.int u1), .val (.long z1), .second, .unset, .unset, .unset, .unset, .unset, .unset, .unset] [(.int nv)])) _
          refine XS.ifNo X221.here hx rfl (hb hby at_226) rfl ((if0 _ _).trans (teq hc226).2) ?_
          show Steps p.tables e below (T221.setTop (mkF m 229 #[.val (.long limit), .second, .val (.long t0), .second, .val (.long now1), .second, .val (.long now2), .second, .val (.long bb), .second, .val (.int flags), .val (.long lm), .second, .val (.int i1), .val (.int i2), .val (.int i3), .val (.long b1), .second, .val (.long b2), .second, .val (.long b3), .second, .val (.long now3), .second, .val (.int nv), .val (.ref b205), .val (.int r1), .val (.int r2), .val (.int r3), .val (.int u1), .val (.long z1), .second, .unset, .unset, .unset, .unset, .unset, .unset, .unset] [])) _
          refine XS.lload X221.here hx rfl (hb hby at_229) rfl ?_
          show Steps p.tables e below (T221.setTop (mkF m 231 #[.val (.long limit), .second, .val (.long t0), .second, .val (.long now1), .second, .val (.long now2), .second, .val (.long bb), .second, .val (.int flags), .val (.long lm), .second, .val (.int i1), .val (.int i2), .val (.int i3), .val (.long b1), .second, .val (.long b2), .second, .val (.long b3), .second, .val (.long now3), .second, .val (.int nv), .val (.ref b205), .val (.int r1), .val (.int r2), .val (.int r3), .val (.int u1), .val (.long z1), .second, .unset, .unset, .unset, .unset, .unset, .unset, .unset] [(.long now1)])) _
          refine XS.lloadN X221.here hx rfl (hb hby at_231) rfl ?_
          show Steps p.tables e below (T221.setTop (mkF m 232 #[.val (.long limit), .second, .val (.long t0), .second, .val (.long now1), .second, .val (.long now2), .second, .val (.long bb), .second, .val (.int flags), .val (.long lm), .second, .val (.int i1), .val (.int i2), .val (.int i3), .val (.long b1), .second, .val (.long b2), .second, .val (.long b3), .second, .val (.long now3), .second, .val (.int nv), .val (.ref b205), .val (.int r1), .val (.int r2), .val (.int r3), .val (.int u1), .val (.long z1), .second, .unset, .unset, .unset, .unset, .unset, .unset, .unset] [(.long t0), (.long now1)])) _
          refine XS.lsub X221.here hx rfl (hb hby at_232) rfl ?_
          show Steps p.tables e below (T221.setTop (mkF m 233 #[.val (.long limit), .second, .val (.long t0), .second, .val (.long now1), .second, .val (.long now2), .second, .val (.long bb), .second, .val (.int flags), .val (.long lm), .second, .val (.int i1), .val (.int i2), .val (.int i3), .val (.long b1), .second, .val (.long b2), .second, .val (.long b3), .second, .val (.long now3), .second, .val (.int nv), .val (.ref b205), .val (.int r1), .val (.int r2), .val (.int r3), .val (.int u1), .val (.long z1), .second, .unset, .unset, .unset, .unset, .unset, .unset, .unset] [(.long (now1 - t0))])) _
          refine XS.lload X221.here hx rfl (hb hby at_233) rfl ?_
          show Steps p.tables e below (T221.setTop (mkF m 235 #[.val (.long limit), .second, .val (.long t0), .second, .val (.long now1), .second, .val (.long now2), .second, .val (.long bb), .second, .val (.int flags), .val (.long lm), .second, .val (.int i1), .val (.int i2), .val (.int i3), .val (.long b1), .second, .val (.long b2), .second, .val (.long b3), .second, .val (.long now3), .second, .val (.int nv), .val (.ref b205), .val (.int r1), .val (.int r2), .val (.int r3), .val (.int u1), .val (.long z1), .second, .unset, .unset, .unset, .unset, .unset, .unset, .unset] [(.long lm), (.long (now1 - t0))])) _
          refine XS.lcmp X221.here hx rfl (hb hby at_235) rfl ?_
          show Steps p.tables e below (T221.setTop (mkF m 236 #[.val (.long limit), .second, .val (.long t0), .second, .val (.long now1), .second, .val (.long now2), .second, .val (.long bb), .second, .val (.int flags), .val (.long lm), .second, .val (.int i1), .val (.int i2), .val (.int i3), .val (.long b1), .second, .val (.long b2), .second, .val (.long b3), .second, .val (.long now3), .second, .val (.int nv), .val (.ref b205), .val (.int r1), .val (.int r2), .val (.int r3), .val (.int u1), .val (.long z1), .second, .unset, .unset, .unset, .unset, .unset, .unset, .unset] [(.int (lcmpW (now1 - t0) lm))])) _
          refine XS.ifNo X221.here hx rfl (hb hby at_236) rfl ((if0 _ _).trans (flt (fun q => hc236 ((lw_lt _ _).mp q))).1) ?_
          show Steps p.tables e below (T221.setTop (mkF m 239 #[.val (.long limit), .second, .val (.long t0), .second, .val (.long now1), .second, .val (.long now2), .second, .val (.long bb), .second, .val (.int flags), .val (.long lm), .second, .val (.int i1), .val (.int i2), .val (.int i3), .val (.long b1), .second, .val (.long b2), .second, .val (.long b3), .second, .val (.long now3), .second, .val (.int nv), .val (.ref b205), .val (.int r1), .val (.int r2), .val (.int r3), .val (.int u1), .val (.long z1), .second, .unset, .unset, .unset, .unset, .unset, .unset, .unset] [])) _
          refine XS.iconst X221.here hx rfl (hb hby at_239) ?_
          show Steps p.tables e below (T221.setTop (mkF m 240 #[.val (.long limit), .second, .val (.long t0), .second, .val (.long now1), .second, .val (.long now2), .second, .val (.long bb), .second, .val (.int flags), .val (.long lm), .second, .val (.int i1), .val (.int i2), .val (.int i3), .val (.long b1), .second, .val (.long b2), .second, .val (.long b3), .second, .val (.long now3), .second, .val (.int nv), .val (.ref b205), .val (.int r1), .val (.int r2), .val (.int r3), .val (.int u1), .val (.long z1), .second, .unset, .unset, .unset, .unset, .unset, .unset, .unset] [(.int (1 : Int32))])) _
          refine XS.goto X221.here hx rfl (pc0 := 240) (pc' := 244) rfl (hb hby at_240) (by decide) (by decide) ?_
          exact hk
      ·
        refine ⟨(0 : Int32), ((if_pos hc221).trans ((if_neg hc226).trans rfl)).symm, fun t hk => k228 t ?_⟩
        show Steps p.tables e below (T221.setTop (mkF m 221 #[.val (.long limit), .second, .val (.long t0), .second, .val (.long now1), .second, .val (.long now2), .second, .val (.long bb), .second, .val (.int flags), .val (.long lm), .second, .val (.int i1), .val (.int i2), .val (.int i3), .val (.long b1), .second, .val (.long b2), .second, .val (.long b3), .second, .val (.long now3), .second, .val (.int nv), .val (.ref b205), .val (.int r1), .val (.int r2), .val (.int r3), .val (.int u1), .val (.long z1), .second, .unset, .unset, .unset, .unset, .unset, .unset, .unset] [(.int u1)])) _
        refine XS.ifNo X221.here hx rfl (hb hby at_221) rfl ((if0 _ _).trans (teq hc221).2) ?_
        show Steps p.tables e below (T221.setTop (mkF m 224 #[.val (.long limit), .second, .val (.long t0), .second, .val (.long now1), .second, .val (.long now2), .second, .val (.long bb), .second, .val (.int flags), .val (.long lm), .second, .val (.int i1), .val (.int i2), .val (.int i3), .val (.long b1), .second, .val (.long b2), .second, .val (.long b3), .second, .val (.long now3), .second, .val (.int nv), .val (.ref b205), .val (.int r1), .val (.int r2), .val (.int r3), .val (.int u1), .val (.long z1), .second, .unset, .unset, .unset, .unset, .unset, .unset, .unset] [])) _
        refine XS.iload X221.here hx rfl (hb hby at_224) rfl ?_
        show Steps p.tables e below (T221.setTop (mkF m 226 #[.val (.long limit), .second, .val (.long t0), .second, .val (.long now1), .second, .val (.long now2), .second, .val (.long bb), .second, .val (.int flags), .val (.long lm), .second, .val (.int i1), .val (.int i2), .val (.int i3), .val (.long b1), .second, .val (.long b2), .second, .val (.long b3), .second, .val (.long now3), .second, .val (.int nv), .val (.ref b205), .val (.int r1), .val (.int r2), .val (.int r3), .val (.int u1), .val (.long z1), .second, .unset, .unset, .unset, .unset, .unset, .unset, .unset] [(.int nv)])) _
        refine XS.ifYes X221.here hx rfl (pc0 := 226) (pc' := 243) rfl (hb hby at_226) rfl ((if0 _ _).trans (feq hc226).2) (by decide) (by decide) ?_
        show Steps p.tables e below (T221.setTop (mkF m 243 #[.val (.long limit), .second, .val (.long t0), .second, .val (.long now1), .second, .val (.long now2), .second, .val (.long bb), .second, .val (.int flags), .val (.long lm), .second, .val (.int i1), .val (.int i2), .val (.int i3), .val (.long b1), .second, .val (.long b2), .second, .val (.long b3), .second, .val (.long now3), .second, .val (.int nv), .val (.ref b205), .val (.int r1), .val (.int r2), .val (.int r3), .val (.int u1), .val (.long z1), .second, .unset, .unset, .unset, .unset, .unset, .unset, .unset] [])) _
        refine XS.iconst X221.here hx rfl (hb hby at_243) ?_
        exact hk
    ·
      refine ⟨(0 : Int32), ((if_neg hc221).trans rfl).symm, fun t hk => k228 t ?_⟩
      show Steps p.tables e below (T221.setTop (mkF m 221 #[.val (.long limit), .second, .val (.long t0), .second, .val (.long now1), .second, .val (.long now2), .second, .val (.long bb), .second, .val (.int flags), .val (.long lm), .second, .val (.int i1), .val (.int i2), .val (.int i3), .val (.long b1), .second, .val (.long b2), .second, .val (.long b3), .second, .val (.long now3), .second, .val (.int nv), .val (.ref b205), .val (.int r1), .val (.int r2), .val (.int r3), .val (.int u1), .val (.long z1), .second, .unset, .unset, .unset, .unset, .unset, .unset, .unset] [(.int u1)])) _
      refine XS.ifYes X221.here hx rfl (pc0 := 221) (pc' := 243) rfl (hb hby at_221) rfl ((if0 _ _).trans (feq hc221).2) (by decide) (by decide) ?_
      show Steps p.tables e below (T221.setTop (mkF m 243 #[.val (.long limit), .second, .val (.long t0), .second, .val (.long now1), .second, .val (.long now2), .second, .val (.long bb), .second, .val (.int flags), .val (.long lm), .second, .val (.int i1), .val (.int i2), .val (.int i3), .val (.long b1), .second, .val (.long b2), .second, .val (.long b3), .second, .val (.long now3), .second, .val (.int nv), .val (.ref b205), .val (.int r1), .val (.int r2), .val (.int r3), .val (.int u1), .val (.long z1), .second, .unset, .unset, .unset, .unset, .unset, .unset, .unset] [])) _
      refine XS.iconst X221.here hx rfl (hb hby at_243) ?_
      exact hk
  have k230 : ∀ t, Steps p.tables e below (T221.setTop (mkF m 248 #[.val (.long limit), .second, .val (.long t0), .second, .val (.long now1), .second, .val (.long now2), .second, .val (.long bb), .second, .val (.int flags), .val (.long lm), .second, .val (.int i1), .val (.int i2), .val (.int i3), .val (.long b1), .second, .val (.long b2), .second, .val (.long b3), .second, .val (.long now3), .second, .val (.int nv), .val (.ref b205), .val (.int r1), .val (.int r2), .val (.int r3), .val (.int u1), .val (.long z1), .second, .val (.int e1), .unset, .unset, .unset, .unset, .unset, .unset] [(.int i2)])) t → Steps p.tables e below (s₁.setTop (entryFrame m #[(.long limit), (.long t0), (.long now1), (.long now2), (.long bb), (.int flags)] maxLocals)) t := fun t hk => k229 t (by
    show Steps p.tables e below (T221.setTop (mkF m 244 #[.val (.long limit), .second, .val (.long t0), .second, .val (.long now1), .second, .val (.long now2), .second, .val (.long bb), .second, .val (.int flags), .val (.long lm), .second, .val (.int i1), .val (.int i2), .val (.int i3), .val (.long b1), .second, .val (.long b2), .second, .val (.long b3), .second, .val (.long now3), .second, .val (.int nv), .val (.ref b205), .val (.int r1), .val (.int r2), .val (.int r3), .val (.int u1), .val (.long z1), .second, .unset, .unset, .unset, .unset, .unset, .unset, .unset] [(.int e1)])) _
    refine XS.istore X221.here hx rfl (hb hby at_244) rfl (l' := #[.val (.long limit), .second, .val (.long t0), .second, .val (.long now1), .second, .val (.long now2), .second, .val (.long bb), .second, .val (.int flags), .val (.long lm), .second, .val (.int i1), .val (.int i2), .val (.int i3), .val (.long b1), .second, .val (.long b2), .second, .val (.long b3), .second, .val (.long now3), .second, .val (.int nv), .val (.ref b205), .val (.int r1), .val (.int r2), .val (.int r3), .val (.int u1), .val (.long z1), .second, .val (.int e1), .unset, .unset, .unset, .unset, .unset, .unset]) rfl ?_
    show Steps p.tables e below (T221.setTop (mkF m 246 #[.val (.long limit), .second, .val (.long t0), .second, .val (.long now1), .second, .val (.long now2), .second, .val (.long bb), .second, .val (.int flags), .val (.long lm), .second, .val (.int i1), .val (.int i2), .val (.int i3), .val (.long b1), .second, .val (.long b2), .second, .val (.long b3), .second, .val (.long now3), .second, .val (.int nv), .val (.ref b205), .val (.int r1), .val (.int r2), .val (.int r3), .val (.int u1), .val (.long z1), .second, .val (.int e1), .unset, .unset, .unset, .unset, .unset, .unset] [])) _
    refine XS.iload X221.here hx rfl (hb hby at_246) rfl ?_
    exact hk)
  obtain ⟨u2, hu2, k231⟩ : ∃ (u2 : Int32), (u2 = (if i2 = (0 : Int32) then (if i1 = (0 : Int32) then (if b2 = b1 then (0 : Int32) else (1 : Int32)) else (1 : Int32)) else (1 : Int32))) ∧ ∀ t, Steps p.tables e below (T221.setTop (mkF m 269 #[.val (.long limit), .second, .val (.long t0), .second, .val (.long now1), .second, .val (.long now2), .second, .val (.long bb), .second, .val (.int flags), .val (.long lm), .second, .val (.int i1), .val (.int i2), .val (.int i3), .val (.long b1), .second, .val (.long b2), .second, .val (.long b3), .second, .val (.long now3), .second, .val (.int nv), .val (.ref b205), .val (.int r1), .val (.int r2), .val (.int r3), .val (.int u1), .val (.long z1), .second, .val (.int e1), .unset, .unset, .unset, .unset, .unset, .unset] [(.int u2)])) t → Steps p.tables e below (s₁.setTop (entryFrame m #[(.long limit), (.long t0), (.long now1), (.long now2), (.long bb), (.int flags)] maxLocals)) t := by
    by_cases hc248 : i2 = (0 : Int32)
    ·
      by_cases hc253 : i1 = (0 : Int32)
      ·
        by_cases hc261 : b2 = b1
        ·
          refine ⟨(0 : Int32), ((if_pos hc248).trans ((if_pos hc253).trans ((if_pos hc261).trans rfl))).symm, fun t hk => k230 t ?_⟩
          show Steps p.tables e below (T221.setTop (mkF m 248 #[.val (.long limit), .second, .val (.long t0), .second, .val (.long now1), .second, .val (.long now2), .second, .val (.long bb), .second, .val (.int flags), .val (.long lm), .second, .val (.int i1), .val (.int i2), .val (.int i3), .val (.long b1), .second, .val (.long b2), .second, .val (.long b3), .second, .val (.long now3), .second, .val (.int nv), .val (.ref b205), .val (.int r1), .val (.int r2), .val (.int r3), .val (.int u1), .val (.long z1), .second, .val (.int e1), .unset, .unset, .unset, .unset, .unset, .unset] [(.int i2)])) _
          refine XS.ifNo X221.here hx rfl (hb hby at_248) rfl ((if0 _ _).trans (teq hc248).2) ?_
          show Steps p.tables e below (T221.setTop (mkF m 251 #[.val (.long limit), .second, .val (.long t0), .second, .val (.long now1), .second, .val (.long now2), .second, .val (.long bb), .second, .val (.int flags), .val (.long lm), .second, .val (.int i1), .val (.int i2), .val (.int i3), .val (.long b1), .second, .val (.long b2), .second, .val (.long b3), .second, .val (.long now3), .second, .val (.int nv), .val (.ref b205), .val (.int r1), .val (.int r2), .val (.int r3), .val (.int u1), .val (.long z1), .second, .val (.int e1), .unset, .unset, .unset, .unset, .unset, .unset] [])) _
          refine XS.iload X221.here hx rfl (hb hby at_251) rfl ?_
          show Steps p.tables e below (T221.setTop (mkF m 253 #[.val (.long limit), .second, .val (.long t0), .second, .val (.long now1), .second, .val (.long now2), .second, .val (.long bb), .second, .val (.int flags), .val (.long lm), .second, .val (.int i1), .val (.int i2), .val (.int i3), .val (.long b1), .second, .val (.long b2), .second, .val (.long b3), .second, .val (.long now3), .second, .val (.int nv), .val (.ref b205), .val (.int r1), .val (.int r2), .val (.int r3), .val (.int u1), .val (.long z1), .second, .val (.int e1), .unset, .unset, .unset, .unset, .unset, .unset] [(.int i1)])) _
          refine XS.ifNo X221.here hx rfl (hb hby at_253) rfl ((if0 _ _).trans (teq hc253).2) ?_
          show Steps p.tables e below (T221.setTop (mkF m 256 #[.val (.long limit), .second, .val (.long t0), .second, .val (.long now1), .second, .val (.long now2), .second, .val (.long bb), .second, .val (.int flags), .val (.long lm), .second, .val (.int i1), .val (.int i2), .val (.int i3), .val (.long b1), .second, .val (.long b2), .second, .val (.long b3), .second, .val (.long now3), .second, .val (.int nv), .val (.ref b205), .val (.int r1), .val (.int r2), .val (.int r3), .val (.int u1), .val (.long z1), .second, .val (.int e1), .unset, .unset, .unset, .unset, .unset, .unset] [])) _
          refine XS.lload X221.here hx rfl (hb hby at_256) rfl ?_
          show Steps p.tables e below (T221.setTop (mkF m 258 #[.val (.long limit), .second, .val (.long t0), .second, .val (.long now1), .second, .val (.long now2), .second, .val (.long bb), .second, .val (.int flags), .val (.long lm), .second, .val (.int i1), .val (.int i2), .val (.int i3), .val (.long b1), .second, .val (.long b2), .second, .val (.long b3), .second, .val (.long now3), .second, .val (.int nv), .val (.ref b205), .val (.int r1), .val (.int r2), .val (.int r3), .val (.int u1), .val (.long z1), .second, .val (.int e1), .unset, .unset, .unset, .unset, .unset, .unset] [(.long b2)])) _
          refine XS.lload X221.here hx rfl (hb hby at_258) rfl ?_
          show Steps p.tables e below (T221.setTop (mkF m 260 #[.val (.long limit), .second, .val (.long t0), .second, .val (.long now1), .second, .val (.long now2), .second, .val (.long bb), .second, .val (.int flags), .val (.long lm), .second, .val (.int i1), .val (.int i2), .val (.int i3), .val (.long b1), .second, .val (.long b2), .second, .val (.long b3), .second, .val (.long now3), .second, .val (.int nv), .val (.ref b205), .val (.int r1), .val (.int r2), .val (.int r3), .val (.int u1), .val (.long z1), .second, .val (.int e1), .unset, .unset, .unset, .unset, .unset, .unset] [(.long b1), (.long b2)])) _
          refine XS.lcmp X221.here hx rfl (hb hby at_260) rfl ?_
          show Steps p.tables e below (T221.setTop (mkF m 261 #[.val (.long limit), .second, .val (.long t0), .second, .val (.long now1), .second, .val (.long now2), .second, .val (.long bb), .second, .val (.int flags), .val (.long lm), .second, .val (.int i1), .val (.int i2), .val (.int i3), .val (.long b1), .second, .val (.long b2), .second, .val (.long b3), .second, .val (.long now3), .second, .val (.int nv), .val (.ref b205), .val (.int r1), .val (.int r2), .val (.int r3), .val (.int u1), .val (.long z1), .second, .val (.int e1), .unset, .unset, .unset, .unset, .unset, .unset] [(.int (lcmpW b2 b1))])) _
          refine XS.ifYes X221.here hx rfl (pc0 := 261) (pc' := 268) rfl (hb hby at_261) rfl ((if0 _ _).trans (teq ((lw_eq _ _).mpr hc261)).1) (by decide) (by decide) ?_
          show Steps p.tables e below (T221.setTop (mkF m 268 #[.val (.long limit), .second, .val (.long t0), .second, .val (.long now1), .second, .val (.long now2), .second, .val (.long bb), .second, .val (.int flags), .val (.long lm), .second, .val (.int i1), .val (.int i2), .val (.int i3), .val (.long b1), .second, .val (.long b2), .second, .val (.long b3), .second, .val (.long now3), .second, .val (.int nv), .val (.ref b205), .val (.int r1), .val (.int r2), .val (.int r3), .val (.int u1), .val (.long z1), .second, .val (.int e1), .unset, .unset, .unset, .unset, .unset, .unset] [])) _
          refine XS.iconst X221.here hx rfl (hb hby at_268) ?_
          exact hk
        ·
          refine ⟨(1 : Int32), ((if_pos hc248).trans ((if_pos hc253).trans ((if_neg hc261).trans rfl))).symm, fun t hk => k230 t ?_⟩
          show Steps p.tables e below (T221.setTop (mkF m 248 #[.val (.long limit), .second, .val (.long t0), .second, .val (.long now1), .second, .val (.long now2), .second, .val (.long bb), .second, .val (.int flags), .val (.long lm), .second, .val (.int i1), .val (.int i2), .val (.int i3), .val (.long b1), .second, .val (.long b2), .second, .val (.long b3), .second, .val (.long now3), .second, .val (.int nv), .val (.ref b205), .val (.int r1), .val (.int r2), .val (.int r3), .val (.int u1), .val (.long z1), .second, .val (.int e1), .unset, .unset, .unset, .unset, .unset, .unset] [(.int i2)])) _
          refine XS.ifNo X221.here hx rfl (hb hby at_248) rfl ((if0 _ _).trans (teq hc248).2) ?_
          show Steps p.tables e below (T221.setTop (mkF m 251 #[.val (.long limit), .second, .val (.long t0), .second, .val (.long now1), .second, .val (.long now2), .second, .val (.long bb), .second, .val (.int flags), .val (.long lm), .second, .val (.int i1), .val (.int i2), .val (.int i3), .val (.long b1), .second, .val (.long b2), .second, .val (.long b3), .second, .val (.long now3), .second, .val (.int nv), .val (.ref b205), .val (.int r1), .val (.int r2), .val (.int r3), .val (.int u1), .val (.long z1), .second, .val (.int e1), .unset, .unset, .unset, .unset, .unset, .unset] [])) _
          refine XS.iload X221.here hx rfl (hb hby at_251) rfl ?_
          show Steps p.tables e below (T221.setTop (mkF m 253 #[.val (.long limit), .second, .val (.long t0), .second, .val (.long now1), .second, .val (.long now2), .second, .val (.long bb), .second, .val (.int flags), .val (.long lm), .second, .val (.int i1), .val (.int i2), .val (.int i3), .val (.long b1), .second, .val (.long b2), .second, .val (.long b3), .second, .val (.long now3), .second, .val (.int nv), .val (.ref b205), .val (.int r1), .val (.int r2), .val (.int r3), .val (.int u1), .val (.long z1), .second, .val (.int e1), .unset, .unset, .unset, .unset, .unset, .unset] [(.int i1)])) _
          refine XS.ifNo X221.here hx rfl (hb hby at_253) rfl ((if0 _ _).trans (teq hc253).2) ?_
          show Steps p.tables e below (T221.setTop (mkF m 256 #[.val (.long limit), .second, .val (.long t0), .second, .val (.long now1), .second, .val (.long now2), .second, .val (.long bb), .second, .val (.int flags), .val (.long lm), .second, .val (.int i1), .val (.int i2), .val (.int i3), .val (.long b1), .second, .val (.long b2), .second, .val (.long b3), .second, .val (.long now3), .second, .val (.int nv), .val (.ref b205), .val (.int r1), .val (.int r2), .val (.int r3), .val (.int u1), .val (.long z1), .second, .val (.int e1), .unset, .unset, .unset, .unset, .unset, .unset] [])) _
          refine XS.lload X221.here hx rfl (hb hby at_256) rfl ?_
          show Steps p.tables e below (T221.setTop (mkF m 258 #[.val (.long limit), .second, .val (.long t0), .second, .val (.long now1), .second, .val (.long now2), .second, .val (.long bb), .second, .val (.int flags), .val (.long lm), .second, .val (.int i1), .val (.int i2), .val (.int i3), .val (.long b1), .second, .val (.long b2), .second, .val (.long b3), .second, .val (.long now3), .second, .val (.int nv), .val (.ref b205), .val (.int r1), .val (.int r2), .val (.int r3), .val (.int u1), .val (.long z1), .second, .val (.int e1), .unset, .unset, .unset, .unset, .unset, .unset] [(.long b2)])) _
          refine XS.lload X221.here hx rfl (hb hby at_258) rfl ?_
          show Steps p.tables e below (T221.setTop (mkF m 260 #[.val (.long limit), .second, .val (.long t0), .second, .val (.long now1), .second, .val (.long now2), .second, .val (.long bb), .second, .val (.int flags), .val (.long lm), .second, .val (.int i1), .val (.int i2), .val (.int i3), .val (.long b1), .second, .val (.long b2), .second, .val (.long b3), .second, .val (.long now3), .second, .val (.int nv), .val (.ref b205), .val (.int r1), .val (.int r2), .val (.int r3), .val (.int u1), .val (.long z1), .second, .val (.int e1), .unset, .unset, .unset, .unset, .unset, .unset] [(.long b1), (.long b2)])) _
          refine XS.lcmp X221.here hx rfl (hb hby at_260) rfl ?_
          show Steps p.tables e below (T221.setTop (mkF m 261 #[.val (.long limit), .second, .val (.long t0), .second, .val (.long now1), .second, .val (.long now2), .second, .val (.long bb), .second, .val (.int flags), .val (.long lm), .second, .val (.int i1), .val (.int i2), .val (.int i3), .val (.long b1), .second, .val (.long b2), .second, .val (.long b3), .second, .val (.long now3), .second, .val (.int nv), .val (.ref b205), .val (.int r1), .val (.int r2), .val (.int r3), .val (.int u1), .val (.long z1), .second, .val (.int e1), .unset, .unset, .unset, .unset, .unset, .unset] [(.int (lcmpW b2 b1))])) _
          refine XS.ifNo X221.here hx rfl (hb hby at_261) rfl ((if0 _ _).trans (feq (fun q => hc261 ((lw_eq _ _).mp q))).1) ?_
          show Steps p.tables e below (T221.setTop (mkF m 264 #[.val (.long limit), .second, .val (.long t0), .second, .val (.long now1), .second, .val (.long now2), .second, .val (.long bb), .second, .val (.int flags), .val (.long lm), .second, .val (.int i1), .val (.int i2), .val (.int i3), .val (.long b1), .second, .val (.long b2), .second, .val (.long b3), .second, .val (.long now3), .second, .val (.int nv), .val (.ref b205), .val (.int r1), .val (.int r2), .val (.int r3), .val (.int u1), .val (.long z1), .second, .val (.int e1), .unset, .unset, .unset, .unset, .unset, .unset] [])) _
          refine XS.iconst X221.here hx rfl (hb hby at_264) ?_
          show Steps p.tables e below (T221.setTop (mkF m 265 #[.val (.long limit), .second, .val (.long t0), .second, .val (.long now1), .second, .val (.long now2), .second, .val (.long bb), .second, .val (.int flags), .val (.long lm), .second, .val (.int i1), .val (.int i2), .val (.int i3), .val (.long b1), .second, .val (.long b2), .second, .val (.long b3), .second, .val (.long now3), .second, .val (.int nv), .val (.ref b205), .val (.int r1), .val (.int r2), .val (.int r3), .val (.int u1), .val (.long z1), .second, .val (.int e1), .unset, .unset, .unset, .unset, .unset, .unset] [(.int (1 : Int32))])) _
          refine XS.goto X221.here hx rfl (pc0 := 265) (pc' := 269) rfl (hb hby at_265) (by decide) (by decide) ?_
          exact hk
      ·
        refine ⟨(1 : Int32), ((if_pos hc248).trans ((if_neg hc253).trans rfl)).symm, fun t hk => k230 t ?_⟩
        show Steps p.tables e below (T221.setTop (mkF m 248 #[.val (.long limit), .second, .val (.long t0), .second, .val (.long now1), .second, .val (.long now2), .second, .val (.long bb), .second, .val (.int flags), .val (.long lm), .second, .val (.int i1), .val (.int i2), .val (.int i3), .val (.long b1), .second, .val (.long b2), .second, .val (.long b3), .second, .val (.long now3), .second, .val (.int nv), .val (.ref b205), .val (.int r1), .val (.int r2), .val (.int r3), .val (.int u1), .val (.long z1), .second, .val (.int e1), .unset, .unset, .unset, .unset, .unset, .unset] [(.int i2)])) _
        refine XS.ifNo X221.here hx rfl (hb hby at_248) rfl ((if0 _ _).trans (teq hc248).2) ?_
        show Steps p.tables e below (T221.setTop (mkF m 251 #[.val (.long limit), .second, .val (.long t0), .second, .val (.long now1), .second, .val (.long now2), .second, .val (.long bb), .second, .val (.int flags), .val (.long lm), .second, .val (.int i1), .val (.int i2), .val (.int i3), .val (.long b1), .second, .val (.long b2), .second, .val (.long b3), .second, .val (.long now3), .second, .val (.int nv), .val (.ref b205), .val (.int r1), .val (.int r2), .val (.int r3), .val (.int u1), .val (.long z1), .second, .val (.int e1), .unset, .unset, .unset, .unset, .unset, .unset] [])) _
        refine XS.iload X221.here hx rfl (hb hby at_251) rfl ?_
        show Steps p.tables e below (T221.setTop (mkF m 253 #[.val (.long limit), .second, .val (.long t0), .second, .val (.long now1), .second, .val (.long now2), .second, .val (.long bb), .second, .val (.int flags), .val (.long lm), .second, .val (.int i1), .val (.int i2), .val (.int i3), .val (.long b1), .second, .val (.long b2), .second, .val (.long b3), .second, .val (.long now3), .second, .val (.int nv), .val (.ref b205), .val (.int r1), .val (.int r2), .val (.int r3), .val (.int u1), .val (.long z1), .second, .val (.int e1), .unset, .unset, .unset, .unset, .unset, .unset] [(.int i1)])) _
        refine XS.ifYes X221.here hx rfl (pc0 := 253) (pc' := 264) rfl (hb hby at_253) rfl ((if0 _ _).trans (feq hc253).2) (by decide) (by decide) ?_
        show Steps p.tables e below (T221.setTop (mkF m 264 #[.val (.long limit), .second, .val (.long t0), .second, .val (.long now1), .second, .val (.long now2), .second, .val (.long bb), .second, .val (.int flags), .val (.long lm), .second, .val (.int i1), .val (.int i2), .val (.int i3), .val (.long b1), .second, .val (.long b2), .second, .val (.long b3), .second, .val (.long now3), .second, .val (.int nv), .val (.ref b205), .val (.int r1), .val (.int r2), .val (.int r3), .val (.int u1), .val (.long z1), .second, .val (.int e1), .unset, .unset, .unset, .unset, .unset, .unset] [])) _
        refine XS.iconst X221.here hx rfl (hb hby at_264) ?_
        show Steps p.tables e below (T221.setTop (mkF m 265 #[.val (.long limit), .second, .val (.long t0), .second, .val (.long now1), .second, .val (.long now2), .second, .val (.long bb), .second, .val (.int flags), .val (.long lm), .second, .val (.int i1), .val (.int i2), .val (.int i3), .val (.long b1), .second, .val (.long b2), .second, .val (.long b3), .second, .val (.long now3), .second, .val (.int nv), .val (.ref b205), .val (.int r1), .val (.int r2), .val (.int r3), .val (.int u1), .val (.long z1), .second, .val (.int e1), .unset, .unset, .unset, .unset, .unset, .unset] [(.int (1 : Int32))])) _
        refine XS.goto X221.here hx rfl (pc0 := 265) (pc' := 269) rfl (hb hby at_265) (by decide) (by decide) ?_
        exact hk
    ·
      refine ⟨(1 : Int32), ((if_neg hc248).trans rfl).symm, fun t hk => k230 t ?_⟩
      show Steps p.tables e below (T221.setTop (mkF m 248 #[.val (.long limit), .second, .val (.long t0), .second, .val (.long now1), .second, .val (.long now2), .second, .val (.long bb), .second, .val (.int flags), .val (.long lm), .second, .val (.int i1), .val (.int i2), .val (.int i3), .val (.long b1), .second, .val (.long b2), .second, .val (.long b3), .second, .val (.long now3), .second, .val (.int nv), .val (.ref b205), .val (.int r1), .val (.int r2), .val (.int r3), .val (.int u1), .val (.long z1), .second, .val (.int e1), .unset, .unset, .unset, .unset, .unset, .unset] [(.int i2)])) _
      refine XS.ifYes X221.here hx rfl (pc0 := 248) (pc' := 264) rfl (hb hby at_248) rfl ((if0 _ _).trans (feq hc248).2) (by decide) (by decide) ?_
      show Steps p.tables e below (T221.setTop (mkF m 264 #[.val (.long limit), .second, .val (.long t0), .second, .val (.long now1), .second, .val (.long now2), .second, .val (.long bb), .second, .val (.int flags), .val (.long lm), .second, .val (.int i1), .val (.int i2), .val (.int i3), .val (.long b1), .second, .val (.long b2), .second, .val (.long b3), .second, .val (.long now3), .second, .val (.int nv), .val (.ref b205), .val (.int r1), .val (.int r2), .val (.int r3), .val (.int u1), .val (.long z1), .second, .val (.int e1), .unset, .unset, .unset, .unset, .unset, .unset] [])) _
      refine XS.iconst X221.here hx rfl (hb hby at_264) ?_
      show Steps p.tables e below (T221.setTop (mkF m 265 #[.val (.long limit), .second, .val (.long t0), .second, .val (.long now1), .second, .val (.long now2), .second, .val (.long bb), .second, .val (.int flags), .val (.long lm), .second, .val (.int i1), .val (.int i2), .val (.int i3), .val (.long b1), .second, .val (.long b2), .second, .val (.long b3), .second, .val (.long now3), .second, .val (.int nv), .val (.ref b205), .val (.int r1), .val (.int r2), .val (.int r3), .val (.int u1), .val (.long z1), .second, .val (.int e1), .unset, .unset, .unset, .unset, .unset, .unset] [(.int (1 : Int32))])) _
      refine XS.goto X221.here hx rfl (pc0 := 265) (pc' := 269) rfl (hb hby at_265) (by decide) (by decide) ?_
      exact hk
  have k232 : ∀ t, Steps p.tables e below (T221.setTop (mkF m 273 #[.val (.long limit), .second, .val (.long t0), .second, .val (.long now1), .second, .val (.long now2), .second, .val (.long bb), .second, .val (.int flags), .val (.long lm), .second, .val (.int i1), .val (.int i2), .val (.int i3), .val (.long b1), .second, .val (.long b2), .second, .val (.long b3), .second, .val (.long now3), .second, .val (.int nv), .val (.ref b205), .val (.int r1), .val (.int r2), .val (.int r3), .val (.int u1), .val (.long z1), .second, .val (.int e1), .val (.int u2), .unset, .unset, .unset, .unset, .unset] [(.int u2)])) t → Steps p.tables e below (s₁.setTop (entryFrame m #[(.long limit), (.long t0), (.long now1), (.long now2), (.long bb), (.int flags)] maxLocals)) t := fun t hk => k231 t (by
    show Steps p.tables e below (T221.setTop (mkF m 269 #[.val (.long limit), .second, .val (.long t0), .second, .val (.long now1), .second, .val (.long now2), .second, .val (.long bb), .second, .val (.int flags), .val (.long lm), .second, .val (.int i1), .val (.int i2), .val (.int i3), .val (.long b1), .second, .val (.long b2), .second, .val (.long b3), .second, .val (.long now3), .second, .val (.int nv), .val (.ref b205), .val (.int r1), .val (.int r2), .val (.int r3), .val (.int u1), .val (.long z1), .second, .val (.int e1), .unset, .unset, .unset, .unset, .unset, .unset] [(.int u2)])) _
    refine XS.istore X221.here hx rfl (hb hby at_269) rfl (l' := #[.val (.long limit), .second, .val (.long t0), .second, .val (.long now1), .second, .val (.long now2), .second, .val (.long bb), .second, .val (.int flags), .val (.long lm), .second, .val (.int i1), .val (.int i2), .val (.int i3), .val (.long b1), .second, .val (.long b2), .second, .val (.long b3), .second, .val (.long now3), .second, .val (.int nv), .val (.ref b205), .val (.int r1), .val (.int r2), .val (.int r3), .val (.int u1), .val (.long z1), .second, .val (.int e1), .val (.int u2), .unset, .unset, .unset, .unset, .unset]) rfl ?_
    show Steps p.tables e below (T221.setTop (mkF m 271 #[.val (.long limit), .second, .val (.long t0), .second, .val (.long now1), .second, .val (.long now2), .second, .val (.long bb), .second, .val (.int flags), .val (.long lm), .second, .val (.int i1), .val (.int i2), .val (.int i3), .val (.long b1), .second, .val (.long b2), .second, .val (.long b3), .second, .val (.long now3), .second, .val (.int nv), .val (.ref b205), .val (.int r1), .val (.int r2), .val (.int r3), .val (.int u1), .val (.long z1), .second, .val (.int e1), .val (.int u2), .unset, .unset, .unset, .unset, .unset] [])) _
    refine XS.iload X221.here hx rfl (hb hby at_271) rfl ?_
    exact hk)
  obtain ⟨z2, hz2, k233⟩ : ∃ (z2 : Int64), (z2 = (if u2 = (0 : Int32) then z1 else now2)) ∧ ∀ t, Steps p.tables e below (T221.setTop (mkF m 283 #[.val (.long limit), .second, .val (.long t0), .second, .val (.long now1), .second, .val (.long now2), .second, .val (.long bb), .second, .val (.int flags), .val (.long lm), .second, .val (.int i1), .val (.int i2), .val (.int i3), .val (.long b1), .second, .val (.long b2), .second, .val (.long b3), .second, .val (.long now3), .second, .val (.int nv), .val (.ref b205), .val (.int r1), .val (.int r2), .val (.int r3), .val (.int u1), .val (.long z1), .second, .val (.int e1), .val (.int u2), .unset, .unset, .unset, .unset, .unset] [(.long z2)])) t → Steps p.tables e below (s₁.setTop (entryFrame m #[(.long limit), (.long t0), (.long now1), (.long now2), (.long bb), (.int flags)] maxLocals)) t := by
    by_cases hc273 : u2 = (0 : Int32)
    ·
      refine ⟨z1, ((if_pos hc273).trans rfl).symm, fun t hk => k232 t ?_⟩
      show Steps p.tables e below (T221.setTop (mkF m 273 #[.val (.long limit), .second, .val (.long t0), .second, .val (.long now1), .second, .val (.long now2), .second, .val (.long bb), .second, .val (.int flags), .val (.long lm), .second, .val (.int i1), .val (.int i2), .val (.int i3), .val (.long b1), .second, .val (.long b2), .second, .val (.long b3), .second, .val (.long now3), .second, .val (.int nv), .val (.ref b205), .val (.int r1), .val (.int r2), .val (.int r3), .val (.int u1), .val (.long z1), .second, .val (.int e1), .val (.int u2), .unset, .unset, .unset, .unset, .unset] [(.int u2)])) _
      refine XS.ifYes X221.here hx rfl (pc0 := 273) (pc' := 281) rfl (hb hby at_273) rfl ((if0 _ _).trans (teq hc273).1) (by decide) (by decide) ?_
      show Steps p.tables e below (T221.setTop (mkF m 281 #[.val (.long limit), .second, .val (.long t0), .second, .val (.long now1), .second, .val (.long now2), .second, .val (.long bb), .second, .val (.int flags), .val (.long lm), .second, .val (.int i1), .val (.int i2), .val (.int i3), .val (.long b1), .second, .val (.long b2), .second, .val (.long b3), .second, .val (.long now3), .second, .val (.int nv), .val (.ref b205), .val (.int r1), .val (.int r2), .val (.int r3), .val (.int u1), .val (.long z1), .second, .val (.int e1), .val (.int u2), .unset, .unset, .unset, .unset, .unset] [])) _
      refine XS.lload X221.here hx rfl (hb hby at_281) rfl ?_
      exact hk
    ·
      refine ⟨now2, ((if_neg hc273).trans rfl).symm, fun t hk => k232 t ?_⟩
      show Steps p.tables e below (T221.setTop (mkF m 273 #[.val (.long limit), .second, .val (.long t0), .second, .val (.long now1), .second, .val (.long now2), .second, .val (.long bb), .second, .val (.int flags), .val (.long lm), .second, .val (.int i1), .val (.int i2), .val (.int i3), .val (.long b1), .second, .val (.long b2), .second, .val (.long b3), .second, .val (.long now3), .second, .val (.int nv), .val (.ref b205), .val (.int r1), .val (.int r2), .val (.int r3), .val (.int u1), .val (.long z1), .second, .val (.int e1), .val (.int u2), .unset, .unset, .unset, .unset, .unset] [(.int u2)])) _
      refine XS.ifNo X221.here hx rfl (hb hby at_273) rfl ((if0 _ _).trans (feq hc273).1) ?_
      show Steps p.tables e below (T221.setTop (mkF m 276 #[.val (.long limit), .second, .val (.long t0), .second, .val (.long now1), .second, .val (.long now2), .second, .val (.long bb), .second, .val (.int flags), .val (.long lm), .second, .val (.int i1), .val (.int i2), .val (.int i3), .val (.long b1), .second, .val (.long b2), .second, .val (.long b3), .second, .val (.long now3), .second, .val (.int nv), .val (.ref b205), .val (.int r1), .val (.int r2), .val (.int r3), .val (.int u1), .val (.long z1), .second, .val (.int e1), .val (.int u2), .unset, .unset, .unset, .unset, .unset] [])) _
      refine XS.lload X221.here hx rfl (hb hby at_276) rfl ?_
      show Steps p.tables e below (T221.setTop (mkF m 278 #[.val (.long limit), .second, .val (.long t0), .second, .val (.long now1), .second, .val (.long now2), .second, .val (.long bb), .second, .val (.int flags), .val (.long lm), .second, .val (.int i1), .val (.int i2), .val (.int i3), .val (.long b1), .second, .val (.long b2), .second, .val (.long b3), .second, .val (.long now3), .second, .val (.int nv), .val (.ref b205), .val (.int r1), .val (.int r2), .val (.int r3), .val (.int u1), .val (.long z1), .second, .val (.int e1), .val (.int u2), .unset, .unset, .unset, .unset, .unset] [(.long now2)])) _
      refine XS.goto X221.here hx rfl (pc0 := 278) (pc' := 283) rfl (hb hby at_278) (by decide) (by decide) ?_
      exact hk
  have k234 : ∀ t, Steps p.tables e below (T221.setTop (mkF m 287 #[.val (.long limit), .second, .val (.long t0), .second, .val (.long now1), .second, .val (.long now2), .second, .val (.long bb), .second, .val (.int flags), .val (.long lm), .second, .val (.int i1), .val (.int i2), .val (.int i3), .val (.long b1), .second, .val (.long b2), .second, .val (.long b3), .second, .val (.long now3), .second, .val (.int nv), .val (.ref b205), .val (.int r1), .val (.int r2), .val (.int r3), .val (.int u1), .val (.long z1), .second, .val (.int e1), .val (.int u2), .val (.long z2), .second, .unset, .unset, .unset] [(.int u2)])) t → Steps p.tables e below (s₁.setTop (entryFrame m #[(.long limit), (.long t0), (.long now1), (.long now2), (.long bb), (.int flags)] maxLocals)) t := fun t hk => k233 t (by
    show Steps p.tables e below (T221.setTop (mkF m 283 #[.val (.long limit), .second, .val (.long t0), .second, .val (.long now1), .second, .val (.long now2), .second, .val (.long bb), .second, .val (.int flags), .val (.long lm), .second, .val (.int i1), .val (.int i2), .val (.int i3), .val (.long b1), .second, .val (.long b2), .second, .val (.long b3), .second, .val (.long now3), .second, .val (.int nv), .val (.ref b205), .val (.int r1), .val (.int r2), .val (.int r3), .val (.int u1), .val (.long z1), .second, .val (.int e1), .val (.int u2), .unset, .unset, .unset, .unset, .unset] [(.long z2)])) _
    refine XS.lstore X221.here hx rfl (hb hby at_283) rfl (l' := #[.val (.long limit), .second, .val (.long t0), .second, .val (.long now1), .second, .val (.long now2), .second, .val (.long bb), .second, .val (.int flags), .val (.long lm), .second, .val (.int i1), .val (.int i2), .val (.int i3), .val (.long b1), .second, .val (.long b2), .second, .val (.long b3), .second, .val (.long now3), .second, .val (.int nv), .val (.ref b205), .val (.int r1), .val (.int r2), .val (.int r3), .val (.int u1), .val (.long z1), .second, .val (.int e1), .val (.int u2), .val (.long z2), .second, .unset, .unset, .unset]) rfl ?_
    show Steps p.tables e below (T221.setTop (mkF m 285 #[.val (.long limit), .second, .val (.long t0), .second, .val (.long now1), .second, .val (.long now2), .second, .val (.long bb), .second, .val (.int flags), .val (.long lm), .second, .val (.int i1), .val (.int i2), .val (.int i3), .val (.long b1), .second, .val (.long b2), .second, .val (.long b3), .second, .val (.long now3), .second, .val (.int nv), .val (.ref b205), .val (.int r1), .val (.int r2), .val (.int r3), .val (.int u1), .val (.long z1), .second, .val (.int e1), .val (.int u2), .val (.long z2), .second, .unset, .unset, .unset] [])) _
    refine XS.iload X221.here hx rfl (hb hby at_285) rfl ?_
    exact hk)
  obtain ⟨e2, he2, k235⟩ : ∃ (e2 : Int32), (e2 = (if u2 = (0 : Int32) then (if nv = (0 : Int32) then (if (now2 - z1) < lm then (0 : Int32) else (1 : Int32)) else (0 : Int32)) else (0 : Int32))) ∧ ∀ t, Steps p.tables e below (T221.setTop (mkF m 311 #[.val (.long limit), .second, .val (.long t0), .second, .val (.long now1), .second, .val (.long now2), .second, .val (.long bb), .second, .val (.int flags), .val (.long lm), .second, .val (.int i1), .val (.int i2), .val (.int i3), .val (.long b1), .second, .val (.long b2), .second, .val (.long b3), .second, .val (.long now3), .second, .val (.int nv), .val (.ref b205), .val (.int r1), .val (.int r2), .val (.int r3), .val (.int u1), .val (.long z1), .second, .val (.int e1), .val (.int u2), .val (.long z2), .second, .unset, .unset, .unset] [(.int e2)])) t → Steps p.tables e below (s₁.setTop (entryFrame m #[(.long limit), (.long t0), (.long now1), (.long now2), (.long bb), (.int flags)] maxLocals)) t := by
    by_cases hc287 : u2 = (0 : Int32)
    ·
      by_cases hc292 : nv = (0 : Int32)
      ·
        by_cases hc303 : (now2 - z1) < lm
        ·
          refine ⟨(0 : Int32), ((if_pos hc287).trans ((if_pos hc292).trans ((if_pos hc303).trans rfl))).symm, fun t hk => k234 t ?_⟩
          show Steps p.tables e below (T221.setTop (mkF m 287 #[.val (.long limit), .second, .val (.long t0), .second, .val (.long now1), .second, .val (.long now2), .second, .val (.long bb), .second, .val (.int flags), .val (.long lm), .second, .val (.int i1), .val (.int i2), .val (.int i3), .val (.long b1), .second, .val (.long b2), .second, .val (.long b3), .second, .val (.long now3), .second, .val (.int nv), .val (.ref b205), .val (.int r1), .val (.int r2), .val (.int r3), .val (.int u1), .val (.long z1), .second, .val (.int e1), .val (.int u2), .val (.long z2), .second, .unset, .unset, .unset] [(.int u2)])) _
          refine XS.ifNo X221.here hx rfl (hb hby at_287) rfl ((if0 _ _).trans (teq hc287).2) ?_
          show Steps p.tables e below (T221.setTop (mkF m 290 #[.val (.long limit), .second, .val (.long t0), .second, .val (.long now1), .second, .val (.long now2), .second, .val (.long bb), .second, .val (.int flags), .val (.long lm), .second, .val (.int i1), .val (.int i2), .val (.int i3), .val (.long b1), .second, .val (.long b2), .second, .val (.long b3), .second, .val (.long now3), .second, .val (.int nv), .val (.ref b205), .val (.int r1), .val (.int r2), .val (.int r3), .val (.int u1), .val (.long z1), .second, .val (.int e1), .val (.int u2), .val (.long z2), .second, .unset, .unset, .unset] [])) _
          refine XS.iload X221.here hx rfl (hb hby at_290) rfl ?_
          show Steps p.tables e below (T221.setTop (mkF m 292 #[.val (.long limit), .second, .val (.long t0), .second, .val (.long now1), .second, .val (.long now2), .second, .val (.long bb), .second, .val (.int flags), .val (.long lm), .second, .val (.int i1), .val (.int i2), .val (.int i3), .val (.long b1), .second, .val (.long b2), .second, .val (.long b3), .second, .val (.long now3), .second, .val (.int nv), .val (.ref b205), .val (.int r1), .val (.int r2), .val (.int r3), .val (.int u1), .val (.long z1), .second, .val (.int e1), .val (.int u2), .val (.long z2), .second, .unset, .unset, .unset] [(.int nv)])) _
          refine XS.ifNo X221.here hx rfl (hb hby at_292) rfl ((if0 _ _).trans (teq hc292).2) ?_
          show Steps p.tables e below (T221.setTop (mkF m 295 #[.val (.long limit), .second, .val (.long t0), .second, .val (.long now1), .second, .val (.long now2), .second, .val (.long bb), .second, .val (.int flags), .val (.long lm), .second, .val (.int i1), .val (.int i2), .val (.int i3), .val (.long b1), .second, .val (.long b2), .second, .val (.long b3), .second, .val (.long now3), .second, .val (.int nv), .val (.ref b205), .val (.int r1), .val (.int r2), .val (.int r3), .val (.int u1), .val (.long z1), .second, .val (.int e1), .val (.int u2), .val (.long z2), .second, .unset, .unset, .unset] [])) _
          refine XS.lload X221.here hx rfl (hb hby at_295) rfl ?_
          show Steps p.tables e below (T221.setTop (mkF m 297 #[.val (.long limit), .second, .val (.long t0), .second, .val (.long now1), .second, .val (.long now2), .second, .val (.long bb), .second, .val (.int flags), .val (.long lm), .second, .val (.int i1), .val (.int i2), .val (.int i3), .val (.long b1), .second, .val (.long b2), .second, .val (.long b3), .second, .val (.long now3), .second, .val (.int nv), .val (.ref b205), .val (.int r1), .val (.int r2), .val (.int r3), .val (.int u1), .val (.long z1), .second, .val (.int e1), .val (.int u2), .val (.long z2), .second, .unset, .unset, .unset] [(.long now2)])) _
          refine XS.lload X221.here hx rfl (hb hby at_297) rfl ?_
          show Steps p.tables e below (T221.setTop (mkF m 299 #[.val (.long limit), .second, .val (.long t0), .second, .val (.long now1), .second, .val (.long now2), .second, .val (.long bb), .second, .val (.int flags), .val (.long lm), .second, .val (.int i1), .val (.int i2), .val (.int i3), .val (.long b1), .second, .val (.long b2), .second, .val (.long b3), .second, .val (.long now3), .second, .val (.int nv), .val (.ref b205), .val (.int r1), .val (.int r2), .val (.int r3), .val (.int u1), .val (.long z1), .second, .val (.int e1), .val (.int u2), .val (.long z2), .second, .unset, .unset, .unset] [(.long z1), (.long now2)])) _
          refine XS.lsub X221.here hx rfl (hb hby at_299) rfl ?_
          show Steps p.tables e below (T221.setTop (mkF m 300 #[.val (.long limit), .second, .val (.long t0), .second, .val (.long now1), .second, .val (.long now2), .second, .val (.long bb), .second, .val (.int flags), .val (.long lm), .second, .val (.int i1), .val (.int i2), .val (.int i3), .val (.long b1), .second, .val (.long b2), .second, .val (.long b3), .second, .val (.long now3), .second, .val (.int nv), .val (.ref b205), .val (.int r1), .val (.int r2), .val (.int r3), .val (.int u1), .val (.long z1), .second, .val (.int e1), .val (.int u2), .val (.long z2), .second, .unset, .unset, .unset] [(.long (now2 - z1))])) _
          refine XS.lload X221.here hx rfl (hb hby at_300) rfl ?_
          show Steps p.tables e below (T221.setTop (mkF m 302 #[.val (.long limit), .second, .val (.long t0), .second, .val (.long now1), .second, .val (.long now2), .second, .val (.long bb), .second, .val (.int flags), .val (.long lm), .second, .val (.int i1), .val (.int i2), .val (.int i3), .val (.long b1), .second, .val (.long b2), .second, .val (.long b3), .second, .val (.long now3), .second, .val (.int nv), .val (.ref b205), .val (.int r1), .val (.int r2), .val (.int r3), .val (.int u1), .val (.long z1), .second, .val (.int e1), .val (.int u2), .val (.long z2), .second, .unset, .unset, .unset] [(.long lm), (.long (now2 - z1))])) _
          refine XS.lcmp X221.here hx rfl (hb hby at_302) rfl ?_
          show Steps p.tables e below (T221.setTop (mkF m 303 #[.val (.long limit), .second, .val (.long t0), .second, .val (.long now1), .second, .val (.long now2), .second, .val (.long bb), .second, .val (.int flags), .val (.long lm), .second, .val (.int i1), .val (.int i2), .val (.int i3), .val (.long b1), .second, .val (.long b2), .second, .val (.long b3), .second, .val (.long now3), .second, .val (.int nv), .val (.ref b205), .val (.int r1), .val (.int r2), .val (.int r3), .val (.int u1), .val (.long z1), .second, .val (.int e1), .val (.int u2), .val (.long z2), .second, .unset, .unset, .unset] [(.int (lcmpW (now2 - z1) lm))])) _
          refine XS.ifYes X221.here hx rfl (pc0 := 303) (pc' := 310) rfl (hb hby at_303) rfl ((if0 _ _).trans (tlt ((lw_lt _ _).mpr hc303)).1) (by decide) (by decide) ?_
          show Steps p.tables e below (T221.setTop (mkF m 310 #[.val (.long limit), .second, .val (.long t0), .second, .val (.long now1), .second, .val (.long now2), .second, .val (.long bb), .second, .val (.int flags), .val (.long lm), .second, .val (.int i1), .val (.int i2), .val (.int i3), .val (.long b1), .second, .val (.long b2), .second, .val (.long b3), .second, .val (.long now3), .second, .val (.int nv), .val (.ref b205), .val (.int r1), .val (.int r2), .val (.int r3), .val (.int u1), .val (.long z1), .second, .val (.int e1), .val (.int u2), .val (.long z2), .second, .unset, .unset, .unset] [])) _
          refine XS.iconst X221.here hx rfl (hb hby at_310) ?_
          exact hk
        ·
          refine ⟨(1 : Int32), ((if_pos hc287).trans ((if_pos hc292).trans ((if_neg hc303).trans rfl))).symm, fun t hk => k234 t ?_⟩
          show Steps p.tables e below (T221.setTop (mkF m 287 #[.val (.long limit), .second, .val (.long t0), .second, .val (.long now1), .second, .val (.long now2), .second, .val (.long bb), .second, .val (.int flags), .val (.long lm), .second, .val (.int i1), .val (.int i2), .val (.int i3), .val (.long b1), .second, .val (.long b2), .second, .val (.long b3), .second, .val (.long now3), .second, .val (.int nv), .val (.ref b205), .val (.int r1), .val (.int r2), .val (.int r3), .val (.int u1), .val (.long z1), .second, .val (.int e1), .val (.int u2), .val (.long z2), .second, .unset, .unset, .unset] [(.int u2)])) _
          refine XS.ifNo X221.here hx rfl (hb hby at_287) rfl ((if0 _ _).trans (teq hc287).2) ?_
          show Steps p.tables e below (T221.setTop (mkF m 290 #[.val (.long limit), .second, .val (.long t0), .second, .val (.long now1), .second, .val (.long now2), .second, .val (.long bb), .second, .val (.int flags), .val (.long lm), .second, .val (.int i1), .val (.int i2), .val (.int i3), .val (.long b1), .second, .val (.long b2), .second, .val (.long b3), .second, .val (.long now3), .second, .val (.int nv), .val (.ref b205), .val (.int r1), .val (.int r2), .val (.int r3), .val (.int u1), .val (.long z1), .second, .val (.int e1), .val (.int u2), .val (.long z2), .second, .unset, .unset, .unset] [])) _
          refine XS.iload X221.here hx rfl (hb hby at_290) rfl ?_
          show Steps p.tables e below (T221.setTop (mkF m 292 #[.val (.long limit), .second, .val (.long t0), .second, .val (.long now1), .second, .val (.long now2), .second, .val (.long bb), .second, .val (.int flags), .val (.long lm), .second, .val (.int i1), .val (.int i2), .val (.int i3), .val (.long b1), .second, .val (.long b2), .second, .val (.long b3), .second, .val (.long now3), .second, .val (.int nv), .val (.ref b205), .val (.int r1), .val (.int r2), .val (.int r3), .val (.int u1), .val (.long z1), .second, .val (.int e1), .val (.int u2), .val (.long z2), .second, .unset, .unset, .unset] [(.int nv)])) _
          refine XS.ifNo X221.here hx rfl (hb hby at_292) rfl ((if0 _ _).trans (teq hc292).2) ?_
          show Steps p.tables e below (T221.setTop (mkF m 295 #[.val (.long limit), .second, .val (.long t0), .second, .val (.long now1), .second, .val (.long now2), .second, .val (.long bb), .second, .val (.int flags), .val (.long lm), .second, .val (.int i1), .val (.int i2), .val (.int i3), .val (.long b1), .second, .val (.long b2), .second, .val (.long b3), .second, .val (.long now3), .second, .val (.int nv), .val (.ref b205), .val (.int r1), .val (.int r2), .val (.int r3), .val (.int u1), .val (.long z1), .second, .val (.int e1), .val (.int u2), .val (.long z2), .second, .unset, .unset, .unset] [])) _
          refine XS.lload X221.here hx rfl (hb hby at_295) rfl ?_
          show Steps p.tables e below (T221.setTop (mkF m 297 #[.val (.long limit), .second, .val (.long t0), .second, .val (.long now1), .second, .val (.long now2), .second, .val (.long bb), .second, .val (.int flags), .val (.long lm), .second, .val (.int i1), .val (.int i2), .val (.int i3), .val (.long b1), .second, .val (.long b2), .second, .val (.long b3), .second, .val (.long now3), .second, .val (.int nv), .val (.ref b205), .val (.int r1), .val (.int r2), .val (.int r3), .val (.int u1), .val (.long z1), .second, .val (.int e1), .val (.int u2), .val (.long z2), .second, .unset, .unset, .unset] [(.long now2)])) _
          refine XS.lload X221.here hx rfl (hb hby at_297) rfl ?_
          show Steps p.tables e below (T221.setTop (mkF m 299 #[.val (.long limit), .second, .val (.long t0), .second, .val (.long now1), .second, .val (.long now2), .second, .val (.long bb), .second, .val (.int flags), .val (.long lm), .second, .val (.int i1), .val (.int i2), .val (.int i3), .val (.long b1), .second, .val (.long b2), .second, .val (.long b3), .second, .val (.long now3), .second, .val (.int nv), .val (.ref b205), .val (.int r1), .val (.int r2), .val (.int r3), .val (.int u1), .val (.long z1), .second, .val (.int e1), .val (.int u2), .val (.long z2), .second, .unset, .unset, .unset] [(.long z1), (.long now2)])) _
          refine XS.lsub X221.here hx rfl (hb hby at_299) rfl ?_
          show Steps p.tables e below (T221.setTop (mkF m 300 #[.val (.long limit), .second, .val (.long t0), .second, .val (.long now1), .second, .val (.long now2), .second, .val (.long bb), .second, .val (.int flags), .val (.long lm), .second, .val (.int i1), .val (.int i2), .val (.int i3), .val (.long b1), .second, .val (.long b2), .second, .val (.long b3), .second, .val (.long now3), .second, .val (.int nv), .val (.ref b205), .val (.int r1), .val (.int r2), .val (.int r3), .val (.int u1), .val (.long z1), .second, .val (.int e1), .val (.int u2), .val (.long z2), .second, .unset, .unset, .unset] [(.long (now2 - z1))])) _
          refine XS.lload X221.here hx rfl (hb hby at_300) rfl ?_
          show Steps p.tables e below (T221.setTop (mkF m 302 #[.val (.long limit), .second, .val (.long t0), .second, .val (.long now1), .second, .val (.long now2), .second, .val (.long bb), .second, .val (.int flags), .val (.long lm), .second, .val (.int i1), .val (.int i2), .val (.int i3), .val (.long b1), .second, .val (.long b2), .second, .val (.long b3), .second, .val (.long now3), .second, .val (.int nv), .val (.ref b205), .val (.int r1), .val (.int r2), .val (.int r3), .val (.int u1), .val (.long z1), .second, .val (.int e1), .val (.int u2), .val (.long z2), .second, .unset, .unset, .unset] [(.long lm), (.long (now2 - z1))])) _
          refine XS.lcmp X221.here hx rfl (hb hby at_302) rfl ?_
          show Steps p.tables e below (T221.setTop (mkF m 303 #[.val (.long limit), .second, .val (.long t0), .second, .val (.long now1), .second, .val (.long now2), .second, .val (.long bb), .second, .val (.int flags), .val (.long lm), .second, .val (.int i1), .val (.int i2), .val (.int i3), .val (.long b1), .second, .val (.long b2), .second, .val (.long b3), .second, .val (.long now3), .second, .val (.int nv), .val (.ref b205), .val (.int r1), .val (.int r2), .val (.int r3), .val (.int u1), .val (.long z1), .second, .val (.int e1), .val (.int u2), .val (.long z2), .second, .unset, .unset, .unset] [(.int (lcmpW (now2 - z1) lm))])) _
          refine XS.ifNo X221.here hx rfl (hb hby at_303) rfl ((if0 _ _).trans (flt (fun q => hc303 ((lw_lt _ _).mp q))).1) ?_
          show Steps p.tables e below (T221.setTop (mkF m 306 #[.val (.long limit), .second, .val (.long t0), .second, .val (.long now1), .second, .val (.long now2), .second, .val (.long bb), .second, .val (.int flags), .val (.long lm), .second, .val (.int i1), .val (.int i2), .val (.int i3), .val (.long b1), .second, .val (.long b2), .second, .val (.long b3), .second, .val (.long now3), .second, .val (.int nv), .val (.ref b205), .val (.int r1), .val (.int r2), .val (.int r3), .val (.int u1), .val (.long z1), .second, .val (.int e1), .val (.int u2), .val (.long z2), .second, .unset, .unset, .unset] [])) _
          refine XS.iconst X221.here hx rfl (hb hby at_306) ?_
          show Steps p.tables e below (T221.setTop (mkF m 307 #[.val (.long limit), .second, .val (.long t0), .second, .val (.long now1), .second, .val (.long now2), .second, .val (.long bb), .second, .val (.int flags), .val (.long lm), .second, .val (.int i1), .val (.int i2), .val (.int i3), .val (.long b1), .second, .val (.long b2), .second, .val (.long b3), .second, .val (.long now3), .second, .val (.int nv), .val (.ref b205), .val (.int r1), .val (.int r2), .val (.int r3), .val (.int u1), .val (.long z1), .second, .val (.int e1), .val (.int u2), .val (.long z2), .second, .unset, .unset, .unset] [(.int (1 : Int32))])) _
          refine XS.goto X221.here hx rfl (pc0 := 307) (pc' := 311) rfl (hb hby at_307) (by decide) (by decide) ?_
          exact hk
      ·
        refine ⟨(0 : Int32), ((if_pos hc287).trans ((if_neg hc292).trans rfl)).symm, fun t hk => k234 t ?_⟩
        show Steps p.tables e below (T221.setTop (mkF m 287 #[.val (.long limit), .second, .val (.long t0), .second, .val (.long now1), .second, .val (.long now2), .second, .val (.long bb), .second, .val (.int flags), .val (.long lm), .second, .val (.int i1), .val (.int i2), .val (.int i3), .val (.long b1), .second, .val (.long b2), .second, .val (.long b3), .second, .val (.long now3), .second, .val (.int nv), .val (.ref b205), .val (.int r1), .val (.int r2), .val (.int r3), .val (.int u1), .val (.long z1), .second, .val (.int e1), .val (.int u2), .val (.long z2), .second, .unset, .unset, .unset] [(.int u2)])) _
        refine XS.ifNo X221.here hx rfl (hb hby at_287) rfl ((if0 _ _).trans (teq hc287).2) ?_
        show Steps p.tables e below (T221.setTop (mkF m 290 #[.val (.long limit), .second, .val (.long t0), .second, .val (.long now1), .second, .val (.long now2), .second, .val (.long bb), .second, .val (.int flags), .val (.long lm), .second, .val (.int i1), .val (.int i2), .val (.int i3), .val (.long b1), .second, .val (.long b2), .second, .val (.long b3), .second, .val (.long now3), .second, .val (.int nv), .val (.ref b205), .val (.int r1), .val (.int r2), .val (.int r3), .val (.int u1), .val (.long z1), .second, .val (.int e1), .val (.int u2), .val (.long z2), .second, .unset, .unset, .unset] [])) _
        refine XS.iload X221.here hx rfl (hb hby at_290) rfl ?_
        show Steps p.tables e below (T221.setTop (mkF m 292 #[.val (.long limit), .second, .val (.long t0), .second, .val (.long now1), .second, .val (.long now2), .second, .val (.long bb), .second, .val (.int flags), .val (.long lm), .second, .val (.int i1), .val (.int i2), .val (.int i3), .val (.long b1), .second, .val (.long b2), .second, .val (.long b3), .second, .val (.long now3), .second, .val (.int nv), .val (.ref b205), .val (.int r1), .val (.int r2), .val (.int r3), .val (.int u1), .val (.long z1), .second, .val (.int e1), .val (.int u2), .val (.long z2), .second, .unset, .unset, .unset] [(.int nv)])) _
        refine XS.ifYes X221.here hx rfl (pc0 := 292) (pc' := 310) rfl (hb hby at_292) rfl ((if0 _ _).trans (feq hc292).2) (by decide) (by decide) ?_
        show Steps p.tables e below (T221.setTop (mkF m 310 #[.val (.long limit), .second, .val (.long t0), .second, .val (.long now1), .second, .val (.long now2), .second, .val (.long bb), .second, .val (.int flags), .val (.long lm), .second, .val (.int i1), .val (.int i2), .val (.int i3), .val (.long b1), .second, .val (.long b2), .second, .val (.long b3), .second, .val (.long now3), .second, .val (.int nv), .val (.ref b205), .val (.int r1), .val (.int r2), .val (.int r3), .val (.int u1), .val (.long z1), .second, .val (.int e1), .val (.int u2), .val (.long z2), .second, .unset, .unset, .unset] [])) _
        refine XS.iconst X221.here hx rfl (hb hby at_310) ?_
        exact hk
    ·
      refine ⟨(0 : Int32), ((if_neg hc287).trans rfl).symm, fun t hk => k234 t ?_⟩
      show Steps p.tables e below (T221.setTop (mkF m 287 #[.val (.long limit), .second, .val (.long t0), .second, .val (.long now1), .second, .val (.long now2), .second, .val (.long bb), .second, .val (.int flags), .val (.long lm), .second, .val (.int i1), .val (.int i2), .val (.int i3), .val (.long b1), .second, .val (.long b2), .second, .val (.long b3), .second, .val (.long now3), .second, .val (.int nv), .val (.ref b205), .val (.int r1), .val (.int r2), .val (.int r3), .val (.int u1), .val (.long z1), .second, .val (.int e1), .val (.int u2), .val (.long z2), .second, .unset, .unset, .unset] [(.int u2)])) _
      refine XS.ifYes X221.here hx rfl (pc0 := 287) (pc' := 310) rfl (hb hby at_287) rfl ((if0 _ _).trans (feq hc287).2) (by decide) (by decide) ?_
      show Steps p.tables e below (T221.setTop (mkF m 310 #[.val (.long limit), .second, .val (.long t0), .second, .val (.long now1), .second, .val (.long now2), .second, .val (.long bb), .second, .val (.int flags), .val (.long lm), .second, .val (.int i1), .val (.int i2), .val (.int i3), .val (.long b1), .second, .val (.long b2), .second, .val (.long b3), .second, .val (.long now3), .second, .val (.int nv), .val (.ref b205), .val (.int r1), .val (.int r2), .val (.int r3), .val (.int u1), .val (.long z1), .second, .val (.int e1), .val (.int u2), .val (.long z2), .second, .unset, .unset, .unset] [])) _
      refine XS.iconst X221.here hx rfl (hb hby at_310) ?_
      exact hk
  have k236 : ∀ t, Steps p.tables e below (T221.setTop (mkF m 315 #[.val (.long limit), .second, .val (.long t0), .second, .val (.long now1), .second, .val (.long now2), .second, .val (.long bb), .second, .val (.int flags), .val (.long lm), .second, .val (.int i1), .val (.int i2), .val (.int i3), .val (.long b1), .second, .val (.long b2), .second, .val (.long b3), .second, .val (.long now3), .second, .val (.int nv), .val (.ref b205), .val (.int r1), .val (.int r2), .val (.int r3), .val (.int u1), .val (.long z1), .second, .val (.int e1), .val (.int u2), .val (.long z2), .second, .val (.int e2), .unset, .unset] [(.int i3)])) t → Steps p.tables e below (s₁.setTop (entryFrame m #[(.long limit), (.long t0), (.long now1), (.long now2), (.long bb), (.int flags)] maxLocals)) t := fun t hk => k235 t (by
    show Steps p.tables e below (T221.setTop (mkF m 311 #[.val (.long limit), .second, .val (.long t0), .second, .val (.long now1), .second, .val (.long now2), .second, .val (.long bb), .second, .val (.int flags), .val (.long lm), .second, .val (.int i1), .val (.int i2), .val (.int i3), .val (.long b1), .second, .val (.long b2), .second, .val (.long b3), .second, .val (.long now3), .second, .val (.int nv), .val (.ref b205), .val (.int r1), .val (.int r2), .val (.int r3), .val (.int u1), .val (.long z1), .second, .val (.int e1), .val (.int u2), .val (.long z2), .second, .unset, .unset, .unset] [(.int e2)])) _
    refine XS.istore X221.here hx rfl (hb hby at_311) rfl (l' := #[.val (.long limit), .second, .val (.long t0), .second, .val (.long now1), .second, .val (.long now2), .second, .val (.long bb), .second, .val (.int flags), .val (.long lm), .second, .val (.int i1), .val (.int i2), .val (.int i3), .val (.long b1), .second, .val (.long b2), .second, .val (.long b3), .second, .val (.long now3), .second, .val (.int nv), .val (.ref b205), .val (.int r1), .val (.int r2), .val (.int r3), .val (.int u1), .val (.long z1), .second, .val (.int e1), .val (.int u2), .val (.long z2), .second, .val (.int e2), .unset, .unset]) rfl ?_
    show Steps p.tables e below (T221.setTop (mkF m 313 #[.val (.long limit), .second, .val (.long t0), .second, .val (.long now1), .second, .val (.long now2), .second, .val (.long bb), .second, .val (.int flags), .val (.long lm), .second, .val (.int i1), .val (.int i2), .val (.int i3), .val (.long b1), .second, .val (.long b2), .second, .val (.long b3), .second, .val (.long now3), .second, .val (.int nv), .val (.ref b205), .val (.int r1), .val (.int r2), .val (.int r3), .val (.int u1), .val (.long z1), .second, .val (.int e1), .val (.int u2), .val (.long z2), .second, .val (.int e2), .unset, .unset] [])) _
    refine XS.iload X221.here hx rfl (hb hby at_313) rfl ?_
    exact hk)
  obtain ⟨u3, hu3, k237⟩ : ∃ (u3 : Int32), (u3 = (if i3 = (0 : Int32) then (if i2 = (0 : Int32) then (if b3 = b2 then (0 : Int32) else (1 : Int32)) else (1 : Int32)) else (1 : Int32))) ∧ ∀ t, Steps p.tables e below (T221.setTop (mkF m 336 #[.val (.long limit), .second, .val (.long t0), .second, .val (.long now1), .second, .val (.long now2), .second, .val (.long bb), .second, .val (.int flags), .val (.long lm), .second, .val (.int i1), .val (.int i2), .val (.int i3), .val (.long b1), .second, .val (.long b2), .second, .val (.long b3), .second, .val (.long now3), .second, .val (.int nv), .val (.ref b205), .val (.int r1), .val (.int r2), .val (.int r3), .val (.int u1), .val (.long z1), .second, .val (.int e1), .val (.int u2), .val (.long z2), .second, .val (.int e2), .unset, .unset] [(.int u3)])) t → Steps p.tables e below (s₁.setTop (entryFrame m #[(.long limit), (.long t0), (.long now1), (.long now2), (.long bb), (.int flags)] maxLocals)) t := by
    by_cases hc315 : i3 = (0 : Int32)
    ·
      by_cases hc320 : i2 = (0 : Int32)
      ·
        by_cases hc328 : b3 = b2
        ·
          refine ⟨(0 : Int32), ((if_pos hc315).trans ((if_pos hc320).trans ((if_pos hc328).trans rfl))).symm, fun t hk => k236 t ?_⟩
          show Steps p.tables e below (T221.setTop (mkF m 315 #[.val (.long limit), .second, .val (.long t0), .second, .val (.long now1), .second, .val (.long now2), .second, .val (.long bb), .second, .val (.int flags), .val (.long lm), .second, .val (.int i1), .val (.int i2), .val (.int i3), .val (.long b1), .second, .val (.long b2), .second, .val (.long b3), .second, .val (.long now3), .second, .val (.int nv), .val (.ref b205), .val (.int r1), .val (.int r2), .val (.int r3), .val (.int u1), .val (.long z1), .second, .val (.int e1), .val (.int u2), .val (.long z2), .second, .val (.int e2), .unset, .unset] [(.int i3)])) _
          refine XS.ifNo X221.here hx rfl (hb hby at_315) rfl ((if0 _ _).trans (teq hc315).2) ?_
          show Steps p.tables e below (T221.setTop (mkF m 318 #[.val (.long limit), .second, .val (.long t0), .second, .val (.long now1), .second, .val (.long now2), .second, .val (.long bb), .second, .val (.int flags), .val (.long lm), .second, .val (.int i1), .val (.int i2), .val (.int i3), .val (.long b1), .second, .val (.long b2), .second, .val (.long b3), .second, .val (.long now3), .second, .val (.int nv), .val (.ref b205), .val (.int r1), .val (.int r2), .val (.int r3), .val (.int u1), .val (.long z1), .second, .val (.int e1), .val (.int u2), .val (.long z2), .second, .val (.int e2), .unset, .unset] [])) _
          refine XS.iload X221.here hx rfl (hb hby at_318) rfl ?_
          show Steps p.tables e below (T221.setTop (mkF m 320 #[.val (.long limit), .second, .val (.long t0), .second, .val (.long now1), .second, .val (.long now2), .second, .val (.long bb), .second, .val (.int flags), .val (.long lm), .second, .val (.int i1), .val (.int i2), .val (.int i3), .val (.long b1), .second, .val (.long b2), .second, .val (.long b3), .second, .val (.long now3), .second, .val (.int nv), .val (.ref b205), .val (.int r1), .val (.int r2), .val (.int r3), .val (.int u1), .val (.long z1), .second, .val (.int e1), .val (.int u2), .val (.long z2), .second, .val (.int e2), .unset, .unset] [(.int i2)])) _
          refine XS.ifNo X221.here hx rfl (hb hby at_320) rfl ((if0 _ _).trans (teq hc320).2) ?_
          show Steps p.tables e below (T221.setTop (mkF m 323 #[.val (.long limit), .second, .val (.long t0), .second, .val (.long now1), .second, .val (.long now2), .second, .val (.long bb), .second, .val (.int flags), .val (.long lm), .second, .val (.int i1), .val (.int i2), .val (.int i3), .val (.long b1), .second, .val (.long b2), .second, .val (.long b3), .second, .val (.long now3), .second, .val (.int nv), .val (.ref b205), .val (.int r1), .val (.int r2), .val (.int r3), .val (.int u1), .val (.long z1), .second, .val (.int e1), .val (.int u2), .val (.long z2), .second, .val (.int e2), .unset, .unset] [])) _
          refine XS.lload X221.here hx rfl (hb hby at_323) rfl ?_
          show Steps p.tables e below (T221.setTop (mkF m 325 #[.val (.long limit), .second, .val (.long t0), .second, .val (.long now1), .second, .val (.long now2), .second, .val (.long bb), .second, .val (.int flags), .val (.long lm), .second, .val (.int i1), .val (.int i2), .val (.int i3), .val (.long b1), .second, .val (.long b2), .second, .val (.long b3), .second, .val (.long now3), .second, .val (.int nv), .val (.ref b205), .val (.int r1), .val (.int r2), .val (.int r3), .val (.int u1), .val (.long z1), .second, .val (.int e1), .val (.int u2), .val (.long z2), .second, .val (.int e2), .unset, .unset] [(.long b3)])) _
          refine XS.lload X221.here hx rfl (hb hby at_325) rfl ?_
          show Steps p.tables e below (T221.setTop (mkF m 327 #[.val (.long limit), .second, .val (.long t0), .second, .val (.long now1), .second, .val (.long now2), .second, .val (.long bb), .second, .val (.int flags), .val (.long lm), .second, .val (.int i1), .val (.int i2), .val (.int i3), .val (.long b1), .second, .val (.long b2), .second, .val (.long b3), .second, .val (.long now3), .second, .val (.int nv), .val (.ref b205), .val (.int r1), .val (.int r2), .val (.int r3), .val (.int u1), .val (.long z1), .second, .val (.int e1), .val (.int u2), .val (.long z2), .second, .val (.int e2), .unset, .unset] [(.long b2), (.long b3)])) _
          refine XS.lcmp X221.here hx rfl (hb hby at_327) rfl ?_
          show Steps p.tables e below (T221.setTop (mkF m 328 #[.val (.long limit), .second, .val (.long t0), .second, .val (.long now1), .second, .val (.long now2), .second, .val (.long bb), .second, .val (.int flags), .val (.long lm), .second, .val (.int i1), .val (.int i2), .val (.int i3), .val (.long b1), .second, .val (.long b2), .second, .val (.long b3), .second, .val (.long now3), .second, .val (.int nv), .val (.ref b205), .val (.int r1), .val (.int r2), .val (.int r3), .val (.int u1), .val (.long z1), .second, .val (.int e1), .val (.int u2), .val (.long z2), .second, .val (.int e2), .unset, .unset] [(.int (lcmpW b3 b2))])) _
          refine XS.ifYes X221.here hx rfl (pc0 := 328) (pc' := 335) rfl (hb hby at_328) rfl ((if0 _ _).trans (teq ((lw_eq _ _).mpr hc328)).1) (by decide) (by decide) ?_
          show Steps p.tables e below (T221.setTop (mkF m 335 #[.val (.long limit), .second, .val (.long t0), .second, .val (.long now1), .second, .val (.long now2), .second, .val (.long bb), .second, .val (.int flags), .val (.long lm), .second, .val (.int i1), .val (.int i2), .val (.int i3), .val (.long b1), .second, .val (.long b2), .second, .val (.long b3), .second, .val (.long now3), .second, .val (.int nv), .val (.ref b205), .val (.int r1), .val (.int r2), .val (.int r3), .val (.int u1), .val (.long z1), .second, .val (.int e1), .val (.int u2), .val (.long z2), .second, .val (.int e2), .unset, .unset] [])) _
          refine XS.iconst X221.here hx rfl (hb hby at_335) ?_
          exact hk
        ·
          refine ⟨(1 : Int32), ((if_pos hc315).trans ((if_pos hc320).trans ((if_neg hc328).trans rfl))).symm, fun t hk => k236 t ?_⟩
          show Steps p.tables e below (T221.setTop (mkF m 315 #[.val (.long limit), .second, .val (.long t0), .second, .val (.long now1), .second, .val (.long now2), .second, .val (.long bb), .second, .val (.int flags), .val (.long lm), .second, .val (.int i1), .val (.int i2), .val (.int i3), .val (.long b1), .second, .val (.long b2), .second, .val (.long b3), .second, .val (.long now3), .second, .val (.int nv), .val (.ref b205), .val (.int r1), .val (.int r2), .val (.int r3), .val (.int u1), .val (.long z1), .second, .val (.int e1), .val (.int u2), .val (.long z2), .second, .val (.int e2), .unset, .unset] [(.int i3)])) _
          refine XS.ifNo X221.here hx rfl (hb hby at_315) rfl ((if0 _ _).trans (teq hc315).2) ?_
          show Steps p.tables e below (T221.setTop (mkF m 318 #[.val (.long limit), .second, .val (.long t0), .second, .val (.long now1), .second, .val (.long now2), .second, .val (.long bb), .second, .val (.int flags), .val (.long lm), .second, .val (.int i1), .val (.int i2), .val (.int i3), .val (.long b1), .second, .val (.long b2), .second, .val (.long b3), .second, .val (.long now3), .second, .val (.int nv), .val (.ref b205), .val (.int r1), .val (.int r2), .val (.int r3), .val (.int u1), .val (.long z1), .second, .val (.int e1), .val (.int u2), .val (.long z2), .second, .val (.int e2), .unset, .unset] [])) _
          refine XS.iload X221.here hx rfl (hb hby at_318) rfl ?_
          show Steps p.tables e below (T221.setTop (mkF m 320 #[.val (.long limit), .second, .val (.long t0), .second, .val (.long now1), .second, .val (.long now2), .second, .val (.long bb), .second, .val (.int flags), .val (.long lm), .second, .val (.int i1), .val (.int i2), .val (.int i3), .val (.long b1), .second, .val (.long b2), .second, .val (.long b3), .second, .val (.long now3), .second, .val (.int nv), .val (.ref b205), .val (.int r1), .val (.int r2), .val (.int r3), .val (.int u1), .val (.long z1), .second, .val (.int e1), .val (.int u2), .val (.long z2), .second, .val (.int e2), .unset, .unset] [(.int i2)])) _
          refine XS.ifNo X221.here hx rfl (hb hby at_320) rfl ((if0 _ _).trans (teq hc320).2) ?_
          show Steps p.tables e below (T221.setTop (mkF m 323 #[.val (.long limit), .second, .val (.long t0), .second, .val (.long now1), .second, .val (.long now2), .second, .val (.long bb), .second, .val (.int flags), .val (.long lm), .second, .val (.int i1), .val (.int i2), .val (.int i3), .val (.long b1), .second, .val (.long b2), .second, .val (.long b3), .second, .val (.long now3), .second, .val (.int nv), .val (.ref b205), .val (.int r1), .val (.int r2), .val (.int r3), .val (.int u1), .val (.long z1), .second, .val (.int e1), .val (.int u2), .val (.long z2), .second, .val (.int e2), .unset, .unset] [])) _
          refine XS.lload X221.here hx rfl (hb hby at_323) rfl ?_
          show Steps p.tables e below (T221.setTop (mkF m 325 #[.val (.long limit), .second, .val (.long t0), .second, .val (.long now1), .second, .val (.long now2), .second, .val (.long bb), .second, .val (.int flags), .val (.long lm), .second, .val (.int i1), .val (.int i2), .val (.int i3), .val (.long b1), .second, .val (.long b2), .second, .val (.long b3), .second, .val (.long now3), .second, .val (.int nv), .val (.ref b205), .val (.int r1), .val (.int r2), .val (.int r3), .val (.int u1), .val (.long z1), .second, .val (.int e1), .val (.int u2), .val (.long z2), .second, .val (.int e2), .unset, .unset] [(.long b3)])) _
          refine XS.lload X221.here hx rfl (hb hby at_325) rfl ?_
          show Steps p.tables e below (T221.setTop (mkF m 327 #[.val (.long limit), .second, .val (.long t0), .second, .val (.long now1), .second, .val (.long now2), .second, .val (.long bb), .second, .val (.int flags), .val (.long lm), .second, .val (.int i1), .val (.int i2), .val (.int i3), .val (.long b1), .second, .val (.long b2), .second, .val (.long b3), .second, .val (.long now3), .second, .val (.int nv), .val (.ref b205), .val (.int r1), .val (.int r2), .val (.int r3), .val (.int u1), .val (.long z1), .second, .val (.int e1), .val (.int u2), .val (.long z2), .second, .val (.int e2), .unset, .unset] [(.long b2), (.long b3)])) _
          refine XS.lcmp X221.here hx rfl (hb hby at_327) rfl ?_
          show Steps p.tables e below (T221.setTop (mkF m 328 #[.val (.long limit), .second, .val (.long t0), .second, .val (.long now1), .second, .val (.long now2), .second, .val (.long bb), .second, .val (.int flags), .val (.long lm), .second, .val (.int i1), .val (.int i2), .val (.int i3), .val (.long b1), .second, .val (.long b2), .second, .val (.long b3), .second, .val (.long now3), .second, .val (.int nv), .val (.ref b205), .val (.int r1), .val (.int r2), .val (.int r3), .val (.int u1), .val (.long z1), .second, .val (.int e1), .val (.int u2), .val (.long z2), .second, .val (.int e2), .unset, .unset] [(.int (lcmpW b3 b2))])) _
          refine XS.ifNo X221.here hx rfl (hb hby at_328) rfl ((if0 _ _).trans (feq (fun q => hc328 ((lw_eq _ _).mp q))).1) ?_
          show Steps p.tables e below (T221.setTop (mkF m 331 #[.val (.long limit), .second, .val (.long t0), .second, .val (.long now1), .second, .val (.long now2), .second, .val (.long bb), .second, .val (.int flags), .val (.long lm), .second, .val (.int i1), .val (.int i2), .val (.int i3), .val (.long b1), .second, .val (.long b2), .second, .val (.long b3), .second, .val (.long now3), .second, .val (.int nv), .val (.ref b205), .val (.int r1), .val (.int r2), .val (.int r3), .val (.int u1), .val (.long z1), .second, .val (.int e1), .val (.int u2), .val (.long z2), .second, .val (.int e2), .unset, .unset] [])) _
          refine XS.iconst X221.here hx rfl (hb hby at_331) ?_
          show Steps p.tables e below (T221.setTop (mkF m 332 #[.val (.long limit), .second, .val (.long t0), .second, .val (.long now1), .second, .val (.long now2), .second, .val (.long bb), .second, .val (.int flags), .val (.long lm), .second, .val (.int i1), .val (.int i2), .val (.int i3), .val (.long b1), .second, .val (.long b2), .second, .val (.long b3), .second, .val (.long now3), .second, .val (.int nv), .val (.ref b205), .val (.int r1), .val (.int r2), .val (.int r3), .val (.int u1), .val (.long z1), .second, .val (.int e1), .val (.int u2), .val (.long z2), .second, .val (.int e2), .unset, .unset] [(.int (1 : Int32))])) _
          refine XS.goto X221.here hx rfl (pc0 := 332) (pc' := 336) rfl (hb hby at_332) (by decide) (by decide) ?_
          exact hk
      ·
        refine ⟨(1 : Int32), ((if_pos hc315).trans ((if_neg hc320).trans rfl)).symm, fun t hk => k236 t ?_⟩
        show Steps p.tables e below (T221.setTop (mkF m 315 #[.val (.long limit), .second, .val (.long t0), .second, .val (.long now1), .second, .val (.long now2), .second, .val (.long bb), .second, .val (.int flags), .val (.long lm), .second, .val (.int i1), .val (.int i2), .val (.int i3), .val (.long b1), .second, .val (.long b2), .second, .val (.long b3), .second, .val (.long now3), .second, .val (.int nv), .val (.ref b205), .val (.int r1), .val (.int r2), .val (.int r3), .val (.int u1), .val (.long z1), .second, .val (.int e1), .val (.int u2), .val (.long z2), .second, .val (.int e2), .unset, .unset] [(.int i3)])) _
        refine XS.ifNo X221.here hx rfl (hb hby at_315) rfl ((if0 _ _).trans (teq hc315).2) ?_
        show Steps p.tables e below (T221.setTop (mkF m 318 #[.val (.long limit), .second, .val (.long t0), .second, .val (.long now1), .second, .val (.long now2), .second, .val (.long bb), .second, .val (.int flags), .val (.long lm), .second, .val (.int i1), .val (.int i2), .val (.int i3), .val (.long b1), .second, .val (.long b2), .second, .val (.long b3), .second, .val (.long now3), .second, .val (.int nv), .val (.ref b205), .val (.int r1), .val (.int r2), .val (.int r3), .val (.int u1), .val (.long z1), .second, .val (.int e1), .val (.int u2), .val (.long z2), .second, .val (.int e2), .unset, .unset] [])) _
        refine XS.iload X221.here hx rfl (hb hby at_318) rfl ?_
        show Steps p.tables e below (T221.setTop (mkF m 320 #[.val (.long limit), .second, .val (.long t0), .second, .val (.long now1), .second, .val (.long now2), .second, .val (.long bb), .second, .val (.int flags), .val (.long lm), .second, .val (.int i1), .val (.int i2), .val (.int i3), .val (.long b1), .second, .val (.long b2), .second, .val (.long b3), .second, .val (.long now3), .second, .val (.int nv), .val (.ref b205), .val (.int r1), .val (.int r2), .val (.int r3), .val (.int u1), .val (.long z1), .second, .val (.int e1), .val (.int u2), .val (.long z2), .second, .val (.int e2), .unset, .unset] [(.int i2)])) _
        refine XS.ifYes X221.here hx rfl (pc0 := 320) (pc' := 331) rfl (hb hby at_320) rfl ((if0 _ _).trans (feq hc320).2) (by decide) (by decide) ?_
        show Steps p.tables e below (T221.setTop (mkF m 331 #[.val (.long limit), .second, .val (.long t0), .second, .val (.long now1), .second, .val (.long now2), .second, .val (.long bb), .second, .val (.int flags), .val (.long lm), .second, .val (.int i1), .val (.int i2), .val (.int i3), .val (.long b1), .second, .val (.long b2), .second, .val (.long b3), .second, .val (.long now3), .second, .val (.int nv), .val (.ref b205), .val (.int r1), .val (.int r2), .val (.int r3), .val (.int u1), .val (.long z1), .second, .val (.int e1), .val (.int u2), .val (.long z2), .second, .val (.int e2), .unset, .unset] [])) _
        refine XS.iconst X221.here hx rfl (hb hby at_331) ?_
        show Steps p.tables e below (T221.setTop (mkF m 332 #[.val (.long limit), .second, .val (.long t0), .second, .val (.long now1), .second, .val (.long now2), .second, .val (.long bb), .second, .val (.int flags), .val (.long lm), .second, .val (.int i1), .val (.int i2), .val (.int i3), .val (.long b1), .second, .val (.long b2), .second, .val (.long b3), .second, .val (.long now3), .second, .val (.int nv), .val (.ref b205), .val (.int r1), .val (.int r2), .val (.int r3), .val (.int u1), .val (.long z1), .second, .val (.int e1), .val (.int u2), .val (.long z2), .second, .val (.int e2), .unset, .unset] [(.int (1 : Int32))])) _
        refine XS.goto X221.here hx rfl (pc0 := 332) (pc' := 336) rfl (hb hby at_332) (by decide) (by decide) ?_
        exact hk
    ·
      refine ⟨(1 : Int32), ((if_neg hc315).trans rfl).symm, fun t hk => k236 t ?_⟩
      show Steps p.tables e below (T221.setTop (mkF m 315 #[.val (.long limit), .second, .val (.long t0), .second, .val (.long now1), .second, .val (.long now2), .second, .val (.long bb), .second, .val (.int flags), .val (.long lm), .second, .val (.int i1), .val (.int i2), .val (.int i3), .val (.long b1), .second, .val (.long b2), .second, .val (.long b3), .second, .val (.long now3), .second, .val (.int nv), .val (.ref b205), .val (.int r1), .val (.int r2), .val (.int r3), .val (.int u1), .val (.long z1), .second, .val (.int e1), .val (.int u2), .val (.long z2), .second, .val (.int e2), .unset, .unset] [(.int i3)])) _
      refine XS.ifYes X221.here hx rfl (pc0 := 315) (pc' := 331) rfl (hb hby at_315) rfl ((if0 _ _).trans (feq hc315).2) (by decide) (by decide) ?_
      show Steps p.tables e below (T221.setTop (mkF m 331 #[.val (.long limit), .second, .val (.long t0), .second, .val (.long now1), .second, .val (.long now2), .second, .val (.long bb), .second, .val (.int flags), .val (.long lm), .second, .val (.int i1), .val (.int i2), .val (.int i3), .val (.long b1), .second, .val (.long b2), .second, .val (.long b3), .second, .val (.long now3), .second, .val (.int nv), .val (.ref b205), .val (.int r1), .val (.int r2), .val (.int r3), .val (.int u1), .val (.long z1), .second, .val (.int e1), .val (.int u2), .val (.long z2), .second, .val (.int e2), .unset, .unset] [])) _
      refine XS.iconst X221.here hx rfl (hb hby at_331) ?_
      show Steps p.tables e below (T221.setTop (mkF m 332 #[.val (.long limit), .second, .val (.long t0), .second, .val (.long now1), .second, .val (.long now2), .second, .val (.long bb), .second, .val (.int flags), .val (.long lm), .second, .val (.int i1), .val (.int i2), .val (.int i3), .val (.long b1), .second, .val (.long b2), .second, .val (.long b3), .second, .val (.long now3), .second, .val (.int nv), .val (.ref b205), .val (.int r1), .val (.int r2), .val (.int r3), .val (.int u1), .val (.long z1), .second, .val (.int e1), .val (.int u2), .val (.long z2), .second, .val (.int e2), .unset, .unset] [(.int (1 : Int32))])) _
      refine XS.goto X221.here hx rfl (pc0 := 332) (pc' := 336) rfl (hb hby at_332) (by decide) (by decide) ?_
      exact hk
  have k238 : ∀ t, Steps p.tables e below (T221.setTop (mkF m 340 #[.val (.long limit), .second, .val (.long t0), .second, .val (.long now1), .second, .val (.long now2), .second, .val (.long bb), .second, .val (.int flags), .val (.long lm), .second, .val (.int i1), .val (.int i2), .val (.int i3), .val (.long b1), .second, .val (.long b2), .second, .val (.long b3), .second, .val (.long now3), .second, .val (.int nv), .val (.ref b205), .val (.int r1), .val (.int r2), .val (.int r3), .val (.int u1), .val (.long z1), .second, .val (.int e1), .val (.int u2), .val (.long z2), .second, .val (.int e2), .val (.int u3), .unset] [(.int u3)])) t → Steps p.tables e below (s₁.setTop (entryFrame m #[(.long limit), (.long t0), (.long now1), (.long now2), (.long bb), (.int flags)] maxLocals)) t := fun t hk => k237 t (by
    show Steps p.tables e below (T221.setTop (mkF m 336 #[.val (.long limit), .second, .val (.long t0), .second, .val (.long now1), .second, .val (.long now2), .second, .val (.long bb), .second, .val (.int flags), .val (.long lm), .second, .val (.int i1), .val (.int i2), .val (.int i3), .val (.long b1), .second, .val (.long b2), .second, .val (.long b3), .second, .val (.long now3), .second, .val (.int nv), .val (.ref b205), .val (.int r1), .val (.int r2), .val (.int r3), .val (.int u1), .val (.long z1), .second, .val (.int e1), .val (.int u2), .val (.long z2), .second, .val (.int e2), .unset, .unset] [(.int u3)])) _
    refine XS.istore X221.here hx rfl (hb hby at_336) rfl (l' := #[.val (.long limit), .second, .val (.long t0), .second, .val (.long now1), .second, .val (.long now2), .second, .val (.long bb), .second, .val (.int flags), .val (.long lm), .second, .val (.int i1), .val (.int i2), .val (.int i3), .val (.long b1), .second, .val (.long b2), .second, .val (.long b3), .second, .val (.long now3), .second, .val (.int nv), .val (.ref b205), .val (.int r1), .val (.int r2), .val (.int r3), .val (.int u1), .val (.long z1), .second, .val (.int e1), .val (.int u2), .val (.long z2), .second, .val (.int e2), .val (.int u3), .unset]) rfl ?_
    show Steps p.tables e below (T221.setTop (mkF m 338 #[.val (.long limit), .second, .val (.long t0), .second, .val (.long now1), .second, .val (.long now2), .second, .val (.long bb), .second, .val (.int flags), .val (.long lm), .second, .val (.int i1), .val (.int i2), .val (.int i3), .val (.long b1), .second, .val (.long b2), .second, .val (.long b3), .second, .val (.long now3), .second, .val (.int nv), .val (.ref b205), .val (.int r1), .val (.int r2), .val (.int r3), .val (.int u1), .val (.long z1), .second, .val (.int e1), .val (.int u2), .val (.long z2), .second, .val (.int e2), .val (.int u3), .unset] [])) _
    refine XS.iload X221.here hx rfl (hb hby at_338) rfl ?_
    exact hk)
  obtain ⟨e3, he3, k239⟩ : ∃ (e3 : Int32), (e3 = (if u3 = (0 : Int32) then (if nv = (0 : Int32) then (if (now3 - z2) < lm then (0 : Int32) else (1 : Int32)) else (0 : Int32)) else (0 : Int32))) ∧ ∀ t, Steps p.tables e below (T221.setTop (mkF m 364 #[.val (.long limit), .second, .val (.long t0), .second, .val (.long now1), .second, .val (.long now2), .second, .val (.long bb), .second, .val (.int flags), .val (.long lm), .second, .val (.int i1), .val (.int i2), .val (.int i3), .val (.long b1), .second, .val (.long b2), .second, .val (.long b3), .second, .val (.long now3), .second, .val (.int nv), .val (.ref b205), .val (.int r1), .val (.int r2), .val (.int r3), .val (.int u1), .val (.long z1), .second, .val (.int e1), .val (.int u2), .val (.long z2), .second, .val (.int e2), .val (.int u3), .unset] [(.int e3)])) t → Steps p.tables e below (s₁.setTop (entryFrame m #[(.long limit), (.long t0), (.long now1), (.long now2), (.long bb), (.int flags)] maxLocals)) t := by
    by_cases hc340 : u3 = (0 : Int32)
    ·
      by_cases hc345 : nv = (0 : Int32)
      ·
        by_cases hc356 : (now3 - z2) < lm
        ·
          refine ⟨(0 : Int32), ((if_pos hc340).trans ((if_pos hc345).trans ((if_pos hc356).trans rfl))).symm, fun t hk => k238 t ?_⟩
          show Steps p.tables e below (T221.setTop (mkF m 340 #[.val (.long limit), .second, .val (.long t0), .second, .val (.long now1), .second, .val (.long now2), .second, .val (.long bb), .second, .val (.int flags), .val (.long lm), .second, .val (.int i1), .val (.int i2), .val (.int i3), .val (.long b1), .second, .val (.long b2), .second, .val (.long b3), .second, .val (.long now3), .second, .val (.int nv), .val (.ref b205), .val (.int r1), .val (.int r2), .val (.int r3), .val (.int u1), .val (.long z1), .second, .val (.int e1), .val (.int u2), .val (.long z2), .second, .val (.int e2), .val (.int u3), .unset] [(.int u3)])) _
          refine XS.ifNo X221.here hx rfl (hb hby at_340) rfl ((if0 _ _).trans (teq hc340).2) ?_
          show Steps p.tables e below (T221.setTop (mkF m 343 #[.val (.long limit), .second, .val (.long t0), .second, .val (.long now1), .second, .val (.long now2), .second, .val (.long bb), .second, .val (.int flags), .val (.long lm), .second, .val (.int i1), .val (.int i2), .val (.int i3), .val (.long b1), .second, .val (.long b2), .second, .val (.long b3), .second, .val (.long now3), .second, .val (.int nv), .val (.ref b205), .val (.int r1), .val (.int r2), .val (.int r3), .val (.int u1), .val (.long z1), .second, .val (.int e1), .val (.int u2), .val (.long z2), .second, .val (.int e2), .val (.int u3), .unset] [])) _
          refine XS.iload X221.here hx rfl (hb hby at_343) rfl ?_
          show Steps p.tables e below (T221.setTop (mkF m 345 #[.val (.long limit), .second, .val (.long t0), .second, .val (.long now1), .second, .val (.long now2), .second, .val (.long bb), .second, .val (.int flags), .val (.long lm), .second, .val (.int i1), .val (.int i2), .val (.int i3), .val (.long b1), .second, .val (.long b2), .second, .val (.long b3), .second, .val (.long now3), .second, .val (.int nv), .val (.ref b205), .val (.int r1), .val (.int r2), .val (.int r3), .val (.int u1), .val (.long z1), .second, .val (.int e1), .val (.int u2), .val (.long z2), .second, .val (.int e2), .val (.int u3), .unset] [(.int nv)])) _
          refine XS.ifNo X221.here hx rfl (hb hby at_345) rfl ((if0 _ _).trans (teq hc345).2) ?_
          show Steps p.tables e below (T221.setTop (mkF m 348 #[.val (.long limit), .second, .val (.long t0), .second, .val (.long now1), .second, .val (.long now2), .second, .val (.long bb), .second, .val (.int flags), .val (.long lm), .second, .val (.int i1), .val (.int i2), .val (.int i3), .val (.long b1), .second, .val (.long b2), .second, .val (.long b3), .second, .val (.long now3), .second, .val (.int nv), .val (.ref b205), .val (.int r1), .val (.int r2), .val (.int r3), .val (.int u1), .val (.long z1), .second, .val (.int e1), .val (.int u2), .val (.long z2), .second, .val (.int e2), .val (.int u3), .unset] [])) _
          refine XS.lload X221.here hx rfl (hb hby at_348) rfl ?_
          show Steps p.tables e below (T221.setTop (mkF m 350 #[.val (.long limit), .second, .val (.long t0), .second, .val (.long now1), .second, .val (.long now2), .second, .val (.long bb), .second, .val (.int flags), .val (.long lm), .second, .val (.int i1), .val (.int i2), .val (.int i3), .val (.long b1), .second, .val (.long b2), .second, .val (.long b3), .second, .val (.long now3), .second, .val (.int nv), .val (.ref b205), .val (.int r1), .val (.int r2), .val (.int r3), .val (.int u1), .val (.long z1), .second, .val (.int e1), .val (.int u2), .val (.long z2), .second, .val (.int e2), .val (.int u3), .unset] [(.long now3)])) _
          refine XS.lload X221.here hx rfl (hb hby at_350) rfl ?_
          show Steps p.tables e below (T221.setTop (mkF m 352 #[.val (.long limit), .second, .val (.long t0), .second, .val (.long now1), .second, .val (.long now2), .second, .val (.long bb), .second, .val (.int flags), .val (.long lm), .second, .val (.int i1), .val (.int i2), .val (.int i3), .val (.long b1), .second, .val (.long b2), .second, .val (.long b3), .second, .val (.long now3), .second, .val (.int nv), .val (.ref b205), .val (.int r1), .val (.int r2), .val (.int r3), .val (.int u1), .val (.long z1), .second, .val (.int e1), .val (.int u2), .val (.long z2), .second, .val (.int e2), .val (.int u3), .unset] [(.long z2), (.long now3)])) _
          refine XS.lsub X221.here hx rfl (hb hby at_352) rfl ?_
          show Steps p.tables e below (T221.setTop (mkF m 353 #[.val (.long limit), .second, .val (.long t0), .second, .val (.long now1), .second, .val (.long now2), .second, .val (.long bb), .second, .val (.int flags), .val (.long lm), .second, .val (.int i1), .val (.int i2), .val (.int i3), .val (.long b1), .second, .val (.long b2), .second, .val (.long b3), .second, .val (.long now3), .second, .val (.int nv), .val (.ref b205), .val (.int r1), .val (.int r2), .val (.int r3), .val (.int u1), .val (.long z1), .second, .val (.int e1), .val (.int u2), .val (.long z2), .second, .val (.int e2), .val (.int u3), .unset] [(.long (now3 - z2))])) _
          refine XS.lload X221.here hx rfl (hb hby at_353) rfl ?_
          show Steps p.tables e below (T221.setTop (mkF m 355 #[.val (.long limit), .second, .val (.long t0), .second, .val (.long now1), .second, .val (.long now2), .second, .val (.long bb), .second, .val (.int flags), .val (.long lm), .second, .val (.int i1), .val (.int i2), .val (.int i3), .val (.long b1), .second, .val (.long b2), .second, .val (.long b3), .second, .val (.long now3), .second, .val (.int nv), .val (.ref b205), .val (.int r1), .val (.int r2), .val (.int r3), .val (.int u1), .val (.long z1), .second, .val (.int e1), .val (.int u2), .val (.long z2), .second, .val (.int e2), .val (.int u3), .unset] [(.long lm), (.long (now3 - z2))])) _
          refine XS.lcmp X221.here hx rfl (hb hby at_355) rfl ?_
          show Steps p.tables e below (T221.setTop (mkF m 356 #[.val (.long limit), .second, .val (.long t0), .second, .val (.long now1), .second, .val (.long now2), .second, .val (.long bb), .second, .val (.int flags), .val (.long lm), .second, .val (.int i1), .val (.int i2), .val (.int i3), .val (.long b1), .second, .val (.long b2), .second, .val (.long b3), .second, .val (.long now3), .second, .val (.int nv), .val (.ref b205), .val (.int r1), .val (.int r2), .val (.int r3), .val (.int u1), .val (.long z1), .second, .val (.int e1), .val (.int u2), .val (.long z2), .second, .val (.int e2), .val (.int u3), .unset] [(.int (lcmpW (now3 - z2) lm))])) _
          refine XS.ifYes X221.here hx rfl (pc0 := 356) (pc' := 363) rfl (hb hby at_356) rfl ((if0 _ _).trans (tlt ((lw_lt _ _).mpr hc356)).1) (by decide) (by decide) ?_
          show Steps p.tables e below (T221.setTop (mkF m 363 #[.val (.long limit), .second, .val (.long t0), .second, .val (.long now1), .second, .val (.long now2), .second, .val (.long bb), .second, .val (.int flags), .val (.long lm), .second, .val (.int i1), .val (.int i2), .val (.int i3), .val (.long b1), .second, .val (.long b2), .second, .val (.long b3), .second, .val (.long now3), .second, .val (.int nv), .val (.ref b205), .val (.int r1), .val (.int r2), .val (.int r3), .val (.int u1), .val (.long z1), .second, .val (.int e1), .val (.int u2), .val (.long z2), .second, .val (.int e2), .val (.int u3), .unset] [])) _
          refine XS.iconst X221.here hx rfl (hb hby at_363) ?_
          exact hk
        ·
          refine ⟨(1 : Int32), ((if_pos hc340).trans ((if_pos hc345).trans ((if_neg hc356).trans rfl))).symm, fun t hk => k238 t ?_⟩
          show Steps p.tables e below (T221.setTop (mkF m 340 #[.val (.long limit), .second, .val (.long t0), .second, .val (.long now1), .second, .val (.long now2), .second, .val (.long bb), .second, .val (.int flags), .val (.long lm), .second, .val (.int i1), .val (.int i2), .val (.int i3), .val (.long b1), .second, .val (.long b2), .second, .val (.long b3), .second, .val (.long now3), .second, .val (.int nv), .val (.ref b205), .val (.int r1), .val (.int r2), .val (.int r3), .val (.int u1), .val (.long z1), .second, .val (.int e1), .val (.int u2), .val (.long z2), .second, .val (.int e2), .val (.int u3), .unset] [(.int u3)])) _
          refine XS.ifNo X221.here hx rfl (hb hby at_340) rfl ((if0 _ _).trans (teq hc340).2) ?_
          show Steps p.tables e below (T221.setTop (mkF m 343 #[.val (.long limit), .second, .val (.long t0), .second, .val (.long now1), .second, .val (.long now2), .second, .val (.long bb), .second, .val (.int flags), .val (.long lm), .second, .val (.int i1), .val (.int i2), .val (.int i3), .val (.long b1), .second, .val (.long b2), .second, .val (.long b3), .second, .val (.long now3), .second, .val (.int nv), .val (.ref b205), .val (.int r1), .val (.int r2), .val (.int r3), .val (.int u1), .val (.long z1), .second, .val (.int e1), .val (.int u2), .val (.long z2), .second, .val (.int e2), .val (.int u3), .unset] [])) _
          refine XS.iload X221.here hx rfl (hb hby at_343) rfl ?_
          show Steps p.tables e below (T221.setTop (mkF m 345 #[.val (.long limit), .second, .val (.long t0), .second, .val (.long now1), .second, .val (.long now2), .second, .val (.long bb), .second, .val (.int flags), .val (.long lm), .second, .val (.int i1), .val (.int i2), .val (.int i3), .val (.long b1), .second, .val (.long b2), .second, .val (.long b3), .second, .val (.long now3), .second, .val (.int nv), .val (.ref b205), .val (.int r1), .val (.int r2), .val (.int r3), .val (.int u1), .val (.long z1), .second, .val (.int e1), .val (.int u2), .val (.long z2), .second, .val (.int e2), .val (.int u3), .unset] [(.int nv)])) _
          refine XS.ifNo X221.here hx rfl (hb hby at_345) rfl ((if0 _ _).trans (teq hc345).2) ?_
          show Steps p.tables e below (T221.setTop (mkF m 348 #[.val (.long limit), .second, .val (.long t0), .second, .val (.long now1), .second, .val (.long now2), .second, .val (.long bb), .second, .val (.int flags), .val (.long lm), .second, .val (.int i1), .val (.int i2), .val (.int i3), .val (.long b1), .second, .val (.long b2), .second, .val (.long b3), .second, .val (.long now3), .second, .val (.int nv), .val (.ref b205), .val (.int r1), .val (.int r2), .val (.int r3), .val (.int u1), .val (.long z1), .second, .val (.int e1), .val (.int u2), .val (.long z2), .second, .val (.int e2), .val (.int u3), .unset] [])) _
          refine XS.lload X221.here hx rfl (hb hby at_348) rfl ?_
          show Steps p.tables e below (T221.setTop (mkF m 350 #[.val (.long limit), .second, .val (.long t0), .second, .val (.long now1), .second, .val (.long now2), .second, .val (.long bb), .second, .val (.int flags), .val (.long lm), .second, .val (.int i1), .val (.int i2), .val (.int i3), .val (.long b1), .second, .val (.long b2), .second, .val (.long b3), .second, .val (.long now3), .second, .val (.int nv), .val (.ref b205), .val (.int r1), .val (.int r2), .val (.int r3), .val (.int u1), .val (.long z1), .second, .val (.int e1), .val (.int u2), .val (.long z2), .second, .val (.int e2), .val (.int u3), .unset] [(.long now3)])) _
          refine XS.lload X221.here hx rfl (hb hby at_350) rfl ?_
          show Steps p.tables e below (T221.setTop (mkF m 352 #[.val (.long limit), .second, .val (.long t0), .second, .val (.long now1), .second, .val (.long now2), .second, .val (.long bb), .second, .val (.int flags), .val (.long lm), .second, .val (.int i1), .val (.int i2), .val (.int i3), .val (.long b1), .second, .val (.long b2), .second, .val (.long b3), .second, .val (.long now3), .second, .val (.int nv), .val (.ref b205), .val (.int r1), .val (.int r2), .val (.int r3), .val (.int u1), .val (.long z1), .second, .val (.int e1), .val (.int u2), .val (.long z2), .second, .val (.int e2), .val (.int u3), .unset] [(.long z2), (.long now3)])) _
          refine XS.lsub X221.here hx rfl (hb hby at_352) rfl ?_
          show Steps p.tables e below (T221.setTop (mkF m 353 #[.val (.long limit), .second, .val (.long t0), .second, .val (.long now1), .second, .val (.long now2), .second, .val (.long bb), .second, .val (.int flags), .val (.long lm), .second, .val (.int i1), .val (.int i2), .val (.int i3), .val (.long b1), .second, .val (.long b2), .second, .val (.long b3), .second, .val (.long now3), .second, .val (.int nv), .val (.ref b205), .val (.int r1), .val (.int r2), .val (.int r3), .val (.int u1), .val (.long z1), .second, .val (.int e1), .val (.int u2), .val (.long z2), .second, .val (.int e2), .val (.int u3), .unset] [(.long (now3 - z2))])) _
          refine XS.lload X221.here hx rfl (hb hby at_353) rfl ?_
          show Steps p.tables e below (T221.setTop (mkF m 355 #[.val (.long limit), .second, .val (.long t0), .second, .val (.long now1), .second, .val (.long now2), .second, .val (.long bb), .second, .val (.int flags), .val (.long lm), .second, .val (.int i1), .val (.int i2), .val (.int i3), .val (.long b1), .second, .val (.long b2), .second, .val (.long b3), .second, .val (.long now3), .second, .val (.int nv), .val (.ref b205), .val (.int r1), .val (.int r2), .val (.int r3), .val (.int u1), .val (.long z1), .second, .val (.int e1), .val (.int u2), .val (.long z2), .second, .val (.int e2), .val (.int u3), .unset] [(.long lm), (.long (now3 - z2))])) _
          refine XS.lcmp X221.here hx rfl (hb hby at_355) rfl ?_
          show Steps p.tables e below (T221.setTop (mkF m 356 #[.val (.long limit), .second, .val (.long t0), .second, .val (.long now1), .second, .val (.long now2), .second, .val (.long bb), .second, .val (.int flags), .val (.long lm), .second, .val (.int i1), .val (.int i2), .val (.int i3), .val (.long b1), .second, .val (.long b2), .second, .val (.long b3), .second, .val (.long now3), .second, .val (.int nv), .val (.ref b205), .val (.int r1), .val (.int r2), .val (.int r3), .val (.int u1), .val (.long z1), .second, .val (.int e1), .val (.int u2), .val (.long z2), .second, .val (.int e2), .val (.int u3), .unset] [(.int (lcmpW (now3 - z2) lm))])) _
          refine XS.ifNo X221.here hx rfl (hb hby at_356) rfl ((if0 _ _).trans (flt (fun q => hc356 ((lw_lt _ _).mp q))).1) ?_
          show Steps p.tables e below (T221.setTop (mkF m 359 #[.val (.long limit), .second, .val (.long t0), .second, .val (.long now1), .second, .val (.long now2), .second, .val (.long bb), .second, .val (.int flags), .val (.long lm), .second, .val (.int i1), .val (.int i2), .val (.int i3), .val (.long b1), .second, .val (.long b2), .second, .val (.long b3), .second, .val (.long now3), .second, .val (.int nv), .val (.ref b205), .val (.int r1), .val (.int r2), .val (.int r3), .val (.int u1), .val (.long z1), .second, .val (.int e1), .val (.int u2), .val (.long z2), .second, .val (.int e2), .val (.int u3), .unset] [])) _
          refine XS.iconst X221.here hx rfl (hb hby at_359) ?_
          show Steps p.tables e below (T221.setTop (mkF m 360 #[.val (.long limit), .second, .val (.long t0), .second, .val (.long now1), .second, .val (.long now2), .second, .val (.long bb), .second, .val (.int flags), .val (.long lm), .second, .val (.int i1), .val (.int i2), .val (.int i3), .val (.long b1), .second, .val (.long b2), .second, .val (.long b3), .second, .val (.long now3), .second, .val (.int nv), .val (.ref b205), .val (.int r1), .val (.int r2), .val (.int r3), .val (.int u1), .val (.long z1), .second, .val (.int e1), .val (.int u2), .val (.long z2), .second, .val (.int e2), .val (.int u3), .unset] [(.int (1 : Int32))])) _
          refine XS.goto X221.here hx rfl (pc0 := 360) (pc' := 364) rfl (hb hby at_360) (by decide) (by decide) ?_
          exact hk
      ·
        refine ⟨(0 : Int32), ((if_pos hc340).trans ((if_neg hc345).trans rfl)).symm, fun t hk => k238 t ?_⟩
        show Steps p.tables e below (T221.setTop (mkF m 340 #[.val (.long limit), .second, .val (.long t0), .second, .val (.long now1), .second, .val (.long now2), .second, .val (.long bb), .second, .val (.int flags), .val (.long lm), .second, .val (.int i1), .val (.int i2), .val (.int i3), .val (.long b1), .second, .val (.long b2), .second, .val (.long b3), .second, .val (.long now3), .second, .val (.int nv), .val (.ref b205), .val (.int r1), .val (.int r2), .val (.int r3), .val (.int u1), .val (.long z1), .second, .val (.int e1), .val (.int u2), .val (.long z2), .second, .val (.int e2), .val (.int u3), .unset] [(.int u3)])) _
        refine XS.ifNo X221.here hx rfl (hb hby at_340) rfl ((if0 _ _).trans (teq hc340).2) ?_
        show Steps p.tables e below (T221.setTop (mkF m 343 #[.val (.long limit), .second, .val (.long t0), .second, .val (.long now1), .second, .val (.long now2), .second, .val (.long bb), .second, .val (.int flags), .val (.long lm), .second, .val (.int i1), .val (.int i2), .val (.int i3), .val (.long b1), .second, .val (.long b2), .second, .val (.long b3), .second, .val (.long now3), .second, .val (.int nv), .val (.ref b205), .val (.int r1), .val (.int r2), .val (.int r3), .val (.int u1), .val (.long z1), .second, .val (.int e1), .val (.int u2), .val (.long z2), .second, .val (.int e2), .val (.int u3), .unset] [])) _
        refine XS.iload X221.here hx rfl (hb hby at_343) rfl ?_
        show Steps p.tables e below (T221.setTop (mkF m 345 #[.val (.long limit), .second, .val (.long t0), .second, .val (.long now1), .second, .val (.long now2), .second, .val (.long bb), .second, .val (.int flags), .val (.long lm), .second, .val (.int i1), .val (.int i2), .val (.int i3), .val (.long b1), .second, .val (.long b2), .second, .val (.long b3), .second, .val (.long now3), .second, .val (.int nv), .val (.ref b205), .val (.int r1), .val (.int r2), .val (.int r3), .val (.int u1), .val (.long z1), .second, .val (.int e1), .val (.int u2), .val (.long z2), .second, .val (.int e2), .val (.int u3), .unset] [(.int nv)])) _
        refine XS.ifYes X221.here hx rfl (pc0 := 345) (pc' := 363) rfl (hb hby at_345) rfl ((if0 _ _).trans (feq hc345).2) (by decide) (by decide) ?_
        show Steps p.tables e below (T221.setTop (mkF m 363 #[.val (.long limit), .second, .val (.long t0), .second, .val (.long now1), .second, .val (.long now2), .second, .val (.long bb), .second, .val (.int flags), .val (.long lm), .second, .val (.int i1), .val (.int i2), .val (.int i3), .val (.long b1), .second, .val (.long b2), .second, .val (.long b3), .second, .val (.long now3), .second, .val (.int nv), .val (.ref b205), .val (.int r1), .val (.int r2), .val (.int r3), .val (.int u1), .val (.long z1), .second, .val (.int e1), .val (.int u2), .val (.long z2), .second, .val (.int e2), .val (.int u3), .unset] [])) _
        refine XS.iconst X221.here hx rfl (hb hby at_363) ?_
        exact hk
    ·
      refine ⟨(0 : Int32), ((if_neg hc340).trans rfl).symm, fun t hk => k238 t ?_⟩
      show Steps p.tables e below (T221.setTop (mkF m 340 #[.val (.long limit), .second, .val (.long t0), .second, .val (.long now1), .second, .val (.long now2), .second, .val (.long bb), .second, .val (.int flags), .val (.long lm), .second, .val (.int i1), .val (.int i2), .val (.int i3), .val (.long b1), .second, .val (.long b2), .second, .val (.long b3), .second, .val (.long now3), .second, .val (.int nv), .val (.ref b205), .val (.int r1), .val (.int r2), .val (.int r3), .val (.int u1), .val (.long z1), .second, .val (.int e1), .val (.int u2), .val (.long z2), .second, .val (.int e2), .val (.int u3), .unset] [(.int u3)])) _
      refine XS.ifYes X221.here hx rfl (pc0 := 340) (pc' := 363) rfl (hb hby at_340) rfl ((if0 _ _).trans (feq hc340).2) (by decide) (by decide) ?_
      show Steps p.tables e below (T221.setTop (mkF m 363 #[.val (.long limit), .second, .val (.long t0), .second, .val (.long now1), .second, .val (.long now2), .second, .val (.long bb), .second, .val (.int flags), .val (.long lm), .second, .val (.int i1), .val (.int i2), .val (.int i3), .val (.long b1), .second, .val (.long b2), .second, .val (.long b3), .second, .val (.long now3), .second, .val (.int nv), .val (.ref b205), .val (.int r1), .val (.int r2), .val (.int r3), .val (.int u1), .val (.long z1), .second, .val (.int e1), .val (.int u2), .val (.long z2), .second, .val (.int e2), .val (.int u3), .unset] [])) _
      refine XS.iconst X221.here hx rfl (hb hby at_363) ?_
      exact hk
  have k240 : ∀ t, Steps p.tables e below (T221.setTop (mkF m 370 #[.val (.long limit), .second, .val (.long t0), .second, .val (.long now1), .second, .val (.long now2), .second, .val (.long bb), .second, .val (.int flags), .val (.long lm), .second, .val (.int i1), .val (.int i2), .val (.int i3), .val (.long b1), .second, .val (.long b2), .second, .val (.long b3), .second, .val (.long now3), .second, .val (.int nv), .val (.ref b205), .val (.int r1), .val (.int r2), .val (.int r3), .val (.int u1), .val (.long z1), .second, .val (.int e1), .val (.int u2), .val (.long z2), .second, .val (.int e2), .val (.int u3), .val (.int e3)] [(.int e1), (.int r1)])) t → Steps p.tables e below (s₁.setTop (entryFrame m #[(.long limit), (.long t0), (.long now1), (.long now2), (.long bb), (.int flags)] maxLocals)) t := fun t hk => k239 t (by
    show Steps p.tables e below (T221.setTop (mkF m 364 #[.val (.long limit), .second, .val (.long t0), .second, .val (.long now1), .second, .val (.long now2), .second, .val (.long bb), .second, .val (.int flags), .val (.long lm), .second, .val (.int i1), .val (.int i2), .val (.int i3), .val (.long b1), .second, .val (.long b2), .second, .val (.long b3), .second, .val (.long now3), .second, .val (.int nv), .val (.ref b205), .val (.int r1), .val (.int r2), .val (.int r3), .val (.int u1), .val (.long z1), .second, .val (.int e1), .val (.int u2), .val (.long z2), .second, .val (.int e2), .val (.int u3), .unset] [(.int e3)])) _
    refine XS.istore X221.here hx rfl (hb hby at_364) rfl (l' := #[.val (.long limit), .second, .val (.long t0), .second, .val (.long now1), .second, .val (.long now2), .second, .val (.long bb), .second, .val (.int flags), .val (.long lm), .second, .val (.int i1), .val (.int i2), .val (.int i3), .val (.long b1), .second, .val (.long b2), .second, .val (.long b3), .second, .val (.long now3), .second, .val (.int nv), .val (.ref b205), .val (.int r1), .val (.int r2), .val (.int r3), .val (.int u1), .val (.long z1), .second, .val (.int e1), .val (.int u2), .val (.long z2), .second, .val (.int e2), .val (.int u3), .val (.int e3)]) rfl ?_
    show Steps p.tables e below (T221.setTop (mkF m 366 #[.val (.long limit), .second, .val (.long t0), .second, .val (.long now1), .second, .val (.long now2), .second, .val (.long bb), .second, .val (.int flags), .val (.long lm), .second, .val (.int i1), .val (.int i2), .val (.int i3), .val (.long b1), .second, .val (.long b2), .second, .val (.long b3), .second, .val (.long now3), .second, .val (.int nv), .val (.ref b205), .val (.int r1), .val (.int r2), .val (.int r3), .val (.int u1), .val (.long z1), .second, .val (.int e1), .val (.int u2), .val (.long z2), .second, .val (.int e2), .val (.int u3), .val (.int e3)] [])) _
    refine XS.iload X221.here hx rfl (hb hby at_366) rfl ?_
    show Steps p.tables e below (T221.setTop (mkF m 368 #[.val (.long limit), .second, .val (.long t0), .second, .val (.long now1), .second, .val (.long now2), .second, .val (.long bb), .second, .val (.int flags), .val (.long lm), .second, .val (.int i1), .val (.int i2), .val (.int i3), .val (.long b1), .second, .val (.long b2), .second, .val (.long b3), .second, .val (.long now3), .second, .val (.int nv), .val (.ref b205), .val (.int r1), .val (.int r2), .val (.int r3), .val (.int u1), .val (.long z1), .second, .val (.int e1), .val (.int u2), .val (.long z2), .second, .val (.int e2), .val (.int u3), .val (.int e3)] [(.int r1)])) _
    refine XS.iload X221.here hx rfl (hb hby at_368) rfl ?_
    exact hk)
  have hlm1 : 1 ≤ lm.toInt := own_lim limit l1 lm hl1 hlm
  obtain ⟨f1, f2, f3⟩ := own_plain l1 lm b1 b2 b3 now1 now2 now3 t0 s1 s2 s3 z1 z2 i1 i2 i3 nv r1 r2 r3 u1 u2 u3 e1 e2 e3 hlm1 hb1 hb2 hb3 hnv hs1 hr1 hs2 hr2 hs3 hr3 hu1 hz1 he1 hu2 hz2 he2 hu3 he3
  have k241 : ∀ t, Steps p.tables e below (T221.setTop (mkF m 392 #[.val (.long limit), .second, .val (.long t0), .second, .val (.long now1), .second, .val (.long now2), .second, .val (.long bb), .second, .val (.int flags), .val (.long lm), .second, .val (.int i1), .val (.int i2), .val (.int i3), .val (.long b1), .second, .val (.long b2), .second, .val (.long b3), .second, .val (.long now3), .second, .val (.int nv), .val (.ref b205), .val (.int r1), .val (.int r2), .val (.int r3), .val (.int u1), .val (.long z1), .second, .val (.int e1), .val (.int u2), .val (.long z2), .second, .val (.int e2), .val (.int u3), .val (.int e3)] [(.int (1 : Int32))])) t → Steps p.tables e below (s₁.setTop (entryFrame m #[(.long limit), (.long t0), (.long now1), (.long now2), (.long bb), (.int flags)] maxLocals)) t := fun t hk => k240 t (by
    show Steps p.tables e below (T221.setTop (mkF m 370 #[.val (.long limit), .second, .val (.long t0), .second, .val (.long now1), .second, .val (.long now2), .second, .val (.long bb), .second, .val (.int flags), .val (.long lm), .second, .val (.int i1), .val (.int i2), .val (.int i3), .val (.long b1), .second, .val (.long b2), .second, .val (.long b3), .second, .val (.long now3), .second, .val (.int nv), .val (.ref b205), .val (.int r1), .val (.int r2), .val (.int r3), .val (.int u1), .val (.long z1), .second, .val (.int e1), .val (.int u2), .val (.long z2), .second, .val (.int e2), .val (.int u3), .val (.int e3)] [(.int e1), (.int r1)])) _
    refine XS.icmpNo X221.here hx rfl (hb hby at_370) rfl (teq f1).2 ?_
    show Steps p.tables e below (T221.setTop (mkF m 373 #[.val (.long limit), .second, .val (.long t0), .second, .val (.long now1), .second, .val (.long now2), .second, .val (.long bb), .second, .val (.int flags), .val (.long lm), .second, .val (.int i1), .val (.int i2), .val (.int i3), .val (.long b1), .second, .val (.long b2), .second, .val (.long b3), .second, .val (.long now3), .second, .val (.int nv), .val (.ref b205), .val (.int r1), .val (.int r2), .val (.int r3), .val (.int u1), .val (.long z1), .second, .val (.int e1), .val (.int u2), .val (.long z2), .second, .val (.int e2), .val (.int u3), .val (.int e3)] [])) _
    refine XS.iload X221.here hx rfl (hb hby at_373) rfl ?_
    show Steps p.tables e below (T221.setTop (mkF m 375 #[.val (.long limit), .second, .val (.long t0), .second, .val (.long now1), .second, .val (.long now2), .second, .val (.long bb), .second, .val (.int flags), .val (.long lm), .second, .val (.int i1), .val (.int i2), .val (.int i3), .val (.long b1), .second, .val (.long b2), .second, .val (.long b3), .second, .val (.long now3), .second, .val (.int nv), .val (.ref b205), .val (.int r1), .val (.int r2), .val (.int r3), .val (.int u1), .val (.long z1), .second, .val (.int e1), .val (.int u2), .val (.long z2), .second, .val (.int e2), .val (.int u3), .val (.int e3)] [(.int r2)])) _
    refine XS.iload X221.here hx rfl (hb hby at_375) rfl ?_
    show Steps p.tables e below (T221.setTop (mkF m 377 #[.val (.long limit), .second, .val (.long t0), .second, .val (.long now1), .second, .val (.long now2), .second, .val (.long bb), .second, .val (.int flags), .val (.long lm), .second, .val (.int i1), .val (.int i2), .val (.int i3), .val (.long b1), .second, .val (.long b2), .second, .val (.long b3), .second, .val (.long now3), .second, .val (.int nv), .val (.ref b205), .val (.int r1), .val (.int r2), .val (.int r3), .val (.int u1), .val (.long z1), .second, .val (.int e1), .val (.int u2), .val (.long z2), .second, .val (.int e2), .val (.int u3), .val (.int e3)] [(.int e2), (.int r2)])) _
    refine XS.icmpNo X221.here hx rfl (hb hby at_377) rfl (teq f2).2 ?_
    show Steps p.tables e below (T221.setTop (mkF m 380 #[.val (.long limit), .second, .val (.long t0), .second, .val (.long now1), .second, .val (.long now2), .second, .val (.long bb), .second, .val (.int flags), .val (.long lm), .second, .val (.int i1), .val (.int i2), .val (.int i3), .val (.long b1), .second, .val (.long b2), .second, .val (.long b3), .second, .val (.long now3), .second, .val (.int nv), .val (.ref b205), .val (.int r1), .val (.int r2), .val (.int r3), .val (.int u1), .val (.long z1), .second, .val (.int e1), .val (.int u2), .val (.long z2), .second, .val (.int e2), .val (.int u3), .val (.int e3)] [])) _
    refine XS.iload X221.here hx rfl (hb hby at_380) rfl ?_
    show Steps p.tables e below (T221.setTop (mkF m 382 #[.val (.long limit), .second, .val (.long t0), .second, .val (.long now1), .second, .val (.long now2), .second, .val (.long bb), .second, .val (.int flags), .val (.long lm), .second, .val (.int i1), .val (.int i2), .val (.int i3), .val (.long b1), .second, .val (.long b2), .second, .val (.long b3), .second, .val (.long now3), .second, .val (.int nv), .val (.ref b205), .val (.int r1), .val (.int r2), .val (.int r3), .val (.int u1), .val (.long z1), .second, .val (.int e1), .val (.int u2), .val (.long z2), .second, .val (.int e2), .val (.int u3), .val (.int e3)] [(.int r3)])) _
    refine XS.iload X221.here hx rfl (hb hby at_382) rfl ?_
    show Steps p.tables e below (T221.setTop (mkF m 384 #[.val (.long limit), .second, .val (.long t0), .second, .val (.long now1), .second, .val (.long now2), .second, .val (.long bb), .second, .val (.int flags), .val (.long lm), .second, .val (.int i1), .val (.int i2), .val (.int i3), .val (.long b1), .second, .val (.long b2), .second, .val (.long b3), .second, .val (.long now3), .second, .val (.int nv), .val (.ref b205), .val (.int r1), .val (.int r2), .val (.int r3), .val (.int u1), .val (.long z1), .second, .val (.int e1), .val (.int u2), .val (.long z2), .second, .val (.int e2), .val (.int u3), .val (.int e3)] [(.int e3), (.int r3)])) _
    refine XS.icmpNo X221.here hx rfl (hb hby at_384) rfl (teq f3).2 ?_
    show Steps p.tables e below (T221.setTop (mkF m 387 #[.val (.long limit), .second, .val (.long t0), .second, .val (.long now1), .second, .val (.long now2), .second, .val (.long bb), .second, .val (.int flags), .val (.long lm), .second, .val (.int i1), .val (.int i2), .val (.int i3), .val (.long b1), .second, .val (.long b2), .second, .val (.long b3), .second, .val (.long now3), .second, .val (.int nv), .val (.ref b205), .val (.int r1), .val (.int r2), .val (.int r3), .val (.int u1), .val (.long z1), .second, .val (.int e1), .val (.int u2), .val (.long z2), .second, .val (.int e2), .val (.int u3), .val (.int e3)] [])) _
    refine XS.iconst X221.here hx rfl (hb hby at_387) ?_
    show Steps p.tables e below (T221.setTop (mkF m 388 #[.val (.long limit), .second, .val (.long t0), .second, .val (.long now1), .second, .val (.long now2), .second, .val (.long bb), .second, .val (.int flags), .val (.long lm), .second, .val (.int i1), .val (.int i2), .val (.int i3), .val (.long b1), .second, .val (.long b2), .second, .val (.long b3), .second, .val (.long now3), .second, .val (.int nv), .val (.ref b205), .val (.int r1), .val (.int r2), .val (.int r3), .val (.int u1), .val (.long z1), .second, .val (.int e1), .val (.int u2), .val (.long z2), .second, .val (.int e2), .val (.int u3), .val (.int e3)] [(.int (1 : Int32))])) _
    refine XS.goto X221.here hx rfl (pc0 := 388) (pc' := 392) rfl (hb hby at_388) (by decide) (by decide) ?_
    exact hk)
  obtain ⟨fs, hr, hrun, hended, hW, hsame⟩ := X221.leave (v := some (.int (nar .boolean (1 : Int32)))) (fun h => by rw [Bd.returns] at h; cases h)
  refine ⟨_, _, k241 _ ?_, hrun, hended, _, _, rfl, ?_, ⟨_, rfl⟩, hW, hsame.mono (by decide) (by decide)⟩
  · show Steps p.tables e below (T221.setTop (mkF m 392 #[.val (.long limit), .second, .val (.long t0), .second, .val (.long now1), .second, .val (.long now2), .second, .val (.long bb), .second, .val (.int flags), .val (.long lm), .second, .val (.int i1), .val (.int i2), .val (.int i3), .val (.long b1), .second, .val (.long b2), .second, .val (.long b3), .second, .val (.long now3), .second, .val (.int nv), .val (.ref b205), .val (.int r1), .val (.int r2), .val (.int r3), .val (.int u1), .val (.long z1), .second, .val (.int e1), .val (.int u2), .val (.long z2), .second, .val (.int e2), .val (.int u3), .val (.int e3)] [(.int (1 : Int32))])) _
    exact retN X221 hx (t := .boolean) Bd.returns (by simp) (hb hby at_392) hr
  · show Q0 Z limit t0 now1 now2 bb flags h0 n0 _ T221.heap _
    exact ⟨rfl, N221⟩
set_option maxRecDepth 65536 in
set_option maxHeartbeats 40000000 in
theorem comes_1 {Post : Tables → Env → Array Value → State → Outcome → State → Prop} (hpost : ∀ tb e args s v u, (limb_1_1.after args s (.returned v) u = true ∧ limb_1_2.after args s (.returned v) u = true ∧ True) → FrameEnd s (.returned v) u (Jvm.fieldLocs frame_1_writes args s ++ Jvm.arrayLocs frame_1_arrays args s ++ Jvm.staticLocs frame_1_statics s) 16 128 → Post tb e args s (.returned v) u) :
    ArmFor flags0 classFile x code maxLocals ret World_1 tables_1 room_1 Calls_1 rest_1 Pre_1 Post := by
  intro l hfl _ _ p e ha hc hk s m args below hf hA hF happ hP
  obtain ⟨hcalls, hrest, hpre⟩ := hP
  obtain ⟨-, -, -, hnamed, -, -, -, hat⟩ := (Spec.applies_iff hf).mp happ
  obtain ⟨hg, hn⟩ := and_e (Cond.before_iff.mp (show (Jvm.Cond.and given_1 narrow_1).before args s = true from hpre))
  obtain ⟨hcnt, hg0⟩ := and_e hg
  obtain ⟨hv0, hg1⟩ := and_e hg0
  obtain ⟨hv1, hg2⟩ := and_e hg1
  obtain ⟨hv2, hg3⟩ := and_e hg2
  obtain ⟨hv3, hg4⟩ := and_e hg3
  obtain ⟨hv4, hg5⟩ := and_e hg4
  have hv5 := hg5
  obtain ⟨w0, w1, w2, w3, w4, w5, rfl⟩ : ∃ w0 w1 w2 w3 w4 w5 : Value, args = #[w0, w1, w2, w3, w4, w5] := by
    have hs : args.size = 6 := by simpa [Cond.value, given_1] using hcnt
    obtain ⟨L⟩ := args
    match L, hs with
    | [w0, w1, w2, w3, w4, w5], _ => exact ⟨w0, w1, w2, w3, w4, w5, rfl⟩
  have hw := fun d (hd : d ∈ tables_1) => atoms_spec (ws := Jvm.Cond.code x code maxLocals ret :: tables_1) hat d (List.mem_cons_of_mem _ hd)
  obtain ⟨i0, ei0⟩ := isL_v hv0
  obtain rfl : w0 = (.long i0) := Option.some.inj ei0
  obtain ⟨i1, ei1⟩ := isL_v hv1
  obtain rfl : w1 = (.long i1) := Option.some.inj ei1
  obtain ⟨i2, ei2⟩ := isL_v hv2
  obtain rfl : w2 = (.long i2) := Option.some.inj ei2
  obtain ⟨i3, ei3⟩ := isL_v hv3
  obtain rfl : w3 = (.long i3) := Option.some.inj ei3
  obtain ⟨i4, ei4⟩ := isL_v hv4
  obtain rfl : w4 = (.long i4) := Option.some.inj ei4
  obtain ⟨i5, ei5⟩ := is_v hv5
  obtain rfl : w5 = (.int i5) := Option.some.inj ei5
  obtain ⟨n, o, h1, h2, h3, _, L, rfl, ⟨rfl, N⟩, hq⟩ := rm0 l s _ hw tables_1 i0 i1 i2 i3 i4 i5 s.heap s.heap.size (Nat.le_refl _)  p e ha hc hk s m _ below hf ((Spec.applies_iff_loose hf).mp happ).1 ⟨rfl, State.Warmed39.refl s, rfl⟩ trivial
  refine ⟨n, _, h1, h2, h3, hpost _ _ _ _ _ _ ⟨Cond.after_iff.mpr rfl, Cond.after_iff.mpr (eq_i res_at (Term.int_eval (1)) rfl), trivial⟩ ⟨hq.1, hq.2.1, (hq.2.2.sift fun y hy => Or.inr (N y hy)).mono (by decide) (by decide)⟩⟩
theorem main_1_1 : Claimed_1_1 := comes_1 fun _ _ _ _ _ _ h hF => ⟨h.1, hF⟩
theorem main_1_2 : Claimed_1_2 := comes_1 fun _ _ _ _ _ _ h hF => ⟨h.2.1, hF⟩
end Jvm.Pilot.@@N@@
namespace Jvm.Pilot.@@N@@
open Jvm Jvm.ClassFile Sem Op Lib Jvm.Free Jvm.Stand Jvm.Pilot.@@N@@.Jvm.D
/-! MADE BY PROGRAM (witnessworld.py) out of the Statement's table words and the real class files: 10 classes; the members and pool entries that the words name. The judged class is class 1, her method 1. -/
namespace start1
open Jvm.ClassFile
def u (s : String) : CpInfo := .utf8 (stringToUtf16 s)
/-- a pool by its gaps: so many unusable entries, then the entry; so many at the end -/
def gap : Nat → List CpInfo → List CpInfo
  | 0, r => r
  | n + 1, r => .unusable :: gap n r
def poolList (es : List (Nat × CpInfo)) (last : Nat) : List CpInfo := es.foldr (fun e r => gap e.1 (e.2 :: r)) (gap last [])
def pool (es : List (Nat × CpInfo)) (last : Nat) : Array CpInfo := ⟨poolList es last⟩
def fileOf (pool : Array CpInfo) (this : Nat) (attrs : Array Attribute := #[]) (ms : Array MethodInfo := #[]) (fl : Nat := 33) (sup : Nat := 0) (ifs : Array Nat := #[]) (fds : Array FieldInfo := #[]) : ClassFile where
  minorVersion := 0
  majorVersion := 65
  constantPool := pool
  accessFlags := fl
  thisClass := this
  superClass := sup
  interfaces := ifs
  fields := fds
  methods := ms
  attributes := attrs
def plain (name : String) (sup : Option ClassId) : Class where
  name := name
  kind := .ordinary
  loader := none
  accessFlags := 33
  super := sup
  interfaces := #[]
  cf := none
  fields := #[]
  methods := #[]
  instanceTypes := #[]
  staticTypes := #[]
  resolved := #[]
  callSites := []
  init := .initialized
  statics := none
  mirror := none

def pool0 : Array CpInfo := pool [(5, u "<init>"), (0, u "()V"), (1, .class_ 10), (1, u "java/lang/Object")] 113

def k0c0 : Code := { maxStack := 0, maxLocals := 1, code := object_method_1_code, exceptionTable := #[], attributes := #[] }
def k0m0 : Method := { name := "<init>", desc := "()V", sig := { parameters := [], returnType := none }, accessFlags := 1, code := some k0c0 }
/-- java/lang/Object -/
def k0 : Class := { plain "java/lang/Object" none with
  accessFlags := 33
  interfaces := #[]
  cf := some (fileOf pool0 8 #[] #[{ accessFlags := 1, nameIndex := 5, descriptorIndex := 6, attributes := #[] }] 33 0 #[] #[])
  fields := #[]
  methods := #[k0m0]
  instanceTypes := #[]
  staticTypes := #[]
  resolved := Array.replicate 124 none
  statics := none }

def pool1 : Array CpInfo := pool [(2, .class_ 4), (1, u "java/lang/Object"), (0, u "<init>"), (0, u "()V"), (2, .long 9223372036854775807), (1, .long 18446744073709551615), (1, .class_ 14), (0, u "com/example/lease/lease/core/LastUse"), (0, .methodref 13 16), (0, .nameAndType 5 17), (0, u "(JJ)V"), (0, .methodref 13 19), (0, .nameAndType 20 21), (0, u "unusedAt"), (0, u "(JJZ)Z"), (0, .class_ 23), (0, u "com/example/lease/lease/core/LastUseUnusedAtPinLaw"), (2, u "law"), (0, u "(JJJJJI)Z")] 3

def k1m0 : Method := { name := "<init>", desc := "()V", sig := { parameters := [], returnType := none }, accessFlags := 1, code := none }
def k1c1 : Code := { maxStack := 6, maxLocals := 39, code := code, exceptionTable := #[], attributes := #[] }
def k1m1 : Method := { name := "law", desc := "(JJJJJI)Z", sig := { parameters := [.long, .long, .long, .long, .long, .int], returnType := some .boolean }, accessFlags := 9, code := some k1c1 }
/-- com/example/lease/lease/core/LastUseUnusedAtPinLaw -/
def k1 : Class := { plain "com/example/lease/lease/core/LastUseUnusedAtPinLaw" (some 0) with
  accessFlags := 49
  interfaces := #[]
  cf := some (fileOf pool1 22 #[] #[{ accessFlags := 1, nameIndex := 5, descriptorIndex := 6, attributes := #[] }, { accessFlags := 9, nameIndex := 26, descriptorIndex := 27, attributes := #[] }] 49 2 #[] #[])
  fields := #[]
  methods := #[k1m0, k1m1]
  instanceTypes := #[]
  staticTypes := #[]
  resolved := Array.replicate 31 none
  statics := none }

def pool2 : Array CpInfo := pool [(1, .methodref 2 3), (0, .class_ 4), (0, .nameAndType 5 6), (0, u "java/lang/Object"), (0, u "<init>"), (0, u "()V"), (0, .fieldref 8 9), (0, .class_ 10), (0, .nameAndType 11 12), (0, u "com/example/lease/lease/core/LastUse"), (0, u "limitNanos"), (0, u "J"), (0, .fieldref 8 14), (0, .nameAndType 15 12), (0, u "seenAt"), (0, .fieldref 8 17), (0, .nameAndType 18 19), (0, u "inUseWhenSeen"), (0, u "Z"), (0, .fieldref 8 21), (0, .nameAndType 22 12), (0, u "borrowsSeen"), (0, .methodref 24 25), (0, .class_ 26), (0, .nameAndType 27 28), (0, u "com/example/lease/lease/core/Nanos"), (0, u "outlived"), (0, u "(JJJ)Z"), (0, u "(JJ)V"), (2, u "unusedAt"), (0, u "(JJZ)Z")] 3

def k2c0 : Code := { maxStack := 3, maxLocals := 5, code := prog_93_method_1_code, exceptionTable := #[], attributes := #[] }
def k2m0 : Method := { name := "<init>", desc := "(JJ)V", sig := { parameters := [.long, .long], returnType := none }, accessFlags := 0, code := some k2c0 }
def k2c1 : Code := { maxStack := 6, maxLocals := 6, code := prog_93_method_2_code, exceptionTable := #[], attributes := #[] }
def k2m1 : Method := { name := "unusedAt", desc := "(JJZ)Z", sig := { parameters := [.long, .long, .boolean], returnType := some .boolean }, accessFlags := 0, code := some k2c1 }
/-- com/example/lease/lease/core/LastUse -/
def k2 : Class := { plain "com/example/lease/lease/core/LastUse" (some 0) with
  accessFlags := 32
  interfaces := #[]
  cf := some (fileOf pool2 8 #[] #[{ accessFlags := 0, nameIndex := 5, descriptorIndex := 29, attributes := #[] }, { accessFlags := 0, nameIndex := 32, descriptorIndex := 33, attributes := #[] }] 32 2 #[] #[{ accessFlags := 18, nameIndex := 11, descriptorIndex := 12, attributes := #[] }, { accessFlags := 2, nameIndex := 15, descriptorIndex := 12, attributes := #[] }, { accessFlags := 2, nameIndex := 22, descriptorIndex := 12, attributes := #[] }, { accessFlags := 2, nameIndex := 18, descriptorIndex := 19, attributes := #[] }])
  fields := #[{ name := "limitNanos", type := .long, accessFlags := 18, slot := 0, constantValue := 0 }, { name := "seenAt", type := .long, accessFlags := 2, slot := 1, constantValue := 0 }, { name := "borrowsSeen", type := .long, accessFlags := 2, slot := 2, constantValue := 0 }, { name := "inUseWhenSeen", type := .boolean, accessFlags := 2, slot := 3, constantValue := 0 }]
  methods := #[k2m0, k2m1]
  instanceTypes := #[.long, .long, .long, .boolean]
  staticTypes := #[]
  resolved := Array.replicate 37 none
  statics := none }

def pool3 : Array CpInfo := pool [(4, .class_ 6), (1, u "java/lang/Object"), (0, u "<init>"), (0, u "()V"), (8, .long 9223372036854775807), (1, .class_ 20), (0, u "com/example/lease/lease/core/Nanos"), (7, u "NEVER"), (0, u "J"), (5, u "outlived"), (0, u "(JJJ)Z")] 2

def k3m0 : Method := { name := "<init>", desc := "()V", sig := { parameters := [], returnType := none }, accessFlags := 2, code := none }
def k3c1 : Code := { maxStack := 4, maxLocals := 6, code := prog_99_method_5_code, exceptionTable := #[], attributes := #[] }
def k3m1 : Method := { name := "outlived", desc := "(JJJ)Z", sig := { parameters := [.long, .long, .long], returnType := some .boolean }, accessFlags := 8, code := some k3c1 }
/-- com/example/lease/lease/core/Nanos -/
def k3 : Class := { plain "com/example/lease/lease/core/Nanos" (some 0) with
  accessFlags := 32
  interfaces := #[]
  cf := some (fileOf pool3 19 #[] #[{ accessFlags := 2, nameIndex := 7, descriptorIndex := 8, attributes := #[] }, { accessFlags := 8, nameIndex := 35, descriptorIndex := 36, attributes := #[] }] 32 4 #[] #[{ accessFlags := 24, nameIndex := 28, descriptorIndex := 29, attributes := #[] }])
  fields := #[{ name := "NEVER", type := .long, accessFlags := 24, slot := 0, constantValue := 0 }]
  methods := #[k3m0, k3m1]
  instanceTypes := #[]
  staticTypes := #[.long]
  resolved := Array.replicate 39 none
  statics := none }

def pool4 : Array CpInfo := pool [(1, u "java/lang/Cloneable"), (0, .class_ 1), (0, u "java/lang/Object"), (0, .class_ 3)] 3

/-- java/lang/Cloneable -/
def k4 : Class := { plain "java/lang/Cloneable" (some 0) with
  accessFlags := 1537
  interfaces := #[]
  cf := some (fileOf pool4 2 #[] #[] 1537 4 #[] #[])
  fields := #[]
  methods := #[]
  instanceTypes := #[]
  staticTypes := #[]
  resolved := Array.replicate 8 none
  statics := none }

def pool5 : Array CpInfo := pool [(1, u "java/io/Serializable"), (0, .class_ 1), (0, u "java/lang/Object"), (0, .class_ 3)] 3

/-- java/io/Serializable -/
def k5 : Class := { plain "java/io/Serializable" (some 0) with
  accessFlags := 1537
  interfaces := #[]
  cf := some (fileOf pool5 2 #[] #[] 1537 4 #[] #[])
  fields := #[]
  methods := #[]
  instanceTypes := #[]
  staticTypes := #[]
  resolved := Array.replicate 8 none
  statics := none }

/-- the primitive byte -/
def k6 : Class := { plain "byte" none with kind := .primitive 'B', accessFlags := 0x411 }
/-- [B -/
def k7 : Class := { plain "[B" (some 0) with kind := .array 6 .byte, interfaces := #[4, 5], accessFlags := 1041 }

/-- the primitive int -/
def k8 : Class := { plain "int" none with kind := .primitive 'I', accessFlags := 0x411 }
/-- [I -/
def k9 : Class := { plain "[I" (some 0) with kind := .array 8 .int, interfaces := #[4, 5], accessFlags := 1041 }

def heap : Heap := #[]
def classes : Array Class := #[k0, k1, k2, k3, k4, k5, k6, k7, k8, k9]
def interned : List (Array UInt16 × Addr) := []
def slotsUsed : Nat := 0
def theMethod : MethodId := ⟨1, 1⟩
def args0 : Array Value := #[.long 5, .long 7, .long 3, .long 9, .long 2, .int 0]
def aboutOver (below : List Frame) : State where
  vm := { classes := classes, interned := interned.toArray }
  heap := heap
  slotsUsed := slotsUsed
  threads := #[{ frames := .invoking theMethod args0 :: below }]
def below0 : List Frame := [.native { method := ⟨0, 0⟩, args := #[] }]
def about1 : State := aboutOver below0
def p0 : Program := .bare "" "" ""
def e0 : Env := launch0.env 0 0 0
theorem w_frames : about1.frames = Frame.invoking theMethod args0 :: below0 := rfl
set_option maxRecDepth 65536 in
theorem w_args : argsFit about1.vm theMethod args0 = true := by decide +kernel
set_option maxRecDepth 65536 in
theorem w_heap : heapFits about1 = true := by decide +kernel
set_option maxRecDepth 65536 in
theorem w_runnable : about1.curStatus? = some .runnable := by decide +kernel
set_option maxRecDepth 65536 in
theorem w_alone : about1.alone = true := by decide +kernel
set_option maxRecDepth 65536 in
theorem w_named : about1.methodNamed? x = some theMethod := by decide +kernel
set_option maxRecDepth 65536 in
theorem w_hears : about1.hears theMethod below0 = true := by decide +kernel
set_option maxRecDepth 65536 in
theorem w_ripe : about1.ripe theMethod args0 below0 = true := by decide +kernel
theorem w_running : about1.status = .running := rfl
set_option maxRecDepth 65536 in
theorem w_room : about1.hasRoom e0.platform room_1 = true :=
  launch0.hasRoom_least _ room_1 (by decide +kernel) (by decide +kernel) (by decide +kernel) (by decide +kernel) (by decide +kernel) (by decide +kernel)
theorem allAtoms_all (ts : List Jvm.Cond) (a : Array Jvm.Value) (st : Jvm.State) : (allAtoms ts).before a st = ts.all (fun c => c.before a st) := by
  induction ts with
  | nil => rfl
  | cons c t ih =>
    show (Jvm.Cond.and c (allAtoms t)).before a st = _
    rw [Jvm.Cond.before_and, ih, List.all_cons]
def words1 : List Jvm.Cond := Jvm.Cond.code x code maxLocals ret :: tables_1
/-- a 'code' word, met by the world's own term for the bytes: nothing is compared byte by byte -/
theorem code_word {y : MethodName} {bytes : ByteArray} {mx : Nat} {rt : Option FieldType} {a : Array Value} {s : State} {m : MethodId} {meth : Method} {c : Code} (h1 : s.methodNamed? y = some m) (h2 : s.vm.method? m = some meth) (h3 : meth.code = some c) (h4 : c.code = bytes)
    (h5 : (c.maxLocals == mx && c.exceptionTable.isEmpty && decide (c.maxStack ≤ mostOperands) && decide (meth.sig.returnType = rt) && !meth.locks && decide (parseMethodDescriptor y.desc = some meth.sig)) = true) : (Jvm.Cond.code y bytes mx rt).before a s = true := by
  simp only [Bool.and_eq_true, beq_iff_eq, Bool.not_eq_true', decide_eq_true_eq] at h5
  obtain ⟨⟨⟨⟨⟨g1, g2⟩, g3⟩, g4⟩, g5⟩, g6⟩ := h5
  simp [Cond.before, Cond.holds, Cond.value, h1, h2, h3, h4, g1, g2, g3, g4, g5, g6]
def isCode : Jvm.Cond → Bool
  | .code _ _ _ _ => true
  | _ => false
theorem all_split {L : List Jvm.Cond} {P : Jvm.Cond → Bool} (h1 : L.all (fun c => isCode c || P c) = true) (h2 : ∀ c ∈ L.filter isCode, P c = true) : L.all P = true := by
  refine List.all_eq_true.mpr fun c hc => ?_
  have h := List.all_eq_true.mp h1 c hc
  rcases Bool.eq_false_or_eq_true (isCode c) with hi | hi
  · exact h2 c (List.mem_filter.mpr ⟨hc, hi⟩)
  · simpa [hi] using h
set_option maxRecDepth 65536 in
theorem w_c0 : (Jvm.Cond.code x code maxLocals ret).before args0 about1 = true := code_word (m := ⟨1, 1⟩) (meth := k1m1) (c := k1c1) (by decide +kernel) rfl rfl rfl (by decide +kernel)
set_option maxRecDepth 65536 in
theorem w_c1 : (Jvm.Cond.code ({ cls := "com/example/lease/lease/core/LastUse", name := "<init>", desc := "(JJ)V" } : Jvm.MethodName) prog_93_method_1_code (5 : Nat) (Option.none : Option Jvm.ClassFile.FieldType)).before args0 about1 = true := code_word (m := ⟨2, 0⟩) (meth := k2m0) (c := k2c0) (by decide +kernel) rfl rfl rfl (by decide +kernel)
set_option maxRecDepth 65536 in
theorem w_c2 : (Jvm.Cond.code ({ cls := "java/lang/Object", name := "<init>", desc := "()V" } : Jvm.MethodName) object_method_1_code (1 : Nat) (Option.none : Option Jvm.ClassFile.FieldType)).before args0 about1 = true := code_word (m := ⟨0, 0⟩) (meth := k0m0) (c := k0c0) (by decide +kernel) rfl rfl rfl (by decide +kernel)
set_option maxRecDepth 65536 in
theorem w_c3 : (Jvm.Cond.code ({ cls := "com/example/lease/lease/core/LastUse", name := "unusedAt", desc := "(JJZ)Z" } : Jvm.MethodName) prog_93_method_2_code (6 : Nat) (Option.some Jvm.ClassFile.FieldType.boolean)).before args0 about1 = true := code_word (m := ⟨2, 1⟩) (meth := k2m1) (c := k2c1) (by decide +kernel) rfl rfl rfl (by decide +kernel)
set_option maxRecDepth 65536 in
theorem w_c4 : (Jvm.Cond.code ({ cls := "com/example/lease/lease/core/Nanos", name := "outlived", desc := "(JJJ)Z" } : Jvm.MethodName) prog_99_method_5_code (6 : Nat) (Option.some Jvm.ClassFile.FieldType.boolean)).before args0 about1 = true := code_word (m := ⟨3, 1⟩) (meth := k3m1) (c := k3c1) (by decide +kernel) rfl rfl rfl (by decide +kernel)
def codes1 : List Jvm.Cond := [Jvm.Cond.code x code maxLocals ret, Jvm.Cond.code ({ cls := "com/example/lease/lease/core/LastUse", name := "<init>", desc := "(JJ)V" } : Jvm.MethodName) prog_93_method_1_code (5 : Nat) (Option.none : Option Jvm.ClassFile.FieldType), Jvm.Cond.code ({ cls := "java/lang/Object", name := "<init>", desc := "()V" } : Jvm.MethodName) object_method_1_code (1 : Nat) (Option.none : Option Jvm.ClassFile.FieldType), Jvm.Cond.code ({ cls := "com/example/lease/lease/core/LastUse", name := "unusedAt", desc := "(JJZ)Z" } : Jvm.MethodName) prog_93_method_2_code (6 : Nat) (Option.some Jvm.ClassFile.FieldType.boolean), Jvm.Cond.code ({ cls := "com/example/lease/lease/core/Nanos", name := "outlived", desc := "(JJJ)Z" } : Jvm.MethodName) prog_99_method_5_code (6 : Nat) (Option.some Jvm.ClassFile.FieldType.boolean)]
set_option maxRecDepth 65536 in
theorem codes_eq : words1.filter isCode = codes1 := rfl
theorem w_codes : ∀ c ∈ words1.filter isCode, c.before args0 about1 = true := by
  rw [codes_eq]
  intro c hc
  simp only [codes1, List.mem_cons, List.not_mem_nil, or_false] at hc
  rcases hc with rfl | rfl | rfl | rfl | rfl
  · exact w_c0
  · exact w_c1
  · exact w_c2
  · exact w_c3
  · exact w_c4
set_option maxRecDepth 65536 in
theorem w_t1 : (words1.take 24).all (fun c => isCode c || c.before args0 about1) = true := by decide +kernel
set_option maxRecDepth 65536 in
theorem w_t2 : (words1.drop 24).all (fun c => isCode c || c.before args0 about1) = true := by decide +kernel
theorem w_tables : (allAtoms (Jvm.Cond.code x code maxLocals ret :: tables_1)).before args0 about1 = true := by
  rw [allAtoms_all]
  show words1.all (fun c => c.before args0 about1) = true
  refine all_split ?_ w_codes
  rw [← List.take_append_drop 24 words1, List.all_append, w_t1, w_t2]
  rfl
set_option maxRecDepth 65536 in
theorem w_case : (Jvm.Cond.and given_1 narrow_1).before args0 about1 = true := by decide +kernel
theorem w_applies : (headSpec (Jvm.Cond.code x code maxLocals ret :: tables_1) room_1).applies x e0.platform about1 = true :=
  (Spec.applies_iff w_frames).mpr ⟨w_running, w_runnable, w_alone, w_named, w_hears, w_ripe, w_room, w_tables⟩
theorem atStart : AtStart classFile x code maxLocals ret World_1 tables_1 room_1 Calls_1 rest_1 Pre_1 launch0 p0 e0 about1 theMethod args0 below0 :=
  ⟨lists_1, trivial, launch0.admits_env _ _ _, launch0.least_env, fairChoices_fair.cas, fairChoices_fair.clock, w_frames, w_args, w_heap, w_applies, trivial, trivial, w_case⟩
end start1
theorem witness_1 : WitnessClaimed_1 := ⟨start1.p0, start1.e0, start1.about1, start1.theMethod, start1.args0, start1.below0, start1.atStart⟩
end Jvm.Pilot.@@N@@
