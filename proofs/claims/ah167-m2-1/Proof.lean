import JvmDerived
import JvmDerived.Pilot.@@N@@Statement
import JvmDerived.Pilot.@@N@@Code
set_option linter.unusedVariables false
set_option linter.unusedSimpArgs false
namespace Jvm.RoadKit
open Sem ClassFile Op Lib Jvm.Stand Jvm.Free Jvm.LawKit
section New
variable {p : Program} {l : Launch} {e : Env} {R : Room} {s : State} {m : MethodId} {args : Array Value} {below : List Frame} {meth : Method} {c : Code} {T : State} {locs : List Loc} {cells slots : Nat}
theorem retI (X : Stand p l e R s m args below meth c T locs cells slots) (hx : p.tables.exec = Jvm.exec) {pc : Nat} {Ls : Array Slot} {z : Int32} {rest : List Value} (hret : meth.sig.returnType = some .int) (hd : decode c.code pc = .ok (.ireturn, 1)) {fs : List Frame}
    (hl : ∀ (f : JFrame) (acts : List Action), f.method = m → f.locked = none → f.entered = [] → (doReturn e (T.setTop f) acts (some (.int z))).1 = T.setFrames fs) : Steps p.tables e below (T.setTop (mkF m pc Ls (.int z :: rest))) (T.setFrames fs) := by
  have hm' : T.vm.method? m = some meth := X.method'
  have hn : narrow .int (.int z) = .int z := rfl
  show Steps p.tables e below (T.setTop { method := m, pc := pc, locals := Ls, stack := _ :: rest, locked := none }) _
  jvm_step X.here [X.here.top, hx, hd, hm', hret, hn]
  first | (intro acts; rw [hl _ acts rfl rfl rfl]) | rw [hl _ _ rfl rfl rfl]
  exact Steps.refl _
theorem own_lremM {g : JFrame} {target : State} (X : Stand p l e R s m args below meth c T locs cells slots) (hx : p.tables.exec = Jvm.exec) (hg : g.method = m) {x y : Int64} {rest : List Value} (hd : decode c.code g.pc = .ok (.lrem, 1)) (hs : g.stack = .long y :: .long x :: rest) (hy : y ≠ 0)
    (hr : Steps p.tables e below (T.setTop { g with pc := g.pc + 1, stack := .long (x % y) :: rest }) target) : Steps p.tables e below (T.setTop g) target := by
  have q : x - x / y * y = x % y := lrem_mod x y
  exact XS.lrem X.here hx hg hd hs hy (by rw [q]; exact hr)
end New
end Jvm.RoadKit
namespace Jvm.RoadKit
open Sem ClassFile Op Lib Jvm.Stand Jvm.Free Jvm.LawKit
section OwnArr
variable {p : Program} {l : Launch} {e : Env} {R : Room} {s : State} {m : MethodId} {args : Array Value} {below : List Frame} {meth : Method} {c : Code} {T : State} {locs : List Loc} {cells slots : Nat} {Z : State} {a0 : Array Value} {h h' : Heap} {a b : Addr} {ty : FieldType} {n : Nat} {f f' : Nat → Value} {ws : List Addr} {sl : Nat} {v : Value} {j : Int32} {k : Nat}
def OwnAV (Z : State) (h : Heap) (a : Addr) (ty : FieldType) (n : Nat) (f : Nat → Value) : Prop := ∃ c : Cell, Arr Z h a c ty ∧ c.slots.size = n ∧ n < 2147483648 ∧ ∀ j, j < n → c.slots[j]? = some (f j)
theorem OwnAV.lt (F : OwnAV Z h a ty n f) : a < h.size := by obtain ⟨c, A, -⟩ := F; exact A.lt
theorem OwnAV.ext (F : OwnAV Z h a ty n f) (E : Ext h h') : OwnAV Z h' a ty n f := by obtain ⟨c, A, r⟩ := F; exact ⟨c, A.ext E, r⟩
theorem OwnAV.other (F : OwnAV Z h b ty n f) (W : Wr h h' a sl v) (q : b ≠ a) : OwnAV Z h' b ty n f := by obtain ⟨c, A, r⟩ := F; exact ⟨c, A.other W q, r⟩
theorem OwnAV.keep (F : OwnAV Z h a ty n f) (K : Keep h h' ws) (q : a ∉ ws) : OwnAV Z h' a ty n f := by obtain ⟨c, A, r⟩ := F; exact ⟨c, ⟨K.2.1 a c A.1 q, A.2⟩, r⟩
theorem OwnAV.congr (F : OwnAV Z h a ty n f) (q : ∀ j, j < n → f j = f' j) : OwnAV Z h a ty n f' := by obtain ⟨c, A, S, N, H⟩ := F; exact ⟨c, A, S, N, fun j hj => by rw [← q j hj]; exact H j hj⟩
theorem OwnAV.new {cA : ClassId} {z : Int32} (A : Arr Z h a (newA cA ty z) ty) (hz : z.toNatClampNeg = n) (hn : n < 2147483648) : OwnAV Z h a ty n (fun _ => defaultValue ty) := ⟨_, A, by rw [sz_new, hz], hn, fun j hj => by
  subst hz; simp [newA, hj]⟩
theorem OwnAV.store (F : OwnAV Z h a ty n f) (W : Wr h h' a k v) : OwnAV Z h' a ty n (fun i => if i = k then v else f i) := by
  obtain ⟨c, A, S, N, H⟩ := F
  refine ⟨c.setSlot k v, A.same W, by rw [sz_set, S], N, fun j hj => ?_⟩
  by_cases q : j = k
  · subst q
    simp [Cell.setSlot, Array.getElem?_setIfInBounds, S, hj]
  · simp [Cell.setSlot, Array.getElem?_setIfInBounds, q, Ne.symm q, H j hj]
def own_upd {α : Type} (F : Nat → α) (k : Nat) (x : α) : Nat → α := fun i => if i = k then x else F i
theorem own_upd_at {α : Type} (F : Nat → α) (k : Nat) (x : α) : own_upd F k x k = x := if_pos rfl
theorem own_upd_ne {α : Type} (F : Nat → α) {k i : Nat} (x : α) (q : i ≠ k) : own_upd F k x i = F i := if_neg q
theorem OwnAV.storeI {F : Nat → Int32} {x : Int32} (V : OwnAV Z h a ty n (fun i => .int (F i))) (W : Wr h h' a k (.int x)) : OwnAV Z h' a ty n (fun i => .int (own_upd F k x i)) :=
  (V.store W).congr fun i _ => by by_cases q : i = k <;> simp [own_upd, q]
theorem OwnAV.storeJ {F : Nat → Int64} {x : Int64} (V : OwnAV Z h a ty n (fun i => .long (F i))) (W : Wr h h' a k (.long x)) : OwnAV Z h' a ty n (fun i => .long (own_upd F k x i)) :=
  (V.store W).congr fun i _ => by by_cases q : i = k <;> simp [own_upd, q]
def OwnIdx (j : Int32) (k n : Nat) : Prop := ¬ j < 0 ∧ j.toNatClampNeg = k ∧ k < n
theorem own_idx {j : Int32} {n : Nat} (h0 : 0 ≤ j.toInt) (h1 : j.toInt < n) : OwnIdx j j.toInt.toNat n := by
  refine ⟨fun q => ?_, rfl, by omega⟩
  rw [Int32.lt_iff_toInt_lt, Int32.toInt_zero] at q
  omega
theorem own_idxN {i n : Nat} (h : i < n) (hn : n < 2147483648) : OwnIdx (Int32.ofNat i) i n := by
  have q : (Int32.ofNat i).toInt = i := Int32.toInt_ofNat_of_lt (by omega)
  refine ⟨fun r => ?_, ?_, h⟩
  · rw [Int32.lt_iff_toInt_lt, Int32.toInt_zero, q] at r; omega
  · rw [Int32.toNatClampNeg, q]; rfl
theorem OwnAV.inb {c : Cell} (S : c.slots.size = n) (I : OwnIdx j k n) : ¬ (j < 0 ∨ c.slots.size ≤ j.toNatClampNeg) := by
  rintro (q | q)
  · exact I.1 q
  · rw [S, I.2.1] at q; exact absurd I.2.2 (by omega)
theorem own_len (X : Stand p l e R s m args below meth c T locs cells slots) (hx : p.tables.exec = Jvm.exec) (hZ : Z.Warmed39 s.vm) (eT : T.heap = h) (V : OwnAV Z h a ty n f) {g : JFrame} (hg : g.method = m) {rest : List Value} (hs : g.stack = .ref a :: rest) (hd : decode c.code g.pc = .ok (.arraylength, 1)) (target : State)
    (hr : Steps p.tables e below (T.setTop { g with pc := g.pc + 1, stack := .int (Int32.ofNat n) :: rest }) target) : Steps p.tables e below (T.setTop g) target := by
  obtain ⟨cl, A, S, -, -⟩ := V
  refine X.arraylength hx (by rw [eT]; exact A.1) (State.isArrayOf_alike hZ.alike A.2.1) hg hs hd _ ?_
  rw [S]; exact hr
theorem own_iald (X : Stand p l e R s m args below meth c T locs cells slots) (hx : p.tables.exec = Jvm.exec) (hZ : Z.Warmed39 s.vm) (eT : T.heap = h) (V : OwnAV Z h a .int n f) (I : OwnIdx j k n) (hv : f k = v) {g : JFrame} (hg : g.method = m) {rest : List Value} (hs : g.stack = .int j :: .ref a :: rest) (hd : decode c.code g.pc = .ok (.iaload, 1)) (target : State)
    (hr : Steps p.tables e below (T.setTop { g with pc := g.pc + 1, stack := v :: rest }) target) : Steps p.tables e below (T.setTop g) target := by
  obtain ⟨cl, A, S, -, H⟩ := V
  exact X.iaload hx (by rw [eT]; exact A.1) (State.isArrayOf_alike hZ.alike A.2.1) A.2.2 (OwnAV.inb S I) (by rw [I.2.1, H k I.2.2, hv]) hg hs hd _ hr
theorem own_lald (X : Stand p l e R s m args below meth c T locs cells slots) (hx : p.tables.exec = Jvm.exec) (hZ : Z.Warmed39 s.vm) (eT : T.heap = h) (V : OwnAV Z h a .long n f) (I : OwnIdx j k n) (hv : f k = v) {g : JFrame} (hg : g.method = m) {rest : List Value} (hs : g.stack = .int j :: .ref a :: rest) (hd : decode c.code g.pc = .ok (.laload, 1)) (target : State)
    (hr : Steps p.tables e below (T.setTop { g with pc := g.pc + 1, stack := v :: rest }) target) : Steps p.tables e below (T.setTop g) target := by
  obtain ⟨cl, A, S, -, H⟩ := V
  exact X.laload hx (by rw [eT]; exact A.1) (State.isArrayOf_alike hZ.alike A.2.1) A.2.2 (OwnAV.inb S I) (by rw [I.2.1, H k I.2.2, hv]) hg hs hd _ hr
theorem own_bald (X : Stand p l e R s m args below meth c T locs cells slots) (hx : p.tables.exec = Jvm.exec) (hZ : Z.Warmed39 s.vm) (eT : T.heap = h) (V : OwnAV Z h a .byte n f) (I : OwnIdx j k n) (hv : f k = v) {g : JFrame} (hg : g.method = m) {rest : List Value} (hs : g.stack = .int j :: .ref a :: rest) (hd : decode c.code g.pc = .ok (.baload, 1)) (target : State)
    (hr : Steps p.tables e below (T.setTop { g with pc := g.pc + 1, stack := v :: rest }) target) : Steps p.tables e below (T.setTop g) target := by
  obtain ⟨cl, A, S, -, H⟩ := V
  exact X.baloadBytes hx (by rw [eT]; exact A.1) (State.isArrayOf_alike hZ.alike A.2.1) A.2.2 (OwnAV.inb S I) (by rw [I.2.1, H k I.2.2, hv]) hg hs hd _ hr
theorem own_iast (X : Stand p l e R s m args below meth c T locs cells slots) (hx : p.tables.exec = Jvm.exec) (hZ : Z.Warmed39 s.vm) (eT : T.heap = h) (V : OwnAV Z h a .int n f) (I : OwnIdx j k n) {x : Int32} {g : JFrame} (hg : g.method = m) {rest : List Value} (hs : g.stack = .int x :: .int j :: .ref a :: rest) (hd : decode c.code g.pc = .ok (.iastore, 1)) :
    ∃ T' h', Stand p l e R s m args below meth c T' (locs ++ [⟨a, k⟩]) cells slots ∧ T'.heap = h' ∧ Wr h h' a k (.int x) ∧ ∀ target, Steps p.tables e below (T'.setTop { g with pc := g.pc + 1, stack := rest }) target → Steps p.tables e below (T.setTop g) target := by
  obtain ⟨cl, A, S, -, -⟩ := V
  have q := stI X hx hZ eT A (OwnAV.inb S I) hg hs hd
  rw [I.2.1] at q; exact q
theorem own_last (X : Stand p l e R s m args below meth c T locs cells slots) (hx : p.tables.exec = Jvm.exec) (hZ : Z.Warmed39 s.vm) (eT : T.heap = h) (V : OwnAV Z h a .long n f) (I : OwnIdx j k n) {x : Int64} {g : JFrame} (hg : g.method = m) {rest : List Value} (hs : g.stack = .long x :: .int j :: .ref a :: rest) (hd : decode c.code g.pc = .ok (.lastore, 1)) :
    ∃ T' h', Stand p l e R s m args below meth c T' (locs ++ [⟨a, k⟩]) cells slots ∧ T'.heap = h' ∧ Wr h h' a k (.long x) ∧ ∀ target, Steps p.tables e below (T'.setTop { g with pc := g.pc + 1, stack := rest }) target → Steps p.tables e below (T.setTop g) target := by
  obtain ⟨cl, A, S, -, -⟩ := V
  have q := stJ X hx hZ eT A (OwnAV.inb S I) hg hs hd
  rw [I.2.1] at q; exact q
theorem own_bast (X : Stand p l e R s m args below meth c T locs cells slots) (hx : p.tables.exec = Jvm.exec) (hZ : Z.Warmed39 s.vm) (eT : T.heap = h) (V : OwnAV Z h a .byte n f) (I : OwnIdx j k n) {x : Int32} {g : JFrame} (hg : g.method = m) {rest : List Value} (hs : g.stack = .int x :: .int j :: .ref a :: rest) (hd : decode c.code g.pc = .ok (.bastore, 1)) :
    ∃ T' h', Stand p l e R s m args below meth c T' (locs ++ [⟨a, k⟩]) cells slots ∧ T'.heap = h' ∧ Wr h h' a k (.int (nar .byte x)) ∧ ∀ target, Steps p.tables e below (T'.setTop { g with pc := g.pc + 1, stack := rest }) target → Steps p.tables e below (T.setTop g) target := by
  obtain ⟨cl, A, S, -, -⟩ := V
  have q := stB X hx hZ eT A (OwnAV.inb S I) hg hs hd
  rw [I.2.1] at q; exact q
end OwnArr
end Jvm.RoadKit
namespace Jvm.Pilot.@@N@@
open Jvm Jvm.ClassFile Sem Op Lib Jvm.Free Jvm.Stand Jvm.LawKit Jvm.RoadKit Bundle Jvm.Pilot.@@N@@.Jvm.D

theorem own_nar {r : Int32} (h : r = 0 ∨ r = 1) : nar .boolean r = r := by rcases h with rfl | rfl <;> rfl
theorem pd_1 : parseMethodDescriptor "(IIIIII)[I" = some ⟨[.int, .int, .int, .int, .int, .int], some (.array .int)⟩ := by decide +kernel
theorem pd_2 : parseMethodDescriptor "([II)[I" = some ⟨[(.array .int), .int], some (.array .int)⟩ := by decide +kernel
def own_lab (l0 l1 l2 l3 l4 : Int32) : Nat → Int32
  | 0 => l0
  | 1 => l1
  | 2 => l2
  | 3 => l3
  | _ => l4
/-- the numbers so far and how many: the labels before the i-th are looked at -/
def own_num (lab : Nat → Nat) (P : Nat) : Nat → (Nat → Nat) × Nat
  | 0 => (fun _ => 0, 0)
  | i + 1 => if (own_num lab P i).2 < P then (if (own_num lab P i).1 (lab i) = 0 then (own_upd (own_num lab P i).1 (lab i) ((own_num lab P i).2 + 1), (own_num lab P i).2 + 1) else own_num lab P i) else own_num lab P i
def own_G (fl : Nat → Int32) (P i : Nat) : Nat → Int32 := fun j => Int32.ofNat ((own_num (fun j => (fl j).toInt.toNat) P i).1 j)
theorem own_num_le (lab : Nat → Nat) (P : Nat) : ∀ i, (own_num lab P i).2 ≤ P ∧ ∀ j, (own_num lab P i).1 j ≤ P := by
  intro i
  induction i with
  | zero => exact ⟨Nat.zero_le _, fun j => Nat.zero_le _⟩
  | succ i ih =>
    rw [own_num]
    split
    · split
      · rename_i h1 h2
        refine ⟨h1, fun j => ?_⟩
        by_cases q : j = lab i
        · subst q; show own_upd _ _ _ (lab i) ≤ P; rw [own_upd_at]; exact h1
        · show own_upd _ _ _ j ≤ P; rw [own_upd_ne _ _ q]; exact ih.2 j
      · exact ih
    · exact ih
theorem own_num_stop (lab : Nat → Nat) (P i : Nat) (h : ¬ (own_num lab P i).2 < P) : ∀ k, own_num lab P (i + k) = own_num lab P i := by
  intro k
  induction k with
  | zero => rfl
  | succ k ih => show own_num lab P ((i + k) + 1) = _; rw [own_num, ih, if_neg h]
theorem own_nlt {a b : Nat} (ha : a < 2147483648) (hb : b < 2147483648) : Int32.ofNat a < Int32.ofNat b ↔ a < b := by
  rw [Int32.lt_iff_toInt_lt, Int32.toInt_ofNat_of_lt (by omega), Int32.toInt_ofNat_of_lt (by omega)]; omega
theorem own_nz {a : Nat} (ha : a < 2147483648) : Int32.ofNat a = (0 : Int32) ↔ a = 0 := by
  rw [← Int32.toInt_inj, Int32.toInt_ofNat_of_lt (by omega)]
  show (a : Int) = 0 ↔ _
  omega
theorem own_nsucc (i : Nat) : (Int32.ofNat i) + (1 : Int32) = Int32.ofNat (i + 1) := (Int32.ofNat_add i 1).symm
theorem own_back {z : Int32} (h : 0 ≤ z.toInt) : Int32.ofNat z.toInt.toNat = z := by
  have := rng32 z
  rw [← Int32.toInt_inj, Int32.toInt_ofNat_of_lt (by omega)]; omega
theorem d1_0 : decode method_3_code 0 = .ok (.iload_n 0, 1) := by decide +kernel
theorem d1_1 : decode method_3_code 1 = .ok (.ifCond .ne 7, 3) := by decide +kernel
theorem d1_4 : decode method_3_code 4 = .ok (.iconst 0, 1) := by decide +kernel
theorem d1_5 : decode method_3_code 5 = .ok (.newarray .int, 2) := by decide +kernel
theorem d1_7 : decode method_3_code 7 = .ok (.areturn, 1) := by decide +kernel
theorem d1_8 : decode method_3_code 8 = .ok (.iload_n 0, 1) := by decide +kernel
theorem d1_9 : decode method_3_code 9 = .ok (.iconst 1, 1) := by decide +kernel
theorem d1_10 : decode method_3_code 10 = .ok (.if_icmp .ne 11, 3) := by decide +kernel
theorem d1_13 : decode method_3_code 13 = .ok (.iconst 1, 1) := by decide +kernel
theorem d1_14 : decode method_3_code 14 = .ok (.newarray .int, 2) := by decide +kernel
theorem d1_16 : decode method_3_code 16 = .ok (.dup, 1) := by decide +kernel
theorem d1_17 : decode method_3_code 17 = .ok (.iconst 0, 1) := by decide +kernel
theorem d1_18 : decode method_3_code 18 = .ok (.iload_n 1, 1) := by decide +kernel
theorem d1_19 : decode method_3_code 19 = .ok (.iastore, 1) := by decide +kernel
theorem d1_20 : decode method_3_code 20 = .ok (.areturn, 1) := by decide +kernel
theorem d1_21 : decode method_3_code 21 = .ok (.iload_n 0, 1) := by decide +kernel
theorem d1_22 : decode method_3_code 22 = .ok (.iconst 2, 1) := by decide +kernel
theorem d1_23 : decode method_3_code 23 = .ok (.if_icmp .ne 15, 3) := by decide +kernel
theorem d1_26 : decode method_3_code 26 = .ok (.iconst 2, 1) := by decide +kernel
theorem d1_27 : decode method_3_code 27 = .ok (.newarray .int, 2) := by decide +kernel
theorem d1_29 : decode method_3_code 29 = .ok (.dup, 1) := by decide +kernel
theorem d1_30 : decode method_3_code 30 = .ok (.iconst 0, 1) := by decide +kernel
theorem d1_31 : decode method_3_code 31 = .ok (.iload_n 1, 1) := by decide +kernel
theorem d1_32 : decode method_3_code 32 = .ok (.iastore, 1) := by decide +kernel
theorem d1_33 : decode method_3_code 33 = .ok (.dup, 1) := by decide +kernel
theorem d1_34 : decode method_3_code 34 = .ok (.iconst 1, 1) := by decide +kernel
theorem d1_35 : decode method_3_code 35 = .ok (.iload_n 2, 1) := by decide +kernel
theorem d1_36 : decode method_3_code 36 = .ok (.iastore, 1) := by decide +kernel
theorem d1_37 : decode method_3_code 37 = .ok (.areturn, 1) := by decide +kernel
theorem d1_38 : decode method_3_code 38 = .ok (.iload_n 0, 1) := by decide +kernel
theorem d1_39 : decode method_3_code 39 = .ok (.iconst 3, 1) := by decide +kernel
theorem d1_40 : decode method_3_code 40 = .ok (.if_icmp .ne 19, 3) := by decide +kernel
theorem d1_43 : decode method_3_code 43 = .ok (.iconst 3, 1) := by decide +kernel
theorem d1_44 : decode method_3_code 44 = .ok (.newarray .int, 2) := by decide +kernel
theorem d1_46 : decode method_3_code 46 = .ok (.dup, 1) := by decide +kernel
theorem d1_47 : decode method_3_code 47 = .ok (.iconst 0, 1) := by decide +kernel
theorem d1_48 : decode method_3_code 48 = .ok (.iload_n 1, 1) := by decide +kernel
theorem d1_49 : decode method_3_code 49 = .ok (.iastore, 1) := by decide +kernel
theorem d1_50 : decode method_3_code 50 = .ok (.dup, 1) := by decide +kernel
theorem d1_51 : decode method_3_code 51 = .ok (.iconst 1, 1) := by decide +kernel
theorem d1_52 : decode method_3_code 52 = .ok (.iload_n 2, 1) := by decide +kernel
theorem d1_53 : decode method_3_code 53 = .ok (.iastore, 1) := by decide +kernel
theorem d1_54 : decode method_3_code 54 = .ok (.dup, 1) := by decide +kernel
theorem d1_55 : decode method_3_code 55 = .ok (.iconst 2, 1) := by decide +kernel
theorem d1_56 : decode method_3_code 56 = .ok (.iload_n 3, 1) := by decide +kernel
theorem d1_57 : decode method_3_code 57 = .ok (.iastore, 1) := by decide +kernel
theorem d1_58 : decode method_3_code 58 = .ok (.areturn, 1) := by decide +kernel
theorem d1_59 : decode method_3_code 59 = .ok (.iload_n 0, 1) := by decide +kernel
theorem d1_60 : decode method_3_code 60 = .ok (.iconst 4, 1) := by decide +kernel
theorem d1_61 : decode method_3_code 61 = .ok (.if_icmp .ne 24, 3) := by decide +kernel
theorem d1_64 : decode method_3_code 64 = .ok (.iconst 4, 1) := by decide +kernel
theorem d1_65 : decode method_3_code 65 = .ok (.newarray .int, 2) := by decide +kernel
theorem d1_67 : decode method_3_code 67 = .ok (.dup, 1) := by decide +kernel
theorem d1_68 : decode method_3_code 68 = .ok (.iconst 0, 1) := by decide +kernel
theorem d1_69 : decode method_3_code 69 = .ok (.iload_n 1, 1) := by decide +kernel
theorem d1_70 : decode method_3_code 70 = .ok (.iastore, 1) := by decide +kernel
theorem d1_71 : decode method_3_code 71 = .ok (.dup, 1) := by decide +kernel
theorem d1_72 : decode method_3_code 72 = .ok (.iconst 1, 1) := by decide +kernel
theorem d1_73 : decode method_3_code 73 = .ok (.iload_n 2, 1) := by decide +kernel
theorem d1_74 : decode method_3_code 74 = .ok (.iastore, 1) := by decide +kernel
theorem d1_75 : decode method_3_code 75 = .ok (.dup, 1) := by decide +kernel
theorem d1_76 : decode method_3_code 76 = .ok (.iconst 2, 1) := by decide +kernel
theorem d1_77 : decode method_3_code 77 = .ok (.iload_n 3, 1) := by decide +kernel
theorem d1_78 : decode method_3_code 78 = .ok (.iastore, 1) := by decide +kernel
theorem d1_79 : decode method_3_code 79 = .ok (.dup, 1) := by decide +kernel
theorem d1_80 : decode method_3_code 80 = .ok (.iconst 3, 1) := by decide +kernel
theorem d1_81 : decode method_3_code 81 = .ok (.iload 4, 2) := by decide +kernel
theorem d1_83 : decode method_3_code 83 = .ok (.iastore, 1) := by decide +kernel
theorem d1_84 : decode method_3_code 84 = .ok (.areturn, 1) := by decide +kernel
theorem d1_85 : decode method_3_code 85 = .ok (.iconst 5, 1) := by decide +kernel
theorem d1_86 : decode method_3_code 86 = .ok (.newarray .int, 2) := by decide +kernel
theorem d1_88 : decode method_3_code 88 = .ok (.dup, 1) := by decide +kernel
theorem d1_89 : decode method_3_code 89 = .ok (.iconst 0, 1) := by decide +kernel
theorem d1_90 : decode method_3_code 90 = .ok (.iload_n 1, 1) := by decide +kernel
theorem d1_91 : decode method_3_code 91 = .ok (.iastore, 1) := by decide +kernel
theorem d1_92 : decode method_3_code 92 = .ok (.dup, 1) := by decide +kernel
theorem d1_93 : decode method_3_code 93 = .ok (.iconst 1, 1) := by decide +kernel
theorem d1_94 : decode method_3_code 94 = .ok (.iload_n 2, 1) := by decide +kernel
theorem d1_95 : decode method_3_code 95 = .ok (.iastore, 1) := by decide +kernel
theorem d1_96 : decode method_3_code 96 = .ok (.dup, 1) := by decide +kernel
theorem d1_97 : decode method_3_code 97 = .ok (.iconst 2, 1) := by decide +kernel
theorem d1_98 : decode method_3_code 98 = .ok (.iload_n 3, 1) := by decide +kernel
theorem d1_99 : decode method_3_code 99 = .ok (.iastore, 1) := by decide +kernel
theorem d1_100 : decode method_3_code 100 = .ok (.dup, 1) := by decide +kernel
theorem d1_101 : decode method_3_code 101 = .ok (.iconst 3, 1) := by decide +kernel
theorem d1_102 : decode method_3_code 102 = .ok (.iload 4, 2) := by decide +kernel
theorem d1_104 : decode method_3_code 104 = .ok (.iastore, 1) := by decide +kernel
theorem d1_105 : decode method_3_code 105 = .ok (.dup, 1) := by decide +kernel
theorem d1_106 : decode method_3_code 106 = .ok (.iconst 4, 1) := by decide +kernel
theorem d1_107 : decode method_3_code 107 = .ok (.iload 5, 2) := by decide +kernel
theorem d1_109 : decode method_3_code 109 = .ok (.iastore, 1) := by decide +kernel
theorem d1_110 : decode method_3_code 110 = .ok (.areturn, 1) := by decide +kernel
theorem pn_1 : plainName "com/example/faultline/faultline/split/CutNumbersPinLaw" = true := by first | (simp [plainName, overriddenIn]; done) | decide +kernel
theorem ef_1 (m : MethodId) (nn : Int32) (l0 : Int32) (l1 : Int32) (l2 : Int32) (l3 : Int32) (l4 : Int32) : entryFrame m #[(.int nn), (.int l0), (.int l1), (.int l2), (.int l3), (.int l4)] 6 = (mkF m 0 #[.val (.int nn), .val (.int l0), .val (.int l1), .val (.int l2), .val (.int l3), .val (.int l4)] []) := by first | (simp [entryFrame, mkF, argsToLocals, Value.category]; done) | rfl
def Q1 (Z : State) (nn : Int32) (l0 : Int32) (l1 : Int32) (l2 : Int32) (l3 : Int32) (l4 : Int32) (h0 : Heap) (n0 : Nat) (v : Option Value) (h : Heap) (L : List Loc) : Prop := ∃ b : Addr, v = some (.ref b) ∧ h0.size ≤ b ∧ Fr n0 L ∧ Keep h0 h [] ∧ OwnAV Z h b .int nn.toInt.toNat (fun i => .int (own_lab l0 l1 l2 l3 l4 i))
set_option maxRecDepth 65536 in
set_option maxHeartbeats 40000000 in
theorem rm1 (l : Launch) (Z : State) (a0 : Array Value) (hw : ∀ d ∈ tables_1, d.before a0 Z = true) (ws : List Jvm.Cond) (nn : Int32) (l0 : Int32) (l1 : Int32) (l2 : Int32) (l3 : Int32) (l4 : Int32) (h0 : Heap) (n0 : Nat) (Z0 : n0 ≤ h0.size) (hn0 : 0 ≤ nn.toInt) (hn5 : nn.toInt ≤ 5) :
    MetFree l (⟨"com/example/faultline/faultline/split/CutNumbersPinLaw", "take", "(IIIIII)[I"⟩ : MethodName) (head1 (Jvm.Cond.code (⟨"com/example/faultline/faultline/split/CutNumbersPinLaw", "take", "(IIIIII)[I"⟩ : MethodName) method_3_code 6 (some (.array .int)) :: ws) ({ frames := 0, cells := 1, slots := 5, locals := 0 } : Room)) (fun a U => a = #[(.int nn), (.int l0), (.int l1), (.int l2), (.int l3), (.int l4)] ∧ Z.Warmed39 U.vm ∧ U.heap = h0) (fun _ _ _ _ _ => True) (fun _ U o U' => ∃ v L, o = .returned v ∧ Q1 Z nn l0 l1 l2 l3 l4 h0 n0 v U'.heap L ∧ FrameEnd U o U' L ({ frames := 0, cells := 1, slots := 5, locals := 0 } : Room).cells ({ frames := 0, cells := 1, slots := 5, locals := 0 } : Room).slots) := by
  refine MetFree.of_bodySF (plainFor_of_name pn_1) hisR ?_
  intro p e s m args below meth c s₁ Bd hml0 hP hK
  obtain ⟨rfl, hZ, hh⟩ := hP
  have hx := Bd.exec
  have hby := Bd.bytes
  have hml : c.maxLocals = 6 := hml0
  have hown : s.vm.findClass "com/example/faultline/faultline/split/CutNumbersPinLaw" = some m.cls := findClass_of_methodNamed Bd.named
  have hnm := (name_of_methodNamed Bd.named Bd.method).1
  have X0 : Stand p l e ({ frames := 0, cells := 1, slots := 5, locals := 0 } : Room) s m #[(.int nn), (.int l0), (.int l1), (.int l2), (.int l3), (.int l4)] below meth c s₁ [] 0 0 := Stand.of_body Bd
  have e0 : s₁.heap = h0 := by rw [← hh, Bd.state]; rfl
  have N0 := Fr.nil n0
  have pre0 : ∀ t, Steps p.tables e below (s₁.setTop (mkF m 0 #[.val (.int nn), .val (.int l0), .val (.int l1), .val (.int l2), .val (.int l3), .val (.int l4)] [])) t → Steps p.tables e below (s₁.setTop (entryFrame m #[(.int nn), (.int l0), (.int l1), (.int l2), (.int l3), (.int l4)] 6)) t := fun t k => castTop (ef_1 m nn l0 l1 l2 l3 l4) k
  have k39 : ∀ t, Steps p.tables e below (s₁.setTop (mkF m 1 #[.val (.int nn), .val (.int l0), .val (.int l1), .val (.int l2), .val (.int l3), .val (.int l4)] [(.int nn)])) t → Steps p.tables e below (s₁.setTop (entryFrame m #[(.int nn), (.int l0), (.int l1), (.int l2), (.int l3), (.int l4)] 6)) t := fun t hk => pre0 t (by
    show Steps p.tables e below (s₁.setTop (mkF m 0 #[.val (.int nn), .val (.int l0), .val (.int l1), .val (.int l2), .val (.int l3), .val (.int l4)] [])) _
    refine XS.iloadN X0.here hx rfl (hb hby d1_0) rfl ?_
    exact hk)
  by_cases hc1 : nn = (0 : Int32)
  ·
    obtain ⟨T40, h40, k40, X40, e40, E40, A40, st40⟩ := newP X0 hx hZ (hw _ (List.mem_of_getElem? (i := 5) rfl)) e0 (g := (mkF m 5 #[.val (.int nn), .val (.int l0), .val (.int l1), .val (.int l2), .val (.int l3), .val (.int l4)] [(.int (0 : Int32))])) rfl (hb hby d1_5) rfl (by decide) (cap := 5) (by decide) (by decide) (by decide) (by decide)
    obtain ⟨b40, g40⟩ : ∃ z, z = h0.size := ⟨_, rfl⟩
    have g41 : n0 ≤ b40 := g40 ▸ Z0
    have s42 : h0.size ≤ b40 := g40 ▸ (Keep.refl h0 []).1
    rw [← g40] at A40 st40
    have K43 := (Keep.refl h0 []).ext E40
    have Z44 : n0 ≤ h40.size := Nat.le_trans Z0 E40.1
    have A45 : OwnAV Z h40 b40 .int 0 (fun i => (.int ((fun _ => (0 : Int32)) i))) := OwnAV.new A40 rfl (by decide)
    have k46 : ∀ t, Steps p.tables e below (T40.setTop (mkF m 7 #[.val (.int nn), .val (.int l0), .val (.int l1), .val (.int l2), .val (.int l3), .val (.int l4)] [(.ref b40)])) t → Steps p.tables e below (s₁.setTop (entryFrame m #[(.int nn), (.int l0), (.int l1), (.int l2), (.int l3), (.int l4)] 6)) t := fun t hk => k39 t (by
      show Steps p.tables e below (s₁.setTop (mkF m 1 #[.val (.int nn), .val (.int l0), .val (.int l1), .val (.int l2), .val (.int l3), .val (.int l4)] [(.int nn)])) _
      refine XS.ifNo X0.here hx rfl (hb hby d1_1) rfl ((if0 _ _).trans (teq hc1).2) ?_
      show Steps p.tables e below (s₁.setTop (mkF m 4 #[.val (.int nn), .val (.int l0), .val (.int l1), .val (.int l2), .val (.int l3), .val (.int l4)] [])) _
      refine XS.iconst X0.here hx rfl (hb hby d1_4) ?_
      show Steps p.tables e below (s₁.setTop (mkF m 5 #[.val (.int nn), .val (.int l0), .val (.int l1), .val (.int l2), .val (.int l3), .val (.int l4)] [(.int (0 : Int32))])) _
      refine st40 _ ?_
      exact hk)
    have hk : nn.toInt.toNat = 0 := by
      rw [hc1]; rfl
    obtain ⟨fs, hr, hrun, hended, hW, hsame⟩ := X40.leave (v := some (.ref b40)) (fun h => by rw [Bd.returns] at h; cases h)
    refine ⟨_, _, k46 _ ?_, hrun, hended, _, _, rfl, ?_, ⟨_, rfl⟩, hW, hsame.mono (by decide) (by decide)⟩
    · show Steps p.tables e below (T40.setTop (mkF m 7 #[.val (.int nn), .val (.int l0), .val (.int l1), .val (.int l2), .val (.int l3), .val (.int l4)] [(.ref b40)])) _
      exact retOut X40 hx Bd.returns rfl (Or.inr (Or.inr (Or.inr (Or.inr ⟨rfl, rfl, rfl⟩)))) (hb hby d1_7) hr
    · show Q1 Z nn l0 l1 l2 l3 l4 h0 n0 _ T40.heap _
      rw [e40]
      refine ⟨_, rfl, s42, N0, K43, ?_⟩
      rw [hk]
      exact A45.congr (fun j hj => absurd hj (Nat.not_lt_zero j))
  ·
    have k47 : ∀ t, Steps p.tables e below (s₁.setTop (mkF m 10 #[.val (.int nn), .val (.int l0), .val (.int l1), .val (.int l2), .val (.int l3), .val (.int l4)] [(.int (1 : Int32)), (.int nn)])) t → Steps p.tables e below (s₁.setTop (entryFrame m #[(.int nn), (.int l0), (.int l1), (.int l2), (.int l3), (.int l4)] 6)) t := fun t hk => k39 t (by
      show Steps p.tables e below (s₁.setTop (mkF m 1 #[.val (.int nn), .val (.int l0), .val (.int l1), .val (.int l2), .val (.int l3), .val (.int l4)] [(.int nn)])) _
      refine XS.ifYes X0.here hx rfl (pc0 := 1) (pc' := 8) rfl (hb hby d1_1) rfl ((if0 _ _).trans (feq hc1).2) (by decide) (by decide) ?_
      show Steps p.tables e below (s₁.setTop (mkF m 8 #[.val (.int nn), .val (.int l0), .val (.int l1), .val (.int l2), .val (.int l3), .val (.int l4)] [])) _
      refine XS.iloadN X0.here hx rfl (hb hby d1_8) rfl ?_
      show Steps p.tables e below (s₁.setTop (mkF m 9 #[.val (.int nn), .val (.int l0), .val (.int l1), .val (.int l2), .val (.int l3), .val (.int l4)] [(.int nn)])) _
      refine XS.iconst X0.here hx rfl (hb hby d1_9) ?_
      exact hk)
    by_cases hc10 : nn = (1 : Int32)
    ·
      obtain ⟨T48, h48, k48, X48, e48, E48, A48, st48⟩ := newP X0 hx hZ (hw _ (List.mem_of_getElem? (i := 5) rfl)) e0 (g := (mkF m 14 #[.val (.int nn), .val (.int l0), .val (.int l1), .val (.int l2), .val (.int l3), .val (.int l4)] [(.int (1 : Int32))])) rfl (hb hby d1_14) rfl (by decide) (cap := 5) (by decide) (by decide) (by decide) (by decide)
      obtain ⟨b48, g48⟩ : ∃ z, z = h0.size := ⟨_, rfl⟩
      have g49 : n0 ≤ b48 := g48 ▸ Z0
      have s50 : h0.size ≤ b48 := g48 ▸ (Keep.refl h0 []).1
      rw [← g48] at A48 st48
      have K51 := (Keep.refl h0 []).ext E48
      have Z52 : n0 ≤ h48.size := Nat.le_trans Z0 E48.1
      have A53 : OwnAV Z h48 b48 .int 1 (fun i => (.int ((fun _ => (0 : Int32)) i))) := OwnAV.new A48 rfl (by decide)
      obtain ⟨T54, h54, X54, e54, W54, st54⟩ := own_iast X48 hx hZ e48 A53 (k := 0) ⟨by decide, rfl, by decide⟩ (g := (mkF m 19 #[.val (.int nn), .val (.int l0), .val (.int l1), .val (.int l2), .val (.int l3), .val (.int l4)] [(.int l0), (.int (0 : Int32)), (.ref b48), (.ref b48)])) rfl rfl (hb hby d1_19)
      have A55 := A53.storeI W54
      have K56 := K51.wr W54 (Or.inr s50)
      have Z57 : n0 ≤ h54.size := W54.size ▸ Z52
      have N58 := Fr.snoc X54 N0 g49
      have k59 : ∀ t, Steps p.tables e below (T54.setTop (mkF m 20 #[.val (.int nn), .val (.int l0), .val (.int l1), .val (.int l2), .val (.int l3), .val (.int l4)] [(.ref b48)])) t → Steps p.tables e below (s₁.setTop (entryFrame m #[(.int nn), (.int l0), (.int l1), (.int l2), (.int l3), (.int l4)] 6)) t := fun t hk => k47 t (by
        show Steps p.tables e below (s₁.setTop (mkF m 10 #[.val (.int nn), .val (.int l0), .val (.int l1), .val (.int l2), .val (.int l3), .val (.int l4)] [(.int (1 : Int32)), (.int nn)])) _
        refine XS.icmpNo X0.here hx rfl (hb hby d1_10) rfl (teq hc10).2 ?_
        show Steps p.tables e below (s₁.setTop (mkF m 13 #[.val (.int nn), .val (.int l0), .val (.int l1), .val (.int l2), .val (.int l3), .val (.int l4)] [])) _
        refine XS.iconst X0.here hx rfl (hb hby d1_13) ?_
        show Steps p.tables e below (s₁.setTop (mkF m 14 #[.val (.int nn), .val (.int l0), .val (.int l1), .val (.int l2), .val (.int l3), .val (.int l4)] [(.int (1 : Int32))])) _
        refine st48 _ ?_
        show Steps p.tables e below (T48.setTop (mkF m 16 #[.val (.int nn), .val (.int l0), .val (.int l1), .val (.int l2), .val (.int l3), .val (.int l4)] [(.ref b48)])) _
        refine XS.dup X48.here hx rfl (hb hby d1_16) rfl rfl ?_
        show Steps p.tables e below (T48.setTop (mkF m 17 #[.val (.int nn), .val (.int l0), .val (.int l1), .val (.int l2), .val (.int l3), .val (.int l4)] [(.ref b48), (.ref b48)])) _
        refine XS.iconst X48.here hx rfl (hb hby d1_17) ?_
        show Steps p.tables e below (T48.setTop (mkF m 18 #[.val (.int nn), .val (.int l0), .val (.int l1), .val (.int l2), .val (.int l3), .val (.int l4)] [(.int (0 : Int32)), (.ref b48), (.ref b48)])) _
        refine XS.iloadN X48.here hx rfl (hb hby d1_18) rfl ?_
        show Steps p.tables e below (T48.setTop (mkF m 19 #[.val (.int nn), .val (.int l0), .val (.int l1), .val (.int l2), .val (.int l3), .val (.int l4)] [(.int l0), (.int (0 : Int32)), (.ref b48), (.ref b48)])) _
        refine st54 _ ?_
        exact hk)
      have hk : nn.toInt.toNat = 1 := by
        rw [hc10]; rfl
      obtain ⟨fs, hr, hrun, hended, hW, hsame⟩ := X54.leave (v := some (.ref b48)) (fun h => by rw [Bd.returns] at h; cases h)
      refine ⟨_, _, k59 _ ?_, hrun, hended, _, _, rfl, ?_, ⟨_, rfl⟩, hW, hsame.mono (by decide) (by decide)⟩
      · show Steps p.tables e below (T54.setTop (mkF m 20 #[.val (.int nn), .val (.int l0), .val (.int l1), .val (.int l2), .val (.int l3), .val (.int l4)] [(.ref b48)])) _
        exact retOut X54 hx Bd.returns rfl (Or.inr (Or.inr (Or.inr (Or.inr ⟨rfl, rfl, rfl⟩)))) (hb hby d1_20) hr
      · show Q1 Z nn l0 l1 l2 l3 l4 h0 n0 _ T54.heap _
        rw [e54]
        refine ⟨_, rfl, s50, N58, K56, ?_⟩
        rw [hk]
        exact A55.congr (fun j hj => by
            have q : j = 0 := by omega
            subst q; rfl)
    ·
      have k60 : ∀ t, Steps p.tables e below (s₁.setTop (mkF m 23 #[.val (.int nn), .val (.int l0), .val (.int l1), .val (.int l2), .val (.int l3), .val (.int l4)] [(.int (2 : Int32)), (.int nn)])) t → Steps p.tables e below (s₁.setTop (entryFrame m #[(.int nn), (.int l0), (.int l1), (.int l2), (.int l3), (.int l4)] 6)) t := fun t hk => k47 t (by
        show Steps p.tables e below (s₁.setTop (mkF m 10 #[.val (.int nn), .val (.int l0), .val (.int l1), .val (.int l2), .val (.int l3), .val (.int l4)] [(.int (1 : Int32)), (.int nn)])) _
        refine XS.icmpYes X0.here hx rfl (pc0 := 10) (pc' := 21) rfl (hb hby d1_10) rfl (feq hc10).2 (by decide) (by decide) ?_
        show Steps p.tables e below (s₁.setTop (mkF m 21 #[.val (.int nn), .val (.int l0), .val (.int l1), .val (.int l2), .val (.int l3), .val (.int l4)] [])) _
        refine XS.iloadN X0.here hx rfl (hb hby d1_21) rfl ?_
        show Steps p.tables e below (s₁.setTop (mkF m 22 #[.val (.int nn), .val (.int l0), .val (.int l1), .val (.int l2), .val (.int l3), .val (.int l4)] [(.int nn)])) _
        refine XS.iconst X0.here hx rfl (hb hby d1_22) ?_
        exact hk)
      by_cases hc23 : nn = (2 : Int32)
      ·
        obtain ⟨T61, h61, k61, X61, e61, E61, A61, st61⟩ := newP X0 hx hZ (hw _ (List.mem_of_getElem? (i := 5) rfl)) e0 (g := (mkF m 27 #[.val (.int nn), .val (.int l0), .val (.int l1), .val (.int l2), .val (.int l3), .val (.int l4)] [(.int (2 : Int32))])) rfl (hb hby d1_27) rfl (by decide) (cap := 5) (by decide) (by decide) (by decide) (by decide)
        obtain ⟨b61, g61⟩ : ∃ z, z = h0.size := ⟨_, rfl⟩
        have g62 : n0 ≤ b61 := g61 ▸ Z0
        have s63 : h0.size ≤ b61 := g61 ▸ (Keep.refl h0 []).1
        rw [← g61] at A61 st61
        have K64 := (Keep.refl h0 []).ext E61
        have Z65 : n0 ≤ h61.size := Nat.le_trans Z0 E61.1
        have A66 : OwnAV Z h61 b61 .int 2 (fun i => (.int ((fun _ => (0 : Int32)) i))) := OwnAV.new A61 rfl (by decide)
        obtain ⟨T67, h67, X67, e67, W67, st67⟩ := own_iast X61 hx hZ e61 A66 (k := 0) ⟨by decide, rfl, by decide⟩ (g := (mkF m 32 #[.val (.int nn), .val (.int l0), .val (.int l1), .val (.int l2), .val (.int l3), .val (.int l4)] [(.int l0), (.int (0 : Int32)), (.ref b61), (.ref b61)])) rfl rfl (hb hby d1_32)
        have A68 := A66.storeI W67
        have K69 := K64.wr W67 (Or.inr s63)
        have Z70 : n0 ≤ h67.size := W67.size ▸ Z65
        have N71 := Fr.snoc X67 N0 g62
        obtain ⟨T72, h72, X72, e72, W72, st72⟩ := own_iast X67 hx hZ e67 A68 (k := 1) ⟨by decide, rfl, by decide⟩ (g := (mkF m 36 #[.val (.int nn), .val (.int l0), .val (.int l1), .val (.int l2), .val (.int l3), .val (.int l4)] [(.int l1), (.int (1 : Int32)), (.ref b61), (.ref b61)])) rfl rfl (hb hby d1_36)
        have A73 := A68.storeI W72
        have K74 := K69.wr W72 (Or.inr s63)
        have Z75 : n0 ≤ h72.size := W72.size ▸ Z70
        have N76 := Fr.snoc X72 N71 g62
        have k77 : ∀ t, Steps p.tables e below (T72.setTop (mkF m 37 #[.val (.int nn), .val (.int l0), .val (.int l1), .val (.int l2), .val (.int l3), .val (.int l4)] [(.ref b61)])) t → Steps p.tables e below (s₁.setTop (entryFrame m #[(.int nn), (.int l0), (.int l1), (.int l2), (.int l3), (.int l4)] 6)) t := fun t hk => k60 t (by
          show Steps p.tables e below (s₁.setTop (mkF m 23 #[.val (.int nn), .val (.int l0), .val (.int l1), .val (.int l2), .val (.int l3), .val (.int l4)] [(.int (2 : Int32)), (.int nn)])) _
          refine XS.icmpNo X0.here hx rfl (hb hby d1_23) rfl (teq hc23).2 ?_
          show Steps p.tables e below (s₁.setTop (mkF m 26 #[.val (.int nn), .val (.int l0), .val (.int l1), .val (.int l2), .val (.int l3), .val (.int l4)] [])) _
          refine XS.iconst X0.here hx rfl (hb hby d1_26) ?_
          show Steps p.tables e below (s₁.setTop (mkF m 27 #[.val (.int nn), .val (.int l0), .val (.int l1), .val (.int l2), .val (.int l3), .val (.int l4)] [(.int (2 : Int32))])) _
          refine st61 _ ?_
          show Steps p.tables e below (T61.setTop (mkF m 29 #[.val (.int nn), .val (.int l0), .val (.int l1), .val (.int l2), .val (.int l3), .val (.int l4)] [(.ref b61)])) _
          refine XS.dup X61.here hx rfl (hb hby d1_29) rfl rfl ?_
          show Steps p.tables e below (T61.setTop (mkF m 30 #[.val (.int nn), .val (.int l0), .val (.int l1), .val (.int l2), .val (.int l3), .val (.int l4)] [(.ref b61), (.ref b61)])) _
          refine XS.iconst X61.here hx rfl (hb hby d1_30) ?_
          show Steps p.tables e below (T61.setTop (mkF m 31 #[.val (.int nn), .val (.int l0), .val (.int l1), .val (.int l2), .val (.int l3), .val (.int l4)] [(.int (0 : Int32)), (.ref b61), (.ref b61)])) _
          refine XS.iloadN X61.here hx rfl (hb hby d1_31) rfl ?_
          show Steps p.tables e below (T61.setTop (mkF m 32 #[.val (.int nn), .val (.int l0), .val (.int l1), .val (.int l2), .val (.int l3), .val (.int l4)] [(.int l0), (.int (0 : Int32)), (.ref b61), (.ref b61)])) _
          refine st67 _ ?_
          show Steps p.tables e below (T67.setTop (mkF m 33 #[.val (.int nn), .val (.int l0), .val (.int l1), .val (.int l2), .val (.int l3), .val (.int l4)] [(.ref b61)])) _
          refine XS.dup X67.here hx rfl (hb hby d1_33) rfl rfl ?_
          show Steps p.tables e below (T67.setTop (mkF m 34 #[.val (.int nn), .val (.int l0), .val (.int l1), .val (.int l2), .val (.int l3), .val (.int l4)] [(.ref b61), (.ref b61)])) _
          refine XS.iconst X67.here hx rfl (hb hby d1_34) ?_
          show Steps p.tables e below (T67.setTop (mkF m 35 #[.val (.int nn), .val (.int l0), .val (.int l1), .val (.int l2), .val (.int l3), .val (.int l4)] [(.int (1 : Int32)), (.ref b61), (.ref b61)])) _
          refine XS.iloadN X67.here hx rfl (hb hby d1_35) rfl ?_
          show Steps p.tables e below (T67.setTop (mkF m 36 #[.val (.int nn), .val (.int l0), .val (.int l1), .val (.int l2), .val (.int l3), .val (.int l4)] [(.int l1), (.int (1 : Int32)), (.ref b61), (.ref b61)])) _
          refine st72 _ ?_
          exact hk)
        have hk : nn.toInt.toNat = 2 := by
          rw [hc23]; rfl
        obtain ⟨fs, hr, hrun, hended, hW, hsame⟩ := X72.leave (v := some (.ref b61)) (fun h => by rw [Bd.returns] at h; cases h)
        refine ⟨_, _, k77 _ ?_, hrun, hended, _, _, rfl, ?_, ⟨_, rfl⟩, hW, hsame.mono (by decide) (by decide)⟩
        · show Steps p.tables e below (T72.setTop (mkF m 37 #[.val (.int nn), .val (.int l0), .val (.int l1), .val (.int l2), .val (.int l3), .val (.int l4)] [(.ref b61)])) _
          exact retOut X72 hx Bd.returns rfl (Or.inr (Or.inr (Or.inr (Or.inr ⟨rfl, rfl, rfl⟩)))) (hb hby d1_37) hr
        · show Q1 Z nn l0 l1 l2 l3 l4 h0 n0 _ T72.heap _
          rw [e72]
          refine ⟨_, rfl, s63, N76, K74, ?_⟩
          rw [hk]
          exact A73.congr (fun j hj => by
              have q : j = 0 ∨ j = 1 := by omega
              rcases q with rfl | rfl <;> rfl)
      ·
        have k78 : ∀ t, Steps p.tables e below (s₁.setTop (mkF m 40 #[.val (.int nn), .val (.int l0), .val (.int l1), .val (.int l2), .val (.int l3), .val (.int l4)] [(.int (3 : Int32)), (.int nn)])) t → Steps p.tables e below (s₁.setTop (entryFrame m #[(.int nn), (.int l0), (.int l1), (.int l2), (.int l3), (.int l4)] 6)) t := fun t hk => k60 t (by
          show Steps p.tables e below (s₁.setTop (mkF m 23 #[.val (.int nn), .val (.int l0), .val (.int l1), .val (.int l2), .val (.int l3), .val (.int l4)] [(.int (2 : Int32)), (.int nn)])) _
          refine XS.icmpYes X0.here hx rfl (pc0 := 23) (pc' := 38) rfl (hb hby d1_23) rfl (feq hc23).2 (by decide) (by decide) ?_
          show Steps p.tables e below (s₁.setTop (mkF m 38 #[.val (.int nn), .val (.int l0), .val (.int l1), .val (.int l2), .val (.int l3), .val (.int l4)] [])) _
          refine XS.iloadN X0.here hx rfl (hb hby d1_38) rfl ?_
          show Steps p.tables e below (s₁.setTop (mkF m 39 #[.val (.int nn), .val (.int l0), .val (.int l1), .val (.int l2), .val (.int l3), .val (.int l4)] [(.int nn)])) _
          refine XS.iconst X0.here hx rfl (hb hby d1_39) ?_
          exact hk)
        by_cases hc40 : nn = (3 : Int32)
        ·
          obtain ⟨T79, h79, k79, X79, e79, E79, A79, st79⟩ := newP X0 hx hZ (hw _ (List.mem_of_getElem? (i := 5) rfl)) e0 (g := (mkF m 44 #[.val (.int nn), .val (.int l0), .val (.int l1), .val (.int l2), .val (.int l3), .val (.int l4)] [(.int (3 : Int32))])) rfl (hb hby d1_44) rfl (by decide) (cap := 5) (by decide) (by decide) (by decide) (by decide)
          obtain ⟨b79, g79⟩ : ∃ z, z = h0.size := ⟨_, rfl⟩
          have g80 : n0 ≤ b79 := g79 ▸ Z0
          have s81 : h0.size ≤ b79 := g79 ▸ (Keep.refl h0 []).1
          rw [← g79] at A79 st79
          have K82 := (Keep.refl h0 []).ext E79
          have Z83 : n0 ≤ h79.size := Nat.le_trans Z0 E79.1
          have A84 : OwnAV Z h79 b79 .int 3 (fun i => (.int ((fun _ => (0 : Int32)) i))) := OwnAV.new A79 rfl (by decide)
          obtain ⟨T85, h85, X85, e85, W85, st85⟩ := own_iast X79 hx hZ e79 A84 (k := 0) ⟨by decide, rfl, by decide⟩ (g := (mkF m 49 #[.val (.int nn), .val (.int l0), .val (.int l1), .val (.int l2), .val (.int l3), .val (.int l4)] [(.int l0), (.int (0 : Int32)), (.ref b79), (.ref b79)])) rfl rfl (hb hby d1_49)
          have A86 := A84.storeI W85
          have K87 := K82.wr W85 (Or.inr s81)
          have Z88 : n0 ≤ h85.size := W85.size ▸ Z83
          have N89 := Fr.snoc X85 N0 g80
          obtain ⟨T90, h90, X90, e90, W90, st90⟩ := own_iast X85 hx hZ e85 A86 (k := 1) ⟨by decide, rfl, by decide⟩ (g := (mkF m 53 #[.val (.int nn), .val (.int l0), .val (.int l1), .val (.int l2), .val (.int l3), .val (.int l4)] [(.int l1), (.int (1 : Int32)), (.ref b79), (.ref b79)])) rfl rfl (hb hby d1_53)
          have A91 := A86.storeI W90
          have K92 := K87.wr W90 (Or.inr s81)
          have Z93 : n0 ≤ h90.size := W90.size ▸ Z88
          have N94 := Fr.snoc X90 N89 g80
          obtain ⟨T95, h95, X95, e95, W95, st95⟩ := own_iast X90 hx hZ e90 A91 (k := 2) ⟨by decide, rfl, by decide⟩ (g := (mkF m 57 #[.val (.int nn), .val (.int l0), .val (.int l1), .val (.int l2), .val (.int l3), .val (.int l4)] [(.int l2), (.int (2 : Int32)), (.ref b79), (.ref b79)])) rfl rfl (hb hby d1_57)
          have A96 := A91.storeI W95
          have K97 := K92.wr W95 (Or.inr s81)
          have Z98 : n0 ≤ h95.size := W95.size ▸ Z93
          have N99 := Fr.snoc X95 N94 g80
          have k100 : ∀ t, Steps p.tables e below (T95.setTop (mkF m 58 #[.val (.int nn), .val (.int l0), .val (.int l1), .val (.int l2), .val (.int l3), .val (.int l4)] [(.ref b79)])) t → Steps p.tables e below (s₁.setTop (entryFrame m #[(.int nn), (.int l0), (.int l1), (.int l2), (.int l3), (.int l4)] 6)) t := fun t hk => k78 t (by
            show Steps p.tables e below (s₁.setTop (mkF m 40 #[.val (.int nn), .val (.int l0), .val (.int l1), .val (.int l2), .val (.int l3), .val (.int l4)] [(.int (3 : Int32)), (.int nn)])) _
            refine XS.icmpNo X0.here hx rfl (hb hby d1_40) rfl (teq hc40).2 ?_
            show Steps p.tables e below (s₁.setTop (mkF m 43 #[.val (.int nn), .val (.int l0), .val (.int l1), .val (.int l2), .val (.int l3), .val (.int l4)] [])) _
            refine XS.iconst X0.here hx rfl (hb hby d1_43) ?_
            show Steps p.tables e below (s₁.setTop (mkF m 44 #[.val (.int nn), .val (.int l0), .val (.int l1), .val (.int l2), .val (.int l3), .val (.int l4)] [(.int (3 : Int32))])) _
            refine st79 _ ?_
            show Steps p.tables e below (T79.setTop (mkF m 46 #[.val (.int nn), .val (.int l0), .val (.int l1), .val (.int l2), .val (.int l3), .val (.int l4)] [(.ref b79)])) _
            refine XS.dup X79.here hx rfl (hb hby d1_46) rfl rfl ?_
            show Steps p.tables e below (T79.setTop (mkF m 47 #[.val (.int nn), .val (.int l0), .val (.int l1), .val (.int l2), .val (.int l3), .val (.int l4)] [(.ref b79), (.ref b79)])) _
            refine XS.iconst X79.here hx rfl (hb hby d1_47) ?_
            show Steps p.tables e below (T79.setTop (mkF m 48 #[.val (.int nn), .val (.int l0), .val (.int l1), .val (.int l2), .val (.int l3), .val (.int l4)] [(.int (0 : Int32)), (.ref b79), (.ref b79)])) _
            refine XS.iloadN X79.here hx rfl (hb hby d1_48) rfl ?_
            show Steps p.tables e below (T79.setTop (mkF m 49 #[.val (.int nn), .val (.int l0), .val (.int l1), .val (.int l2), .val (.int l3), .val (.int l4)] [(.int l0), (.int (0 : Int32)), (.ref b79), (.ref b79)])) _
            refine st85 _ ?_
            show Steps p.tables e below (T85.setTop (mkF m 50 #[.val (.int nn), .val (.int l0), .val (.int l1), .val (.int l2), .val (.int l3), .val (.int l4)] [(.ref b79)])) _
            refine XS.dup X85.here hx rfl (hb hby d1_50) rfl rfl ?_
            show Steps p.tables e below (T85.setTop (mkF m 51 #[.val (.int nn), .val (.int l0), .val (.int l1), .val (.int l2), .val (.int l3), .val (.int l4)] [(.ref b79), (.ref b79)])) _
            refine XS.iconst X85.here hx rfl (hb hby d1_51) ?_
            show Steps p.tables e below (T85.setTop (mkF m 52 #[.val (.int nn), .val (.int l0), .val (.int l1), .val (.int l2), .val (.int l3), .val (.int l4)] [(.int (1 : Int32)), (.ref b79), (.ref b79)])) _
            refine XS.iloadN X85.here hx rfl (hb hby d1_52) rfl ?_
            show Steps p.tables e below (T85.setTop (mkF m 53 #[.val (.int nn), .val (.int l0), .val (.int l1), .val (.int l2), .val (.int l3), .val (.int l4)] [(.int l1), (.int (1 : Int32)), (.ref b79), (.ref b79)])) _
            refine st90 _ ?_
            show Steps p.tables e below (T90.setTop (mkF m 54 #[.val (.int nn), .val (.int l0), .val (.int l1), .val (.int l2), .val (.int l3), .val (.int l4)] [(.ref b79)])) _
            refine XS.dup X90.here hx rfl (hb hby d1_54) rfl rfl ?_
            show Steps p.tables e below (T90.setTop (mkF m 55 #[.val (.int nn), .val (.int l0), .val (.int l1), .val (.int l2), .val (.int l3), .val (.int l4)] [(.ref b79), (.ref b79)])) _
            refine XS.iconst X90.here hx rfl (hb hby d1_55) ?_
            show Steps p.tables e below (T90.setTop (mkF m 56 #[.val (.int nn), .val (.int l0), .val (.int l1), .val (.int l2), .val (.int l3), .val (.int l4)] [(.int (2 : Int32)), (.ref b79), (.ref b79)])) _
            refine XS.iloadN X90.here hx rfl (hb hby d1_56) rfl ?_
            show Steps p.tables e below (T90.setTop (mkF m 57 #[.val (.int nn), .val (.int l0), .val (.int l1), .val (.int l2), .val (.int l3), .val (.int l4)] [(.int l2), (.int (2 : Int32)), (.ref b79), (.ref b79)])) _
            refine st95 _ ?_
            exact hk)
          have hk : nn.toInt.toNat = 3 := by
            rw [hc40]; rfl
          obtain ⟨fs, hr, hrun, hended, hW, hsame⟩ := X95.leave (v := some (.ref b79)) (fun h => by rw [Bd.returns] at h; cases h)
          refine ⟨_, _, k100 _ ?_, hrun, hended, _, _, rfl, ?_, ⟨_, rfl⟩, hW, hsame.mono (by decide) (by decide)⟩
          · show Steps p.tables e below (T95.setTop (mkF m 58 #[.val (.int nn), .val (.int l0), .val (.int l1), .val (.int l2), .val (.int l3), .val (.int l4)] [(.ref b79)])) _
            exact retOut X95 hx Bd.returns rfl (Or.inr (Or.inr (Or.inr (Or.inr ⟨rfl, rfl, rfl⟩)))) (hb hby d1_58) hr
          · show Q1 Z nn l0 l1 l2 l3 l4 h0 n0 _ T95.heap _
            rw [e95]
            refine ⟨_, rfl, s81, N99, K97, ?_⟩
            rw [hk]
            exact A96.congr (fun j hj => by
                have q : j = 0 ∨ j = 1 ∨ j = 2 := by omega
                rcases q with rfl | rfl | rfl <;> rfl)
        ·
          have k101 : ∀ t, Steps p.tables e below (s₁.setTop (mkF m 61 #[.val (.int nn), .val (.int l0), .val (.int l1), .val (.int l2), .val (.int l3), .val (.int l4)] [(.int (4 : Int32)), (.int nn)])) t → Steps p.tables e below (s₁.setTop (entryFrame m #[(.int nn), (.int l0), (.int l1), (.int l2), (.int l3), (.int l4)] 6)) t := fun t hk => k78 t (by
            show Steps p.tables e below (s₁.setTop (mkF m 40 #[.val (.int nn), .val (.int l0), .val (.int l1), .val (.int l2), .val (.int l3), .val (.int l4)] [(.int (3 : Int32)), (.int nn)])) _
            refine XS.icmpYes X0.here hx rfl (pc0 := 40) (pc' := 59) rfl (hb hby d1_40) rfl (feq hc40).2 (by decide) (by decide) ?_
            show Steps p.tables e below (s₁.setTop (mkF m 59 #[.val (.int nn), .val (.int l0), .val (.int l1), .val (.int l2), .val (.int l3), .val (.int l4)] [])) _
            refine XS.iloadN X0.here hx rfl (hb hby d1_59) rfl ?_
            show Steps p.tables e below (s₁.setTop (mkF m 60 #[.val (.int nn), .val (.int l0), .val (.int l1), .val (.int l2), .val (.int l3), .val (.int l4)] [(.int nn)])) _
            refine XS.iconst X0.here hx rfl (hb hby d1_60) ?_
            exact hk)
          by_cases hc61 : nn = (4 : Int32)
          ·
            obtain ⟨T102, h102, k102, X102, e102, E102, A102, st102⟩ := newP X0 hx hZ (hw _ (List.mem_of_getElem? (i := 5) rfl)) e0 (g := (mkF m 65 #[.val (.int nn), .val (.int l0), .val (.int l1), .val (.int l2), .val (.int l3), .val (.int l4)] [(.int (4 : Int32))])) rfl (hb hby d1_65) rfl (by decide) (cap := 5) (by decide) (by decide) (by decide) (by decide)
            obtain ⟨b102, g102⟩ : ∃ z, z = h0.size := ⟨_, rfl⟩
            have g103 : n0 ≤ b102 := g102 ▸ Z0
            have s104 : h0.size ≤ b102 := g102 ▸ (Keep.refl h0 []).1
            rw [← g102] at A102 st102
            have K105 := (Keep.refl h0 []).ext E102
            have Z106 : n0 ≤ h102.size := Nat.le_trans Z0 E102.1
            have A107 : OwnAV Z h102 b102 .int 4 (fun i => (.int ((fun _ => (0 : Int32)) i))) := OwnAV.new A102 rfl (by decide)
            obtain ⟨T108, h108, X108, e108, W108, st108⟩ := own_iast X102 hx hZ e102 A107 (k := 0) ⟨by decide, rfl, by decide⟩ (g := (mkF m 70 #[.val (.int nn), .val (.int l0), .val (.int l1), .val (.int l2), .val (.int l3), .val (.int l4)] [(.int l0), (.int (0 : Int32)), (.ref b102), (.ref b102)])) rfl rfl (hb hby d1_70)
            have A109 := A107.storeI W108
            have K110 := K105.wr W108 (Or.inr s104)
            have Z111 : n0 ≤ h108.size := W108.size ▸ Z106
            have N112 := Fr.snoc X108 N0 g103
            obtain ⟨T113, h113, X113, e113, W113, st113⟩ := own_iast X108 hx hZ e108 A109 (k := 1) ⟨by decide, rfl, by decide⟩ (g := (mkF m 74 #[.val (.int nn), .val (.int l0), .val (.int l1), .val (.int l2), .val (.int l3), .val (.int l4)] [(.int l1), (.int (1 : Int32)), (.ref b102), (.ref b102)])) rfl rfl (hb hby d1_74)
            have A114 := A109.storeI W113
            have K115 := K110.wr W113 (Or.inr s104)
            have Z116 : n0 ≤ h113.size := W113.size ▸ Z111
            have N117 := Fr.snoc X113 N112 g103
            obtain ⟨T118, h118, X118, e118, W118, st118⟩ := own_iast X113 hx hZ e113 A114 (k := 2) ⟨by decide, rfl, by decide⟩ (g := (mkF m 78 #[.val (.int nn), .val (.int l0), .val (.int l1), .val (.int l2), .val (.int l3), .val (.int l4)] [(.int l2), (.int (2 : Int32)), (.ref b102), (.ref b102)])) rfl rfl (hb hby d1_78)
            have A119 := A114.storeI W118
            have K120 := K115.wr W118 (Or.inr s104)
            have Z121 : n0 ≤ h118.size := W118.size ▸ Z116
            have N122 := Fr.snoc X118 N117 g103
            obtain ⟨T123, h123, X123, e123, W123, st123⟩ := own_iast X118 hx hZ e118 A119 (k := 3) ⟨by decide, rfl, by decide⟩ (g := (mkF m 83 #[.val (.int nn), .val (.int l0), .val (.int l1), .val (.int l2), .val (.int l3), .val (.int l4)] [(.int l3), (.int (3 : Int32)), (.ref b102), (.ref b102)])) rfl rfl (hb hby d1_83)
            have A124 := A119.storeI W123
            have K125 := K120.wr W123 (Or.inr s104)
            have Z126 : n0 ≤ h123.size := W123.size ▸ Z121
            have N127 := Fr.snoc X123 N122 g103
            have k128 : ∀ t, Steps p.tables e below (T123.setTop (mkF m 84 #[.val (.int nn), .val (.int l0), .val (.int l1), .val (.int l2), .val (.int l3), .val (.int l4)] [(.ref b102)])) t → Steps p.tables e below (s₁.setTop (entryFrame m #[(.int nn), (.int l0), (.int l1), (.int l2), (.int l3), (.int l4)] 6)) t := fun t hk => k101 t (by
              show Steps p.tables e below (s₁.setTop (mkF m 61 #[.val (.int nn), .val (.int l0), .val (.int l1), .val (.int l2), .val (.int l3), .val (.int l4)] [(.int (4 : Int32)), (.int nn)])) _
              refine XS.icmpNo X0.here hx rfl (hb hby d1_61) rfl (teq hc61).2 ?_
              show Steps p.tables e below (s₁.setTop (mkF m 64 #[.val (.int nn), .val (.int l0), .val (.int l1), .val (.int l2), .val (.int l3), .val (.int l4)] [])) _
              refine XS.iconst X0.here hx rfl (hb hby d1_64) ?_
              show Steps p.tables e below (s₁.setTop (mkF m 65 #[.val (.int nn), .val (.int l0), .val (.int l1), .val (.int l2), .val (.int l3), .val (.int l4)] [(.int (4 : Int32))])) _
              refine st102 _ ?_
              show Steps p.tables e below (T102.setTop (mkF m 67 #[.val (.int nn), .val (.int l0), .val (.int l1), .val (.int l2), .val (.int l3), .val (.int l4)] [(.ref b102)])) _
              refine XS.dup X102.here hx rfl (hb hby d1_67) rfl rfl ?_
              show Steps p.tables e below (T102.setTop (mkF m 68 #[.val (.int nn), .val (.int l0), .val (.int l1), .val (.int l2), .val (.int l3), .val (.int l4)] [(.ref b102), (.ref b102)])) _
              refine XS.iconst X102.here hx rfl (hb hby d1_68) ?_
              show Steps p.tables e below (T102.setTop (mkF m 69 #[.val (.int nn), .val (.int l0), .val (.int l1), .val (.int l2), .val (.int l3), .val (.int l4)] [(.int (0 : Int32)), (.ref b102), (.ref b102)])) _
              refine XS.iloadN X102.here hx rfl (hb hby d1_69) rfl ?_
              show Steps p.tables e below (T102.setTop (mkF m 70 #[.val (.int nn), .val (.int l0), .val (.int l1), .val (.int l2), .val (.int l3), .val (.int l4)] [(.int l0), (.int (0 : Int32)), (.ref b102), (.ref b102)])) _
              refine st108 _ ?_
              show Steps p.tables e below (T108.setTop (mkF m 71 #[.val (.int nn), .val (.int l0), .val (.int l1), .val (.int l2), .val (.int l3), .val (.int l4)] [(.ref b102)])) _
              refine XS.dup X108.here hx rfl (hb hby d1_71) rfl rfl ?_
              show Steps p.tables e below (T108.setTop (mkF m 72 #[.val (.int nn), .val (.int l0), .val (.int l1), .val (.int l2), .val (.int l3), .val (.int l4)] [(.ref b102), (.ref b102)])) _
              refine XS.iconst X108.here hx rfl (hb hby d1_72) ?_
              show Steps p.tables e below (T108.setTop (mkF m 73 #[.val (.int nn), .val (.int l0), .val (.int l1), .val (.int l2), .val (.int l3), .val (.int l4)] [(.int (1 : Int32)), (.ref b102), (.ref b102)])) _
              refine XS.iloadN X108.here hx rfl (hb hby d1_73) rfl ?_
              show Steps p.tables e below (T108.setTop (mkF m 74 #[.val (.int nn), .val (.int l0), .val (.int l1), .val (.int l2), .val (.int l3), .val (.int l4)] [(.int l1), (.int (1 : Int32)), (.ref b102), (.ref b102)])) _
              refine st113 _ ?_
              show Steps p.tables e below (T113.setTop (mkF m 75 #[.val (.int nn), .val (.int l0), .val (.int l1), .val (.int l2), .val (.int l3), .val (.int l4)] [(.ref b102)])) _
              refine XS.dup X113.here hx rfl (hb hby d1_75) rfl rfl ?_
              show Steps p.tables e below (T113.setTop (mkF m 76 #[.val (.int nn), .val (.int l0), .val (.int l1), .val (.int l2), .val (.int l3), .val (.int l4)] [(.ref b102), (.ref b102)])) _
              refine XS.iconst X113.here hx rfl (hb hby d1_76) ?_
              show Steps p.tables e below (T113.setTop (mkF m 77 #[.val (.int nn), .val (.int l0), .val (.int l1), .val (.int l2), .val (.int l3), .val (.int l4)] [(.int (2 : Int32)), (.ref b102), (.ref b102)])) _
              refine XS.iloadN X113.here hx rfl (hb hby d1_77) rfl ?_
              show Steps p.tables e below (T113.setTop (mkF m 78 #[.val (.int nn), .val (.int l0), .val (.int l1), .val (.int l2), .val (.int l3), .val (.int l4)] [(.int l2), (.int (2 : Int32)), (.ref b102), (.ref b102)])) _
              refine st118 _ ?_
              show Steps p.tables e below (T118.setTop (mkF m 79 #[.val (.int nn), .val (.int l0), .val (.int l1), .val (.int l2), .val (.int l3), .val (.int l4)] [(.ref b102)])) _
              refine XS.dup X118.here hx rfl (hb hby d1_79) rfl rfl ?_
              show Steps p.tables e below (T118.setTop (mkF m 80 #[.val (.int nn), .val (.int l0), .val (.int l1), .val (.int l2), .val (.int l3), .val (.int l4)] [(.ref b102), (.ref b102)])) _
              refine XS.iconst X118.here hx rfl (hb hby d1_80) ?_
              show Steps p.tables e below (T118.setTop (mkF m 81 #[.val (.int nn), .val (.int l0), .val (.int l1), .val (.int l2), .val (.int l3), .val (.int l4)] [(.int (3 : Int32)), (.ref b102), (.ref b102)])) _
              refine XS.iload X118.here hx rfl (hb hby d1_81) rfl ?_
              show Steps p.tables e below (T118.setTop (mkF m 83 #[.val (.int nn), .val (.int l0), .val (.int l1), .val (.int l2), .val (.int l3), .val (.int l4)] [(.int l3), (.int (3 : Int32)), (.ref b102), (.ref b102)])) _
              refine st123 _ ?_
              exact hk)
            have hk : nn.toInt.toNat = 4 := by
              rw [hc61]; rfl
            obtain ⟨fs, hr, hrun, hended, hW, hsame⟩ := X123.leave (v := some (.ref b102)) (fun h => by rw [Bd.returns] at h; cases h)
            refine ⟨_, _, k128 _ ?_, hrun, hended, _, _, rfl, ?_, ⟨_, rfl⟩, hW, hsame.mono (by decide) (by decide)⟩
            · show Steps p.tables e below (T123.setTop (mkF m 84 #[.val (.int nn), .val (.int l0), .val (.int l1), .val (.int l2), .val (.int l3), .val (.int l4)] [(.ref b102)])) _
              exact retOut X123 hx Bd.returns rfl (Or.inr (Or.inr (Or.inr (Or.inr ⟨rfl, rfl, rfl⟩)))) (hb hby d1_84) hr
            · show Q1 Z nn l0 l1 l2 l3 l4 h0 n0 _ T123.heap _
              rw [e123]
              refine ⟨_, rfl, s104, N127, K125, ?_⟩
              rw [hk]
              exact A124.congr (fun j hj => by
                  have q : j = 0 ∨ j = 1 ∨ j = 2 ∨ j = 3 := by omega
                  rcases q with rfl | rfl | rfl | rfl <;> rfl)
          ·
            obtain ⟨T129, h129, k129, X129, e129, E129, A129, st129⟩ := newP X0 hx hZ (hw _ (List.mem_of_getElem? (i := 5) rfl)) e0 (g := (mkF m 86 #[.val (.int nn), .val (.int l0), .val (.int l1), .val (.int l2), .val (.int l3), .val (.int l4)] [(.int (5 : Int32))])) rfl (hb hby d1_86) rfl (by decide) (cap := 5) (by decide) (by decide) (by decide) (by decide)
            obtain ⟨b129, g129⟩ : ∃ z, z = h0.size := ⟨_, rfl⟩
            have g130 : n0 ≤ b129 := g129 ▸ Z0
            have s131 : h0.size ≤ b129 := g129 ▸ (Keep.refl h0 []).1
            rw [← g129] at A129 st129
            have K132 := (Keep.refl h0 []).ext E129
            have Z133 : n0 ≤ h129.size := Nat.le_trans Z0 E129.1
            have A134 : OwnAV Z h129 b129 .int 5 (fun i => (.int ((fun _ => (0 : Int32)) i))) := OwnAV.new A129 rfl (by decide)
            obtain ⟨T135, h135, X135, e135, W135, st135⟩ := own_iast X129 hx hZ e129 A134 (k := 0) ⟨by decide, rfl, by decide⟩ (g := (mkF m 91 #[.val (.int nn), .val (.int l0), .val (.int l1), .val (.int l2), .val (.int l3), .val (.int l4)] [(.int l0), (.int (0 : Int32)), (.ref b129), (.ref b129)])) rfl rfl (hb hby d1_91)
            have A136 := A134.storeI W135
            have K137 := K132.wr W135 (Or.inr s131)
            have Z138 : n0 ≤ h135.size := W135.size ▸ Z133
            have N139 := Fr.snoc X135 N0 g130
            obtain ⟨T140, h140, X140, e140, W140, st140⟩ := own_iast X135 hx hZ e135 A136 (k := 1) ⟨by decide, rfl, by decide⟩ (g := (mkF m 95 #[.val (.int nn), .val (.int l0), .val (.int l1), .val (.int l2), .val (.int l3), .val (.int l4)] [(.int l1), (.int (1 : Int32)), (.ref b129), (.ref b129)])) rfl rfl (hb hby d1_95)
            have A141 := A136.storeI W140
            have K142 := K137.wr W140 (Or.inr s131)
            have Z143 : n0 ≤ h140.size := W140.size ▸ Z138
            have N144 := Fr.snoc X140 N139 g130
            obtain ⟨T145, h145, X145, e145, W145, st145⟩ := own_iast X140 hx hZ e140 A141 (k := 2) ⟨by decide, rfl, by decide⟩ (g := (mkF m 99 #[.val (.int nn), .val (.int l0), .val (.int l1), .val (.int l2), .val (.int l3), .val (.int l4)] [(.int l2), (.int (2 : Int32)), (.ref b129), (.ref b129)])) rfl rfl (hb hby d1_99)
            have A146 := A141.storeI W145
            have K147 := K142.wr W145 (Or.inr s131)
            have Z148 : n0 ≤ h145.size := W145.size ▸ Z143
            have N149 := Fr.snoc X145 N144 g130
            obtain ⟨T150, h150, X150, e150, W150, st150⟩ := own_iast X145 hx hZ e145 A146 (k := 3) ⟨by decide, rfl, by decide⟩ (g := (mkF m 104 #[.val (.int nn), .val (.int l0), .val (.int l1), .val (.int l2), .val (.int l3), .val (.int l4)] [(.int l3), (.int (3 : Int32)), (.ref b129), (.ref b129)])) rfl rfl (hb hby d1_104)
            have A151 := A146.storeI W150
            have K152 := K147.wr W150 (Or.inr s131)
            have Z153 : n0 ≤ h150.size := W150.size ▸ Z148
            have N154 := Fr.snoc X150 N149 g130
            obtain ⟨T155, h155, X155, e155, W155, st155⟩ := own_iast X150 hx hZ e150 A151 (k := 4) ⟨by decide, rfl, by decide⟩ (g := (mkF m 109 #[.val (.int nn), .val (.int l0), .val (.int l1), .val (.int l2), .val (.int l3), .val (.int l4)] [(.int l4), (.int (4 : Int32)), (.ref b129), (.ref b129)])) rfl rfl (hb hby d1_109)
            have A156 := A151.storeI W155
            have K157 := K152.wr W155 (Or.inr s131)
            have Z158 : n0 ≤ h155.size := W155.size ▸ Z153
            have N159 := Fr.snoc X155 N154 g130
            have k160 : ∀ t, Steps p.tables e below (T155.setTop (mkF m 110 #[.val (.int nn), .val (.int l0), .val (.int l1), .val (.int l2), .val (.int l3), .val (.int l4)] [(.ref b129)])) t → Steps p.tables e below (s₁.setTop (entryFrame m #[(.int nn), (.int l0), (.int l1), (.int l2), (.int l3), (.int l4)] 6)) t := fun t hk => k101 t (by
              show Steps p.tables e below (s₁.setTop (mkF m 61 #[.val (.int nn), .val (.int l0), .val (.int l1), .val (.int l2), .val (.int l3), .val (.int l4)] [(.int (4 : Int32)), (.int nn)])) _
              refine XS.icmpYes X0.here hx rfl (pc0 := 61) (pc' := 85) rfl (hb hby d1_61) rfl (feq hc61).2 (by decide) (by decide) ?_
              show Steps p.tables e below (s₁.setTop (mkF m 85 #[.val (.int nn), .val (.int l0), .val (.int l1), .val (.int l2), .val (.int l3), .val (.int l4)] [])) _
              refine XS.iconst X0.here hx rfl (hb hby d1_85) ?_
              show Steps p.tables e below (s₁.setTop (mkF m 86 #[.val (.int nn), .val (.int l0), .val (.int l1), .val (.int l2), .val (.int l3), .val (.int l4)] [(.int (5 : Int32))])) _
              refine st129 _ ?_
              show Steps p.tables e below (T129.setTop (mkF m 88 #[.val (.int nn), .val (.int l0), .val (.int l1), .val (.int l2), .val (.int l3), .val (.int l4)] [(.ref b129)])) _
              refine XS.dup X129.here hx rfl (hb hby d1_88) rfl rfl ?_
              show Steps p.tables e below (T129.setTop (mkF m 89 #[.val (.int nn), .val (.int l0), .val (.int l1), .val (.int l2), .val (.int l3), .val (.int l4)] [(.ref b129), (.ref b129)])) _
              refine XS.iconst X129.here hx rfl (hb hby d1_89) ?_
              show Steps p.tables e below (T129.setTop (mkF m 90 #[.val (.int nn), .val (.int l0), .val (.int l1), .val (.int l2), .val (.int l3), .val (.int l4)] [(.int (0 : Int32)), (.ref b129), (.ref b129)])) _
              refine XS.iloadN X129.here hx rfl (hb hby d1_90) rfl ?_
              show Steps p.tables e below (T129.setTop (mkF m 91 #[.val (.int nn), .val (.int l0), .val (.int l1), .val (.int l2), .val (.int l3), .val (.int l4)] [(.int l0), (.int (0 : Int32)), (.ref b129), (.ref b129)])) _
              refine st135 _ ?_
              show Steps p.tables e below (T135.setTop (mkF m 92 #[.val (.int nn), .val (.int l0), .val (.int l1), .val (.int l2), .val (.int l3), .val (.int l4)] [(.ref b129)])) _
              refine XS.dup X135.here hx rfl (hb hby d1_92) rfl rfl ?_
              show Steps p.tables e below (T135.setTop (mkF m 93 #[.val (.int nn), .val (.int l0), .val (.int l1), .val (.int l2), .val (.int l3), .val (.int l4)] [(.ref b129), (.ref b129)])) _
              refine XS.iconst X135.here hx rfl (hb hby d1_93) ?_
              show Steps p.tables e below (T135.setTop (mkF m 94 #[.val (.int nn), .val (.int l0), .val (.int l1), .val (.int l2), .val (.int l3), .val (.int l4)] [(.int (1 : Int32)), (.ref b129), (.ref b129)])) _
              refine XS.iloadN X135.here hx rfl (hb hby d1_94) rfl ?_
              show Steps p.tables e below (T135.setTop (mkF m 95 #[.val (.int nn), .val (.int l0), .val (.int l1), .val (.int l2), .val (.int l3), .val (.int l4)] [(.int l1), (.int (1 : Int32)), (.ref b129), (.ref b129)])) _
              refine st140 _ ?_
              show Steps p.tables e below (T140.setTop (mkF m 96 #[.val (.int nn), .val (.int l0), .val (.int l1), .val (.int l2), .val (.int l3), .val (.int l4)] [(.ref b129)])) _
              refine XS.dup X140.here hx rfl (hb hby d1_96) rfl rfl ?_
              show Steps p.tables e below (T140.setTop (mkF m 97 #[.val (.int nn), .val (.int l0), .val (.int l1), .val (.int l2), .val (.int l3), .val (.int l4)] [(.ref b129), (.ref b129)])) _
              refine XS.iconst X140.here hx rfl (hb hby d1_97) ?_
              show Steps p.tables e below (T140.setTop (mkF m 98 #[.val (.int nn), .val (.int l0), .val (.int l1), .val (.int l2), .val (.int l3), .val (.int l4)] [(.int (2 : Int32)), (.ref b129), (.ref b129)])) _
              refine XS.iloadN X140.here hx rfl (hb hby d1_98) rfl ?_
              show Steps p.tables e below (T140.setTop (mkF m 99 #[.val (.int nn), .val (.int l0), .val (.int l1), .val (.int l2), .val (.int l3), .val (.int l4)] [(.int l2), (.int (2 : Int32)), (.ref b129), (.ref b129)])) _
              refine st145 _ ?_
              show Steps p.tables e below (T145.setTop (mkF m 100 #[.val (.int nn), .val (.int l0), .val (.int l1), .val (.int l2), .val (.int l3), .val (.int l4)] [(.ref b129)])) _
              refine XS.dup X145.here hx rfl (hb hby d1_100) rfl rfl ?_
              show Steps p.tables e below (T145.setTop (mkF m 101 #[.val (.int nn), .val (.int l0), .val (.int l1), .val (.int l2), .val (.int l3), .val (.int l4)] [(.ref b129), (.ref b129)])) _
              refine XS.iconst X145.here hx rfl (hb hby d1_101) ?_
              show Steps p.tables e below (T145.setTop (mkF m 102 #[.val (.int nn), .val (.int l0), .val (.int l1), .val (.int l2), .val (.int l3), .val (.int l4)] [(.int (3 : Int32)), (.ref b129), (.ref b129)])) _
              refine XS.iload X145.here hx rfl (hb hby d1_102) rfl ?_
              show Steps p.tables e below (T145.setTop (mkF m 104 #[.val (.int nn), .val (.int l0), .val (.int l1), .val (.int l2), .val (.int l3), .val (.int l4)] [(.int l3), (.int (3 : Int32)), (.ref b129), (.ref b129)])) _
              refine st150 _ ?_
              show Steps p.tables e below (T150.setTop (mkF m 105 #[.val (.int nn), .val (.int l0), .val (.int l1), .val (.int l2), .val (.int l3), .val (.int l4)] [(.ref b129)])) _
              refine XS.dup X150.here hx rfl (hb hby d1_105) rfl rfl ?_
              show Steps p.tables e below (T150.setTop (mkF m 106 #[.val (.int nn), .val (.int l0), .val (.int l1), .val (.int l2), .val (.int l3), .val (.int l4)] [(.ref b129), (.ref b129)])) _
              refine XS.iconst X150.here hx rfl (hb hby d1_106) ?_
              show Steps p.tables e below (T150.setTop (mkF m 107 #[.val (.int nn), .val (.int l0), .val (.int l1), .val (.int l2), .val (.int l3), .val (.int l4)] [(.int (4 : Int32)), (.ref b129), (.ref b129)])) _
              refine XS.iload X150.here hx rfl (hb hby d1_107) rfl ?_
              show Steps p.tables e below (T150.setTop (mkF m 109 #[.val (.int nn), .val (.int l0), .val (.int l1), .val (.int l2), .val (.int l3), .val (.int l4)] [(.int l4), (.int (4 : Int32)), (.ref b129), (.ref b129)])) _
              refine st155 _ ?_
              exact hk)
            have hk : nn.toInt.toNat = 5 := by
              simp only [← Int32.toInt_inj] at hc1 hc10 hc23 hc40 hc61
              have z0 : (0 : Int32).toInt = 0 := rfl
              have z1 : (1 : Int32).toInt = 1 := rfl
              have z2 : (2 : Int32).toInt = 2 := rfl
              have z3 : (3 : Int32).toInt = 3 := rfl
              have z4 : (4 : Int32).toInt = 4 := rfl
              omega
            obtain ⟨fs, hr, hrun, hended, hW, hsame⟩ := X155.leave (v := some (.ref b129)) (fun h => by rw [Bd.returns] at h; cases h)
            refine ⟨_, _, k160 _ ?_, hrun, hended, _, _, rfl, ?_, ⟨_, rfl⟩, hW, hsame.mono (by decide) (by decide)⟩
            · show Steps p.tables e below (T155.setTop (mkF m 110 #[.val (.int nn), .val (.int l0), .val (.int l1), .val (.int l2), .val (.int l3), .val (.int l4)] [(.ref b129)])) _
              exact retOut X155 hx Bd.returns rfl (Or.inr (Or.inr (Or.inr (Or.inr ⟨rfl, rfl, rfl⟩)))) (hb hby d1_110) hr
            · show Q1 Z nn l0 l1 l2 l3 l4 h0 n0 _ T155.heap _
              rw [e155]
              refine ⟨_, rfl, s131, N159, K157, ?_⟩
              rw [hk]
              exact A156.congr (fun j hj => by
                  have q : j = 0 ∨ j = 1 ∨ j = 2 ∨ j = 3 ∨ j = 4 := by omega
                  rcases q with rfl | rfl | rfl | rfl | rfl <;> rfl)
theorem d2_0 : decode prog_96_method_3_code 0 = .ok (.iload_n 1, 1) := by decide +kernel
theorem d2_1 : decode prog_96_method_3_code 1 = .ok (.newarray .int, 2) := by decide +kernel
theorem d2_3 : decode prog_96_method_3_code 3 = .ok (.astore_n 2, 1) := by decide +kernel
theorem d2_4 : decode prog_96_method_3_code 4 = .ok (.iconst 0, 1) := by decide +kernel
theorem d2_5 : decode prog_96_method_3_code 5 = .ok (.istore_n 3, 1) := by decide +kernel
theorem d2_6 : decode prog_96_method_3_code 6 = .ok (.iconst 0, 1) := by decide +kernel
theorem d2_7 : decode prog_96_method_3_code 7 = .ok (.istore 4, 2) := by decide +kernel
theorem d2_9 : decode prog_96_method_3_code 9 = .ok (.iload 4, 2) := by decide +kernel
theorem d2_11 : decode prog_96_method_3_code 11 = .ok (.aload_n 0, 1) := by decide +kernel
theorem d2_12 : decode prog_96_method_3_code 12 = .ok (.arraylength, 1) := by decide +kernel
theorem d2_13 : decode prog_96_method_3_code 13 = .ok (.if_icmp .ge 33, 3) := by decide +kernel
theorem d2_16 : decode prog_96_method_3_code 16 = .ok (.iload_n 3, 1) := by decide +kernel
theorem d2_17 : decode prog_96_method_3_code 17 = .ok (.iload_n 1, 1) := by decide +kernel
theorem d2_18 : decode prog_96_method_3_code 18 = .ok (.if_icmp .ge 28, 3) := by decide +kernel
theorem d2_21 : decode prog_96_method_3_code 21 = .ok (.aload_n 2, 1) := by decide +kernel
theorem d2_22 : decode prog_96_method_3_code 22 = .ok (.aload_n 0, 1) := by decide +kernel
theorem d2_23 : decode prog_96_method_3_code 23 = .ok (.iload 4, 2) := by decide +kernel
theorem d2_25 : decode prog_96_method_3_code 25 = .ok (.iaload, 1) := by decide +kernel
theorem d2_26 : decode prog_96_method_3_code 26 = .ok (.iaload, 1) := by decide +kernel
theorem d2_27 : decode prog_96_method_3_code 27 = .ok (.ifCond .ne 13, 3) := by decide +kernel
theorem d2_30 : decode prog_96_method_3_code 30 = .ok (.iinc 3 1, 3) := by decide +kernel
theorem d2_33 : decode prog_96_method_3_code 33 = .ok (.aload_n 2, 1) := by decide +kernel
theorem d2_34 : decode prog_96_method_3_code 34 = .ok (.aload_n 0, 1) := by decide +kernel
theorem d2_35 : decode prog_96_method_3_code 35 = .ok (.iload 4, 2) := by decide +kernel
theorem d2_37 : decode prog_96_method_3_code 37 = .ok (.iaload, 1) := by decide +kernel
theorem d2_38 : decode prog_96_method_3_code 38 = .ok (.iload_n 3, 1) := by decide +kernel
theorem d2_39 : decode prog_96_method_3_code 39 = .ok (.iastore, 1) := by decide +kernel
theorem d2_40 : decode prog_96_method_3_code 40 = .ok (.iinc 4 1, 3) := by decide +kernel
theorem d2_43 : decode prog_96_method_3_code 43 = .ok (.goto (-34), 3) := by decide +kernel
theorem d2_46 : decode prog_96_method_3_code 46 = .ok (.aload_n 2, 1) := by decide +kernel
theorem d2_47 : decode prog_96_method_3_code 47 = .ok (.areturn, 1) := by decide +kernel
set_option maxRecDepth 65536 in
set_option maxHeartbeats 40000000 in
theorem own_loop {p : Program} {l : Launch} {e : Env} {R : Room} {s : State} {m : MethodId} {args : Array Value} {below : List Frame} {meth : Method} {c : Code} {cells slots : Nat} {Z : State} {a0 : Array Value} {h0 : Heap} (a1 b1 : Addr) (pt : Int32) (fl : Nat → Int32) (n n0 : Nat) (hn : n ≤ 5) (hp0 : 1 ≤ pt.toInt) (hp4 : pt.toInt ≤ 4) (hfl : ∀ j, j < n → 0 ≤ (fl j).toInt ∧ (fl j).toInt < pt.toInt) (gb : n0 ≤ b1) (sb : h0.size ≤ b1) (hne : a1 ≠ b1) (hx : p.tables.exec = Jvm.exec) (hZ : Z.Warmed39 s.vm) (hw : ∀ d ∈ tables_1, d.before a0 Z = true) (hby : c.code = prog_96_method_3_code) (hml : c.maxLocals = 5) (hown : s.vm.findClass "com/example/faultline/faultline/split/Cut" = some m.cls) :
    ∀ (k i : Nat) (T : State) (h : Heap) (locs : List Loc), i + k = n → Stand p l e R s m args below meth c T locs cells slots → T.heap = h → Fr n0 locs → n0 ≤ h.size → Keep h0 h [] → OwnAV Z h a1 .int n (fun i => .int (fl i)) → OwnAV Z h b1 .int pt.toInt.toNat (fun jj => .int (own_G fl pt.toInt.toNat i jj)) →
      ∃ (T' : State) (h' : Heap) (locs' : List Loc) (c3 c4 : Int32), Stand p l e R s m args below meth c T' locs' cells slots ∧ T'.heap = h' ∧ Fr n0 locs' ∧ Keep h0 h' [] ∧ OwnAV Z h' b1 .int pt.toInt.toNat (fun jj => .int (own_G fl pt.toInt.toNat n jj)) ∧
        ∀ t, Steps p.tables e below (T'.setTop (mkF m 46 #[.val (.ref a1), .val (.int pt), .val (.ref b1), .val (.int c3), .val (.int c4)] [])) t → Steps p.tables e below (T.setTop (mkF m 9 #[.val (.ref a1), .val (.int pt), .val (.ref b1), .val (.int (Int32.ofNat (own_num (fun j => (fl j).toInt.toNat) pt.toInt.toNat i).2)), .val (.int (Int32.ofNat i))] [])) t := by
  intro k
  induction k with
  | zero =>
    intro i T h locs hi X0 e0 N0 Z0 K0 VA VB
    have hi' : i = n := by omega
    subst hi'
    have pre0 : ∀ t, Steps p.tables e below (T.setTop (mkF m 9 #[.val (.ref a1), .val (.int pt), .val (.ref b1), .val (.int (Int32.ofNat (own_num (fun j => (fl j).toInt.toNat) pt.toInt.toNat i).2)), .val (.int (Int32.ofNat i))] [])) t → Steps p.tables e below (T.setTop (mkF m 9 #[.val (.ref a1), .val (.int pt), .val (.ref b1), .val (.int (Int32.ofNat (own_num (fun j => (fl j).toInt.toNat) pt.toInt.toNat i).2)), .val (.int (Int32.ofNat i))] [])) t := fun t hk => hk
    have k161 : ∀ t, Steps p.tables e below (T.setTop (mkF m 46 #[.val (.ref a1), .val (.int pt), .val (.ref b1), .val (.int (Int32.ofNat (own_num (fun j => (fl j).toInt.toNat) pt.toInt.toNat i).2)), .val (.int (Int32.ofNat i))] [])) t → Steps p.tables e below (T.setTop (mkF m 9 #[.val (.ref a1), .val (.int pt), .val (.ref b1), .val (.int (Int32.ofNat (own_num (fun j => (fl j).toInt.toNat) pt.toInt.toNat i).2)), .val (.int (Int32.ofNat i))] [])) t := fun t hk => pre0 t (by
      show Steps p.tables e below (T.setTop (mkF m 9 #[.val (.ref a1), .val (.int pt), .val (.ref b1), .val (.int (Int32.ofNat (own_num (fun j => (fl j).toInt.toNat) pt.toInt.toNat i).2)), .val (.int (Int32.ofNat i))] [])) _
      refine XS.iload X0.here hx rfl (hb hby d2_9) rfl ?_
      show Steps p.tables e below (T.setTop (mkF m 11 #[.val (.ref a1), .val (.int pt), .val (.ref b1), .val (.int (Int32.ofNat (own_num (fun j => (fl j).toInt.toNat) pt.toInt.toNat i).2)), .val (.int (Int32.ofNat i))] [(.int (Int32.ofNat i))])) _
      refine XS.aloadN X0.here hx rfl (hb hby d2_11) rfl rfl ?_
      show Steps p.tables e below (T.setTop (mkF m 12 #[.val (.ref a1), .val (.int pt), .val (.ref b1), .val (.int (Int32.ofNat (own_num (fun j => (fl j).toInt.toNat) pt.toInt.toNat i).2)), .val (.int (Int32.ofNat i))] [(.ref a1), (.int (Int32.ofNat i))])) _
      refine own_len X0 hx hZ e0 VA (g := (mkF m 12 #[.val (.ref a1), .val (.int pt), .val (.ref b1), .val (.int (Int32.ofNat (own_num (fun j => (fl j).toInt.toNat) pt.toInt.toNat i).2)), .val (.int (Int32.ofNat i))] [(.ref a1), (.int (Int32.ofNat i))])) rfl rfl (hb hby d2_12) _ ?_
      show Steps p.tables e below (T.setTop (mkF m 13 #[.val (.ref a1), .val (.int pt), .val (.ref b1), .val (.int (Int32.ofNat (own_num (fun j => (fl j).toInt.toNat) pt.toInt.toNat i).2)), .val (.int (Int32.ofNat i))] [(.int (Int32.ofNat i)), (.int (Int32.ofNat i))])) _
      refine XS.icmpYes X0.here hx rfl (pc0 := 13) (pc' := 46) rfl (hb hby d2_13) rfl (flt Int32.lt_irrefl).2.1 (by decide) (by decide) ?_
      exact hk)
    exact ⟨T, h, locs, _, _, X0, e0, N0, K0, VB, k161⟩
  | succ k ih =>
    intro i T h locs hi X0 e0 N0 Z0 K0 VA VB
    have pre0 : ∀ t, Steps p.tables e below (T.setTop (mkF m 9 #[.val (.ref a1), .val (.int pt), .val (.ref b1), .val (.int (Int32.ofNat (own_num (fun j => (fl j).toInt.toNat) pt.toInt.toNat i).2)), .val (.int (Int32.ofNat i))] [])) t → Steps p.tables e below (T.setTop (mkF m 9 #[.val (.ref a1), .val (.int pt), .val (.ref b1), .val (.int (Int32.ofNat (own_num (fun j => (fl j).toInt.toNat) pt.toInt.toNat i).2)), .val (.int (Int32.ofNat i))] [])) t := fun t hk => hk
    have hin : (Int32.ofNat i) < (Int32.ofNat n) := (own_nlt (by omega) (by omega)).mpr (by omega)
    have hcl := own_num_le (fun j => (fl j).toInt.toNat) pt.toInt.toNat i
    obtain ⟨q0, q1⟩ := hfl i (by omega)
    have k162 : ∀ t, Steps p.tables e below (T.setTop (mkF m 18 #[.val (.ref a1), .val (.int pt), .val (.ref b1), .val (.int (Int32.ofNat (own_num (fun j => (fl j).toInt.toNat) pt.toInt.toNat i).2)), .val (.int (Int32.ofNat i))] [(.int pt), (.int (Int32.ofNat (own_num (fun j => (fl j).toInt.toNat) pt.toInt.toNat i).2))])) t → Steps p.tables e below (T.setTop (mkF m 9 #[.val (.ref a1), .val (.int pt), .val (.ref b1), .val (.int (Int32.ofNat (own_num (fun j => (fl j).toInt.toNat) pt.toInt.toNat i).2)), .val (.int (Int32.ofNat i))] [])) t := fun t hk => pre0 t (by
      show Steps p.tables e below (T.setTop (mkF m 9 #[.val (.ref a1), .val (.int pt), .val (.ref b1), .val (.int (Int32.ofNat (own_num (fun j => (fl j).toInt.toNat) pt.toInt.toNat i).2)), .val (.int (Int32.ofNat i))] [])) _
      refine XS.iload X0.here hx rfl (hb hby d2_9) rfl ?_
      show Steps p.tables e below (T.setTop (mkF m 11 #[.val (.ref a1), .val (.int pt), .val (.ref b1), .val (.int (Int32.ofNat (own_num (fun j => (fl j).toInt.toNat) pt.toInt.toNat i).2)), .val (.int (Int32.ofNat i))] [(.int (Int32.ofNat i))])) _
      refine XS.aloadN X0.here hx rfl (hb hby d2_11) rfl rfl ?_
      show Steps p.tables e below (T.setTop (mkF m 12 #[.val (.ref a1), .val (.int pt), .val (.ref b1), .val (.int (Int32.ofNat (own_num (fun j => (fl j).toInt.toNat) pt.toInt.toNat i).2)), .val (.int (Int32.ofNat i))] [(.ref a1), (.int (Int32.ofNat i))])) _
      refine own_len X0 hx hZ e0 VA (g := (mkF m 12 #[.val (.ref a1), .val (.int pt), .val (.ref b1), .val (.int (Int32.ofNat (own_num (fun j => (fl j).toInt.toNat) pt.toInt.toNat i).2)), .val (.int (Int32.ofNat i))] [(.ref a1), (.int (Int32.ofNat i))])) rfl rfl (hb hby d2_12) _ ?_
      show Steps p.tables e below (T.setTop (mkF m 13 #[.val (.ref a1), .val (.int pt), .val (.ref b1), .val (.int (Int32.ofNat (own_num (fun j => (fl j).toInt.toNat) pt.toInt.toNat i).2)), .val (.int (Int32.ofNat i))] [(.int (Int32.ofNat n)), (.int (Int32.ofNat i))])) _
      refine XS.icmpNo X0.here hx rfl (hb hby d2_13) rfl (tlt hin).2.1 ?_
      show Steps p.tables e below (T.setTop (mkF m 16 #[.val (.ref a1), .val (.int pt), .val (.ref b1), .val (.int (Int32.ofNat (own_num (fun j => (fl j).toInt.toNat) pt.toInt.toNat i).2)), .val (.int (Int32.ofNat i))] [])) _
      refine XS.iloadN X0.here hx rfl (hb hby d2_16) rfl ?_
      show Steps p.tables e below (T.setTop (mkF m 17 #[.val (.ref a1), .val (.int pt), .val (.ref b1), .val (.int (Int32.ofNat (own_num (fun j => (fl j).toInt.toNat) pt.toInt.toNat i).2)), .val (.int (Int32.ofNat i))] [(.int (Int32.ofNat (own_num (fun j => (fl j).toInt.toNat) pt.toInt.toNat i).2))])) _
      refine XS.iloadN X0.here hx rfl (hb hby d2_17) rfl ?_
      exact hk)
    have hpb : Int32.ofNat pt.toInt.toNat = pt := own_back (by omega)
    by_cases hc18 : (Int32.ofNat (own_num (fun j => (fl j).toInt.toNat) pt.toInt.toNat i).2) < pt
    ·
      have hlt : (own_num (fun j => (fl j).toInt.toNat) pt.toInt.toNat i).2 < pt.toInt.toNat := (own_nlt (by omega) (by omega)).mp (by rw [hpb]; exact hc18)
      have k163 : ∀ t, Steps p.tables e below (T.setTop (mkF m 27 #[.val (.ref a1), .val (.int pt), .val (.ref b1), .val (.int (Int32.ofNat (own_num (fun j => (fl j).toInt.toNat) pt.toInt.toNat i).2)), .val (.int (Int32.ofNat i))] [(.int ((own_G fl pt.toInt.toNat i) (fl i).toInt.toNat))])) t → Steps p.tables e below (T.setTop (mkF m 9 #[.val (.ref a1), .val (.int pt), .val (.ref b1), .val (.int (Int32.ofNat (own_num (fun j => (fl j).toInt.toNat) pt.toInt.toNat i).2)), .val (.int (Int32.ofNat i))] [])) t := fun t hk => k162 t (by
        show Steps p.tables e below (T.setTop (mkF m 18 #[.val (.ref a1), .val (.int pt), .val (.ref b1), .val (.int (Int32.ofNat (own_num (fun j => (fl j).toInt.toNat) pt.toInt.toNat i).2)), .val (.int (Int32.ofNat i))] [(.int pt), (.int (Int32.ofNat (own_num (fun j => (fl j).toInt.toNat) pt.toInt.toNat i).2))])) _
        refine XS.icmpNo X0.here hx rfl (hb hby d2_18) rfl (tlt hc18).2.1 ?_
        show Steps p.tables e below (T.setTop (mkF m 21 #[.val (.ref a1), .val (.int pt), .val (.ref b1), .val (.int (Int32.ofNat (own_num (fun j => (fl j).toInt.toNat) pt.toInt.toNat i).2)), .val (.int (Int32.ofNat i))] [])) _
        refine XS.aloadN X0.here hx rfl (hb hby d2_21) rfl rfl ?_
        show Steps p.tables e below (T.setTop (mkF m 22 #[.val (.ref a1), .val (.int pt), .val (.ref b1), .val (.int (Int32.ofNat (own_num (fun j => (fl j).toInt.toNat) pt.toInt.toNat i).2)), .val (.int (Int32.ofNat i))] [(.ref b1)])) _
        refine XS.aloadN X0.here hx rfl (hb hby d2_22) rfl rfl ?_
        show Steps p.tables e below (T.setTop (mkF m 23 #[.val (.ref a1), .val (.int pt), .val (.ref b1), .val (.int (Int32.ofNat (own_num (fun j => (fl j).toInt.toNat) pt.toInt.toNat i).2)), .val (.int (Int32.ofNat i))] [(.ref a1), (.ref b1)])) _
        refine XS.iload X0.here hx rfl (hb hby d2_23) rfl ?_
        show Steps p.tables e below (T.setTop (mkF m 25 #[.val (.ref a1), .val (.int pt), .val (.ref b1), .val (.int (Int32.ofNat (own_num (fun j => (fl j).toInt.toNat) pt.toInt.toNat i).2)), .val (.int (Int32.ofNat i))] [(.int (Int32.ofNat i)), (.ref a1), (.ref b1)])) _
        refine own_iald X0 hx hZ e0 VA (k := i) (own_idxN (by omega) (by omega)) rfl (g := (mkF m 25 #[.val (.ref a1), .val (.int pt), .val (.ref b1), .val (.int (Int32.ofNat (own_num (fun j => (fl j).toInt.toNat) pt.toInt.toNat i).2)), .val (.int (Int32.ofNat i))] [(.int (Int32.ofNat i)), (.ref a1), (.ref b1)])) rfl rfl (hb hby d2_25) _ ?_
        show Steps p.tables e below (T.setTop (mkF m 26 #[.val (.ref a1), .val (.int pt), .val (.ref b1), .val (.int (Int32.ofNat (own_num (fun j => (fl j).toInt.toNat) pt.toInt.toNat i).2)), .val (.int (Int32.ofNat i))] [(.int (fl i)), (.ref b1)])) _
        refine own_iald X0 hx hZ e0 VB (k := (fl i).toInt.toNat) (own_idx q0 (by omega)) rfl (g := (mkF m 26 #[.val (.ref a1), .val (.int pt), .val (.ref b1), .val (.int (Int32.ofNat (own_num (fun j => (fl j).toInt.toNat) pt.toInt.toNat i).2)), .val (.int (Int32.ofNat i))] [(.int (fl i)), (.ref b1)])) rfl rfl (hb hby d2_26) _ ?_
        exact hk)
      by_cases hc27 : ((own_G fl pt.toInt.toNat i) (fl i).toInt.toNat) = (0 : Int32)
      ·
        have hz : (own_num (fun j => (fl j).toInt.toNat) pt.toInt.toNat i).1 ((fl i).toInt.toNat) = 0 := (own_nz (Nat.lt_of_le_of_lt (hcl.2 _) (by omega))).mp hc27
        have hst : own_num (fun j => (fl j).toInt.toNat) pt.toInt.toNat (i + 1) = (own_upd (own_num (fun j => (fl j).toInt.toNat) pt.toInt.toNat i).1 ((fl i).toInt.toNat) ((own_num (fun j => (fl j).toInt.toNat) pt.toInt.toNat i).2 + 1), (own_num (fun j => (fl j).toInt.toNat) pt.toInt.toNat i).2 + 1) := by rw [own_num, if_pos hlt, if_pos hz]
        obtain ⟨T164, h164, X164, e164, W164, st164⟩ := own_iast X0 hx hZ e0 VB (k := (fl i).toInt.toNat) (own_idx q0 (by omega)) (g := (mkF m 39 #[.val (.ref a1), .val (.int pt), .val (.ref b1), .val (.int ((Int32.ofNat (own_num (fun j => (fl j).toInt.toNat) pt.toInt.toNat i).2) + (1 : Int32))), .val (.int (Int32.ofNat i))] [(.int ((Int32.ofNat (own_num (fun j => (fl j).toInt.toNat) pt.toInt.toNat i).2) + (1 : Int32))), (.int (fl i)), (.ref b1)])) rfl rfl (hb hby d2_39)
        have A165 := VB.storeI W164
        have A166 := VA.other W164 hne
        have K167 := K0.wr W164 (Or.inr sb)
        have Z168 : n0 ≤ h164.size := W164.size ▸ Z0
        have N169 := Fr.snoc X164 N0 gb
        have k170 : ∀ t, Steps p.tables e below (T164.setTop (mkF m 9 #[.val (.ref a1), .val (.int pt), .val (.ref b1), .val (.int ((Int32.ofNat (own_num (fun j => (fl j).toInt.toNat) pt.toInt.toNat i).2) + (1 : Int32))), .val (.int ((Int32.ofNat i) + (1 : Int32)))] [])) t → Steps p.tables e below (T.setTop (mkF m 9 #[.val (.ref a1), .val (.int pt), .val (.ref b1), .val (.int (Int32.ofNat (own_num (fun j => (fl j).toInt.toNat) pt.toInt.toNat i).2)), .val (.int (Int32.ofNat i))] [])) t := fun t hk => k163 t (by
          show Steps p.tables e below (T.setTop (mkF m 27 #[.val (.ref a1), .val (.int pt), .val (.ref b1), .val (.int (Int32.ofNat (own_num (fun j => (fl j).toInt.toNat) pt.toInt.toNat i).2)), .val (.int (Int32.ofNat i))] [(.int ((own_G fl pt.toInt.toNat i) (fl i).toInt.toNat))])) _
          refine XS.ifNo X0.here hx rfl (hb hby d2_27) rfl ((if0 _ _).trans (teq hc27).2) ?_
          show Steps p.tables e below (T.setTop (mkF m 30 #[.val (.ref a1), .val (.int pt), .val (.ref b1), .val (.int (Int32.ofNat (own_num (fun j => (fl j).toInt.toNat) pt.toInt.toNat i).2)), .val (.int (Int32.ofNat i))] [])) _
          refine XS.iinc X0.here hx rfl (hb hby d2_30) rfl (l' := #[.val (.ref a1), .val (.int pt), .val (.ref b1), .val (.int ((Int32.ofNat (own_num (fun j => (fl j).toInt.toNat) pt.toInt.toNat i).2) + (1 : Int32))), .val (.int (Int32.ofNat i))]) rfl ?_
          show Steps p.tables e below (T.setTop (mkF m 33 #[.val (.ref a1), .val (.int pt), .val (.ref b1), .val (.int ((Int32.ofNat (own_num (fun j => (fl j).toInt.toNat) pt.toInt.toNat i).2) + (1 : Int32))), .val (.int (Int32.ofNat i))] [])) _
          refine XS.aloadN X0.here hx rfl (hb hby d2_33) rfl rfl ?_
          show Steps p.tables e below (T.setTop (mkF m 34 #[.val (.ref a1), .val (.int pt), .val (.ref b1), .val (.int ((Int32.ofNat (own_num (fun j => (fl j).toInt.toNat) pt.toInt.toNat i).2) + (1 : Int32))), .val (.int (Int32.ofNat i))] [(.ref b1)])) _
          refine XS.aloadN X0.here hx rfl (hb hby d2_34) rfl rfl ?_
          show Steps p.tables e below (T.setTop (mkF m 35 #[.val (.ref a1), .val (.int pt), .val (.ref b1), .val (.int ((Int32.ofNat (own_num (fun j => (fl j).toInt.toNat) pt.toInt.toNat i).2) + (1 : Int32))), .val (.int (Int32.ofNat i))] [(.ref a1), (.ref b1)])) _
          refine XS.iload X0.here hx rfl (hb hby d2_35) rfl ?_
          show Steps p.tables e below (T.setTop (mkF m 37 #[.val (.ref a1), .val (.int pt), .val (.ref b1), .val (.int ((Int32.ofNat (own_num (fun j => (fl j).toInt.toNat) pt.toInt.toNat i).2) + (1 : Int32))), .val (.int (Int32.ofNat i))] [(.int (Int32.ofNat i)), (.ref a1), (.ref b1)])) _
          refine own_iald X0 hx hZ e0 VA (k := i) (own_idxN (by omega) (by omega)) rfl (g := (mkF m 37 #[.val (.ref a1), .val (.int pt), .val (.ref b1), .val (.int ((Int32.ofNat (own_num (fun j => (fl j).toInt.toNat) pt.toInt.toNat i).2) + (1 : Int32))), .val (.int (Int32.ofNat i))] [(.int (Int32.ofNat i)), (.ref a1), (.ref b1)])) rfl rfl (hb hby d2_37) _ ?_
          show Steps p.tables e below (T.setTop (mkF m 38 #[.val (.ref a1), .val (.int pt), .val (.ref b1), .val (.int ((Int32.ofNat (own_num (fun j => (fl j).toInt.toNat) pt.toInt.toNat i).2) + (1 : Int32))), .val (.int (Int32.ofNat i))] [(.int (fl i)), (.ref b1)])) _
          refine XS.iloadN X0.here hx rfl (hb hby d2_38) rfl ?_
          show Steps p.tables e below (T.setTop (mkF m 39 #[.val (.ref a1), .val (.int pt), .val (.ref b1), .val (.int ((Int32.ofNat (own_num (fun j => (fl j).toInt.toNat) pt.toInt.toNat i).2) + (1 : Int32))), .val (.int (Int32.ofNat i))] [(.int ((Int32.ofNat (own_num (fun j => (fl j).toInt.toNat) pt.toInt.toNat i).2) + (1 : Int32))), (.int (fl i)), (.ref b1)])) _
          refine st164 _ ?_
          show Steps p.tables e below (T164.setTop (mkF m 40 #[.val (.ref a1), .val (.int pt), .val (.ref b1), .val (.int ((Int32.ofNat (own_num (fun j => (fl j).toInt.toNat) pt.toInt.toNat i).2) + (1 : Int32))), .val (.int (Int32.ofNat i))] [])) _
          refine XS.iinc X164.here hx rfl (hb hby d2_40) rfl (l' := #[.val (.ref a1), .val (.int pt), .val (.ref b1), .val (.int ((Int32.ofNat (own_num (fun j => (fl j).toInt.toNat) pt.toInt.toNat i).2) + (1 : Int32))), .val (.int ((Int32.ofNat i) + (1 : Int32)))]) rfl ?_
          show Steps p.tables e below (T164.setTop (mkF m 43 #[.val (.ref a1), .val (.int pt), .val (.ref b1), .val (.int ((Int32.ofNat (own_num (fun j => (fl j).toInt.toNat) pt.toInt.toNat i).2) + (1 : Int32))), .val (.int ((Int32.ofNat i) + (1 : Int32)))] [])) _
          refine XS.goto X164.here hx rfl (pc0 := 43) (pc' := 9) rfl (hb hby d2_43) (by decide) (by decide) ?_
          exact hk)
        rw [own_nsucc, own_nsucc] at k170
        have VB' : OwnAV Z h164 b1 .int pt.toInt.toNat (fun jj => .int (own_G fl pt.toInt.toNat (i + 1) jj)) := A165.congr fun j _ => by
          show Value.int _ = Value.int (own_G fl pt.toInt.toNat (i + 1) j)
          rw [own_G, hst]
          by_cases q : j = (fl i).toInt.toNat
          · subst q; simp only [own_upd_at]; rw [own_nsucc]
          · simp only [own_upd_ne _ _ q]; rfl
        have hs2 : (own_num (fun j => (fl j).toInt.toNat) pt.toInt.toNat (i + 1)).2 = (own_num (fun j => (fl j).toInt.toNat) pt.toInt.toNat i).2 + 1 := by rw [hst]
        rw [← hs2] at k170
        obtain ⟨T', h', locs', c3, c4, X', e', N', K', V', st'⟩ := ih (i + 1) T164 h164 _ (by omega) X164 e164 N169 Z168 K167 A166 VB'
        exact ⟨T', h', locs', c3, c4, X', e', N', K', V', fun t hk => k170 t (st' t hk)⟩
      ·
        have k171 : ∀ t, Steps p.tables e below (T.setTop (mkF m 9 #[.val (.ref a1), .val (.int pt), .val (.ref b1), .val (.int (Int32.ofNat (own_num (fun j => (fl j).toInt.toNat) pt.toInt.toNat i).2)), .val (.int ((Int32.ofNat i) + (1 : Int32)))] [])) t → Steps p.tables e below (T.setTop (mkF m 9 #[.val (.ref a1), .val (.int pt), .val (.ref b1), .val (.int (Int32.ofNat (own_num (fun j => (fl j).toInt.toNat) pt.toInt.toNat i).2)), .val (.int (Int32.ofNat i))] [])) t := fun t hk => k163 t (by
          show Steps p.tables e below (T.setTop (mkF m 27 #[.val (.ref a1), .val (.int pt), .val (.ref b1), .val (.int (Int32.ofNat (own_num (fun j => (fl j).toInt.toNat) pt.toInt.toNat i).2)), .val (.int (Int32.ofNat i))] [(.int ((own_G fl pt.toInt.toNat i) (fl i).toInt.toNat))])) _
          refine XS.ifYes X0.here hx rfl (pc0 := 27) (pc' := 40) rfl (hb hby d2_27) rfl ((if0 _ _).trans (feq hc27).2) (by decide) (by decide) ?_
          show Steps p.tables e below (T.setTop (mkF m 40 #[.val (.ref a1), .val (.int pt), .val (.ref b1), .val (.int (Int32.ofNat (own_num (fun j => (fl j).toInt.toNat) pt.toInt.toNat i).2)), .val (.int (Int32.ofNat i))] [])) _
          refine XS.iinc X0.here hx rfl (hb hby d2_40) rfl (l' := #[.val (.ref a1), .val (.int pt), .val (.ref b1), .val (.int (Int32.ofNat (own_num (fun j => (fl j).toInt.toNat) pt.toInt.toNat i).2)), .val (.int ((Int32.ofNat i) + (1 : Int32)))]) rfl ?_
          show Steps p.tables e below (T.setTop (mkF m 43 #[.val (.ref a1), .val (.int pt), .val (.ref b1), .val (.int (Int32.ofNat (own_num (fun j => (fl j).toInt.toNat) pt.toInt.toNat i).2)), .val (.int ((Int32.ofNat i) + (1 : Int32)))] [])) _
          refine XS.goto X0.here hx rfl (pc0 := 43) (pc' := 9) rfl (hb hby d2_43) (by decide) (by decide) ?_
          exact hk)
        have hz : ¬ (own_num (fun j => (fl j).toInt.toNat) pt.toInt.toNat i).1 ((fl i).toInt.toNat) = 0 := fun q => hc27 ((own_nz (Nat.lt_of_le_of_lt (hcl.2 _) (by omega))).mpr q)
        have hst : own_num (fun j => (fl j).toInt.toNat) pt.toInt.toNat (i + 1) = own_num (fun j => (fl j).toInt.toNat) pt.toInt.toNat i := by rw [own_num, if_pos hlt, if_neg hz]
        rw [own_nsucc] at k171
        have VB' : OwnAV Z h b1 .int pt.toInt.toNat (fun jj => .int (own_G fl pt.toInt.toNat (i + 1) jj)) := VB.congr fun j _ => by
          show Value.int (own_G fl pt.toInt.toNat i j) = Value.int (own_G fl pt.toInt.toNat (i + 1) j)
          rw [own_G, own_G, hst]
        obtain ⟨T', h', locs', c3, c4, X', e', N', K', V', st'⟩ := ih (i + 1) T h _ (by omega) X0 e0 N0 Z0 K0 VA VB'
        exact ⟨T', h', locs', c3, c4, X', e', N', K', V', fun t hk => k171 t (by
          have q := st' t hk
          rw [hst] at q; exact q)⟩
    ·
      have hlt : ¬ (own_num (fun j => (fl j).toInt.toNat) pt.toInt.toNat i).2 < pt.toInt.toNat := fun q => hc18 (by
        have r := (own_nlt (a := (own_num (fun j => (fl j).toInt.toNat) pt.toInt.toNat i).2) (b := pt.toInt.toNat) (by omega) (by omega)).mpr q
        rw [hpb] at r; exact r)
      have hst : own_num (fun j => (fl j).toInt.toNat) pt.toInt.toNat n = own_num (fun j => (fl j).toInt.toNat) pt.toInt.toNat i := by rw [← hi]; exact own_num_stop _ _ i hlt (k + 1)
      have k172 : ∀ t, Steps p.tables e below (T.setTop (mkF m 46 #[.val (.ref a1), .val (.int pt), .val (.ref b1), .val (.int (Int32.ofNat (own_num (fun j => (fl j).toInt.toNat) pt.toInt.toNat i).2)), .val (.int (Int32.ofNat i))] [])) t → Steps p.tables e below (T.setTop (mkF m 9 #[.val (.ref a1), .val (.int pt), .val (.ref b1), .val (.int (Int32.ofNat (own_num (fun j => (fl j).toInt.toNat) pt.toInt.toNat i).2)), .val (.int (Int32.ofNat i))] [])) t := fun t hk => k162 t (by
        show Steps p.tables e below (T.setTop (mkF m 18 #[.val (.ref a1), .val (.int pt), .val (.ref b1), .val (.int (Int32.ofNat (own_num (fun j => (fl j).toInt.toNat) pt.toInt.toNat i).2)), .val (.int (Int32.ofNat i))] [(.int pt), (.int (Int32.ofNat (own_num (fun j => (fl j).toInt.toNat) pt.toInt.toNat i).2))])) _
        refine XS.icmpYes X0.here hx rfl (pc0 := 18) (pc' := 46) rfl (hb hby d2_18) rfl (flt hc18).2.1 (by decide) (by decide) ?_
        exact hk)
      refine ⟨T, h, locs, _, _, X0, e0, N0, K0, ?_, k172⟩
      exact VB.congr fun j _ => by
        show Value.int (own_G fl pt.toInt.toNat i j) = Value.int (own_G fl pt.toInt.toNat n j)
        rw [own_G, own_G, hst]
theorem pn_2 : plainName "com/example/faultline/faultline/split/Cut" = true := by first | (simp [plainName, overriddenIn]; done) | decide +kernel
theorem ef_2 (m : MethodId) (a1 : Addr) (pt : Int32) : entryFrame m #[(.ref a1), (.int pt)] 5 = (mkF m 0 #[.val (.ref a1), .val (.int pt), .unset, .unset, .unset] []) := by first | (simp [entryFrame, mkF, argsToLocals, Value.category]; done) | rfl
def Q2 (Z : State) (a1 : Addr) (pt : Int32) (fl : Nat → Int32) (n : Nat) (h0 : Heap) (n0 : Nat) (v : Option Value) (h : Heap) (L : List Loc) : Prop := ∃ b : Addr, v = some (.ref b) ∧ h0.size ≤ b ∧ Fr n0 L ∧ Keep h0 h [] ∧ OwnAV Z h b .int pt.toInt.toNat (fun jj => .int (own_G fl pt.toInt.toNat n jj))
set_option maxRecDepth 65536 in
set_option maxHeartbeats 40000000 in
theorem rm2 (l : Launch) (Z : State) (a0 : Array Value) (hw : ∀ d ∈ tables_1, d.before a0 Z = true) (ws : List Jvm.Cond) (a1 : Addr) (pt : Int32) (fl : Nat → Int32) (n : Nat) (h0 : Heap) (n0 : Nat) (Z0 : n0 ≤ h0.size) (VA : OwnAV Z h0 a1 .int n (fun i => .int (fl i))) (hn : n ≤ 5) (hp0 : 1 ≤ pt.toInt) (hp4 : pt.toInt ≤ 4) (hfl : ∀ j, j < n → 0 ≤ (fl j).toInt ∧ (fl j).toInt < pt.toInt) :
    MetFree l (⟨"com/example/faultline/faultline/split/Cut", "numbers", "([II)[I"⟩ : MethodName) (head1 (Jvm.Cond.code (⟨"com/example/faultline/faultline/split/Cut", "numbers", "([II)[I"⟩ : MethodName) prog_96_method_3_code 5 (some (.array .int)) :: ws) ({ frames := 0, cells := 1, slots := 4, locals := 0 } : Room)) (fun a U => a = #[(.ref a1), (.int pt)] ∧ Z.Warmed39 U.vm ∧ U.heap = h0) (fun _ _ _ _ _ => True) (fun _ U o U' => ∃ v L, o = .returned v ∧ Q2 Z a1 pt fl n h0 n0 v U'.heap L ∧ FrameEnd U o U' L ({ frames := 0, cells := 1, slots := 4, locals := 0 } : Room).cells ({ frames := 0, cells := 1, slots := 4, locals := 0 } : Room).slots) := by
  refine MetFree.of_bodySF (plainFor_of_name pn_2) hisR ?_
  intro p e s m args below meth c s₁ Bd hml0 hP hK
  obtain ⟨rfl, hZ, hh⟩ := hP
  have hx := Bd.exec
  have hby := Bd.bytes
  have hml : c.maxLocals = 5 := hml0
  have hown : s.vm.findClass "com/example/faultline/faultline/split/Cut" = some m.cls := findClass_of_methodNamed Bd.named
  have hnm := (name_of_methodNamed Bd.named Bd.method).1
  have X0 : Stand p l e ({ frames := 0, cells := 1, slots := 4, locals := 0 } : Room) s m #[(.ref a1), (.int pt)] below meth c s₁ [] 0 0 := Stand.of_body Bd
  have e0 : s₁.heap = h0 := by rw [← hh, Bd.state]; rfl
  have N0 := Fr.nil n0
  have pre0 : ∀ t, Steps p.tables e below (s₁.setTop (mkF m 0 #[.val (.ref a1), .val (.int pt), .unset, .unset, .unset] [])) t → Steps p.tables e below (s₁.setTop (entryFrame m #[(.ref a1), (.int pt)] 5)) t := fun t k => castTop (ef_2 m a1 pt) k
  have hneg : ¬ pt < 0 := by rw [Int32.lt_iff_toInt_lt, Int32.toInt_zero]; omega
  obtain ⟨T173, h173, k173, X173, e173, E173, A173, st173⟩ := newP X0 hx hZ (hw _ (List.mem_of_getElem? (i := 5) rfl)) e0 (g := (mkF m 1 #[.val (.ref a1), .val (.int pt), .unset, .unset, .unset] [(.int pt)])) rfl (hb hby d2_1) rfl hneg (cap := 4) (by show pt.toInt.toNat ≤ 4; omega) (by decide) (by decide) (by decide)
  obtain ⟨b173, g173⟩ : ∃ z, z = h0.size := ⟨_, rfl⟩
  have ne174 : a1 ≠ b173 := fun q => absurd VA.lt (by rw [q, g173]; exact Nat.lt_irrefl _)
  have g175 : n0 ≤ b173 := g173 ▸ Z0
  have s176 : h0.size ≤ b173 := g173 ▸ (Keep.refl h0 []).1
  rw [← g173] at A173 st173
  have A177 := VA.ext E173
  have K178 := (Keep.refl h0 []).ext E173
  have Z179 : n0 ≤ h173.size := Nat.le_trans Z0 E173.1
  have A180 : OwnAV Z h173 b173 .int pt.toInt.toNat (fun i => (.int ((fun _ => (0 : Int32)) i))) := OwnAV.new A173 rfl (by omega)
  have k181 : ∀ t, Steps p.tables e below (T173.setTop (mkF m 9 #[.val (.ref a1), .val (.int pt), .val (.ref b173), .val (.int (0 : Int32)), .val (.int (0 : Int32))] [])) t → Steps p.tables e below (s₁.setTop (entryFrame m #[(.ref a1), (.int pt)] 5)) t := fun t hk => pre0 t (by
    show Steps p.tables e below (s₁.setTop (mkF m 0 #[.val (.ref a1), .val (.int pt), .unset, .unset, .unset] [])) _
    refine XS.iloadN X0.here hx rfl (hb hby d2_0) rfl ?_
    show Steps p.tables e below (s₁.setTop (mkF m 1 #[.val (.ref a1), .val (.int pt), .unset, .unset, .unset] [(.int pt)])) _
    refine st173 _ ?_
    show Steps p.tables e below (T173.setTop (mkF m 3 #[.val (.ref a1), .val (.int pt), .unset, .unset, .unset] [(.ref b173)])) _
    refine XS.astoreN X173.here hx rfl (hb hby d2_3) rfl rfl (l' := #[.val (.ref a1), .val (.int pt), .val (.ref b173), .unset, .unset]) rfl ?_
    show Steps p.tables e below (T173.setTop (mkF m 4 #[.val (.ref a1), .val (.int pt), .val (.ref b173), .unset, .unset] [])) _
    refine XS.iconst X173.here hx rfl (hb hby d2_4) ?_
    show Steps p.tables e below (T173.setTop (mkF m 5 #[.val (.ref a1), .val (.int pt), .val (.ref b173), .unset, .unset] [(.int (0 : Int32))])) _
    refine XS.istoreN X173.here hx rfl (hb hby d2_5) rfl (l' := #[.val (.ref a1), .val (.int pt), .val (.ref b173), .val (.int (0 : Int32)), .unset]) rfl ?_
    show Steps p.tables e below (T173.setTop (mkF m 6 #[.val (.ref a1), .val (.int pt), .val (.ref b173), .val (.int (0 : Int32)), .unset] [])) _
    refine XS.iconst X173.here hx rfl (hb hby d2_6) ?_
    show Steps p.tables e below (T173.setTop (mkF m 7 #[.val (.ref a1), .val (.int pt), .val (.ref b173), .val (.int (0 : Int32)), .unset] [(.int (0 : Int32))])) _
    refine XS.istore X173.here hx rfl (hb hby d2_7) rfl (l' := #[.val (.ref a1), .val (.int pt), .val (.ref b173), .val (.int (0 : Int32)), .val (.int (0 : Int32))]) rfl ?_
    exact hk)
  obtain ⟨T', h', locs', c3, c4, X', e', N', K', V', st'⟩ := own_loop (a0 := a0) (h0 := h0) a1 b173 pt fl n n0 hn hp0 hp4 hfl g175 s176 ne174 hx hZ hw hby hml hown n 0 T173 h173 _ (by omega) X173 e173 N0 Z179 K178 A177 A180
  have kL := fun t hk => k181 t (st' t hk)
  have k182 : ∀ t, Steps p.tables e below (T'.setTop (mkF m 47 #[.val (.ref a1), .val (.int pt), .val (.ref b173), .val (.int c3), .val (.int c4)] [(.ref b173)])) t → Steps p.tables e below (s₁.setTop (entryFrame m #[(.ref a1), (.int pt)] 5)) t := fun t hk => kL t (by
    show Steps p.tables e below (T'.setTop (mkF m 46 #[.val (.ref a1), .val (.int pt), .val (.ref b173), .val (.int c3), .val (.int c4)] [])) _
    refine XS.aloadN X'.here hx rfl (hb hby d2_46) rfl rfl ?_
    exact hk)
  obtain ⟨fs, hr, hrun, hended, hW, hsame⟩ := X'.leave (v := some (.ref b173)) (fun h => by rw [Bd.returns] at h; cases h)
  refine ⟨_, _, k182 _ ?_, hrun, hended, _, _, rfl, ?_, ⟨_, rfl⟩, hW, hsame.mono (by decide) (by decide)⟩
  · show Steps p.tables e below (T'.setTop (mkF m 47 #[.val (.ref a1), .val (.int pt), .val (.ref b173), .val (.int c3), .val (.int c4)] [(.ref b173)])) _
    exact retOut X' hx Bd.returns rfl (Or.inr (Or.inr (Or.inr (Or.inr ⟨rfl, rfl, rfl⟩)))) (hb hby d2_47) hr
  · show Q2 Z a1 pt fl n h0 n0 _ T'.heap _
    rw [e']
    exact ⟨_, rfl, s176, N', K', V'⟩
theorem own_parts (sh pt : Int32) (h : pt = ((1 : Int32) + (sh &&& (3 : Int32)))) : 1 ≤ pt.toInt ∧ pt.toInt ≤ 4 ∧ pt ≠ 0 := by
  have a1 : (sh &&& (3 : Int32)).toInt = sh.toInt % (2 ^ 2 : Nat) := c_mask sh _ 2 (by decide) (by decide)
  have b1 := c_iadd 1 (sh &&& (3 : Int32))
  have b2 := rng32 (1 + (sh &&& (3 : Int32)))
  have z1 : (1 : Int32).toInt = 1 := by decide
  have z0 : (0 : Int32).toInt = 0 := by decide
  rw [z1] at b1
  have q : 1 ≤ pt.toInt ∧ pt.toInt ≤ 4 := by rw [h]; omega
  exact ⟨q.1, q.2, fun r => by rw [r, z0] at q; omega⟩
theorem own_count (sh nn : Int32) (h : nn = ((((sh.toUInt32 >>> ((2 : Int32) &&& 31).toUInt32).toInt32) &&& (7 : Int32)) % (6 : Int32))) : 0 ≤ nn.toInt ∧ nn.toInt ≤ 5 := by
  have a1 : (((sh.toUInt32 >>> ((2 : Int32) &&& 31).toUInt32).toInt32) &&& (7 : Int32)).toInt = ((sh.toUInt32 >>> ((2 : Int32) &&& 31).toUInt32).toInt32).toInt % (2 ^ 3 : Nat) := c_mask _ _ 3 (by decide) (by decide)
  have a2 : ((((sh.toUInt32 >>> ((2 : Int32) &&& 31).toUInt32).toInt32) &&& (7 : Int32)) % (6 : Int32)).toInt = (((sh.toUInt32 >>> ((2 : Int32) &&& 31).toUInt32).toInt32) &&& (7 : Int32)).toInt % 6 := by
    rw [Int32.toInt_mod]; exact (tr _ _).1 (by rw [a1]; omega)
  rw [h]; omega
theorem own_label (va pt l0 : Int32) (hp : 1 ≤ pt.toInt) (h : l0 = ((va &&& (2147483647 : Int32)) % pt)) : 0 ≤ l0.toInt ∧ l0.toInt < pt.toInt := by
  have a1 : (va &&& (2147483647 : Int32)).toInt = va.toInt % (2 ^ 31 : Nat) := c_mask va _ 31 (by decide) (by decide)
  have a2 : l0.toInt = (va &&& (2147483647 : Int32)).toInt % pt.toInt := by
    rw [h, Int32.toInt_mod]; exact (tr _ _).1 (by rw [a1]; omega)
  rw [a2]
  exact ⟨Int.emod_nonneg _ (by omega), Int.emod_lt_of_pos _ (by omega)⟩
theorem own_at1 {pt : Int32} (h : ¬ pt < (2 : Int32)) : OwnIdx (1 : Int32) 1 pt.toInt.toNat := by
  refine ⟨by decide, rfl, ?_⟩
  rw [Int32.lt_iff_toInt_lt] at h
  have z : (2 : Int32).toInt = 2 := by decide
  rw [z] at h; omega
theorem own_at2 {pt : Int32} (h : ¬ pt < (3 : Int32)) : OwnIdx (2 : Int32) 2 pt.toInt.toNat := by
  refine ⟨by decide, rfl, ?_⟩
  rw [Int32.lt_iff_toInt_lt] at h
  have z : (3 : Int32).toInt = 3 := by decide
  rw [z] at h; omega
theorem own_at3 {pt : Int32} (h : ¬ pt < (4 : Int32)) : OwnIdx (3 : Int32) 3 pt.toInt.toNat := by
  refine ⟨by decide, rfl, ?_⟩
  rw [Int32.lt_iff_toInt_lt] at h
  have z : (4 : Int32).toInt = 4 := by decide
  rw [z] at h; omega
def own_f0 (nn l0 l1 l2 l3 l4 : Int32) : Int32 := (if (0 : Int32) < nn then (1 : Int32) else (0 : Int32))
def own_f1 (nn l0 l1 l2 l3 l4 : Int32) : Int32 := (if (1 : Int32) < nn then (if l1 = l0 then (0 : Int32) else (1 : Int32)) else (0 : Int32))
def own_f2 (nn l0 l1 l2 l3 l4 : Int32) : Int32 := (if (2 : Int32) < nn then (if l2 = l0 then (0 : Int32) else (if l2 = l1 then (0 : Int32) else (1 : Int32))) else (0 : Int32))
def own_f3 (nn l0 l1 l2 l3 l4 : Int32) : Int32 := (if (3 : Int32) < nn then (if l3 = l0 then (0 : Int32) else (if l3 = l1 then (0 : Int32) else (if l3 = l2 then (0 : Int32) else (1 : Int32)))) else (0 : Int32))
def own_f4 (nn l0 l1 l2 l3 l4 : Int32) : Int32 := (if (4 : Int32) < nn then (if l4 = l0 then (0 : Int32) else (if l4 = l1 then (0 : Int32) else (if l4 = l2 then (0 : Int32) else (if l4 = l3 then (0 : Int32) else (1 : Int32))))) else (0 : Int32))
def own_r0 (nn l0 l1 l2 l3 l4 : Int32) : Int32 := (if (own_f0 nn l0 l1 l2 l3 l4) = (0 : Int32) then (0 : Int32) else (1 : Int32))
def own_d1 (nn l0 l1 l2 l3 l4 : Int32) : Int32 := (if (own_f1 nn l0 l1 l2 l3 l4) = (0 : Int32) then (0 : Int32) else (1 : Int32))
def own_r1 (nn l0 l1 l2 l3 l4 : Int32) : Int32 := ((own_r0 nn l0 l1 l2 l3 l4) + (own_d1 nn l0 l1 l2 l3 l4))
def own_d2 (nn l0 l1 l2 l3 l4 : Int32) : Int32 := (if (own_f2 nn l0 l1 l2 l3 l4) = (0 : Int32) then (0 : Int32) else (1 : Int32))
def own_r2 (nn l0 l1 l2 l3 l4 : Int32) : Int32 := ((own_r1 nn l0 l1 l2 l3 l4) + (own_d2 nn l0 l1 l2 l3 l4))
def own_d3 (nn l0 l1 l2 l3 l4 : Int32) : Int32 := (if (own_f3 nn l0 l1 l2 l3 l4) = (0 : Int32) then (0 : Int32) else (1 : Int32))
def own_r3 (nn l0 l1 l2 l3 l4 : Int32) : Int32 := ((own_r2 nn l0 l1 l2 l3 l4) + (own_d3 nn l0 l1 l2 l3 l4))
def own_d4 (nn l0 l1 l2 l3 l4 : Int32) : Int32 := (if (own_f4 nn l0 l1 l2 l3 l4) = (0 : Int32) then (0 : Int32) else (1 : Int32))
def own_r4 (nn l0 l1 l2 l3 l4 : Int32) : Int32 := ((own_r3 nn l0 l1 l2 l3 l4) + (own_d4 nn l0 l1 l2 l3 l4))
def own_w0 (nn l0 l1 l2 l3 l4 : Int32) : Nat → Int32 := (if (own_f0 nn l0 l1 l2 l3 l4) = (0 : Int32) then (fun _ => (0 : Int32)) else (own_upd (fun _ => (0 : Int32)) l0.toInt.toNat (own_r0 nn l0 l1 l2 l3 l4)))
def own_w1 (nn l0 l1 l2 l3 l4 : Int32) : Nat → Int32 := (if (own_f1 nn l0 l1 l2 l3 l4) = (0 : Int32) then (own_w0 nn l0 l1 l2 l3 l4) else (own_upd (own_w0 nn l0 l1 l2 l3 l4) l1.toInt.toNat (own_r1 nn l0 l1 l2 l3 l4)))
def own_w2 (nn l0 l1 l2 l3 l4 : Int32) : Nat → Int32 := (if (own_f2 nn l0 l1 l2 l3 l4) = (0 : Int32) then (own_w1 nn l0 l1 l2 l3 l4) else (own_upd (own_w1 nn l0 l1 l2 l3 l4) l2.toInt.toNat (own_r2 nn l0 l1 l2 l3 l4)))
def own_w3 (nn l0 l1 l2 l3 l4 : Int32) : Nat → Int32 := (if (own_f3 nn l0 l1 l2 l3 l4) = (0 : Int32) then (own_w2 nn l0 l1 l2 l3 l4) else (own_upd (own_w2 nn l0 l1 l2 l3 l4) l3.toInt.toNat (own_r3 nn l0 l1 l2 l3 l4)))
def own_w4 (nn l0 l1 l2 l3 l4 : Int32) : Nat → Int32 := (if (own_f4 nn l0 l1 l2 l3 l4) = (0 : Int32) then (own_w3 nn l0 l1 l2 l3 l4) else (own_upd (own_w3 nn l0 l1 l2 l3 l4) l4.toInt.toNat (own_r4 nn l0 l1 l2 l3 l4)))
def own_labN (a b c d e : Nat) : Nat → Nat
  | 0 => a
  | 1 => b
  | 2 => c
  | 3 => d
  | _ => e
set_option maxRecDepth 65536 in
set_option maxHeartbeats 40000000 in
theorem own_fin : ∀ (P : Fin 4) (n : Fin 6) (a b c d e : Fin 4), a.val ≤ P.val → b.val ≤ P.val → c.val ≤ P.val → d.val ≤ P.val → e.val ≤ P.val → ∀ j : Fin 4, j.val ≤ P.val → Int32.ofNat ((own_num (own_labN a.val b.val c.val d.val e.val) (P.val + 1) n.val).1 j.val) = own_w4 (Int32.ofNat n.val) (Int32.ofNat a.val) (Int32.ofNat b.val) (Int32.ofNat c.val) (Int32.ofNat d.val) (Int32.ofNat e.val) j.val := by decide +kernel
theorem own_plain (pt nn l0 l1 l2 l3 l4 f0 f1 f2 f3 f4 r0 d1 r1 d2 r2 d3 r3 d4 r4 : Int32) (w0 w1 w2 w3 w4 : Nat → Int32) (hp0 : 1 ≤ pt.toInt) (hp4 : pt.toInt ≤ 4) (hn0 : 0 ≤ nn.toInt) (hn5 : nn.toInt ≤ 5) (m0 : 0 ≤ l0.toInt) (u0 : l0.toInt < pt.toInt) (m1 : 0 ≤ l1.toInt) (u1 : l1.toInt < pt.toInt) (m2 : 0 ≤ l2.toInt) (u2 : l2.toInt < pt.toInt) (m3 : 0 ≤ l3.toInt) (u3 : l3.toInt < pt.toInt) (m4 : 0 ≤ l4.toInt) (u4 : l4.toInt < pt.toInt) (hf0 : f0 = (if (0 : Int32) < nn then (1 : Int32) else (0 : Int32))) (hf1 : f1 = (if (1 : Int32) < nn then (if l1 = l0 then (0 : Int32) else (1 : Int32)) else (0 : Int32))) (hf2 : f2 = (if (2 : Int32) < nn then (if l2 = l0 then (0 : Int32) else (if l2 = l1 then (0 : Int32) else (1 : Int32))) else (0 : Int32))) (hf3 : f3 = (if (3 : Int32) < nn then (if l3 = l0 then (0 : Int32) else (if l3 = l1 then (0 : Int32) else (if l3 = l2 then (0 : Int32) else (1 : Int32)))) else (0 : Int32))) (hf4 : f4 = (if (4 : Int32) < nn then (if l4 = l0 then (0 : Int32) else (if l4 = l1 then (0 : Int32) else (if l4 = l2 then (0 : Int32) else (if l4 = l3 then (0 : Int32) else (1 : Int32))))) else (0 : Int32))) (hr0 : r0 = (if f0 = (0 : Int32) then (0 : Int32) else (1 : Int32))) (hd1 : d1 = (if f1 = (0 : Int32) then (0 : Int32) else (1 : Int32))) (hr1 : r1 = (r0 + d1)) (hd2 : d2 = (if f2 = (0 : Int32) then (0 : Int32) else (1 : Int32))) (hr2 : r2 = (r1 + d2)) (hd3 : d3 = (if f3 = (0 : Int32) then (0 : Int32) else (1 : Int32))) (hr3 : r3 = (r2 + d3)) (hd4 : d4 = (if f4 = (0 : Int32) then (0 : Int32) else (1 : Int32))) (hr4 : r4 = (r3 + d4)) (hw0 : w0 = (if f0 = (0 : Int32) then (fun _ => (0 : Int32)) else (own_upd (fun _ => (0 : Int32)) l0.toInt.toNat r0))) (hw1 : w1 = (if f1 = (0 : Int32) then w0 else (own_upd w0 l1.toInt.toNat r1))) (hw2 : w2 = (if f2 = (0 : Int32) then w1 else (own_upd w1 l2.toInt.toNat r2))) (hw3 : w3 = (if f3 = (0 : Int32) then w2 else (own_upd w2 l3.toInt.toNat r3))) (hw4 : w4 = (if f4 = (0 : Int32) then w3 else (own_upd w3 l4.toInt.toNat r4))) : ∀ j, j < pt.toInt.toNat → ((own_G (own_lab l0 l1 l2 l3 l4) pt.toInt.toNat nn.toInt.toNat) j) = (w4 j) := by
  subst hf0 hf1 hf2 hf3 hf4 hr0 hd1 hr1 hd2 hr2 hd3 hr3 hd4 hr4 hw0 hw1 hw2 hw3 hw4
  intro j hj
  have q := own_fin ⟨pt.toInt.toNat - 1, by omega⟩ ⟨nn.toInt.toNat, by omega⟩ ⟨l0.toInt.toNat, by omega⟩ ⟨l1.toInt.toNat, by omega⟩ ⟨l2.toInt.toNat, by omega⟩ ⟨l3.toInt.toNat, by omega⟩ ⟨l4.toInt.toNat, by omega⟩ (by show _ ≤ _; simp only; omega) (by show _ ≤ _; simp only; omega) (by show _ ≤ _; simp only; omega) (by show _ ≤ _; simp only; omega) (by show _ ≤ _; simp only; omega) ⟨j, by omega⟩ (by show _ ≤ _; simp only; omega)
  simp only at q
  show Int32.ofNat _ = _
  have e0 : pt.toInt.toNat - 1 + 1 = pt.toInt.toNat := by omega
  have hl : (fun j => (own_lab l0 l1 l2 l3 l4 j).toInt.toNat) = own_labN l0.toInt.toNat l1.toInt.toNat l2.toInt.toNat l3.toInt.toNat l4.toInt.toNat := by
    funext j
    match j with
    | 0 => rfl
    | 1 => rfl
    | 2 => rfl
    | 3 => rfl
    | (j + 4) => rfl
  rw [e0, own_back hn0, own_back m0, own_back m1, own_back m2, own_back m3, own_back m4, ← hl] at q
  exact q
theorem pn_0 : plainName "com/example/faultline/faultline/split/CutNumbersPinLaw" = true := by first | (simp [plainName, overriddenIn]; done) | decide +kernel
theorem ef_0 (m : MethodId) (sh : Int32) (va : Int32) (vb : Int32) (vc : Int32) (vd : Int32) (ve : Int32) : entryFrame m #[(.int sh), (.int va), (.int vb), (.int vc), (.int vd), (.int ve)] maxLocals = (mkF m 0 #[.val (.int sh), .val (.int va), .val (.int vb), .val (.int vc), .val (.int vd), .val (.int ve), .unset, .unset, .unset, .unset, .unset, .unset, .unset, .unset, .unset, .unset, .unset, .unset, .unset, .unset, .unset, .unset, .unset, .unset, .unset, .unset] []) := by first | (simp [entryFrame, mkF, argsToLocals, Value.category, maxLocals]; done) | rfl
def Q0 (Z : State) (sh : Int32) (va : Int32) (vb : Int32) (vc : Int32) (vd : Int32) (ve : Int32) (h0 : Heap) (n0 : Nat) (v : Option Value) (h : Heap) (L : List Loc) : Prop := v = some (.int 1) ∧ Fr n0 L
set_option maxRecDepth 65536 in
set_option maxHeartbeats 40000000 in
theorem rm0 (l : Launch) (Z : State) (a0 : Array Value) (hw : ∀ d ∈ tables_1, d.before a0 Z = true) (ws : List Jvm.Cond) (sh : Int32) (va : Int32) (vb : Int32) (vc : Int32) (vd : Int32) (ve : Int32) (h0 : Heap) (n0 : Nat) (Z0 : n0 ≤ h0.size)  :
    MetFree l x (head1 (Jvm.Cond.code x code maxLocals ret :: ws) room_1) (fun a U => a = #[(.int sh), (.int va), (.int vb), (.int vc), (.int vd), (.int ve)] ∧ Z.Warmed39 U.vm ∧ U.heap = h0) (fun _ _ _ _ _ => True) (fun _ U o U' => ∃ v L, o = .returned v ∧ Q0 Z sh va vb vc vd ve h0 n0 v U'.heap L ∧ FrameEnd U o U' L room_1.cells room_1.slots) := by
  refine MetFree.of_bodySF (plainFor_of_name pn_0) hisR ?_
  intro p e s m args below meth c s₁ Bd hml0 hP hK
  obtain ⟨rfl, hZ, hh⟩ := hP
  have hx := Bd.exec
  have hby := Bd.bytes
  have hml : c.maxLocals = 26 := hml0
  have hown : s.vm.findClass "com/example/faultline/faultline/split/CutNumbersPinLaw" = some m.cls := findClass_of_methodNamed Bd.named
  have hnm := (name_of_methodNamed Bd.named Bd.method).1
  have X0 : Stand p l e room_1 s m #[(.int sh), (.int va), (.int vb), (.int vc), (.int vd), (.int ve)] below meth c s₁ [] 0 0 := Stand.of_body Bd
  have e0 : s₁.heap = h0 := by rw [← hh, Bd.state]; rfl
  have N0 := Fr.nil n0
  have pre0 : ∀ t, Steps p.tables e below (s₁.setTop (mkF m 0 #[.val (.int sh), .val (.int va), .val (.int vb), .val (.int vc), .val (.int vd), .val (.int ve), .unset, .unset, .unset, .unset, .unset, .unset, .unset, .unset, .unset, .unset, .unset, .unset, .unset, .unset, .unset, .unset, .unset, .unset, .unset, .unset] [])) t → Steps p.tables e below (s₁.setTop (entryFrame m #[(.int sh), (.int va), (.int vb), (.int vc), (.int vd), (.int ve)] maxLocals)) t := fun t k => castTop (ef_0 m sh va vb vc vd ve) k
  have k183 : ∀ t, Steps p.tables e below (s₁.setTop (mkF m 7 #[.val (.int sh), .val (.int va), .val (.int vb), .val (.int vc), .val (.int vd), .val (.int ve), .val (.int ((1 : Int32) + (sh &&& (3 : Int32)))), .unset, .unset, .unset, .unset, .unset, .unset, .unset, .unset, .unset, .unset, .unset, .unset, .unset, .unset, .unset, .unset, .unset, .unset, .unset] [])) t → Steps p.tables e below (s₁.setTop (entryFrame m #[(.int sh), (.int va), (.int vb), (.int vc), (.int vd), (.int ve)] maxLocals)) t := fun t hk => pre0 t (by
    show Steps p.tables e below (s₁.setTop (mkF m 0 #[.val (.int sh), .val (.int va), .val (.int vb), .val (.int vc), .val (.int vd), .val (.int ve), .unset, .unset, .unset, .unset, .unset, .unset, .unset, .unset, .unset, .unset, .unset, .unset, .unset, .unset, .unset, .unset, .unset, .unset, .unset, .unset] [])) _
    refine XS.iconst X0.here hx rfl (hb hby at_0) ?_
    show Steps p.tables e below (s₁.setTop (mkF m 1 #[.val (.int sh), .val (.int va), .val (.int vb), .val (.int vc), .val (.int vd), .val (.int ve), .unset, .unset, .unset, .unset, .unset, .unset, .unset, .unset, .unset, .unset, .unset, .unset, .unset, .unset, .unset, .unset, .unset, .unset, .unset, .unset] [(.int (1 : Int32))])) _
    refine XS.iloadN X0.here hx rfl (hb hby at_1) rfl ?_
    show Steps p.tables e below (s₁.setTop (mkF m 2 #[.val (.int sh), .val (.int va), .val (.int vb), .val (.int vc), .val (.int vd), .val (.int ve), .unset, .unset, .unset, .unset, .unset, .unset, .unset, .unset, .unset, .unset, .unset, .unset, .unset, .unset, .unset, .unset, .unset, .unset, .unset, .unset] [(.int sh), (.int (1 : Int32))])) _
    refine XS.iconst X0.here hx rfl (hb hby at_2) ?_
    show Steps p.tables e below (s₁.setTop (mkF m 3 #[.val (.int sh), .val (.int va), .val (.int vb), .val (.int vc), .val (.int vd), .val (.int ve), .unset, .unset, .unset, .unset, .unset, .unset, .unset, .unset, .unset, .unset, .unset, .unset, .unset, .unset, .unset, .unset, .unset, .unset, .unset, .unset] [(.int (3 : Int32)), (.int sh), (.int (1 : Int32))])) _
    refine XS.iand X0.here hx rfl (hb hby at_3) rfl ?_
    show Steps p.tables e below (s₁.setTop (mkF m 4 #[.val (.int sh), .val (.int va), .val (.int vb), .val (.int vc), .val (.int vd), .val (.int ve), .unset, .unset, .unset, .unset, .unset, .unset, .unset, .unset, .unset, .unset, .unset, .unset, .unset, .unset, .unset, .unset, .unset, .unset, .unset, .unset] [(.int (sh &&& (3 : Int32))), (.int (1 : Int32))])) _
    refine XS.iadd X0.here hx rfl (hb hby at_4) rfl ?_
    show Steps p.tables e below (s₁.setTop (mkF m 5 #[.val (.int sh), .val (.int va), .val (.int vb), .val (.int vc), .val (.int vd), .val (.int ve), .unset, .unset, .unset, .unset, .unset, .unset, .unset, .unset, .unset, .unset, .unset, .unset, .unset, .unset, .unset, .unset, .unset, .unset, .unset, .unset] [(.int ((1 : Int32) + (sh &&& (3 : Int32))))])) _
    refine XS.istore X0.here hx rfl (hb hby at_5) rfl (l' := #[.val (.int sh), .val (.int va), .val (.int vb), .val (.int vc), .val (.int vd), .val (.int ve), .val (.int ((1 : Int32) + (sh &&& (3 : Int32)))), .unset, .unset, .unset, .unset, .unset, .unset, .unset, .unset, .unset, .unset, .unset, .unset, .unset, .unset, .unset, .unset, .unset, .unset, .unset]) rfl ?_
    exact hk)
  obtain ⟨pt, hpt, k184⟩ : ∃ (pt : Int32), pt = ((1 : Int32) + (sh &&& (3 : Int32))) ∧ ∀ t, Steps p.tables e below (s₁.setTop (mkF m 7 #[.val (.int sh), .val (.int va), .val (.int vb), .val (.int vc), .val (.int vd), .val (.int ve), .val (.int pt), .unset, .unset, .unset, .unset, .unset, .unset, .unset, .unset, .unset, .unset, .unset, .unset, .unset, .unset, .unset, .unset, .unset, .unset, .unset] [])) t → Steps p.tables e below (s₁.setTop (entryFrame m #[(.int sh), (.int va), (.int vb), (.int vc), (.int vd), (.int ve)] maxLocals)) t := ⟨((1 : Int32) + (sh &&& (3 : Int32))), rfl, k183⟩
  obtain ⟨hp0, hp4, hpz⟩ := own_parts sh pt hpt
  have k185 : ∀ t, Steps p.tables e below (s₁.setTop (mkF m 18 #[.val (.int sh), .val (.int va), .val (.int vb), .val (.int vc), .val (.int vd), .val (.int ve), .val (.int pt), .val (.int ((((sh.toUInt32 >>> ((2 : Int32) &&& 31).toUInt32).toInt32) &&& (7 : Int32)) % (6 : Int32))), .unset, .unset, .unset, .unset, .unset, .unset, .unset, .unset, .unset, .unset, .unset, .unset, .unset, .unset, .unset, .unset, .unset, .unset] [])) t → Steps p.tables e below (s₁.setTop (entryFrame m #[(.int sh), (.int va), (.int vb), (.int vc), (.int vd), (.int ve)] maxLocals)) t := fun t hk => k184 t (by
    show Steps p.tables e below (s₁.setTop (mkF m 7 #[.val (.int sh), .val (.int va), .val (.int vb), .val (.int vc), .val (.int vd), .val (.int ve), .val (.int pt), .unset, .unset, .unset, .unset, .unset, .unset, .unset, .unset, .unset, .unset, .unset, .unset, .unset, .unset, .unset, .unset, .unset, .unset, .unset] [])) _
    refine XS.iloadN X0.here hx rfl (hb hby at_7) rfl ?_
    show Steps p.tables e below (s₁.setTop (mkF m 8 #[.val (.int sh), .val (.int va), .val (.int vb), .val (.int vc), .val (.int vd), .val (.int ve), .val (.int pt), .unset, .unset, .unset, .unset, .unset, .unset, .unset, .unset, .unset, .unset, .unset, .unset, .unset, .unset, .unset, .unset, .unset, .unset, .unset] [(.int sh)])) _
    refine XS.iconst X0.here hx rfl (hb hby at_8) ?_
    show Steps p.tables e below (s₁.setTop (mkF m 9 #[.val (.int sh), .val (.int va), .val (.int vb), .val (.int vc), .val (.int vd), .val (.int ve), .val (.int pt), .unset, .unset, .unset, .unset, .unset, .unset, .unset, .unset, .unset, .unset, .unset, .unset, .unset, .unset, .unset, .unset, .unset, .unset, .unset] [(.int (2 : Int32)), (.int sh)])) _
    refine XS.iushr X0.here hx rfl (hb hby at_9) rfl ?_
    show Steps p.tables e below (s₁.setTop (mkF m 10 #[.val (.int sh), .val (.int va), .val (.int vb), .val (.int vc), .val (.int vd), .val (.int ve), .val (.int pt), .unset, .unset, .unset, .unset, .unset, .unset, .unset, .unset, .unset, .unset, .unset, .unset, .unset, .unset, .unset, .unset, .unset, .unset, .unset] [(.int ((sh.toUInt32 >>> ((2 : Int32) &&& 31).toUInt32).toInt32))])) _
    refine XS.bipush X0.here hx rfl (hb hby at_10) ?_
    show Steps p.tables e below (s₁.setTop (mkF m 12 #[.val (.int sh), .val (.int va), .val (.int vb), .val (.int vc), .val (.int vd), .val (.int ve), .val (.int pt), .unset, .unset, .unset, .unset, .unset, .unset, .unset, .unset, .unset, .unset, .unset, .unset, .unset, .unset, .unset, .unset, .unset, .unset, .unset] [(.int (7 : Int32)), (.int ((sh.toUInt32 >>> ((2 : Int32) &&& 31).toUInt32).toInt32))])) _
    refine XS.iand X0.here hx rfl (hb hby at_12) rfl ?_
    show Steps p.tables e below (s₁.setTop (mkF m 13 #[.val (.int sh), .val (.int va), .val (.int vb), .val (.int vc), .val (.int vd), .val (.int ve), .val (.int pt), .unset, .unset, .unset, .unset, .unset, .unset, .unset, .unset, .unset, .unset, .unset, .unset, .unset, .unset, .unset, .unset, .unset, .unset, .unset] [(.int (((sh.toUInt32 >>> ((2 : Int32) &&& 31).toUInt32).toInt32) &&& (7 : Int32)))])) _
    refine XS.bipush X0.here hx rfl (hb hby at_13) ?_
    show Steps p.tables e below (s₁.setTop (mkF m 15 #[.val (.int sh), .val (.int va), .val (.int vb), .val (.int vc), .val (.int vd), .val (.int ve), .val (.int pt), .unset, .unset, .unset, .unset, .unset, .unset, .unset, .unset, .unset, .unset, .unset, .unset, .unset, .unset, .unset, .unset, .unset, .unset, .unset] [(.int (6 : Int32)), (.int (((sh.toUInt32 >>> ((2 : Int32) &&& 31).toUInt32).toInt32) &&& (7 : Int32)))])) _
    refine iremM X0 hx rfl (hb hby at_15) rfl (by decide) ?_
    show Steps p.tables e below (s₁.setTop (mkF m 16 #[.val (.int sh), .val (.int va), .val (.int vb), .val (.int vc), .val (.int vd), .val (.int ve), .val (.int pt), .unset, .unset, .unset, .unset, .unset, .unset, .unset, .unset, .unset, .unset, .unset, .unset, .unset, .unset, .unset, .unset, .unset, .unset, .unset] [(.int ((((sh.toUInt32 >>> ((2 : Int32) &&& 31).toUInt32).toInt32) &&& (7 : Int32)) % (6 : Int32)))])) _
    refine XS.istore X0.here hx rfl (hb hby at_16) rfl (l' := #[.val (.int sh), .val (.int va), .val (.int vb), .val (.int vc), .val (.int vd), .val (.int ve), .val (.int pt), .val (.int ((((sh.toUInt32 >>> ((2 : Int32) &&& 31).toUInt32).toInt32) &&& (7 : Int32)) % (6 : Int32))), .unset, .unset, .unset, .unset, .unset, .unset, .unset, .unset, .unset, .unset, .unset, .unset, .unset, .unset, .unset, .unset, .unset, .unset]) rfl ?_
    exact hk)
  obtain ⟨nn, hnn, k186⟩ : ∃ (nn : Int32), nn = ((((sh.toUInt32 >>> ((2 : Int32) &&& 31).toUInt32).toInt32) &&& (7 : Int32)) % (6 : Int32)) ∧ ∀ t, Steps p.tables e below (s₁.setTop (mkF m 18 #[.val (.int sh), .val (.int va), .val (.int vb), .val (.int vc), .val (.int vd), .val (.int ve), .val (.int pt), .val (.int nn), .unset, .unset, .unset, .unset, .unset, .unset, .unset, .unset, .unset, .unset, .unset, .unset, .unset, .unset, .unset, .unset, .unset, .unset] [])) t → Steps p.tables e below (s₁.setTop (entryFrame m #[(.int sh), (.int va), (.int vb), (.int vc), (.int vd), (.int ve)] maxLocals)) t := ⟨((((sh.toUInt32 >>> ((2 : Int32) &&& 31).toUInt32).toInt32) &&& (7 : Int32)) % (6 : Int32)), rfl, k185⟩
  obtain ⟨hn0, hn5⟩ := own_count sh nn hnn
  have k187 : ∀ t, Steps p.tables e below (s₁.setTop (mkF m 27 #[.val (.int sh), .val (.int va), .val (.int vb), .val (.int vc), .val (.int vd), .val (.int ve), .val (.int pt), .val (.int nn), .val (.int ((va &&& (2147483647 : Int32)) % pt)), .unset, .unset, .unset, .unset, .unset, .unset, .unset, .unset, .unset, .unset, .unset, .unset, .unset, .unset, .unset, .unset, .unset] [])) t → Steps p.tables e below (s₁.setTop (entryFrame m #[(.int sh), (.int va), (.int vb), (.int vc), (.int vd), (.int ve)] maxLocals)) t := fun t hk => k186 t (by
    show Steps p.tables e below (s₁.setTop (mkF m 18 #[.val (.int sh), .val (.int va), .val (.int vb), .val (.int vc), .val (.int vd), .val (.int ve), .val (.int pt), .val (.int nn), .unset, .unset, .unset, .unset, .unset, .unset, .unset, .unset, .unset, .unset, .unset, .unset, .unset, .unset, .unset, .unset, .unset, .unset] [])) _
    refine XS.iloadN X0.here hx rfl (hb hby at_18) rfl ?_
    show Steps p.tables e below (s₁.setTop (mkF m 19 #[.val (.int sh), .val (.int va), .val (.int vb), .val (.int vc), .val (.int vd), .val (.int ve), .val (.int pt), .val (.int nn), .unset, .unset, .unset, .unset, .unset, .unset, .unset, .unset, .unset, .unset, .unset, .unset, .unset, .unset, .unset, .unset, .unset, .unset] [(.int va)])) _
    refine X0.ldcInt hx hown (mvT hZ (hw _ (List.mem_of_getElem? (i := 0) rfl))) (g := (mkF m 19 #[.val (.int sh), .val (.int va), .val (.int vb), .val (.int vc), .val (.int vd), .val (.int ve), .val (.int pt), .val (.int nn), .unset, .unset, .unset, .unset, .unset, .unset, .unset, .unset, .unset, .unset, .unset, .unset, .unset, .unset, .unset, .unset, .unset, .unset] [(.int va)])) rfl (hb hby at_19) _ ?_
    show Steps p.tables e below (s₁.setTop (mkF m 21 #[.val (.int sh), .val (.int va), .val (.int vb), .val (.int vc), .val (.int vd), .val (.int ve), .val (.int pt), .val (.int nn), .unset, .unset, .unset, .unset, .unset, .unset, .unset, .unset, .unset, .unset, .unset, .unset, .unset, .unset, .unset, .unset, .unset, .unset] [(.int (2147483647 : Int32)), (.int va)])) _
    refine XS.iand X0.here hx rfl (hb hby at_21) rfl ?_
    show Steps p.tables e below (s₁.setTop (mkF m 22 #[.val (.int sh), .val (.int va), .val (.int vb), .val (.int vc), .val (.int vd), .val (.int ve), .val (.int pt), .val (.int nn), .unset, .unset, .unset, .unset, .unset, .unset, .unset, .unset, .unset, .unset, .unset, .unset, .unset, .unset, .unset, .unset, .unset, .unset] [(.int (va &&& (2147483647 : Int32)))])) _
    refine XS.iload X0.here hx rfl (hb hby at_22) rfl ?_
    show Steps p.tables e below (s₁.setTop (mkF m 24 #[.val (.int sh), .val (.int va), .val (.int vb), .val (.int vc), .val (.int vd), .val (.int ve), .val (.int pt), .val (.int nn), .unset, .unset, .unset, .unset, .unset, .unset, .unset, .unset, .unset, .unset, .unset, .unset, .unset, .unset, .unset, .unset, .unset, .unset] [(.int pt), (.int (va &&& (2147483647 : Int32)))])) _
    refine iremM X0 hx rfl (hb hby at_24) rfl hpz ?_
    show Steps p.tables e below (s₁.setTop (mkF m 25 #[.val (.int sh), .val (.int va), .val (.int vb), .val (.int vc), .val (.int vd), .val (.int ve), .val (.int pt), .val (.int nn), .unset, .unset, .unset, .unset, .unset, .unset, .unset, .unset, .unset, .unset, .unset, .unset, .unset, .unset, .unset, .unset, .unset, .unset] [(.int ((va &&& (2147483647 : Int32)) % pt))])) _
    refine XS.istore X0.here hx rfl (hb hby at_25) rfl (l' := #[.val (.int sh), .val (.int va), .val (.int vb), .val (.int vc), .val (.int vd), .val (.int ve), .val (.int pt), .val (.int nn), .val (.int ((va &&& (2147483647 : Int32)) % pt)), .unset, .unset, .unset, .unset, .unset, .unset, .unset, .unset, .unset, .unset, .unset, .unset, .unset, .unset, .unset, .unset, .unset]) rfl ?_
    exact hk)
  obtain ⟨l0, hl0, k188⟩ : ∃ (l0 : Int32), l0 = ((va &&& (2147483647 : Int32)) % pt) ∧ ∀ t, Steps p.tables e below (s₁.setTop (mkF m 27 #[.val (.int sh), .val (.int va), .val (.int vb), .val (.int vc), .val (.int vd), .val (.int ve), .val (.int pt), .val (.int nn), .val (.int l0), .unset, .unset, .unset, .unset, .unset, .unset, .unset, .unset, .unset, .unset, .unset, .unset, .unset, .unset, .unset, .unset, .unset] [])) t → Steps p.tables e below (s₁.setTop (entryFrame m #[(.int sh), (.int va), (.int vb), (.int vc), (.int vd), (.int ve)] maxLocals)) t := ⟨((va &&& (2147483647 : Int32)) % pt), rfl, k187⟩
  obtain ⟨m0, u0⟩ := own_label va pt l0 hp0 hl0
  have k189 : ∀ t, Steps p.tables e below (s₁.setTop (mkF m 36 #[.val (.int sh), .val (.int va), .val (.int vb), .val (.int vc), .val (.int vd), .val (.int ve), .val (.int pt), .val (.int nn), .val (.int l0), .val (.int ((vb &&& (2147483647 : Int32)) % pt)), .unset, .unset, .unset, .unset, .unset, .unset, .unset, .unset, .unset, .unset, .unset, .unset, .unset, .unset, .unset, .unset] [])) t → Steps p.tables e below (s₁.setTop (entryFrame m #[(.int sh), (.int va), (.int vb), (.int vc), (.int vd), (.int ve)] maxLocals)) t := fun t hk => k188 t (by
    show Steps p.tables e below (s₁.setTop (mkF m 27 #[.val (.int sh), .val (.int va), .val (.int vb), .val (.int vc), .val (.int vd), .val (.int ve), .val (.int pt), .val (.int nn), .val (.int l0), .unset, .unset, .unset, .unset, .unset, .unset, .unset, .unset, .unset, .unset, .unset, .unset, .unset, .unset, .unset, .unset, .unset] [])) _
    refine XS.iloadN X0.here hx rfl (hb hby at_27) rfl ?_
    show Steps p.tables e below (s₁.setTop (mkF m 28 #[.val (.int sh), .val (.int va), .val (.int vb), .val (.int vc), .val (.int vd), .val (.int ve), .val (.int pt), .val (.int nn), .val (.int l0), .unset, .unset, .unset, .unset, .unset, .unset, .unset, .unset, .unset, .unset, .unset, .unset, .unset, .unset, .unset, .unset, .unset] [(.int vb)])) _
    refine X0.ldcInt hx hown (mvT hZ (hw _ (List.mem_of_getElem? (i := 0) rfl))) (g := (mkF m 28 #[.val (.int sh), .val (.int va), .val (.int vb), .val (.int vc), .val (.int vd), .val (.int ve), .val (.int pt), .val (.int nn), .val (.int l0), .unset, .unset, .unset, .unset, .unset, .unset, .unset, .unset, .unset, .unset, .unset, .unset, .unset, .unset, .unset, .unset, .unset] [(.int vb)])) rfl (hb hby at_28) _ ?_
    show Steps p.tables e below (s₁.setTop (mkF m 30 #[.val (.int sh), .val (.int va), .val (.int vb), .val (.int vc), .val (.int vd), .val (.int ve), .val (.int pt), .val (.int nn), .val (.int l0), .unset, .unset, .unset, .unset, .unset, .unset, .unset, .unset, .unset, .unset, .unset, .unset, .unset, .unset, .unset, .unset, .unset] [(.int (2147483647 : Int32)), (.int vb)])) _
    refine XS.iand X0.here hx rfl (hb hby at_30) rfl ?_
    show Steps p.tables e below (s₁.setTop (mkF m 31 #[.val (.int sh), .val (.int va), .val (.int vb), .val (.int vc), .val (.int vd), .val (.int ve), .val (.int pt), .val (.int nn), .val (.int l0), .unset, .unset, .unset, .unset, .unset, .unset, .unset, .unset, .unset, .unset, .unset, .unset, .unset, .unset, .unset, .unset, .unset] [(.int (vb &&& (2147483647 : Int32)))])) _
    refine XS.iload X0.here hx rfl (hb hby at_31) rfl ?_
    show Steps p.tables e below (s₁.setTop (mkF m 33 #[.val (.int sh), .val (.int va), .val (.int vb), .val (.int vc), .val (.int vd), .val (.int ve), .val (.int pt), .val (.int nn), .val (.int l0), .unset, .unset, .unset, .unset, .unset, .unset, .unset, .unset, .unset, .unset, .unset, .unset, .unset, .unset, .unset, .unset, .unset] [(.int pt), (.int (vb &&& (2147483647 : Int32)))])) _
    refine iremM X0 hx rfl (hb hby at_33) rfl hpz ?_
    show Steps p.tables e below (s₁.setTop (mkF m 34 #[.val (.int sh), .val (.int va), .val (.int vb), .val (.int vc), .val (.int vd), .val (.int ve), .val (.int pt), .val (.int nn), .val (.int l0), .unset, .unset, .unset, .unset, .unset, .unset, .unset, .unset, .unset, .unset, .unset, .unset, .unset, .unset, .unset, .unset, .unset] [(.int ((vb &&& (2147483647 : Int32)) % pt))])) _
    refine XS.istore X0.here hx rfl (hb hby at_34) rfl (l' := #[.val (.int sh), .val (.int va), .val (.int vb), .val (.int vc), .val (.int vd), .val (.int ve), .val (.int pt), .val (.int nn), .val (.int l0), .val (.int ((vb &&& (2147483647 : Int32)) % pt)), .unset, .unset, .unset, .unset, .unset, .unset, .unset, .unset, .unset, .unset, .unset, .unset, .unset, .unset, .unset, .unset]) rfl ?_
    exact hk)
  obtain ⟨l1, hl1, k190⟩ : ∃ (l1 : Int32), l1 = ((vb &&& (2147483647 : Int32)) % pt) ∧ ∀ t, Steps p.tables e below (s₁.setTop (mkF m 36 #[.val (.int sh), .val (.int va), .val (.int vb), .val (.int vc), .val (.int vd), .val (.int ve), .val (.int pt), .val (.int nn), .val (.int l0), .val (.int l1), .unset, .unset, .unset, .unset, .unset, .unset, .unset, .unset, .unset, .unset, .unset, .unset, .unset, .unset, .unset, .unset] [])) t → Steps p.tables e below (s₁.setTop (entryFrame m #[(.int sh), (.int va), (.int vb), (.int vc), (.int vd), (.int ve)] maxLocals)) t := ⟨((vb &&& (2147483647 : Int32)) % pt), rfl, k189⟩
  obtain ⟨m1, u1⟩ := own_label vb pt l1 hp0 hl1
  have k191 : ∀ t, Steps p.tables e below (s₁.setTop (mkF m 45 #[.val (.int sh), .val (.int va), .val (.int vb), .val (.int vc), .val (.int vd), .val (.int ve), .val (.int pt), .val (.int nn), .val (.int l0), .val (.int l1), .val (.int ((vc &&& (2147483647 : Int32)) % pt)), .unset, .unset, .unset, .unset, .unset, .unset, .unset, .unset, .unset, .unset, .unset, .unset, .unset, .unset, .unset] [])) t → Steps p.tables e below (s₁.setTop (entryFrame m #[(.int sh), (.int va), (.int vb), (.int vc), (.int vd), (.int ve)] maxLocals)) t := fun t hk => k190 t (by
    show Steps p.tables e below (s₁.setTop (mkF m 36 #[.val (.int sh), .val (.int va), .val (.int vb), .val (.int vc), .val (.int vd), .val (.int ve), .val (.int pt), .val (.int nn), .val (.int l0), .val (.int l1), .unset, .unset, .unset, .unset, .unset, .unset, .unset, .unset, .unset, .unset, .unset, .unset, .unset, .unset, .unset, .unset] [])) _
    refine XS.iloadN X0.here hx rfl (hb hby at_36) rfl ?_
    show Steps p.tables e below (s₁.setTop (mkF m 37 #[.val (.int sh), .val (.int va), .val (.int vb), .val (.int vc), .val (.int vd), .val (.int ve), .val (.int pt), .val (.int nn), .val (.int l0), .val (.int l1), .unset, .unset, .unset, .unset, .unset, .unset, .unset, .unset, .unset, .unset, .unset, .unset, .unset, .unset, .unset, .unset] [(.int vc)])) _
    refine X0.ldcInt hx hown (mvT hZ (hw _ (List.mem_of_getElem? (i := 0) rfl))) (g := (mkF m 37 #[.val (.int sh), .val (.int va), .val (.int vb), .val (.int vc), .val (.int vd), .val (.int ve), .val (.int pt), .val (.int nn), .val (.int l0), .val (.int l1), .unset, .unset, .unset, .unset, .unset, .unset, .unset, .unset, .unset, .unset, .unset, .unset, .unset, .unset, .unset, .unset] [(.int vc)])) rfl (hb hby at_37) _ ?_
    show Steps p.tables e below (s₁.setTop (mkF m 39 #[.val (.int sh), .val (.int va), .val (.int vb), .val (.int vc), .val (.int vd), .val (.int ve), .val (.int pt), .val (.int nn), .val (.int l0), .val (.int l1), .unset, .unset, .unset, .unset, .unset, .unset, .unset, .unset, .unset, .unset, .unset, .unset, .unset, .unset, .unset, .unset] [(.int (2147483647 : Int32)), (.int vc)])) _
    refine XS.iand X0.here hx rfl (hb hby at_39) rfl ?_
    show Steps p.tables e below (s₁.setTop (mkF m 40 #[.val (.int sh), .val (.int va), .val (.int vb), .val (.int vc), .val (.int vd), .val (.int ve), .val (.int pt), .val (.int nn), .val (.int l0), .val (.int l1), .unset, .unset, .unset, .unset, .unset, .unset, .unset, .unset, .unset, .unset, .unset, .unset, .unset, .unset, .unset, .unset] [(.int (vc &&& (2147483647 : Int32)))])) _
    refine XS.iload X0.here hx rfl (hb hby at_40) rfl ?_
    show Steps p.tables e below (s₁.setTop (mkF m 42 #[.val (.int sh), .val (.int va), .val (.int vb), .val (.int vc), .val (.int vd), .val (.int ve), .val (.int pt), .val (.int nn), .val (.int l0), .val (.int l1), .unset, .unset, .unset, .unset, .unset, .unset, .unset, .unset, .unset, .unset, .unset, .unset, .unset, .unset, .unset, .unset] [(.int pt), (.int (vc &&& (2147483647 : Int32)))])) _
    refine iremM X0 hx rfl (hb hby at_42) rfl hpz ?_
    show Steps p.tables e below (s₁.setTop (mkF m 43 #[.val (.int sh), .val (.int va), .val (.int vb), .val (.int vc), .val (.int vd), .val (.int ve), .val (.int pt), .val (.int nn), .val (.int l0), .val (.int l1), .unset, .unset, .unset, .unset, .unset, .unset, .unset, .unset, .unset, .unset, .unset, .unset, .unset, .unset, .unset, .unset] [(.int ((vc &&& (2147483647 : Int32)) % pt))])) _
    refine XS.istore X0.here hx rfl (hb hby at_43) rfl (l' := #[.val (.int sh), .val (.int va), .val (.int vb), .val (.int vc), .val (.int vd), .val (.int ve), .val (.int pt), .val (.int nn), .val (.int l0), .val (.int l1), .val (.int ((vc &&& (2147483647 : Int32)) % pt)), .unset, .unset, .unset, .unset, .unset, .unset, .unset, .unset, .unset, .unset, .unset, .unset, .unset, .unset, .unset]) rfl ?_
    exact hk)
  obtain ⟨l2, hl2, k192⟩ : ∃ (l2 : Int32), l2 = ((vc &&& (2147483647 : Int32)) % pt) ∧ ∀ t, Steps p.tables e below (s₁.setTop (mkF m 45 #[.val (.int sh), .val (.int va), .val (.int vb), .val (.int vc), .val (.int vd), .val (.int ve), .val (.int pt), .val (.int nn), .val (.int l0), .val (.int l1), .val (.int l2), .unset, .unset, .unset, .unset, .unset, .unset, .unset, .unset, .unset, .unset, .unset, .unset, .unset, .unset, .unset] [])) t → Steps p.tables e below (s₁.setTop (entryFrame m #[(.int sh), (.int va), (.int vb), (.int vc), (.int vd), (.int ve)] maxLocals)) t := ⟨((vc &&& (2147483647 : Int32)) % pt), rfl, k191⟩
  obtain ⟨m2, u2⟩ := own_label vc pt l2 hp0 hl2
  have k193 : ∀ t, Steps p.tables e below (s₁.setTop (mkF m 55 #[.val (.int sh), .val (.int va), .val (.int vb), .val (.int vc), .val (.int vd), .val (.int ve), .val (.int pt), .val (.int nn), .val (.int l0), .val (.int l1), .val (.int l2), .val (.int ((vd &&& (2147483647 : Int32)) % pt)), .unset, .unset, .unset, .unset, .unset, .unset, .unset, .unset, .unset, .unset, .unset, .unset, .unset, .unset] [])) t → Steps p.tables e below (s₁.setTop (entryFrame m #[(.int sh), (.int va), (.int vb), (.int vc), (.int vd), (.int ve)] maxLocals)) t := fun t hk => k192 t (by
    show Steps p.tables e below (s₁.setTop (mkF m 45 #[.val (.int sh), .val (.int va), .val (.int vb), .val (.int vc), .val (.int vd), .val (.int ve), .val (.int pt), .val (.int nn), .val (.int l0), .val (.int l1), .val (.int l2), .unset, .unset, .unset, .unset, .unset, .unset, .unset, .unset, .unset, .unset, .unset, .unset, .unset, .unset, .unset] [])) _
    refine XS.iload X0.here hx rfl (hb hby at_45) rfl ?_
    show Steps p.tables e below (s₁.setTop (mkF m 47 #[.val (.int sh), .val (.int va), .val (.int vb), .val (.int vc), .val (.int vd), .val (.int ve), .val (.int pt), .val (.int nn), .val (.int l0), .val (.int l1), .val (.int l2), .unset, .unset, .unset, .unset, .unset, .unset, .unset, .unset, .unset, .unset, .unset, .unset, .unset, .unset, .unset] [(.int vd)])) _
    refine X0.ldcInt hx hown (mvT hZ (hw _ (List.mem_of_getElem? (i := 0) rfl))) (g := (mkF m 47 #[.val (.int sh), .val (.int va), .val (.int vb), .val (.int vc), .val (.int vd), .val (.int ve), .val (.int pt), .val (.int nn), .val (.int l0), .val (.int l1), .val (.int l2), .unset, .unset, .unset, .unset, .unset, .unset, .unset, .unset, .unset, .unset, .unset, .unset, .unset, .unset, .unset] [(.int vd)])) rfl (hb hby at_47) _ ?_
    show Steps p.tables e below (s₁.setTop (mkF m 49 #[.val (.int sh), .val (.int va), .val (.int vb), .val (.int vc), .val (.int vd), .val (.int ve), .val (.int pt), .val (.int nn), .val (.int l0), .val (.int l1), .val (.int l2), .unset, .unset, .unset, .unset, .unset, .unset, .unset, .unset, .unset, .unset, .unset, .unset, .unset, .unset, .unset] [(.int (2147483647 : Int32)), (.int vd)])) _
    refine XS.iand X0.here hx rfl (hb hby at_49) rfl ?_
    show Steps p.tables e below (s₁.setTop (mkF m 50 #[.val (.int sh), .val (.int va), .val (.int vb), .val (.int vc), .val (.int vd), .val (.int ve), .val (.int pt), .val (.int nn), .val (.int l0), .val (.int l1), .val (.int l2), .unset, .unset, .unset, .unset, .unset, .unset, .unset, .unset, .unset, .unset, .unset, .unset, .unset, .unset, .unset] [(.int (vd &&& (2147483647 : Int32)))])) _
    refine XS.iload X0.here hx rfl (hb hby at_50) rfl ?_
    show Steps p.tables e below (s₁.setTop (mkF m 52 #[.val (.int sh), .val (.int va), .val (.int vb), .val (.int vc), .val (.int vd), .val (.int ve), .val (.int pt), .val (.int nn), .val (.int l0), .val (.int l1), .val (.int l2), .unset, .unset, .unset, .unset, .unset, .unset, .unset, .unset, .unset, .unset, .unset, .unset, .unset, .unset, .unset] [(.int pt), (.int (vd &&& (2147483647 : Int32)))])) _
    refine iremM X0 hx rfl (hb hby at_52) rfl hpz ?_
    show Steps p.tables e below (s₁.setTop (mkF m 53 #[.val (.int sh), .val (.int va), .val (.int vb), .val (.int vc), .val (.int vd), .val (.int ve), .val (.int pt), .val (.int nn), .val (.int l0), .val (.int l1), .val (.int l2), .unset, .unset, .unset, .unset, .unset, .unset, .unset, .unset, .unset, .unset, .unset, .unset, .unset, .unset, .unset] [(.int ((vd &&& (2147483647 : Int32)) % pt))])) _
    refine XS.istore X0.here hx rfl (hb hby at_53) rfl (l' := #[.val (.int sh), .val (.int va), .val (.int vb), .val (.int vc), .val (.int vd), .val (.int ve), .val (.int pt), .val (.int nn), .val (.int l0), .val (.int l1), .val (.int l2), .val (.int ((vd &&& (2147483647 : Int32)) % pt)), .unset, .unset, .unset, .unset, .unset, .unset, .unset, .unset, .unset, .unset, .unset, .unset, .unset, .unset]) rfl ?_
    exact hk)
  obtain ⟨l3, hl3, k194⟩ : ∃ (l3 : Int32), l3 = ((vd &&& (2147483647 : Int32)) % pt) ∧ ∀ t, Steps p.tables e below (s₁.setTop (mkF m 55 #[.val (.int sh), .val (.int va), .val (.int vb), .val (.int vc), .val (.int vd), .val (.int ve), .val (.int pt), .val (.int nn), .val (.int l0), .val (.int l1), .val (.int l2), .val (.int l3), .unset, .unset, .unset, .unset, .unset, .unset, .unset, .unset, .unset, .unset, .unset, .unset, .unset, .unset] [])) t → Steps p.tables e below (s₁.setTop (entryFrame m #[(.int sh), (.int va), (.int vb), (.int vc), (.int vd), (.int ve)] maxLocals)) t := ⟨((vd &&& (2147483647 : Int32)) % pt), rfl, k193⟩
  obtain ⟨m3, u3⟩ := own_label vd pt l3 hp0 hl3
  have k195 : ∀ t, Steps p.tables e below (s₁.setTop (mkF m 65 #[.val (.int sh), .val (.int va), .val (.int vb), .val (.int vc), .val (.int vd), .val (.int ve), .val (.int pt), .val (.int nn), .val (.int l0), .val (.int l1), .val (.int l2), .val (.int l3), .val (.int ((ve &&& (2147483647 : Int32)) % pt)), .unset, .unset, .unset, .unset, .unset, .unset, .unset, .unset, .unset, .unset, .unset, .unset, .unset] [])) t → Steps p.tables e below (s₁.setTop (entryFrame m #[(.int sh), (.int va), (.int vb), (.int vc), (.int vd), (.int ve)] maxLocals)) t := fun t hk => k194 t (by
    show Steps p.tables e below (s₁.setTop (mkF m 55 #[.val (.int sh), .val (.int va), .val (.int vb), .val (.int vc), .val (.int vd), .val (.int ve), .val (.int pt), .val (.int nn), .val (.int l0), .val (.int l1), .val (.int l2), .val (.int l3), .unset, .unset, .unset, .unset, .unset, .unset, .unset, .unset, .unset, .unset, .unset, .unset, .unset, .unset] [])) _
    refine XS.iload X0.here hx rfl (hb hby at_55) rfl ?_
    show Steps p.tables e below (s₁.setTop (mkF m 57 #[.val (.int sh), .val (.int va), .val (.int vb), .val (.int vc), .val (.int vd), .val (.int ve), .val (.int pt), .val (.int nn), .val (.int l0), .val (.int l1), .val (.int l2), .val (.int l3), .unset, .unset, .unset, .unset, .unset, .unset, .unset, .unset, .unset, .unset, .unset, .unset, .unset, .unset] [(.int ve)])) _
    refine X0.ldcInt hx hown (mvT hZ (hw _ (List.mem_of_getElem? (i := 0) rfl))) (g := (mkF m 57 #[.val (.int sh), .val (.int va), .val (.int vb), .val (.int vc), .val (.int vd), .val (.int ve), .val (.int pt), .val (.int nn), .val (.int l0), .val (.int l1), .val (.int l2), .val (.int l3), .unset, .unset, .unset, .unset, .unset, .unset, .unset, .unset, .unset, .unset, .unset, .unset, .unset, .unset] [(.int ve)])) rfl (hb hby at_57) _ ?_
    show Steps p.tables e below (s₁.setTop (mkF m 59 #[.val (.int sh), .val (.int va), .val (.int vb), .val (.int vc), .val (.int vd), .val (.int ve), .val (.int pt), .val (.int nn), .val (.int l0), .val (.int l1), .val (.int l2), .val (.int l3), .unset, .unset, .unset, .unset, .unset, .unset, .unset, .unset, .unset, .unset, .unset, .unset, .unset, .unset] [(.int (2147483647 : Int32)), (.int ve)])) _
    refine XS.iand X0.here hx rfl (hb hby at_59) rfl ?_
    show Steps p.tables e below (s₁.setTop (mkF m 60 #[.val (.int sh), .val (.int va), .val (.int vb), .val (.int vc), .val (.int vd), .val (.int ve), .val (.int pt), .val (.int nn), .val (.int l0), .val (.int l1), .val (.int l2), .val (.int l3), .unset, .unset, .unset, .unset, .unset, .unset, .unset, .unset, .unset, .unset, .unset, .unset, .unset, .unset] [(.int (ve &&& (2147483647 : Int32)))])) _
    refine XS.iload X0.here hx rfl (hb hby at_60) rfl ?_
    show Steps p.tables e below (s₁.setTop (mkF m 62 #[.val (.int sh), .val (.int va), .val (.int vb), .val (.int vc), .val (.int vd), .val (.int ve), .val (.int pt), .val (.int nn), .val (.int l0), .val (.int l1), .val (.int l2), .val (.int l3), .unset, .unset, .unset, .unset, .unset, .unset, .unset, .unset, .unset, .unset, .unset, .unset, .unset, .unset] [(.int pt), (.int (ve &&& (2147483647 : Int32)))])) _
    refine iremM X0 hx rfl (hb hby at_62) rfl hpz ?_
    show Steps p.tables e below (s₁.setTop (mkF m 63 #[.val (.int sh), .val (.int va), .val (.int vb), .val (.int vc), .val (.int vd), .val (.int ve), .val (.int pt), .val (.int nn), .val (.int l0), .val (.int l1), .val (.int l2), .val (.int l3), .unset, .unset, .unset, .unset, .unset, .unset, .unset, .unset, .unset, .unset, .unset, .unset, .unset, .unset] [(.int ((ve &&& (2147483647 : Int32)) % pt))])) _
    refine XS.istore X0.here hx rfl (hb hby at_63) rfl (l' := #[.val (.int sh), .val (.int va), .val (.int vb), .val (.int vc), .val (.int vd), .val (.int ve), .val (.int pt), .val (.int nn), .val (.int l0), .val (.int l1), .val (.int l2), .val (.int l3), .val (.int ((ve &&& (2147483647 : Int32)) % pt)), .unset, .unset, .unset, .unset, .unset, .unset, .unset, .unset, .unset, .unset, .unset, .unset, .unset]) rfl ?_
    exact hk)
  obtain ⟨l4, hl4, k196⟩ : ∃ (l4 : Int32), l4 = ((ve &&& (2147483647 : Int32)) % pt) ∧ ∀ t, Steps p.tables e below (s₁.setTop (mkF m 65 #[.val (.int sh), .val (.int va), .val (.int vb), .val (.int vc), .val (.int vd), .val (.int ve), .val (.int pt), .val (.int nn), .val (.int l0), .val (.int l1), .val (.int l2), .val (.int l3), .val (.int l4), .unset, .unset, .unset, .unset, .unset, .unset, .unset, .unset, .unset, .unset, .unset, .unset, .unset] [])) t → Steps p.tables e below (s₁.setTop (entryFrame m #[(.int sh), (.int va), (.int vb), (.int vc), (.int vd), (.int ve)] maxLocals)) t := ⟨((ve &&& (2147483647 : Int32)) % pt), rfl, k195⟩
  obtain ⟨m4, u4⟩ := own_label ve pt l4 hp0 hl4
  obtain ⟨_, _, ⟨T197, L197, k197, n197⟩, -, X197, ⟨Lc197, hQ197, l197, y197, z197⟩, st197⟩ := Jvm.LawKit.callS X0 hx (y := (⟨"com/example/faultline/faultline/split/CutNumbersPinLaw", "take", "(IIIIII)[I"⟩ : MethodName)) hown (mvT hZ (hw _ (List.mem_of_getElem? (i := 1) rfl))) (mvT hZ (hw _ (List.mem_of_getElem? (i := 2) rfl))) (mvT hZ (hw _ (List.mem_of_getElem? (i := 3) rfl))) (mvT hZ (hw _ (List.mem_of_getElem? (i := 4) rfl))) (by decide) (backOf (W := 0) (rm1 l Z a0 hw [] nn l0 l1 l2 l3 l4  h0 n0 Z0 hn0 hn5) hZ (hw _ (List.mem_of_getElem? (i := 4) rfl)) (hw _ (List.mem_of_getElem? (i := 3) rfl)) (by decide) (by decide)) (g := (mkF m 77 #[.val (.int sh), .val (.int va), .val (.int vb), .val (.int vc), .val (.int vd), .val (.int ve), .val (.int pt), .val (.int nn), .val (.int l0), .val (.int l1), .val (.int l2), .val (.int l3), .val (.int l4), .unset, .unset, .unset, .unset, .unset, .unset, .unset, .unset, .unset, .unset, .unset, .unset, .unset] [(.int l4), (.int l3), (.int l2), (.int l1), (.int l0), (.int nn)])) rfl (by rw [hml]; rfl) (argsL := [(.int nn), (.int l0), (.int l1), (.int l2), (.int l3), (.int l4)]) (rest := []) (lenOf pd_1 rfl) rfl (by show 2 * 0 + _ ≤ _; exact Nat.le_of_eq rfl) (hb hby at_77) (fun _ _ => ⟨rfl, e0, (by decide : 0 + 1 ≤ _), (by decide : 0 + 5 ≤ _)⟩)
  dsimp only [Pt.U, Pt.locs, Pt.cells, Pt.slots] at X197 l197 y197 z197 st197 hQ197
  subst l197 y197 z197
  obtain ⟨ba, rfl, sa, N197q, K197, VA⟩ := hQ197
  have N197 := Fr.app N0 N197q
  have Z198 : n0 ≤ T197.heap.size := Nat.le_trans Z0 K197.1
  have ga : n0 ≤ ba := Nat.le_trans Z0 sa
  have hfl : ∀ j, j < nn.toInt.toNat → 0 ≤ (own_lab l0 l1 l2 l3 l4 j).toInt ∧ (own_lab l0 l1 l2 l3 l4 j).toInt < pt.toInt := fun j _ => by
      match j with
      | 0 => exact ⟨m0, u0⟩
      | 1 => exact ⟨m1, u1⟩
      | 2 => exact ⟨m2, u2⟩
      | 3 => exact ⟨m3, u3⟩
      | (j + 4) => exact ⟨m4, u4⟩
  obtain ⟨_, _, ⟨T199, L199, k199, n199⟩, -, X199, ⟨Lc199, hQ199, l199, y199, z199⟩, st199⟩ := Jvm.LawKit.callS X197 hx (y := (⟨"com/example/faultline/faultline/split/Cut", "numbers", "([II)[I"⟩ : MethodName)) hown (mvT hZ (hw _ (List.mem_of_getElem? (i := 6) rfl))) (mvT hZ (hw _ (List.mem_of_getElem? (i := 7) rfl))) (mvT hZ (hw _ (List.mem_of_getElem? (i := 8) rfl))) (mvT hZ (hw _ (List.mem_of_getElem? (i := 9) rfl))) (by decide) (backOf (W := 0) (rm2 l Z a0 hw [] ba pt (own_lab l0 l1 l2 l3 l4) nn.toInt.toNat T197.heap n0 Z198 VA (by omega) hp0 hp4 hfl) hZ (hw _ (List.mem_of_getElem? (i := 9) rfl)) (hw _ (List.mem_of_getElem? (i := 8) rfl)) (by decide) (by decide)) (g := (mkF m 86 #[.val (.int sh), .val (.int va), .val (.int vb), .val (.int vc), .val (.int vd), .val (.int ve), .val (.int pt), .val (.int nn), .val (.int l0), .val (.int l1), .val (.int l2), .val (.int l3), .val (.int l4), .val (.ref ba), .unset, .unset, .unset, .unset, .unset, .unset, .unset, .unset, .unset, .unset, .unset, .unset] [(.int pt), (.ref ba)])) rfl (by rw [hml]; rfl) (argsL := [(.ref ba), (.int pt)]) (rest := []) (lenOf pd_2 rfl) rfl (by show 2 * 0 + _ ≤ _; exact Nat.le_of_eq rfl) (hb hby at_86) (fun _ _ => ⟨rfl, rfl, (by decide : 1 + 1 ≤ _), (by decide : 5 + 4 ≤ _)⟩)
  dsimp only [Pt.U, Pt.locs, Pt.cells, Pt.slots] at X199 l199 y199 z199 st199 hQ199
  subst l199 y199 z199
  obtain ⟨bg, rfl, sg, N199q, K199, VG⟩ := hQ199
  have N199 := Fr.app N197 N199q
  have A200 := VA.keep K199 nin0
  have Z201 : n0 ≤ T199.heap.size := Nat.le_trans Z198 K199.1
  have gg : n0 ≤ bg := Nat.le_trans (Nat.le_trans Z0 K197.1) sg
  have hpb : Int32.ofNat pt.toInt.toNat = pt := own_back (by omega)
  have k202 : ∀ t, Steps p.tables e below (T199.setTop (mkF m 93 #[.val (.int sh), .val (.int va), .val (.int vb), .val (.int vc), .val (.int vd), .val (.int ve), .val (.int pt), .val (.int nn), .val (.int l0), .val (.int l1), .val (.int l2), .val (.int l3), .val (.int l4), .val (.ref ba), .val (.ref bg), .unset, .unset, .unset, .unset, .unset, .unset, .unset, .unset, .unset, .unset, .unset] [(.int nn)])) t → Steps p.tables e below (s₁.setTop (entryFrame m #[(.int sh), (.int va), (.int vb), (.int vc), (.int vd), (.int ve)] maxLocals)) t := fun t hk => k196 t (by
    show Steps p.tables e below (s₁.setTop (mkF m 65 #[.val (.int sh), .val (.int va), .val (.int vb), .val (.int vc), .val (.int vd), .val (.int ve), .val (.int pt), .val (.int nn), .val (.int l0), .val (.int l1), .val (.int l2), .val (.int l3), .val (.int l4), .unset, .unset, .unset, .unset, .unset, .unset, .unset, .unset, .unset, .unset, .unset, .unset, .unset] [])) _
    refine XS.iload X0.here hx rfl (hb hby at_65) rfl ?_
    show Steps p.tables e below (s₁.setTop (mkF m 67 #[.val (.int sh), .val (.int va), .val (.int vb), .val (.int vc), .val (.int vd), .val (.int ve), .val (.int pt), .val (.int nn), .val (.int l0), .val (.int l1), .val (.int l2), .val (.int l3), .val (.int l4), .unset, .unset, .unset, .unset, .unset, .unset, .unset, .unset, .unset, .unset, .unset, .unset, .unset] [(.int nn)])) _
    refine XS.iload X0.here hx rfl (hb hby at_67) rfl ?_
    show Steps p.tables e below (s₁.setTop (mkF m 69 #[.val (.int sh), .val (.int va), .val (.int vb), .val (.int vc), .val (.int vd), .val (.int ve), .val (.int pt), .val (.int nn), .val (.int l0), .val (.int l1), .val (.int l2), .val (.int l3), .val (.int l4), .unset, .unset, .unset, .unset, .unset, .unset, .unset, .unset, .unset, .unset, .unset, .unset, .unset] [(.int l0), (.int nn)])) _
    refine XS.iload X0.here hx rfl (hb hby at_69) rfl ?_
    show Steps p.tables e below (s₁.setTop (mkF m 71 #[.val (.int sh), .val (.int va), .val (.int vb), .val (.int vc), .val (.int vd), .val (.int ve), .val (.int pt), .val (.int nn), .val (.int l0), .val (.int l1), .val (.int l2), .val (.int l3), .val (.int l4), .unset, .unset, .unset, .unset, .unset, .unset, .unset, .unset, .unset, .unset, .unset, .unset, .unset] [(.int l1), (.int l0), (.int nn)])) _
    refine XS.iload X0.here hx rfl (hb hby at_71) rfl ?_
    show Steps p.tables e below (s₁.setTop (mkF m 73 #[.val (.int sh), .val (.int va), .val (.int vb), .val (.int vc), .val (.int vd), .val (.int ve), .val (.int pt), .val (.int nn), .val (.int l0), .val (.int l1), .val (.int l2), .val (.int l3), .val (.int l4), .unset, .unset, .unset, .unset, .unset, .unset, .unset, .unset, .unset, .unset, .unset, .unset, .unset] [(.int l2), (.int l1), (.int l0), (.int nn)])) _
    refine XS.iload X0.here hx rfl (hb hby at_73) rfl ?_
    show Steps p.tables e below (s₁.setTop (mkF m 75 #[.val (.int sh), .val (.int va), .val (.int vb), .val (.int vc), .val (.int vd), .val (.int ve), .val (.int pt), .val (.int nn), .val (.int l0), .val (.int l1), .val (.int l2), .val (.int l3), .val (.int l4), .unset, .unset, .unset, .unset, .unset, .unset, .unset, .unset, .unset, .unset, .unset, .unset, .unset] [(.int l3), (.int l2), (.int l1), (.int l0), (.int nn)])) _
    refine XS.iload X0.here hx rfl (hb hby at_75) rfl ?_
    show Steps p.tables e below (s₁.setTop (mkF m 77 #[.val (.int sh), .val (.int va), .val (.int vb), .val (.int vc), .val (.int vd), .val (.int ve), .val (.int pt), .val (.int nn), .val (.int l0), .val (.int l1), .val (.int l2), .val (.int l3), .val (.int l4), .unset, .unset, .unset, .unset, .unset, .unset, .unset, .unset, .unset, .unset, .unset, .unset, .unset] [(.int l4), (.int l3), (.int l2), (.int l1), (.int l0), (.int nn)])) _
    refine st197 _ ?_
    show Steps p.tables e below (T197.setTop (mkF m 80 #[.val (.int sh), .val (.int va), .val (.int vb), .val (.int vc), .val (.int vd), .val (.int ve), .val (.int pt), .val (.int nn), .val (.int l0), .val (.int l1), .val (.int l2), .val (.int l3), .val (.int l4), .unset, .unset, .unset, .unset, .unset, .unset, .unset, .unset, .unset, .unset, .unset, .unset, .unset] [(.ref ba)])) _
    refine XS.astore X197.here hx rfl (hb hby at_80) rfl rfl (l' := #[.val (.int sh), .val (.int va), .val (.int vb), .val (.int vc), .val (.int vd), .val (.int ve), .val (.int pt), .val (.int nn), .val (.int l0), .val (.int l1), .val (.int l2), .val (.int l3), .val (.int l4), .val (.ref ba), .unset, .unset, .unset, .unset, .unset, .unset, .unset, .unset, .unset, .unset, .unset, .unset]) rfl ?_
    show Steps p.tables e below (T197.setTop (mkF m 82 #[.val (.int sh), .val (.int va), .val (.int vb), .val (.int vc), .val (.int vd), .val (.int ve), .val (.int pt), .val (.int nn), .val (.int l0), .val (.int l1), .val (.int l2), .val (.int l3), .val (.int l4), .val (.ref ba), .unset, .unset, .unset, .unset, .unset, .unset, .unset, .unset, .unset, .unset, .unset, .unset] [])) _
    refine XS.aload X197.here hx rfl (hb hby at_82) rfl rfl ?_
    show Steps p.tables e below (T197.setTop (mkF m 84 #[.val (.int sh), .val (.int va), .val (.int vb), .val (.int vc), .val (.int vd), .val (.int ve), .val (.int pt), .val (.int nn), .val (.int l0), .val (.int l1), .val (.int l2), .val (.int l3), .val (.int l4), .val (.ref ba), .unset, .unset, .unset, .unset, .unset, .unset, .unset, .unset, .unset, .unset, .unset, .unset] [(.ref ba)])) _
    refine XS.iload X197.here hx rfl (hb hby at_84) rfl ?_
    show Steps p.tables e below (T197.setTop (mkF m 86 #[.val (.int sh), .val (.int va), .val (.int vb), .val (.int vc), .val (.int vd), .val (.int ve), .val (.int pt), .val (.int nn), .val (.int l0), .val (.int l1), .val (.int l2), .val (.int l3), .val (.int l4), .val (.ref ba), .unset, .unset, .unset, .unset, .unset, .unset, .unset, .unset, .unset, .unset, .unset, .unset] [(.int pt), (.ref ba)])) _
    refine st199 _ ?_
    show Steps p.tables e below (T199.setTop (mkF m 89 #[.val (.int sh), .val (.int va), .val (.int vb), .val (.int vc), .val (.int vd), .val (.int ve), .val (.int pt), .val (.int nn), .val (.int l0), .val (.int l1), .val (.int l2), .val (.int l3), .val (.int l4), .val (.ref ba), .unset, .unset, .unset, .unset, .unset, .unset, .unset, .unset, .unset, .unset, .unset, .unset] [(.ref bg)])) _
    refine XS.astore X199.here hx rfl (hb hby at_89) rfl rfl (l' := #[.val (.int sh), .val (.int va), .val (.int vb), .val (.int vc), .val (.int vd), .val (.int ve), .val (.int pt), .val (.int nn), .val (.int l0), .val (.int l1), .val (.int l2), .val (.int l3), .val (.int l4), .val (.ref ba), .val (.ref bg), .unset, .unset, .unset, .unset, .unset, .unset, .unset, .unset, .unset, .unset, .unset]) rfl ?_
    show Steps p.tables e below (T199.setTop (mkF m 91 #[.val (.int sh), .val (.int va), .val (.int vb), .val (.int vc), .val (.int vd), .val (.int ve), .val (.int pt), .val (.int nn), .val (.int l0), .val (.int l1), .val (.int l2), .val (.int l3), .val (.int l4), .val (.ref ba), .val (.ref bg), .unset, .unset, .unset, .unset, .unset, .unset, .unset, .unset, .unset, .unset, .unset] [])) _
    refine XS.iload X199.here hx rfl (hb hby at_91) rfl ?_
    exact hk)
  obtain ⟨f0, hf0, k203⟩ : ∃ (f0 : Int32), (f0 = (if (0 : Int32) < nn then (1 : Int32) else (0 : Int32))) ∧ ∀ t, Steps p.tables e below (T199.setTop (mkF m 101 #[.val (.int sh), .val (.int va), .val (.int vb), .val (.int vc), .val (.int vd), .val (.int ve), .val (.int pt), .val (.int nn), .val (.int l0), .val (.int l1), .val (.int l2), .val (.int l3), .val (.int l4), .val (.ref ba), .val (.ref bg), .unset, .unset, .unset, .unset, .unset, .unset, .unset, .unset, .unset, .unset, .unset] [(.int f0)])) t → Steps p.tables e below (s₁.setTop (entryFrame m #[(.int sh), (.int va), (.int vb), (.int vc), (.int vd), (.int ve)] maxLocals)) t := by
    by_cases hc93 : (0 : Int32) < nn
    ·
      refine ⟨(1 : Int32), ((if_pos hc93).trans rfl).symm, fun t hk => k202 t ?_⟩
      show Steps p.tables e below (T199.setTop (mkF m 93 #[.val (.int sh), .val (.int va), .val (.int vb), .val (.int vc), .val (.int vd), .val (.int ve), .val (.int pt), .val (.int nn), .val (.int l0), .val (.int l1), .val (.int l2), .val (.int l3), .val (.int l4), .val (.ref ba), .val (.ref bg), .unset, .unset, .unset, .unset, .unset, .unset, .unset, .unset, .unset, .unset, .unset] [(.int nn)])) _
      refine XS.ifNo X199.here hx rfl (hb hby at_93) rfl ((if0 _ _).trans (tlt hc93).2.2.2) ?_
      show Steps p.tables e below (T199.setTop (mkF m 96 #[.val (.int sh), .val (.int va), .val (.int vb), .val (.int vc), .val (.int vd), .val (.int ve), .val (.int pt), .val (.int nn), .val (.int l0), .val (.int l1), .val (.int l2), .val (.int l3), .val (.int l4), .val (.ref ba), .val (.ref bg), .unset, .unset, .unset, .unset, .unset, .unset, .unset, .unset, .unset, .unset, .unset] [])) _
      refine XS.iconst X199.here hx rfl (hb hby at_96) ?_
      show Steps p.tables e below (T199.setTop (mkF m 97 #[.val (.int sh), .val (.int va), .val (.int vb), .val (.int vc), .val (.int vd), .val (.int ve), .val (.int pt), .val (.int nn), .val (.int l0), .val (.int l1), .val (.int l2), .val (.int l3), .val (.int l4), .val (.ref ba), .val (.ref bg), .unset, .unset, .unset, .unset, .unset, .unset, .unset, .unset, .unset, .unset, .unset] [(.int (1 : Int32))])) _
      refine XS.goto X199.here hx rfl (pc0 := 97) (pc' := 101) rfl (hb hby at_97) (by decide) (by decide) ?_
      exact hk
    ·
      refine ⟨(0 : Int32), ((if_neg hc93).trans rfl).symm, fun t hk => k202 t ?_⟩
      show Steps p.tables e below (T199.setTop (mkF m 93 #[.val (.int sh), .val (.int va), .val (.int vb), .val (.int vc), .val (.int vd), .val (.int ve), .val (.int pt), .val (.int nn), .val (.int l0), .val (.int l1), .val (.int l2), .val (.int l3), .val (.int l4), .val (.ref ba), .val (.ref bg), .unset, .unset, .unset, .unset, .unset, .unset, .unset, .unset, .unset, .unset, .unset] [(.int nn)])) _
      refine XS.ifYes X199.here hx rfl (pc0 := 93) (pc' := 100) rfl (hb hby at_93) rfl ((if0 _ _).trans (flt hc93).2.2.2) (by decide) (by decide) ?_
      show Steps p.tables e below (T199.setTop (mkF m 100 #[.val (.int sh), .val (.int va), .val (.int vb), .val (.int vc), .val (.int vd), .val (.int ve), .val (.int pt), .val (.int nn), .val (.int l0), .val (.int l1), .val (.int l2), .val (.int l3), .val (.int l4), .val (.ref ba), .val (.ref bg), .unset, .unset, .unset, .unset, .unset, .unset, .unset, .unset, .unset, .unset, .unset] [])) _
      refine XS.iconst X199.here hx rfl (hb hby at_100) ?_
      exact hk
  have k204 : ∀ t, Steps p.tables e below (T199.setTop (mkF m 106 #[.val (.int sh), .val (.int va), .val (.int vb), .val (.int vc), .val (.int vd), .val (.int ve), .val (.int pt), .val (.int nn), .val (.int l0), .val (.int l1), .val (.int l2), .val (.int l3), .val (.int l4), .val (.ref ba), .val (.ref bg), .val (.int f0), .unset, .unset, .unset, .unset, .unset, .unset, .unset, .unset, .unset, .unset] [(.int (1 : Int32)), (.int nn)])) t → Steps p.tables e below (s₁.setTop (entryFrame m #[(.int sh), (.int va), (.int vb), (.int vc), (.int vd), (.int ve)] maxLocals)) t := fun t hk => k203 t (by
    show Steps p.tables e below (T199.setTop (mkF m 101 #[.val (.int sh), .val (.int va), .val (.int vb), .val (.int vc), .val (.int vd), .val (.int ve), .val (.int pt), .val (.int nn), .val (.int l0), .val (.int l1), .val (.int l2), .val (.int l3), .val (.int l4), .val (.ref ba), .val (.ref bg), .unset, .unset, .unset, .unset, .unset, .unset, .unset, .unset, .unset, .unset, .unset] [(.int f0)])) _
    refine XS.istore X199.here hx rfl (hb hby at_101) rfl (l' := #[.val (.int sh), .val (.int va), .val (.int vb), .val (.int vc), .val (.int vd), .val (.int ve), .val (.int pt), .val (.int nn), .val (.int l0), .val (.int l1), .val (.int l2), .val (.int l3), .val (.int l4), .val (.ref ba), .val (.ref bg), .val (.int f0), .unset, .unset, .unset, .unset, .unset, .unset, .unset, .unset, .unset, .unset]) rfl ?_
    show Steps p.tables e below (T199.setTop (mkF m 103 #[.val (.int sh), .val (.int va), .val (.int vb), .val (.int vc), .val (.int vd), .val (.int ve), .val (.int pt), .val (.int nn), .val (.int l0), .val (.int l1), .val (.int l2), .val (.int l3), .val (.int l4), .val (.ref ba), .val (.ref bg), .val (.int f0), .unset, .unset, .unset, .unset, .unset, .unset, .unset, .unset, .unset, .unset] [])) _
    refine XS.iload X199.here hx rfl (hb hby at_103) rfl ?_
    show Steps p.tables e below (T199.setTop (mkF m 105 #[.val (.int sh), .val (.int va), .val (.int vb), .val (.int vc), .val (.int vd), .val (.int ve), .val (.int pt), .val (.int nn), .val (.int l0), .val (.int l1), .val (.int l2), .val (.int l3), .val (.int l4), .val (.ref ba), .val (.ref bg), .val (.int f0), .unset, .unset, .unset, .unset, .unset, .unset, .unset, .unset, .unset, .unset] [(.int nn)])) _
    refine XS.iconst X199.here hx rfl (hb hby at_105) ?_
    exact hk)
  obtain ⟨f1, hf1, k205⟩ : ∃ (f1 : Int32), (f1 = (if (1 : Int32) < nn then (if l1 = l0 then (0 : Int32) else (1 : Int32)) else (0 : Int32))) ∧ ∀ t, Steps p.tables e below (T199.setTop (mkF m 121 #[.val (.int sh), .val (.int va), .val (.int vb), .val (.int vc), .val (.int vd), .val (.int ve), .val (.int pt), .val (.int nn), .val (.int l0), .val (.int l1), .val (.int l2), .val (.int l3), .val (.int l4), .val (.ref ba), .val (.ref bg), .val (.int f0), .unset, .unset, .unset, .unset, .unset, .unset, .unset, .unset, .unset, .unset] [(.int f1)])) t → Steps p.tables e below (s₁.setTop (entryFrame m #[(.int sh), (.int va), (.int vb), (.int vc), (.int vd), (.int ve)] maxLocals)) t := by
    by_cases hc106 : (1 : Int32) < nn
    ·
      by_cases hc113 : l1 = l0
      ·
        refine ⟨(0 : Int32), ((if_pos hc106).trans ((if_pos hc113).trans rfl)).symm, fun t hk => k204 t ?_⟩
        show Steps p.tables e below (T199.setTop (mkF m 106 #[.val (.int sh), .val (.int va), .val (.int vb), .val (.int vc), .val (.int vd), .val (.int ve), .val (.int pt), .val (.int nn), .val (.int l0), .val (.int l1), .val (.int l2), .val (.int l3), .val (.int l4), .val (.ref ba), .val (.ref bg), .val (.int f0), .unset, .unset, .unset, .unset, .unset, .unset, .unset, .unset, .unset, .unset] [(.int (1 : Int32)), (.int nn)])) _
        refine XS.icmpNo X199.here hx rfl (hb hby at_106) rfl (tlt hc106).2.2.2 ?_
        show Steps p.tables e below (T199.setTop (mkF m 109 #[.val (.int sh), .val (.int va), .val (.int vb), .val (.int vc), .val (.int vd), .val (.int ve), .val (.int pt), .val (.int nn), .val (.int l0), .val (.int l1), .val (.int l2), .val (.int l3), .val (.int l4), .val (.ref ba), .val (.ref bg), .val (.int f0), .unset, .unset, .unset, .unset, .unset, .unset, .unset, .unset, .unset, .unset] [])) _
        refine XS.iload X199.here hx rfl (hb hby at_109) rfl ?_
        show Steps p.tables e below (T199.setTop (mkF m 111 #[.val (.int sh), .val (.int va), .val (.int vb), .val (.int vc), .val (.int vd), .val (.int ve), .val (.int pt), .val (.int nn), .val (.int l0), .val (.int l1), .val (.int l2), .val (.int l3), .val (.int l4), .val (.ref ba), .val (.ref bg), .val (.int f0), .unset, .unset, .unset, .unset, .unset, .unset, .unset, .unset, .unset, .unset] [(.int l1)])) _
        refine XS.iload X199.here hx rfl (hb hby at_111) rfl ?_
        show Steps p.tables e below (T199.setTop (mkF m 113 #[.val (.int sh), .val (.int va), .val (.int vb), .val (.int vc), .val (.int vd), .val (.int ve), .val (.int pt), .val (.int nn), .val (.int l0), .val (.int l1), .val (.int l2), .val (.int l3), .val (.int l4), .val (.ref ba), .val (.ref bg), .val (.int f0), .unset, .unset, .unset, .unset, .unset, .unset, .unset, .unset, .unset, .unset] [(.int l0), (.int l1)])) _
        refine XS.icmpYes X199.here hx rfl (pc0 := 113) (pc' := 120) rfl (hb hby at_113) rfl (teq hc113).1 (by decide) (by decide) ?_
        show Steps p.tables e below (T199.setTop (mkF m 120 #[.val (.int sh), .val (.int va), .val (.int vb), .val (.int vc), .val (.int vd), .val (.int ve), .val (.int pt), .val (.int nn), .val (.int l0), .val (.int l1), .val (.int l2), .val (.int l3), .val (.int l4), .val (.ref ba), .val (.ref bg), .val (.int f0), .unset, .unset, .unset, .unset, .unset, .unset, .unset, .unset, .unset, .unset] [])) _
        refine XS.iconst X199.here hx rfl (hb hby at_120) ?_
        exact hk
      ·
        refine ⟨(1 : Int32), ((if_pos hc106).trans ((if_neg hc113).trans rfl)).symm, fun t hk => k204 t ?_⟩
        show Steps p.tables e below (T199.setTop (mkF m 106 #[.val (.int sh), .val (.int va), .val (.int vb), .val (.int vc), .val (.int vd), .val (.int ve), .val (.int pt), .val (.int nn), .val (.int l0), .val (.int l1), .val (.int l2), .val (.int l3), .val (.int l4), .val (.ref ba), .val (.ref bg), .val (.int f0), .unset, .unset, .unset, .unset, .unset, .unset, .unset, .unset, .unset, .unset] [(.int (1 : Int32)), (.int nn)])) _
        refine XS.icmpNo X199.here hx rfl (hb hby at_106) rfl (tlt hc106).2.2.2 ?_
        show Steps p.tables e below (T199.setTop (mkF m 109 #[.val (.int sh), .val (.int va), .val (.int vb), .val (.int vc), .val (.int vd), .val (.int ve), .val (.int pt), .val (.int nn), .val (.int l0), .val (.int l1), .val (.int l2), .val (.int l3), .val (.int l4), .val (.ref ba), .val (.ref bg), .val (.int f0), .unset, .unset, .unset, .unset, .unset, .unset, .unset, .unset, .unset, .unset] [])) _
        refine XS.iload X199.here hx rfl (hb hby at_109) rfl ?_
        show Steps p.tables e below (T199.setTop (mkF m 111 #[.val (.int sh), .val (.int va), .val (.int vb), .val (.int vc), .val (.int vd), .val (.int ve), .val (.int pt), .val (.int nn), .val (.int l0), .val (.int l1), .val (.int l2), .val (.int l3), .val (.int l4), .val (.ref ba), .val (.ref bg), .val (.int f0), .unset, .unset, .unset, .unset, .unset, .unset, .unset, .unset, .unset, .unset] [(.int l1)])) _
        refine XS.iload X199.here hx rfl (hb hby at_111) rfl ?_
        show Steps p.tables e below (T199.setTop (mkF m 113 #[.val (.int sh), .val (.int va), .val (.int vb), .val (.int vc), .val (.int vd), .val (.int ve), .val (.int pt), .val (.int nn), .val (.int l0), .val (.int l1), .val (.int l2), .val (.int l3), .val (.int l4), .val (.ref ba), .val (.ref bg), .val (.int f0), .unset, .unset, .unset, .unset, .unset, .unset, .unset, .unset, .unset, .unset] [(.int l0), (.int l1)])) _
        refine XS.icmpNo X199.here hx rfl (hb hby at_113) rfl (feq hc113).1 ?_
        show Steps p.tables e below (T199.setTop (mkF m 116 #[.val (.int sh), .val (.int va), .val (.int vb), .val (.int vc), .val (.int vd), .val (.int ve), .val (.int pt), .val (.int nn), .val (.int l0), .val (.int l1), .val (.int l2), .val (.int l3), .val (.int l4), .val (.ref ba), .val (.ref bg), .val (.int f0), .unset, .unset, .unset, .unset, .unset, .unset, .unset, .unset, .unset, .unset] [])) _
        refine XS.iconst X199.here hx rfl (hb hby at_116) ?_
        show Steps p.tables e below (T199.setTop (mkF m 117 #[.val (.int sh), .val (.int va), .val (.int vb), .val (.int vc), .val (.int vd), .val (.int ve), .val (.int pt), .val (.int nn), .val (.int l0), .val (.int l1), .val (.int l2), .val (.int l3), .val (.int l4), .val (.ref ba), .val (.ref bg), .val (.int f0), .unset, .unset, .unset, .unset, .unset, .unset, .unset, .unset, .unset, .unset] [(.int (1 : Int32))])) _
        refine XS.goto X199.here hx rfl (pc0 := 117) (pc' := 121) rfl (hb hby at_117) (by decide) (by decide) ?_
        exact hk
    ·
      refine ⟨(0 : Int32), ((if_neg hc106).trans rfl).symm, fun t hk => k204 t ?_⟩
      show Steps p.tables e below (T199.setTop (mkF m 106 #[.val (.int sh), .val (.int va), .val (.int vb), .val (.int vc), .val (.int vd), .val (.int ve), .val (.int pt), .val (.int nn), .val (.int l0), .val (.int l1), .val (.int l2), .val (.int l3), .val (.int l4), .val (.ref ba), .val (.ref bg), .val (.int f0), .unset, .unset, .unset, .unset, .unset, .unset, .unset, .unset, .unset, .unset] [(.int (1 : Int32)), (.int nn)])) _
      refine XS.icmpYes X199.here hx rfl (pc0 := 106) (pc' := 120) rfl (hb hby at_106) rfl (flt hc106).2.2.2 (by decide) (by decide) ?_
      show Steps p.tables e below (T199.setTop (mkF m 120 #[.val (.int sh), .val (.int va), .val (.int vb), .val (.int vc), .val (.int vd), .val (.int ve), .val (.int pt), .val (.int nn), .val (.int l0), .val (.int l1), .val (.int l2), .val (.int l3), .val (.int l4), .val (.ref ba), .val (.ref bg), .val (.int f0), .unset, .unset, .unset, .unset, .unset, .unset, .unset, .unset, .unset, .unset] [])) _
      refine XS.iconst X199.here hx rfl (hb hby at_120) ?_
      exact hk
  have k206 : ∀ t, Steps p.tables e below (T199.setTop (mkF m 126 #[.val (.int sh), .val (.int va), .val (.int vb), .val (.int vc), .val (.int vd), .val (.int ve), .val (.int pt), .val (.int nn), .val (.int l0), .val (.int l1), .val (.int l2), .val (.int l3), .val (.int l4), .val (.ref ba), .val (.ref bg), .val (.int f0), .val (.int f1), .unset, .unset, .unset, .unset, .unset, .unset, .unset, .unset, .unset] [(.int (2 : Int32)), (.int nn)])) t → Steps p.tables e below (s₁.setTop (entryFrame m #[(.int sh), (.int va), (.int vb), (.int vc), (.int vd), (.int ve)] maxLocals)) t := fun t hk => k205 t (by
    show Steps p.tables e below (T199.setTop (mkF m 121 #[.val (.int sh), .val (.int va), .val (.int vb), .val (.int vc), .val (.int vd), .val (.int ve), .val (.int pt), .val (.int nn), .val (.int l0), .val (.int l1), .val (.int l2), .val (.int l3), .val (.int l4), .val (.ref ba), .val (.ref bg), .val (.int f0), .unset, .unset, .unset, .unset, .unset, .unset, .unset, .unset, .unset, .unset] [(.int f1)])) _
    refine XS.istore X199.here hx rfl (hb hby at_121) rfl (l' := #[.val (.int sh), .val (.int va), .val (.int vb), .val (.int vc), .val (.int vd), .val (.int ve), .val (.int pt), .val (.int nn), .val (.int l0), .val (.int l1), .val (.int l2), .val (.int l3), .val (.int l4), .val (.ref ba), .val (.ref bg), .val (.int f0), .val (.int f1), .unset, .unset, .unset, .unset, .unset, .unset, .unset, .unset, .unset]) rfl ?_
    show Steps p.tables e below (T199.setTop (mkF m 123 #[.val (.int sh), .val (.int va), .val (.int vb), .val (.int vc), .val (.int vd), .val (.int ve), .val (.int pt), .val (.int nn), .val (.int l0), .val (.int l1), .val (.int l2), .val (.int l3), .val (.int l4), .val (.ref ba), .val (.ref bg), .val (.int f0), .val (.int f1), .unset, .unset, .unset, .unset, .unset, .unset, .unset, .unset, .unset] [])) _
    refine XS.iload X199.here hx rfl (hb hby at_123) rfl ?_
    show Steps p.tables e below (T199.setTop (mkF m 125 #[.val (.int sh), .val (.int va), .val (.int vb), .val (.int vc), .val (.int vd), .val (.int ve), .val (.int pt), .val (.int nn), .val (.int l0), .val (.int l1), .val (.int l2), .val (.int l3), .val (.int l4), .val (.ref ba), .val (.ref bg), .val (.int f0), .val (.int f1), .unset, .unset, .unset, .unset, .unset, .unset, .unset, .unset, .unset] [(.int nn)])) _
    refine XS.iconst X199.here hx rfl (hb hby at_125) ?_
    exact hk)
  obtain ⟨f2, hf2, k207⟩ : ∃ (f2 : Int32), (f2 = (if (2 : Int32) < nn then (if l2 = l0 then (0 : Int32) else (if l2 = l1 then (0 : Int32) else (1 : Int32))) else (0 : Int32))) ∧ ∀ t, Steps p.tables e below (T199.setTop (mkF m 148 #[.val (.int sh), .val (.int va), .val (.int vb), .val (.int vc), .val (.int vd), .val (.int ve), .val (.int pt), .val (.int nn), .val (.int l0), .val (.int l1), .val (.int l2), .val (.int l3), .val (.int l4), .val (.ref ba), .val (.ref bg), .val (.int f0), .val (.int f1), .unset, .unset, .unset, .unset, .unset, .unset, .unset, .unset, .unset] [(.int f2)])) t → Steps p.tables e below (s₁.setTop (entryFrame m #[(.int sh), (.int va), (.int vb), (.int vc), (.int vd), (.int ve)] maxLocals)) t := by
    by_cases hc126 : (2 : Int32) < nn
    ·
      by_cases hc133 : l2 = l0
      ·
        refine ⟨(0 : Int32), ((if_pos hc126).trans ((if_pos hc133).trans rfl)).symm, fun t hk => k206 t ?_⟩
        show Steps p.tables e below (T199.setTop (mkF m 126 #[.val (.int sh), .val (.int va), .val (.int vb), .val (.int vc), .val (.int vd), .val (.int ve), .val (.int pt), .val (.int nn), .val (.int l0), .val (.int l1), .val (.int l2), .val (.int l3), .val (.int l4), .val (.ref ba), .val (.ref bg), .val (.int f0), .val (.int f1), .unset, .unset, .unset, .unset, .unset, .unset, .unset, .unset, .unset] [(.int (2 : Int32)), (.int nn)])) _
        refine XS.icmpNo X199.here hx rfl (hb hby at_126) rfl (tlt hc126).2.2.2 ?_
        show Steps p.tables e below (T199.setTop (mkF m 129 #[.val (.int sh), .val (.int va), .val (.int vb), .val (.int vc), .val (.int vd), .val (.int ve), .val (.int pt), .val (.int nn), .val (.int l0), .val (.int l1), .val (.int l2), .val (.int l3), .val (.int l4), .val (.ref ba), .val (.ref bg), .val (.int f0), .val (.int f1), .unset, .unset, .unset, .unset, .unset, .unset, .unset, .unset, .unset] [])) _
        refine XS.iload X199.here hx rfl (hb hby at_129) rfl ?_
        show Steps p.tables e below (T199.setTop (mkF m 131 #[.val (.int sh), .val (.int va), .val (.int vb), .val (.int vc), .val (.int vd), .val (.int ve), .val (.int pt), .val (.int nn), .val (.int l0), .val (.int l1), .val (.int l2), .val (.int l3), .val (.int l4), .val (.ref ba), .val (.ref bg), .val (.int f0), .val (.int f1), .unset, .unset, .unset, .unset, .unset, .unset, .unset, .unset, .unset] [(.int l2)])) _
        refine XS.iload X199.here hx rfl (hb hby at_131) rfl ?_
        show Steps p.tables e below (T199.setTop (mkF m 133 #[.val (.int sh), .val (.int va), .val (.int vb), .val (.int vc), .val (.int vd), .val (.int ve), .val (.int pt), .val (.int nn), .val (.int l0), .val (.int l1), .val (.int l2), .val (.int l3), .val (.int l4), .val (.ref ba), .val (.ref bg), .val (.int f0), .val (.int f1), .unset, .unset, .unset, .unset, .unset, .unset, .unset, .unset, .unset] [(.int l0), (.int l2)])) _
        refine XS.icmpYes X199.here hx rfl (pc0 := 133) (pc' := 147) rfl (hb hby at_133) rfl (teq hc133).1 (by decide) (by decide) ?_
        show Steps p.tables e below (T199.setTop (mkF m 147 #[.val (.int sh), .val (.int va), .val (.int vb), .val (.int vc), .val (.int vd), .val (.int ve), .val (.int pt), .val (.int nn), .val (.int l0), .val (.int l1), .val (.int l2), .val (.int l3), .val (.int l4), .val (.ref ba), .val (.ref bg), .val (.int f0), .val (.int f1), .unset, .unset, .unset, .unset, .unset, .unset, .unset, .unset, .unset] [])) _
        refine XS.iconst X199.here hx rfl (hb hby at_147) ?_
        exact hk
      ·
        by_cases hc140 : l2 = l1
        ·
          refine ⟨(0 : Int32), ((if_pos hc126).trans ((if_neg hc133).trans ((if_pos hc140).trans rfl))).symm, fun t hk => k206 t ?_⟩
          show Steps p.tables e below (T199.setTop (mkF m 126 #[.val (.int sh), .val (.int va), .val (.int vb), .val (.int vc), .val (.int vd), .val (.int ve), .val (.int pt), .val (.int nn), .val (.int l0), .val (.int l1), .val (.int l2), .val (.int l3), .val (.int l4), .val (.ref ba), .val (.ref bg), .val (.int f0), .val (.int f1), .unset, .unset, .unset, .unset, .unset, .unset, .unset, .unset, .unset] [(.int (2 : Int32)), (.int nn)])) _
          refine XS.icmpNo X199.here hx rfl (hb hby at_126) rfl (tlt hc126).2.2.2 ?_
          show Steps p.tables e below (T199.setTop (mkF m 129 #[.val (.int sh), .val (.int va), .val (.int vb), .val (.int vc), .val (.int vd), .val (.int ve), .val (.int pt), .val (.int nn), .val (.int l0), .val (.int l1), .val (.int l2), .val (.int l3), .val (.int l4), .val (.ref ba), .val (.ref bg), .val (.int f0), .val (.int f1), .unset, .unset, .unset, .unset, .unset, .unset, .unset, .unset, .unset] [])) _
          refine XS.iload X199.here hx rfl (hb hby at_129) rfl ?_
          show Steps p.tables e below (T199.setTop (mkF m 131 #[.val (.int sh), .val (.int va), .val (.int vb), .val (.int vc), .val (.int vd), .val (.int ve), .val (.int pt), .val (.int nn), .val (.int l0), .val (.int l1), .val (.int l2), .val (.int l3), .val (.int l4), .val (.ref ba), .val (.ref bg), .val (.int f0), .val (.int f1), .unset, .unset, .unset, .unset, .unset, .unset, .unset, .unset, .unset] [(.int l2)])) _
          refine XS.iload X199.here hx rfl (hb hby at_131) rfl ?_
          show Steps p.tables e below (T199.setTop (mkF m 133 #[.val (.int sh), .val (.int va), .val (.int vb), .val (.int vc), .val (.int vd), .val (.int ve), .val (.int pt), .val (.int nn), .val (.int l0), .val (.int l1), .val (.int l2), .val (.int l3), .val (.int l4), .val (.ref ba), .val (.ref bg), .val (.int f0), .val (.int f1), .unset, .unset, .unset, .unset, .unset, .unset, .unset, .unset, .unset] [(.int l0), (.int l2)])) _
          refine XS.icmpNo X199.here hx rfl (hb hby at_133) rfl (feq hc133).1 ?_
          show Steps p.tables e below (T199.setTop (mkF m 136 #[.val (.int sh), .val (.int va), .val (.int vb), .val (.int vc), .val (.int vd), .val (.int ve), .val (.int pt), .val (.int nn), .val (.int l0), .val (.int l1), .val (.int l2), .val (.int l3), .val (.int l4), .val (.ref ba), .val (.ref bg), .val (.int f0), .val (.int f1), .unset, .unset, .unset, .unset, .unset, .unset, .unset, .unset, .unset] [])) _
          refine XS.iload X199.here hx rfl (hb hby at_136) rfl ?_
          show Steps p.tables e below (T199.setTop (mkF m 138 #[.val (.int sh), .val (.int va), .val (.int vb), .val (.int vc), .val (.int vd), .val (.int ve), .val (.int pt), .val (.int nn), .val (.int l0), .val (.int l1), .val (.int l2), .val (.int l3), .val (.int l4), .val (.ref ba), .val (.ref bg), .val (.int f0), .val (.int f1), .unset, .unset, .unset, .unset, .unset, .unset, .unset, .unset, .unset] [(.int l2)])) _
          refine XS.iload X199.here hx rfl (hb hby at_138) rfl ?_
          show Steps p.tables e below (T199.setTop (mkF m 140 #[.val (.int sh), .val (.int va), .val (.int vb), .val (.int vc), .val (.int vd), .val (.int ve), .val (.int pt), .val (.int nn), .val (.int l0), .val (.int l1), .val (.int l2), .val (.int l3), .val (.int l4), .val (.ref ba), .val (.ref bg), .val (.int f0), .val (.int f1), .unset, .unset, .unset, .unset, .unset, .unset, .unset, .unset, .unset] [(.int l1), (.int l2)])) _
          refine XS.icmpYes X199.here hx rfl (pc0 := 140) (pc' := 147) rfl (hb hby at_140) rfl (teq hc140).1 (by decide) (by decide) ?_
          show Steps p.tables e below (T199.setTop (mkF m 147 #[.val (.int sh), .val (.int va), .val (.int vb), .val (.int vc), .val (.int vd), .val (.int ve), .val (.int pt), .val (.int nn), .val (.int l0), .val (.int l1), .val (.int l2), .val (.int l3), .val (.int l4), .val (.ref ba), .val (.ref bg), .val (.int f0), .val (.int f1), .unset, .unset, .unset, .unset, .unset, .unset, .unset, .unset, .unset] [])) _
          refine XS.iconst X199.here hx rfl (hb hby at_147) ?_
          exact hk
        ·
          refine ⟨(1 : Int32), ((if_pos hc126).trans ((if_neg hc133).trans ((if_neg hc140).trans rfl))).symm, fun t hk => k206 t ?_⟩
          show Steps p.tables e below (T199.setTop (mkF m 126 #[.val (.int sh), .val (.int va), .val (.int vb), .val (.int vc), .val (.int vd), .val (.int ve), .val (.int pt), .val (.int nn), .val (.int l0), .val (.int l1), .val (.int l2), .val (.int l3), .val (.int l4), .val (.ref ba), .val (.ref bg), .val (.int f0), .val (.int f1), .unset, .unset, .unset, .unset, .unset, .unset, .unset, .unset, .unset] [(.int (2 : Int32)), (.int nn)])) _
          refine XS.icmpNo X199.here hx rfl (hb hby at_126) rfl (tlt hc126).2.2.2 ?_
          show Steps p.tables e below (T199.setTop (mkF m 129 #[.val (.int sh), .val (.int va), .val (.int vb), .val (.int vc), .val (.int vd), .val (.int ve), .val (.int pt), .val (.int nn), .val (.int l0), .val (.int l1), .val (.int l2), .val (.int l3), .val (.int l4), .val (.ref ba), .val (.ref bg), .val (.int f0), .val (.int f1), .unset, .unset, .unset, .unset, .unset, .unset, .unset, .unset, .unset] [])) _
          refine XS.iload X199.here hx rfl (hb hby at_129) rfl ?_
          show Steps p.tables e below (T199.setTop (mkF m 131 #[.val (.int sh), .val (.int va), .val (.int vb), .val (.int vc), .val (.int vd), .val (.int ve), .val (.int pt), .val (.int nn), .val (.int l0), .val (.int l1), .val (.int l2), .val (.int l3), .val (.int l4), .val (.ref ba), .val (.ref bg), .val (.int f0), .val (.int f1), .unset, .unset, .unset, .unset, .unset, .unset, .unset, .unset, .unset] [(.int l2)])) _
          refine XS.iload X199.here hx rfl (hb hby at_131) rfl ?_
          show Steps p.tables e below (T199.setTop (mkF m 133 #[.val (.int sh), .val (.int va), .val (.int vb), .val (.int vc), .val (.int vd), .val (.int ve), .val (.int pt), .val (.int nn), .val (.int l0), .val (.int l1), .val (.int l2), .val (.int l3), .val (.int l4), .val (.ref ba), .val (.ref bg), .val (.int f0), .val (.int f1), .unset, .unset, .unset, .unset, .unset, .unset, .unset, .unset, .unset] [(.int l0), (.int l2)])) _
          refine XS.icmpNo X199.here hx rfl (hb hby at_133) rfl (feq hc133).1 ?_
          show Steps p.tables e below (T199.setTop (mkF m 136 #[.val (.int sh), .val (.int va), .val (.int vb), .val (.int vc), .val (.int vd), .val (.int ve), .val (.int pt), .val (.int nn), .val (.int l0), .val (.int l1), .val (.int l2), .val (.int l3), .val (.int l4), .val (.ref ba), .val (.ref bg), .val (.int f0), .val (.int f1), .unset, .unset, .unset, .unset, .unset, .unset, .unset, .unset, .unset] [])) _
          refine XS.iload X199.here hx rfl (hb hby at_136) rfl ?_
          show Steps p.tables e below (T199.setTop (mkF m 138 #[.val (.int sh), .val (.int va), .val (.int vb), .val (.int vc), .val (.int vd), .val (.int ve), .val (.int pt), .val (.int nn), .val (.int l0), .val (.int l1), .val (.int l2), .val (.int l3), .val (.int l4), .val (.ref ba), .val (.ref bg), .val (.int f0), .val (.int f1), .unset, .unset, .unset, .unset, .unset, .unset, .unset, .unset, .unset] [(.int l2)])) _
          refine XS.iload X199.here hx rfl (hb hby at_138) rfl ?_
          show Steps p.tables e below (T199.setTop (mkF m 140 #[.val (.int sh), .val (.int va), .val (.int vb), .val (.int vc), .val (.int vd), .val (.int ve), .val (.int pt), .val (.int nn), .val (.int l0), .val (.int l1), .val (.int l2), .val (.int l3), .val (.int l4), .val (.ref ba), .val (.ref bg), .val (.int f0), .val (.int f1), .unset, .unset, .unset, .unset, .unset, .unset, .unset, .unset, .unset] [(.int l1), (.int l2)])) _
          refine XS.icmpNo X199.here hx rfl (hb hby at_140) rfl (feq hc140).1 ?_
          show Steps p.tables e below (T199.setTop (mkF m 143 #[.val (.int sh), .val (.int va), .val (.int vb), .val (.int vc), .val (.int vd), .val (.int ve), .val (.int pt), .val (.int nn), .val (.int l0), .val (.int l1), .val (.int l2), .val (.int l3), .val (.int l4), .val (.ref ba), .val (.ref bg), .val (.int f0), .val (.int f1), .unset, .unset, .unset, .unset, .unset, .unset, .unset, .unset, .unset] [])) _
          refine XS.iconst X199.here hx rfl (hb hby at_143) ?_
          show Steps p.tables e below (T199.setTop (mkF m 144 #[.val (.int sh), .val (.int va), .val (.int vb), .val (.int vc), .val (.int vd), .val (.int ve), .val (.int pt), .val (.int nn), .val (.int l0), .val (.int l1), .val (.int l2), .val (.int l3), .val (.int l4), .val (.ref ba), .val (.ref bg), .val (.int f0), .val (.int f1), .unset, .unset, .unset, .unset, .unset, .unset, .unset, .unset, .unset] [(.int (1 : Int32))])) _
          refine XS.goto X199.here hx rfl (pc0 := 144) (pc' := 148) rfl (hb hby at_144) (by decide) (by decide) ?_
          exact hk
    ·
      refine ⟨(0 : Int32), ((if_neg hc126).trans rfl).symm, fun t hk => k206 t ?_⟩
      show Steps p.tables e below (T199.setTop (mkF m 126 #[.val (.int sh), .val (.int va), .val (.int vb), .val (.int vc), .val (.int vd), .val (.int ve), .val (.int pt), .val (.int nn), .val (.int l0), .val (.int l1), .val (.int l2), .val (.int l3), .val (.int l4), .val (.ref ba), .val (.ref bg), .val (.int f0), .val (.int f1), .unset, .unset, .unset, .unset, .unset, .unset, .unset, .unset, .unset] [(.int (2 : Int32)), (.int nn)])) _
      refine XS.icmpYes X199.here hx rfl (pc0 := 126) (pc' := 147) rfl (hb hby at_126) rfl (flt hc126).2.2.2 (by decide) (by decide) ?_
      show Steps p.tables e below (T199.setTop (mkF m 147 #[.val (.int sh), .val (.int va), .val (.int vb), .val (.int vc), .val (.int vd), .val (.int ve), .val (.int pt), .val (.int nn), .val (.int l0), .val (.int l1), .val (.int l2), .val (.int l3), .val (.int l4), .val (.ref ba), .val (.ref bg), .val (.int f0), .val (.int f1), .unset, .unset, .unset, .unset, .unset, .unset, .unset, .unset, .unset] [])) _
      refine XS.iconst X199.here hx rfl (hb hby at_147) ?_
      exact hk
  have k208 : ∀ t, Steps p.tables e below (T199.setTop (mkF m 153 #[.val (.int sh), .val (.int va), .val (.int vb), .val (.int vc), .val (.int vd), .val (.int ve), .val (.int pt), .val (.int nn), .val (.int l0), .val (.int l1), .val (.int l2), .val (.int l3), .val (.int l4), .val (.ref ba), .val (.ref bg), .val (.int f0), .val (.int f1), .val (.int f2), .unset, .unset, .unset, .unset, .unset, .unset, .unset, .unset] [(.int (3 : Int32)), (.int nn)])) t → Steps p.tables e below (s₁.setTop (entryFrame m #[(.int sh), (.int va), (.int vb), (.int vc), (.int vd), (.int ve)] maxLocals)) t := fun t hk => k207 t (by
    show Steps p.tables e below (T199.setTop (mkF m 148 #[.val (.int sh), .val (.int va), .val (.int vb), .val (.int vc), .val (.int vd), .val (.int ve), .val (.int pt), .val (.int nn), .val (.int l0), .val (.int l1), .val (.int l2), .val (.int l3), .val (.int l4), .val (.ref ba), .val (.ref bg), .val (.int f0), .val (.int f1), .unset, .unset, .unset, .unset, .unset, .unset, .unset, .unset, .unset] [(.int f2)])) _
    refine XS.istore X199.here hx rfl (hb hby at_148) rfl (l' := #[.val (.int sh), .val (.int va), .val (.int vb), .val (.int vc), .val (.int vd), .val (.int ve), .val (.int pt), .val (.int nn), .val (.int l0), .val (.int l1), .val (.int l2), .val (.int l3), .val (.int l4), .val (.ref ba), .val (.ref bg), .val (.int f0), .val (.int f1), .val (.int f2), .unset, .unset, .unset, .unset, .unset, .unset, .unset, .unset]) rfl ?_
    show Steps p.tables e below (T199.setTop (mkF m 150 #[.val (.int sh), .val (.int va), .val (.int vb), .val (.int vc), .val (.int vd), .val (.int ve), .val (.int pt), .val (.int nn), .val (.int l0), .val (.int l1), .val (.int l2), .val (.int l3), .val (.int l4), .val (.ref ba), .val (.ref bg), .val (.int f0), .val (.int f1), .val (.int f2), .unset, .unset, .unset, .unset, .unset, .unset, .unset, .unset] [])) _
    refine XS.iload X199.here hx rfl (hb hby at_150) rfl ?_
    show Steps p.tables e below (T199.setTop (mkF m 152 #[.val (.int sh), .val (.int va), .val (.int vb), .val (.int vc), .val (.int vd), .val (.int ve), .val (.int pt), .val (.int nn), .val (.int l0), .val (.int l1), .val (.int l2), .val (.int l3), .val (.int l4), .val (.ref ba), .val (.ref bg), .val (.int f0), .val (.int f1), .val (.int f2), .unset, .unset, .unset, .unset, .unset, .unset, .unset, .unset] [(.int nn)])) _
    refine XS.iconst X199.here hx rfl (hb hby at_152) ?_
    exact hk)
  obtain ⟨f3, hf3, k209⟩ : ∃ (f3 : Int32), (f3 = (if (3 : Int32) < nn then (if l3 = l0 then (0 : Int32) else (if l3 = l1 then (0 : Int32) else (if l3 = l2 then (0 : Int32) else (1 : Int32)))) else (0 : Int32))) ∧ ∀ t, Steps p.tables e below (T199.setTop (mkF m 182 #[.val (.int sh), .val (.int va), .val (.int vb), .val (.int vc), .val (.int vd), .val (.int ve), .val (.int pt), .val (.int nn), .val (.int l0), .val (.int l1), .val (.int l2), .val (.int l3), .val (.int l4), .val (.ref ba), .val (.ref bg), .val (.int f0), .val (.int f1), .val (.int f2), .unset, .unset, .unset, .unset, .unset, .unset, .unset, .unset] [(.int f3)])) t → Steps p.tables e below (s₁.setTop (entryFrame m #[(.int sh), (.int va), (.int vb), (.int vc), (.int vd), (.int ve)] maxLocals)) t := by
    by_cases hc153 : (3 : Int32) < nn
    ·
      by_cases hc160 : l3 = l0
      ·
        refine ⟨(0 : Int32), ((if_pos hc153).trans ((if_pos hc160).trans rfl)).symm, fun t hk => k208 t ?_⟩
        show Steps p.tables e below (T199.setTop (mkF m 153 #[.val (.int sh), .val (.int va), .val (.int vb), .val (.int vc), .val (.int vd), .val (.int ve), .val (.int pt), .val (.int nn), .val (.int l0), .val (.int l1), .val (.int l2), .val (.int l3), .val (.int l4), .val (.ref ba), .val (.ref bg), .val (.int f0), .val (.int f1), .val (.int f2), .unset, .unset, .unset, .unset, .unset, .unset, .unset, .unset] [(.int (3 : Int32)), (.int nn)])) _
        refine XS.icmpNo X199.here hx rfl (hb hby at_153) rfl (tlt hc153).2.2.2 ?_
        show Steps p.tables e below (T199.setTop (mkF m 156 #[.val (.int sh), .val (.int va), .val (.int vb), .val (.int vc), .val (.int vd), .val (.int ve), .val (.int pt), .val (.int nn), .val (.int l0), .val (.int l1), .val (.int l2), .val (.int l3), .val (.int l4), .val (.ref ba), .val (.ref bg), .val (.int f0), .val (.int f1), .val (.int f2), .unset, .unset, .unset, .unset, .unset, .unset, .unset, .unset] [])) _
        refine XS.iload X199.here hx rfl (hb hby at_156) rfl ?_
        show Steps p.tables e below (T199.setTop (mkF m 158 #[.val (.int sh), .val (.int va), .val (.int vb), .val (.int vc), .val (.int vd), .val (.int ve), .val (.int pt), .val (.int nn), .val (.int l0), .val (.int l1), .val (.int l2), .val (.int l3), .val (.int l4), .val (.ref ba), .val (.ref bg), .val (.int f0), .val (.int f1), .val (.int f2), .unset, .unset, .unset, .unset, .unset, .unset, .unset, .unset] [(.int l3)])) _
        refine XS.iload X199.here hx rfl (hb hby at_158) rfl ?_
        show Steps p.tables e below (T199.setTop (mkF m 160 #[.val (.int sh), .val (.int va), .val (.int vb), .val (.int vc), .val (.int vd), .val (.int ve), .val (.int pt), .val (.int nn), .val (.int l0), .val (.int l1), .val (.int l2), .val (.int l3), .val (.int l4), .val (.ref ba), .val (.ref bg), .val (.int f0), .val (.int f1), .val (.int f2), .unset, .unset, .unset, .unset, .unset, .unset, .unset, .unset] [(.int l0), (.int l3)])) _
        refine XS.icmpYes X199.here hx rfl (pc0 := 160) (pc' := 181) rfl (hb hby at_160) rfl (teq hc160).1 (by decide) (by decide) ?_
        show Steps p.tables e below (T199.setTop (mkF m 181 #[.val (.int sh), .val (.int va), .val (.int vb), .val (.int vc), .val (.int vd), .val (.int ve), .val (.int pt), .val (.int nn), .val (.int l0), .val (.int l1), .val (.int l2), .val (.int l3), .val (.int l4), .val (.ref ba), .val (.ref bg), .val (.int f0), .val (.int f1), .val (.int f2), .unset, .unset, .unset, .unset, .unset, .unset, .unset, .unset] [])) _
        refine XS.iconst X199.here hx rfl (hb hby at_181) ?_
        exact hk
      ·
        by_cases hc167 : l3 = l1
        ·
          refine ⟨(0 : Int32), ((if_pos hc153).trans ((if_neg hc160).trans ((if_pos hc167).trans rfl))).symm, fun t hk => k208 t ?_⟩
          show Steps p.tables e below (T199.setTop (mkF m 153 #[.val (.int sh), .val (.int va), .val (.int vb), .val (.int vc), .val (.int vd), .val (.int ve), .val (.int pt), .val (.int nn), .val (.int l0), .val (.int l1), .val (.int l2), .val (.int l3), .val (.int l4), .val (.ref ba), .val (.ref bg), .val (.int f0), .val (.int f1), .val (.int f2), .unset, .unset, .unset, .unset, .unset, .unset, .unset, .unset] [(.int (3 : Int32)), (.int nn)])) _
          refine XS.icmpNo X199.here hx rfl (hb hby at_153) rfl (tlt hc153).2.2.2 ?_
          show Steps p.tables e below (T199.setTop (mkF m 156 #[.val (.int sh), .val (.int va), .val (.int vb), .val (.int vc), .val (.int vd), .val (.int ve), .val (.int pt), .val (.int nn), .val (.int l0), .val (.int l1), .val (.int l2), .val (.int l3), .val (.int l4), .val (.ref ba), .val (.ref bg), .val (.int f0), .val (.int f1), .val (.int f2), .unset, .unset, .unset, .unset, .unset, .unset, .unset, .unset] [])) _
          refine XS.iload X199.here hx rfl (hb hby at_156) rfl ?_
          show Steps p.tables e below (T199.setTop (mkF m 158 #[.val (.int sh), .val (.int va), .val (.int vb), .val (.int vc), .val (.int vd), .val (.int ve), .val (.int pt), .val (.int nn), .val (.int l0), .val (.int l1), .val (.int l2), .val (.int l3), .val (.int l4), .val (.ref ba), .val (.ref bg), .val (.int f0), .val (.int f1), .val (.int f2), .unset, .unset, .unset, .unset, .unset, .unset, .unset, .unset] [(.int l3)])) _
          refine XS.iload X199.here hx rfl (hb hby at_158) rfl ?_
          show Steps p.tables e below (T199.setTop (mkF m 160 #[.val (.int sh), .val (.int va), .val (.int vb), .val (.int vc), .val (.int vd), .val (.int ve), .val (.int pt), .val (.int nn), .val (.int l0), .val (.int l1), .val (.int l2), .val (.int l3), .val (.int l4), .val (.ref ba), .val (.ref bg), .val (.int f0), .val (.int f1), .val (.int f2), .unset, .unset, .unset, .unset, .unset, .unset, .unset, .unset] [(.int l0), (.int l3)])) _
          refine XS.icmpNo X199.here hx rfl (hb hby at_160) rfl (feq hc160).1 ?_
          show Steps p.tables e below (T199.setTop (mkF m 163 #[.val (.int sh), .val (.int va), .val (.int vb), .val (.int vc), .val (.int vd), .val (.int ve), .val (.int pt), .val (.int nn), .val (.int l0), .val (.int l1), .val (.int l2), .val (.int l3), .val (.int l4), .val (.ref ba), .val (.ref bg), .val (.int f0), .val (.int f1), .val (.int f2), .unset, .unset, .unset, .unset, .unset, .unset, .unset, .unset] [])) _
          refine XS.iload X199.here hx rfl (hb hby at_163) rfl ?_
          show Steps p.tables e below (T199.setTop (mkF m 165 #[.val (.int sh), .val (.int va), .val (.int vb), .val (.int vc), .val (.int vd), .val (.int ve), .val (.int pt), .val (.int nn), .val (.int l0), .val (.int l1), .val (.int l2), .val (.int l3), .val (.int l4), .val (.ref ba), .val (.ref bg), .val (.int f0), .val (.int f1), .val (.int f2), .unset, .unset, .unset, .unset, .unset, .unset, .unset, .unset] [(.int l3)])) _
          refine XS.iload X199.here hx rfl (hb hby at_165) rfl ?_
          show Steps p.tables e below (T199.setTop (mkF m 167 #[.val (.int sh), .val (.int va), .val (.int vb), .val (.int vc), .val (.int vd), .val (.int ve), .val (.int pt), .val (.int nn), .val (.int l0), .val (.int l1), .val (.int l2), .val (.int l3), .val (.int l4), .val (.ref ba), .val (.ref bg), .val (.int f0), .val (.int f1), .val (.int f2), .unset, .unset, .unset, .unset, .unset, .unset, .unset, .unset] [(.int l1), (.int l3)])) _
          refine XS.icmpYes X199.here hx rfl (pc0 := 167) (pc' := 181) rfl (hb hby at_167) rfl (teq hc167).1 (by decide) (by decide) ?_
          show Steps p.tables e below (T199.setTop (mkF m 181 #[.val (.int sh), .val (.int va), .val (.int vb), .val (.int vc), .val (.int vd), .val (.int ve), .val (.int pt), .val (.int nn), .val (.int l0), .val (.int l1), .val (.int l2), .val (.int l3), .val (.int l4), .val (.ref ba), .val (.ref bg), .val (.int f0), .val (.int f1), .val (.int f2), .unset, .unset, .unset, .unset, .unset, .unset, .unset, .unset] [])) _
          refine XS.iconst X199.here hx rfl (hb hby at_181) ?_
          exact hk
        ·
          by_cases hc174 : l3 = l2
          ·
            refine ⟨(0 : Int32), ((if_pos hc153).trans ((if_neg hc160).trans ((if_neg hc167).trans ((if_pos hc174).trans rfl)))).symm, fun t hk => k208 t ?_⟩
            show Steps p.tables e below (T199.setTop (mkF m 153 #[.val (.int sh), .val (.int va), .val (.int vb), .val (.int vc), .val (.int vd), .val (.int ve), .val (.int pt), .val (.int nn), .val (.int l0), .val (.int l1), .val (.int l2), .val (.int l3), .val (.int l4), .val (.ref ba), .val (.ref bg), .val (.int f0), .val (.int f1), .val (.int f2), .unset, .unset, .unset, .unset, .unset, .unset, .unset, .unset] [(.int (3 : Int32)), (.int nn)])) _
            refine XS.icmpNo X199.here hx rfl (hb hby at_153) rfl (tlt hc153).2.2.2 ?_
            show Steps p.tables e below (T199.setTop (mkF m 156 #[.val (.int sh), .val (.int va), .val (.int vb), .val (.int vc), .val (.int vd), .val (.int ve), .val (.int pt), .val (.int nn), .val (.int l0), .val (.int l1), .val (.int l2), .val (.int l3), .val (.int l4), .val (.ref ba), .val (.ref bg), .val (.int f0), .val (.int f1), .val (.int f2), .unset, .unset, .unset, .unset, .unset, .unset, .unset, .unset] [])) _
            refine XS.iload X199.here hx rfl (hb hby at_156) rfl ?_
            show Steps p.tables e below (T199.setTop (mkF m 158 #[.val (.int sh), .val (.int va), .val (.int vb), .val (.int vc), .val (.int vd), .val (.int ve), .val (.int pt), .val (.int nn), .val (.int l0), .val (.int l1), .val (.int l2), .val (.int l3), .val (.int l4), .val (.ref ba), .val (.ref bg), .val (.int f0), .val (.int f1), .val (.int f2), .unset, .unset, .unset, .unset, .unset, .unset, .unset, .unset] [(.int l3)])) _
            refine XS.iload X199.here hx rfl (hb hby at_158) rfl ?_
            show Steps p.tables e below (T199.setTop (mkF m 160 #[.val (.int sh), .val (.int va), .val (.int vb), .val (.int vc), .val (.int vd), .val (.int ve), .val (.int pt), .val (.int nn), .val (.int l0), .val (.int l1), .val (.int l2), .val (.int l3), .val (.int l4), .val (.ref ba), .val (.ref bg), .val (.int f0), .val (.int f1), .val (.int f2), .unset, .unset, .unset, .unset, .unset, .unset, .unset, .unset] [(.int l0), (.int l3)])) _
            refine XS.icmpNo X199.here hx rfl (hb hby at_160) rfl (feq hc160).1 ?_
            show Steps p.tables e below (T199.setTop (mkF m 163 #[.val (.int sh), .val (.int va), .val (.int vb), .val (.int vc), .val (.int vd), .val (.int ve), .val (.int pt), .val (.int nn), .val (.int l0), .val (.int l1), .val (.int l2), .val (.int l3), .val (.int l4), .val (.ref ba), .val (.ref bg), .val (.int f0), .val (.int f1), .val (.int f2), .unset, .unset, .unset, .unset, .unset, .unset, .unset, .unset] [])) _
            refine XS.iload X199.here hx rfl (hb hby at_163) rfl ?_
            show Steps p.tables e below (T199.setTop (mkF m 165 #[.val (.int sh), .val (.int va), .val (.int vb), .val (.int vc), .val (.int vd), .val (.int ve), .val (.int pt), .val (.int nn), .val (.int l0), .val (.int l1), .val (.int l2), .val (.int l3), .val (.int l4), .val (.ref ba), .val (.ref bg), .val (.int f0), .val (.int f1), .val (.int f2), .unset, .unset, .unset, .unset, .unset, .unset, .unset, .unset] [(.int l3)])) _
            refine XS.iload X199.here hx rfl (hb hby at_165) rfl ?_
            show Steps p.tables e below (T199.setTop (mkF m 167 #[.val (.int sh), .val (.int va), .val (.int vb), .val (.int vc), .val (.int vd), .val (.int ve), .val (.int pt), .val (.int nn), .val (.int l0), .val (.int l1), .val (.int l2), .val (.int l3), .val (.int l4), .val (.ref ba), .val (.ref bg), .val (.int f0), .val (.int f1), .val (.int f2), .unset, .unset, .unset, .unset, .unset, .unset, .unset, .unset] [(.int l1), (.int l3)])) _
            refine XS.icmpNo X199.here hx rfl (hb hby at_167) rfl (feq hc167).1 ?_
            show Steps p.tables e below (T199.setTop (mkF m 170 #[.val (.int sh), .val (.int va), .val (.int vb), .val (.int vc), .val (.int vd), .val (.int ve), .val (.int pt), .val (.int nn), .val (.int l0), .val (.int l1), .val (.int l2), .val (.int l3), .val (.int l4), .val (.ref ba), .val (.ref bg), .val (.int f0), .val (.int f1), .val (.int f2), .unset, .unset, .unset, .unset, .unset, .unset, .unset, .unset] [])) _
            refine XS.iload X199.here hx rfl (hb hby at_170) rfl ?_
            show Steps p.tables e below (T199.setTop (mkF m 172 #[.val (.int sh), .val (.int va), .val (.int vb), .val (.int vc), .val (.int vd), .val (.int ve), .val (.int pt), .val (.int nn), .val (.int l0), .val (.int l1), .val (.int l2), .val (.int l3), .val (.int l4), .val (.ref ba), .val (.ref bg), .val (.int f0), .val (.int f1), .val (.int f2), .unset, .unset, .unset, .unset, .unset, .unset, .unset, .unset] [(.int l3)])) _
            refine XS.iload X199.here hx rfl (hb hby at_172) rfl ?_
            show Steps p.tables e below (T199.setTop (mkF m 174 #[.val (.int sh), .val (.int va), .val (.int vb), .val (.int vc), .val (.int vd), .val (.int ve), .val (.int pt), .val (.int nn), .val (.int l0), .val (.int l1), .val (.int l2), .val (.int l3), .val (.int l4), .val (.ref ba), .val (.ref bg), .val (.int f0), .val (.int f1), .val (.int f2), .unset, .unset, .unset, .unset, .unset, .unset, .unset, .unset] [(.int l2), (.int l3)])) _
            refine XS.icmpYes X199.here hx rfl (pc0 := 174) (pc' := 181) rfl (hb hby at_174) rfl (teq hc174).1 (by decide) (by decide) ?_
            show Steps p.tables e below (T199.setTop (mkF m 181 #[.val (.int sh), .val (.int va), .val (.int vb), .val (.int vc), .val (.int vd), .val (.int ve), .val (.int pt), .val (.int nn), .val (.int l0), .val (.int l1), .val (.int l2), .val (.int l3), .val (.int l4), .val (.ref ba), .val (.ref bg), .val (.int f0), .val (.int f1), .val (.int f2), .unset, .unset, .unset, .unset, .unset, .unset, .unset, .unset] [])) _
            refine XS.iconst X199.here hx rfl (hb hby at_181) ?_
            exact hk
          ·
            refine ⟨(1 : Int32), ((if_pos hc153).trans ((if_neg hc160).trans ((if_neg hc167).trans ((if_neg hc174).trans rfl)))).symm, fun t hk => k208 t ?_⟩
            show Steps p.tables e below (T199.setTop (mkF m 153 #[.val (.int sh), .val (.int va), .val (.int vb), .val (.int vc), .val (.int vd), .val (.int ve), .val (.int pt), .val (.int nn), .val (.int l0), .val (.int l1), .val (.int l2), .val (.int l3), .val (.int l4), .val (.ref ba), .val (.ref bg), .val (.int f0), .val (.int f1), .val (.int f2), .unset, .unset, .unset, .unset, .unset, .unset, .unset, .unset] [(.int (3 : Int32)), (.int nn)])) _
            refine XS.icmpNo X199.here hx rfl (hb hby at_153) rfl (tlt hc153).2.2.2 ?_
            show Steps p.tables e below (T199.setTop (mkF m 156 #[.val (.int sh), .val (.int va), .val (.int vb), .val (.int vc), .val (.int vd), .val (.int ve), .val (.int pt), .val (.int nn), .val (.int l0), .val (.int l1), .val (.int l2), .val (.int l3), .val (.int l4), .val (.ref ba), .val (.ref bg), .val (.int f0), .val (.int f1), .val (.int f2), .unset, .unset, .unset, .unset, .unset, .unset, .unset, .unset] [])) _
            refine XS.iload X199.here hx rfl (hb hby at_156) rfl ?_
            show Steps p.tables e below (T199.setTop (mkF m 158 #[.val (.int sh), .val (.int va), .val (.int vb), .val (.int vc), .val (.int vd), .val (.int ve), .val (.int pt), .val (.int nn), .val (.int l0), .val (.int l1), .val (.int l2), .val (.int l3), .val (.int l4), .val (.ref ba), .val (.ref bg), .val (.int f0), .val (.int f1), .val (.int f2), .unset, .unset, .unset, .unset, .unset, .unset, .unset, .unset] [(.int l3)])) _
            refine XS.iload X199.here hx rfl (hb hby at_158) rfl ?_
            show Steps p.tables e below (T199.setTop (mkF m 160 #[.val (.int sh), .val (.int va), .val (.int vb), .val (.int vc), .val (.int vd), .val (.int ve), .val (.int pt), .val (.int nn), .val (.int l0), .val (.int l1), .val (.int l2), .val (.int l3), .val (.int l4), .val (.ref ba), .val (.ref bg), .val (.int f0), .val (.int f1), .val (.int f2), .unset, .unset, .unset, .unset, .unset, .unset, .unset, .unset] [(.int l0), (.int l3)])) _
            refine XS.icmpNo X199.here hx rfl (hb hby at_160) rfl (feq hc160).1 ?_
            show Steps p.tables e below (T199.setTop (mkF m 163 #[.val (.int sh), .val (.int va), .val (.int vb), .val (.int vc), .val (.int vd), .val (.int ve), .val (.int pt), .val (.int nn), .val (.int l0), .val (.int l1), .val (.int l2), .val (.int l3), .val (.int l4), .val (.ref ba), .val (.ref bg), .val (.int f0), .val (.int f1), .val (.int f2), .unset, .unset, .unset, .unset, .unset, .unset, .unset, .unset] [])) _
            refine XS.iload X199.here hx rfl (hb hby at_163) rfl ?_
            show Steps p.tables e below (T199.setTop (mkF m 165 #[.val (.int sh), .val (.int va), .val (.int vb), .val (.int vc), .val (.int vd), .val (.int ve), .val (.int pt), .val (.int nn), .val (.int l0), .val (.int l1), .val (.int l2), .val (.int l3), .val (.int l4), .val (.ref ba), .val (.ref bg), .val (.int f0), .val (.int f1), .val (.int f2), .unset, .unset, .unset, .unset, .unset, .unset, .unset, .unset] [(.int l3)])) _
            refine XS.iload X199.here hx rfl (hb hby at_165) rfl ?_
            show Steps p.tables e below (T199.setTop (mkF m 167 #[.val (.int sh), .val (.int va), .val (.int vb), .val (.int vc), .val (.int vd), .val (.int ve), .val (.int pt), .val (.int nn), .val (.int l0), .val (.int l1), .val (.int l2), .val (.int l3), .val (.int l4), .val (.ref ba), .val (.ref bg), .val (.int f0), .val (.int f1), .val (.int f2), .unset, .unset, .unset, .unset, .unset, .unset, .unset, .unset] [(.int l1), (.int l3)])) _
            refine XS.icmpNo X199.here hx rfl (hb hby at_167) rfl (feq hc167).1 ?_
            show Steps p.tables e below (T199.setTop (mkF m 170 #[.val (.int sh), .val (.int va), .val (.int vb), .val (.int vc), .val (.int vd), .val (.int ve), .val (.int pt), .val (.int nn), .val (.int l0), .val (.int l1), .val (.int l2), .val (.int l3), .val (.int l4), .val (.ref ba), .val (.ref bg), .val (.int f0), .val (.int f1), .val (.int f2), .unset, .unset, .unset, .unset, .unset, .unset, .unset, .unset] [])) _
            refine XS.iload X199.here hx rfl (hb hby at_170) rfl ?_
            show Steps p.tables e below (T199.setTop (mkF m 172 #[.val (.int sh), .val (.int va), .val (.int vb), .val (.int vc), .val (.int vd), .val (.int ve), .val (.int pt), .val (.int nn), .val (.int l0), .val (.int l1), .val (.int l2), .val (.int l3), .val (.int l4), .val (.ref ba), .val (.ref bg), .val (.int f0), .val (.int f1), .val (.int f2), .unset, .unset, .unset, .unset, .unset, .unset, .unset, .unset] [(.int l3)])) _
            refine XS.iload X199.here hx rfl (hb hby at_172) rfl ?_
            show Steps p.tables e below (T199.setTop (mkF m 174 #[.val (.int sh), .val (.int va), .val (.int vb), .val (.int vc), .val (.int vd), .val (.int ve), .val (.int pt), .val (.int nn), .val (.int l0), .val (.int l1), .val (.int l2), .val (.int l3), .val (.int l4), .val (.ref ba), .val (.ref bg), .val (.int f0), .val (.int f1), .val (.int f2), .unset, .unset, .unset, .unset, .unset, .unset, .unset, .unset] [(.int l2), (.int l3)])) _
            refine XS.icmpNo X199.here hx rfl (hb hby at_174) rfl (feq hc174).1 ?_
            show Steps p.tables e below (T199.setTop (mkF m 177 #[.val (.int sh), .val (.int va), .val (.int vb), .val (.int vc), .val (.int vd), .val (.int ve), .val (.int pt), .val (.int nn), .val (.int l0), .val (.int l1), .val (.int l2), .val (.int l3), .val (.int l4), .val (.ref ba), .val (.ref bg), .val (.int f0), .val (.int f1), .val (.int f2), .unset, .unset, .unset, .unset, .unset, .unset, .unset, .unset] [])) _
            refine XS.iconst X199.here hx rfl (hb hby at_177) ?_
            show Steps p.tables e below (T199.setTop (mkF m 178 #[.val (.int sh), .val (.int va), .val (.int vb), .val (.int vc), .val (.int vd), .val (.int ve), .val (.int pt), .val (.int nn), .val (.int l0), .val (.int l1), .val (.int l2), .val (.int l3), .val (.int l4), .val (.ref ba), .val (.ref bg), .val (.int f0), .val (.int f1), .val (.int f2), .unset, .unset, .unset, .unset, .unset, .unset, .unset, .unset] [(.int (1 : Int32))])) _
            refine XS.goto X199.here hx rfl (pc0 := 178) (pc' := 182) rfl (hb hby at_178) (by decide) (by decide) ?_
            exact hk
    ·
      refine ⟨(0 : Int32), ((if_neg hc153).trans rfl).symm, fun t hk => k208 t ?_⟩
      show Steps p.tables e below (T199.setTop (mkF m 153 #[.val (.int sh), .val (.int va), .val (.int vb), .val (.int vc), .val (.int vd), .val (.int ve), .val (.int pt), .val (.int nn), .val (.int l0), .val (.int l1), .val (.int l2), .val (.int l3), .val (.int l4), .val (.ref ba), .val (.ref bg), .val (.int f0), .val (.int f1), .val (.int f2), .unset, .unset, .unset, .unset, .unset, .unset, .unset, .unset] [(.int (3 : Int32)), (.int nn)])) _
      refine XS.icmpYes X199.here hx rfl (pc0 := 153) (pc' := 181) rfl (hb hby at_153) rfl (flt hc153).2.2.2 (by decide) (by decide) ?_
      show Steps p.tables e below (T199.setTop (mkF m 181 #[.val (.int sh), .val (.int va), .val (.int vb), .val (.int vc), .val (.int vd), .val (.int ve), .val (.int pt), .val (.int nn), .val (.int l0), .val (.int l1), .val (.int l2), .val (.int l3), .val (.int l4), .val (.ref ba), .val (.ref bg), .val (.int f0), .val (.int f1), .val (.int f2), .unset, .unset, .unset, .unset, .unset, .unset, .unset, .unset] [])) _
      refine XS.iconst X199.here hx rfl (hb hby at_181) ?_
      exact hk
  have k210 : ∀ t, Steps p.tables e below (T199.setTop (mkF m 187 #[.val (.int sh), .val (.int va), .val (.int vb), .val (.int vc), .val (.int vd), .val (.int ve), .val (.int pt), .val (.int nn), .val (.int l0), .val (.int l1), .val (.int l2), .val (.int l3), .val (.int l4), .val (.ref ba), .val (.ref bg), .val (.int f0), .val (.int f1), .val (.int f2), .val (.int f3), .unset, .unset, .unset, .unset, .unset, .unset, .unset] [(.int (4 : Int32)), (.int nn)])) t → Steps p.tables e below (s₁.setTop (entryFrame m #[(.int sh), (.int va), (.int vb), (.int vc), (.int vd), (.int ve)] maxLocals)) t := fun t hk => k209 t (by
    show Steps p.tables e below (T199.setTop (mkF m 182 #[.val (.int sh), .val (.int va), .val (.int vb), .val (.int vc), .val (.int vd), .val (.int ve), .val (.int pt), .val (.int nn), .val (.int l0), .val (.int l1), .val (.int l2), .val (.int l3), .val (.int l4), .val (.ref ba), .val (.ref bg), .val (.int f0), .val (.int f1), .val (.int f2), .unset, .unset, .unset, .unset, .unset, .unset, .unset, .unset] [(.int f3)])) _
    refine XS.istore X199.here hx rfl (hb hby at_182) rfl (l' := #[.val (.int sh), .val (.int va), .val (.int vb), .val (.int vc), .val (.int vd), .val (.int ve), .val (.int pt), .val (.int nn), .val (.int l0), .val (.int l1), .val (.int l2), .val (.int l3), .val (.int l4), .val (.ref ba), .val (.ref bg), .val (.int f0), .val (.int f1), .val (.int f2), .val (.int f3), .unset, .unset, .unset, .unset, .unset, .unset, .unset]) rfl ?_
    show Steps p.tables e below (T199.setTop (mkF m 184 #[.val (.int sh), .val (.int va), .val (.int vb), .val (.int vc), .val (.int vd), .val (.int ve), .val (.int pt), .val (.int nn), .val (.int l0), .val (.int l1), .val (.int l2), .val (.int l3), .val (.int l4), .val (.ref ba), .val (.ref bg), .val (.int f0), .val (.int f1), .val (.int f2), .val (.int f3), .unset, .unset, .unset, .unset, .unset, .unset, .unset] [])) _
    refine XS.iload X199.here hx rfl (hb hby at_184) rfl ?_
    show Steps p.tables e below (T199.setTop (mkF m 186 #[.val (.int sh), .val (.int va), .val (.int vb), .val (.int vc), .val (.int vd), .val (.int ve), .val (.int pt), .val (.int nn), .val (.int l0), .val (.int l1), .val (.int l2), .val (.int l3), .val (.int l4), .val (.ref ba), .val (.ref bg), .val (.int f0), .val (.int f1), .val (.int f2), .val (.int f3), .unset, .unset, .unset, .unset, .unset, .unset, .unset] [(.int nn)])) _
    refine XS.iconst X199.here hx rfl (hb hby at_186) ?_
    exact hk)
  obtain ⟨f4, hf4, k211⟩ : ∃ (f4 : Int32), (f4 = (if (4 : Int32) < nn then (if l4 = l0 then (0 : Int32) else (if l4 = l1 then (0 : Int32) else (if l4 = l2 then (0 : Int32) else (if l4 = l3 then (0 : Int32) else (1 : Int32))))) else (0 : Int32))) ∧ ∀ t, Steps p.tables e below (T199.setTop (mkF m 223 #[.val (.int sh), .val (.int va), .val (.int vb), .val (.int vc), .val (.int vd), .val (.int ve), .val (.int pt), .val (.int nn), .val (.int l0), .val (.int l1), .val (.int l2), .val (.int l3), .val (.int l4), .val (.ref ba), .val (.ref bg), .val (.int f0), .val (.int f1), .val (.int f2), .val (.int f3), .unset, .unset, .unset, .unset, .unset, .unset, .unset] [(.int f4)])) t → Steps p.tables e below (s₁.setTop (entryFrame m #[(.int sh), (.int va), (.int vb), (.int vc), (.int vd), (.int ve)] maxLocals)) t := by
    by_cases hc187 : (4 : Int32) < nn
    ·
      by_cases hc194 : l4 = l0
      ·
        refine ⟨(0 : Int32), ((if_pos hc187).trans ((if_pos hc194).trans rfl)).symm, fun t hk => k210 t ?_⟩
        show Steps p.tables e below (T199.setTop (mkF m 187 #[.val (.int sh), .val (.int va), .val (.int vb), .val (.int vc), .val (.int vd), .val (.int ve), .val (.int pt), .val (.int nn), .val (.int l0), .val (.int l1), .val (.int l2), .val (.int l3), .val (.int l4), .val (.ref ba), .val (.ref bg), .val (.int f0), .val (.int f1), .val (.int f2), .val (.int f3), .unset, .unset, .unset, .unset, .unset, .unset, .unset] [(.int (4 : Int32)), (.int nn)])) _
        refine XS.icmpNo X199.here hx rfl (hb hby at_187) rfl (tlt hc187).2.2.2 ?_
        show Steps p.tables e below (T199.setTop (mkF m 190 #[.val (.int sh), .val (.int va), .val (.int vb), .val (.int vc), .val (.int vd), .val (.int ve), .val (.int pt), .val (.int nn), .val (.int l0), .val (.int l1), .val (.int l2), .val (.int l3), .val (.int l4), .val (.ref ba), .val (.ref bg), .val (.int f0), .val (.int f1), .val (.int f2), .val (.int f3), .unset, .unset, .unset, .unset, .unset, .unset, .unset] [])) _
        refine XS.iload X199.here hx rfl (hb hby at_190) rfl ?_
        show Steps p.tables e below (T199.setTop (mkF m 192 #[.val (.int sh), .val (.int va), .val (.int vb), .val (.int vc), .val (.int vd), .val (.int ve), .val (.int pt), .val (.int nn), .val (.int l0), .val (.int l1), .val (.int l2), .val (.int l3), .val (.int l4), .val (.ref ba), .val (.ref bg), .val (.int f0), .val (.int f1), .val (.int f2), .val (.int f3), .unset, .unset, .unset, .unset, .unset, .unset, .unset] [(.int l4)])) _
        refine XS.iload X199.here hx rfl (hb hby at_192) rfl ?_
        show Steps p.tables e below (T199.setTop (mkF m 194 #[.val (.int sh), .val (.int va), .val (.int vb), .val (.int vc), .val (.int vd), .val (.int ve), .val (.int pt), .val (.int nn), .val (.int l0), .val (.int l1), .val (.int l2), .val (.int l3), .val (.int l4), .val (.ref ba), .val (.ref bg), .val (.int f0), .val (.int f1), .val (.int f2), .val (.int f3), .unset, .unset, .unset, .unset, .unset, .unset, .unset] [(.int l0), (.int l4)])) _
        refine XS.icmpYes X199.here hx rfl (pc0 := 194) (pc' := 222) rfl (hb hby at_194) rfl (teq hc194).1 (by decide) (by decide) ?_
        show Steps p.tables e below (T199.setTop (mkF m 222 #[.val (.int sh), .val (.int va), .val (.int vb), .val (.int vc), .val (.int vd), .val (.int ve), .val (.int pt), .val (.int nn), .val (.int l0), .val (.int l1), .val (.int l2), .val (.int l3), .val (.int l4), .val (.ref ba), .val (.ref bg), .val (.int f0), .val (.int f1), .val (.int f2), .val (.int f3), .unset, .unset, .unset, .unset, .unset, .unset, .unset] [])) _
        refine XS.iconst X199.here hx rfl (hb hby at_222) ?_
        exact hk
      ·
        by_cases hc201 : l4 = l1
        ·
          refine ⟨(0 : Int32), ((if_pos hc187).trans ((if_neg hc194).trans ((if_pos hc201).trans rfl))).symm, fun t hk => k210 t ?_⟩
          show Steps p.tables e below (T199.setTop (mkF m 187 #[.val (.int sh), .val (.int va), .val (.int vb), .val (.int vc), .val (.int vd), .val (.int ve), .val (.int pt), .val (.int nn), .val (.int l0), .val (.int l1), .val (.int l2), .val (.int l3), .val (.int l4), .val (.ref ba), .val (.ref bg), .val (.int f0), .val (.int f1), .val (.int f2), .val (.int f3), .unset, .unset, .unset, .unset, .unset, .unset, .unset] [(.int (4 : Int32)), (.int nn)])) _
          refine XS.icmpNo X199.here hx rfl (hb hby at_187) rfl (tlt hc187).2.2.2 ?_
          show Steps p.tables e below (T199.setTop (mkF m 190 #[.val (.int sh), .val (.int va), .val (.int vb), .val (.int vc), .val (.int vd), .val (.int ve), .val (.int pt), .val (.int nn), .val (.int l0), .val (.int l1), .val (.int l2), .val (.int l3), .val (.int l4), .val (.ref ba), .val (.ref bg), .val (.int f0), .val (.int f1), .val (.int f2), .val (.int f3), .unset, .unset, .unset, .unset, .unset, .unset, .unset] [])) _
          refine XS.iload X199.here hx rfl (hb hby at_190) rfl ?_
          show Steps p.tables e below (T199.setTop (mkF m 192 #[.val (.int sh), .val (.int va), .val (.int vb), .val (.int vc), .val (.int vd), .val (.int ve), .val (.int pt), .val (.int nn), .val (.int l0), .val (.int l1), .val (.int l2), .val (.int l3), .val (.int l4), .val (.ref ba), .val (.ref bg), .val (.int f0), .val (.int f1), .val (.int f2), .val (.int f3), .unset, .unset, .unset, .unset, .unset, .unset, .unset] [(.int l4)])) _
          refine XS.iload X199.here hx rfl (hb hby at_192) rfl ?_
          show Steps p.tables e below (T199.setTop (mkF m 194 #[.val (.int sh), .val (.int va), .val (.int vb), .val (.int vc), .val (.int vd), .val (.int ve), .val (.int pt), .val (.int nn), .val (.int l0), .val (.int l1), .val (.int l2), .val (.int l3), .val (.int l4), .val (.ref ba), .val (.ref bg), .val (.int f0), .val (.int f1), .val (.int f2), .val (.int f3), .unset, .unset, .unset, .unset, .unset, .unset, .unset] [(.int l0), (.int l4)])) _
          refine XS.icmpNo X199.here hx rfl (hb hby at_194) rfl (feq hc194).1 ?_
          show Steps p.tables e below (T199.setTop (mkF m 197 #[.val (.int sh), .val (.int va), .val (.int vb), .val (.int vc), .val (.int vd), .val (.int ve), .val (.int pt), .val (.int nn), .val (.int l0), .val (.int l1), .val (.int l2), .val (.int l3), .val (.int l4), .val (.ref ba), .val (.ref bg), .val (.int f0), .val (.int f1), .val (.int f2), .val (.int f3), .unset, .unset, .unset, .unset, .unset, .unset, .unset] [])) _
          refine XS.iload X199.here hx rfl (hb hby at_197) rfl ?_
          show Steps p.tables e below (T199.setTop (mkF m 199 #[.val (.int sh), .val (.int va), .val (.int vb), .val (.int vc), .val (.int vd), .val (.int ve), .val (.int pt), .val (.int nn), .val (.int l0), .val (.int l1), .val (.int l2), .val (.int l3), .val (.int l4), .val (.ref ba), .val (.ref bg), .val (.int f0), .val (.int f1), .val (.int f2), .val (.int f3), .unset, .unset, .unset, .unset, .unset, .unset, .unset] [(.int l4)])) _
          refine XS.iload X199.here hx rfl (hb hby at_199) rfl ?_
          show Steps p.tables e below (T199.setTop (mkF m 201 #[.val (.int sh), .val (.int va), .val (.int vb), .val (.int vc), .val (.int vd), .val (.int ve), .val (.int pt), .val (.int nn), .val (.int l0), .val (.int l1), .val (.int l2), .val (.int l3), .val (.int l4), .val (.ref ba), .val (.ref bg), .val (.int f0), .val (.int f1), .val (.int f2), .val (.int f3), .unset, .unset, .unset, .unset, .unset, .unset, .unset] [(.int l1), (.int l4)])) _
          refine XS.icmpYes X199.here hx rfl (pc0 := 201) (pc' := 222) rfl (hb hby at_201) rfl (teq hc201).1 (by decide) (by decide) ?_
          show Steps p.tables e below (T199.setTop (mkF m 222 #[.val (.int sh), .val (.int va), .val (.int vb), .val (.int vc), .val (.int vd), .val (.int ve), .val (.int pt), .val (.int nn), .val (.int l0), .val (.int l1), .val (.int l2), .val (.int l3), .val (.int l4), .val (.ref ba), .val (.ref bg), .val (.int f0), .val (.int f1), .val (.int f2), .val (.int f3), .unset, .unset, .unset, .unset, .unset, .unset, .unset] [])) _
          refine XS.iconst X199.here hx rfl (hb hby at_222) ?_
          exact hk
        ·
          by_cases hc208 : l4 = l2
          ·
            refine ⟨(0 : Int32), ((if_pos hc187).trans ((if_neg hc194).trans ((if_neg hc201).trans ((if_pos hc208).trans rfl)))).symm, fun t hk => k210 t ?_⟩
            show Steps p.tables e below (T199.setTop (mkF m 187 #[.val (.int sh), .val (.int va), .val (.int vb), .val (.int vc), .val (.int vd), .val (.int ve), .val (.int pt), .val (.int nn), .val (.int l0), .val (.int l1), .val (.int l2), .val (.int l3), .val (.int l4), .val (.ref ba), .val (.ref bg), .val (.int f0), .val (.int f1), .val (.int f2), .val (.int f3), .unset, .unset, .unset, .unset, .unset, .unset, .unset] [(.int (4 : Int32)), (.int nn)])) _
            refine XS.icmpNo X199.here hx rfl (hb hby at_187) rfl (tlt hc187).2.2.2 ?_
            show Steps p.tables e below (T199.setTop (mkF m 190 #[.val (.int sh), .val (.int va), .val (.int vb), .val (.int vc), .val (.int vd), .val (.int ve), .val (.int pt), .val (.int nn), .val (.int l0), .val (.int l1), .val (.int l2), .val (.int l3), .val (.int l4), .val (.ref ba), .val (.ref bg), .val (.int f0), .val (.int f1), .val (.int f2), .val (.int f3), .unset, .unset, .unset, .unset, .unset, .unset, .unset] [])) _
            refine XS.iload X199.here hx rfl (hb hby at_190) rfl ?_
            show Steps p.tables e below (T199.setTop (mkF m 192 #[.val (.int sh), .val (.int va), .val (.int vb), .val (.int vc), .val (.int vd), .val (.int ve), .val (.int pt), .val (.int nn), .val (.int l0), .val (.int l1), .val (.int l2), .val (.int l3), .val (.int l4), .val (.ref ba), .val (.ref bg), .val (.int f0), .val (.int f1), .val (.int f2), .val (.int f3), .unset, .unset, .unset, .unset, .unset, .unset, .unset] [(.int l4)])) _
            refine XS.iload X199.here hx rfl (hb hby at_192) rfl ?_
            show Steps p.tables e below (T199.setTop (mkF m 194 #[.val (.int sh), .val (.int va), .val (.int vb), .val (.int vc), .val (.int vd), .val (.int ve), .val (.int pt), .val (.int nn), .val (.int l0), .val (.int l1), .val (.int l2), .val (.int l3), .val (.int l4), .val (.ref ba), .val (.ref bg), .val (.int f0), .val (.int f1), .val (.int f2), .val (.int f3), .unset, .unset, .unset, .unset, .unset, .unset, .unset] [(.int l0), (.int l4)])) _
            refine XS.icmpNo X199.here hx rfl (hb hby at_194) rfl (feq hc194).1 ?_
            show Steps p.tables e below (T199.setTop (mkF m 197 #[.val (.int sh), .val (.int va), .val (.int vb), .val (.int vc), .val (.int vd), .val (.int ve), .val (.int pt), .val (.int nn), .val (.int l0), .val (.int l1), .val (.int l2), .val (.int l3), .val (.int l4), .val (.ref ba), .val (.ref bg), .val (.int f0), .val (.int f1), .val (.int f2), .val (.int f3), .unset, .unset, .unset, .unset, .unset, .unset, .unset] [])) _
            refine XS.iload X199.here hx rfl (hb hby at_197) rfl ?_
            show Steps p.tables e below (T199.setTop (mkF m 199 #[.val (.int sh), .val (.int va), .val (.int vb), .val (.int vc), .val (.int vd), .val (.int ve), .val (.int pt), .val (.int nn), .val (.int l0), .val (.int l1), .val (.int l2), .val (.int l3), .val (.int l4), .val (.ref ba), .val (.ref bg), .val (.int f0), .val (.int f1), .val (.int f2), .val (.int f3), .unset, .unset, .unset, .unset, .unset, .unset, .unset] [(.int l4)])) _
            refine XS.iload X199.here hx rfl (hb hby at_199) rfl ?_
            show Steps p.tables e below (T199.setTop (mkF m 201 #[.val (.int sh), .val (.int va), .val (.int vb), .val (.int vc), .val (.int vd), .val (.int ve), .val (.int pt), .val (.int nn), .val (.int l0), .val (.int l1), .val (.int l2), .val (.int l3), .val (.int l4), .val (.ref ba), .val (.ref bg), .val (.int f0), .val (.int f1), .val (.int f2), .val (.int f3), .unset, .unset, .unset, .unset, .unset, .unset, .unset] [(.int l1), (.int l4)])) _
            refine XS.icmpNo X199.here hx rfl (hb hby at_201) rfl (feq hc201).1 ?_
            show Steps p.tables e below (T199.setTop (mkF m 204 #[.val (.int sh), .val (.int va), .val (.int vb), .val (.int vc), .val (.int vd), .val (.int ve), .val (.int pt), .val (.int nn), .val (.int l0), .val (.int l1), .val (.int l2), .val (.int l3), .val (.int l4), .val (.ref ba), .val (.ref bg), .val (.int f0), .val (.int f1), .val (.int f2), .val (.int f3), .unset, .unset, .unset, .unset, .unset, .unset, .unset] [])) _
            refine XS.iload X199.here hx rfl (hb hby at_204) rfl ?_
            show Steps p.tables e below (T199.setTop (mkF m 206 #[.val (.int sh), .val (.int va), .val (.int vb), .val (.int vc), .val (.int vd), .val (.int ve), .val (.int pt), .val (.int nn), .val (.int l0), .val (.int l1), .val (.int l2), .val (.int l3), .val (.int l4), .val (.ref ba), .val (.ref bg), .val (.int f0), .val (.int f1), .val (.int f2), .val (.int f3), .unset, .unset, .unset, .unset, .unset, .unset, .unset] [(.int l4)])) _
            refine XS.iload X199.here hx rfl (hb hby at_206) rfl ?_
            show Steps p.tables e below (T199.setTop (mkF m 208 #[.val (.int sh), .val (.int va), .val (.int vb), .val (.int vc), .val (.int vd), .val (.int ve), .val (.int pt), .val (.int nn), .val (.int l0), .val (.int l1), .val (.int l2), .val (.int l3), .val (.int l4), .val (.ref ba), .val (.ref bg), .val (.int f0), .val (.int f1), .val (.int f2), .val (.int f3), .unset, .unset, .unset, .unset, .unset, .unset, .unset] [(.int l2), (.int l4)])) _
            refine XS.icmpYes X199.here hx rfl (pc0 := 208) (pc' := 222) rfl (hb hby at_208) rfl (teq hc208).1 (by decide) (by decide) ?_
            show Steps p.tables e below (T199.setTop (mkF m 222 #[.val (.int sh), .val (.int va), .val (.int vb), .val (.int vc), .val (.int vd), .val (.int ve), .val (.int pt), .val (.int nn), .val (.int l0), .val (.int l1), .val (.int l2), .val (.int l3), .val (.int l4), .val (.ref ba), .val (.ref bg), .val (.int f0), .val (.int f1), .val (.int f2), .val (.int f3), .unset, .unset, .unset, .unset, .unset, .unset, .unset] [])) _
            refine XS.iconst X199.here hx rfl (hb hby at_222) ?_
            exact hk
          ·
            by_cases hc215 : l4 = l3
            ·
              refine ⟨(0 : Int32), ((if_pos hc187).trans ((if_neg hc194).trans ((if_neg hc201).trans ((if_neg hc208).trans ((if_pos hc215).trans rfl))))).symm, fun t hk => k210 t ?_⟩
              show Steps p.tables e below (T199.setTop (mkF m 187 #[.val (.int sh), .val (.int va), .val (.int vb), .val (.int vc), .val (.int vd), .val (.int ve), .val (.int pt), .val (.int nn), .val (.int l0), .val (.int l1), .val (.int l2), .val (.int l3), .val (.int l4), .val (.ref ba), .val (.ref bg), .val (.int f0), .val (.int f1), .val (.int f2), .val (.int f3), .unset, .unset, .unset, .unset, .unset, .unset, .unset] [(.int (4 : Int32)), (.int nn)])) _
              refine XS.icmpNo X199.here hx rfl (hb hby at_187) rfl (tlt hc187).2.2.2 ?_
              show Steps p.tables e below (T199.setTop (mkF m 190 #[.val (.int sh), .val (.int va), .val (.int vb), .val (.int vc), .val (.int vd), .val (.int ve), .val (.int pt), .val (.int nn), .val (.int l0), .val (.int l1), .val (.int l2), .val (.int l3), .val (.int l4), .val (.ref ba), .val (.ref bg), .val (.int f0), .val (.int f1), .val (.int f2), .val (.int f3), .unset, .unset, .unset, .unset, .unset, .unset, .unset] [])) _
              refine XS.iload X199.here hx rfl (hb hby at_190) rfl ?_
              show Steps p.tables e below (T199.setTop (mkF m 192 #[.val (.int sh), .val (.int va), .val (.int vb), .val (.int vc), .val (.int vd), .val (.int ve), .val (.int pt), .val (.int nn), .val (.int l0), .val (.int l1), .val (.int l2), .val (.int l3), .val (.int l4), .val (.ref ba), .val (.ref bg), .val (.int f0), .val (.int f1), .val (.int f2), .val (.int f3), .unset, .unset, .unset, .unset, .unset, .unset, .unset] [(.int l4)])) _
              refine XS.iload X199.here hx rfl (hb hby at_192) rfl ?_
              show Steps p.tables e below (T199.setTop (mkF m 194 #[.val (.int sh), .val (.int va), .val (.int vb), .val (.int vc), .val (.int vd), .val (.int ve), .val (.int pt), .val (.int nn), .val (.int l0), .val (.int l1), .val (.int l2), .val (.int l3), .val (.int l4), .val (.ref ba), .val (.ref bg), .val (.int f0), .val (.int f1), .val (.int f2), .val (.int f3), .unset, .unset, .unset, .unset, .unset, .unset, .unset] [(.int l0), (.int l4)])) _
              refine XS.icmpNo X199.here hx rfl (hb hby at_194) rfl (feq hc194).1 ?_
              show Steps p.tables e below (T199.setTop (mkF m 197 #[.val (.int sh), .val (.int va), .val (.int vb), .val (.int vc), .val (.int vd), .val (.int ve), .val (.int pt), .val (.int nn), .val (.int l0), .val (.int l1), .val (.int l2), .val (.int l3), .val (.int l4), .val (.ref ba), .val (.ref bg), .val (.int f0), .val (.int f1), .val (.int f2), .val (.int f3), .unset, .unset, .unset, .unset, .unset, .unset, .unset] [])) _
              refine XS.iload X199.here hx rfl (hb hby at_197) rfl ?_
              show Steps p.tables e below (T199.setTop (mkF m 199 #[.val (.int sh), .val (.int va), .val (.int vb), .val (.int vc), .val (.int vd), .val (.int ve), .val (.int pt), .val (.int nn), .val (.int l0), .val (.int l1), .val (.int l2), .val (.int l3), .val (.int l4), .val (.ref ba), .val (.ref bg), .val (.int f0), .val (.int f1), .val (.int f2), .val (.int f3), .unset, .unset, .unset, .unset, .unset, .unset, .unset] [(.int l4)])) _
              refine XS.iload X199.here hx rfl (hb hby at_199) rfl ?_
              show Steps p.tables e below (T199.setTop (mkF m 201 #[.val (.int sh), .val (.int va), .val (.int vb), .val (.int vc), .val (.int vd), .val (.int ve), .val (.int pt), .val (.int nn), .val (.int l0), .val (.int l1), .val (.int l2), .val (.int l3), .val (.int l4), .val (.ref ba), .val (.ref bg), .val (.int f0), .val (.int f1), .val (.int f2), .val (.int f3), .unset, .unset, .unset, .unset, .unset, .unset, .unset] [(.int l1), (.int l4)])) _
              refine XS.icmpNo X199.here hx rfl (hb hby at_201) rfl (feq hc201).1 ?_
              show Steps p.tables e below (T199.setTop (mkF m 204 #[.val (.int sh), .val (.int va), .val (.int vb), .val (.int vc), .val (.int vd), .val (.int ve), .val (.int pt), .val (.int nn), .val (.int l0), .val (.int l1), .val (.int l2), .val (.int l3), .val (.int l4), .val (.ref ba), .val (.ref bg), .val (.int f0), .val (.int f1), .val (.int f2), .val (.int f3), .unset, .unset, .unset, .unset, .unset, .unset, .unset] [])) _
              refine XS.iload X199.here hx rfl (hb hby at_204) rfl ?_
              show Steps p.tables e below (T199.setTop (mkF m 206 #[.val (.int sh), .val (.int va), .val (.int vb), .val (.int vc), .val (.int vd), .val (.int ve), .val (.int pt), .val (.int nn), .val (.int l0), .val (.int l1), .val (.int l2), .val (.int l3), .val (.int l4), .val (.ref ba), .val (.ref bg), .val (.int f0), .val (.int f1), .val (.int f2), .val (.int f3), .unset, .unset, .unset, .unset, .unset, .unset, .unset] [(.int l4)])) _
              refine XS.iload X199.here hx rfl (hb hby at_206) rfl ?_
              show Steps p.tables e below (T199.setTop (mkF m 208 #[.val (.int sh), .val (.int va), .val (.int vb), .val (.int vc), .val (.int vd), .val (.int ve), .val (.int pt), .val (.int nn), .val (.int l0), .val (.int l1), .val (.int l2), .val (.int l3), .val (.int l4), .val (.ref ba), .val (.ref bg), .val (.int f0), .val (.int f1), .val (.int f2), .val (.int f3), .unset, .unset, .unset, .unset, .unset, .unset, .unset] [(.int l2), (.int l4)])) _
              refine XS.icmpNo X199.here hx rfl (hb hby at_208) rfl (feq hc208).1 ?_
              show Steps p.tables e below (T199.setTop (mkF m 211 #[.val (.int sh), .val (.int va), .val (.int vb), .val (.int vc), .val (.int vd), .val (.int ve), .val (.int pt), .val (.int nn), .val (.int l0), .val (.int l1), .val (.int l2), .val (.int l3), .val (.int l4), .val (.ref ba), .val (.ref bg), .val (.int f0), .val (.int f1), .val (.int f2), .val (.int f3), .unset, .unset, .unset, .unset, .unset, .unset, .unset] [])) _
              refine XS.iload X199.here hx rfl (hb hby at_211) rfl ?_
              show Steps p.tables e below (T199.setTop (mkF m 213 #[.val (.int sh), .val (.int va), .val (.int vb), .val (.int vc), .val (.int vd), .val (.int ve), .val (.int pt), .val (.int nn), .val (.int l0), .val (.int l1), .val (.int l2), .val (.int l3), .val (.int l4), .val (.ref ba), .val (.ref bg), .val (.int f0), .val (.int f1), .val (.int f2), .val (.int f3), .unset, .unset, .unset, .unset, .unset, .unset, .unset] [(.int l4)])) _
              refine XS.iload X199.here hx rfl (hb hby at_213) rfl ?_
              show Steps p.tables e below (T199.setTop (mkF m 215 #[.val (.int sh), .val (.int va), .val (.int vb), .val (.int vc), .val (.int vd), .val (.int ve), .val (.int pt), .val (.int nn), .val (.int l0), .val (.int l1), .val (.int l2), .val (.int l3), .val (.int l4), .val (.ref ba), .val (.ref bg), .val (.int f0), .val (.int f1), .val (.int f2), .val (.int f3), .unset, .unset, .unset, .unset, .unset, .unset, .unset] [(.int l3), (.int l4)])) _
              refine XS.icmpYes X199.here hx rfl (pc0 := 215) (pc' := 222) rfl (hb hby at_215) rfl (teq hc215).1 (by decide) (by decide) ?_
              show Steps p.tables e below (T199.setTop (mkF m 222 #[.val (.int sh), .val (.int va), .val (.int vb), .val (.int vc), .val (.int vd), .val (.int ve), .val (.int pt), .val (.int nn), .val (.int l0), .val (.int l1), .val (.int l2), .val (.int l3), .val (.int l4), .val (.ref ba), .val (.ref bg), .val (.int f0), .val (.int f1), .val (.int f2), .val (.int f3), .unset, .unset, .unset, .unset, .unset, .unset, .unset] [])) _
              refine XS.iconst X199.here hx rfl (hb hby at_222) ?_
              exact hk
            ·
              refine ⟨(1 : Int32), ((if_pos hc187).trans ((if_neg hc194).trans ((if_neg hc201).trans ((if_neg hc208).trans ((if_neg hc215).trans rfl))))).symm, fun t hk => k210 t ?_⟩
              show Steps p.tables e below (T199.setTop (mkF m 187 #[.val (.int sh), .val (.int va), .val (.int vb), .val (.int vc), .val (.int vd), .val (.int ve), .val (.int pt), .val (.int nn), .val (.int l0), .val (.int l1), .val (.int l2), .val (.int l3), .val (.int l4), .val (.ref ba), .val (.ref bg), .val (.int f0), .val (.int f1), .val (.int f2), .val (.int f3), .unset, .unset, .unset, .unset, .unset, .unset, .unset] [(.int (4 : Int32)), (.int nn)])) _
              refine XS.icmpNo X199.here hx rfl (hb hby at_187) rfl (tlt hc187).2.2.2 ?_
              show Steps p.tables e below (T199.setTop (mkF m 190 #[.val (.int sh), .val (.int va), .val (.int vb), .val (.int vc), .val (.int vd), .val (.int ve), .val (.int pt), .val (.int nn), .val (.int l0), .val (.int l1), .val (.int l2), .val (.int l3), .val (.int l4), .val (.ref ba), .val (.ref bg), .val (.int f0), .val (.int f1), .val (.int f2), .val (.int f3), .unset, .unset, .unset, .unset, .unset, .unset, .unset] [])) _
              refine XS.iload X199.here hx rfl (hb hby at_190) rfl ?_
              show Steps p.tables e below (T199.setTop (mkF m 192 #[.val (.int sh), .val (.int va), .val (.int vb), .val (.int vc), .val (.int vd), .val (.int ve), .val (.int pt), .val (.int nn), .val (.int l0), .val (.int l1), .val (.int l2), .val (.int l3), .val (.int l4), .val (.ref ba), .val (.ref bg), .val (.int f0), .val (.int f1), .val (.int f2), .val (.int f3), .unset, .unset, .unset, .unset, .unset, .unset, .unset] [(.int l4)])) _
              refine XS.iload X199.here hx rfl (hb hby at_192) rfl ?_
              show Steps p.tables e below (T199.setTop (mkF m 194 #[.val (.int sh), .val (.int va), .val (.int vb), .val (.int vc), .val (.int vd), .val (.int ve), .val (.int pt), .val (.int nn), .val (.int l0), .val (.int l1), .val (.int l2), .val (.int l3), .val (.int l4), .val (.ref ba), .val (.ref bg), .val (.int f0), .val (.int f1), .val (.int f2), .val (.int f3), .unset, .unset, .unset, .unset, .unset, .unset, .unset] [(.int l0), (.int l4)])) _
              refine XS.icmpNo X199.here hx rfl (hb hby at_194) rfl (feq hc194).1 ?_
              show Steps p.tables e below (T199.setTop (mkF m 197 #[.val (.int sh), .val (.int va), .val (.int vb), .val (.int vc), .val (.int vd), .val (.int ve), .val (.int pt), .val (.int nn), .val (.int l0), .val (.int l1), .val (.int l2), .val (.int l3), .val (.int l4), .val (.ref ba), .val (.ref bg), .val (.int f0), .val (.int f1), .val (.int f2), .val (.int f3), .unset, .unset, .unset, .unset, .unset, .unset, .unset] [])) _
              refine XS.iload X199.here hx rfl (hb hby at_197) rfl ?_
              show Steps p.tables e below (T199.setTop (mkF m 199 #[.val (.int sh), .val (.int va), .val (.int vb), .val (.int vc), .val (.int vd), .val (.int ve), .val (.int pt), .val (.int nn), .val (.int l0), .val (.int l1), .val (.int l2), .val (.int l3), .val (.int l4), .val (.ref ba), .val (.ref bg), .val (.int f0), .val (.int f1), .val (.int f2), .val (.int f3), .unset, .unset, .unset, .unset, .unset, .unset, .unset] [(.int l4)])) _
              refine XS.iload X199.here hx rfl (hb hby at_199) rfl ?_
              show Steps p.tables e below (T199.setTop (mkF m 201 #[.val (.int sh), .val (.int va), .val (.int vb), .val (.int vc), .val (.int vd), .val (.int ve), .val (.int pt), .val (.int nn), .val (.int l0), .val (.int l1), .val (.int l2), .val (.int l3), .val (.int l4), .val (.ref ba), .val (.ref bg), .val (.int f0), .val (.int f1), .val (.int f2), .val (.int f3), .unset, .unset, .unset, .unset, .unset, .unset, .unset] [(.int l1), (.int l4)])) _
              refine XS.icmpNo X199.here hx rfl (hb hby at_201) rfl (feq hc201).1 ?_
              show Steps p.tables e below (T199.setTop (mkF m 204 #[.val (.int sh), .val (.int va), .val (.int vb), .val (.int vc), .val (.int vd), .val (.int ve), .val (.int pt), .val (.int nn), .val (.int l0), .val (.int l1), .val (.int l2), .val (.int l3), .val (.int l4), .val (.ref ba), .val (.ref bg), .val (.int f0), .val (.int f1), .val (.int f2), .val (.int f3), .unset, .unset, .unset, .unset, .unset, .unset, .unset] [])) _
              refine XS.iload X199.here hx rfl (hb hby at_204) rfl ?_
              show Steps p.tables e below (T199.setTop (mkF m 206 #[.val (.int sh), .val (.int va), .val (.int vb), .val (.int vc), .val (.int vd), .val (.int ve), .val (.int pt), .val (.int nn), .val (.int l0), .val (.int l1), .val (.int l2), .val (.int l3), .val (.int l4), .val (.ref ba), .val (.ref bg), .val (.int f0), .val (.int f1), .val (.int f2), .val (.int f3), .unset, .unset, .unset, .unset, .unset, .unset, .unset] [(.int l4)])) _
              refine XS.iload X199.here hx rfl (hb hby at_206) rfl ?_
              show Steps p.tables e below (T199.setTop (mkF m 208 #[.val (.int sh), .val (.int va), .val (.int vb), .val (.int vc), .val (.int vd), .val (.int ve), .val (.int pt), .val (.int nn), .val (.int l0), .val (.int l1), .val (.int l2), .val (.int l3), .val (.int l4), .val (.ref ba), .val (.ref bg), .val (.int f0), .val (.int f1), .val (.int f2), .val (.int f3), .unset, .unset, .unset, .unset, .unset, .unset, .unset] [(.int l2), (.int l4)])) _
              refine XS.icmpNo X199.here hx rfl (hb hby at_208) rfl (feq hc208).1 ?_
              show Steps p.tables e below (T199.setTop (mkF m 211 #[.val (.int sh), .val (.int va), .val (.int vb), .val (.int vc), .val (.int vd), .val (.int ve), .val (.int pt), .val (.int nn), .val (.int l0), .val (.int l1), .val (.int l2), .val (.int l3), .val (.int l4), .val (.ref ba), .val (.ref bg), .val (.int f0), .val (.int f1), .val (.int f2), .val (.int f3), .unset, .unset, .unset, .unset, .unset, .unset, .unset] [])) _
              refine XS.iload X199.here hx rfl (hb hby at_211) rfl ?_
              show Steps p.tables e below (T199.setTop (mkF m 213 #[.val (.int sh), .val (.int va), .val (.int vb), .val (.int vc), .val (.int vd), .val (.int ve), .val (.int pt), .val (.int nn), .val (.int l0), .val (.int l1), .val (.int l2), .val (.int l3), .val (.int l4), .val (.ref ba), .val (.ref bg), .val (.int f0), .val (.int f1), .val (.int f2), .val (.int f3), .unset, .unset, .unset, .unset, .unset, .unset, .unset] [(.int l4)])) _
              refine XS.iload X199.here hx rfl (hb hby at_213) rfl ?_
              show Steps p.tables e below (T199.setTop (mkF m 215 #[.val (.int sh), .val (.int va), .val (.int vb), .val (.int vc), .val (.int vd), .val (.int ve), .val (.int pt), .val (.int nn), .val (.int l0), .val (.int l1), .val (.int l2), .val (.int l3), .val (.int l4), .val (.ref ba), .val (.ref bg), .val (.int f0), .val (.int f1), .val (.int f2), .val (.int f3), .unset, .unset, .unset, .unset, .unset, .unset, .unset] [(.int l3), (.int l4)])) _
              refine XS.icmpNo X199.here hx rfl (hb hby at_215) rfl (feq hc215).1 ?_
              show Steps p.tables e below (T199.setTop (mkF m 218 #[.val (.int sh), .val (.int va), .val (.int vb), .val (.int vc), .val (.int vd), .val (.int ve), .val (.int pt), .val (.int nn), .val (.int l0), .val (.int l1), .val (.int l2), .val (.int l3), .val (.int l4), .val (.ref ba), .val (.ref bg), .val (.int f0), .val (.int f1), .val (.int f2), .val (.int f3), .unset, .unset, .unset, .unset, .unset, .unset, .unset] [])) _
              refine XS.iconst X199.here hx rfl (hb hby at_218) ?_
              show Steps p.tables e below (T199.setTop (mkF m 219 #[.val (.int sh), .val (.int va), .val (.int vb), .val (.int vc), .val (.int vd), .val (.int ve), .val (.int pt), .val (.int nn), .val (.int l0), .val (.int l1), .val (.int l2), .val (.int l3), .val (.int l4), .val (.ref ba), .val (.ref bg), .val (.int f0), .val (.int f1), .val (.int f2), .val (.int f3), .unset, .unset, .unset, .unset, .unset, .unset, .unset] [(.int (1 : Int32))])) _
              refine XS.goto X199.here hx rfl (pc0 := 219) (pc' := 223) rfl (hb hby at_219) (by decide) (by decide) ?_
              exact hk
    ·
      refine ⟨(0 : Int32), ((if_neg hc187).trans rfl).symm, fun t hk => k210 t ?_⟩
      show Steps p.tables e below (T199.setTop (mkF m 187 #[.val (.int sh), .val (.int va), .val (.int vb), .val (.int vc), .val (.int vd), .val (.int ve), .val (.int pt), .val (.int nn), .val (.int l0), .val (.int l1), .val (.int l2), .val (.int l3), .val (.int l4), .val (.ref ba), .val (.ref bg), .val (.int f0), .val (.int f1), .val (.int f2), .val (.int f3), .unset, .unset, .unset, .unset, .unset, .unset, .unset] [(.int (4 : Int32)), (.int nn)])) _
      refine XS.icmpYes X199.here hx rfl (pc0 := 187) (pc' := 222) rfl (hb hby at_187) rfl (flt hc187).2.2.2 (by decide) (by decide) ?_
      show Steps p.tables e below (T199.setTop (mkF m 222 #[.val (.int sh), .val (.int va), .val (.int vb), .val (.int vc), .val (.int vd), .val (.int ve), .val (.int pt), .val (.int nn), .val (.int l0), .val (.int l1), .val (.int l2), .val (.int l3), .val (.int l4), .val (.ref ba), .val (.ref bg), .val (.int f0), .val (.int f1), .val (.int f2), .val (.int f3), .unset, .unset, .unset, .unset, .unset, .unset, .unset] [])) _
      refine XS.iconst X199.here hx rfl (hb hby at_222) ?_
      exact hk
  have k212 : ∀ t, Steps p.tables e below (T199.setTop (mkF m 227 #[.val (.int sh), .val (.int va), .val (.int vb), .val (.int vc), .val (.int vd), .val (.int ve), .val (.int pt), .val (.int nn), .val (.int l0), .val (.int l1), .val (.int l2), .val (.int l3), .val (.int l4), .val (.ref ba), .val (.ref bg), .val (.int f0), .val (.int f1), .val (.int f2), .val (.int f3), .val (.int f4), .unset, .unset, .unset, .unset, .unset, .unset] [(.int f0)])) t → Steps p.tables e below (s₁.setTop (entryFrame m #[(.int sh), (.int va), (.int vb), (.int vc), (.int vd), (.int ve)] maxLocals)) t := fun t hk => k211 t (by
    show Steps p.tables e below (T199.setTop (mkF m 223 #[.val (.int sh), .val (.int va), .val (.int vb), .val (.int vc), .val (.int vd), .val (.int ve), .val (.int pt), .val (.int nn), .val (.int l0), .val (.int l1), .val (.int l2), .val (.int l3), .val (.int l4), .val (.ref ba), .val (.ref bg), .val (.int f0), .val (.int f1), .val (.int f2), .val (.int f3), .unset, .unset, .unset, .unset, .unset, .unset, .unset] [(.int f4)])) _
    refine XS.istore X199.here hx rfl (hb hby at_223) rfl (l' := #[.val (.int sh), .val (.int va), .val (.int vb), .val (.int vc), .val (.int vd), .val (.int ve), .val (.int pt), .val (.int nn), .val (.int l0), .val (.int l1), .val (.int l2), .val (.int l3), .val (.int l4), .val (.ref ba), .val (.ref bg), .val (.int f0), .val (.int f1), .val (.int f2), .val (.int f3), .val (.int f4), .unset, .unset, .unset, .unset, .unset, .unset]) rfl ?_
    show Steps p.tables e below (T199.setTop (mkF m 225 #[.val (.int sh), .val (.int va), .val (.int vb), .val (.int vc), .val (.int vd), .val (.int ve), .val (.int pt), .val (.int nn), .val (.int l0), .val (.int l1), .val (.int l2), .val (.int l3), .val (.int l4), .val (.ref ba), .val (.ref bg), .val (.int f0), .val (.int f1), .val (.int f2), .val (.int f3), .val (.int f4), .unset, .unset, .unset, .unset, .unset, .unset] [])) _
    refine XS.iload X199.here hx rfl (hb hby at_225) rfl ?_
    exact hk)
  obtain ⟨r0, hr0, k213⟩ : ∃ (r0 : Int32), (r0 = (if f0 = (0 : Int32) then (0 : Int32) else (1 : Int32))) ∧ ∀ t, Steps p.tables e below (T199.setTop (mkF m 235 #[.val (.int sh), .val (.int va), .val (.int vb), .val (.int vc), .val (.int vd), .val (.int ve), .val (.int pt), .val (.int nn), .val (.int l0), .val (.int l1), .val (.int l2), .val (.int l3), .val (.int l4), .val (.ref ba), .val (.ref bg), .val (.int f0), .val (.int f1), .val (.int f2), .val (.int f3), .val (.int f4), .unset, .unset, .unset, .unset, .unset, .unset] [(.int r0)])) t → Steps p.tables e below (s₁.setTop (entryFrame m #[(.int sh), (.int va), (.int vb), (.int vc), (.int vd), (.int ve)] maxLocals)) t := by
    by_cases hc227 : f0 = (0 : Int32)
    ·
      refine ⟨(0 : Int32), ((if_pos hc227).trans rfl).symm, fun t hk => k212 t ?_⟩
      show Steps p.tables e below (T199.setTop (mkF m 227 #[.val (.int sh), .val (.int va), .val (.int vb), .val (.int vc), .val (.int vd), .val (.int ve), .val (.int pt), .val (.int nn), .val (.int l0), .val (.int l1), .val (.int l2), .val (.int l3), .val (.int l4), .val (.ref ba), .val (.ref bg), .val (.int f0), .val (.int f1), .val (.int f2), .val (.int f3), .val (.int f4), .unset, .unset, .unset, .unset, .unset, .unset] [(.int f0)])) _
      refine XS.ifYes X199.here hx rfl (pc0 := 227) (pc' := 234) rfl (hb hby at_227) rfl ((if0 _ _).trans (teq hc227).1) (by decide) (by decide) ?_
      show Steps p.tables e below (T199.setTop (mkF m 234 #[.val (.int sh), .val (.int va), .val (.int vb), .val (.int vc), .val (.int vd), .val (.int ve), .val (.int pt), .val (.int nn), .val (.int l0), .val (.int l1), .val (.int l2), .val (.int l3), .val (.int l4), .val (.ref ba), .val (.ref bg), .val (.int f0), .val (.int f1), .val (.int f2), .val (.int f3), .val (.int f4), .unset, .unset, .unset, .unset, .unset, .unset] [])) _
      refine XS.iconst X199.here hx rfl (hb hby at_234) ?_
      exact hk
    ·
      refine ⟨(1 : Int32), ((if_neg hc227).trans rfl).symm, fun t hk => k212 t ?_⟩
      show Steps p.tables e below (T199.setTop (mkF m 227 #[.val (.int sh), .val (.int va), .val (.int vb), .val (.int vc), .val (.int vd), .val (.int ve), .val (.int pt), .val (.int nn), .val (.int l0), .val (.int l1), .val (.int l2), .val (.int l3), .val (.int l4), .val (.ref ba), .val (.ref bg), .val (.int f0), .val (.int f1), .val (.int f2), .val (.int f3), .val (.int f4), .unset, .unset, .unset, .unset, .unset, .unset] [(.int f0)])) _
      refine XS.ifNo X199.here hx rfl (hb hby at_227) rfl ((if0 _ _).trans (feq hc227).1) ?_
      show Steps p.tables e below (T199.setTop (mkF m 230 #[.val (.int sh), .val (.int va), .val (.int vb), .val (.int vc), .val (.int vd), .val (.int ve), .val (.int pt), .val (.int nn), .val (.int l0), .val (.int l1), .val (.int l2), .val (.int l3), .val (.int l4), .val (.ref ba), .val (.ref bg), .val (.int f0), .val (.int f1), .val (.int f2), .val (.int f3), .val (.int f4), .unset, .unset, .unset, .unset, .unset, .unset] [])) _
      refine XS.iconst X199.here hx rfl (hb hby at_230) ?_
      show Steps p.tables e below (T199.setTop (mkF m 231 #[.val (.int sh), .val (.int va), .val (.int vb), .val (.int vc), .val (.int vd), .val (.int ve), .val (.int pt), .val (.int nn), .val (.int l0), .val (.int l1), .val (.int l2), .val (.int l3), .val (.int l4), .val (.ref ba), .val (.ref bg), .val (.int f0), .val (.int f1), .val (.int f2), .val (.int f3), .val (.int f4), .unset, .unset, .unset, .unset, .unset, .unset] [(.int (1 : Int32))])) _
      refine XS.goto X199.here hx rfl (pc0 := 231) (pc' := 235) rfl (hb hby at_231) (by decide) (by decide) ?_
      exact hk
  have k214 : ∀ t, Steps p.tables e below (T199.setTop (mkF m 241 #[.val (.int sh), .val (.int va), .val (.int vb), .val (.int vc), .val (.int vd), .val (.int ve), .val (.int pt), .val (.int nn), .val (.int l0), .val (.int l1), .val (.int l2), .val (.int l3), .val (.int l4), .val (.ref ba), .val (.ref bg), .val (.int f0), .val (.int f1), .val (.int f2), .val (.int f3), .val (.int f4), .val (.int r0), .unset, .unset, .unset, .unset, .unset] [(.int f1), (.int r0)])) t → Steps p.tables e below (s₁.setTop (entryFrame m #[(.int sh), (.int va), (.int vb), (.int vc), (.int vd), (.int ve)] maxLocals)) t := fun t hk => k213 t (by
    show Steps p.tables e below (T199.setTop (mkF m 235 #[.val (.int sh), .val (.int va), .val (.int vb), .val (.int vc), .val (.int vd), .val (.int ve), .val (.int pt), .val (.int nn), .val (.int l0), .val (.int l1), .val (.int l2), .val (.int l3), .val (.int l4), .val (.ref ba), .val (.ref bg), .val (.int f0), .val (.int f1), .val (.int f2), .val (.int f3), .val (.int f4), .unset, .unset, .unset, .unset, .unset, .unset] [(.int r0)])) _
    refine XS.istore X199.here hx rfl (hb hby at_235) rfl (l' := #[.val (.int sh), .val (.int va), .val (.int vb), .val (.int vc), .val (.int vd), .val (.int ve), .val (.int pt), .val (.int nn), .val (.int l0), .val (.int l1), .val (.int l2), .val (.int l3), .val (.int l4), .val (.ref ba), .val (.ref bg), .val (.int f0), .val (.int f1), .val (.int f2), .val (.int f3), .val (.int f4), .val (.int r0), .unset, .unset, .unset, .unset, .unset]) rfl ?_
    show Steps p.tables e below (T199.setTop (mkF m 237 #[.val (.int sh), .val (.int va), .val (.int vb), .val (.int vc), .val (.int vd), .val (.int ve), .val (.int pt), .val (.int nn), .val (.int l0), .val (.int l1), .val (.int l2), .val (.int l3), .val (.int l4), .val (.ref ba), .val (.ref bg), .val (.int f0), .val (.int f1), .val (.int f2), .val (.int f3), .val (.int f4), .val (.int r0), .unset, .unset, .unset, .unset, .unset] [])) _
    refine XS.iload X199.here hx rfl (hb hby at_237) rfl ?_
    show Steps p.tables e below (T199.setTop (mkF m 239 #[.val (.int sh), .val (.int va), .val (.int vb), .val (.int vc), .val (.int vd), .val (.int ve), .val (.int pt), .val (.int nn), .val (.int l0), .val (.int l1), .val (.int l2), .val (.int l3), .val (.int l4), .val (.ref ba), .val (.ref bg), .val (.int f0), .val (.int f1), .val (.int f2), .val (.int f3), .val (.int f4), .val (.int r0), .unset, .unset, .unset, .unset, .unset] [(.int r0)])) _
    refine XS.iload X199.here hx rfl (hb hby at_239) rfl ?_
    exact hk)
  obtain ⟨d1, hd1, k215⟩ : ∃ (d1 : Int32), (d1 = (if f1 = (0 : Int32) then (0 : Int32) else (1 : Int32))) ∧ ∀ t, Steps p.tables e below (T199.setTop (mkF m 249 #[.val (.int sh), .val (.int va), .val (.int vb), .val (.int vc), .val (.int vd), .val (.int ve), .val (.int pt), .val (.int nn), .val (.int l0), .val (.int l1), .val (.int l2), .val (.int l3), .val (.int l4), .val (.ref ba), .val (.ref bg), .val (.int f0), .val (.int f1), .val (.int f2), .val (.int f3), .val (.int f4), .val (.int r0), .unset, .unset, .unset, .unset, .unset] [(.int d1), (.int r0)])) t → Steps p.tables e below (s₁.setTop (entryFrame m #[(.int sh), (.int va), (.int vb), (.int vc), (.int vd), (.int ve)] maxLocals)) t := by
    by_cases hc241 : f1 = (0 : Int32)
    ·
      refine ⟨(0 : Int32), ((if_pos hc241).trans rfl).symm, fun t hk => k214 t ?_⟩
      show Steps p.tables e below (T199.setTop (mkF m 241 #[.val (.int sh), .val (.int va), .val (.int vb), .val (.int vc), .val (.int vd), .val (.int ve), .val (.int pt), .val (.int nn), .val (.int l0), .val (.int l1), .val (.int l2), .val (.int l3), .val (.int l4), .val (.ref ba), .val (.ref bg), .val (.int f0), .val (.int f1), .val (.int f2), .val (.int f3), .val (.int f4), .val (.int r0), .unset, .unset, .unset, .unset, .unset] [(.int f1), (.int r0)])) _
      refine XS.ifYes X199.here hx rfl (pc0 := 241) (pc' := 248) rfl (hb hby at_241) rfl ((if0 _ _).trans (teq hc241).1) (by decide) (by decide) ?_
      show Steps p.tables e below (T199.setTop (mkF m 248 #[.val (.int sh), .val (.int va), .val (.int vb), .val (.int vc), .val (.int vd), .val (.int ve), .val (.int pt), .val (.int nn), .val (.int l0), .val (.int l1), .val (.int l2), .val (.int l3), .val (.int l4), .val (.ref ba), .val (.ref bg), .val (.int f0), .val (.int f1), .val (.int f2), .val (.int f3), .val (.int f4), .val (.int r0), .unset, .unset, .unset, .unset, .unset] [(.int r0)])) _
      refine XS.iconst X199.here hx rfl (hb hby at_248) ?_
      exact hk
    ·
      refine ⟨(1 : Int32), ((if_neg hc241).trans rfl).symm, fun t hk => k214 t ?_⟩
      show Steps p.tables e below (T199.setTop (mkF m 241 #[.val (.int sh), .val (.int va), .val (.int vb), .val (.int vc), .val (.int vd), .val (.int ve), .val (.int pt), .val (.int nn), .val (.int l0), .val (.int l1), .val (.int l2), .val (.int l3), .val (.int l4), .val (.ref ba), .val (.ref bg), .val (.int f0), .val (.int f1), .val (.int f2), .val (.int f3), .val (.int f4), .val (.int r0), .unset, .unset, .unset, .unset, .unset] [(.int f1), (.int r0)])) _
      refine XS.ifNo X199.here hx rfl (hb hby at_241) rfl ((if0 _ _).trans (feq hc241).1) ?_
      show Steps p.tables e below (T199.setTop (mkF m 244 #[.val (.int sh), .val (.int va), .val (.int vb), .val (.int vc), .val (.int vd), .val (.int ve), .val (.int pt), .val (.int nn), .val (.int l0), .val (.int l1), .val (.int l2), .val (.int l3), .val (.int l4), .val (.ref ba), .val (.ref bg), .val (.int f0), .val (.int f1), .val (.int f2), .val (.int f3), .val (.int f4), .val (.int r0), .unset, .unset, .unset, .unset, .unset] [(.int r0)])) _
      refine XS.iconst X199.here hx rfl (hb hby at_244) ?_
      show Steps p.tables e below (T199.setTop (mkF m 245 #[.val (.int sh), .val (.int va), .val (.int vb), .val (.int vc), .val (.int vd), .val (.int ve), .val (.int pt), .val (.int nn), .val (.int l0), .val (.int l1), .val (.int l2), .val (.int l3), .val (.int l4), .val (.ref ba), .val (.ref bg), .val (.int f0), .val (.int f1), .val (.int f2), .val (.int f3), .val (.int f4), .val (.int r0), .unset, .unset, .unset, .unset, .unset] [(.int (1 : Int32)), (.int r0)])) _
      refine XS.goto X199.here hx rfl (pc0 := 245) (pc' := 249) rfl (hb hby at_245) (by decide) (by decide) ?_
      exact hk
  have k216 : ∀ t, Steps p.tables e below (T199.setTop (mkF m 252 #[.val (.int sh), .val (.int va), .val (.int vb), .val (.int vc), .val (.int vd), .val (.int ve), .val (.int pt), .val (.int nn), .val (.int l0), .val (.int l1), .val (.int l2), .val (.int l3), .val (.int l4), .val (.ref ba), .val (.ref bg), .val (.int f0), .val (.int f1), .val (.int f2), .val (.int f3), .val (.int f4), .val (.int r0), .val (.int (r0 + d1)), .unset, .unset, .unset, .unset] [])) t → Steps p.tables e below (s₁.setTop (entryFrame m #[(.int sh), (.int va), (.int vb), (.int vc), (.int vd), (.int ve)] maxLocals)) t := fun t hk => k215 t (by
    show Steps p.tables e below (T199.setTop (mkF m 249 #[.val (.int sh), .val (.int va), .val (.int vb), .val (.int vc), .val (.int vd), .val (.int ve), .val (.int pt), .val (.int nn), .val (.int l0), .val (.int l1), .val (.int l2), .val (.int l3), .val (.int l4), .val (.ref ba), .val (.ref bg), .val (.int f0), .val (.int f1), .val (.int f2), .val (.int f3), .val (.int f4), .val (.int r0), .unset, .unset, .unset, .unset, .unset] [(.int d1), (.int r0)])) _
    refine XS.iadd X199.here hx rfl (hb hby at_249) rfl ?_
    show Steps p.tables e below (T199.setTop (mkF m 250 #[.val (.int sh), .val (.int va), .val (.int vb), .val (.int vc), .val (.int vd), .val (.int ve), .val (.int pt), .val (.int nn), .val (.int l0), .val (.int l1), .val (.int l2), .val (.int l3), .val (.int l4), .val (.ref ba), .val (.ref bg), .val (.int f0), .val (.int f1), .val (.int f2), .val (.int f3), .val (.int f4), .val (.int r0), .unset, .unset, .unset, .unset, .unset] [(.int (r0 + d1))])) _
    refine XS.istore X199.here hx rfl (hb hby at_250) rfl (l' := #[.val (.int sh), .val (.int va), .val (.int vb), .val (.int vc), .val (.int vd), .val (.int ve), .val (.int pt), .val (.int nn), .val (.int l0), .val (.int l1), .val (.int l2), .val (.int l3), .val (.int l4), .val (.ref ba), .val (.ref bg), .val (.int f0), .val (.int f1), .val (.int f2), .val (.int f3), .val (.int f4), .val (.int r0), .val (.int (r0 + d1)), .unset, .unset, .unset, .unset]) rfl ?_
    exact hk)
  obtain ⟨r1, hr1, k217⟩ : ∃ (r1 : Int32), r1 = (r0 + d1) ∧ ∀ t, Steps p.tables e below (T199.setTop (mkF m 252 #[.val (.int sh), .val (.int va), .val (.int vb), .val (.int vc), .val (.int vd), .val (.int ve), .val (.int pt), .val (.int nn), .val (.int l0), .val (.int l1), .val (.int l2), .val (.int l3), .val (.int l4), .val (.ref ba), .val (.ref bg), .val (.int f0), .val (.int f1), .val (.int f2), .val (.int f3), .val (.int f4), .val (.int r0), .val (.int r1), .unset, .unset, .unset, .unset] [])) t → Steps p.tables e below (s₁.setTop (entryFrame m #[(.int sh), (.int va), (.int vb), (.int vc), (.int vd), (.int ve)] maxLocals)) t := ⟨(r0 + d1), rfl, k216⟩
  have k218 : ∀ t, Steps p.tables e below (T199.setTop (mkF m 256 #[.val (.int sh), .val (.int va), .val (.int vb), .val (.int vc), .val (.int vd), .val (.int ve), .val (.int pt), .val (.int nn), .val (.int l0), .val (.int l1), .val (.int l2), .val (.int l3), .val (.int l4), .val (.ref ba), .val (.ref bg), .val (.int f0), .val (.int f1), .val (.int f2), .val (.int f3), .val (.int f4), .val (.int r0), .val (.int r1), .unset, .unset, .unset, .unset] [(.int f2), (.int r1)])) t → Steps p.tables e below (s₁.setTop (entryFrame m #[(.int sh), (.int va), (.int vb), (.int vc), (.int vd), (.int ve)] maxLocals)) t := fun t hk => k217 t (by
    show Steps p.tables e below (T199.setTop (mkF m 252 #[.val (.int sh), .val (.int va), .val (.int vb), .val (.int vc), .val (.int vd), .val (.int ve), .val (.int pt), .val (.int nn), .val (.int l0), .val (.int l1), .val (.int l2), .val (.int l3), .val (.int l4), .val (.ref ba), .val (.ref bg), .val (.int f0), .val (.int f1), .val (.int f2), .val (.int f3), .val (.int f4), .val (.int r0), .val (.int r1), .unset, .unset, .unset, .unset] [])) _
    refine XS.iload X199.here hx rfl (hb hby at_252) rfl ?_
    show Steps p.tables e below (T199.setTop (mkF m 254 #[.val (.int sh), .val (.int va), .val (.int vb), .val (.int vc), .val (.int vd), .val (.int ve), .val (.int pt), .val (.int nn), .val (.int l0), .val (.int l1), .val (.int l2), .val (.int l3), .val (.int l4), .val (.ref ba), .val (.ref bg), .val (.int f0), .val (.int f1), .val (.int f2), .val (.int f3), .val (.int f4), .val (.int r0), .val (.int r1), .unset, .unset, .unset, .unset] [(.int r1)])) _
    refine XS.iload X199.here hx rfl (hb hby at_254) rfl ?_
    exact hk)
  obtain ⟨d2, hd2, k219⟩ : ∃ (d2 : Int32), (d2 = (if f2 = (0 : Int32) then (0 : Int32) else (1 : Int32))) ∧ ∀ t, Steps p.tables e below (T199.setTop (mkF m 264 #[.val (.int sh), .val (.int va), .val (.int vb), .val (.int vc), .val (.int vd), .val (.int ve), .val (.int pt), .val (.int nn), .val (.int l0), .val (.int l1), .val (.int l2), .val (.int l3), .val (.int l4), .val (.ref ba), .val (.ref bg), .val (.int f0), .val (.int f1), .val (.int f2), .val (.int f3), .val (.int f4), .val (.int r0), .val (.int r1), .unset, .unset, .unset, .unset] [(.int d2), (.int r1)])) t → Steps p.tables e below (s₁.setTop (entryFrame m #[(.int sh), (.int va), (.int vb), (.int vc), (.int vd), (.int ve)] maxLocals)) t := by
    by_cases hc256 : f2 = (0 : Int32)
    ·
      refine ⟨(0 : Int32), ((if_pos hc256).trans rfl).symm, fun t hk => k218 t ?_⟩
      show Steps p.tables e below (T199.setTop (mkF m 256 #[.val (.int sh), .val (.int va), .val (.int vb), .val (.int vc), .val (.int vd), .val (.int ve), .val (.int pt), .val (.int nn), .val (.int l0), .val (.int l1), .val (.int l2), .val (.int l3), .val (.int l4), .val (.ref ba), .val (.ref bg), .val (.int f0), .val (.int f1), .val (.int f2), .val (.int f3), .val (.int f4), .val (.int r0), .val (.int r1), .unset, .unset, .unset, .unset] [(.int f2), (.int r1)])) _
      refine XS.ifYes X199.here hx rfl (pc0 := 256) (pc' := 263) rfl (hb hby at_256) rfl ((if0 _ _).trans (teq hc256).1) (by decide) (by decide) ?_
      show Steps p.tables e below (T199.setTop (mkF m 263 #[.val (.int sh), .val (.int va), .val (.int vb), .val (.int vc), .val (.int vd), .val (.int ve), .val (.int pt), .val (.int nn), .val (.int l0), .val (.int l1), .val (.int l2), .val (.int l3), .val (.int l4), .val (.ref ba), .val (.ref bg), .val (.int f0), .val (.int f1), .val (.int f2), .val (.int f3), .val (.int f4), .val (.int r0), .val (.int r1), .unset, .unset, .unset, .unset] [(.int r1)])) _
      refine XS.iconst X199.here hx rfl (hb hby at_263) ?_
      exact hk
    ·
      refine ⟨(1 : Int32), ((if_neg hc256).trans rfl).symm, fun t hk => k218 t ?_⟩
      show Steps p.tables e below (T199.setTop (mkF m 256 #[.val (.int sh), .val (.int va), .val (.int vb), .val (.int vc), .val (.int vd), .val (.int ve), .val (.int pt), .val (.int nn), .val (.int l0), .val (.int l1), .val (.int l2), .val (.int l3), .val (.int l4), .val (.ref ba), .val (.ref bg), .val (.int f0), .val (.int f1), .val (.int f2), .val (.int f3), .val (.int f4), .val (.int r0), .val (.int r1), .unset, .unset, .unset, .unset] [(.int f2), (.int r1)])) _
      refine XS.ifNo X199.here hx rfl (hb hby at_256) rfl ((if0 _ _).trans (feq hc256).1) ?_
      show Steps p.tables e below (T199.setTop (mkF m 259 #[.val (.int sh), .val (.int va), .val (.int vb), .val (.int vc), .val (.int vd), .val (.int ve), .val (.int pt), .val (.int nn), .val (.int l0), .val (.int l1), .val (.int l2), .val (.int l3), .val (.int l4), .val (.ref ba), .val (.ref bg), .val (.int f0), .val (.int f1), .val (.int f2), .val (.int f3), .val (.int f4), .val (.int r0), .val (.int r1), .unset, .unset, .unset, .unset] [(.int r1)])) _
      refine XS.iconst X199.here hx rfl (hb hby at_259) ?_
      show Steps p.tables e below (T199.setTop (mkF m 260 #[.val (.int sh), .val (.int va), .val (.int vb), .val (.int vc), .val (.int vd), .val (.int ve), .val (.int pt), .val (.int nn), .val (.int l0), .val (.int l1), .val (.int l2), .val (.int l3), .val (.int l4), .val (.ref ba), .val (.ref bg), .val (.int f0), .val (.int f1), .val (.int f2), .val (.int f3), .val (.int f4), .val (.int r0), .val (.int r1), .unset, .unset, .unset, .unset] [(.int (1 : Int32)), (.int r1)])) _
      refine XS.goto X199.here hx rfl (pc0 := 260) (pc' := 264) rfl (hb hby at_260) (by decide) (by decide) ?_
      exact hk
  have k220 : ∀ t, Steps p.tables e below (T199.setTop (mkF m 267 #[.val (.int sh), .val (.int va), .val (.int vb), .val (.int vc), .val (.int vd), .val (.int ve), .val (.int pt), .val (.int nn), .val (.int l0), .val (.int l1), .val (.int l2), .val (.int l3), .val (.int l4), .val (.ref ba), .val (.ref bg), .val (.int f0), .val (.int f1), .val (.int f2), .val (.int f3), .val (.int f4), .val (.int r0), .val (.int r1), .val (.int (r1 + d2)), .unset, .unset, .unset] [])) t → Steps p.tables e below (s₁.setTop (entryFrame m #[(.int sh), (.int va), (.int vb), (.int vc), (.int vd), (.int ve)] maxLocals)) t := fun t hk => k219 t (by
    show Steps p.tables e below (T199.setTop (mkF m 264 #[.val (.int sh), .val (.int va), .val (.int vb), .val (.int vc), .val (.int vd), .val (.int ve), .val (.int pt), .val (.int nn), .val (.int l0), .val (.int l1), .val (.int l2), .val (.int l3), .val (.int l4), .val (.ref ba), .val (.ref bg), .val (.int f0), .val (.int f1), .val (.int f2), .val (.int f3), .val (.int f4), .val (.int r0), .val (.int r1), .unset, .unset, .unset, .unset] [(.int d2), (.int r1)])) _
    refine XS.iadd X199.here hx rfl (hb hby at_264) rfl ?_
    show Steps p.tables e below (T199.setTop (mkF m 265 #[.val (.int sh), .val (.int va), .val (.int vb), .val (.int vc), .val (.int vd), .val (.int ve), .val (.int pt), .val (.int nn), .val (.int l0), .val (.int l1), .val (.int l2), .val (.int l3), .val (.int l4), .val (.ref ba), .val (.ref bg), .val (.int f0), .val (.int f1), .val (.int f2), .val (.int f3), .val (.int f4), .val (.int r0), .val (.int r1), .unset, .unset, .unset, .unset] [(.int (r1 + d2))])) _
    refine XS.istore X199.here hx rfl (hb hby at_265) rfl (l' := #[.val (.int sh), .val (.int va), .val (.int vb), .val (.int vc), .val (.int vd), .val (.int ve), .val (.int pt), .val (.int nn), .val (.int l0), .val (.int l1), .val (.int l2), .val (.int l3), .val (.int l4), .val (.ref ba), .val (.ref bg), .val (.int f0), .val (.int f1), .val (.int f2), .val (.int f3), .val (.int f4), .val (.int r0), .val (.int r1), .val (.int (r1 + d2)), .unset, .unset, .unset]) rfl ?_
    exact hk)
  obtain ⟨r2, hr2, k221⟩ : ∃ (r2 : Int32), r2 = (r1 + d2) ∧ ∀ t, Steps p.tables e below (T199.setTop (mkF m 267 #[.val (.int sh), .val (.int va), .val (.int vb), .val (.int vc), .val (.int vd), .val (.int ve), .val (.int pt), .val (.int nn), .val (.int l0), .val (.int l1), .val (.int l2), .val (.int l3), .val (.int l4), .val (.ref ba), .val (.ref bg), .val (.int f0), .val (.int f1), .val (.int f2), .val (.int f3), .val (.int f4), .val (.int r0), .val (.int r1), .val (.int r2), .unset, .unset, .unset] [])) t → Steps p.tables e below (s₁.setTop (entryFrame m #[(.int sh), (.int va), (.int vb), (.int vc), (.int vd), (.int ve)] maxLocals)) t := ⟨(r1 + d2), rfl, k220⟩
  have k222 : ∀ t, Steps p.tables e below (T199.setTop (mkF m 271 #[.val (.int sh), .val (.int va), .val (.int vb), .val (.int vc), .val (.int vd), .val (.int ve), .val (.int pt), .val (.int nn), .val (.int l0), .val (.int l1), .val (.int l2), .val (.int l3), .val (.int l4), .val (.ref ba), .val (.ref bg), .val (.int f0), .val (.int f1), .val (.int f2), .val (.int f3), .val (.int f4), .val (.int r0), .val (.int r1), .val (.int r2), .unset, .unset, .unset] [(.int f3), (.int r2)])) t → Steps p.tables e below (s₁.setTop (entryFrame m #[(.int sh), (.int va), (.int vb), (.int vc), (.int vd), (.int ve)] maxLocals)) t := fun t hk => k221 t (by
    show Steps p.tables e below (T199.setTop (mkF m 267 #[.val (.int sh), .val (.int va), .val (.int vb), .val (.int vc), .val (.int vd), .val (.int ve), .val (.int pt), .val (.int nn), .val (.int l0), .val (.int l1), .val (.int l2), .val (.int l3), .val (.int l4), .val (.ref ba), .val (.ref bg), .val (.int f0), .val (.int f1), .val (.int f2), .val (.int f3), .val (.int f4), .val (.int r0), .val (.int r1), .val (.int r2), .unset, .unset, .unset] [])) _
    refine XS.iload X199.here hx rfl (hb hby at_267) rfl ?_
    show Steps p.tables e below (T199.setTop (mkF m 269 #[.val (.int sh), .val (.int va), .val (.int vb), .val (.int vc), .val (.int vd), .val (.int ve), .val (.int pt), .val (.int nn), .val (.int l0), .val (.int l1), .val (.int l2), .val (.int l3), .val (.int l4), .val (.ref ba), .val (.ref bg), .val (.int f0), .val (.int f1), .val (.int f2), .val (.int f3), .val (.int f4), .val (.int r0), .val (.int r1), .val (.int r2), .unset, .unset, .unset] [(.int r2)])) _
    refine XS.iload X199.here hx rfl (hb hby at_269) rfl ?_
    exact hk)
  obtain ⟨d3, hd3, k223⟩ : ∃ (d3 : Int32), (d3 = (if f3 = (0 : Int32) then (0 : Int32) else (1 : Int32))) ∧ ∀ t, Steps p.tables e below (T199.setTop (mkF m 279 #[.val (.int sh), .val (.int va), .val (.int vb), .val (.int vc), .val (.int vd), .val (.int ve), .val (.int pt), .val (.int nn), .val (.int l0), .val (.int l1), .val (.int l2), .val (.int l3), .val (.int l4), .val (.ref ba), .val (.ref bg), .val (.int f0), .val (.int f1), .val (.int f2), .val (.int f3), .val (.int f4), .val (.int r0), .val (.int r1), .val (.int r2), .unset, .unset, .unset] [(.int d3), (.int r2)])) t → Steps p.tables e below (s₁.setTop (entryFrame m #[(.int sh), (.int va), (.int vb), (.int vc), (.int vd), (.int ve)] maxLocals)) t := by
    by_cases hc271 : f3 = (0 : Int32)
    ·
      refine ⟨(0 : Int32), ((if_pos hc271).trans rfl).symm, fun t hk => k222 t ?_⟩
      show Steps p.tables e below (T199.setTop (mkF m 271 #[.val (.int sh), .val (.int va), .val (.int vb), .val (.int vc), .val (.int vd), .val (.int ve), .val (.int pt), .val (.int nn), .val (.int l0), .val (.int l1), .val (.int l2), .val (.int l3), .val (.int l4), .val (.ref ba), .val (.ref bg), .val (.int f0), .val (.int f1), .val (.int f2), .val (.int f3), .val (.int f4), .val (.int r0), .val (.int r1), .val (.int r2), .unset, .unset, .unset] [(.int f3), (.int r2)])) _
      refine XS.ifYes X199.here hx rfl (pc0 := 271) (pc' := 278) rfl (hb hby at_271) rfl ((if0 _ _).trans (teq hc271).1) (by decide) (by decide) ?_
      show Steps p.tables e below (T199.setTop (mkF m 278 #[.val (.int sh), .val (.int va), .val (.int vb), .val (.int vc), .val (.int vd), .val (.int ve), .val (.int pt), .val (.int nn), .val (.int l0), .val (.int l1), .val (.int l2), .val (.int l3), .val (.int l4), .val (.ref ba), .val (.ref bg), .val (.int f0), .val (.int f1), .val (.int f2), .val (.int f3), .val (.int f4), .val (.int r0), .val (.int r1), .val (.int r2), .unset, .unset, .unset] [(.int r2)])) _
      refine XS.iconst X199.here hx rfl (hb hby at_278) ?_
      exact hk
    ·
      refine ⟨(1 : Int32), ((if_neg hc271).trans rfl).symm, fun t hk => k222 t ?_⟩
      show Steps p.tables e below (T199.setTop (mkF m 271 #[.val (.int sh), .val (.int va), .val (.int vb), .val (.int vc), .val (.int vd), .val (.int ve), .val (.int pt), .val (.int nn), .val (.int l0), .val (.int l1), .val (.int l2), .val (.int l3), .val (.int l4), .val (.ref ba), .val (.ref bg), .val (.int f0), .val (.int f1), .val (.int f2), .val (.int f3), .val (.int f4), .val (.int r0), .val (.int r1), .val (.int r2), .unset, .unset, .unset] [(.int f3), (.int r2)])) _
      refine XS.ifNo X199.here hx rfl (hb hby at_271) rfl ((if0 _ _).trans (feq hc271).1) ?_
      show Steps p.tables e below (T199.setTop (mkF m 274 #[.val (.int sh), .val (.int va), .val (.int vb), .val (.int vc), .val (.int vd), .val (.int ve), .val (.int pt), .val (.int nn), .val (.int l0), .val (.int l1), .val (.int l2), .val (.int l3), .val (.int l4), .val (.ref ba), .val (.ref bg), .val (.int f0), .val (.int f1), .val (.int f2), .val (.int f3), .val (.int f4), .val (.int r0), .val (.int r1), .val (.int r2), .unset, .unset, .unset] [(.int r2)])) _
      refine XS.iconst X199.here hx rfl (hb hby at_274) ?_
      show Steps p.tables e below (T199.setTop (mkF m 275 #[.val (.int sh), .val (.int va), .val (.int vb), .val (.int vc), .val (.int vd), .val (.int ve), .val (.int pt), .val (.int nn), .val (.int l0), .val (.int l1), .val (.int l2), .val (.int l3), .val (.int l4), .val (.ref ba), .val (.ref bg), .val (.int f0), .val (.int f1), .val (.int f2), .val (.int f3), .val (.int f4), .val (.int r0), .val (.int r1), .val (.int r2), .unset, .unset, .unset] [(.int (1 : Int32)), (.int r2)])) _
      refine XS.goto X199.here hx rfl (pc0 := 275) (pc' := 279) rfl (hb hby at_275) (by decide) (by decide) ?_
      exact hk
  have k224 : ∀ t, Steps p.tables e below (T199.setTop (mkF m 282 #[.val (.int sh), .val (.int va), .val (.int vb), .val (.int vc), .val (.int vd), .val (.int ve), .val (.int pt), .val (.int nn), .val (.int l0), .val (.int l1), .val (.int l2), .val (.int l3), .val (.int l4), .val (.ref ba), .val (.ref bg), .val (.int f0), .val (.int f1), .val (.int f2), .val (.int f3), .val (.int f4), .val (.int r0), .val (.int r1), .val (.int r2), .val (.int (r2 + d3)), .unset, .unset] [])) t → Steps p.tables e below (s₁.setTop (entryFrame m #[(.int sh), (.int va), (.int vb), (.int vc), (.int vd), (.int ve)] maxLocals)) t := fun t hk => k223 t (by
    show Steps p.tables e below (T199.setTop (mkF m 279 #[.val (.int sh), .val (.int va), .val (.int vb), .val (.int vc), .val (.int vd), .val (.int ve), .val (.int pt), .val (.int nn), .val (.int l0), .val (.int l1), .val (.int l2), .val (.int l3), .val (.int l4), .val (.ref ba), .val (.ref bg), .val (.int f0), .val (.int f1), .val (.int f2), .val (.int f3), .val (.int f4), .val (.int r0), .val (.int r1), .val (.int r2), .unset, .unset, .unset] [(.int d3), (.int r2)])) _
    refine XS.iadd X199.here hx rfl (hb hby at_279) rfl ?_
    show Steps p.tables e below (T199.setTop (mkF m 280 #[.val (.int sh), .val (.int va), .val (.int vb), .val (.int vc), .val (.int vd), .val (.int ve), .val (.int pt), .val (.int nn), .val (.int l0), .val (.int l1), .val (.int l2), .val (.int l3), .val (.int l4), .val (.ref ba), .val (.ref bg), .val (.int f0), .val (.int f1), .val (.int f2), .val (.int f3), .val (.int f4), .val (.int r0), .val (.int r1), .val (.int r2), .unset, .unset, .unset] [(.int (r2 + d3))])) _
    refine XS.istore X199.here hx rfl (hb hby at_280) rfl (l' := #[.val (.int sh), .val (.int va), .val (.int vb), .val (.int vc), .val (.int vd), .val (.int ve), .val (.int pt), .val (.int nn), .val (.int l0), .val (.int l1), .val (.int l2), .val (.int l3), .val (.int l4), .val (.ref ba), .val (.ref bg), .val (.int f0), .val (.int f1), .val (.int f2), .val (.int f3), .val (.int f4), .val (.int r0), .val (.int r1), .val (.int r2), .val (.int (r2 + d3)), .unset, .unset]) rfl ?_
    exact hk)
  obtain ⟨r3, hr3, k225⟩ : ∃ (r3 : Int32), r3 = (r2 + d3) ∧ ∀ t, Steps p.tables e below (T199.setTop (mkF m 282 #[.val (.int sh), .val (.int va), .val (.int vb), .val (.int vc), .val (.int vd), .val (.int ve), .val (.int pt), .val (.int nn), .val (.int l0), .val (.int l1), .val (.int l2), .val (.int l3), .val (.int l4), .val (.ref ba), .val (.ref bg), .val (.int f0), .val (.int f1), .val (.int f2), .val (.int f3), .val (.int f4), .val (.int r0), .val (.int r1), .val (.int r2), .val (.int r3), .unset, .unset] [])) t → Steps p.tables e below (s₁.setTop (entryFrame m #[(.int sh), (.int va), (.int vb), (.int vc), (.int vd), (.int ve)] maxLocals)) t := ⟨(r2 + d3), rfl, k224⟩
  have k226 : ∀ t, Steps p.tables e below (T199.setTop (mkF m 286 #[.val (.int sh), .val (.int va), .val (.int vb), .val (.int vc), .val (.int vd), .val (.int ve), .val (.int pt), .val (.int nn), .val (.int l0), .val (.int l1), .val (.int l2), .val (.int l3), .val (.int l4), .val (.ref ba), .val (.ref bg), .val (.int f0), .val (.int f1), .val (.int f2), .val (.int f3), .val (.int f4), .val (.int r0), .val (.int r1), .val (.int r2), .val (.int r3), .unset, .unset] [(.int f4), (.int r3)])) t → Steps p.tables e below (s₁.setTop (entryFrame m #[(.int sh), (.int va), (.int vb), (.int vc), (.int vd), (.int ve)] maxLocals)) t := fun t hk => k225 t (by
    show Steps p.tables e below (T199.setTop (mkF m 282 #[.val (.int sh), .val (.int va), .val (.int vb), .val (.int vc), .val (.int vd), .val (.int ve), .val (.int pt), .val (.int nn), .val (.int l0), .val (.int l1), .val (.int l2), .val (.int l3), .val (.int l4), .val (.ref ba), .val (.ref bg), .val (.int f0), .val (.int f1), .val (.int f2), .val (.int f3), .val (.int f4), .val (.int r0), .val (.int r1), .val (.int r2), .val (.int r3), .unset, .unset] [])) _
    refine XS.iload X199.here hx rfl (hb hby at_282) rfl ?_
    show Steps p.tables e below (T199.setTop (mkF m 284 #[.val (.int sh), .val (.int va), .val (.int vb), .val (.int vc), .val (.int vd), .val (.int ve), .val (.int pt), .val (.int nn), .val (.int l0), .val (.int l1), .val (.int l2), .val (.int l3), .val (.int l4), .val (.ref ba), .val (.ref bg), .val (.int f0), .val (.int f1), .val (.int f2), .val (.int f3), .val (.int f4), .val (.int r0), .val (.int r1), .val (.int r2), .val (.int r3), .unset, .unset] [(.int r3)])) _
    refine XS.iload X199.here hx rfl (hb hby at_284) rfl ?_
    exact hk)
  obtain ⟨d4, hd4, k227⟩ : ∃ (d4 : Int32), (d4 = (if f4 = (0 : Int32) then (0 : Int32) else (1 : Int32))) ∧ ∀ t, Steps p.tables e below (T199.setTop (mkF m 294 #[.val (.int sh), .val (.int va), .val (.int vb), .val (.int vc), .val (.int vd), .val (.int ve), .val (.int pt), .val (.int nn), .val (.int l0), .val (.int l1), .val (.int l2), .val (.int l3), .val (.int l4), .val (.ref ba), .val (.ref bg), .val (.int f0), .val (.int f1), .val (.int f2), .val (.int f3), .val (.int f4), .val (.int r0), .val (.int r1), .val (.int r2), .val (.int r3), .unset, .unset] [(.int d4), (.int r3)])) t → Steps p.tables e below (s₁.setTop (entryFrame m #[(.int sh), (.int va), (.int vb), (.int vc), (.int vd), (.int ve)] maxLocals)) t := by
    by_cases hc286 : f4 = (0 : Int32)
    ·
      refine ⟨(0 : Int32), ((if_pos hc286).trans rfl).symm, fun t hk => k226 t ?_⟩
      show Steps p.tables e below (T199.setTop (mkF m 286 #[.val (.int sh), .val (.int va), .val (.int vb), .val (.int vc), .val (.int vd), .val (.int ve), .val (.int pt), .val (.int nn), .val (.int l0), .val (.int l1), .val (.int l2), .val (.int l3), .val (.int l4), .val (.ref ba), .val (.ref bg), .val (.int f0), .val (.int f1), .val (.int f2), .val (.int f3), .val (.int f4), .val (.int r0), .val (.int r1), .val (.int r2), .val (.int r3), .unset, .unset] [(.int f4), (.int r3)])) _
      refine XS.ifYes X199.here hx rfl (pc0 := 286) (pc' := 293) rfl (hb hby at_286) rfl ((if0 _ _).trans (teq hc286).1) (by decide) (by decide) ?_
      show Steps p.tables e below (T199.setTop (mkF m 293 #[.val (.int sh), .val (.int va), .val (.int vb), .val (.int vc), .val (.int vd), .val (.int ve), .val (.int pt), .val (.int nn), .val (.int l0), .val (.int l1), .val (.int l2), .val (.int l3), .val (.int l4), .val (.ref ba), .val (.ref bg), .val (.int f0), .val (.int f1), .val (.int f2), .val (.int f3), .val (.int f4), .val (.int r0), .val (.int r1), .val (.int r2), .val (.int r3), .unset, .unset] [(.int r3)])) _
      refine XS.iconst X199.here hx rfl (hb hby at_293) ?_
      exact hk
    ·
      refine ⟨(1 : Int32), ((if_neg hc286).trans rfl).symm, fun t hk => k226 t ?_⟩
      show Steps p.tables e below (T199.setTop (mkF m 286 #[.val (.int sh), .val (.int va), .val (.int vb), .val (.int vc), .val (.int vd), .val (.int ve), .val (.int pt), .val (.int nn), .val (.int l0), .val (.int l1), .val (.int l2), .val (.int l3), .val (.int l4), .val (.ref ba), .val (.ref bg), .val (.int f0), .val (.int f1), .val (.int f2), .val (.int f3), .val (.int f4), .val (.int r0), .val (.int r1), .val (.int r2), .val (.int r3), .unset, .unset] [(.int f4), (.int r3)])) _
      refine XS.ifNo X199.here hx rfl (hb hby at_286) rfl ((if0 _ _).trans (feq hc286).1) ?_
      show Steps p.tables e below (T199.setTop (mkF m 289 #[.val (.int sh), .val (.int va), .val (.int vb), .val (.int vc), .val (.int vd), .val (.int ve), .val (.int pt), .val (.int nn), .val (.int l0), .val (.int l1), .val (.int l2), .val (.int l3), .val (.int l4), .val (.ref ba), .val (.ref bg), .val (.int f0), .val (.int f1), .val (.int f2), .val (.int f3), .val (.int f4), .val (.int r0), .val (.int r1), .val (.int r2), .val (.int r3), .unset, .unset] [(.int r3)])) _
      refine XS.iconst X199.here hx rfl (hb hby at_289) ?_
      show Steps p.tables e below (T199.setTop (mkF m 290 #[.val (.int sh), .val (.int va), .val (.int vb), .val (.int vc), .val (.int vd), .val (.int ve), .val (.int pt), .val (.int nn), .val (.int l0), .val (.int l1), .val (.int l2), .val (.int l3), .val (.int l4), .val (.ref ba), .val (.ref bg), .val (.int f0), .val (.int f1), .val (.int f2), .val (.int f3), .val (.int f4), .val (.int r0), .val (.int r1), .val (.int r2), .val (.int r3), .unset, .unset] [(.int (1 : Int32)), (.int r3)])) _
      refine XS.goto X199.here hx rfl (pc0 := 290) (pc' := 294) rfl (hb hby at_290) (by decide) (by decide) ?_
      exact hk
  have k228 : ∀ t, Steps p.tables e below (T199.setTop (mkF m 297 #[.val (.int sh), .val (.int va), .val (.int vb), .val (.int vc), .val (.int vd), .val (.int ve), .val (.int pt), .val (.int nn), .val (.int l0), .val (.int l1), .val (.int l2), .val (.int l3), .val (.int l4), .val (.ref ba), .val (.ref bg), .val (.int f0), .val (.int f1), .val (.int f2), .val (.int f3), .val (.int f4), .val (.int r0), .val (.int r1), .val (.int r2), .val (.int r3), .val (.int (r3 + d4)), .unset] [])) t → Steps p.tables e below (s₁.setTop (entryFrame m #[(.int sh), (.int va), (.int vb), (.int vc), (.int vd), (.int ve)] maxLocals)) t := fun t hk => k227 t (by
    show Steps p.tables e below (T199.setTop (mkF m 294 #[.val (.int sh), .val (.int va), .val (.int vb), .val (.int vc), .val (.int vd), .val (.int ve), .val (.int pt), .val (.int nn), .val (.int l0), .val (.int l1), .val (.int l2), .val (.int l3), .val (.int l4), .val (.ref ba), .val (.ref bg), .val (.int f0), .val (.int f1), .val (.int f2), .val (.int f3), .val (.int f4), .val (.int r0), .val (.int r1), .val (.int r2), .val (.int r3), .unset, .unset] [(.int d4), (.int r3)])) _
    refine XS.iadd X199.here hx rfl (hb hby at_294) rfl ?_
    show Steps p.tables e below (T199.setTop (mkF m 295 #[.val (.int sh), .val (.int va), .val (.int vb), .val (.int vc), .val (.int vd), .val (.int ve), .val (.int pt), .val (.int nn), .val (.int l0), .val (.int l1), .val (.int l2), .val (.int l3), .val (.int l4), .val (.ref ba), .val (.ref bg), .val (.int f0), .val (.int f1), .val (.int f2), .val (.int f3), .val (.int f4), .val (.int r0), .val (.int r1), .val (.int r2), .val (.int r3), .unset, .unset] [(.int (r3 + d4))])) _
    refine XS.istore X199.here hx rfl (hb hby at_295) rfl (l' := #[.val (.int sh), .val (.int va), .val (.int vb), .val (.int vc), .val (.int vd), .val (.int ve), .val (.int pt), .val (.int nn), .val (.int l0), .val (.int l1), .val (.int l2), .val (.int l3), .val (.int l4), .val (.ref ba), .val (.ref bg), .val (.int f0), .val (.int f1), .val (.int f2), .val (.int f3), .val (.int f4), .val (.int r0), .val (.int r1), .val (.int r2), .val (.int r3), .val (.int (r3 + d4)), .unset]) rfl ?_
    exact hk)
  obtain ⟨r4, hr4, k229⟩ : ∃ (r4 : Int32), r4 = (r3 + d4) ∧ ∀ t, Steps p.tables e below (T199.setTop (mkF m 297 #[.val (.int sh), .val (.int va), .val (.int vb), .val (.int vc), .val (.int vd), .val (.int ve), .val (.int pt), .val (.int nn), .val (.int l0), .val (.int l1), .val (.int l2), .val (.int l3), .val (.int l4), .val (.ref ba), .val (.ref bg), .val (.int f0), .val (.int f1), .val (.int f2), .val (.int f3), .val (.int f4), .val (.int r0), .val (.int r1), .val (.int r2), .val (.int r3), .val (.int r4), .unset] [])) t → Steps p.tables e below (s₁.setTop (entryFrame m #[(.int sh), (.int va), (.int vb), (.int vc), (.int vd), (.int ve)] maxLocals)) t := ⟨(r3 + d4), rfl, k228⟩
  obtain ⟨T230, h230, k230, X230, e230, E230, A230, st230⟩ := newP X199 hx hZ (hw _ (List.mem_of_getElem? (i := 5) rfl)) rfl (g := (mkF m 298 #[.val (.int sh), .val (.int va), .val (.int vb), .val (.int vc), .val (.int vd), .val (.int ve), .val (.int pt), .val (.int nn), .val (.int l0), .val (.int l1), .val (.int l2), .val (.int l3), .val (.int l4), .val (.ref ba), .val (.ref bg), .val (.int f0), .val (.int f1), .val (.int f2), .val (.int f3), .val (.int f4), .val (.int r0), .val (.int r1), .val (.int r2), .val (.int r3), .val (.int r4), .unset] [(.int (4 : Int32))])) rfl (hb hby at_298) rfl (by decide) (cap := 4) (by decide) (by decide) (by decide) (by decide)
  obtain ⟨b230, g230⟩ : ∃ z, z = T199.heap.size := ⟨_, rfl⟩
  have ne231 : bg ≠ b230 := fun q => absurd VG.lt (by rw [q, g230]; exact Nat.lt_irrefl _)
  have g232 : n0 ≤ b230 := g230 ▸ Z201
  rw [← g230] at A230 st230
  have A233 := VG.ext E230
  have Z234 : n0 ≤ h230.size := Nat.le_trans Z201 E230.1
  have A235 : OwnAV Z h230 b230 .int 4 (fun i => (.int ((fun _ => (0 : Int32)) i))) := OwnAV.new A230 rfl (by decide)
  have hnw : bg ≠ b230 := ne231
  have k236 : ∀ t, Steps p.tables e below (T230.setTop (mkF m 302 #[.val (.int sh), .val (.int va), .val (.int vb), .val (.int vc), .val (.int vd), .val (.int ve), .val (.int pt), .val (.int nn), .val (.int l0), .val (.int l1), .val (.int l2), .val (.int l3), .val (.int l4), .val (.ref ba), .val (.ref bg), .val (.int f0), .val (.int f1), .val (.int f2), .val (.int f3), .val (.int f4), .val (.int r0), .val (.int r1), .val (.int r2), .val (.int r3), .val (.int r4), .val (.ref b230)] [])) t → Steps p.tables e below (s₁.setTop (entryFrame m #[(.int sh), (.int va), (.int vb), (.int vc), (.int vd), (.int ve)] maxLocals)) t := fun t hk => k229 t (by
    show Steps p.tables e below (T199.setTop (mkF m 297 #[.val (.int sh), .val (.int va), .val (.int vb), .val (.int vc), .val (.int vd), .val (.int ve), .val (.int pt), .val (.int nn), .val (.int l0), .val (.int l1), .val (.int l2), .val (.int l3), .val (.int l4), .val (.ref ba), .val (.ref bg), .val (.int f0), .val (.int f1), .val (.int f2), .val (.int f3), .val (.int f4), .val (.int r0), .val (.int r1), .val (.int r2), .val (.int r3), .val (.int r4), .unset] [])) _
    refine XS.iconst X199.here hx rfl (hb hby at_297) ?_
    show Steps p.tables e below (T199.setTop (mkF m 298 #[.val (.int sh), .val (.int va), .val (.int vb), .val (.int vc), .val (.int vd), .val (.int ve), .val (.int pt), .val (.int nn), .val (.int l0), .val (.int l1), .val (.int l2), .val (.int l3), .val (.int l4), .val (.ref ba), .val (.ref bg), .val (.int f0), .val (.int f1), .val (.int f2), .val (.int f3), .val (.int f4), .val (.int r0), .val (.int r1), .val (.int r2), .val (.int r3), .val (.int r4), .unset] [(.int (4 : Int32))])) _
    refine st230 _ ?_
    show Steps p.tables e below (T230.setTop (mkF m 300 #[.val (.int sh), .val (.int va), .val (.int vb), .val (.int vc), .val (.int vd), .val (.int ve), .val (.int pt), .val (.int nn), .val (.int l0), .val (.int l1), .val (.int l2), .val (.int l3), .val (.int l4), .val (.ref ba), .val (.ref bg), .val (.int f0), .val (.int f1), .val (.int f2), .val (.int f3), .val (.int f4), .val (.int r0), .val (.int r1), .val (.int r2), .val (.int r3), .val (.int r4), .unset] [(.ref b230)])) _
    refine XS.astore X230.here hx rfl (hb hby at_300) rfl rfl (l' := #[.val (.int sh), .val (.int va), .val (.int vb), .val (.int vc), .val (.int vd), .val (.int ve), .val (.int pt), .val (.int nn), .val (.int l0), .val (.int l1), .val (.int l2), .val (.int l3), .val (.int l4), .val (.ref ba), .val (.ref bg), .val (.int f0), .val (.int f1), .val (.int f2), .val (.int f3), .val (.int f4), .val (.int r0), .val (.int r1), .val (.int r2), .val (.int r3), .val (.int r4), .val (.ref b230)]) rfl ?_
    exact hk)
  have k237 : ∀ t, Steps p.tables e below (T230.setTop (mkF m 304 #[.val (.int sh), .val (.int va), .val (.int vb), .val (.int vc), .val (.int vd), .val (.int ve), .val (.int pt), .val (.int nn), .val (.int l0), .val (.int l1), .val (.int l2), .val (.int l3), .val (.int l4), .val (.ref ba), .val (.ref bg), .val (.int f0), .val (.int f1), .val (.int f2), .val (.int f3), .val (.int f4), .val (.int r0), .val (.int r1), .val (.int r2), .val (.int r3), .val (.int r4), .val (.ref b230)] [(.int f0)])) t → Steps p.tables e below (s₁.setTop (entryFrame m #[(.int sh), (.int va), (.int vb), (.int vc), (.int vd), (.int ve)] maxLocals)) t := fun t hk => k236 t (by
    show Steps p.tables e below (T230.setTop (mkF m 302 #[.val (.int sh), .val (.int va), .val (.int vb), .val (.int vc), .val (.int vd), .val (.int ve), .val (.int pt), .val (.int nn), .val (.int l0), .val (.int l1), .val (.int l2), .val (.int l3), .val (.int l4), .val (.ref ba), .val (.ref bg), .val (.int f0), .val (.int f1), .val (.int f2), .val (.int f3), .val (.int f4), .val (.int r0), .val (.int r1), .val (.int r2), .val (.int r3), .val (.int r4), .val (.ref b230)] [])) _
    refine XS.iload X230.here hx rfl (hb hby at_302) rfl ?_
    exact hk)
  obtain ⟨T239, h240, locs247, w0, hw0, X241, e242, N243, Z244, A245, A246, k238⟩ : ∃ (T' : State) (h' : Heap) (locs' : List Loc) (fw : Nat → Int32), fw = (if f0 = (0 : Int32) then (fun _ => (0 : Int32)) else (own_upd (fun _ => (0 : Int32)) l0.toInt.toNat r0)) ∧ Stand p l e room_1 s m #[(.int sh), (.int va), (.int vb), (.int vc), (.int vd), (.int ve)] below meth c T' locs' 3 13 ∧ T'.heap = h' ∧ Fr n0 locs' ∧ n0 ≤ h'.size ∧ OwnAV Z h' bg .int pt.toInt.toNat (fun i => .int ((own_G (own_lab l0 l1 l2 l3 l4) pt.toInt.toNat nn.toInt.toNat) i)) ∧ OwnAV Z h' b230 .int 4 (fun i => .int (fw i)) ∧ ∀ t, Steps p.tables e below (T'.setTop (mkF m 314 #[.val (.int sh), .val (.int va), .val (.int vb), .val (.int vc), .val (.int vd), .val (.int ve), .val (.int pt), .val (.int nn), .val (.int l0), .val (.int l1), .val (.int l2), .val (.int l3), .val (.int l4), .val (.ref ba), .val (.ref bg), .val (.int f0), .val (.int f1), .val (.int f2), .val (.int f3), .val (.int f4), .val (.int r0), .val (.int r1), .val (.int r2), .val (.int r3), .val (.int r4), .val (.ref b230)] [])) t → Steps p.tables e below (s₁.setTop (entryFrame m #[(.int sh), (.int va), (.int vb), (.int vc), (.int vd), (.int ve)] maxLocals)) t := by
    by_cases hcj : f0 = (0 : Int32)
    ·
      refine ⟨T230, h230, _, _, (if_pos hcj).symm, X230, e230, N199, Z234, A233, A235, fun t hk => k237 t ?_⟩
      show Steps p.tables e below (T230.setTop (mkF m 304 #[.val (.int sh), .val (.int va), .val (.int vb), .val (.int vc), .val (.int vd), .val (.int ve), .val (.int pt), .val (.int nn), .val (.int l0), .val (.int l1), .val (.int l2), .val (.int l3), .val (.int l4), .val (.ref ba), .val (.ref bg), .val (.int f0), .val (.int f1), .val (.int f2), .val (.int f3), .val (.int f4), .val (.int r0), .val (.int r1), .val (.int r2), .val (.int r3), .val (.int r4), .val (.ref b230)] [(.int f0)])) _
      refine XS.ifYes X230.here hx rfl (pc0 := 304) (pc' := 314) rfl (hb hby at_304) rfl ((if0 _ _).trans (teq hcj).1) (by decide) (by decide) ?_
      exact hk
    ·
      obtain ⟨T248, h248, X248, e248, W248, st248⟩ := own_iast X230 hx hZ e230 A235 (k := l0.toInt.toNat) (own_idx m0 (by omega)) (g := (mkF m 313 #[.val (.int sh), .val (.int va), .val (.int vb), .val (.int vc), .val (.int vd), .val (.int ve), .val (.int pt), .val (.int nn), .val (.int l0), .val (.int l1), .val (.int l2), .val (.int l3), .val (.int l4), .val (.ref ba), .val (.ref bg), .val (.int f0), .val (.int f1), .val (.int f2), .val (.int f3), .val (.int f4), .val (.int r0), .val (.int r1), .val (.int r2), .val (.int r3), .val (.int r4), .val (.ref b230)] [(.int r0), (.int l0), (.ref b230)])) rfl rfl (hb hby at_313)
      have A249 := A235.storeI W248
      have A250 := A233.other W248 ne231
      have Z251 : n0 ≤ h248.size := W248.size ▸ Z234
      have N252 := Fr.snoc X248 N199 g232
      refine ⟨T248, h248, _, _, (if_neg hcj).symm, X248, e248, N252, Z251, A250, A249, fun t hk => k237 t ?_⟩
      show Steps p.tables e below (T230.setTop (mkF m 304 #[.val (.int sh), .val (.int va), .val (.int vb), .val (.int vc), .val (.int vd), .val (.int ve), .val (.int pt), .val (.int nn), .val (.int l0), .val (.int l1), .val (.int l2), .val (.int l3), .val (.int l4), .val (.ref ba), .val (.ref bg), .val (.int f0), .val (.int f1), .val (.int f2), .val (.int f3), .val (.int f4), .val (.int r0), .val (.int r1), .val (.int r2), .val (.int r3), .val (.int r4), .val (.ref b230)] [(.int f0)])) _
      refine XS.ifNo X230.here hx rfl (hb hby at_304) rfl ((if0 _ _).trans (feq hcj).1) ?_
      show Steps p.tables e below (T230.setTop (mkF m 307 #[.val (.int sh), .val (.int va), .val (.int vb), .val (.int vc), .val (.int vd), .val (.int ve), .val (.int pt), .val (.int nn), .val (.int l0), .val (.int l1), .val (.int l2), .val (.int l3), .val (.int l4), .val (.ref ba), .val (.ref bg), .val (.int f0), .val (.int f1), .val (.int f2), .val (.int f3), .val (.int f4), .val (.int r0), .val (.int r1), .val (.int r2), .val (.int r3), .val (.int r4), .val (.ref b230)] [])) _
      refine XS.aload X230.here hx rfl (hb hby at_307) rfl rfl ?_
      show Steps p.tables e below (T230.setTop (mkF m 309 #[.val (.int sh), .val (.int va), .val (.int vb), .val (.int vc), .val (.int vd), .val (.int ve), .val (.int pt), .val (.int nn), .val (.int l0), .val (.int l1), .val (.int l2), .val (.int l3), .val (.int l4), .val (.ref ba), .val (.ref bg), .val (.int f0), .val (.int f1), .val (.int f2), .val (.int f3), .val (.int f4), .val (.int r0), .val (.int r1), .val (.int r2), .val (.int r3), .val (.int r4), .val (.ref b230)] [(.ref b230)])) _
      refine XS.iload X230.here hx rfl (hb hby at_309) rfl ?_
      show Steps p.tables e below (T230.setTop (mkF m 311 #[.val (.int sh), .val (.int va), .val (.int vb), .val (.int vc), .val (.int vd), .val (.int ve), .val (.int pt), .val (.int nn), .val (.int l0), .val (.int l1), .val (.int l2), .val (.int l3), .val (.int l4), .val (.ref ba), .val (.ref bg), .val (.int f0), .val (.int f1), .val (.int f2), .val (.int f3), .val (.int f4), .val (.int r0), .val (.int r1), .val (.int r2), .val (.int r3), .val (.int r4), .val (.ref b230)] [(.int l0), (.ref b230)])) _
      refine XS.iload X230.here hx rfl (hb hby at_311) rfl ?_
      show Steps p.tables e below (T230.setTop (mkF m 313 #[.val (.int sh), .val (.int va), .val (.int vb), .val (.int vc), .val (.int vd), .val (.int ve), .val (.int pt), .val (.int nn), .val (.int l0), .val (.int l1), .val (.int l2), .val (.int l3), .val (.int l4), .val (.ref ba), .val (.ref bg), .val (.int f0), .val (.int f1), .val (.int f2), .val (.int f3), .val (.int f4), .val (.int r0), .val (.int r1), .val (.int r2), .val (.int r3), .val (.int r4), .val (.ref b230)] [(.int r0), (.int l0), (.ref b230)])) _
      refine st248 _ ?_
      exact hk
  have k253 : ∀ t, Steps p.tables e below (T239.setTop (mkF m 316 #[.val (.int sh), .val (.int va), .val (.int vb), .val (.int vc), .val (.int vd), .val (.int ve), .val (.int pt), .val (.int nn), .val (.int l0), .val (.int l1), .val (.int l2), .val (.int l3), .val (.int l4), .val (.ref ba), .val (.ref bg), .val (.int f0), .val (.int f1), .val (.int f2), .val (.int f3), .val (.int f4), .val (.int r0), .val (.int r1), .val (.int r2), .val (.int r3), .val (.int r4), .val (.ref b230)] [(.int f1)])) t → Steps p.tables e below (s₁.setTop (entryFrame m #[(.int sh), (.int va), (.int vb), (.int vc), (.int vd), (.int ve)] maxLocals)) t := fun t hk => k238 t (by
    show Steps p.tables e below (T239.setTop (mkF m 314 #[.val (.int sh), .val (.int va), .val (.int vb), .val (.int vc), .val (.int vd), .val (.int ve), .val (.int pt), .val (.int nn), .val (.int l0), .val (.int l1), .val (.int l2), .val (.int l3), .val (.int l4), .val (.ref ba), .val (.ref bg), .val (.int f0), .val (.int f1), .val (.int f2), .val (.int f3), .val (.int f4), .val (.int r0), .val (.int r1), .val (.int r2), .val (.int r3), .val (.int r4), .val (.ref b230)] [])) _
    refine XS.iload X241.here hx rfl (hb hby at_314) rfl ?_
    exact hk)
  obtain ⟨T255, h256, locs263, w1, hw1, X257, e258, N259, Z260, A261, A262, k254⟩ : ∃ (T' : State) (h' : Heap) (locs' : List Loc) (fw : Nat → Int32), fw = (if f1 = (0 : Int32) then w0 else (own_upd w0 l1.toInt.toNat r1)) ∧ Stand p l e room_1 s m #[(.int sh), (.int va), (.int vb), (.int vc), (.int vd), (.int ve)] below meth c T' locs' 3 13 ∧ T'.heap = h' ∧ Fr n0 locs' ∧ n0 ≤ h'.size ∧ OwnAV Z h' bg .int pt.toInt.toNat (fun i => .int ((own_G (own_lab l0 l1 l2 l3 l4) pt.toInt.toNat nn.toInt.toNat) i)) ∧ OwnAV Z h' b230 .int 4 (fun i => .int (fw i)) ∧ ∀ t, Steps p.tables e below (T'.setTop (mkF m 326 #[.val (.int sh), .val (.int va), .val (.int vb), .val (.int vc), .val (.int vd), .val (.int ve), .val (.int pt), .val (.int nn), .val (.int l0), .val (.int l1), .val (.int l2), .val (.int l3), .val (.int l4), .val (.ref ba), .val (.ref bg), .val (.int f0), .val (.int f1), .val (.int f2), .val (.int f3), .val (.int f4), .val (.int r0), .val (.int r1), .val (.int r2), .val (.int r3), .val (.int r4), .val (.ref b230)] [])) t → Steps p.tables e below (s₁.setTop (entryFrame m #[(.int sh), (.int va), (.int vb), (.int vc), (.int vd), (.int ve)] maxLocals)) t := by
    by_cases hcj : f1 = (0 : Int32)
    ·
      refine ⟨T239, h240, _, _, (if_pos hcj).symm, X241, e242, N243, Z244, A245, A246, fun t hk => k253 t ?_⟩
      show Steps p.tables e below (T239.setTop (mkF m 316 #[.val (.int sh), .val (.int va), .val (.int vb), .val (.int vc), .val (.int vd), .val (.int ve), .val (.int pt), .val (.int nn), .val (.int l0), .val (.int l1), .val (.int l2), .val (.int l3), .val (.int l4), .val (.ref ba), .val (.ref bg), .val (.int f0), .val (.int f1), .val (.int f2), .val (.int f3), .val (.int f4), .val (.int r0), .val (.int r1), .val (.int r2), .val (.int r3), .val (.int r4), .val (.ref b230)] [(.int f1)])) _
      refine XS.ifYes X241.here hx rfl (pc0 := 316) (pc' := 326) rfl (hb hby at_316) rfl ((if0 _ _).trans (teq hcj).1) (by decide) (by decide) ?_
      exact hk
    ·
      obtain ⟨T264, h264, X264, e264, W264, st264⟩ := own_iast X241 hx hZ e242 A246 (k := l1.toInt.toNat) (own_idx m1 (by omega)) (g := (mkF m 325 #[.val (.int sh), .val (.int va), .val (.int vb), .val (.int vc), .val (.int vd), .val (.int ve), .val (.int pt), .val (.int nn), .val (.int l0), .val (.int l1), .val (.int l2), .val (.int l3), .val (.int l4), .val (.ref ba), .val (.ref bg), .val (.int f0), .val (.int f1), .val (.int f2), .val (.int f3), .val (.int f4), .val (.int r0), .val (.int r1), .val (.int r2), .val (.int r3), .val (.int r4), .val (.ref b230)] [(.int r1), (.int l1), (.ref b230)])) rfl rfl (hb hby at_325)
      have A265 := A246.storeI W264
      have A266 := A245.other W264 ne231
      have Z267 : n0 ≤ h264.size := W264.size ▸ Z244
      have N268 := Fr.snoc X264 N243 g232
      refine ⟨T264, h264, _, _, (if_neg hcj).symm, X264, e264, N268, Z267, A266, A265, fun t hk => k253 t ?_⟩
      show Steps p.tables e below (T239.setTop (mkF m 316 #[.val (.int sh), .val (.int va), .val (.int vb), .val (.int vc), .val (.int vd), .val (.int ve), .val (.int pt), .val (.int nn), .val (.int l0), .val (.int l1), .val (.int l2), .val (.int l3), .val (.int l4), .val (.ref ba), .val (.ref bg), .val (.int f0), .val (.int f1), .val (.int f2), .val (.int f3), .val (.int f4), .val (.int r0), .val (.int r1), .val (.int r2), .val (.int r3), .val (.int r4), .val (.ref b230)] [(.int f1)])) _
      refine XS.ifNo X241.here hx rfl (hb hby at_316) rfl ((if0 _ _).trans (feq hcj).1) ?_
      show Steps p.tables e below (T239.setTop (mkF m 319 #[.val (.int sh), .val (.int va), .val (.int vb), .val (.int vc), .val (.int vd), .val (.int ve), .val (.int pt), .val (.int nn), .val (.int l0), .val (.int l1), .val (.int l2), .val (.int l3), .val (.int l4), .val (.ref ba), .val (.ref bg), .val (.int f0), .val (.int f1), .val (.int f2), .val (.int f3), .val (.int f4), .val (.int r0), .val (.int r1), .val (.int r2), .val (.int r3), .val (.int r4), .val (.ref b230)] [])) _
      refine XS.aload X241.here hx rfl (hb hby at_319) rfl rfl ?_
      show Steps p.tables e below (T239.setTop (mkF m 321 #[.val (.int sh), .val (.int va), .val (.int vb), .val (.int vc), .val (.int vd), .val (.int ve), .val (.int pt), .val (.int nn), .val (.int l0), .val (.int l1), .val (.int l2), .val (.int l3), .val (.int l4), .val (.ref ba), .val (.ref bg), .val (.int f0), .val (.int f1), .val (.int f2), .val (.int f3), .val (.int f4), .val (.int r0), .val (.int r1), .val (.int r2), .val (.int r3), .val (.int r4), .val (.ref b230)] [(.ref b230)])) _
      refine XS.iload X241.here hx rfl (hb hby at_321) rfl ?_
      show Steps p.tables e below (T239.setTop (mkF m 323 #[.val (.int sh), .val (.int va), .val (.int vb), .val (.int vc), .val (.int vd), .val (.int ve), .val (.int pt), .val (.int nn), .val (.int l0), .val (.int l1), .val (.int l2), .val (.int l3), .val (.int l4), .val (.ref ba), .val (.ref bg), .val (.int f0), .val (.int f1), .val (.int f2), .val (.int f3), .val (.int f4), .val (.int r0), .val (.int r1), .val (.int r2), .val (.int r3), .val (.int r4), .val (.ref b230)] [(.int l1), (.ref b230)])) _
      refine XS.iload X241.here hx rfl (hb hby at_323) rfl ?_
      show Steps p.tables e below (T239.setTop (mkF m 325 #[.val (.int sh), .val (.int va), .val (.int vb), .val (.int vc), .val (.int vd), .val (.int ve), .val (.int pt), .val (.int nn), .val (.int l0), .val (.int l1), .val (.int l2), .val (.int l3), .val (.int l4), .val (.ref ba), .val (.ref bg), .val (.int f0), .val (.int f1), .val (.int f2), .val (.int f3), .val (.int f4), .val (.int r0), .val (.int r1), .val (.int r2), .val (.int r3), .val (.int r4), .val (.ref b230)] [(.int r1), (.int l1), (.ref b230)])) _
      refine st264 _ ?_
      exact hk
  have k269 : ∀ t, Steps p.tables e below (T255.setTop (mkF m 328 #[.val (.int sh), .val (.int va), .val (.int vb), .val (.int vc), .val (.int vd), .val (.int ve), .val (.int pt), .val (.int nn), .val (.int l0), .val (.int l1), .val (.int l2), .val (.int l3), .val (.int l4), .val (.ref ba), .val (.ref bg), .val (.int f0), .val (.int f1), .val (.int f2), .val (.int f3), .val (.int f4), .val (.int r0), .val (.int r1), .val (.int r2), .val (.int r3), .val (.int r4), .val (.ref b230)] [(.int f2)])) t → Steps p.tables e below (s₁.setTop (entryFrame m #[(.int sh), (.int va), (.int vb), (.int vc), (.int vd), (.int ve)] maxLocals)) t := fun t hk => k254 t (by
    show Steps p.tables e below (T255.setTop (mkF m 326 #[.val (.int sh), .val (.int va), .val (.int vb), .val (.int vc), .val (.int vd), .val (.int ve), .val (.int pt), .val (.int nn), .val (.int l0), .val (.int l1), .val (.int l2), .val (.int l3), .val (.int l4), .val (.ref ba), .val (.ref bg), .val (.int f0), .val (.int f1), .val (.int f2), .val (.int f3), .val (.int f4), .val (.int r0), .val (.int r1), .val (.int r2), .val (.int r3), .val (.int r4), .val (.ref b230)] [])) _
    refine XS.iload X257.here hx rfl (hb hby at_326) rfl ?_
    exact hk)
  obtain ⟨T271, h272, locs279, w2, hw2, X273, e274, N275, Z276, A277, A278, k270⟩ : ∃ (T' : State) (h' : Heap) (locs' : List Loc) (fw : Nat → Int32), fw = (if f2 = (0 : Int32) then w1 else (own_upd w1 l2.toInt.toNat r2)) ∧ Stand p l e room_1 s m #[(.int sh), (.int va), (.int vb), (.int vc), (.int vd), (.int ve)] below meth c T' locs' 3 13 ∧ T'.heap = h' ∧ Fr n0 locs' ∧ n0 ≤ h'.size ∧ OwnAV Z h' bg .int pt.toInt.toNat (fun i => .int ((own_G (own_lab l0 l1 l2 l3 l4) pt.toInt.toNat nn.toInt.toNat) i)) ∧ OwnAV Z h' b230 .int 4 (fun i => .int (fw i)) ∧ ∀ t, Steps p.tables e below (T'.setTop (mkF m 338 #[.val (.int sh), .val (.int va), .val (.int vb), .val (.int vc), .val (.int vd), .val (.int ve), .val (.int pt), .val (.int nn), .val (.int l0), .val (.int l1), .val (.int l2), .val (.int l3), .val (.int l4), .val (.ref ba), .val (.ref bg), .val (.int f0), .val (.int f1), .val (.int f2), .val (.int f3), .val (.int f4), .val (.int r0), .val (.int r1), .val (.int r2), .val (.int r3), .val (.int r4), .val (.ref b230)] [])) t → Steps p.tables e below (s₁.setTop (entryFrame m #[(.int sh), (.int va), (.int vb), (.int vc), (.int vd), (.int ve)] maxLocals)) t := by
    by_cases hcj : f2 = (0 : Int32)
    ·
      refine ⟨T255, h256, _, _, (if_pos hcj).symm, X257, e258, N259, Z260, A261, A262, fun t hk => k269 t ?_⟩
      show Steps p.tables e below (T255.setTop (mkF m 328 #[.val (.int sh), .val (.int va), .val (.int vb), .val (.int vc), .val (.int vd), .val (.int ve), .val (.int pt), .val (.int nn), .val (.int l0), .val (.int l1), .val (.int l2), .val (.int l3), .val (.int l4), .val (.ref ba), .val (.ref bg), .val (.int f0), .val (.int f1), .val (.int f2), .val (.int f3), .val (.int f4), .val (.int r0), .val (.int r1), .val (.int r2), .val (.int r3), .val (.int r4), .val (.ref b230)] [(.int f2)])) _
      refine XS.ifYes X257.here hx rfl (pc0 := 328) (pc' := 338) rfl (hb hby at_328) rfl ((if0 _ _).trans (teq hcj).1) (by decide) (by decide) ?_
      exact hk
    ·
      obtain ⟨T280, h280, X280, e280, W280, st280⟩ := own_iast X257 hx hZ e258 A262 (k := l2.toInt.toNat) (own_idx m2 (by omega)) (g := (mkF m 337 #[.val (.int sh), .val (.int va), .val (.int vb), .val (.int vc), .val (.int vd), .val (.int ve), .val (.int pt), .val (.int nn), .val (.int l0), .val (.int l1), .val (.int l2), .val (.int l3), .val (.int l4), .val (.ref ba), .val (.ref bg), .val (.int f0), .val (.int f1), .val (.int f2), .val (.int f3), .val (.int f4), .val (.int r0), .val (.int r1), .val (.int r2), .val (.int r3), .val (.int r4), .val (.ref b230)] [(.int r2), (.int l2), (.ref b230)])) rfl rfl (hb hby at_337)
      have A281 := A262.storeI W280
      have A282 := A261.other W280 ne231
      have Z283 : n0 ≤ h280.size := W280.size ▸ Z260
      have N284 := Fr.snoc X280 N259 g232
      refine ⟨T280, h280, _, _, (if_neg hcj).symm, X280, e280, N284, Z283, A282, A281, fun t hk => k269 t ?_⟩
      show Steps p.tables e below (T255.setTop (mkF m 328 #[.val (.int sh), .val (.int va), .val (.int vb), .val (.int vc), .val (.int vd), .val (.int ve), .val (.int pt), .val (.int nn), .val (.int l0), .val (.int l1), .val (.int l2), .val (.int l3), .val (.int l4), .val (.ref ba), .val (.ref bg), .val (.int f0), .val (.int f1), .val (.int f2), .val (.int f3), .val (.int f4), .val (.int r0), .val (.int r1), .val (.int r2), .val (.int r3), .val (.int r4), .val (.ref b230)] [(.int f2)])) _
      refine XS.ifNo X257.here hx rfl (hb hby at_328) rfl ((if0 _ _).trans (feq hcj).1) ?_
      show Steps p.tables e below (T255.setTop (mkF m 331 #[.val (.int sh), .val (.int va), .val (.int vb), .val (.int vc), .val (.int vd), .val (.int ve), .val (.int pt), .val (.int nn), .val (.int l0), .val (.int l1), .val (.int l2), .val (.int l3), .val (.int l4), .val (.ref ba), .val (.ref bg), .val (.int f0), .val (.int f1), .val (.int f2), .val (.int f3), .val (.int f4), .val (.int r0), .val (.int r1), .val (.int r2), .val (.int r3), .val (.int r4), .val (.ref b230)] [])) _
      refine XS.aload X257.here hx rfl (hb hby at_331) rfl rfl ?_
      show Steps p.tables e below (T255.setTop (mkF m 333 #[.val (.int sh), .val (.int va), .val (.int vb), .val (.int vc), .val (.int vd), .val (.int ve), .val (.int pt), .val (.int nn), .val (.int l0), .val (.int l1), .val (.int l2), .val (.int l3), .val (.int l4), .val (.ref ba), .val (.ref bg), .val (.int f0), .val (.int f1), .val (.int f2), .val (.int f3), .val (.int f4), .val (.int r0), .val (.int r1), .val (.int r2), .val (.int r3), .val (.int r4), .val (.ref b230)] [(.ref b230)])) _
      refine XS.iload X257.here hx rfl (hb hby at_333) rfl ?_
      show Steps p.tables e below (T255.setTop (mkF m 335 #[.val (.int sh), .val (.int va), .val (.int vb), .val (.int vc), .val (.int vd), .val (.int ve), .val (.int pt), .val (.int nn), .val (.int l0), .val (.int l1), .val (.int l2), .val (.int l3), .val (.int l4), .val (.ref ba), .val (.ref bg), .val (.int f0), .val (.int f1), .val (.int f2), .val (.int f3), .val (.int f4), .val (.int r0), .val (.int r1), .val (.int r2), .val (.int r3), .val (.int r4), .val (.ref b230)] [(.int l2), (.ref b230)])) _
      refine XS.iload X257.here hx rfl (hb hby at_335) rfl ?_
      show Steps p.tables e below (T255.setTop (mkF m 337 #[.val (.int sh), .val (.int va), .val (.int vb), .val (.int vc), .val (.int vd), .val (.int ve), .val (.int pt), .val (.int nn), .val (.int l0), .val (.int l1), .val (.int l2), .val (.int l3), .val (.int l4), .val (.ref ba), .val (.ref bg), .val (.int f0), .val (.int f1), .val (.int f2), .val (.int f3), .val (.int f4), .val (.int r0), .val (.int r1), .val (.int r2), .val (.int r3), .val (.int r4), .val (.ref b230)] [(.int r2), (.int l2), (.ref b230)])) _
      refine st280 _ ?_
      exact hk
  have k285 : ∀ t, Steps p.tables e below (T271.setTop (mkF m 340 #[.val (.int sh), .val (.int va), .val (.int vb), .val (.int vc), .val (.int vd), .val (.int ve), .val (.int pt), .val (.int nn), .val (.int l0), .val (.int l1), .val (.int l2), .val (.int l3), .val (.int l4), .val (.ref ba), .val (.ref bg), .val (.int f0), .val (.int f1), .val (.int f2), .val (.int f3), .val (.int f4), .val (.int r0), .val (.int r1), .val (.int r2), .val (.int r3), .val (.int r4), .val (.ref b230)] [(.int f3)])) t → Steps p.tables e below (s₁.setTop (entryFrame m #[(.int sh), (.int va), (.int vb), (.int vc), (.int vd), (.int ve)] maxLocals)) t := fun t hk => k270 t (by
    show Steps p.tables e below (T271.setTop (mkF m 338 #[.val (.int sh), .val (.int va), .val (.int vb), .val (.int vc), .val (.int vd), .val (.int ve), .val (.int pt), .val (.int nn), .val (.int l0), .val (.int l1), .val (.int l2), .val (.int l3), .val (.int l4), .val (.ref ba), .val (.ref bg), .val (.int f0), .val (.int f1), .val (.int f2), .val (.int f3), .val (.int f4), .val (.int r0), .val (.int r1), .val (.int r2), .val (.int r3), .val (.int r4), .val (.ref b230)] [])) _
    refine XS.iload X273.here hx rfl (hb hby at_338) rfl ?_
    exact hk)
  obtain ⟨T287, h288, locs295, w3, hw3, X289, e290, N291, Z292, A293, A294, k286⟩ : ∃ (T' : State) (h' : Heap) (locs' : List Loc) (fw : Nat → Int32), fw = (if f3 = (0 : Int32) then w2 else (own_upd w2 l3.toInt.toNat r3)) ∧ Stand p l e room_1 s m #[(.int sh), (.int va), (.int vb), (.int vc), (.int vd), (.int ve)] below meth c T' locs' 3 13 ∧ T'.heap = h' ∧ Fr n0 locs' ∧ n0 ≤ h'.size ∧ OwnAV Z h' bg .int pt.toInt.toNat (fun i => .int ((own_G (own_lab l0 l1 l2 l3 l4) pt.toInt.toNat nn.toInt.toNat) i)) ∧ OwnAV Z h' b230 .int 4 (fun i => .int (fw i)) ∧ ∀ t, Steps p.tables e below (T'.setTop (mkF m 350 #[.val (.int sh), .val (.int va), .val (.int vb), .val (.int vc), .val (.int vd), .val (.int ve), .val (.int pt), .val (.int nn), .val (.int l0), .val (.int l1), .val (.int l2), .val (.int l3), .val (.int l4), .val (.ref ba), .val (.ref bg), .val (.int f0), .val (.int f1), .val (.int f2), .val (.int f3), .val (.int f4), .val (.int r0), .val (.int r1), .val (.int r2), .val (.int r3), .val (.int r4), .val (.ref b230)] [])) t → Steps p.tables e below (s₁.setTop (entryFrame m #[(.int sh), (.int va), (.int vb), (.int vc), (.int vd), (.int ve)] maxLocals)) t := by
    by_cases hcj : f3 = (0 : Int32)
    ·
      refine ⟨T271, h272, _, _, (if_pos hcj).symm, X273, e274, N275, Z276, A277, A278, fun t hk => k285 t ?_⟩
      show Steps p.tables e below (T271.setTop (mkF m 340 #[.val (.int sh), .val (.int va), .val (.int vb), .val (.int vc), .val (.int vd), .val (.int ve), .val (.int pt), .val (.int nn), .val (.int l0), .val (.int l1), .val (.int l2), .val (.int l3), .val (.int l4), .val (.ref ba), .val (.ref bg), .val (.int f0), .val (.int f1), .val (.int f2), .val (.int f3), .val (.int f4), .val (.int r0), .val (.int r1), .val (.int r2), .val (.int r3), .val (.int r4), .val (.ref b230)] [(.int f3)])) _
      refine XS.ifYes X273.here hx rfl (pc0 := 340) (pc' := 350) rfl (hb hby at_340) rfl ((if0 _ _).trans (teq hcj).1) (by decide) (by decide) ?_
      exact hk
    ·
      obtain ⟨T296, h296, X296, e296, W296, st296⟩ := own_iast X273 hx hZ e274 A278 (k := l3.toInt.toNat) (own_idx m3 (by omega)) (g := (mkF m 349 #[.val (.int sh), .val (.int va), .val (.int vb), .val (.int vc), .val (.int vd), .val (.int ve), .val (.int pt), .val (.int nn), .val (.int l0), .val (.int l1), .val (.int l2), .val (.int l3), .val (.int l4), .val (.ref ba), .val (.ref bg), .val (.int f0), .val (.int f1), .val (.int f2), .val (.int f3), .val (.int f4), .val (.int r0), .val (.int r1), .val (.int r2), .val (.int r3), .val (.int r4), .val (.ref b230)] [(.int r3), (.int l3), (.ref b230)])) rfl rfl (hb hby at_349)
      have A297 := A278.storeI W296
      have A298 := A277.other W296 ne231
      have Z299 : n0 ≤ h296.size := W296.size ▸ Z276
      have N300 := Fr.snoc X296 N275 g232
      refine ⟨T296, h296, _, _, (if_neg hcj).symm, X296, e296, N300, Z299, A298, A297, fun t hk => k285 t ?_⟩
      show Steps p.tables e below (T271.setTop (mkF m 340 #[.val (.int sh), .val (.int va), .val (.int vb), .val (.int vc), .val (.int vd), .val (.int ve), .val (.int pt), .val (.int nn), .val (.int l0), .val (.int l1), .val (.int l2), .val (.int l3), .val (.int l4), .val (.ref ba), .val (.ref bg), .val (.int f0), .val (.int f1), .val (.int f2), .val (.int f3), .val (.int f4), .val (.int r0), .val (.int r1), .val (.int r2), .val (.int r3), .val (.int r4), .val (.ref b230)] [(.int f3)])) _
      refine XS.ifNo X273.here hx rfl (hb hby at_340) rfl ((if0 _ _).trans (feq hcj).1) ?_
      show Steps p.tables e below (T271.setTop (mkF m 343 #[.val (.int sh), .val (.int va), .val (.int vb), .val (.int vc), .val (.int vd), .val (.int ve), .val (.int pt), .val (.int nn), .val (.int l0), .val (.int l1), .val (.int l2), .val (.int l3), .val (.int l4), .val (.ref ba), .val (.ref bg), .val (.int f0), .val (.int f1), .val (.int f2), .val (.int f3), .val (.int f4), .val (.int r0), .val (.int r1), .val (.int r2), .val (.int r3), .val (.int r4), .val (.ref b230)] [])) _
      refine XS.aload X273.here hx rfl (hb hby at_343) rfl rfl ?_
      show Steps p.tables e below (T271.setTop (mkF m 345 #[.val (.int sh), .val (.int va), .val (.int vb), .val (.int vc), .val (.int vd), .val (.int ve), .val (.int pt), .val (.int nn), .val (.int l0), .val (.int l1), .val (.int l2), .val (.int l3), .val (.int l4), .val (.ref ba), .val (.ref bg), .val (.int f0), .val (.int f1), .val (.int f2), .val (.int f3), .val (.int f4), .val (.int r0), .val (.int r1), .val (.int r2), .val (.int r3), .val (.int r4), .val (.ref b230)] [(.ref b230)])) _
      refine XS.iload X273.here hx rfl (hb hby at_345) rfl ?_
      show Steps p.tables e below (T271.setTop (mkF m 347 #[.val (.int sh), .val (.int va), .val (.int vb), .val (.int vc), .val (.int vd), .val (.int ve), .val (.int pt), .val (.int nn), .val (.int l0), .val (.int l1), .val (.int l2), .val (.int l3), .val (.int l4), .val (.ref ba), .val (.ref bg), .val (.int f0), .val (.int f1), .val (.int f2), .val (.int f3), .val (.int f4), .val (.int r0), .val (.int r1), .val (.int r2), .val (.int r3), .val (.int r4), .val (.ref b230)] [(.int l3), (.ref b230)])) _
      refine XS.iload X273.here hx rfl (hb hby at_347) rfl ?_
      show Steps p.tables e below (T271.setTop (mkF m 349 #[.val (.int sh), .val (.int va), .val (.int vb), .val (.int vc), .val (.int vd), .val (.int ve), .val (.int pt), .val (.int nn), .val (.int l0), .val (.int l1), .val (.int l2), .val (.int l3), .val (.int l4), .val (.ref ba), .val (.ref bg), .val (.int f0), .val (.int f1), .val (.int f2), .val (.int f3), .val (.int f4), .val (.int r0), .val (.int r1), .val (.int r2), .val (.int r3), .val (.int r4), .val (.ref b230)] [(.int r3), (.int l3), (.ref b230)])) _
      refine st296 _ ?_
      exact hk
  have k301 : ∀ t, Steps p.tables e below (T287.setTop (mkF m 352 #[.val (.int sh), .val (.int va), .val (.int vb), .val (.int vc), .val (.int vd), .val (.int ve), .val (.int pt), .val (.int nn), .val (.int l0), .val (.int l1), .val (.int l2), .val (.int l3), .val (.int l4), .val (.ref ba), .val (.ref bg), .val (.int f0), .val (.int f1), .val (.int f2), .val (.int f3), .val (.int f4), .val (.int r0), .val (.int r1), .val (.int r2), .val (.int r3), .val (.int r4), .val (.ref b230)] [(.int f4)])) t → Steps p.tables e below (s₁.setTop (entryFrame m #[(.int sh), (.int va), (.int vb), (.int vc), (.int vd), (.int ve)] maxLocals)) t := fun t hk => k286 t (by
    show Steps p.tables e below (T287.setTop (mkF m 350 #[.val (.int sh), .val (.int va), .val (.int vb), .val (.int vc), .val (.int vd), .val (.int ve), .val (.int pt), .val (.int nn), .val (.int l0), .val (.int l1), .val (.int l2), .val (.int l3), .val (.int l4), .val (.ref ba), .val (.ref bg), .val (.int f0), .val (.int f1), .val (.int f2), .val (.int f3), .val (.int f4), .val (.int r0), .val (.int r1), .val (.int r2), .val (.int r3), .val (.int r4), .val (.ref b230)] [])) _
    refine XS.iload X289.here hx rfl (hb hby at_350) rfl ?_
    exact hk)
  obtain ⟨T303, h304, locs311, w4, hw4, X305, e306, N307, Z308, A309, A310, k302⟩ : ∃ (T' : State) (h' : Heap) (locs' : List Loc) (fw : Nat → Int32), fw = (if f4 = (0 : Int32) then w3 else (own_upd w3 l4.toInt.toNat r4)) ∧ Stand p l e room_1 s m #[(.int sh), (.int va), (.int vb), (.int vc), (.int vd), (.int ve)] below meth c T' locs' 3 13 ∧ T'.heap = h' ∧ Fr n0 locs' ∧ n0 ≤ h'.size ∧ OwnAV Z h' bg .int pt.toInt.toNat (fun i => .int ((own_G (own_lab l0 l1 l2 l3 l4) pt.toInt.toNat nn.toInt.toNat) i)) ∧ OwnAV Z h' b230 .int 4 (fun i => .int (fw i)) ∧ ∀ t, Steps p.tables e below (T'.setTop (mkF m 362 #[.val (.int sh), .val (.int va), .val (.int vb), .val (.int vc), .val (.int vd), .val (.int ve), .val (.int pt), .val (.int nn), .val (.int l0), .val (.int l1), .val (.int l2), .val (.int l3), .val (.int l4), .val (.ref ba), .val (.ref bg), .val (.int f0), .val (.int f1), .val (.int f2), .val (.int f3), .val (.int f4), .val (.int r0), .val (.int r1), .val (.int r2), .val (.int r3), .val (.int r4), .val (.ref b230)] [])) t → Steps p.tables e below (s₁.setTop (entryFrame m #[(.int sh), (.int va), (.int vb), (.int vc), (.int vd), (.int ve)] maxLocals)) t := by
    by_cases hcj : f4 = (0 : Int32)
    ·
      refine ⟨T287, h288, _, _, (if_pos hcj).symm, X289, e290, N291, Z292, A293, A294, fun t hk => k301 t ?_⟩
      show Steps p.tables e below (T287.setTop (mkF m 352 #[.val (.int sh), .val (.int va), .val (.int vb), .val (.int vc), .val (.int vd), .val (.int ve), .val (.int pt), .val (.int nn), .val (.int l0), .val (.int l1), .val (.int l2), .val (.int l3), .val (.int l4), .val (.ref ba), .val (.ref bg), .val (.int f0), .val (.int f1), .val (.int f2), .val (.int f3), .val (.int f4), .val (.int r0), .val (.int r1), .val (.int r2), .val (.int r3), .val (.int r4), .val (.ref b230)] [(.int f4)])) _
      refine XS.ifYes X289.here hx rfl (pc0 := 352) (pc' := 362) rfl (hb hby at_352) rfl ((if0 _ _).trans (teq hcj).1) (by decide) (by decide) ?_
      exact hk
    ·
      obtain ⟨T312, h312, X312, e312, W312, st312⟩ := own_iast X289 hx hZ e290 A294 (k := l4.toInt.toNat) (own_idx m4 (by omega)) (g := (mkF m 361 #[.val (.int sh), .val (.int va), .val (.int vb), .val (.int vc), .val (.int vd), .val (.int ve), .val (.int pt), .val (.int nn), .val (.int l0), .val (.int l1), .val (.int l2), .val (.int l3), .val (.int l4), .val (.ref ba), .val (.ref bg), .val (.int f0), .val (.int f1), .val (.int f2), .val (.int f3), .val (.int f4), .val (.int r0), .val (.int r1), .val (.int r2), .val (.int r3), .val (.int r4), .val (.ref b230)] [(.int r4), (.int l4), (.ref b230)])) rfl rfl (hb hby at_361)
      have A313 := A294.storeI W312
      have A314 := A293.other W312 ne231
      have Z315 : n0 ≤ h312.size := W312.size ▸ Z292
      have N316 := Fr.snoc X312 N291 g232
      refine ⟨T312, h312, _, _, (if_neg hcj).symm, X312, e312, N316, Z315, A314, A313, fun t hk => k301 t ?_⟩
      show Steps p.tables e below (T287.setTop (mkF m 352 #[.val (.int sh), .val (.int va), .val (.int vb), .val (.int vc), .val (.int vd), .val (.int ve), .val (.int pt), .val (.int nn), .val (.int l0), .val (.int l1), .val (.int l2), .val (.int l3), .val (.int l4), .val (.ref ba), .val (.ref bg), .val (.int f0), .val (.int f1), .val (.int f2), .val (.int f3), .val (.int f4), .val (.int r0), .val (.int r1), .val (.int r2), .val (.int r3), .val (.int r4), .val (.ref b230)] [(.int f4)])) _
      refine XS.ifNo X289.here hx rfl (hb hby at_352) rfl ((if0 _ _).trans (feq hcj).1) ?_
      show Steps p.tables e below (T287.setTop (mkF m 355 #[.val (.int sh), .val (.int va), .val (.int vb), .val (.int vc), .val (.int vd), .val (.int ve), .val (.int pt), .val (.int nn), .val (.int l0), .val (.int l1), .val (.int l2), .val (.int l3), .val (.int l4), .val (.ref ba), .val (.ref bg), .val (.int f0), .val (.int f1), .val (.int f2), .val (.int f3), .val (.int f4), .val (.int r0), .val (.int r1), .val (.int r2), .val (.int r3), .val (.int r4), .val (.ref b230)] [])) _
      refine XS.aload X289.here hx rfl (hb hby at_355) rfl rfl ?_
      show Steps p.tables e below (T287.setTop (mkF m 357 #[.val (.int sh), .val (.int va), .val (.int vb), .val (.int vc), .val (.int vd), .val (.int ve), .val (.int pt), .val (.int nn), .val (.int l0), .val (.int l1), .val (.int l2), .val (.int l3), .val (.int l4), .val (.ref ba), .val (.ref bg), .val (.int f0), .val (.int f1), .val (.int f2), .val (.int f3), .val (.int f4), .val (.int r0), .val (.int r1), .val (.int r2), .val (.int r3), .val (.int r4), .val (.ref b230)] [(.ref b230)])) _
      refine XS.iload X289.here hx rfl (hb hby at_357) rfl ?_
      show Steps p.tables e below (T287.setTop (mkF m 359 #[.val (.int sh), .val (.int va), .val (.int vb), .val (.int vc), .val (.int vd), .val (.int ve), .val (.int pt), .val (.int nn), .val (.int l0), .val (.int l1), .val (.int l2), .val (.int l3), .val (.int l4), .val (.ref ba), .val (.ref bg), .val (.int f0), .val (.int f1), .val (.int f2), .val (.int f3), .val (.int f4), .val (.int r0), .val (.int r1), .val (.int r2), .val (.int r3), .val (.int r4), .val (.ref b230)] [(.int l4), (.ref b230)])) _
      refine XS.iload X289.here hx rfl (hb hby at_359) rfl ?_
      show Steps p.tables e below (T287.setTop (mkF m 361 #[.val (.int sh), .val (.int va), .val (.int vb), .val (.int vc), .val (.int vd), .val (.int ve), .val (.int pt), .val (.int nn), .val (.int l0), .val (.int l1), .val (.int l2), .val (.int l3), .val (.int l4), .val (.ref ba), .val (.ref bg), .val (.int f0), .val (.int f1), .val (.int f2), .val (.int f3), .val (.int f4), .val (.int r0), .val (.int r1), .val (.int r2), .val (.int r3), .val (.int r4), .val (.ref b230)] [(.int r4), (.int l4), (.ref b230)])) _
      refine st312 _ ?_
      exact hk
  have hall := own_plain pt nn l0 l1 l2 l3 l4 f0 f1 f2 f3 f4 r0 d1 r1 d2 r2 d3 r3 d4 r4 w0 w1 w2 w3 w4 hp0 hp4 hn0 hn5 m0 u0 m1 u1 m2 u2 m3 u3 m4 u4 hf0 hf1 hf2 hf3 hf4 hr0 hd1 hr1 hd2 hr2 hd3 hr3 hd4 hr4 hw0 hw1 hw2 hw3 hw4
  have k317 : ∀ t, Steps p.tables e below (T303.setTop (mkF m 386 #[.val (.int sh), .val (.int va), .val (.int vb), .val (.int vc), .val (.int vd), .val (.int ve), .val (.int pt), .val (.int nn), .val (.int l0), .val (.int l1), .val (.int l2), .val (.int l3), .val (.int l4), .val (.ref ba), .val (.ref bg), .val (.int f0), .val (.int f1), .val (.int f2), .val (.int f3), .val (.int f4), .val (.int r0), .val (.int r1), .val (.int r2), .val (.int r3), .val (.int r4), .val (.ref b230)] [(.int (2 : Int32)), (.int pt)])) t → Steps p.tables e below (s₁.setTop (entryFrame m #[(.int sh), (.int va), (.int vb), (.int vc), (.int vd), (.int ve)] maxLocals)) t := fun t hk => k302 t (by
    show Steps p.tables e below (T303.setTop (mkF m 362 #[.val (.int sh), .val (.int va), .val (.int vb), .val (.int vc), .val (.int vd), .val (.int ve), .val (.int pt), .val (.int nn), .val (.int l0), .val (.int l1), .val (.int l2), .val (.int l3), .val (.int l4), .val (.ref ba), .val (.ref bg), .val (.int f0), .val (.int f1), .val (.int f2), .val (.int f3), .val (.int f4), .val (.int r0), .val (.int r1), .val (.int r2), .val (.int r3), .val (.int r4), .val (.ref b230)] [])) _
    refine XS.aload X305.here hx rfl (hb hby at_362) rfl rfl ?_
    show Steps p.tables e below (T303.setTop (mkF m 364 #[.val (.int sh), .val (.int va), .val (.int vb), .val (.int vc), .val (.int vd), .val (.int ve), .val (.int pt), .val (.int nn), .val (.int l0), .val (.int l1), .val (.int l2), .val (.int l3), .val (.int l4), .val (.ref ba), .val (.ref bg), .val (.int f0), .val (.int f1), .val (.int f2), .val (.int f3), .val (.int f4), .val (.int r0), .val (.int r1), .val (.int r2), .val (.int r3), .val (.int r4), .val (.ref b230)] [(.ref bg)])) _
    refine own_len X305 hx hZ e306 A309 (g := (mkF m 364 #[.val (.int sh), .val (.int va), .val (.int vb), .val (.int vc), .val (.int vd), .val (.int ve), .val (.int pt), .val (.int nn), .val (.int l0), .val (.int l1), .val (.int l2), .val (.int l3), .val (.int l4), .val (.ref ba), .val (.ref bg), .val (.int f0), .val (.int f1), .val (.int f2), .val (.int f3), .val (.int f4), .val (.int r0), .val (.int r1), .val (.int r2), .val (.int r3), .val (.int r4), .val (.ref b230)] [(.ref bg)])) rfl rfl (hb hby at_364) _ ?_
    rw [hpb]
    show Steps p.tables e below (T303.setTop (mkF m 365 #[.val (.int sh), .val (.int va), .val (.int vb), .val (.int vc), .val (.int vd), .val (.int ve), .val (.int pt), .val (.int nn), .val (.int l0), .val (.int l1), .val (.int l2), .val (.int l3), .val (.int l4), .val (.ref ba), .val (.ref bg), .val (.int f0), .val (.int f1), .val (.int f2), .val (.int f3), .val (.int f4), .val (.int r0), .val (.int r1), .val (.int r2), .val (.int r3), .val (.int r4), .val (.ref b230)] [(.int pt)])) _
    refine XS.iload X305.here hx rfl (hb hby at_365) rfl ?_
    show Steps p.tables e below (T303.setTop (mkF m 367 #[.val (.int sh), .val (.int va), .val (.int vb), .val (.int vc), .val (.int vd), .val (.int ve), .val (.int pt), .val (.int nn), .val (.int l0), .val (.int l1), .val (.int l2), .val (.int l3), .val (.int l4), .val (.ref ba), .val (.ref bg), .val (.int f0), .val (.int f1), .val (.int f2), .val (.int f3), .val (.int f4), .val (.int r0), .val (.int r1), .val (.int r2), .val (.int r3), .val (.int r4), .val (.ref b230)] [(.int pt), (.int pt)])) _
    refine XS.icmpYes X305.here hx rfl (pc0 := 367) (pc' := 372) rfl (hb hby at_367) rfl (teq (rfl : pt = pt)).1 (by decide) (by decide) ?_
    show Steps p.tables e below (T303.setTop (mkF m 372 #[.val (.int sh), .val (.int va), .val (.int vb), .val (.int vc), .val (.int vd), .val (.int ve), .val (.int pt), .val (.int nn), .val (.int l0), .val (.int l1), .val (.int l2), .val (.int l3), .val (.int l4), .val (.ref ba), .val (.ref bg), .val (.int f0), .val (.int f1), .val (.int f2), .val (.int f3), .val (.int f4), .val (.int r0), .val (.int r1), .val (.int r2), .val (.int r3), .val (.int r4), .val (.ref b230)] [])) _
    refine XS.aload X305.here hx rfl (hb hby at_372) rfl rfl ?_
    show Steps p.tables e below (T303.setTop (mkF m 374 #[.val (.int sh), .val (.int va), .val (.int vb), .val (.int vc), .val (.int vd), .val (.int ve), .val (.int pt), .val (.int nn), .val (.int l0), .val (.int l1), .val (.int l2), .val (.int l3), .val (.int l4), .val (.ref ba), .val (.ref bg), .val (.int f0), .val (.int f1), .val (.int f2), .val (.int f3), .val (.int f4), .val (.int r0), .val (.int r1), .val (.int r2), .val (.int r3), .val (.int r4), .val (.ref b230)] [(.ref bg)])) _
    refine XS.iconst X305.here hx rfl (hb hby at_374) ?_
    show Steps p.tables e below (T303.setTop (mkF m 375 #[.val (.int sh), .val (.int va), .val (.int vb), .val (.int vc), .val (.int vd), .val (.int ve), .val (.int pt), .val (.int nn), .val (.int l0), .val (.int l1), .val (.int l2), .val (.int l3), .val (.int l4), .val (.ref ba), .val (.ref bg), .val (.int f0), .val (.int f1), .val (.int f2), .val (.int f3), .val (.int f4), .val (.int r0), .val (.int r1), .val (.int r2), .val (.int r3), .val (.int r4), .val (.ref b230)] [(.int (0 : Int32)), (.ref bg)])) _
    refine own_iald X305 hx hZ e306 A309 (k := 0) ⟨by decide, rfl, by omega⟩ rfl (g := (mkF m 375 #[.val (.int sh), .val (.int va), .val (.int vb), .val (.int vc), .val (.int vd), .val (.int ve), .val (.int pt), .val (.int nn), .val (.int l0), .val (.int l1), .val (.int l2), .val (.int l3), .val (.int l4), .val (.ref ba), .val (.ref bg), .val (.int f0), .val (.int f1), .val (.int f2), .val (.int f3), .val (.int f4), .val (.int r0), .val (.int r1), .val (.int r2), .val (.int r3), .val (.int r4), .val (.ref b230)] [(.int (0 : Int32)), (.ref bg)])) rfl rfl (hb hby at_375) _ ?_
    show Steps p.tables e below (T303.setTop (mkF m 376 #[.val (.int sh), .val (.int va), .val (.int vb), .val (.int vc), .val (.int vd), .val (.int ve), .val (.int pt), .val (.int nn), .val (.int l0), .val (.int l1), .val (.int l2), .val (.int l3), .val (.int l4), .val (.ref ba), .val (.ref bg), .val (.int f0), .val (.int f1), .val (.int f2), .val (.int f3), .val (.int f4), .val (.int r0), .val (.int r1), .val (.int r2), .val (.int r3), .val (.int r4), .val (.ref b230)] [(.int ((own_G (own_lab l0 l1 l2 l3 l4) pt.toInt.toNat nn.toInt.toNat) 0))])) _
    refine XS.aload X305.here hx rfl (hb hby at_376) rfl rfl ?_
    show Steps p.tables e below (T303.setTop (mkF m 378 #[.val (.int sh), .val (.int va), .val (.int vb), .val (.int vc), .val (.int vd), .val (.int ve), .val (.int pt), .val (.int nn), .val (.int l0), .val (.int l1), .val (.int l2), .val (.int l3), .val (.int l4), .val (.ref ba), .val (.ref bg), .val (.int f0), .val (.int f1), .val (.int f2), .val (.int f3), .val (.int f4), .val (.int r0), .val (.int r1), .val (.int r2), .val (.int r3), .val (.int r4), .val (.ref b230)] [(.ref b230), (.int ((own_G (own_lab l0 l1 l2 l3 l4) pt.toInt.toNat nn.toInt.toNat) 0))])) _
    refine XS.iconst X305.here hx rfl (hb hby at_378) ?_
    show Steps p.tables e below (T303.setTop (mkF m 379 #[.val (.int sh), .val (.int va), .val (.int vb), .val (.int vc), .val (.int vd), .val (.int ve), .val (.int pt), .val (.int nn), .val (.int l0), .val (.int l1), .val (.int l2), .val (.int l3), .val (.int l4), .val (.ref ba), .val (.ref bg), .val (.int f0), .val (.int f1), .val (.int f2), .val (.int f3), .val (.int f4), .val (.int r0), .val (.int r1), .val (.int r2), .val (.int r3), .val (.int r4), .val (.ref b230)] [(.int (0 : Int32)), (.ref b230), (.int ((own_G (own_lab l0 l1 l2 l3 l4) pt.toInt.toNat nn.toInt.toNat) 0))])) _
    refine own_iald X305 hx hZ e306 A310 (k := 0) ⟨by decide, rfl, by decide⟩ rfl (g := (mkF m 379 #[.val (.int sh), .val (.int va), .val (.int vb), .val (.int vc), .val (.int vd), .val (.int ve), .val (.int pt), .val (.int nn), .val (.int l0), .val (.int l1), .val (.int l2), .val (.int l3), .val (.int l4), .val (.ref ba), .val (.ref bg), .val (.int f0), .val (.int f1), .val (.int f2), .val (.int f3), .val (.int f4), .val (.int r0), .val (.int r1), .val (.int r2), .val (.int r3), .val (.int r4), .val (.ref b230)] [(.int (0 : Int32)), (.ref b230), (.int ((own_G (own_lab l0 l1 l2 l3 l4) pt.toInt.toNat nn.toInt.toNat) 0))])) rfl rfl (hb hby at_379) _ ?_
    show Steps p.tables e below (T303.setTop (mkF m 380 #[.val (.int sh), .val (.int va), .val (.int vb), .val (.int vc), .val (.int vd), .val (.int ve), .val (.int pt), .val (.int nn), .val (.int l0), .val (.int l1), .val (.int l2), .val (.int l3), .val (.int l4), .val (.ref ba), .val (.ref bg), .val (.int f0), .val (.int f1), .val (.int f2), .val (.int f3), .val (.int f4), .val (.int r0), .val (.int r1), .val (.int r2), .val (.int r3), .val (.int r4), .val (.ref b230)] [(.int (w4 0)), (.int ((own_G (own_lab l0 l1 l2 l3 l4) pt.toInt.toNat nn.toInt.toNat) 0))])) _
    refine XS.icmpNo X305.here hx rfl (hb hby at_380) rfl (teq (hall 0 (by omega))).2 ?_
    show Steps p.tables e below (T303.setTop (mkF m 383 #[.val (.int sh), .val (.int va), .val (.int vb), .val (.int vc), .val (.int vd), .val (.int ve), .val (.int pt), .val (.int nn), .val (.int l0), .val (.int l1), .val (.int l2), .val (.int l3), .val (.int l4), .val (.ref ba), .val (.ref bg), .val (.int f0), .val (.int f1), .val (.int f2), .val (.int f3), .val (.int f4), .val (.int r0), .val (.int r1), .val (.int r2), .val (.int r3), .val (.int r4), .val (.ref b230)] [])) _
    refine XS.iload X305.here hx rfl (hb hby at_383) rfl ?_
    show Steps p.tables e below (T303.setTop (mkF m 385 #[.val (.int sh), .val (.int va), .val (.int vb), .val (.int vc), .val (.int vd), .val (.int ve), .val (.int pt), .val (.int nn), .val (.int l0), .val (.int l1), .val (.int l2), .val (.int l3), .val (.int l4), .val (.ref ba), .val (.ref bg), .val (.int f0), .val (.int f1), .val (.int f2), .val (.int f3), .val (.int f4), .val (.int r0), .val (.int r1), .val (.int r2), .val (.int r3), .val (.int r4), .val (.ref b230)] [(.int pt)])) _
    refine XS.iconst X305.here hx rfl (hb hby at_385) ?_
    exact hk)
  by_cases hc386 : pt < (2 : Int32)
  ·
    have k318 : ∀ t, Steps p.tables e below (T303.setTop (mkF m 403 #[.val (.int sh), .val (.int va), .val (.int vb), .val (.int vc), .val (.int vd), .val (.int ve), .val (.int pt), .val (.int nn), .val (.int l0), .val (.int l1), .val (.int l2), .val (.int l3), .val (.int l4), .val (.ref ba), .val (.ref bg), .val (.int f0), .val (.int f1), .val (.int f2), .val (.int f3), .val (.int f4), .val (.int r0), .val (.int r1), .val (.int r2), .val (.int r3), .val (.int r4), .val (.ref b230)] [(.int (3 : Int32)), (.int pt)])) t → Steps p.tables e below (s₁.setTop (entryFrame m #[(.int sh), (.int va), (.int vb), (.int vc), (.int vd), (.int ve)] maxLocals)) t := fun t hk => k317 t (by
      show Steps p.tables e below (T303.setTop (mkF m 386 #[.val (.int sh), .val (.int va), .val (.int vb), .val (.int vc), .val (.int vd), .val (.int ve), .val (.int pt), .val (.int nn), .val (.int l0), .val (.int l1), .val (.int l2), .val (.int l3), .val (.int l4), .val (.ref ba), .val (.ref bg), .val (.int f0), .val (.int f1), .val (.int f2), .val (.int f3), .val (.int f4), .val (.int r0), .val (.int r1), .val (.int r2), .val (.int r3), .val (.int r4), .val (.ref b230)] [(.int (2 : Int32)), (.int pt)])) _
      refine XS.icmpYes X305.here hx rfl (pc0 := 386) (pc' := 400) rfl (hb hby at_386) rfl (tlt hc386).1 (by decide) (by decide) ?_
      show Steps p.tables e below (T303.setTop (mkF m 400 #[.val (.int sh), .val (.int va), .val (.int vb), .val (.int vc), .val (.int vd), .val (.int ve), .val (.int pt), .val (.int nn), .val (.int l0), .val (.int l1), .val (.int l2), .val (.int l3), .val (.int l4), .val (.ref ba), .val (.ref bg), .val (.int f0), .val (.int f1), .val (.int f2), .val (.int f3), .val (.int f4), .val (.int r0), .val (.int r1), .val (.int r2), .val (.int r3), .val (.int r4), .val (.ref b230)] [])) _
      refine XS.iload X305.here hx rfl (hb hby at_400) rfl ?_
      show Steps p.tables e below (T303.setTop (mkF m 402 #[.val (.int sh), .val (.int va), .val (.int vb), .val (.int vc), .val (.int vd), .val (.int ve), .val (.int pt), .val (.int nn), .val (.int l0), .val (.int l1), .val (.int l2), .val (.int l3), .val (.int l4), .val (.ref ba), .val (.ref bg), .val (.int f0), .val (.int f1), .val (.int f2), .val (.int f3), .val (.int f4), .val (.int r0), .val (.int r1), .val (.int r2), .val (.int r3), .val (.int r4), .val (.ref b230)] [(.int pt)])) _
      refine XS.iconst X305.here hx rfl (hb hby at_402) ?_
      exact hk)
    by_cases hc403 : pt < (3 : Int32)
    ·
      have k319 : ∀ t, Steps p.tables e below (T303.setTop (mkF m 420 #[.val (.int sh), .val (.int va), .val (.int vb), .val (.int vc), .val (.int vd), .val (.int ve), .val (.int pt), .val (.int nn), .val (.int l0), .val (.int l1), .val (.int l2), .val (.int l3), .val (.int l4), .val (.ref ba), .val (.ref bg), .val (.int f0), .val (.int f1), .val (.int f2), .val (.int f3), .val (.int f4), .val (.int r0), .val (.int r1), .val (.int r2), .val (.int r3), .val (.int r4), .val (.ref b230)] [(.int (4 : Int32)), (.int pt)])) t → Steps p.tables e below (s₁.setTop (entryFrame m #[(.int sh), (.int va), (.int vb), (.int vc), (.int vd), (.int ve)] maxLocals)) t := fun t hk => k318 t (by
        show Steps p.tables e below (T303.setTop (mkF m 403 #[.val (.int sh), .val (.int va), .val (.int vb), .val (.int vc), .val (.int vd), .val (.int ve), .val (.int pt), .val (.int nn), .val (.int l0), .val (.int l1), .val (.int l2), .val (.int l3), .val (.int l4), .val (.ref ba), .val (.ref bg), .val (.int f0), .val (.int f1), .val (.int f2), .val (.int f3), .val (.int f4), .val (.int r0), .val (.int r1), .val (.int r2), .val (.int r3), .val (.int r4), .val (.ref b230)] [(.int (3 : Int32)), (.int pt)])) _
        refine XS.icmpYes X305.here hx rfl (pc0 := 403) (pc' := 417) rfl (hb hby at_403) rfl (tlt hc403).1 (by decide) (by decide) ?_
        show Steps p.tables e below (T303.setTop (mkF m 417 #[.val (.int sh), .val (.int va), .val (.int vb), .val (.int vc), .val (.int vd), .val (.int ve), .val (.int pt), .val (.int nn), .val (.int l0), .val (.int l1), .val (.int l2), .val (.int l3), .val (.int l4), .val (.ref ba), .val (.ref bg), .val (.int f0), .val (.int f1), .val (.int f2), .val (.int f3), .val (.int f4), .val (.int r0), .val (.int r1), .val (.int r2), .val (.int r3), .val (.int r4), .val (.ref b230)] [])) _
        refine XS.iload X305.here hx rfl (hb hby at_417) rfl ?_
        show Steps p.tables e below (T303.setTop (mkF m 419 #[.val (.int sh), .val (.int va), .val (.int vb), .val (.int vc), .val (.int vd), .val (.int ve), .val (.int pt), .val (.int nn), .val (.int l0), .val (.int l1), .val (.int l2), .val (.int l3), .val (.int l4), .val (.ref ba), .val (.ref bg), .val (.int f0), .val (.int f1), .val (.int f2), .val (.int f3), .val (.int f4), .val (.int r0), .val (.int r1), .val (.int r2), .val (.int r3), .val (.int r4), .val (.ref b230)] [(.int pt)])) _
        refine XS.iconst X305.here hx rfl (hb hby at_419) ?_
        exact hk)
      by_cases hc420 : pt < (4 : Int32)
      ·
        have k320 : ∀ t, Steps p.tables e below (T303.setTop (mkF m 439 #[.val (.int sh), .val (.int va), .val (.int vb), .val (.int vc), .val (.int vd), .val (.int ve), .val (.int pt), .val (.int nn), .val (.int l0), .val (.int l1), .val (.int l2), .val (.int l3), .val (.int l4), .val (.ref ba), .val (.ref bg), .val (.int f0), .val (.int f1), .val (.int f2), .val (.int f3), .val (.int f4), .val (.int r0), .val (.int r1), .val (.int r2), .val (.int r3), .val (.int r4), .val (.ref b230)] [(.int (1 : Int32))])) t → Steps p.tables e below (s₁.setTop (entryFrame m #[(.int sh), (.int va), (.int vb), (.int vc), (.int vd), (.int ve)] maxLocals)) t := fun t hk => k319 t (by
          show Steps p.tables e below (T303.setTop (mkF m 420 #[.val (.int sh), .val (.int va), .val (.int vb), .val (.int vc), .val (.int vd), .val (.int ve), .val (.int pt), .val (.int nn), .val (.int l0), .val (.int l1), .val (.int l2), .val (.int l3), .val (.int l4), .val (.ref ba), .val (.ref bg), .val (.int f0), .val (.int f1), .val (.int f2), .val (.int f3), .val (.int f4), .val (.int r0), .val (.int r1), .val (.int r2), .val (.int r3), .val (.int r4), .val (.ref b230)] [(.int (4 : Int32)), (.int pt)])) _
          refine XS.icmpYes X305.here hx rfl (pc0 := 420) (pc' := 434) rfl (hb hby at_420) rfl (tlt hc420).1 (by decide) (by decide) ?_
          show Steps p.tables e below (T303.setTop (mkF m 434 #[.val (.int sh), .val (.int va), .val (.int vb), .val (.int vc), .val (.int vd), .val (.int ve), .val (.int pt), .val (.int nn), .val (.int l0), .val (.int l1), .val (.int l2), .val (.int l3), .val (.int l4), .val (.ref ba), .val (.ref bg), .val (.int f0), .val (.int f1), .val (.int f2), .val (.int f3), .val (.int f4), .val (.int r0), .val (.int r1), .val (.int r2), .val (.int r3), .val (.int r4), .val (.ref b230)] [])) _
          refine XS.iconst X305.here hx rfl (hb hby at_434) ?_
          show Steps p.tables e below (T303.setTop (mkF m 435 #[.val (.int sh), .val (.int va), .val (.int vb), .val (.int vc), .val (.int vd), .val (.int ve), .val (.int pt), .val (.int nn), .val (.int l0), .val (.int l1), .val (.int l2), .val (.int l3), .val (.int l4), .val (.ref ba), .val (.ref bg), .val (.int f0), .val (.int f1), .val (.int f2), .val (.int f3), .val (.int f4), .val (.int r0), .val (.int r1), .val (.int r2), .val (.int r3), .val (.int r4), .val (.ref b230)] [(.int (1 : Int32))])) _
          refine XS.goto X305.here hx rfl (pc0 := 435) (pc' := 439) rfl (hb hby at_435) (by decide) (by decide) ?_
          exact hk)
        obtain ⟨fs, hr, hrun, hended, hW, hsame⟩ := X305.leave (v := some (.int (nar .boolean (1 : Int32)))) (fun h => by rw [Bd.returns] at h; cases h)
        refine ⟨_, _, k320 _ ?_, hrun, hended, _, _, rfl, ?_, ⟨_, rfl⟩, hW, hsame.mono (by decide) (by decide)⟩
        · show Steps p.tables e below (T303.setTop (mkF m 439 #[.val (.int sh), .val (.int va), .val (.int vb), .val (.int vc), .val (.int vd), .val (.int ve), .val (.int pt), .val (.int nn), .val (.int l0), .val (.int l1), .val (.int l2), .val (.int l3), .val (.int l4), .val (.ref ba), .val (.ref bg), .val (.int f0), .val (.int f1), .val (.int f2), .val (.int f3), .val (.int f4), .val (.int r0), .val (.int r1), .val (.int r2), .val (.int r3), .val (.int r4), .val (.ref b230)] [(.int (1 : Int32))])) _
          exact retN X305 hx (t := .boolean) Bd.returns (by simp) (hb hby at_439) hr
        · show Q0 Z sh va vb vc vd ve h0 n0 _ T303.heap _
          rw [e306]
          exact ⟨rfl, N307⟩
      ·
        have k321 : ∀ t, Steps p.tables e below (T303.setTop (mkF m 439 #[.val (.int sh), .val (.int va), .val (.int vb), .val (.int vc), .val (.int vd), .val (.int ve), .val (.int pt), .val (.int nn), .val (.int l0), .val (.int l1), .val (.int l2), .val (.int l3), .val (.int l4), .val (.ref ba), .val (.ref bg), .val (.int f0), .val (.int f1), .val (.int f2), .val (.int f3), .val (.int f4), .val (.int r0), .val (.int r1), .val (.int r2), .val (.int r3), .val (.int r4), .val (.ref b230)] [(.int (1 : Int32))])) t → Steps p.tables e below (s₁.setTop (entryFrame m #[(.int sh), (.int va), (.int vb), (.int vc), (.int vd), (.int ve)] maxLocals)) t := fun t hk => k319 t (by
          show Steps p.tables e below (T303.setTop (mkF m 420 #[.val (.int sh), .val (.int va), .val (.int vb), .val (.int vc), .val (.int vd), .val (.int ve), .val (.int pt), .val (.int nn), .val (.int l0), .val (.int l1), .val (.int l2), .val (.int l3), .val (.int l4), .val (.ref ba), .val (.ref bg), .val (.int f0), .val (.int f1), .val (.int f2), .val (.int f3), .val (.int f4), .val (.int r0), .val (.int r1), .val (.int r2), .val (.int r3), .val (.int r4), .val (.ref b230)] [(.int (4 : Int32)), (.int pt)])) _
          refine XS.icmpNo X305.here hx rfl (hb hby at_420) rfl (flt hc420).1 ?_
          show Steps p.tables e below (T303.setTop (mkF m 423 #[.val (.int sh), .val (.int va), .val (.int vb), .val (.int vc), .val (.int vd), .val (.int ve), .val (.int pt), .val (.int nn), .val (.int l0), .val (.int l1), .val (.int l2), .val (.int l3), .val (.int l4), .val (.ref ba), .val (.ref bg), .val (.int f0), .val (.int f1), .val (.int f2), .val (.int f3), .val (.int f4), .val (.int r0), .val (.int r1), .val (.int r2), .val (.int r3), .val (.int r4), .val (.ref b230)] [])) _
          refine XS.aload X305.here hx rfl (hb hby at_423) rfl rfl ?_
          show Steps p.tables e below (T303.setTop (mkF m 425 #[.val (.int sh), .val (.int va), .val (.int vb), .val (.int vc), .val (.int vd), .val (.int ve), .val (.int pt), .val (.int nn), .val (.int l0), .val (.int l1), .val (.int l2), .val (.int l3), .val (.int l4), .val (.ref ba), .val (.ref bg), .val (.int f0), .val (.int f1), .val (.int f2), .val (.int f3), .val (.int f4), .val (.int r0), .val (.int r1), .val (.int r2), .val (.int r3), .val (.int r4), .val (.ref b230)] [(.ref bg)])) _
          refine XS.iconst X305.here hx rfl (hb hby at_425) ?_
          show Steps p.tables e below (T303.setTop (mkF m 426 #[.val (.int sh), .val (.int va), .val (.int vb), .val (.int vc), .val (.int vd), .val (.int ve), .val (.int pt), .val (.int nn), .val (.int l0), .val (.int l1), .val (.int l2), .val (.int l3), .val (.int l4), .val (.ref ba), .val (.ref bg), .val (.int f0), .val (.int f1), .val (.int f2), .val (.int f3), .val (.int f4), .val (.int r0), .val (.int r1), .val (.int r2), .val (.int r3), .val (.int r4), .val (.ref b230)] [(.int (3 : Int32)), (.ref bg)])) _
          refine own_iald X305 hx hZ e306 A309 (k := 3) (own_at3 hc420) rfl (g := (mkF m 426 #[.val (.int sh), .val (.int va), .val (.int vb), .val (.int vc), .val (.int vd), .val (.int ve), .val (.int pt), .val (.int nn), .val (.int l0), .val (.int l1), .val (.int l2), .val (.int l3), .val (.int l4), .val (.ref ba), .val (.ref bg), .val (.int f0), .val (.int f1), .val (.int f2), .val (.int f3), .val (.int f4), .val (.int r0), .val (.int r1), .val (.int r2), .val (.int r3), .val (.int r4), .val (.ref b230)] [(.int (3 : Int32)), (.ref bg)])) rfl rfl (hb hby at_426) _ ?_
          show Steps p.tables e below (T303.setTop (mkF m 427 #[.val (.int sh), .val (.int va), .val (.int vb), .val (.int vc), .val (.int vd), .val (.int ve), .val (.int pt), .val (.int nn), .val (.int l0), .val (.int l1), .val (.int l2), .val (.int l3), .val (.int l4), .val (.ref ba), .val (.ref bg), .val (.int f0), .val (.int f1), .val (.int f2), .val (.int f3), .val (.int f4), .val (.int r0), .val (.int r1), .val (.int r2), .val (.int r3), .val (.int r4), .val (.ref b230)] [(.int ((own_G (own_lab l0 l1 l2 l3 l4) pt.toInt.toNat nn.toInt.toNat) 3))])) _
          refine XS.aload X305.here hx rfl (hb hby at_427) rfl rfl ?_
          show Steps p.tables e below (T303.setTop (mkF m 429 #[.val (.int sh), .val (.int va), .val (.int vb), .val (.int vc), .val (.int vd), .val (.int ve), .val (.int pt), .val (.int nn), .val (.int l0), .val (.int l1), .val (.int l2), .val (.int l3), .val (.int l4), .val (.ref ba), .val (.ref bg), .val (.int f0), .val (.int f1), .val (.int f2), .val (.int f3), .val (.int f4), .val (.int r0), .val (.int r1), .val (.int r2), .val (.int r3), .val (.int r4), .val (.ref b230)] [(.ref b230), (.int ((own_G (own_lab l0 l1 l2 l3 l4) pt.toInt.toNat nn.toInt.toNat) 3))])) _
          refine XS.iconst X305.here hx rfl (hb hby at_429) ?_
          show Steps p.tables e below (T303.setTop (mkF m 430 #[.val (.int sh), .val (.int va), .val (.int vb), .val (.int vc), .val (.int vd), .val (.int ve), .val (.int pt), .val (.int nn), .val (.int l0), .val (.int l1), .val (.int l2), .val (.int l3), .val (.int l4), .val (.ref ba), .val (.ref bg), .val (.int f0), .val (.int f1), .val (.int f2), .val (.int f3), .val (.int f4), .val (.int r0), .val (.int r1), .val (.int r2), .val (.int r3), .val (.int r4), .val (.ref b230)] [(.int (3 : Int32)), (.ref b230), (.int ((own_G (own_lab l0 l1 l2 l3 l4) pt.toInt.toNat nn.toInt.toNat) 3))])) _
          refine own_iald X305 hx hZ e306 A310 (k := 3) ⟨by decide, rfl, by decide⟩ rfl (g := (mkF m 430 #[.val (.int sh), .val (.int va), .val (.int vb), .val (.int vc), .val (.int vd), .val (.int ve), .val (.int pt), .val (.int nn), .val (.int l0), .val (.int l1), .val (.int l2), .val (.int l3), .val (.int l4), .val (.ref ba), .val (.ref bg), .val (.int f0), .val (.int f1), .val (.int f2), .val (.int f3), .val (.int f4), .val (.int r0), .val (.int r1), .val (.int r2), .val (.int r3), .val (.int r4), .val (.ref b230)] [(.int (3 : Int32)), (.ref b230), (.int ((own_G (own_lab l0 l1 l2 l3 l4) pt.toInt.toNat nn.toInt.toNat) 3))])) rfl rfl (hb hby at_430) _ ?_
          show Steps p.tables e below (T303.setTop (mkF m 431 #[.val (.int sh), .val (.int va), .val (.int vb), .val (.int vc), .val (.int vd), .val (.int ve), .val (.int pt), .val (.int nn), .val (.int l0), .val (.int l1), .val (.int l2), .val (.int l3), .val (.int l4), .val (.ref ba), .val (.ref bg), .val (.int f0), .val (.int f1), .val (.int f2), .val (.int f3), .val (.int f4), .val (.int r0), .val (.int r1), .val (.int r2), .val (.int r3), .val (.int r4), .val (.ref b230)] [(.int (w4 3)), (.int ((own_G (own_lab l0 l1 l2 l3 l4) pt.toInt.toNat nn.toInt.toNat) 3))])) _
          refine XS.icmpNo X305.here hx rfl (hb hby at_431) rfl (teq (hall 3 (own_at3 hc420).2.2)).2 ?_
          show Steps p.tables e below (T303.setTop (mkF m 434 #[.val (.int sh), .val (.int va), .val (.int vb), .val (.int vc), .val (.int vd), .val (.int ve), .val (.int pt), .val (.int nn), .val (.int l0), .val (.int l1), .val (.int l2), .val (.int l3), .val (.int l4), .val (.ref ba), .val (.ref bg), .val (.int f0), .val (.int f1), .val (.int f2), .val (.int f3), .val (.int f4), .val (.int r0), .val (.int r1), .val (.int r2), .val (.int r3), .val (.int r4), .val (.ref b230)] [])) _
          refine XS.iconst X305.here hx rfl (hb hby at_434) ?_
          show Steps p.tables e below (T303.setTop (mkF m 435 #[.val (.int sh), .val (.int va), .val (.int vb), .val (.int vc), .val (.int vd), .val (.int ve), .val (.int pt), .val (.int nn), .val (.int l0), .val (.int l1), .val (.int l2), .val (.int l3), .val (.int l4), .val (.ref ba), .val (.ref bg), .val (.int f0), .val (.int f1), .val (.int f2), .val (.int f3), .val (.int f4), .val (.int r0), .val (.int r1), .val (.int r2), .val (.int r3), .val (.int r4), .val (.ref b230)] [(.int (1 : Int32))])) _
          refine XS.goto X305.here hx rfl (pc0 := 435) (pc' := 439) rfl (hb hby at_435) (by decide) (by decide) ?_
          exact hk)
        obtain ⟨fs, hr, hrun, hended, hW, hsame⟩ := X305.leave (v := some (.int (nar .boolean (1 : Int32)))) (fun h => by rw [Bd.returns] at h; cases h)
        refine ⟨_, _, k321 _ ?_, hrun, hended, _, _, rfl, ?_, ⟨_, rfl⟩, hW, hsame.mono (by decide) (by decide)⟩
        · show Steps p.tables e below (T303.setTop (mkF m 439 #[.val (.int sh), .val (.int va), .val (.int vb), .val (.int vc), .val (.int vd), .val (.int ve), .val (.int pt), .val (.int nn), .val (.int l0), .val (.int l1), .val (.int l2), .val (.int l3), .val (.int l4), .val (.ref ba), .val (.ref bg), .val (.int f0), .val (.int f1), .val (.int f2), .val (.int f3), .val (.int f4), .val (.int r0), .val (.int r1), .val (.int r2), .val (.int r3), .val (.int r4), .val (.ref b230)] [(.int (1 : Int32))])) _
          exact retN X305 hx (t := .boolean) Bd.returns (by simp) (hb hby at_439) hr
        · show Q0 Z sh va vb vc vd ve h0 n0 _ T303.heap _
          rw [e306]
          exact ⟨rfl, N307⟩
    ·
      have k322 : ∀ t, Steps p.tables e below (T303.setTop (mkF m 420 #[.val (.int sh), .val (.int va), .val (.int vb), .val (.int vc), .val (.int vd), .val (.int ve), .val (.int pt), .val (.int nn), .val (.int l0), .val (.int l1), .val (.int l2), .val (.int l3), .val (.int l4), .val (.ref ba), .val (.ref bg), .val (.int f0), .val (.int f1), .val (.int f2), .val (.int f3), .val (.int f4), .val (.int r0), .val (.int r1), .val (.int r2), .val (.int r3), .val (.int r4), .val (.ref b230)] [(.int (4 : Int32)), (.int pt)])) t → Steps p.tables e below (s₁.setTop (entryFrame m #[(.int sh), (.int va), (.int vb), (.int vc), (.int vd), (.int ve)] maxLocals)) t := fun t hk => k318 t (by
        show Steps p.tables e below (T303.setTop (mkF m 403 #[.val (.int sh), .val (.int va), .val (.int vb), .val (.int vc), .val (.int vd), .val (.int ve), .val (.int pt), .val (.int nn), .val (.int l0), .val (.int l1), .val (.int l2), .val (.int l3), .val (.int l4), .val (.ref ba), .val (.ref bg), .val (.int f0), .val (.int f1), .val (.int f2), .val (.int f3), .val (.int f4), .val (.int r0), .val (.int r1), .val (.int r2), .val (.int r3), .val (.int r4), .val (.ref b230)] [(.int (3 : Int32)), (.int pt)])) _
        refine XS.icmpNo X305.here hx rfl (hb hby at_403) rfl (flt hc403).1 ?_
        show Steps p.tables e below (T303.setTop (mkF m 406 #[.val (.int sh), .val (.int va), .val (.int vb), .val (.int vc), .val (.int vd), .val (.int ve), .val (.int pt), .val (.int nn), .val (.int l0), .val (.int l1), .val (.int l2), .val (.int l3), .val (.int l4), .val (.ref ba), .val (.ref bg), .val (.int f0), .val (.int f1), .val (.int f2), .val (.int f3), .val (.int f4), .val (.int r0), .val (.int r1), .val (.int r2), .val (.int r3), .val (.int r4), .val (.ref b230)] [])) _
        refine XS.aload X305.here hx rfl (hb hby at_406) rfl rfl ?_
        show Steps p.tables e below (T303.setTop (mkF m 408 #[.val (.int sh), .val (.int va), .val (.int vb), .val (.int vc), .val (.int vd), .val (.int ve), .val (.int pt), .val (.int nn), .val (.int l0), .val (.int l1), .val (.int l2), .val (.int l3), .val (.int l4), .val (.ref ba), .val (.ref bg), .val (.int f0), .val (.int f1), .val (.int f2), .val (.int f3), .val (.int f4), .val (.int r0), .val (.int r1), .val (.int r2), .val (.int r3), .val (.int r4), .val (.ref b230)] [(.ref bg)])) _
        refine XS.iconst X305.here hx rfl (hb hby at_408) ?_
        show Steps p.tables e below (T303.setTop (mkF m 409 #[.val (.int sh), .val (.int va), .val (.int vb), .val (.int vc), .val (.int vd), .val (.int ve), .val (.int pt), .val (.int nn), .val (.int l0), .val (.int l1), .val (.int l2), .val (.int l3), .val (.int l4), .val (.ref ba), .val (.ref bg), .val (.int f0), .val (.int f1), .val (.int f2), .val (.int f3), .val (.int f4), .val (.int r0), .val (.int r1), .val (.int r2), .val (.int r3), .val (.int r4), .val (.ref b230)] [(.int (2 : Int32)), (.ref bg)])) _
        refine own_iald X305 hx hZ e306 A309 (k := 2) (own_at2 hc403) rfl (g := (mkF m 409 #[.val (.int sh), .val (.int va), .val (.int vb), .val (.int vc), .val (.int vd), .val (.int ve), .val (.int pt), .val (.int nn), .val (.int l0), .val (.int l1), .val (.int l2), .val (.int l3), .val (.int l4), .val (.ref ba), .val (.ref bg), .val (.int f0), .val (.int f1), .val (.int f2), .val (.int f3), .val (.int f4), .val (.int r0), .val (.int r1), .val (.int r2), .val (.int r3), .val (.int r4), .val (.ref b230)] [(.int (2 : Int32)), (.ref bg)])) rfl rfl (hb hby at_409) _ ?_
        show Steps p.tables e below (T303.setTop (mkF m 410 #[.val (.int sh), .val (.int va), .val (.int vb), .val (.int vc), .val (.int vd), .val (.int ve), .val (.int pt), .val (.int nn), .val (.int l0), .val (.int l1), .val (.int l2), .val (.int l3), .val (.int l4), .val (.ref ba), .val (.ref bg), .val (.int f0), .val (.int f1), .val (.int f2), .val (.int f3), .val (.int f4), .val (.int r0), .val (.int r1), .val (.int r2), .val (.int r3), .val (.int r4), .val (.ref b230)] [(.int ((own_G (own_lab l0 l1 l2 l3 l4) pt.toInt.toNat nn.toInt.toNat) 2))])) _
        refine XS.aload X305.here hx rfl (hb hby at_410) rfl rfl ?_
        show Steps p.tables e below (T303.setTop (mkF m 412 #[.val (.int sh), .val (.int va), .val (.int vb), .val (.int vc), .val (.int vd), .val (.int ve), .val (.int pt), .val (.int nn), .val (.int l0), .val (.int l1), .val (.int l2), .val (.int l3), .val (.int l4), .val (.ref ba), .val (.ref bg), .val (.int f0), .val (.int f1), .val (.int f2), .val (.int f3), .val (.int f4), .val (.int r0), .val (.int r1), .val (.int r2), .val (.int r3), .val (.int r4), .val (.ref b230)] [(.ref b230), (.int ((own_G (own_lab l0 l1 l2 l3 l4) pt.toInt.toNat nn.toInt.toNat) 2))])) _
        refine XS.iconst X305.here hx rfl (hb hby at_412) ?_
        show Steps p.tables e below (T303.setTop (mkF m 413 #[.val (.int sh), .val (.int va), .val (.int vb), .val (.int vc), .val (.int vd), .val (.int ve), .val (.int pt), .val (.int nn), .val (.int l0), .val (.int l1), .val (.int l2), .val (.int l3), .val (.int l4), .val (.ref ba), .val (.ref bg), .val (.int f0), .val (.int f1), .val (.int f2), .val (.int f3), .val (.int f4), .val (.int r0), .val (.int r1), .val (.int r2), .val (.int r3), .val (.int r4), .val (.ref b230)] [(.int (2 : Int32)), (.ref b230), (.int ((own_G (own_lab l0 l1 l2 l3 l4) pt.toInt.toNat nn.toInt.toNat) 2))])) _
        refine own_iald X305 hx hZ e306 A310 (k := 2) ⟨by decide, rfl, by decide⟩ rfl (g := (mkF m 413 #[.val (.int sh), .val (.int va), .val (.int vb), .val (.int vc), .val (.int vd), .val (.int ve), .val (.int pt), .val (.int nn), .val (.int l0), .val (.int l1), .val (.int l2), .val (.int l3), .val (.int l4), .val (.ref ba), .val (.ref bg), .val (.int f0), .val (.int f1), .val (.int f2), .val (.int f3), .val (.int f4), .val (.int r0), .val (.int r1), .val (.int r2), .val (.int r3), .val (.int r4), .val (.ref b230)] [(.int (2 : Int32)), (.ref b230), (.int ((own_G (own_lab l0 l1 l2 l3 l4) pt.toInt.toNat nn.toInt.toNat) 2))])) rfl rfl (hb hby at_413) _ ?_
        show Steps p.tables e below (T303.setTop (mkF m 414 #[.val (.int sh), .val (.int va), .val (.int vb), .val (.int vc), .val (.int vd), .val (.int ve), .val (.int pt), .val (.int nn), .val (.int l0), .val (.int l1), .val (.int l2), .val (.int l3), .val (.int l4), .val (.ref ba), .val (.ref bg), .val (.int f0), .val (.int f1), .val (.int f2), .val (.int f3), .val (.int f4), .val (.int r0), .val (.int r1), .val (.int r2), .val (.int r3), .val (.int r4), .val (.ref b230)] [(.int (w4 2)), (.int ((own_G (own_lab l0 l1 l2 l3 l4) pt.toInt.toNat nn.toInt.toNat) 2))])) _
        refine XS.icmpNo X305.here hx rfl (hb hby at_414) rfl (teq (hall 2 (own_at2 hc403).2.2)).2 ?_
        show Steps p.tables e below (T303.setTop (mkF m 417 #[.val (.int sh), .val (.int va), .val (.int vb), .val (.int vc), .val (.int vd), .val (.int ve), .val (.int pt), .val (.int nn), .val (.int l0), .val (.int l1), .val (.int l2), .val (.int l3), .val (.int l4), .val (.ref ba), .val (.ref bg), .val (.int f0), .val (.int f1), .val (.int f2), .val (.int f3), .val (.int f4), .val (.int r0), .val (.int r1), .val (.int r2), .val (.int r3), .val (.int r4), .val (.ref b230)] [])) _
        refine XS.iload X305.here hx rfl (hb hby at_417) rfl ?_
        show Steps p.tables e below (T303.setTop (mkF m 419 #[.val (.int sh), .val (.int va), .val (.int vb), .val (.int vc), .val (.int vd), .val (.int ve), .val (.int pt), .val (.int nn), .val (.int l0), .val (.int l1), .val (.int l2), .val (.int l3), .val (.int l4), .val (.ref ba), .val (.ref bg), .val (.int f0), .val (.int f1), .val (.int f2), .val (.int f3), .val (.int f4), .val (.int r0), .val (.int r1), .val (.int r2), .val (.int r3), .val (.int r4), .val (.ref b230)] [(.int pt)])) _
        refine XS.iconst X305.here hx rfl (hb hby at_419) ?_
        exact hk)
      by_cases hc420 : pt < (4 : Int32)
      ·
        have k323 : ∀ t, Steps p.tables e below (T303.setTop (mkF m 439 #[.val (.int sh), .val (.int va), .val (.int vb), .val (.int vc), .val (.int vd), .val (.int ve), .val (.int pt), .val (.int nn), .val (.int l0), .val (.int l1), .val (.int l2), .val (.int l3), .val (.int l4), .val (.ref ba), .val (.ref bg), .val (.int f0), .val (.int f1), .val (.int f2), .val (.int f3), .val (.int f4), .val (.int r0), .val (.int r1), .val (.int r2), .val (.int r3), .val (.int r4), .val (.ref b230)] [(.int (1 : Int32))])) t → Steps p.tables e below (s₁.setTop (entryFrame m #[(.int sh), (.int va), (.int vb), (.int vc), (.int vd), (.int ve)] maxLocals)) t := fun t hk => k322 t (by
          show Steps p.tables e below (T303.setTop (mkF m 420 #[.val (.int sh), .val (.int va), .val (.int vb), .val (.int vc), .val (.int vd), .val (.int ve), .val (.int pt), .val (.int nn), .val (.int l0), .val (.int l1), .val (.int l2), .val (.int l3), .val (.int l4), .val (.ref ba), .val (.ref bg), .val (.int f0), .val (.int f1), .val (.int f2), .val (.int f3), .val (.int f4), .val (.int r0), .val (.int r1), .val (.int r2), .val (.int r3), .val (.int r4), .val (.ref b230)] [(.int (4 : Int32)), (.int pt)])) _
          refine XS.icmpYes X305.here hx rfl (pc0 := 420) (pc' := 434) rfl (hb hby at_420) rfl (tlt hc420).1 (by decide) (by decide) ?_
          show Steps p.tables e below (T303.setTop (mkF m 434 #[.val (.int sh), .val (.int va), .val (.int vb), .val (.int vc), .val (.int vd), .val (.int ve), .val (.int pt), .val (.int nn), .val (.int l0), .val (.int l1), .val (.int l2), .val (.int l3), .val (.int l4), .val (.ref ba), .val (.ref bg), .val (.int f0), .val (.int f1), .val (.int f2), .val (.int f3), .val (.int f4), .val (.int r0), .val (.int r1), .val (.int r2), .val (.int r3), .val (.int r4), .val (.ref b230)] [])) _
          refine XS.iconst X305.here hx rfl (hb hby at_434) ?_
          show Steps p.tables e below (T303.setTop (mkF m 435 #[.val (.int sh), .val (.int va), .val (.int vb), .val (.int vc), .val (.int vd), .val (.int ve), .val (.int pt), .val (.int nn), .val (.int l0), .val (.int l1), .val (.int l2), .val (.int l3), .val (.int l4), .val (.ref ba), .val (.ref bg), .val (.int f0), .val (.int f1), .val (.int f2), .val (.int f3), .val (.int f4), .val (.int r0), .val (.int r1), .val (.int r2), .val (.int r3), .val (.int r4), .val (.ref b230)] [(.int (1 : Int32))])) _
          refine XS.goto X305.here hx rfl (pc0 := 435) (pc' := 439) rfl (hb hby at_435) (by decide) (by decide) ?_
          exact hk)
        obtain ⟨fs, hr, hrun, hended, hW, hsame⟩ := X305.leave (v := some (.int (nar .boolean (1 : Int32)))) (fun h => by rw [Bd.returns] at h; cases h)
        refine ⟨_, _, k323 _ ?_, hrun, hended, _, _, rfl, ?_, ⟨_, rfl⟩, hW, hsame.mono (by decide) (by decide)⟩
        · show Steps p.tables e below (T303.setTop (mkF m 439 #[.val (.int sh), .val (.int va), .val (.int vb), .val (.int vc), .val (.int vd), .val (.int ve), .val (.int pt), .val (.int nn), .val (.int l0), .val (.int l1), .val (.int l2), .val (.int l3), .val (.int l4), .val (.ref ba), .val (.ref bg), .val (.int f0), .val (.int f1), .val (.int f2), .val (.int f3), .val (.int f4), .val (.int r0), .val (.int r1), .val (.int r2), .val (.int r3), .val (.int r4), .val (.ref b230)] [(.int (1 : Int32))])) _
          exact retN X305 hx (t := .boolean) Bd.returns (by simp) (hb hby at_439) hr
        · show Q0 Z sh va vb vc vd ve h0 n0 _ T303.heap _
          rw [e306]
          exact ⟨rfl, N307⟩
      ·
        have k324 : ∀ t, Steps p.tables e below (T303.setTop (mkF m 439 #[.val (.int sh), .val (.int va), .val (.int vb), .val (.int vc), .val (.int vd), .val (.int ve), .val (.int pt), .val (.int nn), .val (.int l0), .val (.int l1), .val (.int l2), .val (.int l3), .val (.int l4), .val (.ref ba), .val (.ref bg), .val (.int f0), .val (.int f1), .val (.int f2), .val (.int f3), .val (.int f4), .val (.int r0), .val (.int r1), .val (.int r2), .val (.int r3), .val (.int r4), .val (.ref b230)] [(.int (1 : Int32))])) t → Steps p.tables e below (s₁.setTop (entryFrame m #[(.int sh), (.int va), (.int vb), (.int vc), (.int vd), (.int ve)] maxLocals)) t := fun t hk => k322 t (by
          show Steps p.tables e below (T303.setTop (mkF m 420 #[.val (.int sh), .val (.int va), .val (.int vb), .val (.int vc), .val (.int vd), .val (.int ve), .val (.int pt), .val (.int nn), .val (.int l0), .val (.int l1), .val (.int l2), .val (.int l3), .val (.int l4), .val (.ref ba), .val (.ref bg), .val (.int f0), .val (.int f1), .val (.int f2), .val (.int f3), .val (.int f4), .val (.int r0), .val (.int r1), .val (.int r2), .val (.int r3), .val (.int r4), .val (.ref b230)] [(.int (4 : Int32)), (.int pt)])) _
          refine XS.icmpNo X305.here hx rfl (hb hby at_420) rfl (flt hc420).1 ?_
          show Steps p.tables e below (T303.setTop (mkF m 423 #[.val (.int sh), .val (.int va), .val (.int vb), .val (.int vc), .val (.int vd), .val (.int ve), .val (.int pt), .val (.int nn), .val (.int l0), .val (.int l1), .val (.int l2), .val (.int l3), .val (.int l4), .val (.ref ba), .val (.ref bg), .val (.int f0), .val (.int f1), .val (.int f2), .val (.int f3), .val (.int f4), .val (.int r0), .val (.int r1), .val (.int r2), .val (.int r3), .val (.int r4), .val (.ref b230)] [])) _
          refine XS.aload X305.here hx rfl (hb hby at_423) rfl rfl ?_
          show Steps p.tables e below (T303.setTop (mkF m 425 #[.val (.int sh), .val (.int va), .val (.int vb), .val (.int vc), .val (.int vd), .val (.int ve), .val (.int pt), .val (.int nn), .val (.int l0), .val (.int l1), .val (.int l2), .val (.int l3), .val (.int l4), .val (.ref ba), .val (.ref bg), .val (.int f0), .val (.int f1), .val (.int f2), .val (.int f3), .val (.int f4), .val (.int r0), .val (.int r1), .val (.int r2), .val (.int r3), .val (.int r4), .val (.ref b230)] [(.ref bg)])) _
          refine XS.iconst X305.here hx rfl (hb hby at_425) ?_
          show Steps p.tables e below (T303.setTop (mkF m 426 #[.val (.int sh), .val (.int va), .val (.int vb), .val (.int vc), .val (.int vd), .val (.int ve), .val (.int pt), .val (.int nn), .val (.int l0), .val (.int l1), .val (.int l2), .val (.int l3), .val (.int l4), .val (.ref ba), .val (.ref bg), .val (.int f0), .val (.int f1), .val (.int f2), .val (.int f3), .val (.int f4), .val (.int r0), .val (.int r1), .val (.int r2), .val (.int r3), .val (.int r4), .val (.ref b230)] [(.int (3 : Int32)), (.ref bg)])) _
          refine own_iald X305 hx hZ e306 A309 (k := 3) (own_at3 hc420) rfl (g := (mkF m 426 #[.val (.int sh), .val (.int va), .val (.int vb), .val (.int vc), .val (.int vd), .val (.int ve), .val (.int pt), .val (.int nn), .val (.int l0), .val (.int l1), .val (.int l2), .val (.int l3), .val (.int l4), .val (.ref ba), .val (.ref bg), .val (.int f0), .val (.int f1), .val (.int f2), .val (.int f3), .val (.int f4), .val (.int r0), .val (.int r1), .val (.int r2), .val (.int r3), .val (.int r4), .val (.ref b230)] [(.int (3 : Int32)), (.ref bg)])) rfl rfl (hb hby at_426) _ ?_
          show Steps p.tables e below (T303.setTop (mkF m 427 #[.val (.int sh), .val (.int va), .val (.int vb), .val (.int vc), .val (.int vd), .val (.int ve), .val (.int pt), .val (.int nn), .val (.int l0), .val (.int l1), .val (.int l2), .val (.int l3), .val (.int l4), .val (.ref ba), .val (.ref bg), .val (.int f0), .val (.int f1), .val (.int f2), .val (.int f3), .val (.int f4), .val (.int r0), .val (.int r1), .val (.int r2), .val (.int r3), .val (.int r4), .val (.ref b230)] [(.int ((own_G (own_lab l0 l1 l2 l3 l4) pt.toInt.toNat nn.toInt.toNat) 3))])) _
          refine XS.aload X305.here hx rfl (hb hby at_427) rfl rfl ?_
          show Steps p.tables e below (T303.setTop (mkF m 429 #[.val (.int sh), .val (.int va), .val (.int vb), .val (.int vc), .val (.int vd), .val (.int ve), .val (.int pt), .val (.int nn), .val (.int l0), .val (.int l1), .val (.int l2), .val (.int l3), .val (.int l4), .val (.ref ba), .val (.ref bg), .val (.int f0), .val (.int f1), .val (.int f2), .val (.int f3), .val (.int f4), .val (.int r0), .val (.int r1), .val (.int r2), .val (.int r3), .val (.int r4), .val (.ref b230)] [(.ref b230), (.int ((own_G (own_lab l0 l1 l2 l3 l4) pt.toInt.toNat nn.toInt.toNat) 3))])) _
          refine XS.iconst X305.here hx rfl (hb hby at_429) ?_
          show Steps p.tables e below (T303.setTop (mkF m 430 #[.val (.int sh), .val (.int va), .val (.int vb), .val (.int vc), .val (.int vd), .val (.int ve), .val (.int pt), .val (.int nn), .val (.int l0), .val (.int l1), .val (.int l2), .val (.int l3), .val (.int l4), .val (.ref ba), .val (.ref bg), .val (.int f0), .val (.int f1), .val (.int f2), .val (.int f3), .val (.int f4), .val (.int r0), .val (.int r1), .val (.int r2), .val (.int r3), .val (.int r4), .val (.ref b230)] [(.int (3 : Int32)), (.ref b230), (.int ((own_G (own_lab l0 l1 l2 l3 l4) pt.toInt.toNat nn.toInt.toNat) 3))])) _
          refine own_iald X305 hx hZ e306 A310 (k := 3) ⟨by decide, rfl, by decide⟩ rfl (g := (mkF m 430 #[.val (.int sh), .val (.int va), .val (.int vb), .val (.int vc), .val (.int vd), .val (.int ve), .val (.int pt), .val (.int nn), .val (.int l0), .val (.int l1), .val (.int l2), .val (.int l3), .val (.int l4), .val (.ref ba), .val (.ref bg), .val (.int f0), .val (.int f1), .val (.int f2), .val (.int f3), .val (.int f4), .val (.int r0), .val (.int r1), .val (.int r2), .val (.int r3), .val (.int r4), .val (.ref b230)] [(.int (3 : Int32)), (.ref b230), (.int ((own_G (own_lab l0 l1 l2 l3 l4) pt.toInt.toNat nn.toInt.toNat) 3))])) rfl rfl (hb hby at_430) _ ?_
          show Steps p.tables e below (T303.setTop (mkF m 431 #[.val (.int sh), .val (.int va), .val (.int vb), .val (.int vc), .val (.int vd), .val (.int ve), .val (.int pt), .val (.int nn), .val (.int l0), .val (.int l1), .val (.int l2), .val (.int l3), .val (.int l4), .val (.ref ba), .val (.ref bg), .val (.int f0), .val (.int f1), .val (.int f2), .val (.int f3), .val (.int f4), .val (.int r0), .val (.int r1), .val (.int r2), .val (.int r3), .val (.int r4), .val (.ref b230)] [(.int (w4 3)), (.int ((own_G (own_lab l0 l1 l2 l3 l4) pt.toInt.toNat nn.toInt.toNat) 3))])) _
          refine XS.icmpNo X305.here hx rfl (hb hby at_431) rfl (teq (hall 3 (own_at3 hc420).2.2)).2 ?_
          show Steps p.tables e below (T303.setTop (mkF m 434 #[.val (.int sh), .val (.int va), .val (.int vb), .val (.int vc), .val (.int vd), .val (.int ve), .val (.int pt), .val (.int nn), .val (.int l0), .val (.int l1), .val (.int l2), .val (.int l3), .val (.int l4), .val (.ref ba), .val (.ref bg), .val (.int f0), .val (.int f1), .val (.int f2), .val (.int f3), .val (.int f4), .val (.int r0), .val (.int r1), .val (.int r2), .val (.int r3), .val (.int r4), .val (.ref b230)] [])) _
          refine XS.iconst X305.here hx rfl (hb hby at_434) ?_
          show Steps p.tables e below (T303.setTop (mkF m 435 #[.val (.int sh), .val (.int va), .val (.int vb), .val (.int vc), .val (.int vd), .val (.int ve), .val (.int pt), .val (.int nn), .val (.int l0), .val (.int l1), .val (.int l2), .val (.int l3), .val (.int l4), .val (.ref ba), .val (.ref bg), .val (.int f0), .val (.int f1), .val (.int f2), .val (.int f3), .val (.int f4), .val (.int r0), .val (.int r1), .val (.int r2), .val (.int r3), .val (.int r4), .val (.ref b230)] [(.int (1 : Int32))])) _
          refine XS.goto X305.here hx rfl (pc0 := 435) (pc' := 439) rfl (hb hby at_435) (by decide) (by decide) ?_
          exact hk)
        obtain ⟨fs, hr, hrun, hended, hW, hsame⟩ := X305.leave (v := some (.int (nar .boolean (1 : Int32)))) (fun h => by rw [Bd.returns] at h; cases h)
        refine ⟨_, _, k324 _ ?_, hrun, hended, _, _, rfl, ?_, ⟨_, rfl⟩, hW, hsame.mono (by decide) (by decide)⟩
        · show Steps p.tables e below (T303.setTop (mkF m 439 #[.val (.int sh), .val (.int va), .val (.int vb), .val (.int vc), .val (.int vd), .val (.int ve), .val (.int pt), .val (.int nn), .val (.int l0), .val (.int l1), .val (.int l2), .val (.int l3), .val (.int l4), .val (.ref ba), .val (.ref bg), .val (.int f0), .val (.int f1), .val (.int f2), .val (.int f3), .val (.int f4), .val (.int r0), .val (.int r1), .val (.int r2), .val (.int r3), .val (.int r4), .val (.ref b230)] [(.int (1 : Int32))])) _
          exact retN X305 hx (t := .boolean) Bd.returns (by simp) (hb hby at_439) hr
        · show Q0 Z sh va vb vc vd ve h0 n0 _ T303.heap _
          rw [e306]
          exact ⟨rfl, N307⟩
  ·
    have k325 : ∀ t, Steps p.tables e below (T303.setTop (mkF m 403 #[.val (.int sh), .val (.int va), .val (.int vb), .val (.int vc), .val (.int vd), .val (.int ve), .val (.int pt), .val (.int nn), .val (.int l0), .val (.int l1), .val (.int l2), .val (.int l3), .val (.int l4), .val (.ref ba), .val (.ref bg), .val (.int f0), .val (.int f1), .val (.int f2), .val (.int f3), .val (.int f4), .val (.int r0), .val (.int r1), .val (.int r2), .val (.int r3), .val (.int r4), .val (.ref b230)] [(.int (3 : Int32)), (.int pt)])) t → Steps p.tables e below (s₁.setTop (entryFrame m #[(.int sh), (.int va), (.int vb), (.int vc), (.int vd), (.int ve)] maxLocals)) t := fun t hk => k317 t (by
      show Steps p.tables e below (T303.setTop (mkF m 386 #[.val (.int sh), .val (.int va), .val (.int vb), .val (.int vc), .val (.int vd), .val (.int ve), .val (.int pt), .val (.int nn), .val (.int l0), .val (.int l1), .val (.int l2), .val (.int l3), .val (.int l4), .val (.ref ba), .val (.ref bg), .val (.int f0), .val (.int f1), .val (.int f2), .val (.int f3), .val (.int f4), .val (.int r0), .val (.int r1), .val (.int r2), .val (.int r3), .val (.int r4), .val (.ref b230)] [(.int (2 : Int32)), (.int pt)])) _
      refine XS.icmpNo X305.here hx rfl (hb hby at_386) rfl (flt hc386).1 ?_
      show Steps p.tables e below (T303.setTop (mkF m 389 #[.val (.int sh), .val (.int va), .val (.int vb), .val (.int vc), .val (.int vd), .val (.int ve), .val (.int pt), .val (.int nn), .val (.int l0), .val (.int l1), .val (.int l2), .val (.int l3), .val (.int l4), .val (.ref ba), .val (.ref bg), .val (.int f0), .val (.int f1), .val (.int f2), .val (.int f3), .val (.int f4), .val (.int r0), .val (.int r1), .val (.int r2), .val (.int r3), .val (.int r4), .val (.ref b230)] [])) _
      refine XS.aload X305.here hx rfl (hb hby at_389) rfl rfl ?_
      show Steps p.tables e below (T303.setTop (mkF m 391 #[.val (.int sh), .val (.int va), .val (.int vb), .val (.int vc), .val (.int vd), .val (.int ve), .val (.int pt), .val (.int nn), .val (.int l0), .val (.int l1), .val (.int l2), .val (.int l3), .val (.int l4), .val (.ref ba), .val (.ref bg), .val (.int f0), .val (.int f1), .val (.int f2), .val (.int f3), .val (.int f4), .val (.int r0), .val (.int r1), .val (.int r2), .val (.int r3), .val (.int r4), .val (.ref b230)] [(.ref bg)])) _
      refine XS.iconst X305.here hx rfl (hb hby at_391) ?_
      show Steps p.tables e below (T303.setTop (mkF m 392 #[.val (.int sh), .val (.int va), .val (.int vb), .val (.int vc), .val (.int vd), .val (.int ve), .val (.int pt), .val (.int nn), .val (.int l0), .val (.int l1), .val (.int l2), .val (.int l3), .val (.int l4), .val (.ref ba), .val (.ref bg), .val (.int f0), .val (.int f1), .val (.int f2), .val (.int f3), .val (.int f4), .val (.int r0), .val (.int r1), .val (.int r2), .val (.int r3), .val (.int r4), .val (.ref b230)] [(.int (1 : Int32)), (.ref bg)])) _
      refine own_iald X305 hx hZ e306 A309 (k := 1) (own_at1 hc386) rfl (g := (mkF m 392 #[.val (.int sh), .val (.int va), .val (.int vb), .val (.int vc), .val (.int vd), .val (.int ve), .val (.int pt), .val (.int nn), .val (.int l0), .val (.int l1), .val (.int l2), .val (.int l3), .val (.int l4), .val (.ref ba), .val (.ref bg), .val (.int f0), .val (.int f1), .val (.int f2), .val (.int f3), .val (.int f4), .val (.int r0), .val (.int r1), .val (.int r2), .val (.int r3), .val (.int r4), .val (.ref b230)] [(.int (1 : Int32)), (.ref bg)])) rfl rfl (hb hby at_392) _ ?_
      show Steps p.tables e below (T303.setTop (mkF m 393 #[.val (.int sh), .val (.int va), .val (.int vb), .val (.int vc), .val (.int vd), .val (.int ve), .val (.int pt), .val (.int nn), .val (.int l0), .val (.int l1), .val (.int l2), .val (.int l3), .val (.int l4), .val (.ref ba), .val (.ref bg), .val (.int f0), .val (.int f1), .val (.int f2), .val (.int f3), .val (.int f4), .val (.int r0), .val (.int r1), .val (.int r2), .val (.int r3), .val (.int r4), .val (.ref b230)] [(.int ((own_G (own_lab l0 l1 l2 l3 l4) pt.toInt.toNat nn.toInt.toNat) 1))])) _
      refine XS.aload X305.here hx rfl (hb hby at_393) rfl rfl ?_
      show Steps p.tables e below (T303.setTop (mkF m 395 #[.val (.int sh), .val (.int va), .val (.int vb), .val (.int vc), .val (.int vd), .val (.int ve), .val (.int pt), .val (.int nn), .val (.int l0), .val (.int l1), .val (.int l2), .val (.int l3), .val (.int l4), .val (.ref ba), .val (.ref bg), .val (.int f0), .val (.int f1), .val (.int f2), .val (.int f3), .val (.int f4), .val (.int r0), .val (.int r1), .val (.int r2), .val (.int r3), .val (.int r4), .val (.ref b230)] [(.ref b230), (.int ((own_G (own_lab l0 l1 l2 l3 l4) pt.toInt.toNat nn.toInt.toNat) 1))])) _
      refine XS.iconst X305.here hx rfl (hb hby at_395) ?_
      show Steps p.tables e below (T303.setTop (mkF m 396 #[.val (.int sh), .val (.int va), .val (.int vb), .val (.int vc), .val (.int vd), .val (.int ve), .val (.int pt), .val (.int nn), .val (.int l0), .val (.int l1), .val (.int l2), .val (.int l3), .val (.int l4), .val (.ref ba), .val (.ref bg), .val (.int f0), .val (.int f1), .val (.int f2), .val (.int f3), .val (.int f4), .val (.int r0), .val (.int r1), .val (.int r2), .val (.int r3), .val (.int r4), .val (.ref b230)] [(.int (1 : Int32)), (.ref b230), (.int ((own_G (own_lab l0 l1 l2 l3 l4) pt.toInt.toNat nn.toInt.toNat) 1))])) _
      refine own_iald X305 hx hZ e306 A310 (k := 1) ⟨by decide, rfl, by decide⟩ rfl (g := (mkF m 396 #[.val (.int sh), .val (.int va), .val (.int vb), .val (.int vc), .val (.int vd), .val (.int ve), .val (.int pt), .val (.int nn), .val (.int l0), .val (.int l1), .val (.int l2), .val (.int l3), .val (.int l4), .val (.ref ba), .val (.ref bg), .val (.int f0), .val (.int f1), .val (.int f2), .val (.int f3), .val (.int f4), .val (.int r0), .val (.int r1), .val (.int r2), .val (.int r3), .val (.int r4), .val (.ref b230)] [(.int (1 : Int32)), (.ref b230), (.int ((own_G (own_lab l0 l1 l2 l3 l4) pt.toInt.toNat nn.toInt.toNat) 1))])) rfl rfl (hb hby at_396) _ ?_
      show Steps p.tables e below (T303.setTop (mkF m 397 #[.val (.int sh), .val (.int va), .val (.int vb), .val (.int vc), .val (.int vd), .val (.int ve), .val (.int pt), .val (.int nn), .val (.int l0), .val (.int l1), .val (.int l2), .val (.int l3), .val (.int l4), .val (.ref ba), .val (.ref bg), .val (.int f0), .val (.int f1), .val (.int f2), .val (.int f3), .val (.int f4), .val (.int r0), .val (.int r1), .val (.int r2), .val (.int r3), .val (.int r4), .val (.ref b230)] [(.int (w4 1)), (.int ((own_G (own_lab l0 l1 l2 l3 l4) pt.toInt.toNat nn.toInt.toNat) 1))])) _
      refine XS.icmpNo X305.here hx rfl (hb hby at_397) rfl (teq (hall 1 (own_at1 hc386).2.2)).2 ?_
      show Steps p.tables e below (T303.setTop (mkF m 400 #[.val (.int sh), .val (.int va), .val (.int vb), .val (.int vc), .val (.int vd), .val (.int ve), .val (.int pt), .val (.int nn), .val (.int l0), .val (.int l1), .val (.int l2), .val (.int l3), .val (.int l4), .val (.ref ba), .val (.ref bg), .val (.int f0), .val (.int f1), .val (.int f2), .val (.int f3), .val (.int f4), .val (.int r0), .val (.int r1), .val (.int r2), .val (.int r3), .val (.int r4), .val (.ref b230)] [])) _
      refine XS.iload X305.here hx rfl (hb hby at_400) rfl ?_
      show Steps p.tables e below (T303.setTop (mkF m 402 #[.val (.int sh), .val (.int va), .val (.int vb), .val (.int vc), .val (.int vd), .val (.int ve), .val (.int pt), .val (.int nn), .val (.int l0), .val (.int l1), .val (.int l2), .val (.int l3), .val (.int l4), .val (.ref ba), .val (.ref bg), .val (.int f0), .val (.int f1), .val (.int f2), .val (.int f3), .val (.int f4), .val (.int r0), .val (.int r1), .val (.int r2), .val (.int r3), .val (.int r4), .val (.ref b230)] [(.int pt)])) _
      refine XS.iconst X305.here hx rfl (hb hby at_402) ?_
      exact hk)
    by_cases hc403 : pt < (3 : Int32)
    ·
      have k326 : ∀ t, Steps p.tables e below (T303.setTop (mkF m 420 #[.val (.int sh), .val (.int va), .val (.int vb), .val (.int vc), .val (.int vd), .val (.int ve), .val (.int pt), .val (.int nn), .val (.int l0), .val (.int l1), .val (.int l2), .val (.int l3), .val (.int l4), .val (.ref ba), .val (.ref bg), .val (.int f0), .val (.int f1), .val (.int f2), .val (.int f3), .val (.int f4), .val (.int r0), .val (.int r1), .val (.int r2), .val (.int r3), .val (.int r4), .val (.ref b230)] [(.int (4 : Int32)), (.int pt)])) t → Steps p.tables e below (s₁.setTop (entryFrame m #[(.int sh), (.int va), (.int vb), (.int vc), (.int vd), (.int ve)] maxLocals)) t := fun t hk => k325 t (by
        show Steps p.tables e below (T303.setTop (mkF m 403 #[.val (.int sh), .val (.int va), .val (.int vb), .val (.int vc), .val (.int vd), .val (.int ve), .val (.int pt), .val (.int nn), .val (.int l0), .val (.int l1), .val (.int l2), .val (.int l3), .val (.int l4), .val (.ref ba), .val (.ref bg), .val (.int f0), .val (.int f1), .val (.int f2), .val (.int f3), .val (.int f4), .val (.int r0), .val (.int r1), .val (.int r2), .val (.int r3), .val (.int r4), .val (.ref b230)] [(.int (3 : Int32)), (.int pt)])) _
        refine XS.icmpYes X305.here hx rfl (pc0 := 403) (pc' := 417) rfl (hb hby at_403) rfl (tlt hc403).1 (by decide) (by decide) ?_
        show Steps p.tables e below (T303.setTop (mkF m 417 #[.val (.int sh), .val (.int va), .val (.int vb), .val (.int vc), .val (.int vd), .val (.int ve), .val (.int pt), .val (.int nn), .val (.int l0), .val (.int l1), .val (.int l2), .val (.int l3), .val (.int l4), .val (.ref ba), .val (.ref bg), .val (.int f0), .val (.int f1), .val (.int f2), .val (.int f3), .val (.int f4), .val (.int r0), .val (.int r1), .val (.int r2), .val (.int r3), .val (.int r4), .val (.ref b230)] [])) _
        refine XS.iload X305.here hx rfl (hb hby at_417) rfl ?_
        show Steps p.tables e below (T303.setTop (mkF m 419 #[.val (.int sh), .val (.int va), .val (.int vb), .val (.int vc), .val (.int vd), .val (.int ve), .val (.int pt), .val (.int nn), .val (.int l0), .val (.int l1), .val (.int l2), .val (.int l3), .val (.int l4), .val (.ref ba), .val (.ref bg), .val (.int f0), .val (.int f1), .val (.int f2), .val (.int f3), .val (.int f4), .val (.int r0), .val (.int r1), .val (.int r2), .val (.int r3), .val (.int r4), .val (.ref b230)] [(.int pt)])) _
        refine XS.iconst X305.here hx rfl (hb hby at_419) ?_
        exact hk)
      by_cases hc420 : pt < (4 : Int32)
      ·
        have k327 : ∀ t, Steps p.tables e below (T303.setTop (mkF m 439 #[.val (.int sh), .val (.int va), .val (.int vb), .val (.int vc), .val (.int vd), .val (.int ve), .val (.int pt), .val (.int nn), .val (.int l0), .val (.int l1), .val (.int l2), .val (.int l3), .val (.int l4), .val (.ref ba), .val (.ref bg), .val (.int f0), .val (.int f1), .val (.int f2), .val (.int f3), .val (.int f4), .val (.int r0), .val (.int r1), .val (.int r2), .val (.int r3), .val (.int r4), .val (.ref b230)] [(.int (1 : Int32))])) t → Steps p.tables e below (s₁.setTop (entryFrame m #[(.int sh), (.int va), (.int vb), (.int vc), (.int vd), (.int ve)] maxLocals)) t := fun t hk => k326 t (by
          show Steps p.tables e below (T303.setTop (mkF m 420 #[.val (.int sh), .val (.int va), .val (.int vb), .val (.int vc), .val (.int vd), .val (.int ve), .val (.int pt), .val (.int nn), .val (.int l0), .val (.int l1), .val (.int l2), .val (.int l3), .val (.int l4), .val (.ref ba), .val (.ref bg), .val (.int f0), .val (.int f1), .val (.int f2), .val (.int f3), .val (.int f4), .val (.int r0), .val (.int r1), .val (.int r2), .val (.int r3), .val (.int r4), .val (.ref b230)] [(.int (4 : Int32)), (.int pt)])) _
          refine XS.icmpYes X305.here hx rfl (pc0 := 420) (pc' := 434) rfl (hb hby at_420) rfl (tlt hc420).1 (by decide) (by decide) ?_
          show Steps p.tables e below (T303.setTop (mkF m 434 #[.val (.int sh), .val (.int va), .val (.int vb), .val (.int vc), .val (.int vd), .val (.int ve), .val (.int pt), .val (.int nn), .val (.int l0), .val (.int l1), .val (.int l2), .val (.int l3), .val (.int l4), .val (.ref ba), .val (.ref bg), .val (.int f0), .val (.int f1), .val (.int f2), .val (.int f3), .val (.int f4), .val (.int r0), .val (.int r1), .val (.int r2), .val (.int r3), .val (.int r4), .val (.ref b230)] [])) _
          refine XS.iconst X305.here hx rfl (hb hby at_434) ?_
          show Steps p.tables e below (T303.setTop (mkF m 435 #[.val (.int sh), .val (.int va), .val (.int vb), .val (.int vc), .val (.int vd), .val (.int ve), .val (.int pt), .val (.int nn), .val (.int l0), .val (.int l1), .val (.int l2), .val (.int l3), .val (.int l4), .val (.ref ba), .val (.ref bg), .val (.int f0), .val (.int f1), .val (.int f2), .val (.int f3), .val (.int f4), .val (.int r0), .val (.int r1), .val (.int r2), .val (.int r3), .val (.int r4), .val (.ref b230)] [(.int (1 : Int32))])) _
          refine XS.goto X305.here hx rfl (pc0 := 435) (pc' := 439) rfl (hb hby at_435) (by decide) (by decide) ?_
          exact hk)
        obtain ⟨fs, hr, hrun, hended, hW, hsame⟩ := X305.leave (v := some (.int (nar .boolean (1 : Int32)))) (fun h => by rw [Bd.returns] at h; cases h)
        refine ⟨_, _, k327 _ ?_, hrun, hended, _, _, rfl, ?_, ⟨_, rfl⟩, hW, hsame.mono (by decide) (by decide)⟩
        · show Steps p.tables e below (T303.setTop (mkF m 439 #[.val (.int sh), .val (.int va), .val (.int vb), .val (.int vc), .val (.int vd), .val (.int ve), .val (.int pt), .val (.int nn), .val (.int l0), .val (.int l1), .val (.int l2), .val (.int l3), .val (.int l4), .val (.ref ba), .val (.ref bg), .val (.int f0), .val (.int f1), .val (.int f2), .val (.int f3), .val (.int f4), .val (.int r0), .val (.int r1), .val (.int r2), .val (.int r3), .val (.int r4), .val (.ref b230)] [(.int (1 : Int32))])) _
          exact retN X305 hx (t := .boolean) Bd.returns (by simp) (hb hby at_439) hr
        · show Q0 Z sh va vb vc vd ve h0 n0 _ T303.heap _
          rw [e306]
          exact ⟨rfl, N307⟩
      ·
        have k328 : ∀ t, Steps p.tables e below (T303.setTop (mkF m 439 #[.val (.int sh), .val (.int va), .val (.int vb), .val (.int vc), .val (.int vd), .val (.int ve), .val (.int pt), .val (.int nn), .val (.int l0), .val (.int l1), .val (.int l2), .val (.int l3), .val (.int l4), .val (.ref ba), .val (.ref bg), .val (.int f0), .val (.int f1), .val (.int f2), .val (.int f3), .val (.int f4), .val (.int r0), .val (.int r1), .val (.int r2), .val (.int r3), .val (.int r4), .val (.ref b230)] [(.int (1 : Int32))])) t → Steps p.tables e below (s₁.setTop (entryFrame m #[(.int sh), (.int va), (.int vb), (.int vc), (.int vd), (.int ve)] maxLocals)) t := fun t hk => k326 t (by
          show Steps p.tables e below (T303.setTop (mkF m 420 #[.val (.int sh), .val (.int va), .val (.int vb), .val (.int vc), .val (.int vd), .val (.int ve), .val (.int pt), .val (.int nn), .val (.int l0), .val (.int l1), .val (.int l2), .val (.int l3), .val (.int l4), .val (.ref ba), .val (.ref bg), .val (.int f0), .val (.int f1), .val (.int f2), .val (.int f3), .val (.int f4), .val (.int r0), .val (.int r1), .val (.int r2), .val (.int r3), .val (.int r4), .val (.ref b230)] [(.int (4 : Int32)), (.int pt)])) _
          refine XS.icmpNo X305.here hx rfl (hb hby at_420) rfl (flt hc420).1 ?_
          show Steps p.tables e below (T303.setTop (mkF m 423 #[.val (.int sh), .val (.int va), .val (.int vb), .val (.int vc), .val (.int vd), .val (.int ve), .val (.int pt), .val (.int nn), .val (.int l0), .val (.int l1), .val (.int l2), .val (.int l3), .val (.int l4), .val (.ref ba), .val (.ref bg), .val (.int f0), .val (.int f1), .val (.int f2), .val (.int f3), .val (.int f4), .val (.int r0), .val (.int r1), .val (.int r2), .val (.int r3), .val (.int r4), .val (.ref b230)] [])) _
          refine XS.aload X305.here hx rfl (hb hby at_423) rfl rfl ?_
          show Steps p.tables e below (T303.setTop (mkF m 425 #[.val (.int sh), .val (.int va), .val (.int vb), .val (.int vc), .val (.int vd), .val (.int ve), .val (.int pt), .val (.int nn), .val (.int l0), .val (.int l1), .val (.int l2), .val (.int l3), .val (.int l4), .val (.ref ba), .val (.ref bg), .val (.int f0), .val (.int f1), .val (.int f2), .val (.int f3), .val (.int f4), .val (.int r0), .val (.int r1), .val (.int r2), .val (.int r3), .val (.int r4), .val (.ref b230)] [(.ref bg)])) _
          refine XS.iconst X305.here hx rfl (hb hby at_425) ?_
          show Steps p.tables e below (T303.setTop (mkF m 426 #[.val (.int sh), .val (.int va), .val (.int vb), .val (.int vc), .val (.int vd), .val (.int ve), .val (.int pt), .val (.int nn), .val (.int l0), .val (.int l1), .val (.int l2), .val (.int l3), .val (.int l4), .val (.ref ba), .val (.ref bg), .val (.int f0), .val (.int f1), .val (.int f2), .val (.int f3), .val (.int f4), .val (.int r0), .val (.int r1), .val (.int r2), .val (.int r3), .val (.int r4), .val (.ref b230)] [(.int (3 : Int32)), (.ref bg)])) _
          refine own_iald X305 hx hZ e306 A309 (k := 3) (own_at3 hc420) rfl (g := (mkF m 426 #[.val (.int sh), .val (.int va), .val (.int vb), .val (.int vc), .val (.int vd), .val (.int ve), .val (.int pt), .val (.int nn), .val (.int l0), .val (.int l1), .val (.int l2), .val (.int l3), .val (.int l4), .val (.ref ba), .val (.ref bg), .val (.int f0), .val (.int f1), .val (.int f2), .val (.int f3), .val (.int f4), .val (.int r0), .val (.int r1), .val (.int r2), .val (.int r3), .val (.int r4), .val (.ref b230)] [(.int (3 : Int32)), (.ref bg)])) rfl rfl (hb hby at_426) _ ?_
          show Steps p.tables e below (T303.setTop (mkF m 427 #[.val (.int sh), .val (.int va), .val (.int vb), .val (.int vc), .val (.int vd), .val (.int ve), .val (.int pt), .val (.int nn), .val (.int l0), .val (.int l1), .val (.int l2), .val (.int l3), .val (.int l4), .val (.ref ba), .val (.ref bg), .val (.int f0), .val (.int f1), .val (.int f2), .val (.int f3), .val (.int f4), .val (.int r0), .val (.int r1), .val (.int r2), .val (.int r3), .val (.int r4), .val (.ref b230)] [(.int ((own_G (own_lab l0 l1 l2 l3 l4) pt.toInt.toNat nn.toInt.toNat) 3))])) _
          refine XS.aload X305.here hx rfl (hb hby at_427) rfl rfl ?_
          show Steps p.tables e below (T303.setTop (mkF m 429 #[.val (.int sh), .val (.int va), .val (.int vb), .val (.int vc), .val (.int vd), .val (.int ve), .val (.int pt), .val (.int nn), .val (.int l0), .val (.int l1), .val (.int l2), .val (.int l3), .val (.int l4), .val (.ref ba), .val (.ref bg), .val (.int f0), .val (.int f1), .val (.int f2), .val (.int f3), .val (.int f4), .val (.int r0), .val (.int r1), .val (.int r2), .val (.int r3), .val (.int r4), .val (.ref b230)] [(.ref b230), (.int ((own_G (own_lab l0 l1 l2 l3 l4) pt.toInt.toNat nn.toInt.toNat) 3))])) _
          refine XS.iconst X305.here hx rfl (hb hby at_429) ?_
          show Steps p.tables e below (T303.setTop (mkF m 430 #[.val (.int sh), .val (.int va), .val (.int vb), .val (.int vc), .val (.int vd), .val (.int ve), .val (.int pt), .val (.int nn), .val (.int l0), .val (.int l1), .val (.int l2), .val (.int l3), .val (.int l4), .val (.ref ba), .val (.ref bg), .val (.int f0), .val (.int f1), .val (.int f2), .val (.int f3), .val (.int f4), .val (.int r0), .val (.int r1), .val (.int r2), .val (.int r3), .val (.int r4), .val (.ref b230)] [(.int (3 : Int32)), (.ref b230), (.int ((own_G (own_lab l0 l1 l2 l3 l4) pt.toInt.toNat nn.toInt.toNat) 3))])) _
          refine own_iald X305 hx hZ e306 A310 (k := 3) ⟨by decide, rfl, by decide⟩ rfl (g := (mkF m 430 #[.val (.int sh), .val (.int va), .val (.int vb), .val (.int vc), .val (.int vd), .val (.int ve), .val (.int pt), .val (.int nn), .val (.int l0), .val (.int l1), .val (.int l2), .val (.int l3), .val (.int l4), .val (.ref ba), .val (.ref bg), .val (.int f0), .val (.int f1), .val (.int f2), .val (.int f3), .val (.int f4), .val (.int r0), .val (.int r1), .val (.int r2), .val (.int r3), .val (.int r4), .val (.ref b230)] [(.int (3 : Int32)), (.ref b230), (.int ((own_G (own_lab l0 l1 l2 l3 l4) pt.toInt.toNat nn.toInt.toNat) 3))])) rfl rfl (hb hby at_430) _ ?_
          show Steps p.tables e below (T303.setTop (mkF m 431 #[.val (.int sh), .val (.int va), .val (.int vb), .val (.int vc), .val (.int vd), .val (.int ve), .val (.int pt), .val (.int nn), .val (.int l0), .val (.int l1), .val (.int l2), .val (.int l3), .val (.int l4), .val (.ref ba), .val (.ref bg), .val (.int f0), .val (.int f1), .val (.int f2), .val (.int f3), .val (.int f4), .val (.int r0), .val (.int r1), .val (.int r2), .val (.int r3), .val (.int r4), .val (.ref b230)] [(.int (w4 3)), (.int ((own_G (own_lab l0 l1 l2 l3 l4) pt.toInt.toNat nn.toInt.toNat) 3))])) _
          refine XS.icmpNo X305.here hx rfl (hb hby at_431) rfl (teq (hall 3 (own_at3 hc420).2.2)).2 ?_
          show Steps p.tables e below (T303.setTop (mkF m 434 #[.val (.int sh), .val (.int va), .val (.int vb), .val (.int vc), .val (.int vd), .val (.int ve), .val (.int pt), .val (.int nn), .val (.int l0), .val (.int l1), .val (.int l2), .val (.int l3), .val (.int l4), .val (.ref ba), .val (.ref bg), .val (.int f0), .val (.int f1), .val (.int f2), .val (.int f3), .val (.int f4), .val (.int r0), .val (.int r1), .val (.int r2), .val (.int r3), .val (.int r4), .val (.ref b230)] [])) _
          refine XS.iconst X305.here hx rfl (hb hby at_434) ?_
          show Steps p.tables e below (T303.setTop (mkF m 435 #[.val (.int sh), .val (.int va), .val (.int vb), .val (.int vc), .val (.int vd), .val (.int ve), .val (.int pt), .val (.int nn), .val (.int l0), .val (.int l1), .val (.int l2), .val (.int l3), .val (.int l4), .val (.ref ba), .val (.ref bg), .val (.int f0), .val (.int f1), .val (.int f2), .val (.int f3), .val (.int f4), .val (.int r0), .val (.int r1), .val (.int r2), .val (.int r3), .val (.int r4), .val (.ref b230)] [(.int (1 : Int32))])) _
          refine XS.goto X305.here hx rfl (pc0 := 435) (pc' := 439) rfl (hb hby at_435) (by decide) (by decide) ?_
          exact hk)
        obtain ⟨fs, hr, hrun, hended, hW, hsame⟩ := X305.leave (v := some (.int (nar .boolean (1 : Int32)))) (fun h => by rw [Bd.returns] at h; cases h)
        refine ⟨_, _, k328 _ ?_, hrun, hended, _, _, rfl, ?_, ⟨_, rfl⟩, hW, hsame.mono (by decide) (by decide)⟩
        · show Steps p.tables e below (T303.setTop (mkF m 439 #[.val (.int sh), .val (.int va), .val (.int vb), .val (.int vc), .val (.int vd), .val (.int ve), .val (.int pt), .val (.int nn), .val (.int l0), .val (.int l1), .val (.int l2), .val (.int l3), .val (.int l4), .val (.ref ba), .val (.ref bg), .val (.int f0), .val (.int f1), .val (.int f2), .val (.int f3), .val (.int f4), .val (.int r0), .val (.int r1), .val (.int r2), .val (.int r3), .val (.int r4), .val (.ref b230)] [(.int (1 : Int32))])) _
          exact retN X305 hx (t := .boolean) Bd.returns (by simp) (hb hby at_439) hr
        · show Q0 Z sh va vb vc vd ve h0 n0 _ T303.heap _
          rw [e306]
          exact ⟨rfl, N307⟩
    ·
      have k329 : ∀ t, Steps p.tables e below (T303.setTop (mkF m 420 #[.val (.int sh), .val (.int va), .val (.int vb), .val (.int vc), .val (.int vd), .val (.int ve), .val (.int pt), .val (.int nn), .val (.int l0), .val (.int l1), .val (.int l2), .val (.int l3), .val (.int l4), .val (.ref ba), .val (.ref bg), .val (.int f0), .val (.int f1), .val (.int f2), .val (.int f3), .val (.int f4), .val (.int r0), .val (.int r1), .val (.int r2), .val (.int r3), .val (.int r4), .val (.ref b230)] [(.int (4 : Int32)), (.int pt)])) t → Steps p.tables e below (s₁.setTop (entryFrame m #[(.int sh), (.int va), (.int vb), (.int vc), (.int vd), (.int ve)] maxLocals)) t := fun t hk => k325 t (by
        show Steps p.tables e below (T303.setTop (mkF m 403 #[.val (.int sh), .val (.int va), .val (.int vb), .val (.int vc), .val (.int vd), .val (.int ve), .val (.int pt), .val (.int nn), .val (.int l0), .val (.int l1), .val (.int l2), .val (.int l3), .val (.int l4), .val (.ref ba), .val (.ref bg), .val (.int f0), .val (.int f1), .val (.int f2), .val (.int f3), .val (.int f4), .val (.int r0), .val (.int r1), .val (.int r2), .val (.int r3), .val (.int r4), .val (.ref b230)] [(.int (3 : Int32)), (.int pt)])) _
        refine XS.icmpNo X305.here hx rfl (hb hby at_403) rfl (flt hc403).1 ?_
        show Steps p.tables e below (T303.setTop (mkF m 406 #[.val (.int sh), .val (.int va), .val (.int vb), .val (.int vc), .val (.int vd), .val (.int ve), .val (.int pt), .val (.int nn), .val (.int l0), .val (.int l1), .val (.int l2), .val (.int l3), .val (.int l4), .val (.ref ba), .val (.ref bg), .val (.int f0), .val (.int f1), .val (.int f2), .val (.int f3), .val (.int f4), .val (.int r0), .val (.int r1), .val (.int r2), .val (.int r3), .val (.int r4), .val (.ref b230)] [])) _
        refine XS.aload X305.here hx rfl (hb hby at_406) rfl rfl ?_
        show Steps p.tables e below (T303.setTop (mkF m 408 #[.val (.int sh), .val (.int va), .val (.int vb), .val (.int vc), .val (.int vd), .val (.int ve), .val (.int pt), .val (.int nn), .val (.int l0), .val (.int l1), .val (.int l2), .val (.int l3), .val (.int l4), .val (.ref ba), .val (.ref bg), .val (.int f0), .val (.int f1), .val (.int f2), .val (.int f3), .val (.int f4), .val (.int r0), .val (.int r1), .val (.int r2), .val (.int r3), .val (.int r4), .val (.ref b230)] [(.ref bg)])) _
        refine XS.iconst X305.here hx rfl (hb hby at_408) ?_
        show Steps p.tables e below (T303.setTop (mkF m 409 #[.val (.int sh), .val (.int va), .val (.int vb), .val (.int vc), .val (.int vd), .val (.int ve), .val (.int pt), .val (.int nn), .val (.int l0), .val (.int l1), .val (.int l2), .val (.int l3), .val (.int l4), .val (.ref ba), .val (.ref bg), .val (.int f0), .val (.int f1), .val (.int f2), .val (.int f3), .val (.int f4), .val (.int r0), .val (.int r1), .val (.int r2), .val (.int r3), .val (.int r4), .val (.ref b230)] [(.int (2 : Int32)), (.ref bg)])) _
        refine own_iald X305 hx hZ e306 A309 (k := 2) (own_at2 hc403) rfl (g := (mkF m 409 #[.val (.int sh), .val (.int va), .val (.int vb), .val (.int vc), .val (.int vd), .val (.int ve), .val (.int pt), .val (.int nn), .val (.int l0), .val (.int l1), .val (.int l2), .val (.int l3), .val (.int l4), .val (.ref ba), .val (.ref bg), .val (.int f0), .val (.int f1), .val (.int f2), .val (.int f3), .val (.int f4), .val (.int r0), .val (.int r1), .val (.int r2), .val (.int r3), .val (.int r4), .val (.ref b230)] [(.int (2 : Int32)), (.ref bg)])) rfl rfl (hb hby at_409) _ ?_
        show Steps p.tables e below (T303.setTop (mkF m 410 #[.val (.int sh), .val (.int va), .val (.int vb), .val (.int vc), .val (.int vd), .val (.int ve), .val (.int pt), .val (.int nn), .val (.int l0), .val (.int l1), .val (.int l2), .val (.int l3), .val (.int l4), .val (.ref ba), .val (.ref bg), .val (.int f0), .val (.int f1), .val (.int f2), .val (.int f3), .val (.int f4), .val (.int r0), .val (.int r1), .val (.int r2), .val (.int r3), .val (.int r4), .val (.ref b230)] [(.int ((own_G (own_lab l0 l1 l2 l3 l4) pt.toInt.toNat nn.toInt.toNat) 2))])) _
        refine XS.aload X305.here hx rfl (hb hby at_410) rfl rfl ?_
        show Steps p.tables e below (T303.setTop (mkF m 412 #[.val (.int sh), .val (.int va), .val (.int vb), .val (.int vc), .val (.int vd), .val (.int ve), .val (.int pt), .val (.int nn), .val (.int l0), .val (.int l1), .val (.int l2), .val (.int l3), .val (.int l4), .val (.ref ba), .val (.ref bg), .val (.int f0), .val (.int f1), .val (.int f2), .val (.int f3), .val (.int f4), .val (.int r0), .val (.int r1), .val (.int r2), .val (.int r3), .val (.int r4), .val (.ref b230)] [(.ref b230), (.int ((own_G (own_lab l0 l1 l2 l3 l4) pt.toInt.toNat nn.toInt.toNat) 2))])) _
        refine XS.iconst X305.here hx rfl (hb hby at_412) ?_
        show Steps p.tables e below (T303.setTop (mkF m 413 #[.val (.int sh), .val (.int va), .val (.int vb), .val (.int vc), .val (.int vd), .val (.int ve), .val (.int pt), .val (.int nn), .val (.int l0), .val (.int l1), .val (.int l2), .val (.int l3), .val (.int l4), .val (.ref ba), .val (.ref bg), .val (.int f0), .val (.int f1), .val (.int f2), .val (.int f3), .val (.int f4), .val (.int r0), .val (.int r1), .val (.int r2), .val (.int r3), .val (.int r4), .val (.ref b230)] [(.int (2 : Int32)), (.ref b230), (.int ((own_G (own_lab l0 l1 l2 l3 l4) pt.toInt.toNat nn.toInt.toNat) 2))])) _
        refine own_iald X305 hx hZ e306 A310 (k := 2) ⟨by decide, rfl, by decide⟩ rfl (g := (mkF m 413 #[.val (.int sh), .val (.int va), .val (.int vb), .val (.int vc), .val (.int vd), .val (.int ve), .val (.int pt), .val (.int nn), .val (.int l0), .val (.int l1), .val (.int l2), .val (.int l3), .val (.int l4), .val (.ref ba), .val (.ref bg), .val (.int f0), .val (.int f1), .val (.int f2), .val (.int f3), .val (.int f4), .val (.int r0), .val (.int r1), .val (.int r2), .val (.int r3), .val (.int r4), .val (.ref b230)] [(.int (2 : Int32)), (.ref b230), (.int ((own_G (own_lab l0 l1 l2 l3 l4) pt.toInt.toNat nn.toInt.toNat) 2))])) rfl rfl (hb hby at_413) _ ?_
        show Steps p.tables e below (T303.setTop (mkF m 414 #[.val (.int sh), .val (.int va), .val (.int vb), .val (.int vc), .val (.int vd), .val (.int ve), .val (.int pt), .val (.int nn), .val (.int l0), .val (.int l1), .val (.int l2), .val (.int l3), .val (.int l4), .val (.ref ba), .val (.ref bg), .val (.int f0), .val (.int f1), .val (.int f2), .val (.int f3), .val (.int f4), .val (.int r0), .val (.int r1), .val (.int r2), .val (.int r3), .val (.int r4), .val (.ref b230)] [(.int (w4 2)), (.int ((own_G (own_lab l0 l1 l2 l3 l4) pt.toInt.toNat nn.toInt.toNat) 2))])) _
        refine XS.icmpNo X305.here hx rfl (hb hby at_414) rfl (teq (hall 2 (own_at2 hc403).2.2)).2 ?_
        show Steps p.tables e below (T303.setTop (mkF m 417 #[.val (.int sh), .val (.int va), .val (.int vb), .val (.int vc), .val (.int vd), .val (.int ve), .val (.int pt), .val (.int nn), .val (.int l0), .val (.int l1), .val (.int l2), .val (.int l3), .val (.int l4), .val (.ref ba), .val (.ref bg), .val (.int f0), .val (.int f1), .val (.int f2), .val (.int f3), .val (.int f4), .val (.int r0), .val (.int r1), .val (.int r2), .val (.int r3), .val (.int r4), .val (.ref b230)] [])) _
        refine XS.iload X305.here hx rfl (hb hby at_417) rfl ?_
        show Steps p.tables e below (T303.setTop (mkF m 419 #[.val (.int sh), .val (.int va), .val (.int vb), .val (.int vc), .val (.int vd), .val (.int ve), .val (.int pt), .val (.int nn), .val (.int l0), .val (.int l1), .val (.int l2), .val (.int l3), .val (.int l4), .val (.ref ba), .val (.ref bg), .val (.int f0), .val (.int f1), .val (.int f2), .val (.int f3), .val (.int f4), .val (.int r0), .val (.int r1), .val (.int r2), .val (.int r3), .val (.int r4), .val (.ref b230)] [(.int pt)])) _
        refine XS.iconst X305.here hx rfl (hb hby at_419) ?_
        exact hk)
      by_cases hc420 : pt < (4 : Int32)
      ·
        have k330 : ∀ t, Steps p.tables e below (T303.setTop (mkF m 439 #[.val (.int sh), .val (.int va), .val (.int vb), .val (.int vc), .val (.int vd), .val (.int ve), .val (.int pt), .val (.int nn), .val (.int l0), .val (.int l1), .val (.int l2), .val (.int l3), .val (.int l4), .val (.ref ba), .val (.ref bg), .val (.int f0), .val (.int f1), .val (.int f2), .val (.int f3), .val (.int f4), .val (.int r0), .val (.int r1), .val (.int r2), .val (.int r3), .val (.int r4), .val (.ref b230)] [(.int (1 : Int32))])) t → Steps p.tables e below (s₁.setTop (entryFrame m #[(.int sh), (.int va), (.int vb), (.int vc), (.int vd), (.int ve)] maxLocals)) t := fun t hk => k329 t (by
          show Steps p.tables e below (T303.setTop (mkF m 420 #[.val (.int sh), .val (.int va), .val (.int vb), .val (.int vc), .val (.int vd), .val (.int ve), .val (.int pt), .val (.int nn), .val (.int l0), .val (.int l1), .val (.int l2), .val (.int l3), .val (.int l4), .val (.ref ba), .val (.ref bg), .val (.int f0), .val (.int f1), .val (.int f2), .val (.int f3), .val (.int f4), .val (.int r0), .val (.int r1), .val (.int r2), .val (.int r3), .val (.int r4), .val (.ref b230)] [(.int (4 : Int32)), (.int pt)])) _
          refine XS.icmpYes X305.here hx rfl (pc0 := 420) (pc' := 434) rfl (hb hby at_420) rfl (tlt hc420).1 (by decide) (by decide) ?_
          show Steps p.tables e below (T303.setTop (mkF m 434 #[.val (.int sh), .val (.int va), .val (.int vb), .val (.int vc), .val (.int vd), .val (.int ve), .val (.int pt), .val (.int nn), .val (.int l0), .val (.int l1), .val (.int l2), .val (.int l3), .val (.int l4), .val (.ref ba), .val (.ref bg), .val (.int f0), .val (.int f1), .val (.int f2), .val (.int f3), .val (.int f4), .val (.int r0), .val (.int r1), .val (.int r2), .val (.int r3), .val (.int r4), .val (.ref b230)] [])) _
          refine XS.iconst X305.here hx rfl (hb hby at_434) ?_
          show Steps p.tables e below (T303.setTop (mkF m 435 #[.val (.int sh), .val (.int va), .val (.int vb), .val (.int vc), .val (.int vd), .val (.int ve), .val (.int pt), .val (.int nn), .val (.int l0), .val (.int l1), .val (.int l2), .val (.int l3), .val (.int l4), .val (.ref ba), .val (.ref bg), .val (.int f0), .val (.int f1), .val (.int f2), .val (.int f3), .val (.int f4), .val (.int r0), .val (.int r1), .val (.int r2), .val (.int r3), .val (.int r4), .val (.ref b230)] [(.int (1 : Int32))])) _
          refine XS.goto X305.here hx rfl (pc0 := 435) (pc' := 439) rfl (hb hby at_435) (by decide) (by decide) ?_
          exact hk)
        obtain ⟨fs, hr, hrun, hended, hW, hsame⟩ := X305.leave (v := some (.int (nar .boolean (1 : Int32)))) (fun h => by rw [Bd.returns] at h; cases h)
        refine ⟨_, _, k330 _ ?_, hrun, hended, _, _, rfl, ?_, ⟨_, rfl⟩, hW, hsame.mono (by decide) (by decide)⟩
        · show Steps p.tables e below (T303.setTop (mkF m 439 #[.val (.int sh), .val (.int va), .val (.int vb), .val (.int vc), .val (.int vd), .val (.int ve), .val (.int pt), .val (.int nn), .val (.int l0), .val (.int l1), .val (.int l2), .val (.int l3), .val (.int l4), .val (.ref ba), .val (.ref bg), .val (.int f0), .val (.int f1), .val (.int f2), .val (.int f3), .val (.int f4), .val (.int r0), .val (.int r1), .val (.int r2), .val (.int r3), .val (.int r4), .val (.ref b230)] [(.int (1 : Int32))])) _
          exact retN X305 hx (t := .boolean) Bd.returns (by simp) (hb hby at_439) hr
        · show Q0 Z sh va vb vc vd ve h0 n0 _ T303.heap _
          rw [e306]
          exact ⟨rfl, N307⟩
      ·
        have k331 : ∀ t, Steps p.tables e below (T303.setTop (mkF m 439 #[.val (.int sh), .val (.int va), .val (.int vb), .val (.int vc), .val (.int vd), .val (.int ve), .val (.int pt), .val (.int nn), .val (.int l0), .val (.int l1), .val (.int l2), .val (.int l3), .val (.int l4), .val (.ref ba), .val (.ref bg), .val (.int f0), .val (.int f1), .val (.int f2), .val (.int f3), .val (.int f4), .val (.int r0), .val (.int r1), .val (.int r2), .val (.int r3), .val (.int r4), .val (.ref b230)] [(.int (1 : Int32))])) t → Steps p.tables e below (s₁.setTop (entryFrame m #[(.int sh), (.int va), (.int vb), (.int vc), (.int vd), (.int ve)] maxLocals)) t := fun t hk => k329 t (by
          show Steps p.tables e below (T303.setTop (mkF m 420 #[.val (.int sh), .val (.int va), .val (.int vb), .val (.int vc), .val (.int vd), .val (.int ve), .val (.int pt), .val (.int nn), .val (.int l0), .val (.int l1), .val (.int l2), .val (.int l3), .val (.int l4), .val (.ref ba), .val (.ref bg), .val (.int f0), .val (.int f1), .val (.int f2), .val (.int f3), .val (.int f4), .val (.int r0), .val (.int r1), .val (.int r2), .val (.int r3), .val (.int r4), .val (.ref b230)] [(.int (4 : Int32)), (.int pt)])) _
          refine XS.icmpNo X305.here hx rfl (hb hby at_420) rfl (flt hc420).1 ?_
          show Steps p.tables e below (T303.setTop (mkF m 423 #[.val (.int sh), .val (.int va), .val (.int vb), .val (.int vc), .val (.int vd), .val (.int ve), .val (.int pt), .val (.int nn), .val (.int l0), .val (.int l1), .val (.int l2), .val (.int l3), .val (.int l4), .val (.ref ba), .val (.ref bg), .val (.int f0), .val (.int f1), .val (.int f2), .val (.int f3), .val (.int f4), .val (.int r0), .val (.int r1), .val (.int r2), .val (.int r3), .val (.int r4), .val (.ref b230)] [])) _
          refine XS.aload X305.here hx rfl (hb hby at_423) rfl rfl ?_
          show Steps p.tables e below (T303.setTop (mkF m 425 #[.val (.int sh), .val (.int va), .val (.int vb), .val (.int vc), .val (.int vd), .val (.int ve), .val (.int pt), .val (.int nn), .val (.int l0), .val (.int l1), .val (.int l2), .val (.int l3), .val (.int l4), .val (.ref ba), .val (.ref bg), .val (.int f0), .val (.int f1), .val (.int f2), .val (.int f3), .val (.int f4), .val (.int r0), .val (.int r1), .val (.int r2), .val (.int r3), .val (.int r4), .val (.ref b230)] [(.ref bg)])) _
          refine XS.iconst X305.here hx rfl (hb hby at_425) ?_
          show Steps p.tables e below (T303.setTop (mkF m 426 #[.val (.int sh), .val (.int va), .val (.int vb), .val (.int vc), .val (.int vd), .val (.int ve), .val (.int pt), .val (.int nn), .val (.int l0), .val (.int l1), .val (.int l2), .val (.int l3), .val (.int l4), .val (.ref ba), .val (.ref bg), .val (.int f0), .val (.int f1), .val (.int f2), .val (.int f3), .val (.int f4), .val (.int r0), .val (.int r1), .val (.int r2), .val (.int r3), .val (.int r4), .val (.ref b230)] [(.int (3 : Int32)), (.ref bg)])) _
          refine own_iald X305 hx hZ e306 A309 (k := 3) (own_at3 hc420) rfl (g := (mkF m 426 #[.val (.int sh), .val (.int va), .val (.int vb), .val (.int vc), .val (.int vd), .val (.int ve), .val (.int pt), .val (.int nn), .val (.int l0), .val (.int l1), .val (.int l2), .val (.int l3), .val (.int l4), .val (.ref ba), .val (.ref bg), .val (.int f0), .val (.int f1), .val (.int f2), .val (.int f3), .val (.int f4), .val (.int r0), .val (.int r1), .val (.int r2), .val (.int r3), .val (.int r4), .val (.ref b230)] [(.int (3 : Int32)), (.ref bg)])) rfl rfl (hb hby at_426) _ ?_
          show Steps p.tables e below (T303.setTop (mkF m 427 #[.val (.int sh), .val (.int va), .val (.int vb), .val (.int vc), .val (.int vd), .val (.int ve), .val (.int pt), .val (.int nn), .val (.int l0), .val (.int l1), .val (.int l2), .val (.int l3), .val (.int l4), .val (.ref ba), .val (.ref bg), .val (.int f0), .val (.int f1), .val (.int f2), .val (.int f3), .val (.int f4), .val (.int r0), .val (.int r1), .val (.int r2), .val (.int r3), .val (.int r4), .val (.ref b230)] [(.int ((own_G (own_lab l0 l1 l2 l3 l4) pt.toInt.toNat nn.toInt.toNat) 3))])) _
          refine XS.aload X305.here hx rfl (hb hby at_427) rfl rfl ?_
          show Steps p.tables e below (T303.setTop (mkF m 429 #[.val (.int sh), .val (.int va), .val (.int vb), .val (.int vc), .val (.int vd), .val (.int ve), .val (.int pt), .val (.int nn), .val (.int l0), .val (.int l1), .val (.int l2), .val (.int l3), .val (.int l4), .val (.ref ba), .val (.ref bg), .val (.int f0), .val (.int f1), .val (.int f2), .val (.int f3), .val (.int f4), .val (.int r0), .val (.int r1), .val (.int r2), .val (.int r3), .val (.int r4), .val (.ref b230)] [(.ref b230), (.int ((own_G (own_lab l0 l1 l2 l3 l4) pt.toInt.toNat nn.toInt.toNat) 3))])) _
          refine XS.iconst X305.here hx rfl (hb hby at_429) ?_
          show Steps p.tables e below (T303.setTop (mkF m 430 #[.val (.int sh), .val (.int va), .val (.int vb), .val (.int vc), .val (.int vd), .val (.int ve), .val (.int pt), .val (.int nn), .val (.int l0), .val (.int l1), .val (.int l2), .val (.int l3), .val (.int l4), .val (.ref ba), .val (.ref bg), .val (.int f0), .val (.int f1), .val (.int f2), .val (.int f3), .val (.int f4), .val (.int r0), .val (.int r1), .val (.int r2), .val (.int r3), .val (.int r4), .val (.ref b230)] [(.int (3 : Int32)), (.ref b230), (.int ((own_G (own_lab l0 l1 l2 l3 l4) pt.toInt.toNat nn.toInt.toNat) 3))])) _
          refine own_iald X305 hx hZ e306 A310 (k := 3) ⟨by decide, rfl, by decide⟩ rfl (g := (mkF m 430 #[.val (.int sh), .val (.int va), .val (.int vb), .val (.int vc), .val (.int vd), .val (.int ve), .val (.int pt), .val (.int nn), .val (.int l0), .val (.int l1), .val (.int l2), .val (.int l3), .val (.int l4), .val (.ref ba), .val (.ref bg), .val (.int f0), .val (.int f1), .val (.int f2), .val (.int f3), .val (.int f4), .val (.int r0), .val (.int r1), .val (.int r2), .val (.int r3), .val (.int r4), .val (.ref b230)] [(.int (3 : Int32)), (.ref b230), (.int ((own_G (own_lab l0 l1 l2 l3 l4) pt.toInt.toNat nn.toInt.toNat) 3))])) rfl rfl (hb hby at_430) _ ?_
          show Steps p.tables e below (T303.setTop (mkF m 431 #[.val (.int sh), .val (.int va), .val (.int vb), .val (.int vc), .val (.int vd), .val (.int ve), .val (.int pt), .val (.int nn), .val (.int l0), .val (.int l1), .val (.int l2), .val (.int l3), .val (.int l4), .val (.ref ba), .val (.ref bg), .val (.int f0), .val (.int f1), .val (.int f2), .val (.int f3), .val (.int f4), .val (.int r0), .val (.int r1), .val (.int r2), .val (.int r3), .val (.int r4), .val (.ref b230)] [(.int (w4 3)), (.int ((own_G (own_lab l0 l1 l2 l3 l4) pt.toInt.toNat nn.toInt.toNat) 3))])) _
          refine XS.icmpNo X305.here hx rfl (hb hby at_431) rfl (teq (hall 3 (own_at3 hc420).2.2)).2 ?_
          show Steps p.tables e below (T303.setTop (mkF m 434 #[.val (.int sh), .val (.int va), .val (.int vb), .val (.int vc), .val (.int vd), .val (.int ve), .val (.int pt), .val (.int nn), .val (.int l0), .val (.int l1), .val (.int l2), .val (.int l3), .val (.int l4), .val (.ref ba), .val (.ref bg), .val (.int f0), .val (.int f1), .val (.int f2), .val (.int f3), .val (.int f4), .val (.int r0), .val (.int r1), .val (.int r2), .val (.int r3), .val (.int r4), .val (.ref b230)] [])) _
          refine XS.iconst X305.here hx rfl (hb hby at_434) ?_
          show Steps p.tables e below (T303.setTop (mkF m 435 #[.val (.int sh), .val (.int va), .val (.int vb), .val (.int vc), .val (.int vd), .val (.int ve), .val (.int pt), .val (.int nn), .val (.int l0), .val (.int l1), .val (.int l2), .val (.int l3), .val (.int l4), .val (.ref ba), .val (.ref bg), .val (.int f0), .val (.int f1), .val (.int f2), .val (.int f3), .val (.int f4), .val (.int r0), .val (.int r1), .val (.int r2), .val (.int r3), .val (.int r4), .val (.ref b230)] [(.int (1 : Int32))])) _
          refine XS.goto X305.here hx rfl (pc0 := 435) (pc' := 439) rfl (hb hby at_435) (by decide) (by decide) ?_
          exact hk)
        obtain ⟨fs, hr, hrun, hended, hW, hsame⟩ := X305.leave (v := some (.int (nar .boolean (1 : Int32)))) (fun h => by rw [Bd.returns] at h; cases h)
        refine ⟨_, _, k331 _ ?_, hrun, hended, _, _, rfl, ?_, ⟨_, rfl⟩, hW, hsame.mono (by decide) (by decide)⟩
        · show Steps p.tables e below (T303.setTop (mkF m 439 #[.val (.int sh), .val (.int va), .val (.int vb), .val (.int vc), .val (.int vd), .val (.int ve), .val (.int pt), .val (.int nn), .val (.int l0), .val (.int l1), .val (.int l2), .val (.int l3), .val (.int l4), .val (.ref ba), .val (.ref bg), .val (.int f0), .val (.int f1), .val (.int f2), .val (.int f3), .val (.int f4), .val (.int r0), .val (.int r1), .val (.int r2), .val (.int r3), .val (.int r4), .val (.ref b230)] [(.int (1 : Int32))])) _
          exact retN X305 hx (t := .boolean) Bd.returns (by simp) (hb hby at_439) hr
        · show Q0 Z sh va vb vc vd ve h0 n0 _ T303.heap _
          rw [e306]
          exact ⟨rfl, N307⟩
set_option maxRecDepth 65536 in
set_option maxHeartbeats 40000000 in
theorem comes_1 {Post : Tables → Env → Array Value → State → Outcome → State → Prop} (hpost : ∀ tb e args s v u, (limb_1_1.after args s (.returned v) u = true ∧ limb_1_2.after args s (.returned v) u = true ∧ True) → FrameEnd s (.returned v) u (Jvm.fieldLocs frame_1_writes args s ++ Jvm.arrayLocs frame_1_arrays args s ++ Jvm.staticLocs frame_1_statics s) 16 128 → Post tb e args s (.returned v) u) :
    ArmFor flags0 classFile x code maxLocals ret World_1 tables_1 room_1 Calls_1 rest_1 Pre_1 Post := by
  intro l hfl _ _ p e ha hc hk s m args below hf hA hF happ hP
  obtain ⟨hcalls, hrest, hpre⟩ := hP
  obtain ⟨-, -, -, hnamed, -, -, -, hat⟩ := (Spec.applies_iff hf).mp happ
  obtain ⟨hg, hn⟩ := and_e (Cond.before_iff.mp (show (Jvm.Cond.and given_1 narrow_1).before args s = true from hpre))
  obtain ⟨hcnt, hg0⟩ := and_e hg
  obtain ⟨hv0, hg1⟩ := and_e hg0
  obtain ⟨hv1, hg2⟩ := and_e hg1
  obtain ⟨hv2, hg3⟩ := and_e hg2
  obtain ⟨hv3, hg4⟩ := and_e hg3
  obtain ⟨hv4, hg5⟩ := and_e hg4
  have hv5 := hg5
  obtain ⟨w0, w1, w2, w3, w4, w5, rfl⟩ : ∃ w0 w1 w2 w3 w4 w5 : Value, args = #[w0, w1, w2, w3, w4, w5] := by
    have hs : args.size = 6 := by simpa [Cond.value, given_1] using hcnt
    obtain ⟨L⟩ := args
    match L, hs with
    | [w0, w1, w2, w3, w4, w5], _ => exact ⟨w0, w1, w2, w3, w4, w5, rfl⟩
  have hw := fun d (hd : d ∈ tables_1) => atoms_spec (ws := Jvm.Cond.code x code maxLocals ret :: tables_1) hat d (List.mem_cons_of_mem _ hd)
  obtain ⟨i0, ei0⟩ := is_v hv0
  obtain rfl : w0 = (.int i0) := Option.some.inj ei0
  obtain ⟨i1, ei1⟩ := is_v hv1
  obtain rfl : w1 = (.int i1) := Option.some.inj ei1
  obtain ⟨i2, ei2⟩ := is_v hv2
  obtain rfl : w2 = (.int i2) := Option.some.inj ei2
  obtain ⟨i3, ei3⟩ := is_v hv3
  obtain rfl : w3 = (.int i3) := Option.some.inj ei3
  obtain ⟨i4, ei4⟩ := is_v hv4
  obtain rfl : w4 = (.int i4) := Option.some.inj ei4
  obtain ⟨i5, ei5⟩ := is_v hv5
  obtain rfl : w5 = (.int i5) := Option.some.inj ei5
  obtain ⟨n, o, h1, h2, h3, _, L, rfl, ⟨rfl, N⟩, hq⟩ := rm0 l s _ hw tables_1 i0 i1 i2 i3 i4 i5 s.heap s.heap.size (Nat.le_refl _)  p e ha hc hk s m _ below hf ((Spec.applies_iff_loose hf).mp happ).1 ⟨rfl, State.Warmed39.refl s, rfl⟩ trivial
  refine ⟨n, _, h1, h2, h3, hpost _ _ _ _ _ _ ⟨Cond.after_iff.mpr rfl, Cond.after_iff.mpr (eq_i res_at (Term.int_eval (1)) rfl), trivial⟩ ⟨hq.1, hq.2.1, (hq.2.2.sift fun y hy => Or.inr (N y hy)).mono (by decide) (by decide)⟩⟩
theorem main_1_1 : Claimed_1_1 := comes_1 fun _ _ _ _ _ _ h hF => ⟨h.1, hF⟩
theorem main_1_2 : Claimed_1_2 := comes_1 fun _ _ _ _ _ _ h hF => ⟨h.2.1, hF⟩
end Jvm.Pilot.@@N@@
namespace Jvm.Pilot.@@N@@
open Jvm Jvm.ClassFile Sem Op Lib Jvm.Free Jvm.Stand Jvm.Pilot.@@N@@.Jvm.D
/-! MADE BY PROGRAM (witnessworld.py) out of the Statement's table words and the real class files: 9 classes; the members and pool entries that the words name. The judged class is class 1, her method 1. -/
namespace start1
open Jvm.ClassFile
def u (s : String) : CpInfo := .utf8 (stringToUtf16 s)
/-- a pool by its gaps: so many unusable entries, then the entry; so many at the end -/
def gap : Nat → List CpInfo → List CpInfo
  | 0, r => r
  | n + 1, r => .unusable :: gap n r
def poolList (es : List (Nat × CpInfo)) (last : Nat) : List CpInfo := es.foldr (fun e r => gap e.1 (e.2 :: r)) (gap last [])
def pool (es : List (Nat × CpInfo)) (last : Nat) : Array CpInfo := ⟨poolList es last⟩
def fileOf (pool : Array CpInfo) (this : Nat) (attrs : Array Attribute := #[]) (ms : Array MethodInfo := #[]) (fl : Nat := 33) (sup : Nat := 0) (ifs : Array Nat := #[]) (fds : Array FieldInfo := #[]) : ClassFile where
  minorVersion := 0
  majorVersion := 65
  constantPool := pool
  accessFlags := fl
  thisClass := this
  superClass := sup
  interfaces := ifs
  fields := fds
  methods := ms
  attributes := attrs
def plain (name : String) (sup : Option ClassId) : Class where
  name := name
  kind := .ordinary
  loader := none
  accessFlags := 33
  super := sup
  interfaces := #[]
  cf := none
  fields := #[]
  methods := #[]
  instanceTypes := #[]
  staticTypes := #[]
  resolved := #[]
  callSites := []
  init := .initialized
  statics := none
  mirror := none

def pool0 : Array CpInfo := pool [(5, u "<init>"), (0, u "()V"), (1, .class_ 10), (1, u "java/lang/Object")] 113

def k0m0 : Method := { name := "<init>", desc := "()V", sig := { parameters := [], returnType := none }, accessFlags := 1, code := none }
/-- java/lang/Object -/
def k0 : Class := { plain "java/lang/Object" none with
  accessFlags := 33
  interfaces := #[]
  cf := some (fileOf pool0 8 #[] #[{ accessFlags := 1, nameIndex := 5, descriptorIndex := 6, attributes := #[] }] 33 0 #[] #[])
  fields := #[]
  methods := #[k0m0]
  instanceTypes := #[]
  staticTypes := #[]
  resolved := Array.replicate 124 none
  statics := none }

def pool1 : Array CpInfo := pool [(2, .class_ 4), (1, u "java/lang/Object"), (0, u "<init>"), (0, u "()V"), (0, .integer 2147483647), (0, .methodref 9 10), (0, .class_ 11), (0, .nameAndType 12 13), (0, u "com/example/faultline/faultline/split/CutNumbersPinLaw"), (0, u "take"), (0, u "(IIIIII)[I"), (0, .methodref 15 16), (0, .class_ 17), (0, .nameAndType 18 19), (0, u "com/example/faultline/faultline/split/Cut"), (0, u "numbers"), (0, u "([II)[I"), (2, u "law"), (0, u "(IIIIII)Z")] 5

def k1m0 : Method := { name := "<init>", desc := "()V", sig := { parameters := [], returnType := none }, accessFlags := 1, code := none }
def k1c1 : Code := { maxStack := 6, maxLocals := 26, code := code, exceptionTable := #[], attributes := #[] }
def k1m1 : Method := { name := "law", desc := "(IIIIII)Z", sig := { parameters := [.int, .int, .int, .int, .int, .int], returnType := some .boolean }, accessFlags := 9, code := some k1c1 }
def k1c2 : Code := { maxStack := 4, maxLocals := 6, code := method_3_code, exceptionTable := #[], attributes := #[] }
def k1m2 : Method := { name := "take", desc := "(IIIIII)[I", sig := { parameters := [.int, .int, .int, .int, .int, .int], returnType := some (.array .int) }, accessFlags := 10, code := some k1c2 }
/-- com/example/faultline/faultline/split/CutNumbersPinLaw -/
def k1 : Class := { plain "com/example/faultline/faultline/split/CutNumbersPinLaw" (some 0) with
  accessFlags := 49
  interfaces := #[]
  cf := some (fileOf pool1 9 #[] #[{ accessFlags := 1, nameIndex := 5, descriptorIndex := 6, attributes := #[] }, { accessFlags := 9, nameIndex := 22, descriptorIndex := 23, attributes := #[] }, { accessFlags := 10, nameIndex := 12, descriptorIndex := 13, attributes := #[] }] 49 2 #[] #[])
  fields := #[]
  methods := #[k1m0, k1m1, k1m2]
  instanceTypes := #[]
  staticTypes := #[]
  resolved := Array.replicate 29 none
  statics := none }

def pool2 : Array CpInfo := pool [(2, .class_ 4), (1, u "java/lang/Object"), (6, .class_ 13), (1, u "com/example/faultline/faultline/split/Cut"), (0, u "constraints"), (0, u "Ljava/util/List;"), (2, u "held"), (74, u "model"), (0, u "Lcom/example/faultline/faultline/model/Model;"), (6, u "largestPart"), (0, u "I"), (6, u "mostShared"), (142, u "numbers"), (0, u "([II)[I")] 59

def k2c0 : Code := { maxStack := 3, maxLocals := 5, code := prog_96_method_3_code, exceptionTable := #[], attributes := #[] }
def k2m0 : Method := { name := "numbers", desc := "([II)[I", sig := { parameters := [(.array .int), .int], returnType := some (.array .int) }, accessFlags := 8, code := some k2c0 }
/-- com/example/faultline/faultline/split/Cut -/
def k2 : Class := { plain "com/example/faultline/faultline/split/Cut" (some 0) with
  accessFlags := 33
  interfaces := #[]
  cf := some (fileOf pool2 11 #[] #[{ accessFlags := 8, nameIndex := 252, descriptorIndex := 253, attributes := #[] }] 33 2 #[] #[{ accessFlags := 18, nameIndex := 93, descriptorIndex := 94, attributes := #[] }, { accessFlags := 18, nameIndex := 14, descriptorIndex := 15, attributes := #[] }, { accessFlags := 18, nameIndex := 18, descriptorIndex := 15, attributes := #[] }, { accessFlags := 18, nameIndex := 101, descriptorIndex := 102, attributes := #[] }, { accessFlags := 18, nameIndex := 109, descriptorIndex := 102, attributes := #[] }])
  fields := #[{ name := "model", type := (.object "com/example/faultline/faultline/model/Model"), accessFlags := 18, slot := 0, constantValue := 0 }, { name := "constraints", type := (.object "java/util/List"), accessFlags := 18, slot := 1, constantValue := 0 }, { name := "held", type := (.object "java/util/List"), accessFlags := 18, slot := 2, constantValue := 0 }, { name := "largestPart", type := .int, accessFlags := 18, slot := 3, constantValue := 0 }, { name := "mostShared", type := .int, accessFlags := 18, slot := 4, constantValue := 0 }]
  methods := #[k2m0]
  instanceTypes := #[(.object "com/example/faultline/faultline/model/Model"), (.object "java/util/List"), (.object "java/util/List"), .int, .int]
  staticTypes := #[]
  resolved := Array.replicate 313 none
  statics := none }

def pool3 : Array CpInfo := pool [(1, u "java/lang/Cloneable"), (0, .class_ 1), (0, u "java/lang/Object"), (0, .class_ 3)] 3

/-- java/lang/Cloneable -/
def k3 : Class := { plain "java/lang/Cloneable" (some 0) with
  accessFlags := 1537
  interfaces := #[]
  cf := some (fileOf pool3 2 #[] #[] 1537 4 #[] #[])
  fields := #[]
  methods := #[]
  instanceTypes := #[]
  staticTypes := #[]
  resolved := Array.replicate 8 none
  statics := none }

def pool4 : Array CpInfo := pool [(1, u "java/io/Serializable"), (0, .class_ 1), (0, u "java/lang/Object"), (0, .class_ 3)] 3

/-- java/io/Serializable -/
def k4 : Class := { plain "java/io/Serializable" (some 0) with
  accessFlags := 1537
  interfaces := #[]
  cf := some (fileOf pool4 2 #[] #[] 1537 4 #[] #[])
  fields := #[]
  methods := #[]
  instanceTypes := #[]
  staticTypes := #[]
  resolved := Array.replicate 8 none
  statics := none }

/-- the primitive byte -/
def k5 : Class := { plain "byte" none with kind := .primitive 'B', accessFlags := 0x411 }
/-- [B -/
def k6 : Class := { plain "[B" (some 0) with kind := .array 5 .byte, interfaces := #[3, 4], accessFlags := 1041 }

/-- the primitive int -/
def k7 : Class := { plain "int" none with kind := .primitive 'I', accessFlags := 0x411 }
/-- [I -/
def k8 : Class := { plain "[I" (some 0) with kind := .array 7 .int, interfaces := #[3, 4], accessFlags := 1041 }

def heap : Heap := #[]
def classes : Array Class := #[k0, k1, k2, k3, k4, k5, k6, k7, k8]
def interned : List (Array UInt16 × Addr) := []
def slotsUsed : Nat := 0
def theMethod : MethodId := ⟨1, 1⟩
def args0 : Array Value := #[.int 5, .int 7, .int 3, .int 1, .int 2, .int 9]
def aboutOver (below : List Frame) : State where
  vm := { classes := classes, interned := interned.toArray }
  heap := heap
  slotsUsed := slotsUsed
  threads := #[{ frames := .invoking theMethod args0 :: below }]
def below0 : List Frame := [.native { method := ⟨0, 0⟩, args := #[] }]
def about1 : State := aboutOver below0
def p0 : Program := .bare "" "" ""
def e0 : Env := launch0.env 0 0 0
theorem w_frames : about1.frames = Frame.invoking theMethod args0 :: below0 := rfl
set_option maxRecDepth 65536 in
theorem w_args : argsFit about1.vm theMethod args0 = true := by decide +kernel
set_option maxRecDepth 65536 in
theorem w_heap : heapFits about1 = true := by decide +kernel
set_option maxRecDepth 65536 in
theorem w_runnable : about1.curStatus? = some .runnable := by decide +kernel
set_option maxRecDepth 65536 in
theorem w_alone : about1.alone = true := by decide +kernel
set_option maxRecDepth 65536 in
theorem w_named : about1.methodNamed? x = some theMethod := by decide +kernel
set_option maxRecDepth 65536 in
theorem w_hears : about1.hears theMethod below0 = true := by decide +kernel
set_option maxRecDepth 65536 in
theorem w_ripe : about1.ripe theMethod args0 below0 = true := by decide +kernel
theorem w_running : about1.status = .running := rfl
set_option maxRecDepth 65536 in
theorem w_room : about1.hasRoom e0.platform room_1 = true :=
  launch0.hasRoom_least _ room_1 (by decide +kernel) (by decide +kernel) (by decide +kernel) (by decide +kernel) (by decide +kernel) (by decide +kernel)
theorem allAtoms_all (ts : List Jvm.Cond) (a : Array Jvm.Value) (st : Jvm.State) : (allAtoms ts).before a st = ts.all (fun c => c.before a st) := by
  induction ts with
  | nil => rfl
  | cons c t ih =>
    show (Jvm.Cond.and c (allAtoms t)).before a st = _
    rw [Jvm.Cond.before_and, ih, List.all_cons]
def words1 : List Jvm.Cond := Jvm.Cond.code x code maxLocals ret :: tables_1
/-- a 'code' word, met by the world's own term for the bytes: nothing is compared byte by byte -/
theorem code_word {y : MethodName} {bytes : ByteArray} {mx : Nat} {rt : Option FieldType} {a : Array Value} {s : State} {m : MethodId} {meth : Method} {c : Code} (h1 : s.methodNamed? y = some m) (h2 : s.vm.method? m = some meth) (h3 : meth.code = some c) (h4 : c.code = bytes)
    (h5 : (c.maxLocals == mx && c.exceptionTable.isEmpty && decide (c.maxStack ≤ mostOperands) && decide (meth.sig.returnType = rt) && !meth.locks && decide (parseMethodDescriptor y.desc = some meth.sig)) = true) : (Jvm.Cond.code y bytes mx rt).before a s = true := by
  simp only [Bool.and_eq_true, beq_iff_eq, Bool.not_eq_true', decide_eq_true_eq] at h5
  obtain ⟨⟨⟨⟨⟨g1, g2⟩, g3⟩, g4⟩, g5⟩, g6⟩ := h5
  simp [Cond.before, Cond.holds, Cond.value, h1, h2, h3, h4, g1, g2, g3, g4, g5, g6]
def isCode : Jvm.Cond → Bool
  | .code _ _ _ _ => true
  | _ => false
theorem all_split {L : List Jvm.Cond} {P : Jvm.Cond → Bool} (h1 : L.all (fun c => isCode c || P c) = true) (h2 : ∀ c ∈ L.filter isCode, P c = true) : L.all P = true := by
  refine List.all_eq_true.mpr fun c hc => ?_
  have h := List.all_eq_true.mp h1 c hc
  rcases Bool.eq_false_or_eq_true (isCode c) with hi | hi
  · exact h2 c (List.mem_filter.mpr ⟨hc, hi⟩)
  · simpa [hi] using h
set_option maxRecDepth 65536 in
theorem w_c0 : (Jvm.Cond.code x code maxLocals ret).before args0 about1 = true := code_word (m := ⟨1, 1⟩) (meth := k1m1) (c := k1c1) (by decide +kernel) rfl rfl rfl (by decide +kernel)
set_option maxRecDepth 65536 in
theorem w_c1 : (Jvm.Cond.code ({ cls := "com/example/faultline/faultline/split/CutNumbersPinLaw", name := "take", desc := "(IIIIII)[I" } : Jvm.MethodName) method_3_code (6 : Nat) (Option.some (Jvm.ClassFile.FieldType.array Jvm.ClassFile.FieldType.int))).before args0 about1 = true := code_word (m := ⟨1, 2⟩) (meth := k1m2) (c := k1c2) (by decide +kernel) rfl rfl rfl (by decide +kernel)
set_option maxRecDepth 65536 in
theorem w_c2 : (Jvm.Cond.code ({ cls := "com/example/faultline/faultline/split/Cut", name := "numbers", desc := "([II)[I" } : Jvm.MethodName) prog_96_method_3_code (5 : Nat) (Option.some (Jvm.ClassFile.FieldType.array Jvm.ClassFile.FieldType.int))).before args0 about1 = true := code_word (m := ⟨2, 0⟩) (meth := k2m0) (c := k2c0) (by decide +kernel) rfl rfl rfl (by decide +kernel)
def codes1 : List Jvm.Cond := [Jvm.Cond.code x code maxLocals ret, Jvm.Cond.code ({ cls := "com/example/faultline/faultline/split/CutNumbersPinLaw", name := "take", desc := "(IIIIII)[I" } : Jvm.MethodName) method_3_code (6 : Nat) (Option.some (Jvm.ClassFile.FieldType.array Jvm.ClassFile.FieldType.int)), Jvm.Cond.code ({ cls := "com/example/faultline/faultline/split/Cut", name := "numbers", desc := "([II)[I" } : Jvm.MethodName) prog_96_method_3_code (5 : Nat) (Option.some (Jvm.ClassFile.FieldType.array Jvm.ClassFile.FieldType.int))]
set_option maxRecDepth 65536 in
theorem codes_eq : words1.filter isCode = codes1 := rfl
theorem w_codes : ∀ c ∈ words1.filter isCode, c.before args0 about1 = true := by
  rw [codes_eq]
  intro c hc
  simp only [codes1, List.mem_cons, List.not_mem_nil, or_false] at hc
  rcases hc with rfl | rfl | rfl
  · exact w_c0
  · exact w_c1
  · exact w_c2
set_option maxRecDepth 65536 in
theorem w_t1 : words1.all (fun c => isCode c || c.before args0 about1) = true := by decide +kernel
theorem w_tables : (allAtoms (Jvm.Cond.code x code maxLocals ret :: tables_1)).before args0 about1 = true := by
  rw [allAtoms_all]
  show words1.all (fun c => c.before args0 about1) = true
  refine all_split ?_ w_codes
  rw [w_t1]
set_option maxRecDepth 65536 in
theorem w_case : (Jvm.Cond.and given_1 narrow_1).before args0 about1 = true := by decide +kernel
theorem w_applies : (headSpec (Jvm.Cond.code x code maxLocals ret :: tables_1) room_1).applies x e0.platform about1 = true :=
  (Spec.applies_iff w_frames).mpr ⟨w_running, w_runnable, w_alone, w_named, w_hears, w_ripe, w_room, w_tables⟩
theorem atStart : AtStart classFile x code maxLocals ret World_1 tables_1 room_1 Calls_1 rest_1 Pre_1 launch0 p0 e0 about1 theMethod args0 below0 :=
  ⟨lists_1, trivial, launch0.admits_env _ _ _, launch0.least_env, fairChoices_fair.cas, fairChoices_fair.clock, w_frames, w_args, w_heap, w_applies, trivial, trivial, w_case⟩
end start1
theorem witness_1 : WitnessClaimed_1 := ⟨start1.p0, start1.e0, start1.about1, start1.theMethod, start1.args0, start1.below0, start1.atStart⟩
end Jvm.Pilot.@@N@@
