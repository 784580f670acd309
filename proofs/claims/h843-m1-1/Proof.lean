import JvmDerived
import JvmDerived.Pilot.@@N@@Statement
import JvmDerived.Pilot.@@N@@Code
set_option linter.unusedVariables false
set_option linter.unusedSimpArgs false
@@BLOCK:NumsL.lean.txt@@
@@BLOCK:HandJ.lean.txt@@
@@BLOCK:SymMore.lean.txt@@
namespace Jvm.RoadKit
open Sem ClassFile Op Lib Jvm.Stand Jvm.Free Jvm.LawKit
section New
variable {p : Program} {l : Launch} {e : Env} {R : Room} {s : State} {m : MethodId} {args : Array Value} {below : List Frame} {meth : Method} {c : Code} {T : State} {locs : List Loc} {cells slots : Nat}
theorem retI (X : Stand p l e R s m args below meth c T locs cells slots) (hx : p.tables.exec = Jvm.exec) {pc : Nat} {Ls : Array Slot} {z : Int32} {rest : List Value} (hret : meth.sig.returnType = some .int) (hd : decode c.code pc = .ok (.ireturn, 1)) {fs : List Frame}
    (hl : ∀ (f : JFrame) (acts : List Action), f.method = m → f.locked = none → f.entered = [] → (doReturn e (T.setTop f) acts (some (.int z))).1 = T.setFrames fs) : Steps p.tables e below (T.setTop (mkF m pc Ls (.int z :: rest))) (T.setFrames fs) := by
  have hm' : T.vm.method? m = some meth := X.method'
  have hn : narrow .int (.int z) = .int z := rfl
  show Steps p.tables e below (T.setTop { method := m, pc := pc, locals := Ls, stack := _ :: rest, locked := none }) _
  jvm_step X.here [X.here.top, hx, hd, hm', hret, hn]
  first | (intro acts; rw [hl _ acts rfl rfl rfl]) | rw [hl _ _ rfl rfl rfl]
  exact Steps.refl _
end New
end Jvm.RoadKit
namespace Jvm.Pilot.@@N@@
open Jvm Jvm.ClassFile Sem Op Lib Jvm.Free Jvm.Stand Jvm.LawKit Jvm.RoadKit Bundle Jvm.Pilot.@@N@@.Jvm.D
theorem own_rem {v y : Int32} (hv : 0 ≤ v.toInt) (hy : 0 < y.toInt) : (v - (v / y) * y).toInt = v.toInt % y.toInt := by
  have hlt := v.toInt_lt
  have h1 : (v / y).toInt = v.toInt / y.toInt := by
    rw [Jvm.Kit.i32_div (by omega), Int.tdiv_eq_ediv_of_nonneg hv]
  have hq : 0 ≤ v.toInt / y.toInt := Int.ediv_nonneg hv (by omega)
  have hm := Int.emod_nonneg v.toInt (show y.toInt ≠ 0 by omega)
  have hd := Int.mul_ediv_add_emod v.toInt y.toInt
  have hp : 0 ≤ y.toInt * (v.toInt / y.toInt) := Int.mul_nonneg (by omega) hq
  have h2 : ((v / y) * y).toInt = v.toInt / y.toInt * y.toInt := by
    rw [Jvm.Kit.i32_mul, h1]
    · rw [h1, Int.mul_comm]; omega
    · rw [h1, Int.mul_comm]; omega
  have hc : v.toInt / y.toInt * y.toInt = y.toInt * (v.toInt / y.toInt) := Int.mul_comm _ _
  rw [Jvm.Kit.i32_sub (by rw [h2]; omega) (by rw [h2]; omega), h2]
  omega
theorem own_pos (x : Int32) : (x &&& (2147483647 : Int32)).toInt = x.toInt % 2 ^ 31 := Jvm.Kit.i32_mask x 2147483647 (k := 31) (by decide) (by decide)
theorem own_lt {i n : Nat} (h : i < n) (hn : n ≤ 3) : Int32.ofNat i < Int32.ofNat n := by
  rw [Int32.lt_iff_toInt_lt, Int32.toInt_ofNat_of_lt (by omega), Int32.toInt_ofNat_of_lt (by omega)]
  omega
theorem own_nn {n : Nat} (hn : n ≤ 3) : ¬ Int32.ofNat n < 0 := by
  rw [Int32.lt_iff_toInt_lt, Int32.toInt_ofNat_of_lt (by omega), show (0 : Int32).toInt = 0 from rfl]
  omega
theorem own_n32 {n : Nat} (hn : n ≤ 3) : (Int32.ofNat n).toNatClampNeg = n := by
  rw [Int32.toNatClampNeg, Int32.toInt_ofNat_of_lt (by omega)]; rfl
theorem own_one (i : Nat) : Int32.ofNat i + (1 : Int32) = Int32.ofNat (i + 1) := (Int32.ofNat_add i 1).symm
/-- a long[] of n places, place j holding f j -/
def own_L (Z : State) (h : Heap) (t : Addr) (n : Nat) (f : Nat → Int64) : Prop := ∃ cl : Cell, Arr Z h t cl .long ∧ cl.slots.size = n ∧ ∀ j, j < n → cl.slots[j]? = some (.long (f j))
theorem own_L.keep {Z : State} {h h' : Heap} {t : Addr} {n : Nat} {f : Nat → Int64} {ws : List Addr} (F : own_L Z h t n f) (K : Keep h h' ws) (q : t ∉ ws) : own_L Z h' t n f := by
  obtain ⟨c, A, r⟩ := F; exact ⟨c, ⟨K.2.1 t c A.1 q, A.2⟩, r⟩
theorem own_L.other {Z : State} {h h' : Heap} {t a : Addr} {n sl : Nat} {v : Value} {f : Nat → Int64} (F : own_L Z h t n f) (W : Wr h h' a sl v) (q : t ≠ a) : own_L Z h' t n f := by
  obtain ⟨c, A, r⟩ := F; exact ⟨c, A.other W q, r⟩
theorem own_L.ext {Z : State} {h h' : Heap} {t : Addr} {n : Nat} {f : Nat → Int64} (F : own_L Z h t n f) (E : Ext h h') : own_L Z h' t n f := by
  obtain ⟨c, A, r⟩ := F; exact ⟨c, A.ext E, r⟩
theorem own_L.set {Z : State} {h h' : Heap} {t : Addr} {n i : Nat} {v : Int64} {f : Nat → Int64} {cl : Cell} (A : Arr Z h t cl .long) (S : cl.slots.size = n) (H : ∀ j, j < n → cl.slots[j]? = some (.long (f j))) (W : Wr h h' t i (.long v)) : own_L Z h' t n (fun j => if j = i then v else f j) := by
  refine ⟨_, A.same W, by rw [sz_set]; exact S, fun j hj => ?_⟩
  show (cl.slots.setIfInBounds i (.long v))[j]? = _
  rw [Array.getElem?_setIfInBounds]
  by_cases q : i = j
  · subst q
    rw [if_pos rfl, if_pos (by rw [S]; exact hj)]
    simp
  · rw [if_neg q, H j hj]
    show some (Value.long (f j)) = some (Value.long (if j = i then v else f j))
    rw [if_neg (fun z => q z.symm)]
theorem own_L.of {Z : State} {h : Heap} {t : Addr} {k : ClassId} {z : Int32} {n : Nat} (F : Arv Z h t k .long z [] (.long (0 : Int64))) (hz : z.toNatClampNeg = n) : own_L Z h t n (fun _ => 0) := by
  obtain ⟨c, A, -, S, -, H, -⟩ := F
  refine ⟨c, A, by rw [S, hz], fun j hj => ?_⟩
  rw [H j (by rw [S, hz]; exact hj)]; rfl
def own_pick (k : Int32) (p d : Int64) : Int64 := if k = (0 : Int32) then p else if k = (1 : Int32) then d else if k = (2 : Int32) then (0 : Int64) else (p ^^^ (1 : Int64))
def own_cmp (x y : Int64) : Int32 := if lcmpW x y < (0 : Int32) then (-1 : Int32) else if (0 : Int32) < lcmpW x y then (1 : Int32) else (0 : Int32)
def own_sgn (x : Int32) : Int32 := if x < (0 : Int32) then (-1 : Int32) else if (0 : Int32) < x then (1 : Int32) else (0 : Int32)
def own_lc (x y : Int64) : Int32 := if lcmpW x y < (0 : Int32) then (-1 : Int32) else if lcmpW x y = (0 : Int32) then (0 : Int32) else (1 : Int32)
def own_mx (x y : Int32) : Int32 := if x < y then y else x
def own_part (n : Nat) (f : Nat → Int64) (i : Nat) : Int64 := if i < n then f i else 0
/-- what compareTo's loop leaves: k turns left from i on -/
def own_ct (g : Nat → Int32) : Nat → Nat → Int32
  | 0, _ => 0
  | k + 1, i => if g i = 0 then own_ct g k (i + 1) else g i
theorem d1_0 : decode method_2_code 0 = .ok (.iload_n 0, 1) := by decide +kernel
theorem d1_1 : decode method_2_code 1 = .ok (.ifCond .ne 5, 3) := by decide +kernel
theorem d1_4 : decode method_2_code 4 = .ok (.lload_n 1, 1) := by decide +kernel
theorem d1_5 : decode method_2_code 5 = .ok (.lreturn, 1) := by decide +kernel
theorem pn_1 : plainName "com/example/updrift/updrift/model/ReleaseNumberOfPinLaw" = true := by first | (simp [plainName, overriddenIn]; done) | decide +kernel
theorem ef_1 (m : MethodId) (x0 : Int32) (x1 : Int64) (x2 : Int64) : entryFrame m #[(.int x0), (.long x1), (.long x2)] 5 = mkF m 0 #[.val (.int x0), .val (.long x1), .second, .val (.long x2), .second] [] := by first | (simp [entryFrame, mkF, argsToLocals, Value.category]; done) | rfl
theorem d1_6 : decode method_2_code 6 = .ok (.iload_n 0, 1) := by decide +kernel
theorem d1_7 : decode method_2_code 7 = .ok (.iconst 1, 1) := by decide +kernel
theorem d1_8 : decode method_2_code 8 = .ok (.if_icmp .ne 5, 3) := by decide +kernel
theorem d1_11 : decode method_2_code 11 = .ok (.lload_n 3, 1) := by decide +kernel
theorem d1_12 : decode method_2_code 12 = .ok (.lreturn, 1) := by decide +kernel
theorem d1_13 : decode method_2_code 13 = .ok (.iload_n 0, 1) := by decide +kernel
theorem d1_14 : decode method_2_code 14 = .ok (.iconst 2, 1) := by decide +kernel
theorem d1_15 : decode method_2_code 15 = .ok (.if_icmp .ne 5, 3) := by decide +kernel
theorem d1_18 : decode method_2_code 18 = .ok (.lconst 0, 1) := by decide +kernel
theorem d1_19 : decode method_2_code 19 = .ok (.lreturn, 1) := by decide +kernel
theorem d1_20 : decode method_2_code 20 = .ok (.lload_n 1, 1) := by decide +kernel
theorem d1_21 : decode method_2_code 21 = .ok (.lconst 1, 1) := by decide +kernel
theorem d1_22 : decode method_2_code 22 = .ok (.lxor, 1) := by decide +kernel
theorem d1_23 : decode method_2_code 23 = .ok (.lreturn, 1) := by decide +kernel
def Q1 (Z : State) (p1 : Int32) (q2 : Int64) (q3 : Int64) (h0 : Heap) (n0 : Nat) (v : Option Value) (h : Heap) (L : List Loc) : Prop := v = some (.long (own_pick p1 q2 q3)) ∧ Fr n0 L ∧ h = h0
set_option maxRecDepth 65536 in
set_option maxHeartbeats 40000000 in
theorem rm1_f (l : Launch) (Z : State) (a0 : Array Value) (hw : ∀ d ∈ tables_1, d.before a0 Z = true) (ws : List Jvm.Cond) (p1 : Int32) (q2 : Int64) (q3 : Int64) (h0 : Heap) (n0 : Nat) (Z0 : n0 ≤ h0.size) (hc1 : p1 = (0 : Int32)) :
    MetFree l (⟨"com/example/updrift/updrift/model/ReleaseNumberOfPinLaw", "pick", "(IJJ)J"⟩ : MethodName) (head1 (Jvm.Cond.code (⟨"com/example/updrift/updrift/model/ReleaseNumberOfPinLaw", "pick", "(IJJ)J"⟩ : MethodName) method_2_code 5 (some .long) :: ws) ({ frames := 0, cells := 0, slots := 0, locals := 0 } : Room)) (fun a U => a = #[(.int p1), (.long q2), (.long q3)] ∧ Z.Warmed39 U.vm ∧ U.heap = h0) (fun _ _ _ _ _ => True) (fun _ U o U' => ∃ v L, o = .returned v ∧ Q1 Z p1 q2 q3 h0 n0 v U'.heap L ∧ FrameEnd U o U' L ({ frames := 0, cells := 0, slots := 0, locals := 0 } : Room).cells ({ frames := 0, cells := 0, slots := 0, locals := 0 } : Room).slots) := by
  refine MetFree.of_bodySF (plainFor_of_name pn_1) hisR ?_
  intro p e s m args below meth c s₁ Bd hml0 hP hK
  obtain ⟨rfl, hZ, hh⟩ := hP
  have hx := Bd.exec
  have hby := Bd.bytes
  have hml : c.maxLocals = 5 := hml0
  have hown : s.vm.findClass "com/example/updrift/updrift/model/ReleaseNumberOfPinLaw" = some m.cls := findClass_of_methodNamed Bd.named
  have hnm := (name_of_methodNamed Bd.named Bd.method).1
  have X0 : Stand p l e ({ frames := 0, cells := 0, slots := 0, locals := 0 } : Room) s m #[(.int p1), (.long q2), (.long q3)] below meth c s₁ [] 0 0 := Stand.of_body Bd
  have e0 : s₁.heap = h0 := by rw [← hh, Bd.state]; rfl
  have N0 := Fr.nil n0
  have pre0 : ∀ t, Steps p.tables e below (s₁.setTop (mkF m 0 #[.val (.int p1), .val (.long q2), .second, .val (.long q3), .second] [])) t → Steps p.tables e below (s₁.setTop (entryFrame m #[(.int p1), (.long q2), (.long q3)] 5)) t := fun t k => castTop (ef_1 m p1 q2 q3) k

  obtain ⟨fs, hr, hrun, hended, hW, hsame⟩ := X0.leave (v := some (.long q2)) (fun h => by rw [Bd.returns] at h; cases h)
  refine ⟨_, _, pre0 _ ?_, hrun, hended, _, _, rfl, ?_, ⟨_, rfl⟩, hW, hsame.mono (by decide) (by decide)⟩
  · show Steps p.tables e below (s₁.setTop (mkF m 0 #[.val (.int p1), .val (.long q2), .second, .val (.long q3), .second] [])) _
    refine XS.iloadN X0.here hx rfl (hb hby d1_0) rfl ?_
    show Steps p.tables e below (s₁.setTop (mkF m 1 #[.val (.int p1), .val (.long q2), .second, .val (.long q3), .second] [(.int p1)])) _
    refine XS.ifNo X0.here hx rfl (hb hby d1_1) rfl ((if0 _ _).trans (teq hc1).2) ?_
    show Steps p.tables e below (s₁.setTop (mkF m 4 #[.val (.int p1), .val (.long q2), .second, .val (.long q3), .second] [])) _
    refine XS.lloadN X0.here hx rfl (hb hby d1_4) rfl ?_
    show Steps p.tables e below (s₁.setTop (mkF m 5 #[.val (.int p1), .val (.long q2), .second, .val (.long q3), .second] [(.long q2)])) _
    jvm_step X0.here [X0.here.top, hx, (hb hby d1_5), X0.method', Bd.returns, narrow]
    first | (intro acts; rw [hr _ acts rfl rfl rfl]) | rw [hr _ _ rfl rfl rfl]
    exact Steps.refl _
  · show Q1 Z p1 q2 q3 h0 n0 _ s₁.heap _
    rw [e0]
    exact ⟨by unfold own_pick; rw [if_pos hc1], N0, rfl⟩
set_option maxRecDepth 65536 in
set_option maxHeartbeats 40000000 in
theorem rm1_tf (l : Launch) (Z : State) (a0 : Array Value) (hw : ∀ d ∈ tables_1, d.before a0 Z = true) (ws : List Jvm.Cond) (p1 : Int32) (q2 : Int64) (q3 : Int64) (h0 : Heap) (n0 : Nat) (Z0 : n0 ≤ h0.size) (hc1 : ¬ (p1 = (0 : Int32))) (hc8 : p1 = (1 : Int32)) :
    MetFree l (⟨"com/example/updrift/updrift/model/ReleaseNumberOfPinLaw", "pick", "(IJJ)J"⟩ : MethodName) (head1 (Jvm.Cond.code (⟨"com/example/updrift/updrift/model/ReleaseNumberOfPinLaw", "pick", "(IJJ)J"⟩ : MethodName) method_2_code 5 (some .long) :: ws) ({ frames := 0, cells := 0, slots := 0, locals := 0 } : Room)) (fun a U => a = #[(.int p1), (.long q2), (.long q3)] ∧ Z.Warmed39 U.vm ∧ U.heap = h0) (fun _ _ _ _ _ => True) (fun _ U o U' => ∃ v L, o = .returned v ∧ Q1 Z p1 q2 q3 h0 n0 v U'.heap L ∧ FrameEnd U o U' L ({ frames := 0, cells := 0, slots := 0, locals := 0 } : Room).cells ({ frames := 0, cells := 0, slots := 0, locals := 0 } : Room).slots) := by
  refine MetFree.of_bodySF (plainFor_of_name pn_1) hisR ?_
  intro p e s m args below meth c s₁ Bd hml0 hP hK
  obtain ⟨rfl, hZ, hh⟩ := hP
  have hx := Bd.exec
  have hby := Bd.bytes
  have hml : c.maxLocals = 5 := hml0
  have hown : s.vm.findClass "com/example/updrift/updrift/model/ReleaseNumberOfPinLaw" = some m.cls := findClass_of_methodNamed Bd.named
  have hnm := (name_of_methodNamed Bd.named Bd.method).1
  have X0 : Stand p l e ({ frames := 0, cells := 0, slots := 0, locals := 0 } : Room) s m #[(.int p1), (.long q2), (.long q3)] below meth c s₁ [] 0 0 := Stand.of_body Bd
  have e0 : s₁.heap = h0 := by rw [← hh, Bd.state]; rfl
  have N0 := Fr.nil n0
  have pre0 : ∀ t, Steps p.tables e below (s₁.setTop (mkF m 0 #[.val (.int p1), .val (.long q2), .second, .val (.long q3), .second] [])) t → Steps p.tables e below (s₁.setTop (entryFrame m #[(.int p1), (.long q2), (.long q3)] 5)) t := fun t k => castTop (ef_1 m p1 q2 q3) k

  obtain ⟨fs, hr, hrun, hended, hW, hsame⟩ := X0.leave (v := some (.long q3)) (fun h => by rw [Bd.returns] at h; cases h)
  refine ⟨_, _, pre0 _ ?_, hrun, hended, _, _, rfl, ?_, ⟨_, rfl⟩, hW, hsame.mono (by decide) (by decide)⟩
  · show Steps p.tables e below (s₁.setTop (mkF m 0 #[.val (.int p1), .val (.long q2), .second, .val (.long q3), .second] [])) _
    refine XS.iloadN X0.here hx rfl (hb hby d1_0) rfl ?_
    show Steps p.tables e below (s₁.setTop (mkF m 1 #[.val (.int p1), .val (.long q2), .second, .val (.long q3), .second] [(.int p1)])) _
    refine XS.ifYes X0.here hx rfl (pc0 := 1) (pc' := 6) rfl (hb hby d1_1) rfl ((if0 _ _).trans (feq hc1).2) (by decide) (by decide) ?_
    show Steps p.tables e below (s₁.setTop (mkF m 6 #[.val (.int p1), .val (.long q2), .second, .val (.long q3), .second] [])) _
    refine XS.iloadN X0.here hx rfl (hb hby d1_6) rfl ?_
    show Steps p.tables e below (s₁.setTop (mkF m 7 #[.val (.int p1), .val (.long q2), .second, .val (.long q3), .second] [(.int p1)])) _
    refine XS.iconst X0.here hx rfl (hb hby d1_7) ?_
    show Steps p.tables e below (s₁.setTop (mkF m 8 #[.val (.int p1), .val (.long q2), .second, .val (.long q3), .second] [(.int (1 : Int32)), (.int p1)])) _
    refine XS.icmpNo X0.here hx rfl (hb hby d1_8) rfl (teq hc8).2 ?_
    show Steps p.tables e below (s₁.setTop (mkF m 11 #[.val (.int p1), .val (.long q2), .second, .val (.long q3), .second] [])) _
    refine XS.lloadN X0.here hx rfl (hb hby d1_11) rfl ?_
    show Steps p.tables e below (s₁.setTop (mkF m 12 #[.val (.int p1), .val (.long q2), .second, .val (.long q3), .second] [(.long q3)])) _
    jvm_step X0.here [X0.here.top, hx, (hb hby d1_12), X0.method', Bd.returns, narrow]
    first | (intro acts; rw [hr _ acts rfl rfl rfl]) | rw [hr _ _ rfl rfl rfl]
    exact Steps.refl _
  · show Q1 Z p1 q2 q3 h0 n0 _ s₁.heap _
    rw [e0]
    exact ⟨by unfold own_pick; rw [if_neg hc1, if_pos hc8], N0, rfl⟩
set_option maxRecDepth 65536 in
set_option maxHeartbeats 40000000 in
theorem rm1_ttf (l : Launch) (Z : State) (a0 : Array Value) (hw : ∀ d ∈ tables_1, d.before a0 Z = true) (ws : List Jvm.Cond) (p1 : Int32) (q2 : Int64) (q3 : Int64) (h0 : Heap) (n0 : Nat) (Z0 : n0 ≤ h0.size) (hc1 : ¬ (p1 = (0 : Int32))) (hc8 : ¬ (p1 = (1 : Int32))) (hc15 : p1 = (2 : Int32)) :
    MetFree l (⟨"com/example/updrift/updrift/model/ReleaseNumberOfPinLaw", "pick", "(IJJ)J"⟩ : MethodName) (head1 (Jvm.Cond.code (⟨"com/example/updrift/updrift/model/ReleaseNumberOfPinLaw", "pick", "(IJJ)J"⟩ : MethodName) method_2_code 5 (some .long) :: ws) ({ frames := 0, cells := 0, slots := 0, locals := 0 } : Room)) (fun a U => a = #[(.int p1), (.long q2), (.long q3)] ∧ Z.Warmed39 U.vm ∧ U.heap = h0) (fun _ _ _ _ _ => True) (fun _ U o U' => ∃ v L, o = .returned v ∧ Q1 Z p1 q2 q3 h0 n0 v U'.heap L ∧ FrameEnd U o U' L ({ frames := 0, cells := 0, slots := 0, locals := 0 } : Room).cells ({ frames := 0, cells := 0, slots := 0, locals := 0 } : Room).slots) := by
  refine MetFree.of_bodySF (plainFor_of_name pn_1) hisR ?_
  intro p e s m args below meth c s₁ Bd hml0 hP hK
  obtain ⟨rfl, hZ, hh⟩ := hP
  have hx := Bd.exec
  have hby := Bd.bytes
  have hml : c.maxLocals = 5 := hml0
  have hown : s.vm.findClass "com/example/updrift/updrift/model/ReleaseNumberOfPinLaw" = some m.cls := findClass_of_methodNamed Bd.named
  have hnm := (name_of_methodNamed Bd.named Bd.method).1
  have X0 : Stand p l e ({ frames := 0, cells := 0, slots := 0, locals := 0 } : Room) s m #[(.int p1), (.long q2), (.long q3)] below meth c s₁ [] 0 0 := Stand.of_body Bd
  have e0 : s₁.heap = h0 := by rw [← hh, Bd.state]; rfl
  have N0 := Fr.nil n0
  have pre0 : ∀ t, Steps p.tables e below (s₁.setTop (mkF m 0 #[.val (.int p1), .val (.long q2), .second, .val (.long q3), .second] [])) t → Steps p.tables e below (s₁.setTop (entryFrame m #[(.int p1), (.long q2), (.long q3)] 5)) t := fun t k => castTop (ef_1 m p1 q2 q3) k

  obtain ⟨fs, hr, hrun, hended, hW, hsame⟩ := X0.leave (v := some (.long (0 : Int64))) (fun h => by rw [Bd.returns] at h; cases h)
  refine ⟨_, _, pre0 _ ?_, hrun, hended, _, _, rfl, ?_, ⟨_, rfl⟩, hW, hsame.mono (by decide) (by decide)⟩
  · show Steps p.tables e below (s₁.setTop (mkF m 0 #[.val (.int p1), .val (.long q2), .second, .val (.long q3), .second] [])) _
    refine XS.iloadN X0.here hx rfl (hb hby d1_0) rfl ?_
    show Steps p.tables e below (s₁.setTop (mkF m 1 #[.val (.int p1), .val (.long q2), .second, .val (.long q3), .second] [(.int p1)])) _
    refine XS.ifYes X0.here hx rfl (pc0 := 1) (pc' := 6) rfl (hb hby d1_1) rfl ((if0 _ _).trans (feq hc1).2) (by decide) (by decide) ?_
    show Steps p.tables e below (s₁.setTop (mkF m 6 #[.val (.int p1), .val (.long q2), .second, .val (.long q3), .second] [])) _
    refine XS.iloadN X0.here hx rfl (hb hby d1_6) rfl ?_
    show Steps p.tables e below (s₁.setTop (mkF m 7 #[.val (.int p1), .val (.long q2), .second, .val (.long q3), .second] [(.int p1)])) _
    refine XS.iconst X0.here hx rfl (hb hby d1_7) ?_
    show Steps p.tables e below (s₁.setTop (mkF m 8 #[.val (.int p1), .val (.long q2), .second, .val (.long q3), .second] [(.int (1 : Int32)), (.int p1)])) _
    refine XS.icmpYes X0.here hx rfl (pc0 := 8) (pc' := 13) rfl (hb hby d1_8) rfl (feq hc8).2 (by decide) (by decide) ?_
    show Steps p.tables e below (s₁.setTop (mkF m 13 #[.val (.int p1), .val (.long q2), .second, .val (.long q3), .second] [])) _
    refine XS.iloadN X0.here hx rfl (hb hby d1_13) rfl ?_
    show Steps p.tables e below (s₁.setTop (mkF m 14 #[.val (.int p1), .val (.long q2), .second, .val (.long q3), .second] [(.int p1)])) _
    refine XS.iconst X0.here hx rfl (hb hby d1_14) ?_
    show Steps p.tables e below (s₁.setTop (mkF m 15 #[.val (.int p1), .val (.long q2), .second, .val (.long q3), .second] [(.int (2 : Int32)), (.int p1)])) _
    refine XS.icmpNo X0.here hx rfl (hb hby d1_15) rfl (teq hc15).2 ?_
    show Steps p.tables e below (s₁.setTop (mkF m 18 #[.val (.int p1), .val (.long q2), .second, .val (.long q3), .second] [])) _
    refine XS.lconst X0.here hx rfl (hb hby d1_18) ?_
    show Steps p.tables e below (s₁.setTop (mkF m 19 #[.val (.int p1), .val (.long q2), .second, .val (.long q3), .second] [(.long (0 : Int64))])) _
    jvm_step X0.here [X0.here.top, hx, (hb hby d1_19), X0.method', Bd.returns, narrow]
    first | (intro acts; rw [hr _ acts rfl rfl rfl]) | rw [hr _ _ rfl rfl rfl]
    exact Steps.refl _
  · show Q1 Z p1 q2 q3 h0 n0 _ s₁.heap _
    rw [e0]
    exact ⟨by unfold own_pick; rw [if_neg hc1, if_neg hc8, if_pos hc15], N0, rfl⟩
set_option maxRecDepth 65536 in
set_option maxHeartbeats 40000000 in
theorem rm1_ttt (l : Launch) (Z : State) (a0 : Array Value) (hw : ∀ d ∈ tables_1, d.before a0 Z = true) (ws : List Jvm.Cond) (p1 : Int32) (q2 : Int64) (q3 : Int64) (h0 : Heap) (n0 : Nat) (Z0 : n0 ≤ h0.size) (hc1 : ¬ (p1 = (0 : Int32))) (hc8 : ¬ (p1 = (1 : Int32))) (hc15 : ¬ (p1 = (2 : Int32))) :
    MetFree l (⟨"com/example/updrift/updrift/model/ReleaseNumberOfPinLaw", "pick", "(IJJ)J"⟩ : MethodName) (head1 (Jvm.Cond.code (⟨"com/example/updrift/updrift/model/ReleaseNumberOfPinLaw", "pick", "(IJJ)J"⟩ : MethodName) method_2_code 5 (some .long) :: ws) ({ frames := 0, cells := 0, slots := 0, locals := 0 } : Room)) (fun a U => a = #[(.int p1), (.long q2), (.long q3)] ∧ Z.Warmed39 U.vm ∧ U.heap = h0) (fun _ _ _ _ _ => True) (fun _ U o U' => ∃ v L, o = .returned v ∧ Q1 Z p1 q2 q3 h0 n0 v U'.heap L ∧ FrameEnd U o U' L ({ frames := 0, cells := 0, slots := 0, locals := 0 } : Room).cells ({ frames := 0, cells := 0, slots := 0, locals := 0 } : Room).slots) := by
  refine MetFree.of_bodySF (plainFor_of_name pn_1) hisR ?_
  intro p e s m args below meth c s₁ Bd hml0 hP hK
  obtain ⟨rfl, hZ, hh⟩ := hP
  have hx := Bd.exec
  have hby := Bd.bytes
  have hml : c.maxLocals = 5 := hml0
  have hown : s.vm.findClass "com/example/updrift/updrift/model/ReleaseNumberOfPinLaw" = some m.cls := findClass_of_methodNamed Bd.named
  have hnm := (name_of_methodNamed Bd.named Bd.method).1
  have X0 : Stand p l e ({ frames := 0, cells := 0, slots := 0, locals := 0 } : Room) s m #[(.int p1), (.long q2), (.long q3)] below meth c s₁ [] 0 0 := Stand.of_body Bd
  have e0 : s₁.heap = h0 := by rw [← hh, Bd.state]; rfl
  have N0 := Fr.nil n0
  have pre0 : ∀ t, Steps p.tables e below (s₁.setTop (mkF m 0 #[.val (.int p1), .val (.long q2), .second, .val (.long q3), .second] [])) t → Steps p.tables e below (s₁.setTop (entryFrame m #[(.int p1), (.long q2), (.long q3)] 5)) t := fun t k => castTop (ef_1 m p1 q2 q3) k

  obtain ⟨fs, hr, hrun, hended, hW, hsame⟩ := X0.leave (v := some (.long (q2 ^^^ (1 : Int64)))) (fun h => by rw [Bd.returns] at h; cases h)
  refine ⟨_, _, pre0 _ ?_, hrun, hended, _, _, rfl, ?_, ⟨_, rfl⟩, hW, hsame.mono (by decide) (by decide)⟩
  · show Steps p.tables e below (s₁.setTop (mkF m 0 #[.val (.int p1), .val (.long q2), .second, .val (.long q3), .second] [])) _
    refine XS.iloadN X0.here hx rfl (hb hby d1_0) rfl ?_
    show Steps p.tables e below (s₁.setTop (mkF m 1 #[.val (.int p1), .val (.long q2), .second, .val (.long q3), .second] [(.int p1)])) _
    refine XS.ifYes X0.here hx rfl (pc0 := 1) (pc' := 6) rfl (hb hby d1_1) rfl ((if0 _ _).trans (feq hc1).2) (by decide) (by decide) ?_
    show Steps p.tables e below (s₁.setTop (mkF m 6 #[.val (.int p1), .val (.long q2), .second, .val (.long q3), .second] [])) _
    refine XS.iloadN X0.here hx rfl (hb hby d1_6) rfl ?_
    show Steps p.tables e below (s₁.setTop (mkF m 7 #[.val (.int p1), .val (.long q2), .second, .val (.long q3), .second] [(.int p1)])) _
    refine XS.iconst X0.here hx rfl (hb hby d1_7) ?_
    show Steps p.tables e below (s₁.setTop (mkF m 8 #[.val (.int p1), .val (.long q2), .second, .val (.long q3), .second] [(.int (1 : Int32)), (.int p1)])) _
    refine XS.icmpYes X0.here hx rfl (pc0 := 8) (pc' := 13) rfl (hb hby d1_8) rfl (feq hc8).2 (by decide) (by decide) ?_
    show Steps p.tables e below (s₁.setTop (mkF m 13 #[.val (.int p1), .val (.long q2), .second, .val (.long q3), .second] [])) _
    refine XS.iloadN X0.here hx rfl (hb hby d1_13) rfl ?_
    show Steps p.tables e below (s₁.setTop (mkF m 14 #[.val (.int p1), .val (.long q2), .second, .val (.long q3), .second] [(.int p1)])) _
    refine XS.iconst X0.here hx rfl (hb hby d1_14) ?_
    show Steps p.tables e below (s₁.setTop (mkF m 15 #[.val (.int p1), .val (.long q2), .second, .val (.long q3), .second] [(.int (2 : Int32)), (.int p1)])) _
    refine XS.icmpYes X0.here hx rfl (pc0 := 15) (pc' := 20) rfl (hb hby d1_15) rfl (feq hc15).2 (by decide) (by decide) ?_
    show Steps p.tables e below (s₁.setTop (mkF m 20 #[.val (.int p1), .val (.long q2), .second, .val (.long q3), .second] [])) _
    refine XS.lloadN X0.here hx rfl (hb hby d1_20) rfl ?_
    show Steps p.tables e below (s₁.setTop (mkF m 21 #[.val (.int p1), .val (.long q2), .second, .val (.long q3), .second] [(.long q2)])) _
    refine XS.lconst X0.here hx rfl (hb hby d1_21) ?_
    show Steps p.tables e below (s₁.setTop (mkF m 22 #[.val (.int p1), .val (.long q2), .second, .val (.long q3), .second] [(.long (1 : Int64)), (.long q2)])) _
    refine XS.lxor X0.here hx rfl (hb hby d1_22) rfl ?_
    show Steps p.tables e below (s₁.setTop (mkF m 23 #[.val (.int p1), .val (.long q2), .second, .val (.long q3), .second] [(.long (q2 ^^^ (1 : Int64)))])) _
    jvm_step X0.here [X0.here.top, hx, (hb hby d1_23), X0.method', Bd.returns, narrow]
    first | (intro acts; rw [hr _ acts rfl rfl rfl]) | rw [hr _ _ rfl rfl rfl]
    exact Steps.refl _
  · show Q1 Z p1 q2 q3 h0 n0 _ s₁.heap _
    rw [e0]
    exact ⟨by unfold own_pick; rw [if_neg hc1, if_neg hc8, if_neg hc15], N0, rfl⟩
theorem rm1 (l : Launch) (Z : State) (a0 : Array Value) (hw : ∀ d ∈ tables_1, d.before a0 Z = true) (ws : List Jvm.Cond) (p1 : Int32) (q2 : Int64) (q3 : Int64) (h0 : Heap) (n0 : Nat) (Z0 : n0 ≤ h0.size) :
    MetFree l (⟨"com/example/updrift/updrift/model/ReleaseNumberOfPinLaw", "pick", "(IJJ)J"⟩ : MethodName) (head1 (Jvm.Cond.code (⟨"com/example/updrift/updrift/model/ReleaseNumberOfPinLaw", "pick", "(IJJ)J"⟩ : MethodName) method_2_code 5 (some .long) :: ws) ({ frames := 0, cells := 0, slots := 0, locals := 0 } : Room)) (fun a U => a = #[(.int p1), (.long q2), (.long q3)] ∧ Z.Warmed39 U.vm ∧ U.heap = h0) (fun _ _ _ _ _ => True) (fun _ U o U' => ∃ v L, o = .returned v ∧ Q1 Z p1 q2 q3 h0 n0 v U'.heap L ∧ FrameEnd U o U' L ({ frames := 0, cells := 0, slots := 0, locals := 0 } : Room).cells ({ frames := 0, cells := 0, slots := 0, locals := 0 } : Room).slots) := by
  by_cases hc1 : p1 = (0 : Int32)
  · exact rm1_f l Z a0 hw ws p1 q2 q3 h0 n0 Z0 hc1
  · by_cases hc8 : p1 = (1 : Int32)
    · exact rm1_tf l Z a0 hw ws p1 q2 q3 h0 n0 Z0 hc1 hc8
    · by_cases hc15 : p1 = (2 : Int32)
      · exact rm1_ttf l Z a0 hw ws p1 q2 q3 h0 n0 Z0 hc1 hc8 hc15
      · exact rm1_ttt l Z a0 hw ws p1 q2 q3 h0 n0 Z0 hc1 hc8 hc15

theorem d5_0 : decode method_3_code 0 = .ok (.lload_n 0, 1) := by decide +kernel
theorem d5_1 : decode method_3_code 1 = .ok (.lload_n 2, 1) := by decide +kernel
theorem d5_2 : decode method_3_code 2 = .ok (.lcmp, 1) := by decide +kernel
theorem d5_3 : decode method_3_code 3 = .ok (.ifCond .ge 5, 3) := by decide +kernel
theorem d5_6 : decode method_3_code 6 = .ok (.iconst (-1), 1) := by decide +kernel
theorem d5_7 : decode method_3_code 7 = .ok (.ireturn, 1) := by decide +kernel
theorem pn_5 : plainName "com/example/updrift/updrift/model/ReleaseNumberOfPinLaw" = true := by first | (simp [plainName, overriddenIn]; done) | decide +kernel
theorem ef_5 (m : MethodId) (x0 : Int64) (x1 : Int64) : entryFrame m #[(.long x0), (.long x1)] 4 = mkF m 0 #[.val (.long x0), .second, .val (.long x1), .second] [] := by first | (simp [entryFrame, mkF, argsToLocals, Value.category]; done) | rfl
theorem d5_8 : decode method_3_code 8 = .ok (.lload_n 0, 1) := by decide +kernel
theorem d5_9 : decode method_3_code 9 = .ok (.lload_n 2, 1) := by decide +kernel
theorem d5_10 : decode method_3_code 10 = .ok (.lcmp, 1) := by decide +kernel
theorem d5_11 : decode method_3_code 11 = .ok (.ifCond .le 5, 3) := by decide +kernel
theorem d5_14 : decode method_3_code 14 = .ok (.iconst 1, 1) := by decide +kernel
theorem d5_15 : decode method_3_code 15 = .ok (.ireturn, 1) := by decide +kernel
theorem d5_16 : decode method_3_code 16 = .ok (.iconst 0, 1) := by decide +kernel
theorem d5_17 : decode method_3_code 17 = .ok (.ireturn, 1) := by decide +kernel
def Q5 (Z : State) (q1 : Int64) (q2 : Int64) (h0 : Heap) (n0 : Nat) (v : Option Value) (h : Heap) (L : List Loc) : Prop := v = some (.int (own_cmp q1 q2)) ∧ Fr n0 L ∧ h = h0
set_option maxRecDepth 65536 in
set_option maxHeartbeats 40000000 in
theorem rm5_f (l : Launch) (Z : State) (a0 : Array Value) (hw : ∀ d ∈ tables_1, d.before a0 Z = true) (ws : List Jvm.Cond) (q1 : Int64) (q2 : Int64) (h0 : Heap) (n0 : Nat) (Z0 : n0 ≤ h0.size) (hc3 : (lcmpW q1 q2) < (0 : Int32)) :
    MetFree l (⟨"com/example/updrift/updrift/model/ReleaseNumberOfPinLaw", "cmp", "(JJ)I"⟩ : MethodName) (head1 (Jvm.Cond.code (⟨"com/example/updrift/updrift/model/ReleaseNumberOfPinLaw", "cmp", "(JJ)I"⟩ : MethodName) method_3_code 4 (some .int) :: ws) ({ frames := 0, cells := 0, slots := 0, locals := 0 } : Room)) (fun a U => a = #[(.long q1), (.long q2)] ∧ Z.Warmed39 U.vm ∧ U.heap = h0) (fun _ _ _ _ _ => True) (fun _ U o U' => ∃ v L, o = .returned v ∧ Q5 Z q1 q2 h0 n0 v U'.heap L ∧ FrameEnd U o U' L ({ frames := 0, cells := 0, slots := 0, locals := 0 } : Room).cells ({ frames := 0, cells := 0, slots := 0, locals := 0 } : Room).slots) := by
  refine MetFree.of_bodySF (plainFor_of_name pn_5) hisR ?_
  intro p e s m args below meth c s₁ Bd hml0 hP hK
  obtain ⟨rfl, hZ, hh⟩ := hP
  have hx := Bd.exec
  have hby := Bd.bytes
  have hml : c.maxLocals = 4 := hml0
  have hown : s.vm.findClass "com/example/updrift/updrift/model/ReleaseNumberOfPinLaw" = some m.cls := findClass_of_methodNamed Bd.named
  have hnm := (name_of_methodNamed Bd.named Bd.method).1
  have X0 : Stand p l e ({ frames := 0, cells := 0, slots := 0, locals := 0 } : Room) s m #[(.long q1), (.long q2)] below meth c s₁ [] 0 0 := Stand.of_body Bd
  have e0 : s₁.heap = h0 := by rw [← hh, Bd.state]; rfl
  have N0 := Fr.nil n0
  have pre0 : ∀ t, Steps p.tables e below (s₁.setTop (mkF m 0 #[.val (.long q1), .second, .val (.long q2), .second] [])) t → Steps p.tables e below (s₁.setTop (entryFrame m #[(.long q1), (.long q2)] 4)) t := fun t k => castTop (ef_5 m q1 q2) k

  obtain ⟨fs, hr, hrun, hended, hW, hsame⟩ := X0.leave (v := some (.int (-1 : Int32))) (fun h => by rw [Bd.returns] at h; cases h)
  refine ⟨_, _, pre0 _ ?_, hrun, hended, _, _, rfl, ?_, ⟨_, rfl⟩, hW, hsame.mono (by decide) (by decide)⟩
  · show Steps p.tables e below (s₁.setTop (mkF m 0 #[.val (.long q1), .second, .val (.long q2), .second] [])) _
    refine XS.lloadN X0.here hx rfl (hb hby d5_0) rfl ?_
    show Steps p.tables e below (s₁.setTop (mkF m 1 #[.val (.long q1), .second, .val (.long q2), .second] [(.long q1)])) _
    refine XS.lloadN X0.here hx rfl (hb hby d5_1) rfl ?_
    show Steps p.tables e below (s₁.setTop (mkF m 2 #[.val (.long q1), .second, .val (.long q2), .second] [(.long q2), (.long q1)])) _
    refine XS.lcmp X0.here hx rfl (hb hby d5_2) rfl ?_
    show Steps p.tables e below (s₁.setTop (mkF m 3 #[.val (.long q1), .second, .val (.long q2), .second] [(.int (lcmpW q1 q2))])) _
    refine XS.ifNo X0.here hx rfl (hb hby d5_3) rfl ((if0 _ _).trans (tlt hc3).2.1) ?_
    show Steps p.tables e below (s₁.setTop (mkF m 6 #[.val (.long q1), .second, .val (.long q2), .second] [])) _
    refine XS.iconst X0.here hx rfl (hb hby d5_6) ?_
    show Steps p.tables e below (s₁.setTop (mkF m 7 #[.val (.long q1), .second, .val (.long q2), .second] [(.int (-1 : Int32))])) _
    exact retI X0 hx Bd.returns (hb hby d5_7) hr
  · show Q5 Z q1 q2 h0 n0 _ s₁.heap _
    rw [e0]
    exact ⟨by unfold own_cmp; rw [if_pos hc3], N0, rfl⟩
set_option maxRecDepth 65536 in
set_option maxHeartbeats 40000000 in
theorem rm5_tf (l : Launch) (Z : State) (a0 : Array Value) (hw : ∀ d ∈ tables_1, d.before a0 Z = true) (ws : List Jvm.Cond) (q1 : Int64) (q2 : Int64) (h0 : Heap) (n0 : Nat) (Z0 : n0 ≤ h0.size) (hc3 : ¬ ((lcmpW q1 q2) < (0 : Int32))) (hc11 : (0 : Int32) < (lcmpW q1 q2)) :
    MetFree l (⟨"com/example/updrift/updrift/model/ReleaseNumberOfPinLaw", "cmp", "(JJ)I"⟩ : MethodName) (head1 (Jvm.Cond.code (⟨"com/example/updrift/updrift/model/ReleaseNumberOfPinLaw", "cmp", "(JJ)I"⟩ : MethodName) method_3_code 4 (some .int) :: ws) ({ frames := 0, cells := 0, slots := 0, locals := 0 } : Room)) (fun a U => a = #[(.long q1), (.long q2)] ∧ Z.Warmed39 U.vm ∧ U.heap = h0) (fun _ _ _ _ _ => True) (fun _ U o U' => ∃ v L, o = .returned v ∧ Q5 Z q1 q2 h0 n0 v U'.heap L ∧ FrameEnd U o U' L ({ frames := 0, cells := 0, slots := 0, locals := 0 } : Room).cells ({ frames := 0, cells := 0, slots := 0, locals := 0 } : Room).slots) := by
  refine MetFree.of_bodySF (plainFor_of_name pn_5) hisR ?_
  intro p e s m args below meth c s₁ Bd hml0 hP hK
  obtain ⟨rfl, hZ, hh⟩ := hP
  have hx := Bd.exec
  have hby := Bd.bytes
  have hml : c.maxLocals = 4 := hml0
  have hown : s.vm.findClass "com/example/updrift/updrift/model/ReleaseNumberOfPinLaw" = some m.cls := findClass_of_methodNamed Bd.named
  have hnm := (name_of_methodNamed Bd.named Bd.method).1
  have X0 : Stand p l e ({ frames := 0, cells := 0, slots := 0, locals := 0 } : Room) s m #[(.long q1), (.long q2)] below meth c s₁ [] 0 0 := Stand.of_body Bd
  have e0 : s₁.heap = h0 := by rw [← hh, Bd.state]; rfl
  have N0 := Fr.nil n0
  have pre0 : ∀ t, Steps p.tables e below (s₁.setTop (mkF m 0 #[.val (.long q1), .second, .val (.long q2), .second] [])) t → Steps p.tables e below (s₁.setTop (entryFrame m #[(.long q1), (.long q2)] 4)) t := fun t k => castTop (ef_5 m q1 q2) k

  obtain ⟨fs, hr, hrun, hended, hW, hsame⟩ := X0.leave (v := some (.int (1 : Int32))) (fun h => by rw [Bd.returns] at h; cases h)
  refine ⟨_, _, pre0 _ ?_, hrun, hended, _, _, rfl, ?_, ⟨_, rfl⟩, hW, hsame.mono (by decide) (by decide)⟩
  · show Steps p.tables e below (s₁.setTop (mkF m 0 #[.val (.long q1), .second, .val (.long q2), .second] [])) _
    refine XS.lloadN X0.here hx rfl (hb hby d5_0) rfl ?_
    show Steps p.tables e below (s₁.setTop (mkF m 1 #[.val (.long q1), .second, .val (.long q2), .second] [(.long q1)])) _
    refine XS.lloadN X0.here hx rfl (hb hby d5_1) rfl ?_
    show Steps p.tables e below (s₁.setTop (mkF m 2 #[.val (.long q1), .second, .val (.long q2), .second] [(.long q2), (.long q1)])) _
    refine XS.lcmp X0.here hx rfl (hb hby d5_2) rfl ?_
    show Steps p.tables e below (s₁.setTop (mkF m 3 #[.val (.long q1), .second, .val (.long q2), .second] [(.int (lcmpW q1 q2))])) _
    refine XS.ifYes X0.here hx rfl (pc0 := 3) (pc' := 8) rfl (hb hby d5_3) rfl ((if0 _ _).trans (flt hc3).2.1) (by decide) (by decide) ?_
    show Steps p.tables e below (s₁.setTop (mkF m 8 #[.val (.long q1), .second, .val (.long q2), .second] [])) _
    refine XS.lloadN X0.here hx rfl (hb hby d5_8) rfl ?_
    show Steps p.tables e below (s₁.setTop (mkF m 9 #[.val (.long q1), .second, .val (.long q2), .second] [(.long q1)])) _
    refine XS.lloadN X0.here hx rfl (hb hby d5_9) rfl ?_
    show Steps p.tables e below (s₁.setTop (mkF m 10 #[.val (.long q1), .second, .val (.long q2), .second] [(.long q2), (.long q1)])) _
    refine XS.lcmp X0.here hx rfl (hb hby d5_10) rfl ?_
    show Steps p.tables e below (s₁.setTop (mkF m 11 #[.val (.long q1), .second, .val (.long q2), .second] [(.int (lcmpW q1 q2))])) _
    refine XS.ifNo X0.here hx rfl (hb hby d5_11) rfl ((if0 _ _).trans (tlt hc11).2.2.2) ?_
    show Steps p.tables e below (s₁.setTop (mkF m 14 #[.val (.long q1), .second, .val (.long q2), .second] [])) _
    refine XS.iconst X0.here hx rfl (hb hby d5_14) ?_
    show Steps p.tables e below (s₁.setTop (mkF m 15 #[.val (.long q1), .second, .val (.long q2), .second] [(.int (1 : Int32))])) _
    exact retI X0 hx Bd.returns (hb hby d5_15) hr
  · show Q5 Z q1 q2 h0 n0 _ s₁.heap _
    rw [e0]
    exact ⟨by unfold own_cmp; rw [if_neg hc3, if_pos hc11], N0, rfl⟩
set_option maxRecDepth 65536 in
set_option maxHeartbeats 40000000 in
theorem rm5_tt (l : Launch) (Z : State) (a0 : Array Value) (hw : ∀ d ∈ tables_1, d.before a0 Z = true) (ws : List Jvm.Cond) (q1 : Int64) (q2 : Int64) (h0 : Heap) (n0 : Nat) (Z0 : n0 ≤ h0.size) (hc3 : ¬ ((lcmpW q1 q2) < (0 : Int32))) (hc11 : ¬ ((0 : Int32) < (lcmpW q1 q2))) :
    MetFree l (⟨"com/example/updrift/updrift/model/ReleaseNumberOfPinLaw", "cmp", "(JJ)I"⟩ : MethodName) (head1 (Jvm.Cond.code (⟨"com/example/updrift/updrift/model/ReleaseNumberOfPinLaw", "cmp", "(JJ)I"⟩ : MethodName) method_3_code 4 (some .int) :: ws) ({ frames := 0, cells := 0, slots := 0, locals := 0 } : Room)) (fun a U => a = #[(.long q1), (.long q2)] ∧ Z.Warmed39 U.vm ∧ U.heap = h0) (fun _ _ _ _ _ => True) (fun _ U o U' => ∃ v L, o = .returned v ∧ Q5 Z q1 q2 h0 n0 v U'.heap L ∧ FrameEnd U o U' L ({ frames := 0, cells := 0, slots := 0, locals := 0 } : Room).cells ({ frames := 0, cells := 0, slots := 0, locals := 0 } : Room).slots) := by
  refine MetFree.of_bodySF (plainFor_of_name pn_5) hisR ?_
  intro p e s m args below meth c s₁ Bd hml0 hP hK
  obtain ⟨rfl, hZ, hh⟩ := hP
  have hx := Bd.exec
  have hby := Bd.bytes
  have hml : c.maxLocals = 4 := hml0
  have hown : s.vm.findClass "com/example/updrift/updrift/model/ReleaseNumberOfPinLaw" = some m.cls := findClass_of_methodNamed Bd.named
  have hnm := (name_of_methodNamed Bd.named Bd.method).1
  have X0 : Stand p l e ({ frames := 0, cells := 0, slots := 0, locals := 0 } : Room) s m #[(.long q1), (.long q2)] below meth c s₁ [] 0 0 := Stand.of_body Bd
  have e0 : s₁.heap = h0 := by rw [← hh, Bd.state]; rfl
  have N0 := Fr.nil n0
  have pre0 : ∀ t, Steps p.tables e below (s₁.setTop (mkF m 0 #[.val (.long q1), .second, .val (.long q2), .second] [])) t → Steps p.tables e below (s₁.setTop (entryFrame m #[(.long q1), (.long q2)] 4)) t := fun t k => castTop (ef_5 m q1 q2) k

  obtain ⟨fs, hr, hrun, hended, hW, hsame⟩ := X0.leave (v := some (.int (0 : Int32))) (fun h => by rw [Bd.returns] at h; cases h)
  refine ⟨_, _, pre0 _ ?_, hrun, hended, _, _, rfl, ?_, ⟨_, rfl⟩, hW, hsame.mono (by decide) (by decide)⟩
  · show Steps p.tables e below (s₁.setTop (mkF m 0 #[.val (.long q1), .second, .val (.long q2), .second] [])) _
    refine XS.lloadN X0.here hx rfl (hb hby d5_0) rfl ?_
    show Steps p.tables e below (s₁.setTop (mkF m 1 #[.val (.long q1), .second, .val (.long q2), .second] [(.long q1)])) _
    refine XS.lloadN X0.here hx rfl (hb hby d5_1) rfl ?_
    show Steps p.tables e below (s₁.setTop (mkF m 2 #[.val (.long q1), .second, .val (.long q2), .second] [(.long q2), (.long q1)])) _
    refine XS.lcmp X0.here hx rfl (hb hby d5_2) rfl ?_
    show Steps p.tables e below (s₁.setTop (mkF m 3 #[.val (.long q1), .second, .val (.long q2), .second] [(.int (lcmpW q1 q2))])) _
    refine XS.ifYes X0.here hx rfl (pc0 := 3) (pc' := 8) rfl (hb hby d5_3) rfl ((if0 _ _).trans (flt hc3).2.1) (by decide) (by decide) ?_
    show Steps p.tables e below (s₁.setTop (mkF m 8 #[.val (.long q1), .second, .val (.long q2), .second] [])) _
    refine XS.lloadN X0.here hx rfl (hb hby d5_8) rfl ?_
    show Steps p.tables e below (s₁.setTop (mkF m 9 #[.val (.long q1), .second, .val (.long q2), .second] [(.long q1)])) _
    refine XS.lloadN X0.here hx rfl (hb hby d5_9) rfl ?_
    show Steps p.tables e below (s₁.setTop (mkF m 10 #[.val (.long q1), .second, .val (.long q2), .second] [(.long q2), (.long q1)])) _
    refine XS.lcmp X0.here hx rfl (hb hby d5_10) rfl ?_
    show Steps p.tables e below (s₁.setTop (mkF m 11 #[.val (.long q1), .second, .val (.long q2), .second] [(.int (lcmpW q1 q2))])) _
    refine XS.ifYes X0.here hx rfl (pc0 := 11) (pc' := 16) rfl (hb hby d5_11) rfl ((if0 _ _).trans (flt hc11).2.2.2) (by decide) (by decide) ?_
    show Steps p.tables e below (s₁.setTop (mkF m 16 #[.val (.long q1), .second, .val (.long q2), .second] [])) _
    refine XS.iconst X0.here hx rfl (hb hby d5_16) ?_
    show Steps p.tables e below (s₁.setTop (mkF m 17 #[.val (.long q1), .second, .val (.long q2), .second] [(.int (0 : Int32))])) _
    exact retI X0 hx Bd.returns (hb hby d5_17) hr
  · show Q5 Z q1 q2 h0 n0 _ s₁.heap _
    rw [e0]
    exact ⟨by unfold own_cmp; rw [if_neg hc3, if_neg hc11], N0, rfl⟩
theorem rm5 (l : Launch) (Z : State) (a0 : Array Value) (hw : ∀ d ∈ tables_1, d.before a0 Z = true) (ws : List Jvm.Cond) (q1 : Int64) (q2 : Int64) (h0 : Heap) (n0 : Nat) (Z0 : n0 ≤ h0.size) :
    MetFree l (⟨"com/example/updrift/updrift/model/ReleaseNumberOfPinLaw", "cmp", "(JJ)I"⟩ : MethodName) (head1 (Jvm.Cond.code (⟨"com/example/updrift/updrift/model/ReleaseNumberOfPinLaw", "cmp", "(JJ)I"⟩ : MethodName) method_3_code 4 (some .int) :: ws) ({ frames := 0, cells := 0, slots := 0, locals := 0 } : Room)) (fun a U => a = #[(.long q1), (.long q2)] ∧ Z.Warmed39 U.vm ∧ U.heap = h0) (fun _ _ _ _ _ => True) (fun _ U o U' => ∃ v L, o = .returned v ∧ Q5 Z q1 q2 h0 n0 v U'.heap L ∧ FrameEnd U o U' L ({ frames := 0, cells := 0, slots := 0, locals := 0 } : Room).cells ({ frames := 0, cells := 0, slots := 0, locals := 0 } : Room).slots) := by
  by_cases hc3 : (lcmpW q1 q2) < (0 : Int32)
  · exact rm5_f l Z a0 hw ws q1 q2 h0 n0 Z0 hc3
  · by_cases hc11 : (0 : Int32) < (lcmpW q1 q2)
    · exact rm5_tf l Z a0 hw ws q1 q2 h0 n0 Z0 hc3 hc11
    · exact rm5_tt l Z a0 hw ws q1 q2 h0 n0 Z0 hc3 hc11

theorem d11_0 : decode method_4_code 0 = .ok (.iload_n 0, 1) := by decide +kernel
theorem d11_1 : decode method_4_code 1 = .ok (.ifCond .ge 5, 3) := by decide +kernel
theorem d11_4 : decode method_4_code 4 = .ok (.iconst (-1), 1) := by decide +kernel
theorem d11_5 : decode method_4_code 5 = .ok (.ireturn, 1) := by decide +kernel
theorem pn_11 : plainName "com/example/updrift/updrift/model/ReleaseNumberOfPinLaw" = true := by first | (simp [plainName, overriddenIn]; done) | decide +kernel
theorem ef_11 (m : MethodId) (x0 : Int32) : entryFrame m #[(.int x0)] 1 = mkF m 0 #[.val (.int x0)] [] := by first | (simp [entryFrame, mkF, argsToLocals, Value.category]; done) | rfl
theorem d11_6 : decode method_4_code 6 = .ok (.iload_n 0, 1) := by decide +kernel
theorem d11_7 : decode method_4_code 7 = .ok (.ifCond .le 5, 3) := by decide +kernel
theorem d11_10 : decode method_4_code 10 = .ok (.iconst 1, 1) := by decide +kernel
theorem d11_11 : decode method_4_code 11 = .ok (.ireturn, 1) := by decide +kernel
theorem d11_12 : decode method_4_code 12 = .ok (.iconst 0, 1) := by decide +kernel
theorem d11_13 : decode method_4_code 13 = .ok (.ireturn, 1) := by decide +kernel
def Q11 (Z : State) (p1 : Int32) (h0 : Heap) (n0 : Nat) (v : Option Value) (h : Heap) (L : List Loc) : Prop := v = some (.int (own_sgn p1)) ∧ Fr n0 L ∧ h = h0
set_option maxRecDepth 65536 in
set_option maxHeartbeats 40000000 in
theorem rm11_f (l : Launch) (Z : State) (a0 : Array Value) (hw : ∀ d ∈ tables_1, d.before a0 Z = true) (ws : List Jvm.Cond) (p1 : Int32) (h0 : Heap) (n0 : Nat) (Z0 : n0 ≤ h0.size) (hc1 : p1 < (0 : Int32)) :
    MetFree l (⟨"com/example/updrift/updrift/model/ReleaseNumberOfPinLaw", "sgn", "(I)I"⟩ : MethodName) (head1 (Jvm.Cond.code (⟨"com/example/updrift/updrift/model/ReleaseNumberOfPinLaw", "sgn", "(I)I"⟩ : MethodName) method_4_code 1 (some .int) :: ws) ({ frames := 0, cells := 0, slots := 0, locals := 0 } : Room)) (fun a U => a = #[(.int p1)] ∧ Z.Warmed39 U.vm ∧ U.heap = h0) (fun _ _ _ _ _ => True) (fun _ U o U' => ∃ v L, o = .returned v ∧ Q11 Z p1 h0 n0 v U'.heap L ∧ FrameEnd U o U' L ({ frames := 0, cells := 0, slots := 0, locals := 0 } : Room).cells ({ frames := 0, cells := 0, slots := 0, locals := 0 } : Room).slots) := by
  refine MetFree.of_bodySF (plainFor_of_name pn_11) hisR ?_
  intro p e s m args below meth c s₁ Bd hml0 hP hK
  obtain ⟨rfl, hZ, hh⟩ := hP
  have hx := Bd.exec
  have hby := Bd.bytes
  have hml : c.maxLocals = 1 := hml0
  have hown : s.vm.findClass "com/example/updrift/updrift/model/ReleaseNumberOfPinLaw" = some m.cls := findClass_of_methodNamed Bd.named
  have hnm := (name_of_methodNamed Bd.named Bd.method).1
  have X0 : Stand p l e ({ frames := 0, cells := 0, slots := 0, locals := 0 } : Room) s m #[(.int p1)] below meth c s₁ [] 0 0 := Stand.of_body Bd
  have e0 : s₁.heap = h0 := by rw [← hh, Bd.state]; rfl
  have N0 := Fr.nil n0
  have pre0 : ∀ t, Steps p.tables e below (s₁.setTop (mkF m 0 #[.val (.int p1)] [])) t → Steps p.tables e below (s₁.setTop (entryFrame m #[(.int p1)] 1)) t := fun t k => castTop (ef_11 m p1) k

  obtain ⟨fs, hr, hrun, hended, hW, hsame⟩ := X0.leave (v := some (.int (-1 : Int32))) (fun h => by rw [Bd.returns] at h; cases h)
  refine ⟨_, _, pre0 _ ?_, hrun, hended, _, _, rfl, ?_, ⟨_, rfl⟩, hW, hsame.mono (by decide) (by decide)⟩
  · show Steps p.tables e below (s₁.setTop (mkF m 0 #[.val (.int p1)] [])) _
    refine XS.iloadN X0.here hx rfl (hb hby d11_0) rfl ?_
    show Steps p.tables e below (s₁.setTop (mkF m 1 #[.val (.int p1)] [(.int p1)])) _
    refine XS.ifNo X0.here hx rfl (hb hby d11_1) rfl ((if0 _ _).trans (tlt hc1).2.1) ?_
    show Steps p.tables e below (s₁.setTop (mkF m 4 #[.val (.int p1)] [])) _
    refine XS.iconst X0.here hx rfl (hb hby d11_4) ?_
    show Steps p.tables e below (s₁.setTop (mkF m 5 #[.val (.int p1)] [(.int (-1 : Int32))])) _
    exact retI X0 hx Bd.returns (hb hby d11_5) hr
  · show Q11 Z p1 h0 n0 _ s₁.heap _
    rw [e0]
    exact ⟨by unfold own_sgn; rw [if_pos hc1], N0, rfl⟩
set_option maxRecDepth 65536 in
set_option maxHeartbeats 40000000 in
theorem rm11_tf (l : Launch) (Z : State) (a0 : Array Value) (hw : ∀ d ∈ tables_1, d.before a0 Z = true) (ws : List Jvm.Cond) (p1 : Int32) (h0 : Heap) (n0 : Nat) (Z0 : n0 ≤ h0.size) (hc1 : ¬ (p1 < (0 : Int32))) (hc7 : (0 : Int32) < p1) :
    MetFree l (⟨"com/example/updrift/updrift/model/ReleaseNumberOfPinLaw", "sgn", "(I)I"⟩ : MethodName) (head1 (Jvm.Cond.code (⟨"com/example/updrift/updrift/model/ReleaseNumberOfPinLaw", "sgn", "(I)I"⟩ : MethodName) method_4_code 1 (some .int) :: ws) ({ frames := 0, cells := 0, slots := 0, locals := 0 } : Room)) (fun a U => a = #[(.int p1)] ∧ Z.Warmed39 U.vm ∧ U.heap = h0) (fun _ _ _ _ _ => True) (fun _ U o U' => ∃ v L, o = .returned v ∧ Q11 Z p1 h0 n0 v U'.heap L ∧ FrameEnd U o U' L ({ frames := 0, cells := 0, slots := 0, locals := 0 } : Room).cells ({ frames := 0, cells := 0, slots := 0, locals := 0 } : Room).slots) := by
  refine MetFree.of_bodySF (plainFor_of_name pn_11) hisR ?_
  intro p e s m args below meth c s₁ Bd hml0 hP hK
  obtain ⟨rfl, hZ, hh⟩ := hP
  have hx := Bd.exec
  have hby := Bd.bytes
  have hml : c.maxLocals = 1 := hml0
  have hown : s.vm.findClass "com/example/updrift/updrift/model/ReleaseNumberOfPinLaw" = some m.cls := findClass_of_methodNamed Bd.named
  have hnm := (name_of_methodNamed Bd.named Bd.method).1
  have X0 : Stand p l e ({ frames := 0, cells := 0, slots := 0, locals := 0 } : Room) s m #[(.int p1)] below meth c s₁ [] 0 0 := Stand.of_body Bd
  have e0 : s₁.heap = h0 := by rw [← hh, Bd.state]; rfl
  have N0 := Fr.nil n0
  have pre0 : ∀ t, Steps p.tables e below (s₁.setTop (mkF m 0 #[.val (.int p1)] [])) t → Steps p.tables e below (s₁.setTop (entryFrame m #[(.int p1)] 1)) t := fun t k => castTop (ef_11 m p1) k

  obtain ⟨fs, hr, hrun, hended, hW, hsame⟩ := X0.leave (v := some (.int (1 : Int32))) (fun h => by rw [Bd.returns] at h; cases h)
  refine ⟨_, _, pre0 _ ?_, hrun, hended, _, _, rfl, ?_, ⟨_, rfl⟩, hW, hsame.mono (by decide) (by decide)⟩
  · show Steps p.tables e below (s₁.setTop (mkF m 0 #[.val (.int p1)] [])) _
    refine XS.iloadN X0.here hx rfl (hb hby d11_0) rfl ?_
    show Steps p.tables e below (s₁.setTop (mkF m 1 #[.val (.int p1)] [(.int p1)])) _
    refine XS.ifYes X0.here hx rfl (pc0 := 1) (pc' := 6) rfl (hb hby d11_1) rfl ((if0 _ _).trans (flt hc1).2.1) (by decide) (by decide) ?_
    show Steps p.tables e below (s₁.setTop (mkF m 6 #[.val (.int p1)] [])) _
    refine XS.iloadN X0.here hx rfl (hb hby d11_6) rfl ?_
    show Steps p.tables e below (s₁.setTop (mkF m 7 #[.val (.int p1)] [(.int p1)])) _
    refine XS.ifNo X0.here hx rfl (hb hby d11_7) rfl ((if0 _ _).trans (tlt hc7).2.2.2) ?_
    show Steps p.tables e below (s₁.setTop (mkF m 10 #[.val (.int p1)] [])) _
    refine XS.iconst X0.here hx rfl (hb hby d11_10) ?_
    show Steps p.tables e below (s₁.setTop (mkF m 11 #[.val (.int p1)] [(.int (1 : Int32))])) _
    exact retI X0 hx Bd.returns (hb hby d11_11) hr
  · show Q11 Z p1 h0 n0 _ s₁.heap _
    rw [e0]
    exact ⟨by unfold own_sgn; rw [if_neg hc1, if_pos hc7], N0, rfl⟩
set_option maxRecDepth 65536 in
set_option maxHeartbeats 40000000 in
theorem rm11_tt (l : Launch) (Z : State) (a0 : Array Value) (hw : ∀ d ∈ tables_1, d.before a0 Z = true) (ws : List Jvm.Cond) (p1 : Int32) (h0 : Heap) (n0 : Nat) (Z0 : n0 ≤ h0.size) (hc1 : ¬ (p1 < (0 : Int32))) (hc7 : ¬ ((0 : Int32) < p1)) :
    MetFree l (⟨"com/example/updrift/updrift/model/ReleaseNumberOfPinLaw", "sgn", "(I)I"⟩ : MethodName) (head1 (Jvm.Cond.code (⟨"com/example/updrift/updrift/model/ReleaseNumberOfPinLaw", "sgn", "(I)I"⟩ : MethodName) method_4_code 1 (some .int) :: ws) ({ frames := 0, cells := 0, slots := 0, locals := 0 } : Room)) (fun a U => a = #[(.int p1)] ∧ Z.Warmed39 U.vm ∧ U.heap = h0) (fun _ _ _ _ _ => True) (fun _ U o U' => ∃ v L, o = .returned v ∧ Q11 Z p1 h0 n0 v U'.heap L ∧ FrameEnd U o U' L ({ frames := 0, cells := 0, slots := 0, locals := 0 } : Room).cells ({ frames := 0, cells := 0, slots := 0, locals := 0 } : Room).slots) := by
  refine MetFree.of_bodySF (plainFor_of_name pn_11) hisR ?_
  intro p e s m args below meth c s₁ Bd hml0 hP hK
  obtain ⟨rfl, hZ, hh⟩ := hP
  have hx := Bd.exec
  have hby := Bd.bytes
  have hml : c.maxLocals = 1 := hml0
  have hown : s.vm.findClass "com/example/updrift/updrift/model/ReleaseNumberOfPinLaw" = some m.cls := findClass_of_methodNamed Bd.named
  have hnm := (name_of_methodNamed Bd.named Bd.method).1
  have X0 : Stand p l e ({ frames := 0, cells := 0, slots := 0, locals := 0 } : Room) s m #[(.int p1)] below meth c s₁ [] 0 0 := Stand.of_body Bd
  have e0 : s₁.heap = h0 := by rw [← hh, Bd.state]; rfl
  have N0 := Fr.nil n0
  have pre0 : ∀ t, Steps p.tables e below (s₁.setTop (mkF m 0 #[.val (.int p1)] [])) t → Steps p.tables e below (s₁.setTop (entryFrame m #[(.int p1)] 1)) t := fun t k => castTop (ef_11 m p1) k

  obtain ⟨fs, hr, hrun, hended, hW, hsame⟩ := X0.leave (v := some (.int (0 : Int32))) (fun h => by rw [Bd.returns] at h; cases h)
  refine ⟨_, _, pre0 _ ?_, hrun, hended, _, _, rfl, ?_, ⟨_, rfl⟩, hW, hsame.mono (by decide) (by decide)⟩
  · show Steps p.tables e below (s₁.setTop (mkF m 0 #[.val (.int p1)] [])) _
    refine XS.iloadN X0.here hx rfl (hb hby d11_0) rfl ?_
    show Steps p.tables e below (s₁.setTop (mkF m 1 #[.val (.int p1)] [(.int p1)])) _
    refine XS.ifYes X0.here hx rfl (pc0 := 1) (pc' := 6) rfl (hb hby d11_1) rfl ((if0 _ _).trans (flt hc1).2.1) (by decide) (by decide) ?_
    show Steps p.tables e below (s₁.setTop (mkF m 6 #[.val (.int p1)] [])) _
    refine XS.iloadN X0.here hx rfl (hb hby d11_6) rfl ?_
    show Steps p.tables e below (s₁.setTop (mkF m 7 #[.val (.int p1)] [(.int p1)])) _
    refine XS.ifYes X0.here hx rfl (pc0 := 7) (pc' := 12) rfl (hb hby d11_7) rfl ((if0 _ _).trans (flt hc7).2.2.2) (by decide) (by decide) ?_
    show Steps p.tables e below (s₁.setTop (mkF m 12 #[.val (.int p1)] [])) _
    refine XS.iconst X0.here hx rfl (hb hby d11_12) ?_
    show Steps p.tables e below (s₁.setTop (mkF m 13 #[.val (.int p1)] [(.int (0 : Int32))])) _
    exact retI X0 hx Bd.returns (hb hby d11_13) hr
  · show Q11 Z p1 h0 n0 _ s₁.heap _
    rw [e0]
    exact ⟨by unfold own_sgn; rw [if_neg hc1, if_neg hc7], N0, rfl⟩
theorem rm11 (l : Launch) (Z : State) (a0 : Array Value) (hw : ∀ d ∈ tables_1, d.before a0 Z = true) (ws : List Jvm.Cond) (p1 : Int32) (h0 : Heap) (n0 : Nat) (Z0 : n0 ≤ h0.size) :
    MetFree l (⟨"com/example/updrift/updrift/model/ReleaseNumberOfPinLaw", "sgn", "(I)I"⟩ : MethodName) (head1 (Jvm.Cond.code (⟨"com/example/updrift/updrift/model/ReleaseNumberOfPinLaw", "sgn", "(I)I"⟩ : MethodName) method_4_code 1 (some .int) :: ws) ({ frames := 0, cells := 0, slots := 0, locals := 0 } : Room)) (fun a U => a = #[(.int p1)] ∧ Z.Warmed39 U.vm ∧ U.heap = h0) (fun _ _ _ _ _ => True) (fun _ U o U' => ∃ v L, o = .returned v ∧ Q11 Z p1 h0 n0 v U'.heap L ∧ FrameEnd U o U' L ({ frames := 0, cells := 0, slots := 0, locals := 0 } : Room).cells ({ frames := 0, cells := 0, slots := 0, locals := 0 } : Room).slots) := by
  by_cases hc1 : p1 < (0 : Int32)
  · exact rm11_f l Z a0 hw ws p1 h0 n0 Z0 hc1
  · by_cases hc7 : (0 : Int32) < p1
    · exact rm11_tf l Z a0 hw ws p1 h0 n0 Z0 hc1 hc7
    · exact rm11_tt l Z a0 hw ws p1 h0 n0 Z0 hc1 hc7

theorem d10_0 : decode jdk_35_method_42_code 0 = .ok (.lload_n 0, 1) := by decide +kernel
theorem d10_1 : decode jdk_35_method_42_code 1 = .ok (.lload_n 2, 1) := by decide +kernel
theorem d10_2 : decode jdk_35_method_42_code 2 = .ok (.lcmp, 1) := by decide +kernel
theorem d10_3 : decode jdk_35_method_42_code 3 = .ok (.ifCond .ge 7, 3) := by decide +kernel
theorem d10_6 : decode jdk_35_method_42_code 6 = .ok (.iconst (-1), 1) := by decide +kernel
theorem d10_7 : decode jdk_35_method_42_code 7 = .ok (.goto 14, 3) := by decide +kernel
theorem d10_21 : decode jdk_35_method_42_code 21 = .ok (.ireturn, 1) := by decide +kernel
theorem pn_10 : plainName "java/lang/Long" = true := by first | (simp [plainName, overriddenIn]; done) | decide +kernel
theorem ef_10 (m : MethodId) (x0 : Int64) (x1 : Int64) : entryFrame m #[(.long x0), (.long x1)] 4 = mkF m 0 #[.val (.long x0), .second, .val (.long x1), .second] [] := by first | (simp [entryFrame, mkF, argsToLocals, Value.category]; done) | rfl
theorem d10_10 : decode jdk_35_method_42_code 10 = .ok (.lload_n 0, 1) := by decide +kernel
theorem d10_11 : decode jdk_35_method_42_code 11 = .ok (.lload_n 2, 1) := by decide +kernel
theorem d10_12 : decode jdk_35_method_42_code 12 = .ok (.lcmp, 1) := by decide +kernel
theorem d10_13 : decode jdk_35_method_42_code 13 = .ok (.ifCond .ne 7, 3) := by decide +kernel
theorem d10_16 : decode jdk_35_method_42_code 16 = .ok (.iconst 0, 1) := by decide +kernel
theorem d10_17 : decode jdk_35_method_42_code 17 = .ok (.goto 4, 3) := by decide +kernel
theorem d10_20 : decode jdk_35_method_42_code 20 = .ok (.iconst 1, 1) := by decide +kernel
def Q10 (Z : State) (q1 : Int64) (q2 : Int64) (h0 : Heap) (n0 : Nat) (v : Option Value) (h : Heap) (L : List Loc) : Prop := v = some (.int (own_lc q1 q2)) ∧ Fr n0 L ∧ h = h0
set_option maxRecDepth 65536 in
set_option maxHeartbeats 40000000 in
theorem rm10_f (l : Launch) (Z : State) (a0 : Array Value) (hw : ∀ d ∈ tables_1, d.before a0 Z = true) (ws : List Jvm.Cond) (q1 : Int64) (q2 : Int64) (h0 : Heap) (n0 : Nat) (Z0 : n0 ≤ h0.size) (hc3 : (lcmpW q1 q2) < (0 : Int32)) :
    MetFree l (⟨"java/lang/Long", "compare", "(JJ)I"⟩ : MethodName) (head1 (Jvm.Cond.code (⟨"java/lang/Long", "compare", "(JJ)I"⟩ : MethodName) jdk_35_method_42_code 4 (some .int) :: ws) ({ frames := 0, cells := 0, slots := 0, locals := 0 } : Room)) (fun a U => a = #[(.long q1), (.long q2)] ∧ Z.Warmed39 U.vm ∧ U.heap = h0) (fun _ _ _ _ _ => True) (fun _ U o U' => ∃ v L, o = .returned v ∧ Q10 Z q1 q2 h0 n0 v U'.heap L ∧ FrameEnd U o U' L ({ frames := 0, cells := 0, slots := 0, locals := 0 } : Room).cells ({ frames := 0, cells := 0, slots := 0, locals := 0 } : Room).slots) := by
  refine MetFree.of_bodySF (plainFor_of_name pn_10) hisR ?_
  intro p e s m args below meth c s₁ Bd hml0 hP hK
  obtain ⟨rfl, hZ, hh⟩ := hP
  have hx := Bd.exec
  have hby := Bd.bytes
  have hml : c.maxLocals = 4 := hml0
  have hown : s.vm.findClass "java/lang/Long" = some m.cls := findClass_of_methodNamed Bd.named
  have hnm := (name_of_methodNamed Bd.named Bd.method).1
  have X0 : Stand p l e ({ frames := 0, cells := 0, slots := 0, locals := 0 } : Room) s m #[(.long q1), (.long q2)] below meth c s₁ [] 0 0 := Stand.of_body Bd
  have e0 : s₁.heap = h0 := by rw [← hh, Bd.state]; rfl
  have N0 := Fr.nil n0
  have pre0 : ∀ t, Steps p.tables e below (s₁.setTop (mkF m 0 #[.val (.long q1), .second, .val (.long q2), .second] [])) t → Steps p.tables e below (s₁.setTop (entryFrame m #[(.long q1), (.long q2)] 4)) t := fun t k => castTop (ef_10 m q1 q2) k

  obtain ⟨fs, hr, hrun, hended, hW, hsame⟩ := X0.leave (v := some (.int (-1 : Int32))) (fun h => by rw [Bd.returns] at h; cases h)
  refine ⟨_, _, pre0 _ ?_, hrun, hended, _, _, rfl, ?_, ⟨_, rfl⟩, hW, hsame.mono (by decide) (by decide)⟩
  · show Steps p.tables e below (s₁.setTop (mkF m 0 #[.val (.long q1), .second, .val (.long q2), .second] [])) _
    refine XS.lloadN X0.here hx rfl (hb hby d10_0) rfl ?_
    show Steps p.tables e below (s₁.setTop (mkF m 1 #[.val (.long q1), .second, .val (.long q2), .second] [(.long q1)])) _
    refine XS.lloadN X0.here hx rfl (hb hby d10_1) rfl ?_
    show Steps p.tables e below (s₁.setTop (mkF m 2 #[.val (.long q1), .second, .val (.long q2), .second] [(.long q2), (.long q1)])) _
    refine XS.lcmp X0.here hx rfl (hb hby d10_2) rfl ?_
    show Steps p.tables e below (s₁.setTop (mkF m 3 #[.val (.long q1), .second, .val (.long q2), .second] [(.int (lcmpW q1 q2))])) _
    refine XS.ifNo X0.here hx rfl (hb hby d10_3) rfl ((if0 _ _).trans (tlt hc3).2.1) ?_
    show Steps p.tables e below (s₁.setTop (mkF m 6 #[.val (.long q1), .second, .val (.long q2), .second] [])) _
    refine XS.iconst X0.here hx rfl (hb hby d10_6) ?_
    show Steps p.tables e below (s₁.setTop (mkF m 7 #[.val (.long q1), .second, .val (.long q2), .second] [(.int (-1 : Int32))])) _
    refine XS.goto X0.here hx rfl (pc0 := 7) (pc' := 21) rfl (hb hby d10_7) (by decide) (by decide) ?_
    show Steps p.tables e below (s₁.setTop (mkF m 21 #[.val (.long q1), .second, .val (.long q2), .second] [(.int (-1 : Int32))])) _
    exact retI X0 hx Bd.returns (hb hby d10_21) hr
  · show Q10 Z q1 q2 h0 n0 _ s₁.heap _
    rw [e0]
    exact ⟨by unfold own_lc; rw [if_pos hc3], N0, rfl⟩
set_option maxRecDepth 65536 in
set_option maxHeartbeats 40000000 in
theorem rm10_tf (l : Launch) (Z : State) (a0 : Array Value) (hw : ∀ d ∈ tables_1, d.before a0 Z = true) (ws : List Jvm.Cond) (q1 : Int64) (q2 : Int64) (h0 : Heap) (n0 : Nat) (Z0 : n0 ≤ h0.size) (hc3 : ¬ ((lcmpW q1 q2) < (0 : Int32))) (hc13 : (lcmpW q1 q2) = (0 : Int32)) :
    MetFree l (⟨"java/lang/Long", "compare", "(JJ)I"⟩ : MethodName) (head1 (Jvm.Cond.code (⟨"java/lang/Long", "compare", "(JJ)I"⟩ : MethodName) jdk_35_method_42_code 4 (some .int) :: ws) ({ frames := 0, cells := 0, slots := 0, locals := 0 } : Room)) (fun a U => a = #[(.long q1), (.long q2)] ∧ Z.Warmed39 U.vm ∧ U.heap = h0) (fun _ _ _ _ _ => True) (fun _ U o U' => ∃ v L, o = .returned v ∧ Q10 Z q1 q2 h0 n0 v U'.heap L ∧ FrameEnd U o U' L ({ frames := 0, cells := 0, slots := 0, locals := 0 } : Room).cells ({ frames := 0, cells := 0, slots := 0, locals := 0 } : Room).slots) := by
  refine MetFree.of_bodySF (plainFor_of_name pn_10) hisR ?_
  intro p e s m args below meth c s₁ Bd hml0 hP hK
  obtain ⟨rfl, hZ, hh⟩ := hP
  have hx := Bd.exec
  have hby := Bd.bytes
  have hml : c.maxLocals = 4 := hml0
  have hown : s.vm.findClass "java/lang/Long" = some m.cls := findClass_of_methodNamed Bd.named
  have hnm := (name_of_methodNamed Bd.named Bd.method).1
  have X0 : Stand p l e ({ frames := 0, cells := 0, slots := 0, locals := 0 } : Room) s m #[(.long q1), (.long q2)] below meth c s₁ [] 0 0 := Stand.of_body Bd
  have e0 : s₁.heap = h0 := by rw [← hh, Bd.state]; rfl
  have N0 := Fr.nil n0
  have pre0 : ∀ t, Steps p.tables e below (s₁.setTop (mkF m 0 #[.val (.long q1), .second, .val (.long q2), .second] [])) t → Steps p.tables e below (s₁.setTop (entryFrame m #[(.long q1), (.long q2)] 4)) t := fun t k => castTop (ef_10 m q1 q2) k

  obtain ⟨fs, hr, hrun, hended, hW, hsame⟩ := X0.leave (v := some (.int (0 : Int32))) (fun h => by rw [Bd.returns] at h; cases h)
  refine ⟨_, _, pre0 _ ?_, hrun, hended, _, _, rfl, ?_, ⟨_, rfl⟩, hW, hsame.mono (by decide) (by decide)⟩
  · show Steps p.tables e below (s₁.setTop (mkF m 0 #[.val (.long q1), .second, .val (.long q2), .second] [])) _
    refine XS.lloadN X0.here hx rfl (hb hby d10_0) rfl ?_
    show Steps p.tables e below (s₁.setTop (mkF m 1 #[.val (.long q1), .second, .val (.long q2), .second] [(.long q1)])) _
    refine XS.lloadN X0.here hx rfl (hb hby d10_1) rfl ?_
    show Steps p.tables e below (s₁.setTop (mkF m 2 #[.val (.long q1), .second, .val (.long q2), .second] [(.long q2), (.long q1)])) _
    refine XS.lcmp X0.here hx rfl (hb hby d10_2) rfl ?_
    show Steps p.tables e below (s₁.setTop (mkF m 3 #[.val (.long q1), .second, .val (.long q2), .second] [(.int (lcmpW q1 q2))])) _
    refine XS.ifYes X0.here hx rfl (pc0 := 3) (pc' := 10) rfl (hb hby d10_3) rfl ((if0 _ _).trans (flt hc3).2.1) (by decide) (by decide) ?_
    show Steps p.tables e below (s₁.setTop (mkF m 10 #[.val (.long q1), .second, .val (.long q2), .second] [])) _
    refine XS.lloadN X0.here hx rfl (hb hby d10_10) rfl ?_
    show Steps p.tables e below (s₁.setTop (mkF m 11 #[.val (.long q1), .second, .val (.long q2), .second] [(.long q1)])) _
    refine XS.lloadN X0.here hx rfl (hb hby d10_11) rfl ?_
    show Steps p.tables e below (s₁.setTop (mkF m 12 #[.val (.long q1), .second, .val (.long q2), .second] [(.long q2), (.long q1)])) _
    refine XS.lcmp X0.here hx rfl (hb hby d10_12) rfl ?_
    show Steps p.tables e below (s₁.setTop (mkF m 13 #[.val (.long q1), .second, .val (.long q2), .second] [(.int (lcmpW q1 q2))])) _
    refine XS.ifNo X0.here hx rfl (hb hby d10_13) rfl ((if0 _ _).trans (teq hc13).2) ?_
    show Steps p.tables e below (s₁.setTop (mkF m 16 #[.val (.long q1), .second, .val (.long q2), .second] [])) _
    refine XS.iconst X0.here hx rfl (hb hby d10_16) ?_
    show Steps p.tables e below (s₁.setTop (mkF m 17 #[.val (.long q1), .second, .val (.long q2), .second] [(.int (0 : Int32))])) _
    refine XS.goto X0.here hx rfl (pc0 := 17) (pc' := 21) rfl (hb hby d10_17) (by decide) (by decide) ?_
    show Steps p.tables e below (s₁.setTop (mkF m 21 #[.val (.long q1), .second, .val (.long q2), .second] [(.int (0 : Int32))])) _
    exact retI X0 hx Bd.returns (hb hby d10_21) hr
  · show Q10 Z q1 q2 h0 n0 _ s₁.heap _
    rw [e0]
    exact ⟨by unfold own_lc; rw [if_neg hc3, if_pos hc13], N0, rfl⟩
set_option maxRecDepth 65536 in
set_option maxHeartbeats 40000000 in
theorem rm10_tt (l : Launch) (Z : State) (a0 : Array Value) (hw : ∀ d ∈ tables_1, d.before a0 Z = true) (ws : List Jvm.Cond) (q1 : Int64) (q2 : Int64) (h0 : Heap) (n0 : Nat) (Z0 : n0 ≤ h0.size) (hc3 : ¬ ((lcmpW q1 q2) < (0 : Int32))) (hc13 : ¬ ((lcmpW q1 q2) = (0 : Int32))) :
    MetFree l (⟨"java/lang/Long", "compare", "(JJ)I"⟩ : MethodName) (head1 (Jvm.Cond.code (⟨"java/lang/Long", "compare", "(JJ)I"⟩ : MethodName) jdk_35_method_42_code 4 (some .int) :: ws) ({ frames := 0, cells := 0, slots := 0, locals := 0 } : Room)) (fun a U => a = #[(.long q1), (.long q2)] ∧ Z.Warmed39 U.vm ∧ U.heap = h0) (fun _ _ _ _ _ => True) (fun _ U o U' => ∃ v L, o = .returned v ∧ Q10 Z q1 q2 h0 n0 v U'.heap L ∧ FrameEnd U o U' L ({ frames := 0, cells := 0, slots := 0, locals := 0 } : Room).cells ({ frames := 0, cells := 0, slots := 0, locals := 0 } : Room).slots) := by
  refine MetFree.of_bodySF (plainFor_of_name pn_10) hisR ?_
  intro p e s m args below meth c s₁ Bd hml0 hP hK
  obtain ⟨rfl, hZ, hh⟩ := hP
  have hx := Bd.exec
  have hby := Bd.bytes
  have hml : c.maxLocals = 4 := hml0
  have hown : s.vm.findClass "java/lang/Long" = some m.cls := findClass_of_methodNamed Bd.named
  have hnm := (name_of_methodNamed Bd.named Bd.method).1
  have X0 : Stand p l e ({ frames := 0, cells := 0, slots := 0, locals := 0 } : Room) s m #[(.long q1), (.long q2)] below meth c s₁ [] 0 0 := Stand.of_body Bd
  have e0 : s₁.heap = h0 := by rw [← hh, Bd.state]; rfl
  have N0 := Fr.nil n0
  have pre0 : ∀ t, Steps p.tables e below (s₁.setTop (mkF m 0 #[.val (.long q1), .second, .val (.long q2), .second] [])) t → Steps p.tables e below (s₁.setTop (entryFrame m #[(.long q1), (.long q2)] 4)) t := fun t k => castTop (ef_10 m q1 q2) k

  obtain ⟨fs, hr, hrun, hended, hW, hsame⟩ := X0.leave (v := some (.int (1 : Int32))) (fun h => by rw [Bd.returns] at h; cases h)
  refine ⟨_, _, pre0 _ ?_, hrun, hended, _, _, rfl, ?_, ⟨_, rfl⟩, hW, hsame.mono (by decide) (by decide)⟩
  · show Steps p.tables e below (s₁.setTop (mkF m 0 #[.val (.long q1), .second, .val (.long q2), .second] [])) _
    refine XS.lloadN X0.here hx rfl (hb hby d10_0) rfl ?_
    show Steps p.tables e below (s₁.setTop (mkF m 1 #[.val (.long q1), .second, .val (.long q2), .second] [(.long q1)])) _
    refine XS.lloadN X0.here hx rfl (hb hby d10_1) rfl ?_
    show Steps p.tables e below (s₁.setTop (mkF m 2 #[.val (.long q1), .second, .val (.long q2), .second] [(.long q2), (.long q1)])) _
    refine XS.lcmp X0.here hx rfl (hb hby d10_2) rfl ?_
    show Steps p.tables e below (s₁.setTop (mkF m 3 #[.val (.long q1), .second, .val (.long q2), .second] [(.int (lcmpW q1 q2))])) _
    refine XS.ifYes X0.here hx rfl (pc0 := 3) (pc' := 10) rfl (hb hby d10_3) rfl ((if0 _ _).trans (flt hc3).2.1) (by decide) (by decide) ?_
    show Steps p.tables e below (s₁.setTop (mkF m 10 #[.val (.long q1), .second, .val (.long q2), .second] [])) _
    refine XS.lloadN X0.here hx rfl (hb hby d10_10) rfl ?_
    show Steps p.tables e below (s₁.setTop (mkF m 11 #[.val (.long q1), .second, .val (.long q2), .second] [(.long q1)])) _
    refine XS.lloadN X0.here hx rfl (hb hby d10_11) rfl ?_
    show Steps p.tables e below (s₁.setTop (mkF m 12 #[.val (.long q1), .second, .val (.long q2), .second] [(.long q2), (.long q1)])) _
    refine XS.lcmp X0.here hx rfl (hb hby d10_12) rfl ?_
    show Steps p.tables e below (s₁.setTop (mkF m 13 #[.val (.long q1), .second, .val (.long q2), .second] [(.int (lcmpW q1 q2))])) _
    refine XS.ifYes X0.here hx rfl (pc0 := 13) (pc' := 20) rfl (hb hby d10_13) rfl ((if0 _ _).trans (feq hc13).2) (by decide) (by decide) ?_
    show Steps p.tables e below (s₁.setTop (mkF m 20 #[.val (.long q1), .second, .val (.long q2), .second] [])) _
    refine XS.iconst X0.here hx rfl (hb hby d10_20) ?_
    show Steps p.tables e below (s₁.setTop (mkF m 21 #[.val (.long q1), .second, .val (.long q2), .second] [(.int (1 : Int32))])) _
    exact retI X0 hx Bd.returns (hb hby d10_21) hr
  · show Q10 Z q1 q2 h0 n0 _ s₁.heap _
    rw [e0]
    exact ⟨by unfold own_lc; rw [if_neg hc3, if_neg hc13], N0, rfl⟩
theorem rm10 (l : Launch) (Z : State) (a0 : Array Value) (hw : ∀ d ∈ tables_1, d.before a0 Z = true) (ws : List Jvm.Cond) (q1 : Int64) (q2 : Int64) (h0 : Heap) (n0 : Nat) (Z0 : n0 ≤ h0.size) :
    MetFree l (⟨"java/lang/Long", "compare", "(JJ)I"⟩ : MethodName) (head1 (Jvm.Cond.code (⟨"java/lang/Long", "compare", "(JJ)I"⟩ : MethodName) jdk_35_method_42_code 4 (some .int) :: ws) ({ frames := 0, cells := 0, slots := 0, locals := 0 } : Room)) (fun a U => a = #[(.long q1), (.long q2)] ∧ Z.Warmed39 U.vm ∧ U.heap = h0) (fun _ _ _ _ _ => True) (fun _ U o U' => ∃ v L, o = .returned v ∧ Q10 Z q1 q2 h0 n0 v U'.heap L ∧ FrameEnd U o U' L ({ frames := 0, cells := 0, slots := 0, locals := 0 } : Room).cells ({ frames := 0, cells := 0, slots := 0, locals := 0 } : Room).slots) := by
  by_cases hc3 : (lcmpW q1 q2) < (0 : Int32)
  · exact rm10_f l Z a0 hw ws q1 q2 h0 n0 Z0 hc3
  · by_cases hc13 : (lcmpW q1 q2) = (0 : Int32)
    · exact rm10_tf l Z a0 hw ws q1 q2 h0 n0 Z0 hc3 hc13
    · exact rm10_tt l Z a0 hw ws q1 q2 h0 n0 Z0 hc3 hc13

theorem d8_0 : decode jdk_29_method_65_code 0 = .ok (.iload_n 0, 1) := by decide +kernel
theorem d8_1 : decode jdk_29_method_65_code 1 = .ok (.iload_n 1, 1) := by decide +kernel
theorem d8_2 : decode jdk_29_method_65_code 2 = .ok (.if_icmp .lt 7, 3) := by decide +kernel
theorem d8_5 : decode jdk_29_method_65_code 5 = .ok (.iload_n 0, 1) := by decide +kernel
theorem d8_6 : decode jdk_29_method_65_code 6 = .ok (.goto 4, 3) := by decide +kernel
theorem d8_10 : decode jdk_29_method_65_code 10 = .ok (.ireturn, 1) := by decide +kernel
theorem ef_8 (m : MethodId) (x0 : Int32) (x1 : Int32) : entryFrame m #[(.int x0), (.int x1)] 2 = mkF m 0 #[.val (.int x0), .val (.int x1)] [] := by first | (simp [entryFrame, mkF, argsToLocals, Value.category]; done) | rfl
theorem d8_9 : decode jdk_29_method_65_code 9 = .ok (.iload_n 1, 1) := by decide +kernel
def Q8 (Z : State) (p1 : Int32) (p2 : Int32) (h0 : Heap) (n0 : Nat) (v : Option Value) (h : Heap) (L : List Loc) : Prop := v = some (.int (own_mx p1 p2)) ∧ Fr n0 L ∧ h = h0
set_option maxRecDepth 65536 in
set_option maxHeartbeats 40000000 in
theorem rm8_f (l : Launch) (Z : State) (a0 : Array Value) (hw : ∀ d ∈ tables_1, d.before a0 Z = true) (ws : List Jvm.Cond) (p1 : Int32) (p2 : Int32) (h0 : Heap) (n0 : Nat) (Z0 : n0 ≤ h0.size) (hc2 : ¬ (p1 < p2)) :
    MetFree l (⟨"java/lang/Math", "max", "(II)I"⟩ : MethodName) (head1 (Jvm.Cond.code (⟨"java/lang/Math", "max", "(II)I"⟩ : MethodName) jdk_29_method_65_code 2 (some .int) :: ws) ({ frames := 0, cells := 0, slots := 0, locals := 0 } : Room)) (fun a U => a = #[(.int p1), (.int p2)] ∧ Z.Warmed39 U.vm ∧ U.heap = h0) (fun _ _ _ _ _ => True) (fun _ U o U' => ∃ v L, o = .returned v ∧ Q8 Z p1 p2 h0 n0 v U'.heap L ∧ FrameEnd U o U' L ({ frames := 0, cells := 0, slots := 0, locals := 0 } : Room).cells ({ frames := 0, cells := 0, slots := 0, locals := 0 } : Room).slots) := by
  refine MetFree.of_bodySF (Jvm.Free.JP.mathPlain rfl (by decide +kernel)) hisR ?_
  intro p e s m args below meth c s₁ Bd hml0 hP hK
  obtain ⟨rfl, hZ, hh⟩ := hP
  have hx := Bd.exec
  have hby := Bd.bytes
  have hml : c.maxLocals = 2 := hml0
  have hown : s.vm.findClass "java/lang/Math" = some m.cls := findClass_of_methodNamed Bd.named
  have hnm := (name_of_methodNamed Bd.named Bd.method).1
  have X0 : Stand p l e ({ frames := 0, cells := 0, slots := 0, locals := 0 } : Room) s m #[(.int p1), (.int p2)] below meth c s₁ [] 0 0 := Stand.of_body Bd
  have e0 : s₁.heap = h0 := by rw [← hh, Bd.state]; rfl
  have N0 := Fr.nil n0
  have pre0 : ∀ t, Steps p.tables e below (s₁.setTop (mkF m 0 #[.val (.int p1), .val (.int p2)] [])) t → Steps p.tables e below (s₁.setTop (entryFrame m #[(.int p1), (.int p2)] 2)) t := fun t k => castTop (ef_8 m p1 p2) k

  obtain ⟨fs, hr, hrun, hended, hW, hsame⟩ := X0.leave (v := some (.int p1)) (fun h => by rw [Bd.returns] at h; cases h)
  refine ⟨_, _, pre0 _ ?_, hrun, hended, _, _, rfl, ?_, ⟨_, rfl⟩, hW, hsame.mono (by decide) (by decide)⟩
  · show Steps p.tables e below (s₁.setTop (mkF m 0 #[.val (.int p1), .val (.int p2)] [])) _
    refine XS.iloadN X0.here hx rfl (hb hby d8_0) rfl ?_
    show Steps p.tables e below (s₁.setTop (mkF m 1 #[.val (.int p1), .val (.int p2)] [(.int p1)])) _
    refine XS.iloadN X0.here hx rfl (hb hby d8_1) rfl ?_
    show Steps p.tables e below (s₁.setTop (mkF m 2 #[.val (.int p1), .val (.int p2)] [(.int p2), (.int p1)])) _
    refine XS.icmpNo X0.here hx rfl (hb hby d8_2) rfl (flt hc2).1 ?_
    show Steps p.tables e below (s₁.setTop (mkF m 5 #[.val (.int p1), .val (.int p2)] [])) _
    refine XS.iloadN X0.here hx rfl (hb hby d8_5) rfl ?_
    show Steps p.tables e below (s₁.setTop (mkF m 6 #[.val (.int p1), .val (.int p2)] [(.int p1)])) _
    refine XS.goto X0.here hx rfl (pc0 := 6) (pc' := 10) rfl (hb hby d8_6) (by decide) (by decide) ?_
    show Steps p.tables e below (s₁.setTop (mkF m 10 #[.val (.int p1), .val (.int p2)] [(.int p1)])) _
    exact retI X0 hx Bd.returns (hb hby d8_10) hr
  · show Q8 Z p1 p2 h0 n0 _ s₁.heap _
    rw [e0]
    exact ⟨by unfold own_mx; rw [if_neg hc2], N0, rfl⟩
set_option maxRecDepth 65536 in
set_option maxHeartbeats 40000000 in
theorem rm8_t (l : Launch) (Z : State) (a0 : Array Value) (hw : ∀ d ∈ tables_1, d.before a0 Z = true) (ws : List Jvm.Cond) (p1 : Int32) (p2 : Int32) (h0 : Heap) (n0 : Nat) (Z0 : n0 ≤ h0.size) (hc2 : p1 < p2) :
    MetFree l (⟨"java/lang/Math", "max", "(II)I"⟩ : MethodName) (head1 (Jvm.Cond.code (⟨"java/lang/Math", "max", "(II)I"⟩ : MethodName) jdk_29_method_65_code 2 (some .int) :: ws) ({ frames := 0, cells := 0, slots := 0, locals := 0 } : Room)) (fun a U => a = #[(.int p1), (.int p2)] ∧ Z.Warmed39 U.vm ∧ U.heap = h0) (fun _ _ _ _ _ => True) (fun _ U o U' => ∃ v L, o = .returned v ∧ Q8 Z p1 p2 h0 n0 v U'.heap L ∧ FrameEnd U o U' L ({ frames := 0, cells := 0, slots := 0, locals := 0 } : Room).cells ({ frames := 0, cells := 0, slots := 0, locals := 0 } : Room).slots) := by
  refine MetFree.of_bodySF (Jvm.Free.JP.mathPlain rfl (by decide +kernel)) hisR ?_
  intro p e s m args below meth c s₁ Bd hml0 hP hK
  obtain ⟨rfl, hZ, hh⟩ := hP
  have hx := Bd.exec
  have hby := Bd.bytes
  have hml : c.maxLocals = 2 := hml0
  have hown : s.vm.findClass "java/lang/Math" = some m.cls := findClass_of_methodNamed Bd.named
  have hnm := (name_of_methodNamed Bd.named Bd.method).1
  have X0 : Stand p l e ({ frames := 0, cells := 0, slots := 0, locals := 0 } : Room) s m #[(.int p1), (.int p2)] below meth c s₁ [] 0 0 := Stand.of_body Bd
  have e0 : s₁.heap = h0 := by rw [← hh, Bd.state]; rfl
  have N0 := Fr.nil n0
  have pre0 : ∀ t, Steps p.tables e below (s₁.setTop (mkF m 0 #[.val (.int p1), .val (.int p2)] [])) t → Steps p.tables e below (s₁.setTop (entryFrame m #[(.int p1), (.int p2)] 2)) t := fun t k => castTop (ef_8 m p1 p2) k

  obtain ⟨fs, hr, hrun, hended, hW, hsame⟩ := X0.leave (v := some (.int p2)) (fun h => by rw [Bd.returns] at h; cases h)
  refine ⟨_, _, pre0 _ ?_, hrun, hended, _, _, rfl, ?_, ⟨_, rfl⟩, hW, hsame.mono (by decide) (by decide)⟩
  · show Steps p.tables e below (s₁.setTop (mkF m 0 #[.val (.int p1), .val (.int p2)] [])) _
    refine XS.iloadN X0.here hx rfl (hb hby d8_0) rfl ?_
    show Steps p.tables e below (s₁.setTop (mkF m 1 #[.val (.int p1), .val (.int p2)] [(.int p1)])) _
    refine XS.iloadN X0.here hx rfl (hb hby d8_1) rfl ?_
    show Steps p.tables e below (s₁.setTop (mkF m 2 #[.val (.int p1), .val (.int p2)] [(.int p2), (.int p1)])) _
    refine XS.icmpYes X0.here hx rfl (pc0 := 2) (pc' := 9) rfl (hb hby d8_2) rfl (tlt hc2).1 (by decide) (by decide) ?_
    show Steps p.tables e below (s₁.setTop (mkF m 9 #[.val (.int p1), .val (.int p2)] [])) _
    refine XS.iloadN X0.here hx rfl (hb hby d8_9) rfl ?_
    show Steps p.tables e below (s₁.setTop (mkF m 10 #[.val (.int p1), .val (.int p2)] [(.int p2)])) _
    exact retI X0 hx Bd.returns (hb hby d8_10) hr
  · show Q8 Z p1 p2 h0 n0 _ s₁.heap _
    rw [e0]
    exact ⟨by unfold own_mx; rw [if_pos hc2], N0, rfl⟩
theorem rm8 (l : Launch) (Z : State) (a0 : Array Value) (hw : ∀ d ∈ tables_1, d.before a0 Z = true) (ws : List Jvm.Cond) (p1 : Int32) (p2 : Int32) (h0 : Heap) (n0 : Nat) (Z0 : n0 ≤ h0.size) :
    MetFree l (⟨"java/lang/Math", "max", "(II)I"⟩ : MethodName) (head1 (Jvm.Cond.code (⟨"java/lang/Math", "max", "(II)I"⟩ : MethodName) jdk_29_method_65_code 2 (some .int) :: ws) ({ frames := 0, cells := 0, slots := 0, locals := 0 } : Room)) (fun a U => a = #[(.int p1), (.int p2)] ∧ Z.Warmed39 U.vm ∧ U.heap = h0) (fun _ _ _ _ _ => True) (fun _ U o U' => ∃ v L, o = .returned v ∧ Q8 Z p1 p2 h0 n0 v U'.heap L ∧ FrameEnd U o U' L ({ frames := 0, cells := 0, slots := 0, locals := 0 } : Room).cells ({ frames := 0, cells := 0, slots := 0, locals := 0 } : Room).slots) := by
  by_cases hc2 : p1 < p2
  · exact rm8_t l Z a0 hw ws p1 p2 h0 n0 Z0 hc2
  · exact rm8_f l Z a0 hw ws p1 p2 h0 n0 Z0 hc2

theorem d3_0 : decode prog_87_method_1_code 0 = .ok (.aload_n 0, 1) := by decide +kernel
theorem d3_1 : decode prog_87_method_1_code 1 = .ok (.invokespecial 1, 3) := by decide +kernel
theorem d3_4 : decode prog_87_method_1_code 4 = .ok (.aload_n 0, 1) := by decide +kernel
theorem d3_5 : decode prog_87_method_1_code 5 = .ok (.aload_n 1, 1) := by decide +kernel
theorem d3_6 : decode prog_87_method_1_code 6 = .ok (.putfield 7, 3) := by decide +kernel
theorem d3_9 : decode prog_87_method_1_code 9 = .ok (.return_, 1) := by decide +kernel
theorem pn_3 : plainName "com/example/updrift/updrift/model/ReleaseNumber" = true := by first | (simp [plainName, overriddenIn]; done) | decide +kernel
theorem ef_3 (m : MethodId) (x0 : Addr) (x1 : Addr) : entryFrame m #[(.ref x0), (.ref x1)] 2 = mkF m 0 #[.val (.ref x0), .val (.ref x1)] [] := by first | (simp [entryFrame, mkF, argsToLocals, Value.category]; done) | rfl
def Q3 (Z : State) (a1 : Addr) (a2 : Addr) (u_parts_a1 : Value) (h0 : Heap) (n0 : Nat) (v : Option Value) (h : Heap) (L : List Loc) : Prop := v = none ∧ Fr n0 L ∧ Keep h0 h [a1] ∧ Exa Z h a1 "com/example/updrift/updrift/model/ReleaseNumber" ∧ Fld Z h a1 "com/example/updrift/updrift/model/ReleaseNumber" "parts" "[J" (.ref a2)
set_option maxRecDepth 65536 in
set_option maxHeartbeats 40000000 in
theorem rm3 (l : Launch) (Z : State) (a0 : Array Value) (hw : ∀ d ∈ tables_1, d.before a0 Z = true) (ws : List Jvm.Cond) (a1 : Addr) (a2 : Addr) (u_parts_a1 : Value) (h0 : Heap) (n0 : Nat) (Z0 : n0 ≤ h0.size) (E_a1 : Exa Z h0 a1 "com/example/updrift/updrift/model/ReleaseNumber") (F_parts_a1 : Fld Z h0 a1 "com/example/updrift/updrift/model/ReleaseNumber" "parts" "[J" u_parts_a1) (g_a1 : n0 ≤ a1) :
    MetFree l (⟨"com/example/updrift/updrift/model/ReleaseNumber", "<init>", "([J)V"⟩ : MethodName) (head1 (Jvm.Cond.code (⟨"com/example/updrift/updrift/model/ReleaseNumber", "<init>", "([J)V"⟩ : MethodName) prog_87_method_1_code 2 none :: ws) ({ frames := 1, cells := 0, slots := 0, locals := 12 } : Room)) (fun a U => a = #[(.ref a1), (.ref a2)] ∧ Z.Warmed39 U.vm ∧ U.heap = h0) (fun _ _ _ _ _ => True) (fun _ U o U' => ∃ v L, o = .returned v ∧ Q3 Z a1 a2 u_parts_a1 h0 n0 v U'.heap L ∧ FrameEnd U o U' L ({ frames := 1, cells := 0, slots := 0, locals := 12 } : Room).cells ({ frames := 1, cells := 0, slots := 0, locals := 12 } : Room).slots) := by
  refine MetFree.of_bodySF (plainFor_of_name pn_3) hisR ?_
  intro p e s m args below meth c s₁ Bd hml0 hP hK
  obtain ⟨rfl, hZ, hh⟩ := hP
  have hx := Bd.exec
  have hby := Bd.bytes
  have hml : c.maxLocals = 2 := hml0
  have hown : s.vm.findClass "com/example/updrift/updrift/model/ReleaseNumber" = some m.cls := findClass_of_methodNamed Bd.named
  have hnm := (name_of_methodNamed Bd.named Bd.method).1
  have X0 : Stand p l e ({ frames := 1, cells := 0, slots := 0, locals := 12 } : Room) s m #[(.ref a1), (.ref a2)] below meth c s₁ [] 0 0 := Stand.of_body Bd
  have e0 : s₁.heap = h0 := by rw [← hh, Bd.state]; rfl
  have N0 := Fr.nil n0
  have pre0 : ∀ t, Steps p.tables e below (s₁.setTop (mkF m 0 #[.val (.ref a1), .val (.ref a2)] [])) t → Steps p.tables e below (s₁.setTop (entryFrame m #[(.ref a1), (.ref a2)] 2)) t := fun t k => castTop (ef_3 m a1 a2) k
  obtain ⟨T3, X3, e3, st3⟩ := initO X0 hx hZ hown (hw _ (List.mem_of_getElem? (i := 24) rfl)) (hw _ (List.mem_of_getElem? (i := 25) rfl)) (hw _ (List.mem_of_getElem? (i := 26) rfl)) e0 (g := (mkF m 1 #[.val (.ref a1), .val (.ref a2)] [(.ref a1)])) rfl (by rw [hml]; rfl) rfl (hb hby d3_1) (by decide) (W := 0) (by show 2 * 0 + _ ≤ _; exact Nat.le_of_eq rfl) (by decide)
  obtain ⟨T4, h4, X4, e4, W4, st4⟩ := putF X3 hx hZ hown (host := "") (Or.inl (hw _ (List.mem_of_getElem? (i := 27) rfl))) Via.refl e3 F_parts_a1 E_a1 (Or.inr ⟨(hw _ (List.mem_of_getElem? (i := 28) rfl)), rfl, hnm⟩) (hw _ (List.mem_of_getElem? (i := 11) rfl)) (ty := (.array .long)) (by decide) rfl rfl (g := (mkF m 6 #[.val (.ref a1), .val (.ref a2)] [(.ref a2), (.ref a1)])) rfl rfl (hb hby d3_6)
  have Fw4 := F_parts_a1.same W4
  have K4 : Keep h0 h4 [a1] := (Keep.refl h0 [a1]).wr W4 (Or.inl (List.mem_of_getElem? (i := 0) rfl))
  have N4 := Fr.snoc X4 N0 g_a1
  obtain ⟨fs, hr, hrun, hended, hW, hsame⟩ := X4.leave (v := none) (fun _ => rfl)
  refine ⟨_, _, pre0 _ ?_, hrun, hended, _, _, rfl, ?_, ⟨_, rfl⟩, hW, hsame.mono (by decide) (by decide)⟩
  · show Steps p.tables e below (s₁.setTop (mkF m 0 #[.val (.ref a1), .val (.ref a2)] [])) _
    refine XS.aloadN X0.here hx rfl (hb hby d3_0) rfl rfl ?_
    show Steps p.tables e below (s₁.setTop (mkF m 1 #[.val (.ref a1), .val (.ref a2)] [(.ref a1)])) _
    refine st3 _ ?_
    show Steps p.tables e below (T3.setTop (mkF m 4 #[.val (.ref a1), .val (.ref a2)] [])) _
    refine XS.aloadN X3.here hx rfl (hb hby d3_4) rfl rfl ?_
    show Steps p.tables e below (T3.setTop (mkF m 5 #[.val (.ref a1), .val (.ref a2)] [(.ref a1)])) _
    refine XS.aloadN X3.here hx rfl (hb hby d3_5) rfl rfl ?_
    show Steps p.tables e below (T3.setTop (mkF m 6 #[.val (.ref a1), .val (.ref a2)] [(.ref a2), (.ref a1)])) _
    refine st4 _ ?_
    show Steps p.tables e below (T4.setTop (mkF m 9 #[.val (.ref a1), .val (.ref a2)] [])) _
    exact X4.returnOut hx Bd.returns (hb hby d3_9) hr
  · show Q3 Z a1 a2 u_parts_a1 h0 n0 _ T4.heap _
    rw [e4]
    exact ⟨rfl, N4, K4, (E_a1.wr W4), Fw4⟩
theorem d6_0 : decode prog_87_method_4_code 0 = .ok (.aload_n 0, 1) := by decide +kernel
theorem d6_1 : decode prog_87_method_4_code 1 = .ok (.getfield 7, 3) := by decide +kernel
theorem d6_4 : decode prog_87_method_4_code 4 = .ok (.arraylength, 1) := by decide +kernel
theorem d6_5 : decode prog_87_method_4_code 5 = .ok (.ireturn, 1) := by decide +kernel
theorem pn_6 : plainName "com/example/updrift/updrift/model/ReleaseNumber" = true := by first | (simp [plainName, overriddenIn]; done) | decide +kernel
theorem ef_6 (m : MethodId) (x0 : Addr) : entryFrame m #[(.ref x0)] 1 = mkF m 0 #[.val (.ref x0)] [] := by first | (simp [entryFrame, mkF, argsToLocals, Value.category]; done) | rfl
def Q6 (Z : State) (a1 : Addr) (t : Addr) (n : Nat) (f : Nat → Int64) (h0 : Heap) (n0 : Nat) (v : Option Value) (h : Heap) (L : List Loc) : Prop := v = some (.int (Int32.ofNat n)) ∧ Fr n0 L ∧ h = h0
set_option maxRecDepth 65536 in
set_option maxHeartbeats 40000000 in
theorem rm6 (l : Launch) (Z : State) (a0 : Array Value) (hw : ∀ d ∈ tables_1, d.before a0 Z = true) (ws : List Jvm.Cond) (a1 : Addr) (t : Addr) (n : Nat) (f : Nat → Int64) (h0 : Heap) (n0 : Nat) (Z0 : n0 ≤ h0.size) (hn : n ≤ 3) (F_parts_a1 : Fld Z h0 a1 "com/example/updrift/updrift/model/ReleaseNumber" "parts" "[J" (.ref t)) (V : own_L Z h0 t n f) :
    MetFree l (⟨"com/example/updrift/updrift/model/ReleaseNumber", "partCount", "()I"⟩ : MethodName) (head1 (Jvm.Cond.code (⟨"com/example/updrift/updrift/model/ReleaseNumber", "partCount", "()I"⟩ : MethodName) prog_87_method_4_code 1 (some .int) :: ws) ({ frames := 0, cells := 0, slots := 0, locals := 0 } : Room)) (fun a U => a = #[(.ref a1)] ∧ Z.Warmed39 U.vm ∧ U.heap = h0) (fun _ _ _ _ _ => True) (fun _ U o U' => ∃ v L, o = .returned v ∧ Q6 Z a1 t n f h0 n0 v U'.heap L ∧ FrameEnd U o U' L ({ frames := 0, cells := 0, slots := 0, locals := 0 } : Room).cells ({ frames := 0, cells := 0, slots := 0, locals := 0 } : Room).slots) := by
  refine MetFree.of_bodySF (plainFor_of_name pn_6) hisR ?_
  intro p e s m args below meth c s₁ Bd hml0 hP hK
  obtain ⟨rfl, hZ, hh⟩ := hP
  have hx := Bd.exec
  have hby := Bd.bytes
  have hml : c.maxLocals = 1 := hml0
  have hown : s.vm.findClass "com/example/updrift/updrift/model/ReleaseNumber" = some m.cls := findClass_of_methodNamed Bd.named
  have hnm := (name_of_methodNamed Bd.named Bd.method).1
  have X0 : Stand p l e ({ frames := 0, cells := 0, slots := 0, locals := 0 } : Room) s m #[(.ref a1)] below meth c s₁ [] 0 0 := Stand.of_body Bd
  have e0 : s₁.heap = h0 := by rw [← hh, Bd.state]; rfl
  have N0 := Fr.nil n0
  have pre0 : ∀ t, Steps p.tables e below (s₁.setTop (mkF m 0 #[.val (.ref a1)] [])) t → Steps p.tables e below (s₁.setTop (entryFrame m #[(.ref a1)] 1)) t := fun t k => castTop (ef_6 m a1) k
  obtain ⟨cl_t, Ar_t, S_q, H_q⟩ := V
  have S_t : cl_t.slots.size = (Int32.ofNat n).toNatClampNeg := by rw [S_q, own_n32 hn]
  have N_t : ¬ Int32.ofNat n < 0 := own_nn hn
  obtain ⟨T3, X3, e3, st3⟩ := getF X0 hx hZ hown (host := "") (Or.inl (hw _ (List.mem_of_getElem? (i := 27) rfl))) Via.refl e0 F_parts_a1 (g := (mkF m 1 #[.val (.ref a1)] [(.ref a1)])) rfl rfl (hb hby d6_1)
  obtain ⟨fs, hr, hrun, hended, hW, hsame⟩ := X3.leave (v := some (.int (Int32.ofNat n))) (fun h => by rw [Bd.returns] at h; cases h)
  refine ⟨_, _, pre0 _ ?_, hrun, hended, _, _, rfl, ?_, ⟨_, rfl⟩, hW, hsame.mono (by decide) (by decide)⟩
  · show Steps p.tables e below (s₁.setTop (mkF m 0 #[.val (.ref a1)] [])) _
    refine XS.aloadN X0.here hx rfl (hb hby d6_0) rfl rfl ?_
    show Steps p.tables e below (s₁.setTop (mkF m 1 #[.val (.ref a1)] [(.ref a1)])) _
    refine st3 _ ?_
    show Steps p.tables e below (T3.setTop (mkF m 4 #[.val (.ref a1)] [(.ref t)])) _
    refine X3.arraylength hx (by rw [e3]; exact Ar_t.1) (State.isArrayOf_alike hZ.alike Ar_t.2.1) (g := (mkF m 4 #[.val (.ref a1)] [(.ref t)])) rfl rfl (hb hby d6_4) _ ?_
    rw [len_of S_t N_t]
    show Steps p.tables e below (T3.setTop (mkF m 5 #[.val (.ref a1)] [(.int (Int32.ofNat n))])) _
    exact retI X3 hx Bd.returns (hb hby d6_5) hr
  · show Q6 Z a1 t n f h0 n0 _ T3.heap _
    rw [e3]
    exact ⟨rfl, N0, rfl⟩
def Q9 (Z : State) (a1 : Addr) (p2 : Int32) (t : Addr) (n : Nat) (f : Nat → Int64) (i : Nat) (h0 : Heap) (n0 : Nat) (v : Option Value) (h : Heap) (L : List Loc) : Prop := v = some (.long (own_part n f i)) ∧ Fr n0 L ∧ h = h0
theorem d9_0 : decode prog_87_method_9_code 0 = .ok (.iload_n 1, 1) := by decide +kernel
theorem d9_1 : decode prog_87_method_9_code 1 = .ok (.aload_n 0, 1) := by decide +kernel
theorem d9_2 : decode prog_87_method_9_code 2 = .ok (.getfield 7, 3) := by decide +kernel
theorem d9_5 : decode prog_87_method_9_code 5 = .ok (.arraylength, 1) := by decide +kernel
theorem d9_6 : decode prog_87_method_9_code 6 = .ok (.if_icmp .ge 12, 3) := by decide +kernel
theorem d9_9 : decode prog_87_method_9_code 9 = .ok (.aload_n 0, 1) := by decide +kernel
theorem d9_10 : decode prog_87_method_9_code 10 = .ok (.getfield 7, 3) := by decide +kernel
theorem d9_13 : decode prog_87_method_9_code 13 = .ok (.iload_n 1, 1) := by decide +kernel
theorem d9_14 : decode prog_87_method_9_code 14 = .ok (.laload, 1) := by decide +kernel
theorem d9_15 : decode prog_87_method_9_code 15 = .ok (.goto 4, 3) := by decide +kernel
theorem d9_19 : decode prog_87_method_9_code 19 = .ok (.lreturn, 1) := by decide +kernel
theorem pn_9 : plainName "com/example/updrift/updrift/model/ReleaseNumber" = true := by first | (simp [plainName, overriddenIn]; done) | decide +kernel
theorem ef_9 (m : MethodId) (x0 : Addr) (x1 : Int32) : entryFrame m #[(.ref x0), (.int x1)] 2 = mkF m 0 #[.val (.ref x0), .val (.int x1)] [] := by first | (simp [entryFrame, mkF, argsToLocals, Value.category]; done) | rfl
set_option maxRecDepth 65536 in
set_option maxHeartbeats 40000000 in
theorem rm9_f (l : Launch) (Z : State) (a0 : Array Value) (hw : ∀ d ∈ tables_1, d.before a0 Z = true) (ws : List Jvm.Cond) (a1 : Addr) (p2 : Int32) (t : Addr) (n : Nat) (f : Nat → Int64) (i : Nat) (h0 : Heap) (n0 : Nat) (Z0 : n0 ≤ h0.size) (hn : n ≤ 3) (hi : i ≤ 3) (hp2 : p2 = Int32.ofNat i) (F_parts_a1 : Fld Z h0 a1 "com/example/updrift/updrift/model/ReleaseNumber" "parts" "[J" (.ref t)) (V : own_L Z h0 t n f) (hc6q : i < n) :
    MetFree l (⟨"com/example/updrift/updrift/model/ReleaseNumber", "part", "(I)J"⟩ : MethodName) (head1 (Jvm.Cond.code (⟨"com/example/updrift/updrift/model/ReleaseNumber", "part", "(I)J"⟩ : MethodName) prog_87_method_9_code 2 (some .long) :: ws) ({ frames := 0, cells := 0, slots := 0, locals := 0 } : Room)) (fun a U => a = #[(.ref a1), (.int p2)] ∧ Z.Warmed39 U.vm ∧ U.heap = h0) (fun _ _ _ _ _ => True) (fun _ U o U' => ∃ v L, o = .returned v ∧ Q9 Z a1 p2 t n f i h0 n0 v U'.heap L ∧ FrameEnd U o U' L ({ frames := 0, cells := 0, slots := 0, locals := 0 } : Room).cells ({ frames := 0, cells := 0, slots := 0, locals := 0 } : Room).slots) := by
  refine MetFree.of_bodySF (plainFor_of_name pn_9) hisR ?_
  intro p e s m args below meth c s₁ Bd hml0 hP hK
  obtain ⟨rfl, hZ, hh⟩ := hP
  have hx := Bd.exec
  have hby := Bd.bytes
  have hml : c.maxLocals = 2 := hml0
  have hown : s.vm.findClass "com/example/updrift/updrift/model/ReleaseNumber" = some m.cls := findClass_of_methodNamed Bd.named
  have hnm := (name_of_methodNamed Bd.named Bd.method).1
  have X0 : Stand p l e ({ frames := 0, cells := 0, slots := 0, locals := 0 } : Room) s m #[(.ref a1), (.int p2)] below meth c s₁ [] 0 0 := Stand.of_body Bd
  have e0 : s₁.heap = h0 := by rw [← hh, Bd.state]; rfl
  have N0 := Fr.nil n0
  have pre0 : ∀ t, Steps p.tables e below (s₁.setTop (mkF m 0 #[.val (.ref a1), .val (.int p2)] [])) t → Steps p.tables e below (s₁.setTop (entryFrame m #[(.ref a1), (.int p2)] 2)) t := fun t k => castTop (ef_9 m a1 p2) k
  obtain ⟨cl_t, Ar_t, S_q, H_q⟩ := V
  have S_t : cl_t.slots.size = (Int32.ofNat n).toNatClampNeg := by rw [S_q, own_n32 hn]
  have N_t : ¬ Int32.ofNat n < 0 := own_nn hn
  have h32 : p2.toNatClampNeg = i := by rw [hp2]; exact own_n32 hi
  have hin14 : ¬ (p2 < 0 ∨ cl_t.slots.size ≤ p2.toNatClampNeg) := by rw [S_q, h32, hp2]; exact fun q => q.elim (own_nn hi) (fun q => by omega)
  have hat14 : cl_t.slots[p2.toNatClampNeg]? = some (.long (f i)) := by rw [h32]; exact H_q i hc6q
  have hc6 : p2 < Int32.ofNat n := by rw [hp2]; exact own_lt hc6q hn
  obtain ⟨T4, X4, e4, st4⟩ := getF X0 hx hZ hown (host := "") (Or.inl (hw _ (List.mem_of_getElem? (i := 27) rfl))) Via.refl e0 F_parts_a1 (g := (mkF m 2 #[.val (.ref a1), .val (.int p2)] [(.ref a1), (.int p2)])) rfl rfl (hb hby d9_2)
  obtain ⟨T5, X5, e5, st5⟩ := getF X4 hx hZ hown (host := "") (Or.inl (hw _ (List.mem_of_getElem? (i := 27) rfl))) Via.refl e4 F_parts_a1 (g := (mkF m 10 #[.val (.ref a1), .val (.int p2)] [(.ref a1)])) rfl rfl (hb hby d9_10)
  obtain ⟨fs, hr, hrun, hended, hW, hsame⟩ := X5.leave (v := some (.long (f i))) (fun h => by rw [Bd.returns] at h; cases h)
  refine ⟨_, _, pre0 _ ?_, hrun, hended, _, _, rfl, ?_, ⟨_, rfl⟩, hW, hsame.mono (by decide) (by decide)⟩
  · show Steps p.tables e below (s₁.setTop (mkF m 0 #[.val (.ref a1), .val (.int p2)] [])) _
    refine XS.iloadN X0.here hx rfl (hb hby d9_0) rfl ?_
    show Steps p.tables e below (s₁.setTop (mkF m 1 #[.val (.ref a1), .val (.int p2)] [(.int p2)])) _
    refine XS.aloadN X0.here hx rfl (hb hby d9_1) rfl rfl ?_
    show Steps p.tables e below (s₁.setTop (mkF m 2 #[.val (.ref a1), .val (.int p2)] [(.ref a1), (.int p2)])) _
    refine st4 _ ?_
    show Steps p.tables e below (T4.setTop (mkF m 5 #[.val (.ref a1), .val (.int p2)] [(.ref t), (.int p2)])) _
    refine X4.arraylength hx (by rw [e4]; exact Ar_t.1) (State.isArrayOf_alike hZ.alike Ar_t.2.1) (g := (mkF m 5 #[.val (.ref a1), .val (.int p2)] [(.ref t), (.int p2)])) rfl rfl (hb hby d9_5) _ ?_
    rw [len_of S_t N_t]
    show Steps p.tables e below (T4.setTop (mkF m 6 #[.val (.ref a1), .val (.int p2)] [(.int (Int32.ofNat n)), (.int p2)])) _
    refine XS.icmpNo X4.here hx rfl (hb hby d9_6) rfl (tlt hc6).2.1 ?_
    show Steps p.tables e below (T4.setTop (mkF m 9 #[.val (.ref a1), .val (.int p2)] [])) _
    refine XS.aloadN X4.here hx rfl (hb hby d9_9) rfl rfl ?_
    show Steps p.tables e below (T4.setTop (mkF m 10 #[.val (.ref a1), .val (.int p2)] [(.ref a1)])) _
    refine st5 _ ?_
    show Steps p.tables e below (T5.setTop (mkF m 13 #[.val (.ref a1), .val (.int p2)] [(.ref t)])) _
    refine XS.iloadN X5.here hx rfl (hb hby d9_13) rfl ?_
    show Steps p.tables e below (T5.setTop (mkF m 14 #[.val (.ref a1), .val (.int p2)] [(.int p2), (.ref t)])) _
    refine X5.laload hx (j := p2) (v := (.long (f i))) (by rw [e5]; exact Ar_t.1) (State.isArrayOf_alike hZ.alike Ar_t.2.1) Ar_t.2.2 hin14 hat14 (g := (mkF m 14 #[.val (.ref a1), .val (.int p2)] [(.int p2), (.ref t)])) rfl rfl (hb hby d9_14) _ ?_
    show Steps p.tables e below (T5.setTop (mkF m 15 #[.val (.ref a1), .val (.int p2)] [(.long (f i))])) _
    refine XS.goto X5.here hx rfl (pc0 := 15) (pc' := 19) rfl (hb hby d9_15) (by decide) (by decide) ?_
    show Steps p.tables e below (T5.setTop (mkF m 19 #[.val (.ref a1), .val (.int p2)] [(.long (f i))])) _
    jvm_step X5.here [X5.here.top, hx, (hb hby d9_19), X5.method', Bd.returns, narrow]
    first | (intro acts; rw [hr _ acts rfl rfl rfl]) | rw [hr _ _ rfl rfl rfl]
    exact Steps.refl _
  · show Q9 Z a1 p2 t n f i h0 n0 _ T5.heap _
    rw [e5]
    exact ⟨by unfold own_part; rw [if_pos hc6q], N0, rfl⟩
theorem d9_18 : decode prog_87_method_9_code 18 = .ok (.lconst 0, 1) := by decide +kernel
set_option maxRecDepth 65536 in
set_option maxHeartbeats 40000000 in
theorem rm9_t (l : Launch) (Z : State) (a0 : Array Value) (hw : ∀ d ∈ tables_1, d.before a0 Z = true) (ws : List Jvm.Cond) (a1 : Addr) (p2 : Int32) (t : Addr) (n : Nat) (f : Nat → Int64) (i : Nat) (h0 : Heap) (n0 : Nat) (Z0 : n0 ≤ h0.size) (hn : n ≤ 3) (hi : i ≤ 3) (hp2 : p2 = Int32.ofNat i) (F_parts_a1 : Fld Z h0 a1 "com/example/updrift/updrift/model/ReleaseNumber" "parts" "[J" (.ref t)) (V : own_L Z h0 t n f) (hc6q : ¬ i < n) :
    MetFree l (⟨"com/example/updrift/updrift/model/ReleaseNumber", "part", "(I)J"⟩ : MethodName) (head1 (Jvm.Cond.code (⟨"com/example/updrift/updrift/model/ReleaseNumber", "part", "(I)J"⟩ : MethodName) prog_87_method_9_code 2 (some .long) :: ws) ({ frames := 0, cells := 0, slots := 0, locals := 0 } : Room)) (fun a U => a = #[(.ref a1), (.int p2)] ∧ Z.Warmed39 U.vm ∧ U.heap = h0) (fun _ _ _ _ _ => True) (fun _ U o U' => ∃ v L, o = .returned v ∧ Q9 Z a1 p2 t n f i h0 n0 v U'.heap L ∧ FrameEnd U o U' L ({ frames := 0, cells := 0, slots := 0, locals := 0 } : Room).cells ({ frames := 0, cells := 0, slots := 0, locals := 0 } : Room).slots) := by
  refine MetFree.of_bodySF (plainFor_of_name pn_9) hisR ?_
  intro p e s m args below meth c s₁ Bd hml0 hP hK
  obtain ⟨rfl, hZ, hh⟩ := hP
  have hx := Bd.exec
  have hby := Bd.bytes
  have hml : c.maxLocals = 2 := hml0
  have hown : s.vm.findClass "com/example/updrift/updrift/model/ReleaseNumber" = some m.cls := findClass_of_methodNamed Bd.named
  have hnm := (name_of_methodNamed Bd.named Bd.method).1
  have X0 : Stand p l e ({ frames := 0, cells := 0, slots := 0, locals := 0 } : Room) s m #[(.ref a1), (.int p2)] below meth c s₁ [] 0 0 := Stand.of_body Bd
  have e0 : s₁.heap = h0 := by rw [← hh, Bd.state]; rfl
  have N0 := Fr.nil n0
  have pre0 : ∀ t, Steps p.tables e below (s₁.setTop (mkF m 0 #[.val (.ref a1), .val (.int p2)] [])) t → Steps p.tables e below (s₁.setTop (entryFrame m #[(.ref a1), (.int p2)] 2)) t := fun t k => castTop (ef_9 m a1 p2) k
  obtain ⟨cl_t, Ar_t, S_q, H_q⟩ := V
  have S_t : cl_t.slots.size = (Int32.ofNat n).toNatClampNeg := by rw [S_q, own_n32 hn]
  have N_t : ¬ Int32.ofNat n < 0 := own_nn hn
  have hc6 : ¬ (p2 < Int32.ofNat n) := by
    rw [hp2, Int32.lt_iff_toInt_lt, Int32.toInt_ofNat_of_lt (by omega), Int32.toInt_ofNat_of_lt (by omega)]; omega
  obtain ⟨T4, X4, e4, st4⟩ := getF X0 hx hZ hown (host := "") (Or.inl (hw _ (List.mem_of_getElem? (i := 27) rfl))) Via.refl e0 F_parts_a1 (g := (mkF m 2 #[.val (.ref a1), .val (.int p2)] [(.ref a1), (.int p2)])) rfl rfl (hb hby d9_2)
  obtain ⟨fs, hr, hrun, hended, hW, hsame⟩ := X4.leave (v := some (.long (0 : Int64))) (fun h => by rw [Bd.returns] at h; cases h)
  refine ⟨_, _, pre0 _ ?_, hrun, hended, _, _, rfl, ?_, ⟨_, rfl⟩, hW, hsame.mono (by decide) (by decide)⟩
  · show Steps p.tables e below (s₁.setTop (mkF m 0 #[.val (.ref a1), .val (.int p2)] [])) _
    refine XS.iloadN X0.here hx rfl (hb hby d9_0) rfl ?_
    show Steps p.tables e below (s₁.setTop (mkF m 1 #[.val (.ref a1), .val (.int p2)] [(.int p2)])) _
    refine XS.aloadN X0.here hx rfl (hb hby d9_1) rfl rfl ?_
    show Steps p.tables e below (s₁.setTop (mkF m 2 #[.val (.ref a1), .val (.int p2)] [(.ref a1), (.int p2)])) _
    refine st4 _ ?_
    show Steps p.tables e below (T4.setTop (mkF m 5 #[.val (.ref a1), .val (.int p2)] [(.ref t), (.int p2)])) _
    refine X4.arraylength hx (by rw [e4]; exact Ar_t.1) (State.isArrayOf_alike hZ.alike Ar_t.2.1) (g := (mkF m 5 #[.val (.ref a1), .val (.int p2)] [(.ref t), (.int p2)])) rfl rfl (hb hby d9_5) _ ?_
    rw [len_of S_t N_t]
    show Steps p.tables e below (T4.setTop (mkF m 6 #[.val (.ref a1), .val (.int p2)] [(.int (Int32.ofNat n)), (.int p2)])) _
    refine XS.icmpYes X4.here hx rfl (pc0 := 6) (pc' := 18) rfl (hb hby d9_6) rfl (flt hc6).2.1 (by decide) (by decide) ?_
    show Steps p.tables e below (T4.setTop (mkF m 18 #[.val (.ref a1), .val (.int p2)] [])) _
    refine XS.lconst X4.here hx rfl (hb hby d9_18) ?_
    show Steps p.tables e below (T4.setTop (mkF m 19 #[.val (.ref a1), .val (.int p2)] [(.long (0 : Int64))])) _
    jvm_step X4.here [X4.here.top, hx, (hb hby d9_19), X4.method', Bd.returns, narrow]
    first | (intro acts; rw [hr _ acts rfl rfl rfl]) | rw [hr _ _ rfl rfl rfl]
    exact Steps.refl _
  · show Q9 Z a1 p2 t n f i h0 n0 _ T4.heap _
    rw [e4]
    exact ⟨by unfold own_part; rw [if_neg hc6q], N0, rfl⟩
theorem rm9 (l : Launch) (Z : State) (a0 : Array Value) (hw : ∀ d ∈ tables_1, d.before a0 Z = true) (ws : List Jvm.Cond) (a1 : Addr) (p2 : Int32) (t : Addr) (n : Nat) (f : Nat → Int64) (i : Nat) (h0 : Heap) (n0 : Nat) (Z0 : n0 ≤ h0.size) (hn : n ≤ 3) (hi : i ≤ 3) (hp2 : p2 = Int32.ofNat i) (F_parts_a1 : Fld Z h0 a1 "com/example/updrift/updrift/model/ReleaseNumber" "parts" "[J" (.ref t)) (V : own_L Z h0 t n f) :
    MetFree l (⟨"com/example/updrift/updrift/model/ReleaseNumber", "part", "(I)J"⟩ : MethodName) (head1 (Jvm.Cond.code (⟨"com/example/updrift/updrift/model/ReleaseNumber", "part", "(I)J"⟩ : MethodName) prog_87_method_9_code 2 (some .long) :: ws) ({ frames := 0, cells := 0, slots := 0, locals := 0 } : Room)) (fun a U => a = #[(.ref a1), (.int p2)] ∧ Z.Warmed39 U.vm ∧ U.heap = h0) (fun _ _ _ _ _ => True) (fun _ U o U' => ∃ v L, o = .returned v ∧ Q9 Z a1 p2 t n f i h0 n0 v U'.heap L ∧ FrameEnd U o U' L ({ frames := 0, cells := 0, slots := 0, locals := 0 } : Room).cells ({ frames := 0, cells := 0, slots := 0, locals := 0 } : Room).slots) := by
  by_cases hc6q : i < n
  · exact rm9_f l Z a0 hw ws a1 p2 t n f i h0 n0 Z0 hn hi hp2 F_parts_a1 V hc6q
  · exact rm9_t l Z a0 hw ws a1 p2 t n f i h0 n0 Z0 hn hi hp2 F_parts_a1 V hc6q
theorem d7_4 : decode prog_87_method_5_code 4 = .ok (.iload_n 2, 1) := by decide +kernel
theorem d7_5 : decode prog_87_method_5_code 5 = .ok (.ifCond .ne 40, 3) := by decide +kernel
theorem d7_8 : decode prog_87_method_5_code 8 = .ok (.iload_n 3, 1) := by decide +kernel
theorem d7_9 : decode prog_87_method_5_code 9 = .ok (.aload_n 0, 1) := by decide +kernel
theorem d7_10 : decode prog_87_method_5_code 10 = .ok (.getfield 7, 3) := by decide +kernel
theorem d7_13 : decode prog_87_method_5_code 13 = .ok (.arraylength, 1) := by decide +kernel
theorem d7_14 : decode prog_87_method_5_code 14 = .ok (.aload_n 1, 1) := by decide +kernel
theorem d7_15 : decode prog_87_method_5_code 15 = .ok (.getfield 7, 3) := by decide +kernel
theorem d7_18 : decode prog_87_method_5_code 18 = .ok (.arraylength, 1) := by decide +kernel
theorem d7_19 : decode prog_87_method_5_code 19 = .ok (.invokestatic 72, 3) := by decide +kernel
theorem d7_22 : decode prog_87_method_5_code 22 = .ok (.if_icmp .ge 23, 3) := by decide +kernel
theorem d7_25 : decode prog_87_method_5_code 25 = .ok (.aload_n 0, 1) := by decide +kernel
theorem d7_26 : decode prog_87_method_5_code 26 = .ok (.iload_n 3, 1) := by decide +kernel
theorem d7_27 : decode prog_87_method_5_code 27 = .ok (.invokevirtual 78, 3) := by decide +kernel
theorem d7_30 : decode prog_87_method_5_code 30 = .ok (.aload_n 1, 1) := by decide +kernel
theorem d7_31 : decode prog_87_method_5_code 31 = .ok (.iload_n 3, 1) := by decide +kernel
theorem d7_32 : decode prog_87_method_5_code 32 = .ok (.invokevirtual 78, 3) := by decide +kernel
theorem d7_35 : decode prog_87_method_5_code 35 = .ok (.invokestatic 82, 3) := by decide +kernel
theorem d7_38 : decode prog_87_method_5_code 38 = .ok (.istore_n 2, 1) := by decide +kernel
theorem d7_39 : decode prog_87_method_5_code 39 = .ok (.iinc 3 1, 3) := by decide +kernel
theorem d7_42 : decode prog_87_method_5_code 42 = .ok (.goto (-38), 3) := by decide +kernel
theorem pd_7_8 : parseMethodDescriptor "(II)I" = some ⟨[.int, .int], some .int⟩ := by decide +kernel
theorem pd_7_9 : parseMethodDescriptor "(I)J" = some ⟨[.int], some .long⟩ := by decide +kernel
theorem pd_7_5 : parseMethodDescriptor "(JJ)I" = some ⟨[.long, .long], some .int⟩ := by decide +kernel
set_option maxRecDepth 65536 in
set_option maxHeartbeats 40000000 in
theorem tn7_4_4 {p : Program} {l : Launch} {e : Env} {s : State} {m : MethodId} {args : Array Value} {below : List Frame} {meth : Method} {c : Code} {T0 : State} {locs : List Loc} {Z : State} {a0 : Array Value} {h0 : Heap} {n0 : Nat} (o0 : Addr) (o1 : Addr) (i3 : Int32) (i : Nat) (t t2 : Addr) (n n2 : Nat) (f f2 : Nat → Int64)
    (X0 : Stand p l e ({ frames := 1, cells := 0, slots := 0, locals := 18 } : Room) s m args below meth c T0 locs 0 0) (hx : p.tables.exec = Jvm.exec) (hZ : Z.Warmed39 s.vm) (hw : ∀ d ∈ tables_1, d.before a0 Z = true) (hby : c.code = prog_87_method_5_code) (hml : c.maxLocals = 4) (hown : s.vm.findClass "com/example/updrift/updrift/model/ReleaseNumber" = some m.cls) (e0 : T0.heap = h0) (N0 : Fr n0 locs) (Z0 : n0 ≤ h0.size) (hn : n ≤ 3) (hn2 : n2 ≤ 3) (hi3 : i ≤ 3) (h3 : i3 = Int32.ofNat i) (E_o0 : Exa Z h0 o0 "com/example/updrift/updrift/model/ReleaseNumber") (E_o1 : Exa Z h0 o1 "com/example/updrift/updrift/model/ReleaseNumber") (F0 : Fld Z h0 o0 "com/example/updrift/updrift/model/ReleaseNumber" "parts" "[J" (.ref t)) (F1 : Fld Z h0 o1 "com/example/updrift/updrift/model/ReleaseNumber" "parts" "[J" (.ref t2)) (V0 : own_L Z h0 t n f) (V1 : own_L Z h0 t2 n2 f2) (hlt : i3 < own_mx (Int32.ofNat n) (Int32.ofNat n2)) :
    ∃ (T' : State) (locs' : List Loc), Stand p l e ({ frames := 1, cells := 0, slots := 0, locals := 18 } : Room) s m args below meth c T' locs' 0 0 ∧ T'.heap = h0 ∧ Fr n0 locs' ∧
      ∀ target, Steps p.tables e below (T'.setTop (mkF m 4 #[.val (.ref o0), .val (.ref o1), .val (.int (own_lc (own_part n f i) (own_part n2 f2 i))), .val (.int (i3 + (1 : Int32)))] [])) target → Steps p.tables e below (T0.setTop (mkF m 4 #[.val (.ref o0), .val (.ref o1), .val (.int (0 : Int32)), .val (.int i3)] [])) target := by
  have hc5 : (0 : Int32) = (0 : Int32) := rfl
  have F_parts_o0 := F0
  have F_parts_o1 := F1
  obtain ⟨cl_t, Ar_t, S_q, H_q⟩ := V0
  obtain ⟨cl_t2, Ar_t2, S_q2, H_q2⟩ := V1
  have S_t : cl_t.slots.size = (Int32.ofNat n).toNatClampNeg := by rw [S_q, own_n32 hn]
  have N_t : ¬ Int32.ofNat n < 0 := own_nn hn
  have S_t2 : cl_t2.slots.size = (Int32.ofNat n2).toNatClampNeg := by rw [S_q2, own_n32 hn2]
  have N_t2 : ¬ Int32.ofNat n2 < 0 := own_nn hn2
  have V0 : own_L Z h0 t n f := ⟨cl_t, Ar_t, S_q, H_q⟩
  have V1 : own_L Z h0 t2 n2 f2 := ⟨cl_t2, Ar_t2, S_q2, H_q2⟩
  obtain ⟨T4, X4, e4, st4⟩ := getF X0 hx hZ hown (host := "") (Or.inl (hw _ (List.mem_of_getElem? (i := 27) rfl))) Via.refl e0 F_parts_o0 (g := (mkF m 10 #[.val (.ref o0), .val (.ref o1), .val (.int (0 : Int32)), .val (.int i3)] [(.ref o0), (.int i3)])) rfl rfl (hb hby d7_10)
  obtain ⟨T6, X6, e6, st6⟩ := getF X4 hx hZ hown (host := "") (Or.inl (hw _ (List.mem_of_getElem? (i := 27) rfl))) Via.refl e4 F_parts_o1 (g := (mkF m 15 #[.val (.ref o0), .val (.ref o1), .val (.int (0 : Int32)), .val (.int i3)] [(.ref o1), (.int (Int32.ofNat n)), (.int i3)])) rfl rfl (hb hby d7_15)
  obtain ⟨_, _, ⟨T7, L7, k7, n7⟩, -, X7, ⟨Lc7, hQ7, l7, y7, z7⟩, st7⟩ := Jvm.LawKit.callS X6 hx (y := (⟨"java/lang/Math", "max", "(II)I"⟩ : MethodName)) hown (mvT hZ (hw _ (List.mem_of_getElem? (i := 42) rfl))) (mvT hZ (hw _ (List.mem_of_getElem? (i := 43) rfl))) (mvT hZ (hw _ (List.mem_of_getElem? (i := 44) rfl))) (mvT hZ (hw _ (List.mem_of_getElem? (i := 45) rfl))) (by decide) (backOf (W := 1) (rm8 l Z a0 hw [] (Int32.ofNat n) (Int32.ofNat n2)  h0 n0 Z0) hZ (hw _ (List.mem_of_getElem? (i := 45) rfl)) (hw _ (List.mem_of_getElem? (i := 44) rfl)) (by decide) (by decide)) (g := (mkF m 19 #[.val (.ref o0), .val (.ref o1), .val (.int (0 : Int32)), .val (.int i3)] [(.int (Int32.ofNat n2)), (.int (Int32.ofNat n)), (.int i3)])) rfl (by rw [hml]; rfl) (argsL := [(.int (Int32.ofNat n)), (.int (Int32.ofNat n2))]) (rest := [(.int i3)]) (lenOf pd_7_8 rfl) rfl (by show 2 * 0 + _ ≤ _; exact Nat.le_of_eq rfl) (hb hby d7_19) (fun _ _ => ⟨rfl, e6, (by decide : 0 + 0 ≤ _), (by decide : 0 + 0 ≤ _)⟩)
  dsimp only [Pt.U, Pt.locs, Pt.cells, Pt.slots] at X7 l7 y7 z7 st7 hQ7
  subst l7 y7 z7
  obtain ⟨rfl, N7q, e7q⟩ := hQ7
  have N7 := Fr.app N0 N7q
  have e7h : T7.heap = h0 := e7q
  have z7q : n0 ≤ T7.heap.size := by rw [e7h]; exact Z0
  obtain ⟨cq8, q8, q8'⟩ := (show Exa Z T7.heap o0 "com/example/updrift/updrift/model/ReleaseNumber" by rw [e7h]; exact E_o0).cell
  obtain ⟨_, _, ⟨T8, L8, k8, n8⟩, -, X8, ⟨Lc8, hQ8, l8, y8, z8⟩, st8⟩ := X7.privateBack hx (y := (⟨"com/example/updrift/updrift/model/ReleaseNumber", "part", "(I)J"⟩ : MethodName)) hown (mvT hZ (hw _ (List.mem_of_getElem? (i := 46) rfl))) (mvT hZ (hw _ (List.mem_of_getElem? (i := 47) rfl))) (mvT hZ (Jvm.Kit.selects_private (y := (⟨"com/example/updrift/updrift/model/ReleaseNumber", "part", "(I)J"⟩ : MethodName)) (n := 1) ⟨by decide, by decide⟩ (hw _ (List.mem_of_getElem? (i := 11) rfl)) (hw _ (List.mem_of_getElem? (i := 48) rfl)) (hw _ (List.mem_of_getElem? (i := 47) rfl)))) (Cond.privateMethod_at (mvP hZ (hw _ (List.mem_of_getElem? (i := 48) rfl)) (args := #[]))) (mvT hZ (hw _ (List.mem_of_getElem? (i := 49) rfl))) (by decide) (backOf (W := 0) (rm9 l Z a0 hw [] o0 i3 t n f i T7.heap n0 z7q hn hi3 h3 (by rw [e7h]; exact F0) (by rw [e7h]; exact V0)) hZ (hw _ (List.mem_of_getElem? (i := 49) rfl)) (hw _ (List.mem_of_getElem? (i := 8) rfl)) (by decide) (by decide)) (g := (mkF m 27 #[.val (.ref o0), .val (.ref o1), .val (.int (0 : Int32)), .val (.int i3)] [(.int i3), (.ref o0)])) rfl (by rw [hml]; rfl) (Steps.refl _) (a := o0) q8 q8' (argsL := [(.int i3)]) (rest := []) (lenOf pd_7_9 rfl) rfl (by show 2 * 0 + _ ≤ _; exact Nat.le_of_eq rfl) (hb hby d7_27) (fun _ _ => ⟨rfl, rfl, (by decide : 0 + 0 ≤ _), (by decide : 0 + 0 ≤ _)⟩)
  dsimp only [Pt.U, Pt.locs, Pt.cells, Pt.slots] at X8 l8 y8 z8 st8 hQ8
  subst l8 y8 z8
  obtain ⟨rfl, N8q, e8q⟩ := hQ8
  have N8 := Fr.app N7 N8q
  have e8h : T8.heap = h0 := e8q.trans e7h
  have z8q : n0 ≤ T8.heap.size := by rw [e8h]; exact Z0
  obtain ⟨cq9, q9, q9'⟩ := (show Exa Z T8.heap o1 "com/example/updrift/updrift/model/ReleaseNumber" by rw [e8h]; exact E_o1).cell
  obtain ⟨_, _, ⟨T9, L9, k9, n9⟩, -, X9, ⟨Lc9, hQ9, l9, y9, z9⟩, st9⟩ := X8.privateBack hx (y := (⟨"com/example/updrift/updrift/model/ReleaseNumber", "part", "(I)J"⟩ : MethodName)) hown (mvT hZ (hw _ (List.mem_of_getElem? (i := 46) rfl))) (mvT hZ (hw _ (List.mem_of_getElem? (i := 47) rfl))) (mvT hZ (Jvm.Kit.selects_private (y := (⟨"com/example/updrift/updrift/model/ReleaseNumber", "part", "(I)J"⟩ : MethodName)) (n := 1) ⟨by decide, by decide⟩ (hw _ (List.mem_of_getElem? (i := 11) rfl)) (hw _ (List.mem_of_getElem? (i := 48) rfl)) (hw _ (List.mem_of_getElem? (i := 47) rfl)))) (Cond.privateMethod_at (mvP hZ (hw _ (List.mem_of_getElem? (i := 48) rfl)) (args := #[]))) (mvT hZ (hw _ (List.mem_of_getElem? (i := 49) rfl))) (by decide) (backOf (W := 2) (rm9 l Z a0 hw [] o1 i3 t2 n2 f2 i T8.heap n0 z8q hn2 hi3 h3 (by rw [e8h]; exact F1) (by rw [e8h]; exact V1)) hZ (hw _ (List.mem_of_getElem? (i := 49) rfl)) (hw _ (List.mem_of_getElem? (i := 8) rfl)) (by decide) (by decide)) (g := (mkF m 32 #[.val (.ref o0), .val (.ref o1), .val (.int (0 : Int32)), .val (.int i3)] [(.int i3), (.ref o1), (.long (own_part n f i))])) rfl (by rw [hml]; rfl) (Steps.refl _) (a := o1) q9 q9' (argsL := [(.int i3)]) (rest := [(.long (own_part n f i))]) (lenOf pd_7_9 rfl) rfl (by show 2 * 0 + _ ≤ _; exact Nat.le_of_eq rfl) (hb hby d7_32) (fun _ _ => ⟨rfl, rfl, (by decide : 0 + 0 ≤ _), (by decide : 0 + 0 ≤ _)⟩)
  dsimp only [Pt.U, Pt.locs, Pt.cells, Pt.slots] at X9 l9 y9 z9 st9 hQ9
  subst l9 y9 z9
  obtain ⟨rfl, N9q, e9q⟩ := hQ9
  have N9 := Fr.app N8 N9q
  have e9h : T9.heap = h0 := e9q.trans e8h
  have z9q : n0 ≤ T9.heap.size := by rw [e9h]; exact Z0
  obtain ⟨_, _, ⟨T10, L10, k10, n10⟩, -, X10, ⟨Lc10, hQ10, l10, y10, z10⟩, st10⟩ := Jvm.LawKit.callS X9 hx (y := (⟨"java/lang/Long", "compare", "(JJ)I"⟩ : MethodName)) hown (mvT hZ (hw _ (List.mem_of_getElem? (i := 50) rfl))) (mvT hZ (hw _ (List.mem_of_getElem? (i := 51) rfl))) (mvT hZ (hw _ (List.mem_of_getElem? (i := 52) rfl))) (mvT hZ (hw _ (List.mem_of_getElem? (i := 53) rfl))) (by decide) (backOf (W := 0) (rm10 l Z a0 hw [] (own_part n f i) (own_part n2 f2 i)  T9.heap n0 z9q) hZ (hw _ (List.mem_of_getElem? (i := 53) rfl)) (hw _ (List.mem_of_getElem? (i := 52) rfl)) (by decide) (by decide)) (g := (mkF m 35 #[.val (.ref o0), .val (.ref o1), .val (.int (0 : Int32)), .val (.int i3)] [(.long (own_part n2 f2 i)), (.long (own_part n f i))])) rfl (by rw [hml]; rfl) (argsL := [(.long (own_part n f i)), (.long (own_part n2 f2 i))]) (rest := []) (lenOf pd_7_5 rfl) rfl (by show 2 * 0 + _ ≤ _; exact Nat.le_of_eq rfl) (hb hby d7_35) (fun _ _ => ⟨rfl, rfl, (by decide : 0 + 0 ≤ _), (by decide : 0 + 0 ≤ _)⟩)
  dsimp only [Pt.U, Pt.locs, Pt.cells, Pt.slots] at X10 l10 y10 z10 st10 hQ10
  subst l10 y10 z10
  obtain ⟨rfl, N10q, e10q⟩ := hQ10
  have N10 := Fr.app N9 N10q
  have e10h : T10.heap = h0 := e10q.trans e9h
  have z10q : n0 ≤ T10.heap.size := by rw [e10h]; exact Z0
  refine ⟨T10, _, X10, e10h, N10, fun target kt => ?_⟩
  show Steps p.tables e below (T0.setTop (mkF m 4 #[.val (.ref o0), .val (.ref o1), .val (.int (0 : Int32)), .val (.int i3)] [])) _
  refine XS.iloadN X0.here hx rfl (hb hby d7_4) rfl ?_
  show Steps p.tables e below (T0.setTop (mkF m 5 #[.val (.ref o0), .val (.ref o1), .val (.int (0 : Int32)), .val (.int i3)] [(.int (0 : Int32))])) _
  refine XS.ifNo X0.here hx rfl (hb hby d7_5) rfl ((if0 _ _).trans (teq hc5).2) ?_
  show Steps p.tables e below (T0.setTop (mkF m 8 #[.val (.ref o0), .val (.ref o1), .val (.int (0 : Int32)), .val (.int i3)] [])) _
  refine XS.iloadN X0.here hx rfl (hb hby d7_8) rfl ?_
  show Steps p.tables e below (T0.setTop (mkF m 9 #[.val (.ref o0), .val (.ref o1), .val (.int (0 : Int32)), .val (.int i3)] [(.int i3)])) _
  refine XS.aloadN X0.here hx rfl (hb hby d7_9) rfl rfl ?_
  show Steps p.tables e below (T0.setTop (mkF m 10 #[.val (.ref o0), .val (.ref o1), .val (.int (0 : Int32)), .val (.int i3)] [(.ref o0), (.int i3)])) _
  refine st4 _ ?_
  show Steps p.tables e below (T4.setTop (mkF m 13 #[.val (.ref o0), .val (.ref o1), .val (.int (0 : Int32)), .val (.int i3)] [(.ref t), (.int i3)])) _
  refine X4.arraylength hx (by rw [e4]; exact Ar_t.1) (State.isArrayOf_alike hZ.alike Ar_t.2.1) (g := (mkF m 13 #[.val (.ref o0), .val (.ref o1), .val (.int (0 : Int32)), .val (.int i3)] [(.ref t), (.int i3)])) rfl rfl (hb hby d7_13) _ ?_
  rw [len_of S_t N_t]
  show Steps p.tables e below (T4.setTop (mkF m 14 #[.val (.ref o0), .val (.ref o1), .val (.int (0 : Int32)), .val (.int i3)] [(.int (Int32.ofNat n)), (.int i3)])) _
  refine XS.aloadN X4.here hx rfl (hb hby d7_14) rfl rfl ?_
  show Steps p.tables e below (T4.setTop (mkF m 15 #[.val (.ref o0), .val (.ref o1), .val (.int (0 : Int32)), .val (.int i3)] [(.ref o1), (.int (Int32.ofNat n)), (.int i3)])) _
  refine st6 _ ?_
  show Steps p.tables e below (T6.setTop (mkF m 18 #[.val (.ref o0), .val (.ref o1), .val (.int (0 : Int32)), .val (.int i3)] [(.ref t2), (.int (Int32.ofNat n)), (.int i3)])) _
  refine X6.arraylength hx (by rw [e6]; exact Ar_t2.1) (State.isArrayOf_alike hZ.alike Ar_t2.2.1) (g := (mkF m 18 #[.val (.ref o0), .val (.ref o1), .val (.int (0 : Int32)), .val (.int i3)] [(.ref t2), (.int (Int32.ofNat n)), (.int i3)])) rfl rfl (hb hby d7_18) _ ?_
  rw [len_of S_t2 N_t2]
  show Steps p.tables e below (T6.setTop (mkF m 19 #[.val (.ref o0), .val (.ref o1), .val (.int (0 : Int32)), .val (.int i3)] [(.int (Int32.ofNat n2)), (.int (Int32.ofNat n)), (.int i3)])) _
  refine st7 _ ?_
  show Steps p.tables e below (T7.setTop (mkF m 22 #[.val (.ref o0), .val (.ref o1), .val (.int (0 : Int32)), .val (.int i3)] [(.int (own_mx (Int32.ofNat n) (Int32.ofNat n2))), (.int i3)])) _
  refine XS.icmpNo X7.here hx rfl (hb hby d7_22) rfl (tlt (hlt : i3 < (own_mx (Int32.ofNat n) (Int32.ofNat n2)))).2.1 ?_
  show Steps p.tables e below (T7.setTop (mkF m 25 #[.val (.ref o0), .val (.ref o1), .val (.int (0 : Int32)), .val (.int i3)] [])) _
  refine XS.aloadN X7.here hx rfl (hb hby d7_25) rfl rfl ?_
  show Steps p.tables e below (T7.setTop (mkF m 26 #[.val (.ref o0), .val (.ref o1), .val (.int (0 : Int32)), .val (.int i3)] [(.ref o0)])) _
  refine XS.iloadN X7.here hx rfl (hb hby d7_26) rfl ?_
  show Steps p.tables e below (T7.setTop (mkF m 27 #[.val (.ref o0), .val (.ref o1), .val (.int (0 : Int32)), .val (.int i3)] [(.int i3), (.ref o0)])) _
  refine st8.trans ?_
  show Steps p.tables e below (T8.setTop (mkF m 30 #[.val (.ref o0), .val (.ref o1), .val (.int (0 : Int32)), .val (.int i3)] [(.long (own_part n f i))])) _
  refine XS.aloadN X8.here hx rfl (hb hby d7_30) rfl rfl ?_
  show Steps p.tables e below (T8.setTop (mkF m 31 #[.val (.ref o0), .val (.ref o1), .val (.int (0 : Int32)), .val (.int i3)] [(.ref o1), (.long (own_part n f i))])) _
  refine XS.iloadN X8.here hx rfl (hb hby d7_31) rfl ?_
  show Steps p.tables e below (T8.setTop (mkF m 32 #[.val (.ref o0), .val (.ref o1), .val (.int (0 : Int32)), .val (.int i3)] [(.int i3), (.ref o1), (.long (own_part n f i))])) _
  refine st9.trans ?_
  show Steps p.tables e below (T9.setTop (mkF m 35 #[.val (.ref o0), .val (.ref o1), .val (.int (0 : Int32)), .val (.int i3)] [(.long (own_part n2 f2 i)), (.long (own_part n f i))])) _
  refine st10 _ ?_
  show Steps p.tables e below (T10.setTop (mkF m 38 #[.val (.ref o0), .val (.ref o1), .val (.int (0 : Int32)), .val (.int i3)] [(.int (own_lc (own_part n f i) (own_part n2 f2 i)))])) _
  refine XS.istoreN X10.here hx rfl (hb hby d7_38) rfl (l' := #[.val (.ref o0), .val (.ref o1), .val (.int (own_lc (own_part n f i) (own_part n2 f2 i))), .val (.int i3)]) rfl ?_
  show Steps p.tables e below (T10.setTop (mkF m 39 #[.val (.ref o0), .val (.ref o1), .val (.int (own_lc (own_part n f i) (own_part n2 f2 i))), .val (.int i3)] [])) _
  refine XS.iinc X10.here hx rfl (hb hby d7_39) rfl (l' := #[.val (.ref o0), .val (.ref o1), .val (.int (own_lc (own_part n f i) (own_part n2 f2 i))), .val (.int (i3 + (1 : Int32)))]) rfl ?_
  show Steps p.tables e below (T10.setTop (mkF m 42 #[.val (.ref o0), .val (.ref o1), .val (.int (own_lc (own_part n f i) (own_part n2 f2 i))), .val (.int (i3 + (1 : Int32)))] [])) _
  refine XS.goto X10.here hx rfl (pc0 := 42) (pc' := 4) rfl (hb hby d7_42) (by decide) (by decide) ?_
  exact kt
set_option maxRecDepth 65536 in
set_option maxHeartbeats 40000000 in
theorem tn7_4_45 {p : Program} {l : Launch} {e : Env} {s : State} {m : MethodId} {args : Array Value} {below : List Frame} {meth : Method} {c : Code} {T0 : State} {locs : List Loc} {Z : State} {a0 : Array Value} {h0 : Heap} {n0 : Nat} (o0 : Addr) (o1 : Addr) (i3 : Int32) (t t2 : Addr) (n n2 : Nat) (f f2 : Nat → Int64)
    (X0 : Stand p l e ({ frames := 1, cells := 0, slots := 0, locals := 18 } : Room) s m args below meth c T0 locs 0 0) (hx : p.tables.exec = Jvm.exec) (hZ : Z.Warmed39 s.vm) (hw : ∀ d ∈ tables_1, d.before a0 Z = true) (hby : c.code = prog_87_method_5_code) (hml : c.maxLocals = 4) (hown : s.vm.findClass "com/example/updrift/updrift/model/ReleaseNumber" = some m.cls) (e0 : T0.heap = h0) (N0 : Fr n0 locs) (Z0 : n0 ≤ h0.size) (hn : n ≤ 3) (hn2 : n2 ≤ 3) (E_o0 : Exa Z h0 o0 "com/example/updrift/updrift/model/ReleaseNumber") (E_o1 : Exa Z h0 o1 "com/example/updrift/updrift/model/ReleaseNumber") (F0 : Fld Z h0 o0 "com/example/updrift/updrift/model/ReleaseNumber" "parts" "[J" (.ref t)) (F1 : Fld Z h0 o1 "com/example/updrift/updrift/model/ReleaseNumber" "parts" "[J" (.ref t2)) (V0 : own_L Z h0 t n f) (V1 : own_L Z h0 t2 n2 f2) (hge : ¬ (i3 < own_mx (Int32.ofNat n) (Int32.ofNat n2))) :
    ∃ (T' : State) (locs' : List Loc), Stand p l e ({ frames := 1, cells := 0, slots := 0, locals := 18 } : Room) s m args below meth c T' locs' 0 0 ∧ T'.heap = h0 ∧ Fr n0 locs' ∧
      ∀ target, Steps p.tables e below (T'.setTop (mkF m 45 #[.val (.ref o0), .val (.ref o1), .val (.int (0 : Int32)), .val (.int i3)] [])) target → Steps p.tables e below (T0.setTop (mkF m 4 #[.val (.ref o0), .val (.ref o1), .val (.int (0 : Int32)), .val (.int i3)] [])) target := by
  have hc5 : (0 : Int32) = (0 : Int32) := rfl
  have F_parts_o0 := F0
  have F_parts_o1 := F1
  obtain ⟨cl_t, Ar_t, S_q, H_q⟩ := V0
  obtain ⟨cl_t2, Ar_t2, S_q2, H_q2⟩ := V1
  have S_t : cl_t.slots.size = (Int32.ofNat n).toNatClampNeg := by rw [S_q, own_n32 hn]
  have N_t : ¬ Int32.ofNat n < 0 := own_nn hn
  have S_t2 : cl_t2.slots.size = (Int32.ofNat n2).toNatClampNeg := by rw [S_q2, own_n32 hn2]
  have N_t2 : ¬ Int32.ofNat n2 < 0 := own_nn hn2
  obtain ⟨T4, X4, e4, st4⟩ := getF X0 hx hZ hown (host := "") (Or.inl (hw _ (List.mem_of_getElem? (i := 27) rfl))) Via.refl e0 F_parts_o0 (g := (mkF m 10 #[.val (.ref o0), .val (.ref o1), .val (.int (0 : Int32)), .val (.int i3)] [(.ref o0), (.int i3)])) rfl rfl (hb hby d7_10)
  obtain ⟨T6, X6, e6, st6⟩ := getF X4 hx hZ hown (host := "") (Or.inl (hw _ (List.mem_of_getElem? (i := 27) rfl))) Via.refl e4 F_parts_o1 (g := (mkF m 15 #[.val (.ref o0), .val (.ref o1), .val (.int (0 : Int32)), .val (.int i3)] [(.ref o1), (.int (Int32.ofNat n)), (.int i3)])) rfl rfl (hb hby d7_15)
  obtain ⟨_, _, ⟨T7, L7, k7, n7⟩, -, X7, ⟨Lc7, hQ7, l7, y7, z7⟩, st7⟩ := Jvm.LawKit.callS X6 hx (y := (⟨"java/lang/Math", "max", "(II)I"⟩ : MethodName)) hown (mvT hZ (hw _ (List.mem_of_getElem? (i := 42) rfl))) (mvT hZ (hw _ (List.mem_of_getElem? (i := 43) rfl))) (mvT hZ (hw _ (List.mem_of_getElem? (i := 44) rfl))) (mvT hZ (hw _ (List.mem_of_getElem? (i := 45) rfl))) (by decide) (backOf (W := 1) (rm8 l Z a0 hw [] (Int32.ofNat n) (Int32.ofNat n2)  h0 n0 Z0) hZ (hw _ (List.mem_of_getElem? (i := 45) rfl)) (hw _ (List.mem_of_getElem? (i := 44) rfl)) (by decide) (by decide)) (g := (mkF m 19 #[.val (.ref o0), .val (.ref o1), .val (.int (0 : Int32)), .val (.int i3)] [(.int (Int32.ofNat n2)), (.int (Int32.ofNat n)), (.int i3)])) rfl (by rw [hml]; rfl) (argsL := [(.int (Int32.ofNat n)), (.int (Int32.ofNat n2))]) (rest := [(.int i3)]) (lenOf pd_7_8 rfl) rfl (by show 2 * 0 + _ ≤ _; exact Nat.le_of_eq rfl) (hb hby d7_19) (fun _ _ => ⟨rfl, e6, (by decide : 0 + 0 ≤ _), (by decide : 0 + 0 ≤ _)⟩)
  dsimp only [Pt.U, Pt.locs, Pt.cells, Pt.slots] at X7 l7 y7 z7 st7 hQ7
  subst l7 y7 z7
  obtain ⟨rfl, N7q, e7q⟩ := hQ7
  have N7 := Fr.app N0 N7q
  refine ⟨T7, _, X7, e7q, N7, fun target kt => ?_⟩
  show Steps p.tables e below (T0.setTop (mkF m 4 #[.val (.ref o0), .val (.ref o1), .val (.int (0 : Int32)), .val (.int i3)] [])) _
  refine XS.iloadN X0.here hx rfl (hb hby d7_4) rfl ?_
  show Steps p.tables e below (T0.setTop (mkF m 5 #[.val (.ref o0), .val (.ref o1), .val (.int (0 : Int32)), .val (.int i3)] [(.int (0 : Int32))])) _
  refine XS.ifNo X0.here hx rfl (hb hby d7_5) rfl ((if0 _ _).trans (teq hc5).2) ?_
  show Steps p.tables e below (T0.setTop (mkF m 8 #[.val (.ref o0), .val (.ref o1), .val (.int (0 : Int32)), .val (.int i3)] [])) _
  refine XS.iloadN X0.here hx rfl (hb hby d7_8) rfl ?_
  show Steps p.tables e below (T0.setTop (mkF m 9 #[.val (.ref o0), .val (.ref o1), .val (.int (0 : Int32)), .val (.int i3)] [(.int i3)])) _
  refine XS.aloadN X0.here hx rfl (hb hby d7_9) rfl rfl ?_
  show Steps p.tables e below (T0.setTop (mkF m 10 #[.val (.ref o0), .val (.ref o1), .val (.int (0 : Int32)), .val (.int i3)] [(.ref o0), (.int i3)])) _
  refine st4 _ ?_
  show Steps p.tables e below (T4.setTop (mkF m 13 #[.val (.ref o0), .val (.ref o1), .val (.int (0 : Int32)), .val (.int i3)] [(.ref t), (.int i3)])) _
  refine X4.arraylength hx (by rw [e4]; exact Ar_t.1) (State.isArrayOf_alike hZ.alike Ar_t.2.1) (g := (mkF m 13 #[.val (.ref o0), .val (.ref o1), .val (.int (0 : Int32)), .val (.int i3)] [(.ref t), (.int i3)])) rfl rfl (hb hby d7_13) _ ?_
  rw [len_of S_t N_t]
  show Steps p.tables e below (T4.setTop (mkF m 14 #[.val (.ref o0), .val (.ref o1), .val (.int (0 : Int32)), .val (.int i3)] [(.int (Int32.ofNat n)), (.int i3)])) _
  refine XS.aloadN X4.here hx rfl (hb hby d7_14) rfl rfl ?_
  show Steps p.tables e below (T4.setTop (mkF m 15 #[.val (.ref o0), .val (.ref o1), .val (.int (0 : Int32)), .val (.int i3)] [(.ref o1), (.int (Int32.ofNat n)), (.int i3)])) _
  refine st6 _ ?_
  show Steps p.tables e below (T6.setTop (mkF m 18 #[.val (.ref o0), .val (.ref o1), .val (.int (0 : Int32)), .val (.int i3)] [(.ref t2), (.int (Int32.ofNat n)), (.int i3)])) _
  refine X6.arraylength hx (by rw [e6]; exact Ar_t2.1) (State.isArrayOf_alike hZ.alike Ar_t2.2.1) (g := (mkF m 18 #[.val (.ref o0), .val (.ref o1), .val (.int (0 : Int32)), .val (.int i3)] [(.ref t2), (.int (Int32.ofNat n)), (.int i3)])) rfl rfl (hb hby d7_18) _ ?_
  rw [len_of S_t2 N_t2]
  show Steps p.tables e below (T6.setTop (mkF m 19 #[.val (.ref o0), .val (.ref o1), .val (.int (0 : Int32)), .val (.int i3)] [(.int (Int32.ofNat n2)), (.int (Int32.ofNat n)), (.int i3)])) _
  refine st7 _ ?_
  show Steps p.tables e below (T7.setTop (mkF m 22 #[.val (.ref o0), .val (.ref o1), .val (.int (0 : Int32)), .val (.int i3)] [(.int (own_mx (Int32.ofNat n) (Int32.ofNat n2))), (.int i3)])) _
  refine XS.icmpYes X7.here hx rfl (pc0 := 22) (pc' := 45) rfl (hb hby d7_22) rfl (flt (hge : ¬ (i3 < (own_mx (Int32.ofNat n) (Int32.ofNat n2))))).2.1 (by decide) (by decide) ?_
  exact kt
set_option maxRecDepth 65536 in
set_option maxHeartbeats 40000000 in
theorem tn7_4_45n {p : Program} {l : Launch} {e : Env} {R : Room} {s : State} {m : MethodId} {args : Array Value} {below : List Frame} {meth : Method} {c : Code} {T0 : State} {locs : List Loc} {cells slots : Nat} {Z : State} {a0 : Array Value} {h0 : Heap} (o0 : Addr) (o1 : Addr) (i2 : Int32) (i3 : Int32)
    (X0 : Stand p l e R s m args below meth c T0 locs cells slots) (hx : p.tables.exec = Jvm.exec) (hZ : Z.Warmed39 s.vm) (hw : ∀ d ∈ tables_1, d.before a0 Z = true) (hby : c.code = prog_87_method_5_code) (hml : c.maxLocals = 4) (hown : s.vm.findClass "com/example/updrift/updrift/model/ReleaseNumber" = some m.cls) (e0 : T0.heap = h0) (hc5 : ¬ (i2 = (0 : Int32))) :
    ∃ (T' : State), Stand p l e R s m args below meth c T' locs cells slots ∧ T'.heap = h0 ∧
      ∀ target, Steps p.tables e below (T'.setTop (mkF m 45 #[.val (.ref o0), .val (.ref o1), .val (.int i2), .val (.int i3)] [])) target → Steps p.tables e below (T0.setTop (mkF m 4 #[.val (.ref o0), .val (.ref o1), .val (.int i2), .val (.int i3)] [])) target := by

  refine ⟨T0, X0, e0, fun target kt => ?_⟩
  show Steps p.tables e below (T0.setTop (mkF m 4 #[.val (.ref o0), .val (.ref o1), .val (.int i2), .val (.int i3)] [])) _
  refine XS.iloadN X0.here hx rfl (hb hby d7_4) rfl ?_
  show Steps p.tables e below (T0.setTop (mkF m 5 #[.val (.ref o0), .val (.ref o1), .val (.int i2), .val (.int i3)] [(.int i2)])) _
  refine XS.ifYes X0.here hx rfl (pc0 := 5) (pc' := 45) rfl (hb hby d7_5) rfl ((if0 _ _).trans (feq hc5).2) (by decide) (by decide) ?_
  exact kt
theorem own_mx_nat {n n2 : Nat} (hn : n ≤ 3) (hn2 : n2 ≤ 3) : own_mx (Int32.ofNat n) (Int32.ofNat n2) = Int32.ofNat (max n n2) := by
  unfold own_mx
  by_cases h : n < n2
  · rw [if_pos (own_lt h hn2), Nat.max_eq_right (Nat.le_of_lt h)]
  · rw [if_neg, Nat.max_eq_left (by omega)]
    rw [Int32.lt_iff_toInt_lt, Int32.toInt_ofNat_of_lt (by omega), Int32.toInt_ofNat_of_lt (by omega)]; omega
/-- compareTo's loop, whole -/
theorem loop7 {p : Program} {l : Launch} {e : Env} {s : State} {m : MethodId} {args : Array Value} {below : List Frame} {meth : Method} {c : Code} {Z : State} {a0 : Array Value} {h0 : Heap} {n0 : Nat} (o0 o1 t t2 : Addr) (n n2 : Nat) (f f2 : Nat → Int64) (hx : p.tables.exec = Jvm.exec) (hZ : Z.Warmed39 s.vm) (hw : ∀ d ∈ tables_1, d.before a0 Z = true) (hby : c.code = prog_87_method_5_code) (hml : c.maxLocals = 4) (hown : s.vm.findClass "com/example/updrift/updrift/model/ReleaseNumber" = some m.cls) (Z0 : n0 ≤ h0.size) (hn : n ≤ 3) (hn2 : n2 ≤ 3) (E_o0 : Exa Z h0 o0 "com/example/updrift/updrift/model/ReleaseNumber") (E_o1 : Exa Z h0 o1 "com/example/updrift/updrift/model/ReleaseNumber") (F0 : Fld Z h0 o0 "com/example/updrift/updrift/model/ReleaseNumber" "parts" "[J" (.ref t)) (F1 : Fld Z h0 o1 "com/example/updrift/updrift/model/ReleaseNumber" "parts" "[J" (.ref t2)) (V0 : own_L Z h0 t n f) (V1 : own_L Z h0 t2 n2 f2) :
    ∀ (k i : Nat) (T0 : State) (locs : List Loc), i + k = max n n2 → Stand p l e ({ frames := 1, cells := 0, slots := 0, locals := 18 } : Room) s m args below meth c T0 locs 0 0 → T0.heap = h0 → Fr n0 locs →
      ∃ (T' : State) (locs' : List Loc) (i' : Int32), Stand p l e ({ frames := 1, cells := 0, slots := 0, locals := 18 } : Room) s m args below meth c T' locs' 0 0 ∧ T'.heap = h0 ∧ Fr n0 locs' ∧
        ∀ target, Steps p.tables e below (T'.setTop (mkF m 45 #[.val (.ref o0), .val (.ref o1), .val (.int (own_ct (fun j => own_lc (own_part n f j) (own_part n2 f2 j)) k i)), .val (.int i')] [])) target → Steps p.tables e below (T0.setTop (mkF m 4 #[.val (.ref o0), .val (.ref o1), .val (.int (0 : Int32)), .val (.int (Int32.ofNat i))] [])) target := by
  have hm3 : max n n2 ≤ 3 := by omega
  intro k
  induction k with
  | zero =>
    intro i T0 locs hi X0 e0 N
    obtain ⟨T1, L1, X1, e1, N1, st1⟩ := tn7_4_45 o0 o1 (Int32.ofNat i) t t2 n n2 f f2 X0 hx hZ hw hby hml hown e0 N Z0 hn hn2 E_o0 E_o1 F0 F1 V0 V1 (by rw [own_mx_nat hn hn2, ← hi]; exact Int32.lt_irrefl)
    exact ⟨T1, L1, _, X1, e1, N1, st1⟩
  | succ k ih =>
    intro i T0 locs hi X0 e0 N
    obtain ⟨T1, L1, X1, e1, N1, st1⟩ := tn7_4_4 o0 o1 (Int32.ofNat i) i t t2 n n2 f f2 X0 hx hZ hw hby hml hown e0 N Z0 hn hn2 (by omega) rfl E_o0 E_o1 F0 F1 V0 V1 (by rw [own_mx_nat hn hn2]; exact own_lt (by omega) hm3)
    by_cases q0 : own_lc (own_part n f i) (own_part n2 f2 i) = 0
    · obtain ⟨T', L', i', X', e', N', st⟩ := ih (i + 1) T1 L1 (by omega) X1 e1 N1
      refine ⟨T', L', i', X', e', N', fun target q => st1 target ?_⟩
      rw [own_one, q0]
      refine st target ?_
      rw [own_ct] at q
      rw [if_pos q0] at q
      exact q
    · obtain ⟨T', X', e', st⟩ := tn7_4_45n o0 o1 (own_lc (own_part n f i) (own_part n2 f2 i)) (Int32.ofNat i + (1 : Int32)) X1 hx hZ hw hby hml hown e1 q0
      refine ⟨T', L1, (Int32.ofNat i + (1 : Int32)), X', e', N1, fun target q => st1 target (st target ?_)⟩
      rw [own_ct] at q
      rw [if_neg q0] at q
      exact q
theorem d7_0 : decode prog_87_method_5_code 0 = .ok (.iconst 0, 1) := by decide +kernel
theorem d7_1 : decode prog_87_method_5_code 1 = .ok (.istore_n 2, 1) := by decide +kernel
theorem d7_2 : decode prog_87_method_5_code 2 = .ok (.iconst 0, 1) := by decide +kernel
theorem d7_3 : decode prog_87_method_5_code 3 = .ok (.istore_n 3, 1) := by decide +kernel
theorem d7_45 : decode prog_87_method_5_code 45 = .ok (.iload_n 2, 1) := by decide +kernel
theorem d7_46 : decode prog_87_method_5_code 46 = .ok (.ireturn, 1) := by decide +kernel
theorem pn_7 : plainName "com/example/updrift/updrift/model/ReleaseNumber" = true := by first | (simp [plainName, overriddenIn]; done) | decide +kernel
theorem ef_7 (m : MethodId) (x0 : Addr) (x1 : Addr) : entryFrame m #[(.ref x0), (.ref x1)] 4 = mkF m 0 #[.val (.ref x0), .val (.ref x1), .unset, .unset] [] := by first | (simp [entryFrame, mkF, argsToLocals, Value.category]; done) | rfl
def Q7 (Z : State) (a1 : Addr) (a2 : Addr) (t t2 : Addr) (n n2 : Nat) (f f2 : Nat → Int64) (h0 : Heap) (n0 : Nat) (v : Option Value) (h : Heap) (L : List Loc) : Prop := v = some (.int (own_ct (fun j => own_lc (own_part n f j) (own_part n2 f2 j)) (max n n2) 0)) ∧ Fr n0 L ∧ h = h0
set_option maxRecDepth 65536 in
set_option maxHeartbeats 40000000 in
theorem rm7 (l : Launch) (Z : State) (a0 : Array Value) (hw : ∀ d ∈ tables_1, d.before a0 Z = true) (ws : List Jvm.Cond) (a1 : Addr) (a2 : Addr) (t t2 : Addr) (n n2 : Nat) (f f2 : Nat → Int64) (h0 : Heap) (n0 : Nat) (Z0 : n0 ≤ h0.size) (hn : n ≤ 3) (hn2 : n2 ≤ 3) (E_o0 : Exa Z h0 a1 "com/example/updrift/updrift/model/ReleaseNumber") (E_o1 : Exa Z h0 a2 "com/example/updrift/updrift/model/ReleaseNumber") (F0 : Fld Z h0 a1 "com/example/updrift/updrift/model/ReleaseNumber" "parts" "[J" (.ref t)) (F1 : Fld Z h0 a2 "com/example/updrift/updrift/model/ReleaseNumber" "parts" "[J" (.ref t2)) (V0 : own_L Z h0 t n f) (V1 : own_L Z h0 t2 n2 f2) :
    MetFree l (⟨"com/example/updrift/updrift/model/ReleaseNumber", "compareTo", "(Lcom/example/updrift/updrift/model/ReleaseNumber;)I"⟩ : MethodName) (head1 (Jvm.Cond.code (⟨"com/example/updrift/updrift/model/ReleaseNumber", "compareTo", "(Lcom/example/updrift/updrift/model/ReleaseNumber;)I"⟩ : MethodName) prog_87_method_5_code 4 (some .int) :: ws) ({ frames := 1, cells := 0, slots := 0, locals := 18 } : Room)) (fun a U => a = #[(.ref a1), (.ref a2)] ∧ Z.Warmed39 U.vm ∧ U.heap = h0) (fun _ _ _ _ _ => True) (fun _ U o U' => ∃ v L, o = .returned v ∧ Q7 Z a1 a2 t t2 n n2 f f2 h0 n0 v U'.heap L ∧ FrameEnd U o U' L ({ frames := 1, cells := 0, slots := 0, locals := 18 } : Room).cells ({ frames := 1, cells := 0, slots := 0, locals := 18 } : Room).slots) := by
  refine MetFree.of_bodySF (plainFor_of_name pn_7) hisR ?_
  intro p e s m args below meth c s₁ Bd hml0 hP hK
  obtain ⟨rfl, hZ, hh⟩ := hP
  have hx := Bd.exec
  have hby := Bd.bytes
  have hml : c.maxLocals = 4 := hml0
  have hown : s.vm.findClass "com/example/updrift/updrift/model/ReleaseNumber" = some m.cls := findClass_of_methodNamed Bd.named
  have hnm := (name_of_methodNamed Bd.named Bd.method).1
  have X0 : Stand p l e ({ frames := 1, cells := 0, slots := 0, locals := 18 } : Room) s m #[(.ref a1), (.ref a2)] below meth c s₁ [] 0 0 := Stand.of_body Bd
  have e0 : s₁.heap = h0 := by rw [← hh, Bd.state]; rfl
  have N0 := Fr.nil n0
  have pre0 : ∀ t, Steps p.tables e below (s₁.setTop (mkF m 0 #[.val (.ref a1), .val (.ref a2), .unset, .unset] [])) t → Steps p.tables e below (s₁.setTop (entryFrame m #[(.ref a1), (.ref a2)] 4)) t := fun t k => castTop (ef_7 m a1 a2) k
  obtain ⟨T3, L3, i3, X3, e3, N3, st3⟩ := loop7 a1 a2 t t2 n n2 f f2 hx hZ hw hby hml hown Z0 hn hn2 E_o0 E_o1 F0 F1 V0 V1 (max n n2) 0 s₁ [] (by omega) X0 e0 N0
  obtain ⟨fs, hr, hrun, hended, hW, hsame⟩ := X3.leave (v := some (.int (own_ct (fun j => own_lc (own_part n f j) (own_part n2 f2 j)) (max n n2) 0))) (fun h => by rw [Bd.returns] at h; cases h)
  refine ⟨_, _, pre0 _ ?_, hrun, hended, _, _, rfl, ?_, ⟨_, rfl⟩, hW, hsame.mono (by decide) (by decide)⟩
  · show Steps p.tables e below (s₁.setTop (mkF m 0 #[.val (.ref a1), .val (.ref a2), .unset, .unset] [])) _
    refine XS.iconst X0.here hx rfl (hb hby d7_0) ?_
    show Steps p.tables e below (s₁.setTop (mkF m 1 #[.val (.ref a1), .val (.ref a2), .unset, .unset] [(.int (0 : Int32))])) _
    refine XS.istoreN X0.here hx rfl (hb hby d7_1) rfl (l' := #[.val (.ref a1), .val (.ref a2), .val (.int (0 : Int32)), .unset]) rfl ?_
    show Steps p.tables e below (s₁.setTop (mkF m 2 #[.val (.ref a1), .val (.ref a2), .val (.int (0 : Int32)), .unset] [])) _
    refine XS.iconst X0.here hx rfl (hb hby d7_2) ?_
    show Steps p.tables e below (s₁.setTop (mkF m 3 #[.val (.ref a1), .val (.ref a2), .val (.int (0 : Int32)), .unset] [(.int (0 : Int32))])) _
    refine XS.istoreN X0.here hx rfl (hb hby d7_3) rfl (l' := #[.val (.ref a1), .val (.ref a2), .val (.int (0 : Int32)), .val (.int (0 : Int32))]) rfl ?_
    show Steps p.tables e below (s₁.setTop (mkF m 4 #[.val (.ref a1), .val (.ref a2), .val (.int (0 : Int32)), .val (.int (0 : Int32))] [])) _
    refine st3 _ ?_
    show Steps p.tables e below (T3.setTop (mkF m 45 #[.val (.ref a1), .val (.ref a2), .val (.int (own_ct (fun j => own_lc (own_part n f j) (own_part n2 f2 j)) (max n n2) 0)), .val (.int i3)] [])) _
    refine XS.iloadN X3.here hx rfl (hb hby d7_45) rfl ?_
    show Steps p.tables e below (T3.setTop (mkF m 46 #[.val (.ref a1), .val (.ref a2), .val (.int (own_ct (fun j => own_lc (own_part n f j) (own_part n2 f2 j)) (max n n2) 0)), .val (.int i3)] [(.int (own_ct (fun j => own_lc (own_part n f j) (own_part n2 f2 j)) (max n n2) 0))])) _
    exact retI X3 hx Bd.returns (hb hby d7_46) hr
  · show Q7 Z a1 a2 t t2 n n2 f f2 h0 n0 _ T3.heap _
    rw [e3]
    exact ⟨rfl, N3, rfl⟩
def own_z (x : Int32) : Int32 := if x = (0 : Int32) then 1 else 0
def Q12 (Z : State) (a1 : Addr) (a2 : Addr) (t t2 : Addr) (n n2 : Nat) (f f2 : Nat → Int64) (h0 : Heap) (n0 : Nat) (v : Option Value) (h : Heap) (L : List Loc) : Prop := v = some (.int (own_z (own_ct (fun j => own_lc (own_part n f j) (own_part n2 f2 j)) (max n n2) 0))) ∧ Fr n0 L ∧ h = h0
theorem d12_0 : decode prog_87_method_6_code 0 = .ok (.aload_n 1, 1) := by decide +kernel
theorem d12_1 : decode prog_87_method_6_code 1 = .ok (.instanceof 8, 3) := by decide +kernel
theorem d12_4 : decode prog_87_method_6_code 4 = .ok (.ifCond .eq 20, 3) := by decide +kernel
theorem d12_7 : decode prog_87_method_6_code 7 = .ok (.aload_n 1, 1) := by decide +kernel
theorem d12_8 : decode prog_87_method_6_code 8 = .ok (.checkcast 8, 3) := by decide +kernel
theorem d12_11 : decode prog_87_method_6_code 11 = .ok (.astore_n 2, 1) := by decide +kernel
theorem d12_12 : decode prog_87_method_6_code 12 = .ok (.aload_n 0, 1) := by decide +kernel
theorem d12_13 : decode prog_87_method_6_code 13 = .ok (.aload_n 2, 1) := by decide +kernel
theorem d12_14 : decode prog_87_method_6_code 14 = .ok (.invokevirtual 86, 3) := by decide +kernel
theorem d12_17 : decode prog_87_method_6_code 17 = .ok (.ifCond .ne 7, 3) := by decide +kernel
theorem d12_20 : decode prog_87_method_6_code 20 = .ok (.iconst 1, 1) := by decide +kernel
theorem d12_21 : decode prog_87_method_6_code 21 = .ok (.goto 4, 3) := by decide +kernel
theorem d12_25 : decode prog_87_method_6_code 25 = .ok (.ireturn, 1) := by decide +kernel
theorem pn_12 : plainName "com/example/updrift/updrift/model/ReleaseNumber" = true := by first | (simp [plainName, overriddenIn]; done) | decide +kernel
theorem pd_12_7 : parseMethodDescriptor "(Lcom/example/updrift/updrift/model/ReleaseNumber;)I" = some ⟨[(.object "com/example/updrift/updrift/model/ReleaseNumber")], some .int⟩ := by decide +kernel
theorem ef_12 (m : MethodId) (x0 : Addr) (x1 : Addr) : entryFrame m #[(.ref x0), (.ref x1)] 3 = mkF m 0 #[.val (.ref x0), .val (.ref x1), .unset] [] := by first | (simp [entryFrame, mkF, argsToLocals, Value.category]; done) | rfl
set_option maxRecDepth 65536 in
set_option maxHeartbeats 40000000 in
theorem rm12_ff (l : Launch) (Z : State) (a0 : Array Value) (hw : ∀ d ∈ tables_1, d.before a0 Z = true) (ws : List Jvm.Cond) (a1 : Addr) (a2 : Addr) (t t2 : Addr) (n n2 : Nat) (f f2 : Nat → Int64) (h0 : Heap) (n0 : Nat) (Z0 : n0 ≤ h0.size) (hn : n ≤ 3) (hn2 : n2 ≤ 3) (E_o0 : Exa Z h0 a1 "com/example/updrift/updrift/model/ReleaseNumber") (E_o1 : Exa Z h0 a2 "com/example/updrift/updrift/model/ReleaseNumber") (F0 : Fld Z h0 a1 "com/example/updrift/updrift/model/ReleaseNumber" "parts" "[J" (.ref t)) (F1 : Fld Z h0 a2 "com/example/updrift/updrift/model/ReleaseNumber" "parts" "[J" (.ref t2)) (V0 : own_L Z h0 t n f) (V1 : own_L Z h0 t2 n2 f2) (hz : (own_ct (fun j => own_lc (own_part n f j) (own_part n2 f2 j)) (max n n2) 0) = (0 : Int32)) :
    MetFree l (⟨"com/example/updrift/updrift/model/ReleaseNumber", "equals", "(Ljava/lang/Object;)Z"⟩ : MethodName) (head1 (Jvm.Cond.code (⟨"com/example/updrift/updrift/model/ReleaseNumber", "equals", "(Ljava/lang/Object;)Z"⟩ : MethodName) prog_87_method_6_code 3 (some .boolean) :: ws) ({ frames := 2, cells := 0, slots := 0, locals := 33 } : Room)) (fun a U => a = #[(.ref a1), (.ref a2)] ∧ Z.Warmed39 U.vm ∧ U.heap = h0) (fun _ _ _ _ _ => True) (fun _ U o U' => ∃ v L, o = .returned v ∧ Q12 Z a1 a2 t t2 n n2 f f2 h0 n0 v U'.heap L ∧ FrameEnd U o U' L ({ frames := 2, cells := 0, slots := 0, locals := 33 } : Room).cells ({ frames := 2, cells := 0, slots := 0, locals := 33 } : Room).slots) := by
  refine MetFree.of_bodySF (plainFor_of_name pn_12) hisR ?_
  intro p e s m args below meth c s₁ Bd hml0 hP hK
  obtain ⟨rfl, hZ, hh⟩ := hP
  have hx := Bd.exec
  have hby := Bd.bytes
  have hml : c.maxLocals = 3 := hml0
  have hown : s.vm.findClass "com/example/updrift/updrift/model/ReleaseNumber" = some m.cls := findClass_of_methodNamed Bd.named
  have hnm := (name_of_methodNamed Bd.named Bd.method).1
  have X0 : Stand p l e ({ frames := 2, cells := 0, slots := 0, locals := 33 } : Room) s m #[(.ref a1), (.ref a2)] below meth c s₁ [] 0 0 := Stand.of_body Bd
  have e0 : s₁.heap = h0 := by rw [← hh, Bd.state]; rfl
  have N0 := Fr.nil n0
  have pre0 : ∀ t, Steps p.tables e below (s₁.setTop (mkF m 0 #[.val (.ref a1), .val (.ref a2), .unset] [])) t → Steps p.tables e below (s₁.setTop (entryFrame m #[(.ref a1), (.ref a2)] 3)) t := fun t k => castTop (ef_12 m a1 a2) k
  have hc4 : ¬ ((1 : Int32) = (0 : Int32)) := by decide
  have E_a1 := E_o0
  have E_a2 := E_o1
  obtain ⟨T3, X3, e3, st3⟩ := instY X0 hx hZ hown (hw _ (List.mem_of_getElem? (i := 10) rfl)) e0 (Ins.self E_a2) (g := (mkF m 1 #[.val (.ref a1), .val (.ref a2), .unset] [(.ref a2)])) rfl rfl (hb hby d12_1)
  obtain ⟨T4, X4, e4, st4⟩ := castY X3 hx hZ hown (hw _ (List.mem_of_getElem? (i := 10) rfl)) e3 (Ins.self E_a2) (g := (mkF m 8 #[.val (.ref a1), .val (.ref a2), .unset] [(.ref a2)])) rfl rfl (hb hby d12_8)
  obtain ⟨cq5, kq5, q5a, q5b, q5c⟩ := isOf hZ e4 E_a1
  obtain ⟨_, _, ⟨T5, L5, k5, n5⟩, -, X5, ⟨Lc5, hQ5, l5, y5, z5⟩, st5⟩ := X4.virtualBack hx (y := (⟨"com/example/updrift/updrift/model/ReleaseNumber", "compareTo", "(Lcom/example/updrift/updrift/model/ReleaseNumber;)I"⟩ : MethodName)) (z := (⟨"com/example/updrift/updrift/model/ReleaseNumber", "compareTo", "(Lcom/example/updrift/updrift/model/ReleaseNumber;)I"⟩ : MethodName)) hown (mvT hZ (hw _ (List.mem_of_getElem? (i := 63) rfl))) (mvT hZ (hw _ (List.mem_of_getElem? (i := 38) rfl))) (notFace_of_selects (args := #[]) (mvT hZ (hw _ (List.mem_of_getElem? (i := 40) rfl)))) (mvT hZ (hw _ (List.mem_of_getElem? (i := 40) rfl))) (mvT hZ (hw _ (List.mem_of_getElem? (i := 39) rfl))) (by decide) (backOf (W := 0) (rm7 l Z a0 hw [] a1 a2 t t2 n n2 f f2 h0 n0 Z0 hn hn2 E_o0 E_o1 F0 F1 V0 V1) hZ (hw _ (List.mem_of_getElem? (i := 41) rfl)) (hw _ (List.mem_of_getElem? (i := 8) rfl)) (by decide) (by decide)) q5a q5c (g := (mkF m 14 #[.val (.ref a1), .val (.ref a2), .val (.ref a2)] [(.ref a2), (.ref a1)])) rfl (by rw [hml]; rfl) (Steps.refl _) (argsL := [(.ref a2)]) (rest := []) (lenOf pd_12_7 rfl) rfl (by show 2 * 0 + _ ≤ _; exact Nat.le_of_eq rfl) (hb hby d12_14) (fun _ _ => ⟨rfl, e4, (by decide : 0 + 0 ≤ _), (by decide : 0 + 0 ≤ _)⟩)
  dsimp only [Pt.U, Pt.locs, Pt.cells, Pt.slots] at X5 l5 y5 z5 st5 hQ5
  subst l5 y5 z5
  obtain ⟨rfl, N5q, e5q⟩ := hQ5
  have N5 := Fr.app N0 N5q
  obtain ⟨fs, hr, hrun, hended, hW, hsame⟩ := X5.leave (v := some (.int (1 : Int32))) (fun h => by rw [Bd.returns] at h; cases h)
  refine ⟨_, _, pre0 _ ?_, hrun, hended, _, _, rfl, ?_, ⟨_, rfl⟩, hW, hsame.mono (by decide) (by decide)⟩
  · show Steps p.tables e below (s₁.setTop (mkF m 0 #[.val (.ref a1), .val (.ref a2), .unset] [])) _
    refine XS.aloadN X0.here hx rfl (hb hby d12_0) rfl rfl ?_
    show Steps p.tables e below (s₁.setTop (mkF m 1 #[.val (.ref a1), .val (.ref a2), .unset] [(.ref a2)])) _
    refine st3 _ ?_
    show Steps p.tables e below (T3.setTop (mkF m 4 #[.val (.ref a1), .val (.ref a2), .unset] [(.int (1 : Int32))])) _
    refine XS.ifNo X3.here hx rfl (hb hby d12_4) rfl ((if0 _ _).trans (feq hc4).1) ?_
    show Steps p.tables e below (T3.setTop (mkF m 7 #[.val (.ref a1), .val (.ref a2), .unset] [])) _
    refine XS.aloadN X3.here hx rfl (hb hby d12_7) rfl rfl ?_
    show Steps p.tables e below (T3.setTop (mkF m 8 #[.val (.ref a1), .val (.ref a2), .unset] [(.ref a2)])) _
    refine st4 _ ?_
    show Steps p.tables e below (T4.setTop (mkF m 11 #[.val (.ref a1), .val (.ref a2), .unset] [(.ref a2)])) _
    refine XS.astoreN X4.here hx rfl (hb hby d12_11) rfl rfl (l' := #[.val (.ref a1), .val (.ref a2), .val (.ref a2)]) rfl ?_
    show Steps p.tables e below (T4.setTop (mkF m 12 #[.val (.ref a1), .val (.ref a2), .val (.ref a2)] [])) _
    refine XS.aloadN X4.here hx rfl (hb hby d12_12) rfl rfl ?_
    show Steps p.tables e below (T4.setTop (mkF m 13 #[.val (.ref a1), .val (.ref a2), .val (.ref a2)] [(.ref a1)])) _
    refine XS.aloadN X4.here hx rfl (hb hby d12_13) rfl rfl ?_
    show Steps p.tables e below (T4.setTop (mkF m 14 #[.val (.ref a1), .val (.ref a2), .val (.ref a2)] [(.ref a2), (.ref a1)])) _
    refine st5.trans ?_
    show Steps p.tables e below (T5.setTop (mkF m 17 #[.val (.ref a1), .val (.ref a2), .val (.ref a2)] [(.int (own_ct (fun j => own_lc (own_part n f j) (own_part n2 f2 j)) (max n n2) 0))])) _
    refine XS.ifNo X5.here hx rfl (hb hby d12_17) rfl ((if0 _ _).trans (teq (hz : (own_ct (fun j => own_lc (own_part n f j) (own_part n2 f2 j)) (max n n2) 0) = (0 : Int32))).2) ?_
    show Steps p.tables e below (T5.setTop (mkF m 20 #[.val (.ref a1), .val (.ref a2), .val (.ref a2)] [])) _
    refine XS.iconst X5.here hx rfl (hb hby d12_20) ?_
    show Steps p.tables e below (T5.setTop (mkF m 21 #[.val (.ref a1), .val (.ref a2), .val (.ref a2)] [(.int (1 : Int32))])) _
    refine XS.goto X5.here hx rfl (pc0 := 21) (pc' := 25) rfl (hb hby d12_21) (by decide) (by decide) ?_
    show Steps p.tables e below (T5.setTop (mkF m 25 #[.val (.ref a1), .val (.ref a2), .val (.ref a2)] [(.int (1 : Int32))])) _
    exact retN X5 hx (t := .boolean) Bd.returns (by simp) (hb hby d12_25) hr
  · show Q12 Z a1 a2 t t2 n n2 f f2 h0 n0 _ T5.heap _
    exact ⟨by rw [own_z, if_pos hz], N5, e5q⟩
theorem d12_24 : decode prog_87_method_6_code 24 = .ok (.iconst 0, 1) := by decide +kernel
set_option maxRecDepth 65536 in
set_option maxHeartbeats 40000000 in
theorem rm12_ft (l : Launch) (Z : State) (a0 : Array Value) (hw : ∀ d ∈ tables_1, d.before a0 Z = true) (ws : List Jvm.Cond) (a1 : Addr) (a2 : Addr) (t t2 : Addr) (n n2 : Nat) (f f2 : Nat → Int64) (h0 : Heap) (n0 : Nat) (Z0 : n0 ≤ h0.size) (hn : n ≤ 3) (hn2 : n2 ≤ 3) (E_o0 : Exa Z h0 a1 "com/example/updrift/updrift/model/ReleaseNumber") (E_o1 : Exa Z h0 a2 "com/example/updrift/updrift/model/ReleaseNumber") (F0 : Fld Z h0 a1 "com/example/updrift/updrift/model/ReleaseNumber" "parts" "[J" (.ref t)) (F1 : Fld Z h0 a2 "com/example/updrift/updrift/model/ReleaseNumber" "parts" "[J" (.ref t2)) (V0 : own_L Z h0 t n f) (V1 : own_L Z h0 t2 n2 f2) (hz : ¬ ((own_ct (fun j => own_lc (own_part n f j) (own_part n2 f2 j)) (max n n2) 0) = (0 : Int32))) :
    MetFree l (⟨"com/example/updrift/updrift/model/ReleaseNumber", "equals", "(Ljava/lang/Object;)Z"⟩ : MethodName) (head1 (Jvm.Cond.code (⟨"com/example/updrift/updrift/model/ReleaseNumber", "equals", "(Ljava/lang/Object;)Z"⟩ : MethodName) prog_87_method_6_code 3 (some .boolean) :: ws) ({ frames := 2, cells := 0, slots := 0, locals := 33 } : Room)) (fun a U => a = #[(.ref a1), (.ref a2)] ∧ Z.Warmed39 U.vm ∧ U.heap = h0) (fun _ _ _ _ _ => True) (fun _ U o U' => ∃ v L, o = .returned v ∧ Q12 Z a1 a2 t t2 n n2 f f2 h0 n0 v U'.heap L ∧ FrameEnd U o U' L ({ frames := 2, cells := 0, slots := 0, locals := 33 } : Room).cells ({ frames := 2, cells := 0, slots := 0, locals := 33 } : Room).slots) := by
  refine MetFree.of_bodySF (plainFor_of_name pn_12) hisR ?_
  intro p e s m args below meth c s₁ Bd hml0 hP hK
  obtain ⟨rfl, hZ, hh⟩ := hP
  have hx := Bd.exec
  have hby := Bd.bytes
  have hml : c.maxLocals = 3 := hml0
  have hown : s.vm.findClass "com/example/updrift/updrift/model/ReleaseNumber" = some m.cls := findClass_of_methodNamed Bd.named
  have hnm := (name_of_methodNamed Bd.named Bd.method).1
  have X0 : Stand p l e ({ frames := 2, cells := 0, slots := 0, locals := 33 } : Room) s m #[(.ref a1), (.ref a2)] below meth c s₁ [] 0 0 := Stand.of_body Bd
  have e0 : s₁.heap = h0 := by rw [← hh, Bd.state]; rfl
  have N0 := Fr.nil n0
  have pre0 : ∀ t, Steps p.tables e below (s₁.setTop (mkF m 0 #[.val (.ref a1), .val (.ref a2), .unset] [])) t → Steps p.tables e below (s₁.setTop (entryFrame m #[(.ref a1), (.ref a2)] 3)) t := fun t k => castTop (ef_12 m a1 a2) k
  have hc4 : ¬ ((1 : Int32) = (0 : Int32)) := by decide
  have E_a1 := E_o0
  have E_a2 := E_o1
  obtain ⟨T3, X3, e3, st3⟩ := instY X0 hx hZ hown (hw _ (List.mem_of_getElem? (i := 10) rfl)) e0 (Ins.self E_a2) (g := (mkF m 1 #[.val (.ref a1), .val (.ref a2), .unset] [(.ref a2)])) rfl rfl (hb hby d12_1)
  obtain ⟨T4, X4, e4, st4⟩ := castY X3 hx hZ hown (hw _ (List.mem_of_getElem? (i := 10) rfl)) e3 (Ins.self E_a2) (g := (mkF m 8 #[.val (.ref a1), .val (.ref a2), .unset] [(.ref a2)])) rfl rfl (hb hby d12_8)
  obtain ⟨cq5, kq5, q5a, q5b, q5c⟩ := isOf hZ e4 E_a1
  obtain ⟨_, _, ⟨T5, L5, k5, n5⟩, -, X5, ⟨Lc5, hQ5, l5, y5, z5⟩, st5⟩ := X4.virtualBack hx (y := (⟨"com/example/updrift/updrift/model/ReleaseNumber", "compareTo", "(Lcom/example/updrift/updrift/model/ReleaseNumber;)I"⟩ : MethodName)) (z := (⟨"com/example/updrift/updrift/model/ReleaseNumber", "compareTo", "(Lcom/example/updrift/updrift/model/ReleaseNumber;)I"⟩ : MethodName)) hown (mvT hZ (hw _ (List.mem_of_getElem? (i := 63) rfl))) (mvT hZ (hw _ (List.mem_of_getElem? (i := 38) rfl))) (notFace_of_selects (args := #[]) (mvT hZ (hw _ (List.mem_of_getElem? (i := 40) rfl)))) (mvT hZ (hw _ (List.mem_of_getElem? (i := 40) rfl))) (mvT hZ (hw _ (List.mem_of_getElem? (i := 39) rfl))) (by decide) (backOf (W := 0) (rm7 l Z a0 hw [] a1 a2 t t2 n n2 f f2 h0 n0 Z0 hn hn2 E_o0 E_o1 F0 F1 V0 V1) hZ (hw _ (List.mem_of_getElem? (i := 41) rfl)) (hw _ (List.mem_of_getElem? (i := 8) rfl)) (by decide) (by decide)) q5a q5c (g := (mkF m 14 #[.val (.ref a1), .val (.ref a2), .val (.ref a2)] [(.ref a2), (.ref a1)])) rfl (by rw [hml]; rfl) (Steps.refl _) (argsL := [(.ref a2)]) (rest := []) (lenOf pd_12_7 rfl) rfl (by show 2 * 0 + _ ≤ _; exact Nat.le_of_eq rfl) (hb hby d12_14) (fun _ _ => ⟨rfl, e4, (by decide : 0 + 0 ≤ _), (by decide : 0 + 0 ≤ _)⟩)
  dsimp only [Pt.U, Pt.locs, Pt.cells, Pt.slots] at X5 l5 y5 z5 st5 hQ5
  subst l5 y5 z5
  obtain ⟨rfl, N5q, e5q⟩ := hQ5
  have N5 := Fr.app N0 N5q
  obtain ⟨fs, hr, hrun, hended, hW, hsame⟩ := X5.leave (v := some (.int (0 : Int32))) (fun h => by rw [Bd.returns] at h; cases h)
  refine ⟨_, _, pre0 _ ?_, hrun, hended, _, _, rfl, ?_, ⟨_, rfl⟩, hW, hsame.mono (by decide) (by decide)⟩
  · show Steps p.tables e below (s₁.setTop (mkF m 0 #[.val (.ref a1), .val (.ref a2), .unset] [])) _
    refine XS.aloadN X0.here hx rfl (hb hby d12_0) rfl rfl ?_
    show Steps p.tables e below (s₁.setTop (mkF m 1 #[.val (.ref a1), .val (.ref a2), .unset] [(.ref a2)])) _
    refine st3 _ ?_
    show Steps p.tables e below (T3.setTop (mkF m 4 #[.val (.ref a1), .val (.ref a2), .unset] [(.int (1 : Int32))])) _
    refine XS.ifNo X3.here hx rfl (hb hby d12_4) rfl ((if0 _ _).trans (feq hc4).1) ?_
    show Steps p.tables e below (T3.setTop (mkF m 7 #[.val (.ref a1), .val (.ref a2), .unset] [])) _
    refine XS.aloadN X3.here hx rfl (hb hby d12_7) rfl rfl ?_
    show Steps p.tables e below (T3.setTop (mkF m 8 #[.val (.ref a1), .val (.ref a2), .unset] [(.ref a2)])) _
    refine st4 _ ?_
    show Steps p.tables e below (T4.setTop (mkF m 11 #[.val (.ref a1), .val (.ref a2), .unset] [(.ref a2)])) _
    refine XS.astoreN X4.here hx rfl (hb hby d12_11) rfl rfl (l' := #[.val (.ref a1), .val (.ref a2), .val (.ref a2)]) rfl ?_
    show Steps p.tables e below (T4.setTop (mkF m 12 #[.val (.ref a1), .val (.ref a2), .val (.ref a2)] [])) _
    refine XS.aloadN X4.here hx rfl (hb hby d12_12) rfl rfl ?_
    show Steps p.tables e below (T4.setTop (mkF m 13 #[.val (.ref a1), .val (.ref a2), .val (.ref a2)] [(.ref a1)])) _
    refine XS.aloadN X4.here hx rfl (hb hby d12_13) rfl rfl ?_
    show Steps p.tables e below (T4.setTop (mkF m 14 #[.val (.ref a1), .val (.ref a2), .val (.ref a2)] [(.ref a2), (.ref a1)])) _
    refine st5.trans ?_
    show Steps p.tables e below (T5.setTop (mkF m 17 #[.val (.ref a1), .val (.ref a2), .val (.ref a2)] [(.int (own_ct (fun j => own_lc (own_part n f j) (own_part n2 f2 j)) (max n n2) 0))])) _
    refine XS.ifYes X5.here hx rfl (pc0 := 17) (pc' := 24) rfl (hb hby d12_17) rfl ((if0 _ _).trans (feq (hz : ¬ ((own_ct (fun j => own_lc (own_part n f j) (own_part n2 f2 j)) (max n n2) 0) = (0 : Int32)))).2) (by decide) (by decide) ?_
    show Steps p.tables e below (T5.setTop (mkF m 24 #[.val (.ref a1), .val (.ref a2), .val (.ref a2)] [])) _
    refine XS.iconst X5.here hx rfl (hb hby d12_24) ?_
    show Steps p.tables e below (T5.setTop (mkF m 25 #[.val (.ref a1), .val (.ref a2), .val (.ref a2)] [(.int (0 : Int32))])) _
    exact retN X5 hx (t := .boolean) Bd.returns (by simp) (hb hby d12_25) hr
  · show Q12 Z a1 a2 t t2 n n2 f f2 h0 n0 _ T5.heap _
    exact ⟨by rw [own_z, if_neg hz], N5, e5q⟩
theorem rm12 (l : Launch) (Z : State) (a0 : Array Value) (hw : ∀ d ∈ tables_1, d.before a0 Z = true) (ws : List Jvm.Cond) (a1 : Addr) (a2 : Addr) (t t2 : Addr) (n n2 : Nat) (f f2 : Nat → Int64) (h0 : Heap) (n0 : Nat) (Z0 : n0 ≤ h0.size) (hn : n ≤ 3) (hn2 : n2 ≤ 3) (E_o0 : Exa Z h0 a1 "com/example/updrift/updrift/model/ReleaseNumber") (E_o1 : Exa Z h0 a2 "com/example/updrift/updrift/model/ReleaseNumber") (F0 : Fld Z h0 a1 "com/example/updrift/updrift/model/ReleaseNumber" "parts" "[J" (.ref t)) (F1 : Fld Z h0 a2 "com/example/updrift/updrift/model/ReleaseNumber" "parts" "[J" (.ref t2)) (V0 : own_L Z h0 t n f) (V1 : own_L Z h0 t2 n2 f2) :
    MetFree l (⟨"com/example/updrift/updrift/model/ReleaseNumber", "equals", "(Ljava/lang/Object;)Z"⟩ : MethodName) (head1 (Jvm.Cond.code (⟨"com/example/updrift/updrift/model/ReleaseNumber", "equals", "(Ljava/lang/Object;)Z"⟩ : MethodName) prog_87_method_6_code 3 (some .boolean) :: ws) ({ frames := 2, cells := 0, slots := 0, locals := 33 } : Room)) (fun a U => a = #[(.ref a1), (.ref a2)] ∧ Z.Warmed39 U.vm ∧ U.heap = h0) (fun _ _ _ _ _ => True) (fun _ U o U' => ∃ v L, o = .returned v ∧ Q12 Z a1 a2 t t2 n n2 f f2 h0 n0 v U'.heap L ∧ FrameEnd U o U' L ({ frames := 2, cells := 0, slots := 0, locals := 33 } : Room).cells ({ frames := 2, cells := 0, slots := 0, locals := 33 } : Room).slots) := by
  by_cases hz : (own_ct (fun j => own_lc (own_part n f j) (own_part n2 f2 j)) (max n n2) 0) = (0 : Int32)
  · exact rm12_ff l Z a0 hw ws a1 a2 t t2 n n2 f f2 h0 n0 Z0 hn hn2 E_o0 E_o1 F0 F1 V0 V1 hz
  · exact rm12_ft l Z a0 hw ws a1 a2 t t2 n n2 f f2 h0 n0 Z0 hn hn2 E_o0 E_o1 F0 F1 V0 V1 hz
def own_Two (s4 s5 : Slot) : Prop := (s4 = .unset ∧ s5 = .unset) ∨ ∃ w : Int64, s4 = .val (.long w) ∧ s5 = .second
theorem own_two {o0 o1 : Addr} {v : Int64} {i2 i3 : Int32} {s4 s5 : Slot} (h : own_Two s4 s5) : storeLocals #[.val (.ref o0), .val (.ref o1), .val (.int i2), .val (.int i3), s4, s5] 4 (.long v) = some #[.val (.ref o0), .val (.ref o1), .val (.int i2), .val (.int i3), .val (.long v), .second] := by
  rcases h with ⟨rfl, rfl⟩ | ⟨w, rfl, rfl⟩ <;> rfl
theorem d2_22 : decode prog_87_method_2_code 22 = .ok (.iload_n 3, 1) := by decide +kernel
theorem d2_23 : decode prog_87_method_2_code 23 = .ok (.iload_n 2, 1) := by decide +kernel
theorem d2_24 : decode prog_87_method_2_code 24 = .ok (.if_icmp .ge 36, 3) := by decide +kernel
theorem d2_27 : decode prog_87_method_2_code 27 = .ok (.aload_n 1, 1) := by decide +kernel
theorem d2_28 : decode prog_87_method_2_code 28 = .ok (.iload_n 3, 1) := by decide +kernel
theorem d2_29 : decode prog_87_method_2_code 29 = .ok (.laload, 1) := by decide +kernel
theorem d2_30 : decode prog_87_method_2_code 30 = .ok (.lstore 4, 2) := by decide +kernel
theorem d2_32 : decode prog_87_method_2_code 32 = .ok (.lload 4, 2) := by decide +kernel
theorem d2_34 : decode prog_87_method_2_code 34 = .ok (.lconst 0, 1) := by decide +kernel
theorem d2_35 : decode prog_87_method_2_code 35 = .ok (.lcmp, 1) := by decide +kernel
theorem d2_36 : decode prog_87_method_2_code 36 = .ok (.ifCond .ge 18, 3) := by decide +kernel
theorem d2_54 : decode prog_87_method_2_code 54 = .ok (.iinc 3 1, 3) := by decide +kernel
theorem d2_57 : decode prog_87_method_2_code 57 = .ok (.goto (-35), 3) := by decide +kernel
set_option maxRecDepth 65536 in
set_option maxHeartbeats 40000000 in
theorem tn2_22_22 {p : Program} {l : Launch} {e : Env} {R : Room} {s : State} {m : MethodId} {args : Array Value} {below : List Frame} {meth : Method} {c : Code} {T0 : State} {locs : List Loc} {cells slots : Nat} {Z : State} {a0 : Array Value} {h0 : Heap} (o0 : Addr) (o1 : Addr) (i2 : Int32) (i3 : Int32) (s4 : Slot) (s5 : Slot) (w2 : Int64) (cl_o1 : Cell)
    (X0 : Stand p l e R s m args below meth c T0 locs cells slots) (hx : p.tables.exec = Jvm.exec) (hZ : Z.Warmed39 s.vm) (hw : ∀ d ∈ tables_1, d.before a0 Z = true) (hby : c.code = prog_87_method_2_code) (hml : c.maxLocals = 6) (hown : s.vm.findClass "com/example/updrift/updrift/model/ReleaseNumber" = some m.cls) (e0 : T0.heap = h0) (h45 : own_Two s4 s5) (Ar_o1 : Arr Z h0 o1 cl_o1 .long) (hin29 : ¬ (i3 < 0 ∨ cl_o1.slots.size ≤ (i3).toNatClampNeg)) (hat29 : cl_o1.slots[(i3).toNatClampNeg]? = some (.long w2)) (hc24 : i3 < i2) (hc36 : ¬ ((lcmpW w2 (0 : Int64)) < (0 : Int32))) :
    ∃ (T' : State), Stand p l e R s m args below meth c T' locs cells slots ∧ T'.heap = h0 ∧
      ∀ target, Steps p.tables e below (T'.setTop (mkF m 22 #[.val (.ref o0), .val (.ref o1), .val (.int i2), .val (.int (i3 + (1 : Int32))), .val (.long w2), .second] [])) target → Steps p.tables e below (T0.setTop (mkF m 22 #[.val (.ref o0), .val (.ref o1), .val (.int i2), .val (.int i3), s4, s5] [])) target := by

  refine ⟨T0, X0, e0, fun target kt => ?_⟩
  show Steps p.tables e below (T0.setTop (mkF m 22 #[.val (.ref o0), .val (.ref o1), .val (.int i2), .val (.int i3), s4, s5] [])) _
  refine XS.iloadN X0.here hx rfl (hb hby d2_22) rfl ?_
  show Steps p.tables e below (T0.setTop (mkF m 23 #[.val (.ref o0), .val (.ref o1), .val (.int i2), .val (.int i3), s4, s5] [(.int i3)])) _
  refine XS.iloadN X0.here hx rfl (hb hby d2_23) rfl ?_
  show Steps p.tables e below (T0.setTop (mkF m 24 #[.val (.ref o0), .val (.ref o1), .val (.int i2), .val (.int i3), s4, s5] [(.int i2), (.int i3)])) _
  refine XS.icmpNo X0.here hx rfl (hb hby d2_24) rfl (tlt hc24).2.1 ?_
  show Steps p.tables e below (T0.setTop (mkF m 27 #[.val (.ref o0), .val (.ref o1), .val (.int i2), .val (.int i3), s4, s5] [])) _
  refine XS.aloadN X0.here hx rfl (hb hby d2_27) rfl rfl ?_
  show Steps p.tables e below (T0.setTop (mkF m 28 #[.val (.ref o0), .val (.ref o1), .val (.int i2), .val (.int i3), s4, s5] [(.ref o1)])) _
  refine XS.iloadN X0.here hx rfl (hb hby d2_28) rfl ?_
  show Steps p.tables e below (T0.setTop (mkF m 29 #[.val (.ref o0), .val (.ref o1), .val (.int i2), .val (.int i3), s4, s5] [(.int i3), (.ref o1)])) _
  refine X0.laload hx (j := i3) (v := (.long w2)) (by rw [e0]; exact Ar_o1.1) (State.isArrayOf_alike hZ.alike Ar_o1.2.1) Ar_o1.2.2 hin29 hat29 (g := (mkF m 29 #[.val (.ref o0), .val (.ref o1), .val (.int i2), .val (.int i3), s4, s5] [(.int i3), (.ref o1)])) rfl rfl (hb hby d2_29) _ ?_
  show Steps p.tables e below (T0.setTop (mkF m 30 #[.val (.ref o0), .val (.ref o1), .val (.int i2), .val (.int i3), s4, s5] [(.long w2)])) _
  refine XS.lstore X0.here hx rfl (hb hby d2_30) rfl (l' := #[.val (.ref o0), .val (.ref o1), .val (.int i2), .val (.int i3), .val (.long w2), .second]) (own_two h45) ?_
  show Steps p.tables e below (T0.setTop (mkF m 32 #[.val (.ref o0), .val (.ref o1), .val (.int i2), .val (.int i3), .val (.long w2), .second] [])) _
  refine XS.lload X0.here hx rfl (hb hby d2_32) rfl ?_
  show Steps p.tables e below (T0.setTop (mkF m 34 #[.val (.ref o0), .val (.ref o1), .val (.int i2), .val (.int i3), .val (.long w2), .second] [(.long w2)])) _
  refine XS.lconst X0.here hx rfl (hb hby d2_34) ?_
  show Steps p.tables e below (T0.setTop (mkF m 35 #[.val (.ref o0), .val (.ref o1), .val (.int i2), .val (.int i3), .val (.long w2), .second] [(.long (0 : Int64)), (.long w2)])) _
  refine XS.lcmp X0.here hx rfl (hb hby d2_35) rfl ?_
  show Steps p.tables e below (T0.setTop (mkF m 36 #[.val (.ref o0), .val (.ref o1), .val (.int i2), .val (.int i3), .val (.long w2), .second] [(.int (lcmpW w2 (0 : Int64)))])) _
  refine XS.ifYes X0.here hx rfl (pc0 := 36) (pc' := 54) rfl (hb hby d2_36) rfl ((if0 _ _).trans (flt hc36).2.1) (by decide) (by decide) ?_
  show Steps p.tables e below (T0.setTop (mkF m 54 #[.val (.ref o0), .val (.ref o1), .val (.int i2), .val (.int i3), .val (.long w2), .second] [])) _
  refine XS.iinc X0.here hx rfl (hb hby d2_54) rfl (l' := #[.val (.ref o0), .val (.ref o1), .val (.int i2), .val (.int (i3 + (1 : Int32))), .val (.long w2), .second]) rfl ?_
  show Steps p.tables e below (T0.setTop (mkF m 57 #[.val (.ref o0), .val (.ref o1), .val (.int i2), .val (.int (i3 + (1 : Int32))), .val (.long w2), .second] [])) _
  refine XS.goto X0.here hx rfl (pc0 := 57) (pc' := 22) rfl (hb hby d2_57) (by decide) (by decide) ?_
  exact kt
set_option maxRecDepth 65536 in
set_option maxHeartbeats 40000000 in
theorem tn2_22_60 {p : Program} {l : Launch} {e : Env} {R : Room} {s : State} {m : MethodId} {args : Array Value} {below : List Frame} {meth : Method} {c : Code} {T0 : State} {locs : List Loc} {cells slots : Nat} {Z : State} {a0 : Array Value} {h0 : Heap} (o0 : Addr) (o1 : Addr) (i2 : Int32) (i3 : Int32) (s4 : Slot) (s5 : Slot)
    (X0 : Stand p l e R s m args below meth c T0 locs cells slots) (hx : p.tables.exec = Jvm.exec) (hZ : Z.Warmed39 s.vm) (hw : ∀ d ∈ tables_1, d.before a0 Z = true) (hby : c.code = prog_87_method_2_code) (hml : c.maxLocals = 6) (hown : s.vm.findClass "com/example/updrift/updrift/model/ReleaseNumber" = some m.cls) (e0 : T0.heap = h0) (hc24 : ¬ (i3 < i2)) :
    ∃ (T' : State), Stand p l e R s m args below meth c T' locs cells slots ∧ T'.heap = h0 ∧
      ∀ target, Steps p.tables e below (T'.setTop (mkF m 60 #[.val (.ref o0), .val (.ref o1), .val (.int i2), .val (.int i3), s4, s5] [])) target → Steps p.tables e below (T0.setTop (mkF m 22 #[.val (.ref o0), .val (.ref o1), .val (.int i2), .val (.int i3), s4, s5] [])) target := by

  refine ⟨T0, X0, e0, fun target kt => ?_⟩
  show Steps p.tables e below (T0.setTop (mkF m 22 #[.val (.ref o0), .val (.ref o1), .val (.int i2), .val (.int i3), s4, s5] [])) _
  refine XS.iloadN X0.here hx rfl (hb hby d2_22) rfl ?_
  show Steps p.tables e below (T0.setTop (mkF m 23 #[.val (.ref o0), .val (.ref o1), .val (.int i2), .val (.int i3), s4, s5] [(.int i3)])) _
  refine XS.iloadN X0.here hx rfl (hb hby d2_23) rfl ?_
  show Steps p.tables e below (T0.setTop (mkF m 24 #[.val (.ref o0), .val (.ref o1), .val (.int i2), .val (.int i3), s4, s5] [(.int i2), (.int i3)])) _
  refine XS.icmpYes X0.here hx rfl (pc0 := 24) (pc' := 60) rfl (hb hby d2_24) rfl (flt hc24).2.1 (by decide) (by decide) ?_
  exact kt
/-- of's loop, whole -/
theorem loop2 {p : Program} {l : Launch} {e : Env} {R : Room} {s : State} {m : MethodId} {args : Array Value} {below : List Frame} {meth : Method} {c : Code} {locs : List Loc} {cells slots : Nat} {Z : State} {a0 : Array Value} {h0 : Heap} (o0 : Addr) (f : Nat → Int64) (n : Nat) (hn : n ≤ 3) (cl : Cell) (A : Arr Z h0 o0 cl .long) (S : cl.slots.size = n) (H : ∀ j, j < n → cl.slots[j]? = some (.long (f j))) (hpos : ∀ j, j < n → ¬ (lcmpW (f j) (0 : Int64) < (0 : Int32))) (hx : p.tables.exec = Jvm.exec) (hZ : Z.Warmed39 s.vm) (hw : ∀ d ∈ tables_1, d.before a0 Z = true) (hby : c.code = prog_87_method_2_code) (hml : c.maxLocals = 6) (hown : s.vm.findClass "com/example/updrift/updrift/model/ReleaseNumber" = some m.cls) :
    ∀ (k i : Nat) (T0 : State) (s4 s5 : Slot), i + k = n → own_Two s4 s5 → Stand p l e R s m args below meth c T0 locs cells slots → T0.heap = h0 →
      ∃ (T' : State) (s4' s5' : Slot), Stand p l e R s m args below meth c T' locs cells slots ∧ T'.heap = h0 ∧
        ∀ target, Steps p.tables e below (T'.setTop (mkF m 60 #[.val (.ref o0), .val (.ref o0), .val (.int (Int32.ofNat n)), .val (.int (Int32.ofNat n)), s4', s5'] [])) target → Steps p.tables e below (T0.setTop (mkF m 22 #[.val (.ref o0), .val (.ref o0), .val (.int (Int32.ofNat n)), .val (.int (Int32.ofNat i)), s4, s5] [])) target := by
  intro k
  induction k with
  | zero =>
    intro i T0 s4 s5 hi h45 X0 e0
    have hi' : i = n := by omega
    obtain ⟨T1, X1, e1, st1⟩ := tn2_22_60 o0 o0 (Int32.ofNat n) (Int32.ofNat n) s4 s5 X0 hx hZ hw hby hml hown e0 Int32.lt_irrefl
    refine ⟨T1, s4, s5, X1, e1, fun target q => ?_⟩
    rw [hi']; exact st1 target q
  | succ k ih =>
    intro i T0 s4 s5 hi h45 X0 e0
    have h32 : (Int32.ofNat i).toNatClampNeg = i := own_n32 (by omega)
    have hin : ¬ (Int32.ofNat i < 0 ∨ cl.slots.size ≤ (Int32.ofNat i).toNatClampNeg) := by
      rw [S, h32]
      exact fun q => q.elim (own_nn (by omega)) (fun q => by omega)
    have hat : cl.slots[(Int32.ofNat i).toNatClampNeg]? = some (.long (f i)) := by rw [h32]; exact H i (by omega)
    obtain ⟨T1, X1, e1, st1⟩ := tn2_22_22 o0 o0 (Int32.ofNat n) (Int32.ofNat i) s4 s5 (f i) cl X0 hx hZ hw hby hml hown e0 h45 A hin hat (own_lt (by omega) hn) (hpos i (by omega))
    obtain ⟨T', s4', s5', X', e', st⟩ := ih (i + 1) T1 _ _ (by omega) (Or.inr ⟨f i, rfl, rfl⟩) X1 e1
    refine ⟨T', s4', s5', X', e', fun target q => st1 target ?_⟩
    rw [own_one]; exact st target q
theorem d2_0 : decode prog_87_method_2_code 0 = .ok (.aload_n 0, 1) := by decide +kernel
theorem d2_1 : decode prog_87_method_2_code 1 = .ok (.arraylength, 1) := by decide +kernel
theorem d2_2 : decode prog_87_method_2_code 2 = .ok (.ifCond .ne 13, 3) := by decide +kernel
theorem d2_15 : decode prog_87_method_2_code 15 = .ok (.aload_n 0, 1) := by decide +kernel
theorem d2_16 : decode prog_87_method_2_code 16 = .ok (.astore_n 1, 1) := by decide +kernel
theorem d2_17 : decode prog_87_method_2_code 17 = .ok (.aload_n 1, 1) := by decide +kernel
theorem d2_18 : decode prog_87_method_2_code 18 = .ok (.arraylength, 1) := by decide +kernel
theorem d2_19 : decode prog_87_method_2_code 19 = .ok (.istore_n 2, 1) := by decide +kernel
theorem d2_20 : decode prog_87_method_2_code 20 = .ok (.iconst 0, 1) := by decide +kernel
theorem d2_21 : decode prog_87_method_2_code 21 = .ok (.istore_n 3, 1) := by decide +kernel
theorem d2_60 : decode prog_87_method_2_code 60 = .ok (.new 8, 3) := by decide +kernel
theorem d2_63 : decode prog_87_method_2_code 63 = .ok (.dup, 1) := by decide +kernel
theorem d2_64 : decode prog_87_method_2_code 64 = .ok (.aload_n 0, 1) := by decide +kernel
theorem d2_65 : decode prog_87_method_2_code 65 = .ok (.invokevirtual 24, 3) := by decide +kernel
theorem d2_68 : decode prog_87_method_2_code 68 = .ok (.checkcast 25, 3) := by decide +kernel
theorem d2_71 : decode prog_87_method_2_code 71 = .ok (.invokespecial 29, 3) := by decide +kernel
theorem d2_74 : decode prog_87_method_2_code 74 = .ok (.areturn, 1) := by decide +kernel
theorem pn_2 : plainName "com/example/updrift/updrift/model/ReleaseNumber" = true := by first | (simp [plainName, overriddenIn]; done) | decide +kernel
theorem pd_2_3 : parseMethodDescriptor "([J)V" = some ⟨[(.array .long)], none⟩ := by decide +kernel
theorem ef_2 (m : MethodId) (x0 : Addr) : entryFrame m #[(.ref x0)] 6 = mkF m 0 #[.val (.ref x0), .unset, .unset, .unset, .unset, .unset] [] := by first | (simp [entryFrame, mkF, argsToLocals, Value.category]; done) | rfl
def Q2 (Z : State) (a1 : Addr) (n : Nat) (f : Nat → Int64) (h0 : Heap) (n0 : Nat) (v : Option Value) (h : Heap) (L : List Loc) : Prop := (∃ b t, v = some (.ref b) ∧ h0.size ≤ b ∧ h0.size ≤ t ∧ Exa Z h b "com/example/updrift/updrift/model/ReleaseNumber" ∧ Fld Z h b "com/example/updrift/updrift/model/ReleaseNumber" "parts" "[J" (.ref t) ∧ own_L Z h t n f) ∧ Fr n0 L ∧ Keep h0 h []
set_option maxRecDepth 65536 in
set_option maxHeartbeats 40000000 in
theorem rm2 (l : Launch) (Z : State) (a0 : Array Value) (hw : ∀ d ∈ tables_1, d.before a0 Z = true) (ws : List Jvm.Cond) (a1 : Addr) (n : Nat) (f : Nat → Int64) (h0 : Heap) (n0 : Nat) (Z0 : n0 ≤ h0.size) (hn : n ≤ 3) (hn1 : 1 ≤ n) (V : own_L Z h0 a1 n f) (Ex : Exa Z h0 a1 "[J") (hpos : ∀ j, j < n → ¬ (lcmpW (f j) (0 : Int64) < (0 : Int32))) :
    MetFree l (⟨"com/example/updrift/updrift/model/ReleaseNumber", "of", "([J)Lcom/example/updrift/updrift/model/ReleaseNumber;"⟩ : MethodName) (head1 (Jvm.Cond.code (⟨"com/example/updrift/updrift/model/ReleaseNumber", "of", "([J)Lcom/example/updrift/updrift/model/ReleaseNumber;"⟩ : MethodName) prog_87_method_2_code 6 (some (.object "com/example/updrift/updrift/model/ReleaseNumber")) :: ws) ({ frames := 2, cells := 2, slots := 4, locals := 26 } : Room)) (fun a U => a = #[(.ref a1)] ∧ Z.Warmed39 U.vm ∧ U.heap = h0) (fun _ _ _ _ _ => True) (fun _ U o U' => ∃ v L, o = .returned v ∧ Q2 Z a1 n f h0 n0 v U'.heap L ∧ FrameEnd U o U' L ({ frames := 2, cells := 2, slots := 4, locals := 26 } : Room).cells ({ frames := 2, cells := 2, slots := 4, locals := 26 } : Room).slots) := by
  refine MetFree.of_bodySF (plainFor_of_name pn_2) hisR ?_
  intro p e s m args below meth c s₁ Bd hml0 hP hK
  obtain ⟨rfl, hZ, hh⟩ := hP
  have hx := Bd.exec
  have hby := Bd.bytes
  have hml : c.maxLocals = 6 := hml0
  have hown : s.vm.findClass "com/example/updrift/updrift/model/ReleaseNumber" = some m.cls := findClass_of_methodNamed Bd.named
  have hnm := (name_of_methodNamed Bd.named Bd.method).1
  have X0 : Stand p l e ({ frames := 2, cells := 2, slots := 4, locals := 26 } : Room) s m #[(.ref a1)] below meth c s₁ [] 0 0 := Stand.of_body Bd
  have e0 : s₁.heap = h0 := by rw [← hh, Bd.state]; rfl
  have N0 := Fr.nil n0
  have pre0 : ∀ t, Steps p.tables e below (s₁.setTop (mkF m 0 #[.val (.ref a1), .unset, .unset, .unset, .unset, .unset] [])) t → Steps p.tables e below (s₁.setTop (entryFrame m #[(.ref a1)] 6)) t := fun t k => castTop (ef_2 m a1) k
  obtain ⟨cl_a1, Ar_a1, S_q, H_q⟩ := V
  have S_a1 : cl_a1.slots.size = (Int32.ofNat n).toNatClampNeg := by rw [S_q, own_n32 hn]
  have N_a1 : ¬ Int32.ofNat n < 0 := own_nn hn
  have hc2 : ¬ (Int32.ofNat n = (0 : Int32)) := fun q => by
    have h := own_n32 hn
    rw [q] at h
    have h2 : (0 : Int32).toNatClampNeg = 0 := rfl
    omega
  have FC_a1 : FitC Z cl_a1 := fitC_of Ar_a1 (fun i hi v hv => by rw [H_q i (by rw [← S_q]; exact hi)] at hv; cases hv; rfl)
  have CP_a1 : cl_a1.slots.size ≤ 3 := by rw [S_q]; exact hn
  obtain ⟨T2, s4_2, s5_2, X2, e2, st2⟩ := loop2 a1 f n hn cl_a1 Ar_a1 S_q H_q hpos hx hZ hw hby hml hown n 0 s₁ .unset .unset (by omega) (Or.inl ⟨rfl, rfl⟩) X0 e0
  obtain ⟨T3, h3, X3, e3, E3, A3, D3, -, st3⟩ := newO X2 hx hZ hown (hw _ (List.mem_of_getElem? (i := 10) rfl)) (hw _ (List.mem_of_getElem? (i := 11) rfl)) (hw _ (List.mem_of_getElem? (i := 8) rfl)) e2 (g := (mkF m 60 #[.val (.ref a1), .val (.ref a1), .val (.int (Int32.ofNat n)), .val (.int (Int32.ofNat n)), s4_2, s5_2] [])) rfl (hb hby d2_60) (by decide) (by decide)
  obtain ⟨b3, g3⟩ : ∃ z, z = h0.size := ⟨_, rfl⟩
  rw [← g3] at A3 D3 st3
  have F_parts_b3 : Fld Z h3 b3 "com/example/updrift/updrift/model/ReleaseNumber" "parts" "[J" .null := D3 (Or.inr (hw _ (List.mem_of_getElem? (i := 28) rfl))) (ty := (.array .long)) (by decide)
  have E_b3 := A3
  have g_b3 : n0 ≤ b3 := Nat.le_trans Z0 (Nat.le_of_eq g3.symm)
  have sz_b3 : h0.size ≤ b3 := (Nat.le_trans (Keep.refl h0 []).1 (Nat.le_of_eq g3.symm))
  have K3 : Keep h0 h3 [] := (Keep.refl h0 []).ext E3
  obtain ⟨T4, h4, X4, e4, E4, A4, Ex4, st4⟩ := cloneA X3 hx hZ hown (hw _ (List.mem_of_getElem? (i := 12) rfl)) (hw _ (List.mem_of_getElem? (i := 13) rfl)) (hw _ (List.mem_of_getElem? (i := 17) rfl)) (hw _ (List.mem_of_getElem? (i := 15) rfl)) (hw _ (List.mem_of_getElem? (i := 16) rfl)) (hw _ (List.mem_of_getElem? (i := 18) rfl)) e3 (Ar_a1.ext E3) (Ex.ext E3) FC_a1 (g := (mkF m 65 #[.val (.ref a1), .val (.ref a1), .val (.int (Int32.ofNat n)), .val (.int (Int32.ofNat n)), s4_2, s5_2] [(.ref a1), (.ref b3), (.ref b3)])) rfl (by rw [hml]; rfl) rfl (hb hby d2_65) (by decide) (W := 2) (by show 2 * 0 + _ ≤ _; exact Nat.le_of_eq rfl) (by decide) (cap := 3) CP_a1 (by decide) (by decide)
  obtain ⟨b4, g4⟩ : ∃ z, z = h3.size := ⟨_, rfl⟩
  rw [← g4] at A4 Ex4 st4
  have g_b4 : n0 ≤ b4 := Nat.le_trans (Nat.le_trans Z0 E3.1) (Nat.le_of_eq g4.symm)
  have sz_b4 : h0.size ≤ b4 := (Nat.le_trans K3.1 (Nat.le_of_eq g4.symm))
  have K4 : Keep h0 h4 [] := K3.ext E4
  obtain ⟨T5, X5, e5, st5⟩ := castY X4 hx hZ hown (hw _ (List.mem_of_getElem? (i := 19) rfl)) e4 (Ins.self Ex4) (g := (mkF m 68 #[.val (.ref a1), .val (.ref a1), .val (.int (Int32.ofNat n)), .val (.int (Int32.ofNat n)), s4_2, s5_2] [(.ref b4), (.ref b3), (.ref b3)])) rfl rfl (hb hby d2_68)
  obtain ⟨_, _, ⟨T6, L6, k6, n6⟩, -, X6, ⟨Lc6, hQ6, l6, y6, z6⟩, st6⟩ := X5.specialBack hx (y := (⟨"com/example/updrift/updrift/model/ReleaseNumber", "<init>", "([J)V"⟩ : MethodName)) rfl hown (mvT hZ (hw _ (List.mem_of_getElem? (i := 21) rfl))) (mvT hZ (hw _ (List.mem_of_getElem? (i := 22) rfl))) (mvT hZ (hw _ (List.mem_of_getElem? (i := 23) rfl))) (by decide) (backOf (W := 1) (rm3 l Z a0 hw [] b3 b4 .null h4 n0 (Nat.le_trans (Nat.le_trans Z0 E3.1) E4.1) (E_b3.ext E4) (F_parts_b3.ext E4) g_b3) hZ (hw _ (List.mem_of_getElem? (i := 23) rfl)) (hw _ (List.mem_of_getElem? (i := 8) rfl)) (by decide) (by decide)) (g := (mkF m 71 #[.val (.ref a1), .val (.ref a1), .val (.int (Int32.ofNat n)), .val (.int (Int32.ofNat n)), s4_2, s5_2] [(.ref b4), (.ref b3), (.ref b3)])) rfl (by rw [hml]; rfl) (Steps.refl _) (a := b3) (argsL := [(.ref b4)]) (rest := [(.ref b3)]) (lenOf pd_2_3 rfl) rfl (by show 2 * 0 + _ ≤ _; exact Nat.le_of_eq rfl) (hb hby d2_71) (fun _ _ => ⟨rfl, e5, (by decide : 2 + 0 ≤ _), (by decide : 4 + 0 ≤ _)⟩)
  dsimp only [Pt.U, Pt.locs, Pt.cells, Pt.slots] at X6 l6 y6 z6 st6 hQ6
  subst l6 y6 z6
  obtain ⟨rfl, N6q, K6q, E6q, F6q⟩ := hQ6
  have N6 := Fr.app N0 N6q
  have KK : Keep h0 T6.heap [] := K4.trans K6q (fun x hx => by cases List.mem_singleton.mp hx; exact Or.inr sz_b3)
  have hbb : b4 ≠ b3 := Nat.ne_of_gt (Nat.lt_of_lt_of_le E_b3.lt (Nat.le_of_eq g4.symm))
  have VV : own_L Z T6.heap b4 n f := own_L.keep ⟨_, A4, S_q, H_q⟩ K6q (by simp [hbb])
  obtain ⟨fs, hr, hrun, hended, hW, hsame⟩ := X6.leave (v := some (.ref b3)) (fun h => by rw [Bd.returns] at h; cases h)
  refine ⟨_, _, pre0 _ ?_, hrun, hended, _, _, rfl, ?_, ⟨_, rfl⟩, hW, hsame.mono (by decide) (by decide)⟩
  · show Steps p.tables e below (s₁.setTop (mkF m 0 #[.val (.ref a1), .unset, .unset, .unset, .unset, .unset] [])) _
    refine XS.aloadN X0.here hx rfl (hb hby d2_0) rfl rfl ?_
    show Steps p.tables e below (s₁.setTop (mkF m 1 #[.val (.ref a1), .unset, .unset, .unset, .unset, .unset] [(.ref a1)])) _
    refine X0.arraylength hx (by rw [e0]; exact Ar_a1.1) (State.isArrayOf_alike hZ.alike Ar_a1.2.1) (g := (mkF m 1 #[.val (.ref a1), .unset, .unset, .unset, .unset, .unset] [(.ref a1)])) rfl rfl (hb hby d2_1) _ ?_
    rw [len_of S_a1 N_a1]
    show Steps p.tables e below (s₁.setTop (mkF m 2 #[.val (.ref a1), .unset, .unset, .unset, .unset, .unset] [(.int (Int32.ofNat n))])) _
    refine XS.ifYes X0.here hx rfl (pc0 := 2) (pc' := 15) rfl (hb hby d2_2) rfl ((if0 _ _).trans (feq hc2).2) (by decide) (by decide) ?_
    show Steps p.tables e below (s₁.setTop (mkF m 15 #[.val (.ref a1), .unset, .unset, .unset, .unset, .unset] [])) _
    refine XS.aloadN X0.here hx rfl (hb hby d2_15) rfl rfl ?_
    show Steps p.tables e below (s₁.setTop (mkF m 16 #[.val (.ref a1), .unset, .unset, .unset, .unset, .unset] [(.ref a1)])) _
    refine XS.astoreN X0.here hx rfl (hb hby d2_16) rfl rfl (l' := #[.val (.ref a1), .val (.ref a1), .unset, .unset, .unset, .unset]) rfl ?_
    show Steps p.tables e below (s₁.setTop (mkF m 17 #[.val (.ref a1), .val (.ref a1), .unset, .unset, .unset, .unset] [])) _
    refine XS.aloadN X0.here hx rfl (hb hby d2_17) rfl rfl ?_
    show Steps p.tables e below (s₁.setTop (mkF m 18 #[.val (.ref a1), .val (.ref a1), .unset, .unset, .unset, .unset] [(.ref a1)])) _
    refine X0.arraylength hx (by rw [e0]; exact Ar_a1.1) (State.isArrayOf_alike hZ.alike Ar_a1.2.1) (g := (mkF m 18 #[.val (.ref a1), .val (.ref a1), .unset, .unset, .unset, .unset] [(.ref a1)])) rfl rfl (hb hby d2_18) _ ?_
    rw [len_of S_a1 N_a1]
    show Steps p.tables e below (s₁.setTop (mkF m 19 #[.val (.ref a1), .val (.ref a1), .unset, .unset, .unset, .unset] [(.int (Int32.ofNat n))])) _
    refine XS.istoreN X0.here hx rfl (hb hby d2_19) rfl (l' := #[.val (.ref a1), .val (.ref a1), .val (.int (Int32.ofNat n)), .unset, .unset, .unset]) rfl ?_
    show Steps p.tables e below (s₁.setTop (mkF m 20 #[.val (.ref a1), .val (.ref a1), .val (.int (Int32.ofNat n)), .unset, .unset, .unset] [])) _
    refine XS.iconst X0.here hx rfl (hb hby d2_20) ?_
    show Steps p.tables e below (s₁.setTop (mkF m 21 #[.val (.ref a1), .val (.ref a1), .val (.int (Int32.ofNat n)), .unset, .unset, .unset] [(.int (0 : Int32))])) _
    refine XS.istoreN X0.here hx rfl (hb hby d2_21) rfl (l' := #[.val (.ref a1), .val (.ref a1), .val (.int (Int32.ofNat n)), .val (.int (0 : Int32)), .unset, .unset]) rfl ?_
    show Steps p.tables e below (s₁.setTop (mkF m 22 #[.val (.ref a1), .val (.ref a1), .val (.int (Int32.ofNat n)), .val (.int (0 : Int32)), .unset, .unset] [])) _
    refine st2 _ ?_
    show Steps p.tables e below (T2.setTop (mkF m 60 #[.val (.ref a1), .val (.ref a1), .val (.int (Int32.ofNat n)), .val (.int (Int32.ofNat n)), s4_2, s5_2] [])) _
    refine st3 _ ?_
    show Steps p.tables e below (T3.setTop (mkF m 63 #[.val (.ref a1), .val (.ref a1), .val (.int (Int32.ofNat n)), .val (.int (Int32.ofNat n)), s4_2, s5_2] [(.ref b3)])) _
    refine XS.dup X3.here hx rfl (hb hby d2_63) rfl rfl ?_
    show Steps p.tables e below (T3.setTop (mkF m 64 #[.val (.ref a1), .val (.ref a1), .val (.int (Int32.ofNat n)), .val (.int (Int32.ofNat n)), s4_2, s5_2] [(.ref b3), (.ref b3)])) _
    refine XS.aloadN X3.here hx rfl (hb hby d2_64) rfl rfl ?_
    show Steps p.tables e below (T3.setTop (mkF m 65 #[.val (.ref a1), .val (.ref a1), .val (.int (Int32.ofNat n)), .val (.int (Int32.ofNat n)), s4_2, s5_2] [(.ref a1), (.ref b3), (.ref b3)])) _
    refine st4 _ ?_
    show Steps p.tables e below (T4.setTop (mkF m 68 #[.val (.ref a1), .val (.ref a1), .val (.int (Int32.ofNat n)), .val (.int (Int32.ofNat n)), s4_2, s5_2] [(.ref b4), (.ref b3), (.ref b3)])) _
    refine st5 _ ?_
    show Steps p.tables e below (T5.setTop (mkF m 71 #[.val (.ref a1), .val (.ref a1), .val (.int (Int32.ofNat n)), .val (.int (Int32.ofNat n)), s4_2, s5_2] [(.ref b4), (.ref b3), (.ref b3)])) _
    refine st6.trans ?_
    show Steps p.tables e below (T6.setTop (mkF m 74 #[.val (.ref a1), .val (.ref a1), .val (.int (Int32.ofNat n)), .val (.int (Int32.ofNat n)), s4_2, s5_2] [(.ref b3)])) _
    jvm_step X6.here [X6.here.top, hx, (hb hby d2_74), X6.method', Bd.returns, Value.isRef, FieldType.isReference]
    first | (intro acts; rw [hr _ acts rfl rfl rfl]) | rw [hr _ _ rfl rfl rfl]
    exact Steps.refl _
  · show Q2 Z a1 n f h0 n0 _ T6.heap _
    exact ⟨⟨b3, b4, rfl, sz_b3, sz_b4, E6q, F6q, VV⟩, N6, KK⟩
def own_P (x : Int64) : Int64 := (x &&& (9223372036854775807 : Int64))
def own_n (x : Int32) : Int32 := (((x &&& (3 : Int32)) - ((x &&& (3 : Int32)) / (3 : Int32)) * (3 : Int32)) + (1 : Int32))
def own_s6 (x : Int32) : Int32 := ((x.toUInt32 >>> ((6 : Int32) &&& 31).toUInt32).toInt32)
def own_k0 (x : Int32) : Int32 := (x &&& (3 : Int32))
def own_k1 (x : Int32) : Int32 := (((x.toUInt32 >>> ((2 : Int32) &&& 31).toUInt32).toInt32) &&& (3 : Int32))
def own_k2 (x : Int32) : Int32 := (((x.toUInt32 >>> ((4 : Int32) &&& 31).toUInt32).toInt32) &&& (3 : Int32))
def own_f3 (a b c : Int64) (j : Nat) : Int64 := if j = 0 then a else if j = 1 then b else c
def own_exp (a b c : Int32) : Int32 := if a = (0 : Int32) then (if b = (0 : Int32) then c else b) else a
theorem own_L.congr {Z : State} {h : Heap} {t : Addr} {n : Nat} {f g : Nat → Int64} (F : own_L Z h t n f) (q : ∀ j, j < n → f j = g j) : own_L Z h t n g := by
  obtain ⟨c, A, S, H⟩ := F
  exact ⟨c, A, S, fun j hj => by rw [H j hj, q j hj]⟩
theorem own_n_nat (x : Int32) : ∃ n : Nat, 1 ≤ n ∧ n ≤ 3 ∧ own_n x = Int32.ofNat n := by
  have h1 : (x &&& (3 : Int32)).toInt = x.toInt % 2 ^ 2 := Jvm.Kit.i32_mask x 3 (k := 2) (by decide) (by decide)
  have h2 : ((x &&& (3 : Int32)) - ((x &&& (3 : Int32)) / (3 : Int32)) * (3 : Int32)).toInt = (x &&& (3 : Int32)).toInt % 3 := own_rem (by omega) (by decide)
  have h3 : (1 : Int32).toInt = 1 := rfl
  have h4 : (own_n x).toInt = (x.toInt % 2 ^ 2) % 3 + 1 := by
    unfold own_n
    rw [Jvm.Kit.i32_add (by omega) (by omega), h2, h1, h3]
  have h5 : (own_n x).toInt = 1 ∨ (own_n x).toInt = 2 ∨ (own_n x).toInt = 3 := by omega
  rcases h5 with h | h | h
  · exact ⟨1, by omega, by omega, Int32.toInt_inj.mp (h.trans rfl)⟩
  · exact ⟨2, by omega, by omega, Int32.toInt_inj.mp (h.trans rfl)⟩
  · exact ⟨3, by omega, by omega, Int32.toInt_inj.mp (h.trans rfl)⟩
theorem own_P_nn (x : Int64) : 0 ≤ (own_P x).toInt := by
  have h : (own_P x).toInt = x.toInt % 2 ^ 63 := Jvm.Kit.i64_mask x (9223372036854775807 : Int64) (k := 63) (by decide) (by decide)
  omega
theorem own_nn_lc {x : Int64} (h : 0 ≤ x.toInt) : ¬ (lcmpW x (0 : Int64) < (0 : Int32)) := by
  rw [lw_lt, Int64.lt_iff_toInt_lt]
  have h0 : (0 : Int64).toInt = 0 := rfl
  omega
theorem own_xor_nn {x : Int64} (h : 0 ≤ x.toInt) : 0 ≤ (x ^^^ (1 : Int64)).toInt := by
  have hx : x.toBitVec.msb = false := by
    exact BitVec.msb_eq_false_iff_two_mul_lt.mpr (by
      have h2 : 0 ≤ x.toBitVec.toInt := h
      rw [BitVec.toInt_eq_toNat_cond] at h2
      split at h2 <;> omega)
  show 0 ≤ (x ^^^ (1 : Int64)).toBitVec.toInt
  have hm : (x ^^^ (1 : Int64)).toBitVec.msb = false := by
    rw [Int64.toBitVec_xor, BitVec.msb_xor, hx]; rfl
  rw [BitVec.toInt_eq_toNat_cond]
  have := BitVec.msb_eq_false_iff_two_mul_lt.mp hm
  split <;> omega
theorem own_pick_nn (k : Int32) {p d : Int64} (hp : 0 ≤ p.toInt) (hd : 0 ≤ d.toInt) : 0 ≤ (own_pick k p d).toInt := by
  unfold own_pick
  split
  · exact hp
  · split
    · exact hd
    · split
      · decide
      · exact own_xor_nn hp
theorem pd_0_0 : parseMethodDescriptor "(IJJ)J" = some ⟨[.int, .long, .long], some .long⟩ := by decide +kernel
set_option maxRecDepth 65536 in
set_option maxHeartbeats 40000000 in
theorem own_s1 {p : Program} {l : Launch} {e : Env} {s : State} {m : MethodId} {args : Array Value} {below : List Frame} {meth : Method} {c : Code} {T0 : State} {locs : List Loc} {Z : State} {a0 : Array Value} {h0 : Heap} {n0 : Nat} (q1 q2 q3 q4 : Int64) (p5 p6 : Int32)
    (X0 : Stand p l e room_1 s m args below meth c T0 locs 0 0) (hx : p.tables.exec = Jvm.exec) (hZ : Z.Warmed39 s.vm) (hw : ∀ d ∈ tables_1, d.before a0 Z = true) (hby : c.code = code) (hml : c.maxLocals = 42) (hown : s.vm.findClass "com/example/updrift/updrift/model/ReleaseNumberOfPinLaw" = some m.cls) (e0 : T0.heap = h0) (N0 : Fr n0 locs) (Z0 : n0 ≤ h0.size)  :
    ∃ (T' : State) (locs' : List Loc), Stand p l e room_1 s m args below meth c T' locs' 0 0 ∧ T'.heap = h0 ∧ Fr n0 locs' ∧ 
      ∀ target, Steps p.tables e below (T'.setTop (mkF m 96 #[.val (.long q1), .second, .val (.long q2), .second, .val (.long q3), .second, .val (.long q4), .second, .val (.int p5), .val (.int p6), .val (.long (own_P q1)), .second, .val (.long (own_P q2)), .second, .val (.long (own_P q3)), .second, .val (.long (own_P q4)), .second, .val (.int (own_n p5)), .val (.int (own_n (own_s6 p6))), .val (.long (own_pick (own_k0 p6) (own_P q1) (own_P q4))), .second, .val (.long (own_pick (own_k1 p6) (own_P q2) (own_P q4))), .second, .val (.long (own_pick (own_k2 p6) (own_P q3) (own_P q4))), .second, .unset, .unset, .unset, .unset, .unset, .unset, .unset, .unset, .unset, .unset, .unset, .unset, .unset, .unset, .unset, .unset] [])) target → Steps p.tables e below (T0.setTop (mkF m 0 #[.val (.long q1), .second, .val (.long q2), .second, .val (.long q3), .second, .val (.long q4), .second, .val (.int p5), .val (.int p6), .unset, .unset, .unset, .unset, .unset, .unset, .unset, .unset, .unset, .unset, .unset, .unset, .unset, .unset, .unset, .unset, .unset, .unset, .unset, .unset, .unset, .unset, .unset, .unset, .unset, .unset, .unset, .unset, .unset, .unset, .unset, .unset] [])) target := by
  obtain ⟨_, _, ⟨T7, L7, k7, n7⟩, -, X7, ⟨Lc7, hQ7, l7, y7, z7⟩, st7⟩ := Jvm.LawKit.callS X0 hx (y := (⟨"com/example/updrift/updrift/model/ReleaseNumberOfPinLaw", "pick", "(IJJ)J"⟩ : MethodName)) hown (mvT hZ (hw _ (List.mem_of_getElem? (i := 1) rfl))) (mvT hZ (hw _ (List.mem_of_getElem? (i := 2) rfl))) (mvT hZ (hw _ (List.mem_of_getElem? (i := 3) rfl))) (mvT hZ (hw _ (List.mem_of_getElem? (i := 4) rfl))) (by decide) (backOf (W := 0) (rm1 l Z a0 hw [] (own_k0 p6) (own_P q1) (own_P q4)  h0 n0 Z0) hZ (hw _ (List.mem_of_getElem? (i := 4) rfl)) (hw _ (List.mem_of_getElem? (i := 3) rfl)) (by decide) (by decide)) (g := (mkF m 61 #[.val (.long q1), .second, .val (.long q2), .second, .val (.long q3), .second, .val (.long q4), .second, .val (.int p5), .val (.int p6), .val (.long (own_P q1)), .second, .val (.long (own_P q2)), .second, .val (.long (own_P q3)), .second, .val (.long (own_P q4)), .second, .val (.int (own_n p5)), .val (.int (own_n (own_s6 p6))), .unset, .unset, .unset, .unset, .unset, .unset, .unset, .unset, .unset, .unset, .unset, .unset, .unset, .unset, .unset, .unset, .unset, .unset, .unset, .unset, .unset, .unset] [(.long (own_P q4)), (.long (own_P q1)), (.int (own_k0 p6))])) rfl (by rw [hml]; rfl) (argsL := [(.int (own_k0 p6)), (.long (own_P q1)), (.long (own_P q4))]) (rest := []) (lenOf pd_0_0 rfl) rfl (by show 2 * 0 + _ ≤ _; exact Nat.le_of_eq rfl) (hb hby at_61) (fun _ _ => ⟨rfl, e0, (by decide : 0 + 0 ≤ _), (by decide : 0 + 0 ≤ _)⟩)
  dsimp only [Pt.U, Pt.locs, Pt.cells, Pt.slots] at X7 l7 y7 z7 st7 hQ7
  subst l7 y7 z7
  obtain ⟨rfl, N7q, e7q⟩ := hQ7
  have N7 := Fr.app N0 N7q
  have e7h : T7.heap = h0 := e7q
  have z7q : n0 ≤ T7.heap.size := by rw [e7h]; exact Z0
  obtain ⟨_, _, ⟨T8, L8, k8, n8⟩, -, X8, ⟨Lc8, hQ8, l8, y8, z8⟩, st8⟩ := Jvm.LawKit.callS X7 hx (y := (⟨"com/example/updrift/updrift/model/ReleaseNumberOfPinLaw", "pick", "(IJJ)J"⟩ : MethodName)) hown (mvT hZ (hw _ (List.mem_of_getElem? (i := 1) rfl))) (mvT hZ (hw _ (List.mem_of_getElem? (i := 2) rfl))) (mvT hZ (hw _ (List.mem_of_getElem? (i := 3) rfl))) (mvT hZ (hw _ (List.mem_of_getElem? (i := 4) rfl))) (by decide) (backOf (W := 0) (rm1 l Z a0 hw [] (own_k1 p6) (own_P q2) (own_P q4)  T7.heap n0 z7q) hZ (hw _ (List.mem_of_getElem? (i := 4) rfl)) (hw _ (List.mem_of_getElem? (i := 3) rfl)) (by decide) (by decide)) (g := (mkF m 76 #[.val (.long q1), .second, .val (.long q2), .second, .val (.long q3), .second, .val (.long q4), .second, .val (.int p5), .val (.int p6), .val (.long (own_P q1)), .second, .val (.long (own_P q2)), .second, .val (.long (own_P q3)), .second, .val (.long (own_P q4)), .second, .val (.int (own_n p5)), .val (.int (own_n (own_s6 p6))), .val (.long (own_pick (own_k0 p6) (own_P q1) (own_P q4))), .second, .unset, .unset, .unset, .unset, .unset, .unset, .unset, .unset, .unset, .unset, .unset, .unset, .unset, .unset, .unset, .unset, .unset, .unset, .unset, .unset] [(.long (own_P q4)), (.long (own_P q2)), (.int (own_k1 p6))])) rfl (by rw [hml]; rfl) (argsL := [(.int (own_k1 p6)), (.long (own_P q2)), (.long (own_P q4))]) (rest := []) (lenOf pd_0_0 rfl) rfl (by show 2 * 0 + _ ≤ _; exact Nat.le_of_eq rfl) (hb hby at_76) (fun _ _ => ⟨rfl, rfl, (by decide : 0 + 0 ≤ _), (by decide : 0 + 0 ≤ _)⟩)
  dsimp only [Pt.U, Pt.locs, Pt.cells, Pt.slots] at X8 l8 y8 z8 st8 hQ8
  subst l8 y8 z8
  obtain ⟨rfl, N8q, e8q⟩ := hQ8
  have N8 := Fr.app N7 N8q
  have e8h : T8.heap = h0 := e8q.trans e7h
  have z8q : n0 ≤ T8.heap.size := by rw [e8h]; exact Z0
  obtain ⟨_, _, ⟨T9, L9, k9, n9⟩, -, X9, ⟨Lc9, hQ9, l9, y9, z9⟩, st9⟩ := Jvm.LawKit.callS X8 hx (y := (⟨"com/example/updrift/updrift/model/ReleaseNumberOfPinLaw", "pick", "(IJJ)J"⟩ : MethodName)) hown (mvT hZ (hw _ (List.mem_of_getElem? (i := 1) rfl))) (mvT hZ (hw _ (List.mem_of_getElem? (i := 2) rfl))) (mvT hZ (hw _ (List.mem_of_getElem? (i := 3) rfl))) (mvT hZ (hw _ (List.mem_of_getElem? (i := 4) rfl))) (by decide) (backOf (W := 0) (rm1 l Z a0 hw [] (own_k2 p6) (own_P q3) (own_P q4)  T8.heap n0 z8q) hZ (hw _ (List.mem_of_getElem? (i := 4) rfl)) (hw _ (List.mem_of_getElem? (i := 3) rfl)) (by decide) (by decide)) (g := (mkF m 91 #[.val (.long q1), .second, .val (.long q2), .second, .val (.long q3), .second, .val (.long q4), .second, .val (.int p5), .val (.int p6), .val (.long (own_P q1)), .second, .val (.long (own_P q2)), .second, .val (.long (own_P q3)), .second, .val (.long (own_P q4)), .second, .val (.int (own_n p5)), .val (.int (own_n (own_s6 p6))), .val (.long (own_pick (own_k0 p6) (own_P q1) (own_P q4))), .second, .val (.long (own_pick (own_k1 p6) (own_P q2) (own_P q4))), .second, .unset, .unset, .unset, .unset, .unset, .unset, .unset, .unset, .unset, .unset, .unset, .unset, .unset, .unset, .unset, .unset, .unset, .unset] [(.long (own_P q4)), (.long (own_P q3)), (.int (own_k2 p6))])) rfl (by rw [hml]; rfl) (argsL := [(.int (own_k2 p6)), (.long (own_P q3)), (.long (own_P q4))]) (rest := []) (lenOf pd_0_0 rfl) rfl (by show 2 * 0 + _ ≤ _; exact Nat.le_of_eq rfl) (hb hby at_91) (fun _ _ => ⟨rfl, rfl, (by decide : 0 + 0 ≤ _), (by decide : 0 + 0 ≤ _)⟩)
  dsimp only [Pt.U, Pt.locs, Pt.cells, Pt.slots] at X9 l9 y9 z9 st9 hQ9
  subst l9 y9 z9
  obtain ⟨rfl, N9q, e9q⟩ := hQ9
  have N9 := Fr.app N8 N9q
  have e9h : T9.heap = h0 := e9q.trans e8h
  have z9q : n0 ≤ T9.heap.size := by rw [e9h]; exact Z0
  refine ⟨T9, _, X9, e9h, N9, fun target kt => ?_⟩
  show Steps p.tables e below (T0.setTop (mkF m 0 #[.val (.long q1), .second, .val (.long q2), .second, .val (.long q3), .second, .val (.long q4), .second, .val (.int p5), .val (.int p6), .unset, .unset, .unset, .unset, .unset, .unset, .unset, .unset, .unset, .unset, .unset, .unset, .unset, .unset, .unset, .unset, .unset, .unset, .unset, .unset, .unset, .unset, .unset, .unset, .unset, .unset, .unset, .unset, .unset, .unset, .unset, .unset] [])) _
  refine XS.lloadN X0.here hx rfl (hb hby at_0) rfl ?_
  show Steps p.tables e below (T0.setTop (mkF m 1 #[.val (.long q1), .second, .val (.long q2), .second, .val (.long q3), .second, .val (.long q4), .second, .val (.int p5), .val (.int p6), .unset, .unset, .unset, .unset, .unset, .unset, .unset, .unset, .unset, .unset, .unset, .unset, .unset, .unset, .unset, .unset, .unset, .unset, .unset, .unset, .unset, .unset, .unset, .unset, .unset, .unset, .unset, .unset, .unset, .unset, .unset, .unset] [(.long q1)])) _
  refine X0.ldc2Long hx hown (mvT hZ (hw _ (List.mem_of_getElem? (i := 0) rfl))) (g := (mkF m 1 #[.val (.long q1), .second, .val (.long q2), .second, .val (.long q3), .second, .val (.long q4), .second, .val (.int p5), .val (.int p6), .unset, .unset, .unset, .unset, .unset, .unset, .unset, .unset, .unset, .unset, .unset, .unset, .unset, .unset, .unset, .unset, .unset, .unset, .unset, .unset, .unset, .unset, .unset, .unset, .unset, .unset, .unset, .unset, .unset, .unset, .unset, .unset] [(.long q1)])) rfl (hb hby at_1) _ ?_
  show Steps p.tables e below (T0.setTop (mkF m 4 #[.val (.long q1), .second, .val (.long q2), .second, .val (.long q3), .second, .val (.long q4), .second, .val (.int p5), .val (.int p6), .unset, .unset, .unset, .unset, .unset, .unset, .unset, .unset, .unset, .unset, .unset, .unset, .unset, .unset, .unset, .unset, .unset, .unset, .unset, .unset, .unset, .unset, .unset, .unset, .unset, .unset, .unset, .unset, .unset, .unset, .unset, .unset] [(.long (9223372036854775807 : Int64)), (.long q1)])) _
  refine XS.land X0.here hx rfl (hb hby at_4) rfl ?_
  show Steps p.tables e below (T0.setTop (mkF m 5 #[.val (.long q1), .second, .val (.long q2), .second, .val (.long q3), .second, .val (.long q4), .second, .val (.int p5), .val (.int p6), .unset, .unset, .unset, .unset, .unset, .unset, .unset, .unset, .unset, .unset, .unset, .unset, .unset, .unset, .unset, .unset, .unset, .unset, .unset, .unset, .unset, .unset, .unset, .unset, .unset, .unset, .unset, .unset, .unset, .unset, .unset, .unset] [(.long (own_P q1))])) _
  refine XS.lstore X0.here hx rfl (hb hby at_5) rfl (l' := #[.val (.long q1), .second, .val (.long q2), .second, .val (.long q3), .second, .val (.long q4), .second, .val (.int p5), .val (.int p6), .val (.long (own_P q1)), .second, .unset, .unset, .unset, .unset, .unset, .unset, .unset, .unset, .unset, .unset, .unset, .unset, .unset, .unset, .unset, .unset, .unset, .unset, .unset, .unset, .unset, .unset, .unset, .unset, .unset, .unset, .unset, .unset, .unset, .unset]) rfl ?_
  show Steps p.tables e below (T0.setTop (mkF m 7 #[.val (.long q1), .second, .val (.long q2), .second, .val (.long q3), .second, .val (.long q4), .second, .val (.int p5), .val (.int p6), .val (.long (own_P q1)), .second, .unset, .unset, .unset, .unset, .unset, .unset, .unset, .unset, .unset, .unset, .unset, .unset, .unset, .unset, .unset, .unset, .unset, .unset, .unset, .unset, .unset, .unset, .unset, .unset, .unset, .unset, .unset, .unset, .unset, .unset] [])) _
  refine XS.lloadN X0.here hx rfl (hb hby at_7) rfl ?_
  show Steps p.tables e below (T0.setTop (mkF m 8 #[.val (.long q1), .second, .val (.long q2), .second, .val (.long q3), .second, .val (.long q4), .second, .val (.int p5), .val (.int p6), .val (.long (own_P q1)), .second, .unset, .unset, .unset, .unset, .unset, .unset, .unset, .unset, .unset, .unset, .unset, .unset, .unset, .unset, .unset, .unset, .unset, .unset, .unset, .unset, .unset, .unset, .unset, .unset, .unset, .unset, .unset, .unset, .unset, .unset] [(.long q2)])) _
  refine X0.ldc2Long hx hown (mvT hZ (hw _ (List.mem_of_getElem? (i := 0) rfl))) (g := (mkF m 8 #[.val (.long q1), .second, .val (.long q2), .second, .val (.long q3), .second, .val (.long q4), .second, .val (.int p5), .val (.int p6), .val (.long (own_P q1)), .second, .unset, .unset, .unset, .unset, .unset, .unset, .unset, .unset, .unset, .unset, .unset, .unset, .unset, .unset, .unset, .unset, .unset, .unset, .unset, .unset, .unset, .unset, .unset, .unset, .unset, .unset, .unset, .unset, .unset, .unset] [(.long q2)])) rfl (hb hby at_8) _ ?_
  show Steps p.tables e below (T0.setTop (mkF m 11 #[.val (.long q1), .second, .val (.long q2), .second, .val (.long q3), .second, .val (.long q4), .second, .val (.int p5), .val (.int p6), .val (.long (own_P q1)), .second, .unset, .unset, .unset, .unset, .unset, .unset, .unset, .unset, .unset, .unset, .unset, .unset, .unset, .unset, .unset, .unset, .unset, .unset, .unset, .unset, .unset, .unset, .unset, .unset, .unset, .unset, .unset, .unset, .unset, .unset] [(.long (9223372036854775807 : Int64)), (.long q2)])) _
  refine XS.land X0.here hx rfl (hb hby at_11) rfl ?_
  show Steps p.tables e below (T0.setTop (mkF m 12 #[.val (.long q1), .second, .val (.long q2), .second, .val (.long q3), .second, .val (.long q4), .second, .val (.int p5), .val (.int p6), .val (.long (own_P q1)), .second, .unset, .unset, .unset, .unset, .unset, .unset, .unset, .unset, .unset, .unset, .unset, .unset, .unset, .unset, .unset, .unset, .unset, .unset, .unset, .unset, .unset, .unset, .unset, .unset, .unset, .unset, .unset, .unset, .unset, .unset] [(.long (own_P q2))])) _
  refine XS.lstore X0.here hx rfl (hb hby at_12) rfl (l' := #[.val (.long q1), .second, .val (.long q2), .second, .val (.long q3), .second, .val (.long q4), .second, .val (.int p5), .val (.int p6), .val (.long (own_P q1)), .second, .val (.long (own_P q2)), .second, .unset, .unset, .unset, .unset, .unset, .unset, .unset, .unset, .unset, .unset, .unset, .unset, .unset, .unset, .unset, .unset, .unset, .unset, .unset, .unset, .unset, .unset, .unset, .unset, .unset, .unset, .unset, .unset]) rfl ?_
  show Steps p.tables e below (T0.setTop (mkF m 14 #[.val (.long q1), .second, .val (.long q2), .second, .val (.long q3), .second, .val (.long q4), .second, .val (.int p5), .val (.int p6), .val (.long (own_P q1)), .second, .val (.long (own_P q2)), .second, .unset, .unset, .unset, .unset, .unset, .unset, .unset, .unset, .unset, .unset, .unset, .unset, .unset, .unset, .unset, .unset, .unset, .unset, .unset, .unset, .unset, .unset, .unset, .unset, .unset, .unset, .unset, .unset] [])) _
  refine XS.lload X0.here hx rfl (hb hby at_14) rfl ?_
  show Steps p.tables e below (T0.setTop (mkF m 16 #[.val (.long q1), .second, .val (.long q2), .second, .val (.long q3), .second, .val (.long q4), .second, .val (.int p5), .val (.int p6), .val (.long (own_P q1)), .second, .val (.long (own_P q2)), .second, .unset, .unset, .unset, .unset, .unset, .unset, .unset, .unset, .unset, .unset, .unset, .unset, .unset, .unset, .unset, .unset, .unset, .unset, .unset, .unset, .unset, .unset, .unset, .unset, .unset, .unset, .unset, .unset] [(.long q3)])) _
  refine X0.ldc2Long hx hown (mvT hZ (hw _ (List.mem_of_getElem? (i := 0) rfl))) (g := (mkF m 16 #[.val (.long q1), .second, .val (.long q2), .second, .val (.long q3), .second, .val (.long q4), .second, .val (.int p5), .val (.int p6), .val (.long (own_P q1)), .second, .val (.long (own_P q2)), .second, .unset, .unset, .unset, .unset, .unset, .unset, .unset, .unset, .unset, .unset, .unset, .unset, .unset, .unset, .unset, .unset, .unset, .unset, .unset, .unset, .unset, .unset, .unset, .unset, .unset, .unset, .unset, .unset] [(.long q3)])) rfl (hb hby at_16) _ ?_
  show Steps p.tables e below (T0.setTop (mkF m 19 #[.val (.long q1), .second, .val (.long q2), .second, .val (.long q3), .second, .val (.long q4), .second, .val (.int p5), .val (.int p6), .val (.long (own_P q1)), .second, .val (.long (own_P q2)), .second, .unset, .unset, .unset, .unset, .unset, .unset, .unset, .unset, .unset, .unset, .unset, .unset, .unset, .unset, .unset, .unset, .unset, .unset, .unset, .unset, .unset, .unset, .unset, .unset, .unset, .unset, .unset, .unset] [(.long (9223372036854775807 : Int64)), (.long q3)])) _
  refine XS.land X0.here hx rfl (hb hby at_19) rfl ?_
  show Steps p.tables e below (T0.setTop (mkF m 20 #[.val (.long q1), .second, .val (.long q2), .second, .val (.long q3), .second, .val (.long q4), .second, .val (.int p5), .val (.int p6), .val (.long (own_P q1)), .second, .val (.long (own_P q2)), .second, .unset, .unset, .unset, .unset, .unset, .unset, .unset, .unset, .unset, .unset, .unset, .unset, .unset, .unset, .unset, .unset, .unset, .unset, .unset, .unset, .unset, .unset, .unset, .unset, .unset, .unset, .unset, .unset] [(.long (own_P q3))])) _
  refine XS.lstore X0.here hx rfl (hb hby at_20) rfl (l' := #[.val (.long q1), .second, .val (.long q2), .second, .val (.long q3), .second, .val (.long q4), .second, .val (.int p5), .val (.int p6), .val (.long (own_P q1)), .second, .val (.long (own_P q2)), .second, .val (.long (own_P q3)), .second, .unset, .unset, .unset, .unset, .unset, .unset, .unset, .unset, .unset, .unset, .unset, .unset, .unset, .unset, .unset, .unset, .unset, .unset, .unset, .unset, .unset, .unset, .unset, .unset, .unset, .unset]) rfl ?_
  show Steps p.tables e below (T0.setTop (mkF m 22 #[.val (.long q1), .second, .val (.long q2), .second, .val (.long q3), .second, .val (.long q4), .second, .val (.int p5), .val (.int p6), .val (.long (own_P q1)), .second, .val (.long (own_P q2)), .second, .val (.long (own_P q3)), .second, .unset, .unset, .unset, .unset, .unset, .unset, .unset, .unset, .unset, .unset, .unset, .unset, .unset, .unset, .unset, .unset, .unset, .unset, .unset, .unset, .unset, .unset, .unset, .unset, .unset, .unset] [])) _
  refine XS.lload X0.here hx rfl (hb hby at_22) rfl ?_
  show Steps p.tables e below (T0.setTop (mkF m 24 #[.val (.long q1), .second, .val (.long q2), .second, .val (.long q3), .second, .val (.long q4), .second, .val (.int p5), .val (.int p6), .val (.long (own_P q1)), .second, .val (.long (own_P q2)), .second, .val (.long (own_P q3)), .second, .unset, .unset, .unset, .unset, .unset, .unset, .unset, .unset, .unset, .unset, .unset, .unset, .unset, .unset, .unset, .unset, .unset, .unset, .unset, .unset, .unset, .unset, .unset, .unset, .unset, .unset] [(.long q4)])) _
  refine X0.ldc2Long hx hown (mvT hZ (hw _ (List.mem_of_getElem? (i := 0) rfl))) (g := (mkF m 24 #[.val (.long q1), .second, .val (.long q2), .second, .val (.long q3), .second, .val (.long q4), .second, .val (.int p5), .val (.int p6), .val (.long (own_P q1)), .second, .val (.long (own_P q2)), .second, .val (.long (own_P q3)), .second, .unset, .unset, .unset, .unset, .unset, .unset, .unset, .unset, .unset, .unset, .unset, .unset, .unset, .unset, .unset, .unset, .unset, .unset, .unset, .unset, .unset, .unset, .unset, .unset, .unset, .unset] [(.long q4)])) rfl (hb hby at_24) _ ?_
  show Steps p.tables e below (T0.setTop (mkF m 27 #[.val (.long q1), .second, .val (.long q2), .second, .val (.long q3), .second, .val (.long q4), .second, .val (.int p5), .val (.int p6), .val (.long (own_P q1)), .second, .val (.long (own_P q2)), .second, .val (.long (own_P q3)), .second, .unset, .unset, .unset, .unset, .unset, .unset, .unset, .unset, .unset, .unset, .unset, .unset, .unset, .unset, .unset, .unset, .unset, .unset, .unset, .unset, .unset, .unset, .unset, .unset, .unset, .unset] [(.long (9223372036854775807 : Int64)), (.long q4)])) _
  refine XS.land X0.here hx rfl (hb hby at_27) rfl ?_
  show Steps p.tables e below (T0.setTop (mkF m 28 #[.val (.long q1), .second, .val (.long q2), .second, .val (.long q3), .second, .val (.long q4), .second, .val (.int p5), .val (.int p6), .val (.long (own_P q1)), .second, .val (.long (own_P q2)), .second, .val (.long (own_P q3)), .second, .unset, .unset, .unset, .unset, .unset, .unset, .unset, .unset, .unset, .unset, .unset, .unset, .unset, .unset, .unset, .unset, .unset, .unset, .unset, .unset, .unset, .unset, .unset, .unset, .unset, .unset] [(.long (own_P q4))])) _
  refine XS.lstore X0.here hx rfl (hb hby at_28) rfl (l' := #[.val (.long q1), .second, .val (.long q2), .second, .val (.long q3), .second, .val (.long q4), .second, .val (.int p5), .val (.int p6), .val (.long (own_P q1)), .second, .val (.long (own_P q2)), .second, .val (.long (own_P q3)), .second, .val (.long (own_P q4)), .second, .unset, .unset, .unset, .unset, .unset, .unset, .unset, .unset, .unset, .unset, .unset, .unset, .unset, .unset, .unset, .unset, .unset, .unset, .unset, .unset, .unset, .unset, .unset, .unset]) rfl ?_
  show Steps p.tables e below (T0.setTop (mkF m 30 #[.val (.long q1), .second, .val (.long q2), .second, .val (.long q3), .second, .val (.long q4), .second, .val (.int p5), .val (.int p6), .val (.long (own_P q1)), .second, .val (.long (own_P q2)), .second, .val (.long (own_P q3)), .second, .val (.long (own_P q4)), .second, .unset, .unset, .unset, .unset, .unset, .unset, .unset, .unset, .unset, .unset, .unset, .unset, .unset, .unset, .unset, .unset, .unset, .unset, .unset, .unset, .unset, .unset, .unset, .unset] [])) _
  refine XS.iload X0.here hx rfl (hb hby at_30) rfl ?_
  show Steps p.tables e below (T0.setTop (mkF m 32 #[.val (.long q1), .second, .val (.long q2), .second, .val (.long q3), .second, .val (.long q4), .second, .val (.int p5), .val (.int p6), .val (.long (own_P q1)), .second, .val (.long (own_P q2)), .second, .val (.long (own_P q3)), .second, .val (.long (own_P q4)), .second, .unset, .unset, .unset, .unset, .unset, .unset, .unset, .unset, .unset, .unset, .unset, .unset, .unset, .unset, .unset, .unset, .unset, .unset, .unset, .unset, .unset, .unset, .unset, .unset] [(.int p5)])) _
  refine XS.iconst X0.here hx rfl (hb hby at_32) ?_
  show Steps p.tables e below (T0.setTop (mkF m 33 #[.val (.long q1), .second, .val (.long q2), .second, .val (.long q3), .second, .val (.long q4), .second, .val (.int p5), .val (.int p6), .val (.long (own_P q1)), .second, .val (.long (own_P q2)), .second, .val (.long (own_P q3)), .second, .val (.long (own_P q4)), .second, .unset, .unset, .unset, .unset, .unset, .unset, .unset, .unset, .unset, .unset, .unset, .unset, .unset, .unset, .unset, .unset, .unset, .unset, .unset, .unset, .unset, .unset, .unset, .unset] [(.int (3 : Int32)), (.int p5)])) _
  refine XS.iand X0.here hx rfl (hb hby at_33) rfl ?_
  show Steps p.tables e below (T0.setTop (mkF m 34 #[.val (.long q1), .second, .val (.long q2), .second, .val (.long q3), .second, .val (.long q4), .second, .val (.int p5), .val (.int p6), .val (.long (own_P q1)), .second, .val (.long (own_P q2)), .second, .val (.long (own_P q3)), .second, .val (.long (own_P q4)), .second, .unset, .unset, .unset, .unset, .unset, .unset, .unset, .unset, .unset, .unset, .unset, .unset, .unset, .unset, .unset, .unset, .unset, .unset, .unset, .unset, .unset, .unset, .unset, .unset] [(.int (p5 &&& (3 : Int32)))])) _
  refine XS.iconst X0.here hx rfl (hb hby at_34) ?_
  show Steps p.tables e below (T0.setTop (mkF m 35 #[.val (.long q1), .second, .val (.long q2), .second, .val (.long q3), .second, .val (.long q4), .second, .val (.int p5), .val (.int p6), .val (.long (own_P q1)), .second, .val (.long (own_P q2)), .second, .val (.long (own_P q3)), .second, .val (.long (own_P q4)), .second, .unset, .unset, .unset, .unset, .unset, .unset, .unset, .unset, .unset, .unset, .unset, .unset, .unset, .unset, .unset, .unset, .unset, .unset, .unset, .unset, .unset, .unset, .unset, .unset] [(.int (3 : Int32)), (.int (p5 &&& (3 : Int32)))])) _
  refine XS.irem X0.here hx rfl (hb hby at_35) rfl (by decide) ?_
  show Steps p.tables e below (T0.setTop (mkF m 36 #[.val (.long q1), .second, .val (.long q2), .second, .val (.long q3), .second, .val (.long q4), .second, .val (.int p5), .val (.int p6), .val (.long (own_P q1)), .second, .val (.long (own_P q2)), .second, .val (.long (own_P q3)), .second, .val (.long (own_P q4)), .second, .unset, .unset, .unset, .unset, .unset, .unset, .unset, .unset, .unset, .unset, .unset, .unset, .unset, .unset, .unset, .unset, .unset, .unset, .unset, .unset, .unset, .unset, .unset, .unset] [(.int ((p5 &&& (3 : Int32)) - ((p5 &&& (3 : Int32)) / (3 : Int32)) * (3 : Int32)))])) _
  refine XS.iconst X0.here hx rfl (hb hby at_36) ?_
  show Steps p.tables e below (T0.setTop (mkF m 37 #[.val (.long q1), .second, .val (.long q2), .second, .val (.long q3), .second, .val (.long q4), .second, .val (.int p5), .val (.int p6), .val (.long (own_P q1)), .second, .val (.long (own_P q2)), .second, .val (.long (own_P q3)), .second, .val (.long (own_P q4)), .second, .unset, .unset, .unset, .unset, .unset, .unset, .unset, .unset, .unset, .unset, .unset, .unset, .unset, .unset, .unset, .unset, .unset, .unset, .unset, .unset, .unset, .unset, .unset, .unset] [(.int (1 : Int32)), (.int ((p5 &&& (3 : Int32)) - ((p5 &&& (3 : Int32)) / (3 : Int32)) * (3 : Int32)))])) _
  refine XS.iadd X0.here hx rfl (hb hby at_37) rfl ?_
  show Steps p.tables e below (T0.setTop (mkF m 38 #[.val (.long q1), .second, .val (.long q2), .second, .val (.long q3), .second, .val (.long q4), .second, .val (.int p5), .val (.int p6), .val (.long (own_P q1)), .second, .val (.long (own_P q2)), .second, .val (.long (own_P q3)), .second, .val (.long (own_P q4)), .second, .unset, .unset, .unset, .unset, .unset, .unset, .unset, .unset, .unset, .unset, .unset, .unset, .unset, .unset, .unset, .unset, .unset, .unset, .unset, .unset, .unset, .unset, .unset, .unset] [(.int (own_n p5))])) _
  refine XS.istore X0.here hx rfl (hb hby at_38) rfl (l' := #[.val (.long q1), .second, .val (.long q2), .second, .val (.long q3), .second, .val (.long q4), .second, .val (.int p5), .val (.int p6), .val (.long (own_P q1)), .second, .val (.long (own_P q2)), .second, .val (.long (own_P q3)), .second, .val (.long (own_P q4)), .second, .val (.int (own_n p5)), .unset, .unset, .unset, .unset, .unset, .unset, .unset, .unset, .unset, .unset, .unset, .unset, .unset, .unset, .unset, .unset, .unset, .unset, .unset, .unset, .unset, .unset, .unset]) rfl ?_
  show Steps p.tables e below (T0.setTop (mkF m 40 #[.val (.long q1), .second, .val (.long q2), .second, .val (.long q3), .second, .val (.long q4), .second, .val (.int p5), .val (.int p6), .val (.long (own_P q1)), .second, .val (.long (own_P q2)), .second, .val (.long (own_P q3)), .second, .val (.long (own_P q4)), .second, .val (.int (own_n p5)), .unset, .unset, .unset, .unset, .unset, .unset, .unset, .unset, .unset, .unset, .unset, .unset, .unset, .unset, .unset, .unset, .unset, .unset, .unset, .unset, .unset, .unset, .unset] [])) _
  refine XS.iload X0.here hx rfl (hb hby at_40) rfl ?_
  show Steps p.tables e below (T0.setTop (mkF m 42 #[.val (.long q1), .second, .val (.long q2), .second, .val (.long q3), .second, .val (.long q4), .second, .val (.int p5), .val (.int p6), .val (.long (own_P q1)), .second, .val (.long (own_P q2)), .second, .val (.long (own_P q3)), .second, .val (.long (own_P q4)), .second, .val (.int (own_n p5)), .unset, .unset, .unset, .unset, .unset, .unset, .unset, .unset, .unset, .unset, .unset, .unset, .unset, .unset, .unset, .unset, .unset, .unset, .unset, .unset, .unset, .unset, .unset] [(.int p6)])) _
  refine XS.bipush X0.here hx rfl (hb hby at_42) ?_
  show Steps p.tables e below (T0.setTop (mkF m 44 #[.val (.long q1), .second, .val (.long q2), .second, .val (.long q3), .second, .val (.long q4), .second, .val (.int p5), .val (.int p6), .val (.long (own_P q1)), .second, .val (.long (own_P q2)), .second, .val (.long (own_P q3)), .second, .val (.long (own_P q4)), .second, .val (.int (own_n p5)), .unset, .unset, .unset, .unset, .unset, .unset, .unset, .unset, .unset, .unset, .unset, .unset, .unset, .unset, .unset, .unset, .unset, .unset, .unset, .unset, .unset, .unset, .unset] [(.int (6 : Int32)), (.int p6)])) _
  refine XS.iushr X0.here hx rfl (hb hby at_44) rfl ?_
  show Steps p.tables e below (T0.setTop (mkF m 45 #[.val (.long q1), .second, .val (.long q2), .second, .val (.long q3), .second, .val (.long q4), .second, .val (.int p5), .val (.int p6), .val (.long (own_P q1)), .second, .val (.long (own_P q2)), .second, .val (.long (own_P q3)), .second, .val (.long (own_P q4)), .second, .val (.int (own_n p5)), .unset, .unset, .unset, .unset, .unset, .unset, .unset, .unset, .unset, .unset, .unset, .unset, .unset, .unset, .unset, .unset, .unset, .unset, .unset, .unset, .unset, .unset, .unset] [(.int (own_s6 p6))])) _
  refine XS.iconst X0.here hx rfl (hb hby at_45) ?_
  show Steps p.tables e below (T0.setTop (mkF m 46 #[.val (.long q1), .second, .val (.long q2), .second, .val (.long q3), .second, .val (.long q4), .second, .val (.int p5), .val (.int p6), .val (.long (own_P q1)), .second, .val (.long (own_P q2)), .second, .val (.long (own_P q3)), .second, .val (.long (own_P q4)), .second, .val (.int (own_n p5)), .unset, .unset, .unset, .unset, .unset, .unset, .unset, .unset, .unset, .unset, .unset, .unset, .unset, .unset, .unset, .unset, .unset, .unset, .unset, .unset, .unset, .unset, .unset] [(.int (3 : Int32)), (.int (own_s6 p6))])) _
  refine XS.iand X0.here hx rfl (hb hby at_46) rfl ?_
  show Steps p.tables e below (T0.setTop (mkF m 47 #[.val (.long q1), .second, .val (.long q2), .second, .val (.long q3), .second, .val (.long q4), .second, .val (.int p5), .val (.int p6), .val (.long (own_P q1)), .second, .val (.long (own_P q2)), .second, .val (.long (own_P q3)), .second, .val (.long (own_P q4)), .second, .val (.int (own_n p5)), .unset, .unset, .unset, .unset, .unset, .unset, .unset, .unset, .unset, .unset, .unset, .unset, .unset, .unset, .unset, .unset, .unset, .unset, .unset, .unset, .unset, .unset, .unset] [(.int ((own_s6 p6) &&& (3 : Int32)))])) _
  refine XS.iconst X0.here hx rfl (hb hby at_47) ?_
  show Steps p.tables e below (T0.setTop (mkF m 48 #[.val (.long q1), .second, .val (.long q2), .second, .val (.long q3), .second, .val (.long q4), .second, .val (.int p5), .val (.int p6), .val (.long (own_P q1)), .second, .val (.long (own_P q2)), .second, .val (.long (own_P q3)), .second, .val (.long (own_P q4)), .second, .val (.int (own_n p5)), .unset, .unset, .unset, .unset, .unset, .unset, .unset, .unset, .unset, .unset, .unset, .unset, .unset, .unset, .unset, .unset, .unset, .unset, .unset, .unset, .unset, .unset, .unset] [(.int (3 : Int32)), (.int ((own_s6 p6) &&& (3 : Int32)))])) _
  refine XS.irem X0.here hx rfl (hb hby at_48) rfl (by decide) ?_
  show Steps p.tables e below (T0.setTop (mkF m 49 #[.val (.long q1), .second, .val (.long q2), .second, .val (.long q3), .second, .val (.long q4), .second, .val (.int p5), .val (.int p6), .val (.long (own_P q1)), .second, .val (.long (own_P q2)), .second, .val (.long (own_P q3)), .second, .val (.long (own_P q4)), .second, .val (.int (own_n p5)), .unset, .unset, .unset, .unset, .unset, .unset, .unset, .unset, .unset, .unset, .unset, .unset, .unset, .unset, .unset, .unset, .unset, .unset, .unset, .unset, .unset, .unset, .unset] [(.int (((own_s6 p6) &&& (3 : Int32)) - (((own_s6 p6) &&& (3 : Int32)) / (3 : Int32)) * (3 : Int32)))])) _
  refine XS.iconst X0.here hx rfl (hb hby at_49) ?_
  show Steps p.tables e below (T0.setTop (mkF m 50 #[.val (.long q1), .second, .val (.long q2), .second, .val (.long q3), .second, .val (.long q4), .second, .val (.int p5), .val (.int p6), .val (.long (own_P q1)), .second, .val (.long (own_P q2)), .second, .val (.long (own_P q3)), .second, .val (.long (own_P q4)), .second, .val (.int (own_n p5)), .unset, .unset, .unset, .unset, .unset, .unset, .unset, .unset, .unset, .unset, .unset, .unset, .unset, .unset, .unset, .unset, .unset, .unset, .unset, .unset, .unset, .unset, .unset] [(.int (1 : Int32)), (.int (((own_s6 p6) &&& (3 : Int32)) - (((own_s6 p6) &&& (3 : Int32)) / (3 : Int32)) * (3 : Int32)))])) _
  refine XS.iadd X0.here hx rfl (hb hby at_50) rfl ?_
  show Steps p.tables e below (T0.setTop (mkF m 51 #[.val (.long q1), .second, .val (.long q2), .second, .val (.long q3), .second, .val (.long q4), .second, .val (.int p5), .val (.int p6), .val (.long (own_P q1)), .second, .val (.long (own_P q2)), .second, .val (.long (own_P q3)), .second, .val (.long (own_P q4)), .second, .val (.int (own_n p5)), .unset, .unset, .unset, .unset, .unset, .unset, .unset, .unset, .unset, .unset, .unset, .unset, .unset, .unset, .unset, .unset, .unset, .unset, .unset, .unset, .unset, .unset, .unset] [(.int (own_n (own_s6 p6)))])) _
  refine XS.istore X0.here hx rfl (hb hby at_51) rfl (l' := #[.val (.long q1), .second, .val (.long q2), .second, .val (.long q3), .second, .val (.long q4), .second, .val (.int p5), .val (.int p6), .val (.long (own_P q1)), .second, .val (.long (own_P q2)), .second, .val (.long (own_P q3)), .second, .val (.long (own_P q4)), .second, .val (.int (own_n p5)), .val (.int (own_n (own_s6 p6))), .unset, .unset, .unset, .unset, .unset, .unset, .unset, .unset, .unset, .unset, .unset, .unset, .unset, .unset, .unset, .unset, .unset, .unset, .unset, .unset, .unset, .unset]) rfl ?_
  show Steps p.tables e below (T0.setTop (mkF m 53 #[.val (.long q1), .second, .val (.long q2), .second, .val (.long q3), .second, .val (.long q4), .second, .val (.int p5), .val (.int p6), .val (.long (own_P q1)), .second, .val (.long (own_P q2)), .second, .val (.long (own_P q3)), .second, .val (.long (own_P q4)), .second, .val (.int (own_n p5)), .val (.int (own_n (own_s6 p6))), .unset, .unset, .unset, .unset, .unset, .unset, .unset, .unset, .unset, .unset, .unset, .unset, .unset, .unset, .unset, .unset, .unset, .unset, .unset, .unset, .unset, .unset] [])) _
  refine XS.iload X0.here hx rfl (hb hby at_53) rfl ?_
  show Steps p.tables e below (T0.setTop (mkF m 55 #[.val (.long q1), .second, .val (.long q2), .second, .val (.long q3), .second, .val (.long q4), .second, .val (.int p5), .val (.int p6), .val (.long (own_P q1)), .second, .val (.long (own_P q2)), .second, .val (.long (own_P q3)), .second, .val (.long (own_P q4)), .second, .val (.int (own_n p5)), .val (.int (own_n (own_s6 p6))), .unset, .unset, .unset, .unset, .unset, .unset, .unset, .unset, .unset, .unset, .unset, .unset, .unset, .unset, .unset, .unset, .unset, .unset, .unset, .unset, .unset, .unset] [(.int p6)])) _
  refine XS.iconst X0.here hx rfl (hb hby at_55) ?_
  show Steps p.tables e below (T0.setTop (mkF m 56 #[.val (.long q1), .second, .val (.long q2), .second, .val (.long q3), .second, .val (.long q4), .second, .val (.int p5), .val (.int p6), .val (.long (own_P q1)), .second, .val (.long (own_P q2)), .second, .val (.long (own_P q3)), .second, .val (.long (own_P q4)), .second, .val (.int (own_n p5)), .val (.int (own_n (own_s6 p6))), .unset, .unset, .unset, .unset, .unset, .unset, .unset, .unset, .unset, .unset, .unset, .unset, .unset, .unset, .unset, .unset, .unset, .unset, .unset, .unset, .unset, .unset] [(.int (3 : Int32)), (.int p6)])) _
  refine XS.iand X0.here hx rfl (hb hby at_56) rfl ?_
  show Steps p.tables e below (T0.setTop (mkF m 57 #[.val (.long q1), .second, .val (.long q2), .second, .val (.long q3), .second, .val (.long q4), .second, .val (.int p5), .val (.int p6), .val (.long (own_P q1)), .second, .val (.long (own_P q2)), .second, .val (.long (own_P q3)), .second, .val (.long (own_P q4)), .second, .val (.int (own_n p5)), .val (.int (own_n (own_s6 p6))), .unset, .unset, .unset, .unset, .unset, .unset, .unset, .unset, .unset, .unset, .unset, .unset, .unset, .unset, .unset, .unset, .unset, .unset, .unset, .unset, .unset, .unset] [(.int (own_k0 p6))])) _
  refine XS.lload X0.here hx rfl (hb hby at_57) rfl ?_
  show Steps p.tables e below (T0.setTop (mkF m 59 #[.val (.long q1), .second, .val (.long q2), .second, .val (.long q3), .second, .val (.long q4), .second, .val (.int p5), .val (.int p6), .val (.long (own_P q1)), .second, .val (.long (own_P q2)), .second, .val (.long (own_P q3)), .second, .val (.long (own_P q4)), .second, .val (.int (own_n p5)), .val (.int (own_n (own_s6 p6))), .unset, .unset, .unset, .unset, .unset, .unset, .unset, .unset, .unset, .unset, .unset, .unset, .unset, .unset, .unset, .unset, .unset, .unset, .unset, .unset, .unset, .unset] [(.long (own_P q1)), (.int (own_k0 p6))])) _
  refine XS.lload X0.here hx rfl (hb hby at_59) rfl ?_
  show Steps p.tables e below (T0.setTop (mkF m 61 #[.val (.long q1), .second, .val (.long q2), .second, .val (.long q3), .second, .val (.long q4), .second, .val (.int p5), .val (.int p6), .val (.long (own_P q1)), .second, .val (.long (own_P q2)), .second, .val (.long (own_P q3)), .second, .val (.long (own_P q4)), .second, .val (.int (own_n p5)), .val (.int (own_n (own_s6 p6))), .unset, .unset, .unset, .unset, .unset, .unset, .unset, .unset, .unset, .unset, .unset, .unset, .unset, .unset, .unset, .unset, .unset, .unset, .unset, .unset, .unset, .unset] [(.long (own_P q4)), (.long (own_P q1)), (.int (own_k0 p6))])) _
  refine st7 _ ?_
  show Steps p.tables e below (T7.setTop (mkF m 64 #[.val (.long q1), .second, .val (.long q2), .second, .val (.long q3), .second, .val (.long q4), .second, .val (.int p5), .val (.int p6), .val (.long (own_P q1)), .second, .val (.long (own_P q2)), .second, .val (.long (own_P q3)), .second, .val (.long (own_P q4)), .second, .val (.int (own_n p5)), .val (.int (own_n (own_s6 p6))), .unset, .unset, .unset, .unset, .unset, .unset, .unset, .unset, .unset, .unset, .unset, .unset, .unset, .unset, .unset, .unset, .unset, .unset, .unset, .unset, .unset, .unset] [(.long (own_pick (own_k0 p6) (own_P q1) (own_P q4)))])) _
  refine XS.lstore X7.here hx rfl (hb hby at_64) rfl (l' := #[.val (.long q1), .second, .val (.long q2), .second, .val (.long q3), .second, .val (.long q4), .second, .val (.int p5), .val (.int p6), .val (.long (own_P q1)), .second, .val (.long (own_P q2)), .second, .val (.long (own_P q3)), .second, .val (.long (own_P q4)), .second, .val (.int (own_n p5)), .val (.int (own_n (own_s6 p6))), .val (.long (own_pick (own_k0 p6) (own_P q1) (own_P q4))), .second, .unset, .unset, .unset, .unset, .unset, .unset, .unset, .unset, .unset, .unset, .unset, .unset, .unset, .unset, .unset, .unset, .unset, .unset, .unset, .unset]) rfl ?_
  show Steps p.tables e below (T7.setTop (mkF m 66 #[.val (.long q1), .second, .val (.long q2), .second, .val (.long q3), .second, .val (.long q4), .second, .val (.int p5), .val (.int p6), .val (.long (own_P q1)), .second, .val (.long (own_P q2)), .second, .val (.long (own_P q3)), .second, .val (.long (own_P q4)), .second, .val (.int (own_n p5)), .val (.int (own_n (own_s6 p6))), .val (.long (own_pick (own_k0 p6) (own_P q1) (own_P q4))), .second, .unset, .unset, .unset, .unset, .unset, .unset, .unset, .unset, .unset, .unset, .unset, .unset, .unset, .unset, .unset, .unset, .unset, .unset, .unset, .unset] [])) _
  refine XS.iload X7.here hx rfl (hb hby at_66) rfl ?_
  show Steps p.tables e below (T7.setTop (mkF m 68 #[.val (.long q1), .second, .val (.long q2), .second, .val (.long q3), .second, .val (.long q4), .second, .val (.int p5), .val (.int p6), .val (.long (own_P q1)), .second, .val (.long (own_P q2)), .second, .val (.long (own_P q3)), .second, .val (.long (own_P q4)), .second, .val (.int (own_n p5)), .val (.int (own_n (own_s6 p6))), .val (.long (own_pick (own_k0 p6) (own_P q1) (own_P q4))), .second, .unset, .unset, .unset, .unset, .unset, .unset, .unset, .unset, .unset, .unset, .unset, .unset, .unset, .unset, .unset, .unset, .unset, .unset, .unset, .unset] [(.int p6)])) _
  refine XS.iconst X7.here hx rfl (hb hby at_68) ?_
  show Steps p.tables e below (T7.setTop (mkF m 69 #[.val (.long q1), .second, .val (.long q2), .second, .val (.long q3), .second, .val (.long q4), .second, .val (.int p5), .val (.int p6), .val (.long (own_P q1)), .second, .val (.long (own_P q2)), .second, .val (.long (own_P q3)), .second, .val (.long (own_P q4)), .second, .val (.int (own_n p5)), .val (.int (own_n (own_s6 p6))), .val (.long (own_pick (own_k0 p6) (own_P q1) (own_P q4))), .second, .unset, .unset, .unset, .unset, .unset, .unset, .unset, .unset, .unset, .unset, .unset, .unset, .unset, .unset, .unset, .unset, .unset, .unset, .unset, .unset] [(.int (2 : Int32)), (.int p6)])) _
  refine XS.iushr X7.here hx rfl (hb hby at_69) rfl ?_
  show Steps p.tables e below (T7.setTop (mkF m 70 #[.val (.long q1), .second, .val (.long q2), .second, .val (.long q3), .second, .val (.long q4), .second, .val (.int p5), .val (.int p6), .val (.long (own_P q1)), .second, .val (.long (own_P q2)), .second, .val (.long (own_P q3)), .second, .val (.long (own_P q4)), .second, .val (.int (own_n p5)), .val (.int (own_n (own_s6 p6))), .val (.long (own_pick (own_k0 p6) (own_P q1) (own_P q4))), .second, .unset, .unset, .unset, .unset, .unset, .unset, .unset, .unset, .unset, .unset, .unset, .unset, .unset, .unset, .unset, .unset, .unset, .unset, .unset, .unset] [(.int ((p6.toUInt32 >>> ((2 : Int32) &&& 31).toUInt32).toInt32))])) _
  refine XS.iconst X7.here hx rfl (hb hby at_70) ?_
  show Steps p.tables e below (T7.setTop (mkF m 71 #[.val (.long q1), .second, .val (.long q2), .second, .val (.long q3), .second, .val (.long q4), .second, .val (.int p5), .val (.int p6), .val (.long (own_P q1)), .second, .val (.long (own_P q2)), .second, .val (.long (own_P q3)), .second, .val (.long (own_P q4)), .second, .val (.int (own_n p5)), .val (.int (own_n (own_s6 p6))), .val (.long (own_pick (own_k0 p6) (own_P q1) (own_P q4))), .second, .unset, .unset, .unset, .unset, .unset, .unset, .unset, .unset, .unset, .unset, .unset, .unset, .unset, .unset, .unset, .unset, .unset, .unset, .unset, .unset] [(.int (3 : Int32)), (.int ((p6.toUInt32 >>> ((2 : Int32) &&& 31).toUInt32).toInt32))])) _
  refine XS.iand X7.here hx rfl (hb hby at_71) rfl ?_
  show Steps p.tables e below (T7.setTop (mkF m 72 #[.val (.long q1), .second, .val (.long q2), .second, .val (.long q3), .second, .val (.long q4), .second, .val (.int p5), .val (.int p6), .val (.long (own_P q1)), .second, .val (.long (own_P q2)), .second, .val (.long (own_P q3)), .second, .val (.long (own_P q4)), .second, .val (.int (own_n p5)), .val (.int (own_n (own_s6 p6))), .val (.long (own_pick (own_k0 p6) (own_P q1) (own_P q4))), .second, .unset, .unset, .unset, .unset, .unset, .unset, .unset, .unset, .unset, .unset, .unset, .unset, .unset, .unset, .unset, .unset, .unset, .unset, .unset, .unset] [(.int (own_k1 p6))])) _
  refine XS.lload X7.here hx rfl (hb hby at_72) rfl ?_
  show Steps p.tables e below (T7.setTop (mkF m 74 #[.val (.long q1), .second, .val (.long q2), .second, .val (.long q3), .second, .val (.long q4), .second, .val (.int p5), .val (.int p6), .val (.long (own_P q1)), .second, .val (.long (own_P q2)), .second, .val (.long (own_P q3)), .second, .val (.long (own_P q4)), .second, .val (.int (own_n p5)), .val (.int (own_n (own_s6 p6))), .val (.long (own_pick (own_k0 p6) (own_P q1) (own_P q4))), .second, .unset, .unset, .unset, .unset, .unset, .unset, .unset, .unset, .unset, .unset, .unset, .unset, .unset, .unset, .unset, .unset, .unset, .unset, .unset, .unset] [(.long (own_P q2)), (.int (own_k1 p6))])) _
  refine XS.lload X7.here hx rfl (hb hby at_74) rfl ?_
  show Steps p.tables e below (T7.setTop (mkF m 76 #[.val (.long q1), .second, .val (.long q2), .second, .val (.long q3), .second, .val (.long q4), .second, .val (.int p5), .val (.int p6), .val (.long (own_P q1)), .second, .val (.long (own_P q2)), .second, .val (.long (own_P q3)), .second, .val (.long (own_P q4)), .second, .val (.int (own_n p5)), .val (.int (own_n (own_s6 p6))), .val (.long (own_pick (own_k0 p6) (own_P q1) (own_P q4))), .second, .unset, .unset, .unset, .unset, .unset, .unset, .unset, .unset, .unset, .unset, .unset, .unset, .unset, .unset, .unset, .unset, .unset, .unset, .unset, .unset] [(.long (own_P q4)), (.long (own_P q2)), (.int (own_k1 p6))])) _
  refine st8 _ ?_
  show Steps p.tables e below (T8.setTop (mkF m 79 #[.val (.long q1), .second, .val (.long q2), .second, .val (.long q3), .second, .val (.long q4), .second, .val (.int p5), .val (.int p6), .val (.long (own_P q1)), .second, .val (.long (own_P q2)), .second, .val (.long (own_P q3)), .second, .val (.long (own_P q4)), .second, .val (.int (own_n p5)), .val (.int (own_n (own_s6 p6))), .val (.long (own_pick (own_k0 p6) (own_P q1) (own_P q4))), .second, .unset, .unset, .unset, .unset, .unset, .unset, .unset, .unset, .unset, .unset, .unset, .unset, .unset, .unset, .unset, .unset, .unset, .unset, .unset, .unset] [(.long (own_pick (own_k1 p6) (own_P q2) (own_P q4)))])) _
  refine XS.lstore X8.here hx rfl (hb hby at_79) rfl (l' := #[.val (.long q1), .second, .val (.long q2), .second, .val (.long q3), .second, .val (.long q4), .second, .val (.int p5), .val (.int p6), .val (.long (own_P q1)), .second, .val (.long (own_P q2)), .second, .val (.long (own_P q3)), .second, .val (.long (own_P q4)), .second, .val (.int (own_n p5)), .val (.int (own_n (own_s6 p6))), .val (.long (own_pick (own_k0 p6) (own_P q1) (own_P q4))), .second, .val (.long (own_pick (own_k1 p6) (own_P q2) (own_P q4))), .second, .unset, .unset, .unset, .unset, .unset, .unset, .unset, .unset, .unset, .unset, .unset, .unset, .unset, .unset, .unset, .unset, .unset, .unset]) rfl ?_
  show Steps p.tables e below (T8.setTop (mkF m 81 #[.val (.long q1), .second, .val (.long q2), .second, .val (.long q3), .second, .val (.long q4), .second, .val (.int p5), .val (.int p6), .val (.long (own_P q1)), .second, .val (.long (own_P q2)), .second, .val (.long (own_P q3)), .second, .val (.long (own_P q4)), .second, .val (.int (own_n p5)), .val (.int (own_n (own_s6 p6))), .val (.long (own_pick (own_k0 p6) (own_P q1) (own_P q4))), .second, .val (.long (own_pick (own_k1 p6) (own_P q2) (own_P q4))), .second, .unset, .unset, .unset, .unset, .unset, .unset, .unset, .unset, .unset, .unset, .unset, .unset, .unset, .unset, .unset, .unset, .unset, .unset] [])) _
  refine XS.iload X8.here hx rfl (hb hby at_81) rfl ?_
  show Steps p.tables e below (T8.setTop (mkF m 83 #[.val (.long q1), .second, .val (.long q2), .second, .val (.long q3), .second, .val (.long q4), .second, .val (.int p5), .val (.int p6), .val (.long (own_P q1)), .second, .val (.long (own_P q2)), .second, .val (.long (own_P q3)), .second, .val (.long (own_P q4)), .second, .val (.int (own_n p5)), .val (.int (own_n (own_s6 p6))), .val (.long (own_pick (own_k0 p6) (own_P q1) (own_P q4))), .second, .val (.long (own_pick (own_k1 p6) (own_P q2) (own_P q4))), .second, .unset, .unset, .unset, .unset, .unset, .unset, .unset, .unset, .unset, .unset, .unset, .unset, .unset, .unset, .unset, .unset, .unset, .unset] [(.int p6)])) _
  refine XS.iconst X8.here hx rfl (hb hby at_83) ?_
  show Steps p.tables e below (T8.setTop (mkF m 84 #[.val (.long q1), .second, .val (.long q2), .second, .val (.long q3), .second, .val (.long q4), .second, .val (.int p5), .val (.int p6), .val (.long (own_P q1)), .second, .val (.long (own_P q2)), .second, .val (.long (own_P q3)), .second, .val (.long (own_P q4)), .second, .val (.int (own_n p5)), .val (.int (own_n (own_s6 p6))), .val (.long (own_pick (own_k0 p6) (own_P q1) (own_P q4))), .second, .val (.long (own_pick (own_k1 p6) (own_P q2) (own_P q4))), .second, .unset, .unset, .unset, .unset, .unset, .unset, .unset, .unset, .unset, .unset, .unset, .unset, .unset, .unset, .unset, .unset, .unset, .unset] [(.int (4 : Int32)), (.int p6)])) _
  refine XS.iushr X8.here hx rfl (hb hby at_84) rfl ?_
  show Steps p.tables e below (T8.setTop (mkF m 85 #[.val (.long q1), .second, .val (.long q2), .second, .val (.long q3), .second, .val (.long q4), .second, .val (.int p5), .val (.int p6), .val (.long (own_P q1)), .second, .val (.long (own_P q2)), .second, .val (.long (own_P q3)), .second, .val (.long (own_P q4)), .second, .val (.int (own_n p5)), .val (.int (own_n (own_s6 p6))), .val (.long (own_pick (own_k0 p6) (own_P q1) (own_P q4))), .second, .val (.long (own_pick (own_k1 p6) (own_P q2) (own_P q4))), .second, .unset, .unset, .unset, .unset, .unset, .unset, .unset, .unset, .unset, .unset, .unset, .unset, .unset, .unset, .unset, .unset, .unset, .unset] [(.int ((p6.toUInt32 >>> ((4 : Int32) &&& 31).toUInt32).toInt32))])) _
  refine XS.iconst X8.here hx rfl (hb hby at_85) ?_
  show Steps p.tables e below (T8.setTop (mkF m 86 #[.val (.long q1), .second, .val (.long q2), .second, .val (.long q3), .second, .val (.long q4), .second, .val (.int p5), .val (.int p6), .val (.long (own_P q1)), .second, .val (.long (own_P q2)), .second, .val (.long (own_P q3)), .second, .val (.long (own_P q4)), .second, .val (.int (own_n p5)), .val (.int (own_n (own_s6 p6))), .val (.long (own_pick (own_k0 p6) (own_P q1) (own_P q4))), .second, .val (.long (own_pick (own_k1 p6) (own_P q2) (own_P q4))), .second, .unset, .unset, .unset, .unset, .unset, .unset, .unset, .unset, .unset, .unset, .unset, .unset, .unset, .unset, .unset, .unset, .unset, .unset] [(.int (3 : Int32)), (.int ((p6.toUInt32 >>> ((4 : Int32) &&& 31).toUInt32).toInt32))])) _
  refine XS.iand X8.here hx rfl (hb hby at_86) rfl ?_
  show Steps p.tables e below (T8.setTop (mkF m 87 #[.val (.long q1), .second, .val (.long q2), .second, .val (.long q3), .second, .val (.long q4), .second, .val (.int p5), .val (.int p6), .val (.long (own_P q1)), .second, .val (.long (own_P q2)), .second, .val (.long (own_P q3)), .second, .val (.long (own_P q4)), .second, .val (.int (own_n p5)), .val (.int (own_n (own_s6 p6))), .val (.long (own_pick (own_k0 p6) (own_P q1) (own_P q4))), .second, .val (.long (own_pick (own_k1 p6) (own_P q2) (own_P q4))), .second, .unset, .unset, .unset, .unset, .unset, .unset, .unset, .unset, .unset, .unset, .unset, .unset, .unset, .unset, .unset, .unset, .unset, .unset] [(.int (own_k2 p6))])) _
  refine XS.lload X8.here hx rfl (hb hby at_87) rfl ?_
  show Steps p.tables e below (T8.setTop (mkF m 89 #[.val (.long q1), .second, .val (.long q2), .second, .val (.long q3), .second, .val (.long q4), .second, .val (.int p5), .val (.int p6), .val (.long (own_P q1)), .second, .val (.long (own_P q2)), .second, .val (.long (own_P q3)), .second, .val (.long (own_P q4)), .second, .val (.int (own_n p5)), .val (.int (own_n (own_s6 p6))), .val (.long (own_pick (own_k0 p6) (own_P q1) (own_P q4))), .second, .val (.long (own_pick (own_k1 p6) (own_P q2) (own_P q4))), .second, .unset, .unset, .unset, .unset, .unset, .unset, .unset, .unset, .unset, .unset, .unset, .unset, .unset, .unset, .unset, .unset, .unset, .unset] [(.long (own_P q3)), (.int (own_k2 p6))])) _
  refine XS.lload X8.here hx rfl (hb hby at_89) rfl ?_
  show Steps p.tables e below (T8.setTop (mkF m 91 #[.val (.long q1), .second, .val (.long q2), .second, .val (.long q3), .second, .val (.long q4), .second, .val (.int p5), .val (.int p6), .val (.long (own_P q1)), .second, .val (.long (own_P q2)), .second, .val (.long (own_P q3)), .second, .val (.long (own_P q4)), .second, .val (.int (own_n p5)), .val (.int (own_n (own_s6 p6))), .val (.long (own_pick (own_k0 p6) (own_P q1) (own_P q4))), .second, .val (.long (own_pick (own_k1 p6) (own_P q2) (own_P q4))), .second, .unset, .unset, .unset, .unset, .unset, .unset, .unset, .unset, .unset, .unset, .unset, .unset, .unset, .unset, .unset, .unset, .unset, .unset] [(.long (own_P q4)), (.long (own_P q3)), (.int (own_k2 p6))])) _
  refine st9 _ ?_
  show Steps p.tables e below (T9.setTop (mkF m 94 #[.val (.long q1), .second, .val (.long q2), .second, .val (.long q3), .second, .val (.long q4), .second, .val (.int p5), .val (.int p6), .val (.long (own_P q1)), .second, .val (.long (own_P q2)), .second, .val (.long (own_P q3)), .second, .val (.long (own_P q4)), .second, .val (.int (own_n p5)), .val (.int (own_n (own_s6 p6))), .val (.long (own_pick (own_k0 p6) (own_P q1) (own_P q4))), .second, .val (.long (own_pick (own_k1 p6) (own_P q2) (own_P q4))), .second, .unset, .unset, .unset, .unset, .unset, .unset, .unset, .unset, .unset, .unset, .unset, .unset, .unset, .unset, .unset, .unset, .unset, .unset] [(.long (own_pick (own_k2 p6) (own_P q3) (own_P q4)))])) _
  refine XS.lstore X9.here hx rfl (hb hby at_94) rfl (l' := #[.val (.long q1), .second, .val (.long q2), .second, .val (.long q3), .second, .val (.long q4), .second, .val (.int p5), .val (.int p6), .val (.long (own_P q1)), .second, .val (.long (own_P q2)), .second, .val (.long (own_P q3)), .second, .val (.long (own_P q4)), .second, .val (.int (own_n p5)), .val (.int (own_n (own_s6 p6))), .val (.long (own_pick (own_k0 p6) (own_P q1) (own_P q4))), .second, .val (.long (own_pick (own_k1 p6) (own_P q2) (own_P q4))), .second, .val (.long (own_pick (own_k2 p6) (own_P q3) (own_P q4))), .second, .unset, .unset, .unset, .unset, .unset, .unset, .unset, .unset, .unset, .unset, .unset, .unset, .unset, .unset, .unset, .unset]) rfl ?_
  exact kt
theorem own_j0 {p : Program} {l : Launch} {e : Env} {s : State} {m : MethodId} {args : Array Value} {below : List Frame} {meth : Method} {c : Code} {T0 : State} {locs : List Loc} {Z : State} {a0 : Array Value} {h0 : Heap} {n0 : Nat} (q1 q2 q3 q4 : Int64) (p5 p6 : Int32) (P0 P1 P2 DM : Int64) (n k : Nat) (Q0 Q1 Q2 : Int64) (hP0 : own_P q1 = P0) (hP1 : own_P q2 = P1) (hP2 : own_P q3 = P2) (hDM : own_P q4 = DM) (hn : own_n p5 = Int32.ofNat n) (hk : own_n (own_s6 p6) = Int32.ofNat k) (hQ0 : own_pick (own_k0 p6) P0 DM = Q0) (hQ1 : own_pick (own_k1 p6) P1 DM = Q1) (hQ2 : own_pick (own_k2 p6) P2 DM = Q2)
    (X0 : Stand p l e room_1 s m args below meth c T0 locs 0 0) (hx : p.tables.exec = Jvm.exec) (hZ : Z.Warmed39 s.vm) (hw : ∀ d ∈ tables_1, d.before a0 Z = true) (hby : c.code = code) (hml : c.maxLocals = 42) (hown : s.vm.findClass "com/example/updrift/updrift/model/ReleaseNumberOfPinLaw" = some m.cls) (e0 : T0.heap = h0) (N0 : Fr n0 locs) (Z0 : n0 ≤ h0.size) :
    ∃ (T' : State) (locs' : List Loc), Stand p l e room_1 s m args below meth c T' locs' 0 0 ∧ T'.heap = h0 ∧ Fr n0 locs' ∧
      ∀ target, Steps p.tables e below (T'.setTop (mkF m 96 #[.val (.long q1), .second, .val (.long q2), .second, .val (.long q3), .second, .val (.long q4), .second, .val (.int p5), .val (.int p6), .val (.long P0), .second, .val (.long P1), .second, .val (.long P2), .second, .val (.long DM), .second, .val (.int (Int32.ofNat n)), .val (.int (Int32.ofNat k)), .val (.long Q0), .second, .val (.long Q1), .second, .val (.long Q2), .second, .unset, .unset, .unset, .unset, .unset, .unset, .unset, .unset, .unset, .unset, .unset, .unset, .unset, .unset, .unset, .unset] [])) target → Steps p.tables e below (T0.setTop (mkF m 0 #[.val (.long q1), .second, .val (.long q2), .second, .val (.long q3), .second, .val (.long q4), .second, .val (.int p5), .val (.int p6), .unset, .unset, .unset, .unset, .unset, .unset, .unset, .unset, .unset, .unset, .unset, .unset, .unset, .unset, .unset, .unset, .unset, .unset, .unset, .unset, .unset, .unset, .unset, .unset, .unset, .unset, .unset, .unset, .unset, .unset, .unset, .unset] [])) target := by
  subst hP0 hP1 hP2 hDM hQ0 hQ1 hQ2
  rw [← hn, ← hk]
  exact own_s1 q1 q2 q3 q4 p5 p6 X0 hx hZ hw hby hml hown e0 N0 Z0
set_option maxRecDepth 65536 in
set_option maxHeartbeats 40000000 in
theorem own_s2_tt {p : Program} {l : Launch} {e : Env} {s : State} {m : MethodId} {args : Array Value} {below : List Frame} {meth : Method} {c : Code} {T0 : State} {locs : List Loc} {Z : State} {a0 : Array Value} {h0 : Heap} {n0 : Nat} (q1 q2 q3 q4 : Int64) (p5 p6 : Int32) (P0 P1 P2 DM : Int64) (n k : Nat) (Q0 Q1 Q2 : Int64)
    (X0 : Stand p l e room_1 s m args below meth c T0 locs 0 0) (hx : p.tables.exec = Jvm.exec) (hZ : Z.Warmed39 s.vm) (hw : ∀ d ∈ tables_1, d.before a0 Z = true) (hby : c.code = code) (hml : c.maxLocals = 42) (hown : s.vm.findClass "com/example/updrift/updrift/model/ReleaseNumberOfPinLaw" = some m.cls) (e0 : T0.heap = h0) (N0 : Fr n0 locs) (Z0 : n0 ≤ h0.size) (hnn : n ≤ 3) (hr : n = 1) :
    ∃ (T' : State) (h' : Heap) (locs' : List Loc) (b7 : Addr), Stand p l e room_1 s m args below meth c T' locs' 1 3 ∧ T'.heap = h' ∧ Fr n0 locs' ∧ Keep h0 h' [] ∧ h0.size ≤ b7 ∧ Exa Z h' b7 "[J" ∧ own_L Z h' b7 n (own_f3 P0 P1 P2) ∧
      ∀ target, Steps p.tables e below (T'.setTop (mkF m 132 #[.val (.long q1), .second, .val (.long q2), .second, .val (.long q3), .second, .val (.long q4), .second, .val (.int p5), .val (.int p6), .val (.long P0), .second, .val (.long P1), .second, .val (.long P2), .second, .val (.long DM), .second, .val (.int (Int32.ofNat n)), .val (.int (Int32.ofNat k)), .val (.long Q0), .second, .val (.long Q1), .second, .val (.long Q2), .second, .val (.ref b7), .unset, .unset, .unset, .unset, .unset, .unset, .unset, .unset, .unset, .unset, .unset, .unset, .unset, .unset, .unset] [])) target → Steps p.tables e below (T0.setTop (mkF m 96 #[.val (.long q1), .second, .val (.long q2), .second, .val (.long q3), .second, .val (.long q4), .second, .val (.int p5), .val (.int p6), .val (.long P0), .second, .val (.long P1), .second, .val (.long P2), .second, .val (.long DM), .second, .val (.int (Int32.ofNat n)), .val (.int (Int32.ofNat k)), .val (.long Q0), .second, .val (.long Q1), .second, .val (.long Q2), .second, .unset, .unset, .unset, .unset, .unset, .unset, .unset, .unset, .unset, .unset, .unset, .unset, .unset, .unset, .unset, .unset] [])) target := by
  have hc111 : ¬ ((1 : Int32) < (Int32.ofNat n)) := by rw [hr]; decide
  have hc123 : ¬ ((2 : Int32) < (Int32.ofNat n)) := by rw [hr]; decide
  obtain ⟨T7, h7, k7, X7, e7, E7, A7, Ex7, st7⟩ := newPE X0 hx hZ (hw _ (List.mem_of_getElem? (i := 5) rfl)) e0 (g := (mkF m 98 #[.val (.long q1), .second, .val (.long q2), .second, .val (.long q3), .second, .val (.long q4), .second, .val (.int p5), .val (.int p6), .val (.long P0), .second, .val (.long P1), .second, .val (.long P2), .second, .val (.long DM), .second, .val (.int (Int32.ofNat n)), .val (.int (Int32.ofNat k)), .val (.long Q0), .second, .val (.long Q1), .second, .val (.long Q2), .second, .unset, .unset, .unset, .unset, .unset, .unset, .unset, .unset, .unset, .unset, .unset, .unset, .unset, .unset, .unset, .unset] [(.int (Int32.ofNat n))])) rfl (hb hby at_98) rfl (own_nn hnn) (cap := 3) (by rw [own_n32 hnn]; exact hnn) (by decide) (by decide) (by decide) rfl
  obtain ⟨b7, g7⟩ : ∃ z, z = h0.size := ⟨_, rfl⟩
  rw [← g7] at A7 st7 Ex7
  have V_b7 := own_L.of (Arv.new A7 (own_nn hnn)) (own_n32 hnn)
  have g_b7 : n0 ≤ b7 := Nat.le_trans Z0 (Nat.le_of_eq g7.symm)
  have sz_b7 : h0.size ≤ b7 := (Nat.le_trans (Keep.refl h0 []).1 (Nat.le_of_eq g7.symm))
  have K7 : Keep h0 h7 [] := (Keep.refl h0 []).ext E7
  obtain ⟨cl_b7_107, Ar_b7, S_b7, H_b7⟩ := V_b7
  have hin107 : ¬ ((0 : Int32) < 0 ∨ cl_b7_107.slots.size ≤ ((0 : Int32)).toNatClampNeg) := by rw [S_b7]; exact fun q => q.elim (by decide) (fun q => by have q2 := Nat.le_trans q (Nat.le_of_eq (rfl : _ = 0)); omega)
  obtain ⟨T8, h8, X8, e8, W8, st8⟩ := stJ X7 hx hZ e7 Ar_b7 (j := (0 : Int32)) hin107 (g := (mkF m 107 #[.val (.long q1), .second, .val (.long q2), .second, .val (.long q3), .second, .val (.long q4), .second, .val (.int p5), .val (.int p6), .val (.long P0), .second, .val (.long P1), .second, .val (.long P2), .second, .val (.long DM), .second, .val (.int (Int32.ofNat n)), .val (.int (Int32.ofNat k)), .val (.long Q0), .second, .val (.long Q1), .second, .val (.long Q2), .second, .val (.ref b7), .unset, .unset, .unset, .unset, .unset, .unset, .unset, .unset, .unset, .unset, .unset, .unset, .unset, .unset, .unset] [(.long P0), (.int (0 : Int32)), (.ref b7)])) rfl rfl (hb hby at_107)
  have V_b7_8 := own_L.set (i := 0) Ar_b7 S_b7 H_b7 W8
  have K8 : Keep h0 h8 [] := K7.wr W8 (Or.inr sz_b7)
  have N8 := Fr.snoc X8 N0 g_b7
  refine ⟨T8, _, _, b7, X8, e8, N8, K8, sz_b7, (Ex7.wr W8), V_b7_8.congr (fun j hj => ?_), fun target kt => ?_⟩
  · obtain rfl : j = 0 := by omega
    rfl
  · show Steps p.tables e below (T0.setTop (mkF m 96 #[.val (.long q1), .second, .val (.long q2), .second, .val (.long q3), .second, .val (.long q4), .second, .val (.int p5), .val (.int p6), .val (.long P0), .second, .val (.long P1), .second, .val (.long P2), .second, .val (.long DM), .second, .val (.int (Int32.ofNat n)), .val (.int (Int32.ofNat k)), .val (.long Q0), .second, .val (.long Q1), .second, .val (.long Q2), .second, .unset, .unset, .unset, .unset, .unset, .unset, .unset, .unset, .unset, .unset, .unset, .unset, .unset, .unset, .unset, .unset] [])) _
    refine XS.iload X0.here hx rfl (hb hby at_96) rfl ?_
    show Steps p.tables e below (T0.setTop (mkF m 98 #[.val (.long q1), .second, .val (.long q2), .second, .val (.long q3), .second, .val (.long q4), .second, .val (.int p5), .val (.int p6), .val (.long P0), .second, .val (.long P1), .second, .val (.long P2), .second, .val (.long DM), .second, .val (.int (Int32.ofNat n)), .val (.int (Int32.ofNat k)), .val (.long Q0), .second, .val (.long Q1), .second, .val (.long Q2), .second, .unset, .unset, .unset, .unset, .unset, .unset, .unset, .unset, .unset, .unset, .unset, .unset, .unset, .unset, .unset, .unset] [(.int (Int32.ofNat n))])) _
    refine st7 _ ?_
    show Steps p.tables e below (T7.setTop (mkF m 100 #[.val (.long q1), .second, .val (.long q2), .second, .val (.long q3), .second, .val (.long q4), .second, .val (.int p5), .val (.int p6), .val (.long P0), .second, .val (.long P1), .second, .val (.long P2), .second, .val (.long DM), .second, .val (.int (Int32.ofNat n)), .val (.int (Int32.ofNat k)), .val (.long Q0), .second, .val (.long Q1), .second, .val (.long Q2), .second, .unset, .unset, .unset, .unset, .unset, .unset, .unset, .unset, .unset, .unset, .unset, .unset, .unset, .unset, .unset, .unset] [(.ref b7)])) _
    refine XS.astore X7.here hx rfl (hb hby at_100) rfl rfl (l' := #[.val (.long q1), .second, .val (.long q2), .second, .val (.long q3), .second, .val (.long q4), .second, .val (.int p5), .val (.int p6), .val (.long P0), .second, .val (.long P1), .second, .val (.long P2), .second, .val (.long DM), .second, .val (.int (Int32.ofNat n)), .val (.int (Int32.ofNat k)), .val (.long Q0), .second, .val (.long Q1), .second, .val (.long Q2), .second, .val (.ref b7), .unset, .unset, .unset, .unset, .unset, .unset, .unset, .unset, .unset, .unset, .unset, .unset, .unset, .unset, .unset]) rfl ?_
    show Steps p.tables e below (T7.setTop (mkF m 102 #[.val (.long q1), .second, .val (.long q2), .second, .val (.long q3), .second, .val (.long q4), .second, .val (.int p5), .val (.int p6), .val (.long P0), .second, .val (.long P1), .second, .val (.long P2), .second, .val (.long DM), .second, .val (.int (Int32.ofNat n)), .val (.int (Int32.ofNat k)), .val (.long Q0), .second, .val (.long Q1), .second, .val (.long Q2), .second, .val (.ref b7), .unset, .unset, .unset, .unset, .unset, .unset, .unset, .unset, .unset, .unset, .unset, .unset, .unset, .unset, .unset] [])) _
    refine XS.aload X7.here hx rfl (hb hby at_102) rfl rfl ?_
    show Steps p.tables e below (T7.setTop (mkF m 104 #[.val (.long q1), .second, .val (.long q2), .second, .val (.long q3), .second, .val (.long q4), .second, .val (.int p5), .val (.int p6), .val (.long P0), .second, .val (.long P1), .second, .val (.long P2), .second, .val (.long DM), .second, .val (.int (Int32.ofNat n)), .val (.int (Int32.ofNat k)), .val (.long Q0), .second, .val (.long Q1), .second, .val (.long Q2), .second, .val (.ref b7), .unset, .unset, .unset, .unset, .unset, .unset, .unset, .unset, .unset, .unset, .unset, .unset, .unset, .unset, .unset] [(.ref b7)])) _
    refine XS.iconst X7.here hx rfl (hb hby at_104) ?_
    show Steps p.tables e below (T7.setTop (mkF m 105 #[.val (.long q1), .second, .val (.long q2), .second, .val (.long q3), .second, .val (.long q4), .second, .val (.int p5), .val (.int p6), .val (.long P0), .second, .val (.long P1), .second, .val (.long P2), .second, .val (.long DM), .second, .val (.int (Int32.ofNat n)), .val (.int (Int32.ofNat k)), .val (.long Q0), .second, .val (.long Q1), .second, .val (.long Q2), .second, .val (.ref b7), .unset, .unset, .unset, .unset, .unset, .unset, .unset, .unset, .unset, .unset, .unset, .unset, .unset, .unset, .unset] [(.int (0 : Int32)), (.ref b7)])) _
    refine XS.lload X7.here hx rfl (hb hby at_105) rfl ?_
    show Steps p.tables e below (T7.setTop (mkF m 107 #[.val (.long q1), .second, .val (.long q2), .second, .val (.long q3), .second, .val (.long q4), .second, .val (.int p5), .val (.int p6), .val (.long P0), .second, .val (.long P1), .second, .val (.long P2), .second, .val (.long DM), .second, .val (.int (Int32.ofNat n)), .val (.int (Int32.ofNat k)), .val (.long Q0), .second, .val (.long Q1), .second, .val (.long Q2), .second, .val (.ref b7), .unset, .unset, .unset, .unset, .unset, .unset, .unset, .unset, .unset, .unset, .unset, .unset, .unset, .unset, .unset] [(.long P0), (.int (0 : Int32)), (.ref b7)])) _
    refine st8 _ ?_
    show Steps p.tables e below (T8.setTop (mkF m 108 #[.val (.long q1), .second, .val (.long q2), .second, .val (.long q3), .second, .val (.long q4), .second, .val (.int p5), .val (.int p6), .val (.long P0), .second, .val (.long P1), .second, .val (.long P2), .second, .val (.long DM), .second, .val (.int (Int32.ofNat n)), .val (.int (Int32.ofNat k)), .val (.long Q0), .second, .val (.long Q1), .second, .val (.long Q2), .second, .val (.ref b7), .unset, .unset, .unset, .unset, .unset, .unset, .unset, .unset, .unset, .unset, .unset, .unset, .unset, .unset, .unset] [])) _
    refine XS.iload X8.here hx rfl (hb hby at_108) rfl ?_
    show Steps p.tables e below (T8.setTop (mkF m 110 #[.val (.long q1), .second, .val (.long q2), .second, .val (.long q3), .second, .val (.long q4), .second, .val (.int p5), .val (.int p6), .val (.long P0), .second, .val (.long P1), .second, .val (.long P2), .second, .val (.long DM), .second, .val (.int (Int32.ofNat n)), .val (.int (Int32.ofNat k)), .val (.long Q0), .second, .val (.long Q1), .second, .val (.long Q2), .second, .val (.ref b7), .unset, .unset, .unset, .unset, .unset, .unset, .unset, .unset, .unset, .unset, .unset, .unset, .unset, .unset, .unset] [(.int (Int32.ofNat n))])) _
    refine XS.iconst X8.here hx rfl (hb hby at_110) ?_
    show Steps p.tables e below (T8.setTop (mkF m 111 #[.val (.long q1), .second, .val (.long q2), .second, .val (.long q3), .second, .val (.long q4), .second, .val (.int p5), .val (.int p6), .val (.long P0), .second, .val (.long P1), .second, .val (.long P2), .second, .val (.long DM), .second, .val (.int (Int32.ofNat n)), .val (.int (Int32.ofNat k)), .val (.long Q0), .second, .val (.long Q1), .second, .val (.long Q2), .second, .val (.ref b7), .unset, .unset, .unset, .unset, .unset, .unset, .unset, .unset, .unset, .unset, .unset, .unset, .unset, .unset, .unset] [(.int (1 : Int32)), (.int (Int32.ofNat n))])) _
    refine XS.icmpYes X8.here hx rfl (pc0 := 111) (pc' := 120) rfl (hb hby at_111) rfl (flt hc111).2.2.2 (by decide) (by decide) ?_
    show Steps p.tables e below (T8.setTop (mkF m 120 #[.val (.long q1), .second, .val (.long q2), .second, .val (.long q3), .second, .val (.long q4), .second, .val (.int p5), .val (.int p6), .val (.long P0), .second, .val (.long P1), .second, .val (.long P2), .second, .val (.long DM), .second, .val (.int (Int32.ofNat n)), .val (.int (Int32.ofNat k)), .val (.long Q0), .second, .val (.long Q1), .second, .val (.long Q2), .second, .val (.ref b7), .unset, .unset, .unset, .unset, .unset, .unset, .unset, .unset, .unset, .unset, .unset, .unset, .unset, .unset, .unset] [])) _
    refine XS.iload X8.here hx rfl (hb hby at_120) rfl ?_
    show Steps p.tables e below (T8.setTop (mkF m 122 #[.val (.long q1), .second, .val (.long q2), .second, .val (.long q3), .second, .val (.long q4), .second, .val (.int p5), .val (.int p6), .val (.long P0), .second, .val (.long P1), .second, .val (.long P2), .second, .val (.long DM), .second, .val (.int (Int32.ofNat n)), .val (.int (Int32.ofNat k)), .val (.long Q0), .second, .val (.long Q1), .second, .val (.long Q2), .second, .val (.ref b7), .unset, .unset, .unset, .unset, .unset, .unset, .unset, .unset, .unset, .unset, .unset, .unset, .unset, .unset, .unset] [(.int (Int32.ofNat n))])) _
    refine XS.iconst X8.here hx rfl (hb hby at_122) ?_
    show Steps p.tables e below (T8.setTop (mkF m 123 #[.val (.long q1), .second, .val (.long q2), .second, .val (.long q3), .second, .val (.long q4), .second, .val (.int p5), .val (.int p6), .val (.long P0), .second, .val (.long P1), .second, .val (.long P2), .second, .val (.long DM), .second, .val (.int (Int32.ofNat n)), .val (.int (Int32.ofNat k)), .val (.long Q0), .second, .val (.long Q1), .second, .val (.long Q2), .second, .val (.ref b7), .unset, .unset, .unset, .unset, .unset, .unset, .unset, .unset, .unset, .unset, .unset, .unset, .unset, .unset, .unset] [(.int (2 : Int32)), (.int (Int32.ofNat n))])) _
    refine XS.icmpYes X8.here hx rfl (pc0 := 123) (pc' := 132) rfl (hb hby at_123) rfl (flt hc123).2.2.2 (by decide) (by decide) ?_
    exact kt
set_option maxRecDepth 65536 in
set_option maxHeartbeats 40000000 in
theorem own_s2_ft {p : Program} {l : Launch} {e : Env} {s : State} {m : MethodId} {args : Array Value} {below : List Frame} {meth : Method} {c : Code} {T0 : State} {locs : List Loc} {Z : State} {a0 : Array Value} {h0 : Heap} {n0 : Nat} (q1 q2 q3 q4 : Int64) (p5 p6 : Int32) (P0 P1 P2 DM : Int64) (n k : Nat) (Q0 Q1 Q2 : Int64)
    (X0 : Stand p l e room_1 s m args below meth c T0 locs 0 0) (hx : p.tables.exec = Jvm.exec) (hZ : Z.Warmed39 s.vm) (hw : ∀ d ∈ tables_1, d.before a0 Z = true) (hby : c.code = code) (hml : c.maxLocals = 42) (hown : s.vm.findClass "com/example/updrift/updrift/model/ReleaseNumberOfPinLaw" = some m.cls) (e0 : T0.heap = h0) (N0 : Fr n0 locs) (Z0 : n0 ≤ h0.size) (hnn : n ≤ 3) (hr : n = 2) :
    ∃ (T' : State) (h' : Heap) (locs' : List Loc) (b7 : Addr), Stand p l e room_1 s m args below meth c T' locs' 1 3 ∧ T'.heap = h' ∧ Fr n0 locs' ∧ Keep h0 h' [] ∧ h0.size ≤ b7 ∧ Exa Z h' b7 "[J" ∧ own_L Z h' b7 n (own_f3 P0 P1 P2) ∧
      ∀ target, Steps p.tables e below (T'.setTop (mkF m 132 #[.val (.long q1), .second, .val (.long q2), .second, .val (.long q3), .second, .val (.long q4), .second, .val (.int p5), .val (.int p6), .val (.long P0), .second, .val (.long P1), .second, .val (.long P2), .second, .val (.long DM), .second, .val (.int (Int32.ofNat n)), .val (.int (Int32.ofNat k)), .val (.long Q0), .second, .val (.long Q1), .second, .val (.long Q2), .second, .val (.ref b7), .unset, .unset, .unset, .unset, .unset, .unset, .unset, .unset, .unset, .unset, .unset, .unset, .unset, .unset, .unset] [])) target → Steps p.tables e below (T0.setTop (mkF m 96 #[.val (.long q1), .second, .val (.long q2), .second, .val (.long q3), .second, .val (.long q4), .second, .val (.int p5), .val (.int p6), .val (.long P0), .second, .val (.long P1), .second, .val (.long P2), .second, .val (.long DM), .second, .val (.int (Int32.ofNat n)), .val (.int (Int32.ofNat k)), .val (.long Q0), .second, .val (.long Q1), .second, .val (.long Q2), .second, .unset, .unset, .unset, .unset, .unset, .unset, .unset, .unset, .unset, .unset, .unset, .unset, .unset, .unset, .unset, .unset] [])) target := by
  have hc111 : (1 : Int32) < (Int32.ofNat n) := by rw [hr]; decide
  have hc123 : ¬ ((2 : Int32) < (Int32.ofNat n)) := by rw [hr]; decide
  obtain ⟨T7, h7, k7, X7, e7, E7, A7, Ex7, st7⟩ := newPE X0 hx hZ (hw _ (List.mem_of_getElem? (i := 5) rfl)) e0 (g := (mkF m 98 #[.val (.long q1), .second, .val (.long q2), .second, .val (.long q3), .second, .val (.long q4), .second, .val (.int p5), .val (.int p6), .val (.long P0), .second, .val (.long P1), .second, .val (.long P2), .second, .val (.long DM), .second, .val (.int (Int32.ofNat n)), .val (.int (Int32.ofNat k)), .val (.long Q0), .second, .val (.long Q1), .second, .val (.long Q2), .second, .unset, .unset, .unset, .unset, .unset, .unset, .unset, .unset, .unset, .unset, .unset, .unset, .unset, .unset, .unset, .unset] [(.int (Int32.ofNat n))])) rfl (hb hby at_98) rfl (own_nn hnn) (cap := 3) (by rw [own_n32 hnn]; exact hnn) (by decide) (by decide) (by decide) rfl
  obtain ⟨b7, g7⟩ : ∃ z, z = h0.size := ⟨_, rfl⟩
  rw [← g7] at A7 st7 Ex7
  have V_b7 := own_L.of (Arv.new A7 (own_nn hnn)) (own_n32 hnn)
  have g_b7 : n0 ≤ b7 := Nat.le_trans Z0 (Nat.le_of_eq g7.symm)
  have sz_b7 : h0.size ≤ b7 := (Nat.le_trans (Keep.refl h0 []).1 (Nat.le_of_eq g7.symm))
  have K7 : Keep h0 h7 [] := (Keep.refl h0 []).ext E7
  obtain ⟨cl_b7_107, Ar_b7, S_b7, H_b7⟩ := V_b7
  have hin107 : ¬ ((0 : Int32) < 0 ∨ cl_b7_107.slots.size ≤ ((0 : Int32)).toNatClampNeg) := by rw [S_b7]; exact fun q => q.elim (by decide) (fun q => by have q2 := Nat.le_trans q (Nat.le_of_eq (rfl : _ = 0)); omega)
  obtain ⟨T8, h8, X8, e8, W8, st8⟩ := stJ X7 hx hZ e7 Ar_b7 (j := (0 : Int32)) hin107 (g := (mkF m 107 #[.val (.long q1), .second, .val (.long q2), .second, .val (.long q3), .second, .val (.long q4), .second, .val (.int p5), .val (.int p6), .val (.long P0), .second, .val (.long P1), .second, .val (.long P2), .second, .val (.long DM), .second, .val (.int (Int32.ofNat n)), .val (.int (Int32.ofNat k)), .val (.long Q0), .second, .val (.long Q1), .second, .val (.long Q2), .second, .val (.ref b7), .unset, .unset, .unset, .unset, .unset, .unset, .unset, .unset, .unset, .unset, .unset, .unset, .unset, .unset, .unset] [(.long P0), (.int (0 : Int32)), (.ref b7)])) rfl rfl (hb hby at_107)
  have V_b7_8 := own_L.set (i := 0) Ar_b7 S_b7 H_b7 W8
  have K8 : Keep h0 h8 [] := K7.wr W8 (Or.inr sz_b7)
  have N8 := Fr.snoc X8 N0 g_b7
  obtain ⟨cl_b7_119, Ar_b7, S_b7, H_b7⟩ := V_b7_8
  have hin119 : ¬ ((1 : Int32) < 0 ∨ cl_b7_119.slots.size ≤ ((1 : Int32)).toNatClampNeg) := by rw [S_b7]; exact fun q => q.elim (by decide) (fun q => by have q2 := Nat.le_trans q (Nat.le_of_eq (rfl : _ = 1)); omega)
  obtain ⟨T9, h9, X9, e9, W9, st9⟩ := stJ X8 hx hZ e8 Ar_b7 (j := (1 : Int32)) hin119 (g := (mkF m 119 #[.val (.long q1), .second, .val (.long q2), .second, .val (.long q3), .second, .val (.long q4), .second, .val (.int p5), .val (.int p6), .val (.long P0), .second, .val (.long P1), .second, .val (.long P2), .second, .val (.long DM), .second, .val (.int (Int32.ofNat n)), .val (.int (Int32.ofNat k)), .val (.long Q0), .second, .val (.long Q1), .second, .val (.long Q2), .second, .val (.ref b7), .unset, .unset, .unset, .unset, .unset, .unset, .unset, .unset, .unset, .unset, .unset, .unset, .unset, .unset, .unset] [(.long P1), (.int (1 : Int32)), (.ref b7)])) rfl rfl (hb hby at_119)
  have V_b7_9 := own_L.set (i := 1) Ar_b7 S_b7 H_b7 W9
  have K9 : Keep h0 h9 [] := K8.wr W9 (Or.inr sz_b7)
  have N9 := Fr.snoc X9 N8 g_b7
  refine ⟨T9, _, _, b7, X9, e9, N9, K9, sz_b7, ((Ex7.wr W8).wr W9), V_b7_9.congr (fun j hj => ?_), fun target kt => ?_⟩
  · obtain rfl | rfl : j = 0 ∨ j = 1 := by omega
    · rfl
    · rfl
  · show Steps p.tables e below (T0.setTop (mkF m 96 #[.val (.long q1), .second, .val (.long q2), .second, .val (.long q3), .second, .val (.long q4), .second, .val (.int p5), .val (.int p6), .val (.long P0), .second, .val (.long P1), .second, .val (.long P2), .second, .val (.long DM), .second, .val (.int (Int32.ofNat n)), .val (.int (Int32.ofNat k)), .val (.long Q0), .second, .val (.long Q1), .second, .val (.long Q2), .second, .unset, .unset, .unset, .unset, .unset, .unset, .unset, .unset, .unset, .unset, .unset, .unset, .unset, .unset, .unset, .unset] [])) _
    refine XS.iload X0.here hx rfl (hb hby at_96) rfl ?_
    show Steps p.tables e below (T0.setTop (mkF m 98 #[.val (.long q1), .second, .val (.long q2), .second, .val (.long q3), .second, .val (.long q4), .second, .val (.int p5), .val (.int p6), .val (.long P0), .second, .val (.long P1), .second, .val (.long P2), .second, .val (.long DM), .second, .val (.int (Int32.ofNat n)), .val (.int (Int32.ofNat k)), .val (.long Q0), .second, .val (.long Q1), .second, .val (.long Q2), .second, .unset, .unset, .unset, .unset, .unset, .unset, .unset, .unset, .unset, .unset, .unset, .unset, .unset, .unset, .unset, .unset] [(.int (Int32.ofNat n))])) _
    refine st7 _ ?_
    show Steps p.tables e below (T7.setTop (mkF m 100 #[.val (.long q1), .second, .val (.long q2), .second, .val (.long q3), .second, .val (.long q4), .second, .val (.int p5), .val (.int p6), .val (.long P0), .second, .val (.long P1), .second, .val (.long P2), .second, .val (.long DM), .second, .val (.int (Int32.ofNat n)), .val (.int (Int32.ofNat k)), .val (.long Q0), .second, .val (.long Q1), .second, .val (.long Q2), .second, .unset, .unset, .unset, .unset, .unset, .unset, .unset, .unset, .unset, .unset, .unset, .unset, .unset, .unset, .unset, .unset] [(.ref b7)])) _
    refine XS.astore X7.here hx rfl (hb hby at_100) rfl rfl (l' := #[.val (.long q1), .second, .val (.long q2), .second, .val (.long q3), .second, .val (.long q4), .second, .val (.int p5), .val (.int p6), .val (.long P0), .second, .val (.long P1), .second, .val (.long P2), .second, .val (.long DM), .second, .val (.int (Int32.ofNat n)), .val (.int (Int32.ofNat k)), .val (.long Q0), .second, .val (.long Q1), .second, .val (.long Q2), .second, .val (.ref b7), .unset, .unset, .unset, .unset, .unset, .unset, .unset, .unset, .unset, .unset, .unset, .unset, .unset, .unset, .unset]) rfl ?_
    show Steps p.tables e below (T7.setTop (mkF m 102 #[.val (.long q1), .second, .val (.long q2), .second, .val (.long q3), .second, .val (.long q4), .second, .val (.int p5), .val (.int p6), .val (.long P0), .second, .val (.long P1), .second, .val (.long P2), .second, .val (.long DM), .second, .val (.int (Int32.ofNat n)), .val (.int (Int32.ofNat k)), .val (.long Q0), .second, .val (.long Q1), .second, .val (.long Q2), .second, .val (.ref b7), .unset, .unset, .unset, .unset, .unset, .unset, .unset, .unset, .unset, .unset, .unset, .unset, .unset, .unset, .unset] [])) _
    refine XS.aload X7.here hx rfl (hb hby at_102) rfl rfl ?_
    show Steps p.tables e below (T7.setTop (mkF m 104 #[.val (.long q1), .second, .val (.long q2), .second, .val (.long q3), .second, .val (.long q4), .second, .val (.int p5), .val (.int p6), .val (.long P0), .second, .val (.long P1), .second, .val (.long P2), .second, .val (.long DM), .second, .val (.int (Int32.ofNat n)), .val (.int (Int32.ofNat k)), .val (.long Q0), .second, .val (.long Q1), .second, .val (.long Q2), .second, .val (.ref b7), .unset, .unset, .unset, .unset, .unset, .unset, .unset, .unset, .unset, .unset, .unset, .unset, .unset, .unset, .unset] [(.ref b7)])) _
    refine XS.iconst X7.here hx rfl (hb hby at_104) ?_
    show Steps p.tables e below (T7.setTop (mkF m 105 #[.val (.long q1), .second, .val (.long q2), .second, .val (.long q3), .second, .val (.long q4), .second, .val (.int p5), .val (.int p6), .val (.long P0), .second, .val (.long P1), .second, .val (.long P2), .second, .val (.long DM), .second, .val (.int (Int32.ofNat n)), .val (.int (Int32.ofNat k)), .val (.long Q0), .second, .val (.long Q1), .second, .val (.long Q2), .second, .val (.ref b7), .unset, .unset, .unset, .unset, .unset, .unset, .unset, .unset, .unset, .unset, .unset, .unset, .unset, .unset, .unset] [(.int (0 : Int32)), (.ref b7)])) _
    refine XS.lload X7.here hx rfl (hb hby at_105) rfl ?_
    show Steps p.tables e below (T7.setTop (mkF m 107 #[.val (.long q1), .second, .val (.long q2), .second, .val (.long q3), .second, .val (.long q4), .second, .val (.int p5), .val (.int p6), .val (.long P0), .second, .val (.long P1), .second, .val (.long P2), .second, .val (.long DM), .second, .val (.int (Int32.ofNat n)), .val (.int (Int32.ofNat k)), .val (.long Q0), .second, .val (.long Q1), .second, .val (.long Q2), .second, .val (.ref b7), .unset, .unset, .unset, .unset, .unset, .unset, .unset, .unset, .unset, .unset, .unset, .unset, .unset, .unset, .unset] [(.long P0), (.int (0 : Int32)), (.ref b7)])) _
    refine st8 _ ?_
    show Steps p.tables e below (T8.setTop (mkF m 108 #[.val (.long q1), .second, .val (.long q2), .second, .val (.long q3), .second, .val (.long q4), .second, .val (.int p5), .val (.int p6), .val (.long P0), .second, .val (.long P1), .second, .val (.long P2), .second, .val (.long DM), .second, .val (.int (Int32.ofNat n)), .val (.int (Int32.ofNat k)), .val (.long Q0), .second, .val (.long Q1), .second, .val (.long Q2), .second, .val (.ref b7), .unset, .unset, .unset, .unset, .unset, .unset, .unset, .unset, .unset, .unset, .unset, .unset, .unset, .unset, .unset] [])) _
    refine XS.iload X8.here hx rfl (hb hby at_108) rfl ?_
    show Steps p.tables e below (T8.setTop (mkF m 110 #[.val (.long q1), .second, .val (.long q2), .second, .val (.long q3), .second, .val (.long q4), .second, .val (.int p5), .val (.int p6), .val (.long P0), .second, .val (.long P1), .second, .val (.long P2), .second, .val (.long DM), .second, .val (.int (Int32.ofNat n)), .val (.int (Int32.ofNat k)), .val (.long Q0), .second, .val (.long Q1), .second, .val (.long Q2), .second, .val (.ref b7), .unset, .unset, .unset, .unset, .unset, .unset, .unset, .unset, .unset, .unset, .unset, .unset, .unset, .unset, .unset] [(.int (Int32.ofNat n))])) _
    refine XS.iconst X8.here hx rfl (hb hby at_110) ?_
    show Steps p.tables e below (T8.setTop (mkF m 111 #[.val (.long q1), .second, .val (.long q2), .second, .val (.long q3), .second, .val (.long q4), .second, .val (.int p5), .val (.int p6), .val (.long P0), .second, .val (.long P1), .second, .val (.long P2), .second, .val (.long DM), .second, .val (.int (Int32.ofNat n)), .val (.int (Int32.ofNat k)), .val (.long Q0), .second, .val (.long Q1), .second, .val (.long Q2), .second, .val (.ref b7), .unset, .unset, .unset, .unset, .unset, .unset, .unset, .unset, .unset, .unset, .unset, .unset, .unset, .unset, .unset] [(.int (1 : Int32)), (.int (Int32.ofNat n))])) _
    refine XS.icmpNo X8.here hx rfl (hb hby at_111) rfl (tlt hc111).2.2.2 ?_
    show Steps p.tables e below (T8.setTop (mkF m 114 #[.val (.long q1), .second, .val (.long q2), .second, .val (.long q3), .second, .val (.long q4), .second, .val (.int p5), .val (.int p6), .val (.long P0), .second, .val (.long P1), .second, .val (.long P2), .second, .val (.long DM), .second, .val (.int (Int32.ofNat n)), .val (.int (Int32.ofNat k)), .val (.long Q0), .second, .val (.long Q1), .second, .val (.long Q2), .second, .val (.ref b7), .unset, .unset, .unset, .unset, .unset, .unset, .unset, .unset, .unset, .unset, .unset, .unset, .unset, .unset, .unset] [])) _
    refine XS.aload X8.here hx rfl (hb hby at_114) rfl rfl ?_
    show Steps p.tables e below (T8.setTop (mkF m 116 #[.val (.long q1), .second, .val (.long q2), .second, .val (.long q3), .second, .val (.long q4), .second, .val (.int p5), .val (.int p6), .val (.long P0), .second, .val (.long P1), .second, .val (.long P2), .second, .val (.long DM), .second, .val (.int (Int32.ofNat n)), .val (.int (Int32.ofNat k)), .val (.long Q0), .second, .val (.long Q1), .second, .val (.long Q2), .second, .val (.ref b7), .unset, .unset, .unset, .unset, .unset, .unset, .unset, .unset, .unset, .unset, .unset, .unset, .unset, .unset, .unset] [(.ref b7)])) _
    refine XS.iconst X8.here hx rfl (hb hby at_116) ?_
    show Steps p.tables e below (T8.setTop (mkF m 117 #[.val (.long q1), .second, .val (.long q2), .second, .val (.long q3), .second, .val (.long q4), .second, .val (.int p5), .val (.int p6), .val (.long P0), .second, .val (.long P1), .second, .val (.long P2), .second, .val (.long DM), .second, .val (.int (Int32.ofNat n)), .val (.int (Int32.ofNat k)), .val (.long Q0), .second, .val (.long Q1), .second, .val (.long Q2), .second, .val (.ref b7), .unset, .unset, .unset, .unset, .unset, .unset, .unset, .unset, .unset, .unset, .unset, .unset, .unset, .unset, .unset] [(.int (1 : Int32)), (.ref b7)])) _
    refine XS.lload X8.here hx rfl (hb hby at_117) rfl ?_
    show Steps p.tables e below (T8.setTop (mkF m 119 #[.val (.long q1), .second, .val (.long q2), .second, .val (.long q3), .second, .val (.long q4), .second, .val (.int p5), .val (.int p6), .val (.long P0), .second, .val (.long P1), .second, .val (.long P2), .second, .val (.long DM), .second, .val (.int (Int32.ofNat n)), .val (.int (Int32.ofNat k)), .val (.long Q0), .second, .val (.long Q1), .second, .val (.long Q2), .second, .val (.ref b7), .unset, .unset, .unset, .unset, .unset, .unset, .unset, .unset, .unset, .unset, .unset, .unset, .unset, .unset, .unset] [(.long P1), (.int (1 : Int32)), (.ref b7)])) _
    refine st9 _ ?_
    show Steps p.tables e below (T9.setTop (mkF m 120 #[.val (.long q1), .second, .val (.long q2), .second, .val (.long q3), .second, .val (.long q4), .second, .val (.int p5), .val (.int p6), .val (.long P0), .second, .val (.long P1), .second, .val (.long P2), .second, .val (.long DM), .second, .val (.int (Int32.ofNat n)), .val (.int (Int32.ofNat k)), .val (.long Q0), .second, .val (.long Q1), .second, .val (.long Q2), .second, .val (.ref b7), .unset, .unset, .unset, .unset, .unset, .unset, .unset, .unset, .unset, .unset, .unset, .unset, .unset, .unset, .unset] [])) _
    refine XS.iload X9.here hx rfl (hb hby at_120) rfl ?_
    show Steps p.tables e below (T9.setTop (mkF m 122 #[.val (.long q1), .second, .val (.long q2), .second, .val (.long q3), .second, .val (.long q4), .second, .val (.int p5), .val (.int p6), .val (.long P0), .second, .val (.long P1), .second, .val (.long P2), .second, .val (.long DM), .second, .val (.int (Int32.ofNat n)), .val (.int (Int32.ofNat k)), .val (.long Q0), .second, .val (.long Q1), .second, .val (.long Q2), .second, .val (.ref b7), .unset, .unset, .unset, .unset, .unset, .unset, .unset, .unset, .unset, .unset, .unset, .unset, .unset, .unset, .unset] [(.int (Int32.ofNat n))])) _
    refine XS.iconst X9.here hx rfl (hb hby at_122) ?_
    show Steps p.tables e below (T9.setTop (mkF m 123 #[.val (.long q1), .second, .val (.long q2), .second, .val (.long q3), .second, .val (.long q4), .second, .val (.int p5), .val (.int p6), .val (.long P0), .second, .val (.long P1), .second, .val (.long P2), .second, .val (.long DM), .second, .val (.int (Int32.ofNat n)), .val (.int (Int32.ofNat k)), .val (.long Q0), .second, .val (.long Q1), .second, .val (.long Q2), .second, .val (.ref b7), .unset, .unset, .unset, .unset, .unset, .unset, .unset, .unset, .unset, .unset, .unset, .unset, .unset, .unset, .unset] [(.int (2 : Int32)), (.int (Int32.ofNat n))])) _
    refine XS.icmpYes X9.here hx rfl (pc0 := 123) (pc' := 132) rfl (hb hby at_123) rfl (flt hc123).2.2.2 (by decide) (by decide) ?_
    exact kt
set_option maxRecDepth 65536 in
set_option maxHeartbeats 40000000 in
theorem own_s2_ff {p : Program} {l : Launch} {e : Env} {s : State} {m : MethodId} {args : Array Value} {below : List Frame} {meth : Method} {c : Code} {T0 : State} {locs : List Loc} {Z : State} {a0 : Array Value} {h0 : Heap} {n0 : Nat} (q1 q2 q3 q4 : Int64) (p5 p6 : Int32) (P0 P1 P2 DM : Int64) (n k : Nat) (Q0 Q1 Q2 : Int64)
    (X0 : Stand p l e room_1 s m args below meth c T0 locs 0 0) (hx : p.tables.exec = Jvm.exec) (hZ : Z.Warmed39 s.vm) (hw : ∀ d ∈ tables_1, d.before a0 Z = true) (hby : c.code = code) (hml : c.maxLocals = 42) (hown : s.vm.findClass "com/example/updrift/updrift/model/ReleaseNumberOfPinLaw" = some m.cls) (e0 : T0.heap = h0) (N0 : Fr n0 locs) (Z0 : n0 ≤ h0.size) (hnn : n ≤ 3) (hr : n = 3) :
    ∃ (T' : State) (h' : Heap) (locs' : List Loc) (b7 : Addr), Stand p l e room_1 s m args below meth c T' locs' 1 3 ∧ T'.heap = h' ∧ Fr n0 locs' ∧ Keep h0 h' [] ∧ h0.size ≤ b7 ∧ Exa Z h' b7 "[J" ∧ own_L Z h' b7 n (own_f3 P0 P1 P2) ∧
      ∀ target, Steps p.tables e below (T'.setTop (mkF m 132 #[.val (.long q1), .second, .val (.long q2), .second, .val (.long q3), .second, .val (.long q4), .second, .val (.int p5), .val (.int p6), .val (.long P0), .second, .val (.long P1), .second, .val (.long P2), .second, .val (.long DM), .second, .val (.int (Int32.ofNat n)), .val (.int (Int32.ofNat k)), .val (.long Q0), .second, .val (.long Q1), .second, .val (.long Q2), .second, .val (.ref b7), .unset, .unset, .unset, .unset, .unset, .unset, .unset, .unset, .unset, .unset, .unset, .unset, .unset, .unset, .unset] [])) target → Steps p.tables e below (T0.setTop (mkF m 96 #[.val (.long q1), .second, .val (.long q2), .second, .val (.long q3), .second, .val (.long q4), .second, .val (.int p5), .val (.int p6), .val (.long P0), .second, .val (.long P1), .second, .val (.long P2), .second, .val (.long DM), .second, .val (.int (Int32.ofNat n)), .val (.int (Int32.ofNat k)), .val (.long Q0), .second, .val (.long Q1), .second, .val (.long Q2), .second, .unset, .unset, .unset, .unset, .unset, .unset, .unset, .unset, .unset, .unset, .unset, .unset, .unset, .unset, .unset, .unset] [])) target := by
  have hc111 : (1 : Int32) < (Int32.ofNat n) := by rw [hr]; decide
  have hc123 : (2 : Int32) < (Int32.ofNat n) := by rw [hr]; decide
  obtain ⟨T7, h7, k7, X7, e7, E7, A7, Ex7, st7⟩ := newPE X0 hx hZ (hw _ (List.mem_of_getElem? (i := 5) rfl)) e0 (g := (mkF m 98 #[.val (.long q1), .second, .val (.long q2), .second, .val (.long q3), .second, .val (.long q4), .second, .val (.int p5), .val (.int p6), .val (.long P0), .second, .val (.long P1), .second, .val (.long P2), .second, .val (.long DM), .second, .val (.int (Int32.ofNat n)), .val (.int (Int32.ofNat k)), .val (.long Q0), .second, .val (.long Q1), .second, .val (.long Q2), .second, .unset, .unset, .unset, .unset, .unset, .unset, .unset, .unset, .unset, .unset, .unset, .unset, .unset, .unset, .unset, .unset] [(.int (Int32.ofNat n))])) rfl (hb hby at_98) rfl (own_nn hnn) (cap := 3) (by rw [own_n32 hnn]; exact hnn) (by decide) (by decide) (by decide) rfl
  obtain ⟨b7, g7⟩ : ∃ z, z = h0.size := ⟨_, rfl⟩
  rw [← g7] at A7 st7 Ex7
  have V_b7 := own_L.of (Arv.new A7 (own_nn hnn)) (own_n32 hnn)
  have g_b7 : n0 ≤ b7 := Nat.le_trans Z0 (Nat.le_of_eq g7.symm)
  have sz_b7 : h0.size ≤ b7 := (Nat.le_trans (Keep.refl h0 []).1 (Nat.le_of_eq g7.symm))
  have K7 : Keep h0 h7 [] := (Keep.refl h0 []).ext E7
  obtain ⟨cl_b7_107, Ar_b7, S_b7, H_b7⟩ := V_b7
  have hin107 : ¬ ((0 : Int32) < 0 ∨ cl_b7_107.slots.size ≤ ((0 : Int32)).toNatClampNeg) := by rw [S_b7]; exact fun q => q.elim (by decide) (fun q => by have q2 := Nat.le_trans q (Nat.le_of_eq (rfl : _ = 0)); omega)
  obtain ⟨T8, h8, X8, e8, W8, st8⟩ := stJ X7 hx hZ e7 Ar_b7 (j := (0 : Int32)) hin107 (g := (mkF m 107 #[.val (.long q1), .second, .val (.long q2), .second, .val (.long q3), .second, .val (.long q4), .second, .val (.int p5), .val (.int p6), .val (.long P0), .second, .val (.long P1), .second, .val (.long P2), .second, .val (.long DM), .second, .val (.int (Int32.ofNat n)), .val (.int (Int32.ofNat k)), .val (.long Q0), .second, .val (.long Q1), .second, .val (.long Q2), .second, .val (.ref b7), .unset, .unset, .unset, .unset, .unset, .unset, .unset, .unset, .unset, .unset, .unset, .unset, .unset, .unset, .unset] [(.long P0), (.int (0 : Int32)), (.ref b7)])) rfl rfl (hb hby at_107)
  have V_b7_8 := own_L.set (i := 0) Ar_b7 S_b7 H_b7 W8
  have K8 : Keep h0 h8 [] := K7.wr W8 (Or.inr sz_b7)
  have N8 := Fr.snoc X8 N0 g_b7
  obtain ⟨cl_b7_119, Ar_b7, S_b7, H_b7⟩ := V_b7_8
  have hin119 : ¬ ((1 : Int32) < 0 ∨ cl_b7_119.slots.size ≤ ((1 : Int32)).toNatClampNeg) := by rw [S_b7]; exact fun q => q.elim (by decide) (fun q => by have q2 := Nat.le_trans q (Nat.le_of_eq (rfl : _ = 1)); omega)
  obtain ⟨T9, h9, X9, e9, W9, st9⟩ := stJ X8 hx hZ e8 Ar_b7 (j := (1 : Int32)) hin119 (g := (mkF m 119 #[.val (.long q1), .second, .val (.long q2), .second, .val (.long q3), .second, .val (.long q4), .second, .val (.int p5), .val (.int p6), .val (.long P0), .second, .val (.long P1), .second, .val (.long P2), .second, .val (.long DM), .second, .val (.int (Int32.ofNat n)), .val (.int (Int32.ofNat k)), .val (.long Q0), .second, .val (.long Q1), .second, .val (.long Q2), .second, .val (.ref b7), .unset, .unset, .unset, .unset, .unset, .unset, .unset, .unset, .unset, .unset, .unset, .unset, .unset, .unset, .unset] [(.long P1), (.int (1 : Int32)), (.ref b7)])) rfl rfl (hb hby at_119)
  have V_b7_9 := own_L.set (i := 1) Ar_b7 S_b7 H_b7 W9
  have K9 : Keep h0 h9 [] := K8.wr W9 (Or.inr sz_b7)
  have N9 := Fr.snoc X9 N8 g_b7
  obtain ⟨cl_b7_131, Ar_b7, S_b7, H_b7⟩ := V_b7_9
  have hin131 : ¬ ((2 : Int32) < 0 ∨ cl_b7_131.slots.size ≤ ((2 : Int32)).toNatClampNeg) := by rw [S_b7]; exact fun q => q.elim (by decide) (fun q => by have q2 := Nat.le_trans q (Nat.le_of_eq (rfl : _ = 2)); omega)
  obtain ⟨T10, h10, X10, e10, W10, st10⟩ := stJ X9 hx hZ e9 Ar_b7 (j := (2 : Int32)) hin131 (g := (mkF m 131 #[.val (.long q1), .second, .val (.long q2), .second, .val (.long q3), .second, .val (.long q4), .second, .val (.int p5), .val (.int p6), .val (.long P0), .second, .val (.long P1), .second, .val (.long P2), .second, .val (.long DM), .second, .val (.int (Int32.ofNat n)), .val (.int (Int32.ofNat k)), .val (.long Q0), .second, .val (.long Q1), .second, .val (.long Q2), .second, .val (.ref b7), .unset, .unset, .unset, .unset, .unset, .unset, .unset, .unset, .unset, .unset, .unset, .unset, .unset, .unset, .unset] [(.long P2), (.int (2 : Int32)), (.ref b7)])) rfl rfl (hb hby at_131)
  have V_b7_10 := own_L.set (i := 2) Ar_b7 S_b7 H_b7 W10
  have K10 : Keep h0 h10 [] := K9.wr W10 (Or.inr sz_b7)
  have N10 := Fr.snoc X10 N9 g_b7
  refine ⟨T10, _, _, b7, X10, e10, N10, K10, sz_b7, (((Ex7.wr W8).wr W9).wr W10), V_b7_10.congr (fun j hj => ?_), fun target kt => ?_⟩
  · obtain rfl | rfl | rfl : j = 0 ∨ j = 1 ∨ j = 2 := by omega
    · rfl
    · rfl
    · rfl
  · show Steps p.tables e below (T0.setTop (mkF m 96 #[.val (.long q1), .second, .val (.long q2), .second, .val (.long q3), .second, .val (.long q4), .second, .val (.int p5), .val (.int p6), .val (.long P0), .second, .val (.long P1), .second, .val (.long P2), .second, .val (.long DM), .second, .val (.int (Int32.ofNat n)), .val (.int (Int32.ofNat k)), .val (.long Q0), .second, .val (.long Q1), .second, .val (.long Q2), .second, .unset, .unset, .unset, .unset, .unset, .unset, .unset, .unset, .unset, .unset, .unset, .unset, .unset, .unset, .unset, .unset] [])) _
    refine XS.iload X0.here hx rfl (hb hby at_96) rfl ?_
    show Steps p.tables e below (T0.setTop (mkF m 98 #[.val (.long q1), .second, .val (.long q2), .second, .val (.long q3), .second, .val (.long q4), .second, .val (.int p5), .val (.int p6), .val (.long P0), .second, .val (.long P1), .second, .val (.long P2), .second, .val (.long DM), .second, .val (.int (Int32.ofNat n)), .val (.int (Int32.ofNat k)), .val (.long Q0), .second, .val (.long Q1), .second, .val (.long Q2), .second, .unset, .unset, .unset, .unset, .unset, .unset, .unset, .unset, .unset, .unset, .unset, .unset, .unset, .unset, .unset, .unset] [(.int (Int32.ofNat n))])) _
    refine st7 _ ?_
    show Steps p.tables e below (T7.setTop (mkF m 100 #[.val (.long q1), .second, .val (.long q2), .second, .val (.long q3), .second, .val (.long q4), .second, .val (.int p5), .val (.int p6), .val (.long P0), .second, .val (.long P1), .second, .val (.long P2), .second, .val (.long DM), .second, .val (.int (Int32.ofNat n)), .val (.int (Int32.ofNat k)), .val (.long Q0), .second, .val (.long Q1), .second, .val (.long Q2), .second, .unset, .unset, .unset, .unset, .unset, .unset, .unset, .unset, .unset, .unset, .unset, .unset, .unset, .unset, .unset, .unset] [(.ref b7)])) _
    refine XS.astore X7.here hx rfl (hb hby at_100) rfl rfl (l' := #[.val (.long q1), .second, .val (.long q2), .second, .val (.long q3), .second, .val (.long q4), .second, .val (.int p5), .val (.int p6), .val (.long P0), .second, .val (.long P1), .second, .val (.long P2), .second, .val (.long DM), .second, .val (.int (Int32.ofNat n)), .val (.int (Int32.ofNat k)), .val (.long Q0), .second, .val (.long Q1), .second, .val (.long Q2), .second, .val (.ref b7), .unset, .unset, .unset, .unset, .unset, .unset, .unset, .unset, .unset, .unset, .unset, .unset, .unset, .unset, .unset]) rfl ?_
    show Steps p.tables e below (T7.setTop (mkF m 102 #[.val (.long q1), .second, .val (.long q2), .second, .val (.long q3), .second, .val (.long q4), .second, .val (.int p5), .val (.int p6), .val (.long P0), .second, .val (.long P1), .second, .val (.long P2), .second, .val (.long DM), .second, .val (.int (Int32.ofNat n)), .val (.int (Int32.ofNat k)), .val (.long Q0), .second, .val (.long Q1), .second, .val (.long Q2), .second, .val (.ref b7), .unset, .unset, .unset, .unset, .unset, .unset, .unset, .unset, .unset, .unset, .unset, .unset, .unset, .unset, .unset] [])) _
    refine XS.aload X7.here hx rfl (hb hby at_102) rfl rfl ?_
    show Steps p.tables e below (T7.setTop (mkF m 104 #[.val (.long q1), .second, .val (.long q2), .second, .val (.long q3), .second, .val (.long q4), .second, .val (.int p5), .val (.int p6), .val (.long P0), .second, .val (.long P1), .second, .val (.long P2), .second, .val (.long DM), .second, .val (.int (Int32.ofNat n)), .val (.int (Int32.ofNat k)), .val (.long Q0), .second, .val (.long Q1), .second, .val (.long Q2), .second, .val (.ref b7), .unset, .unset, .unset, .unset, .unset, .unset, .unset, .unset, .unset, .unset, .unset, .unset, .unset, .unset, .unset] [(.ref b7)])) _
    refine XS.iconst X7.here hx rfl (hb hby at_104) ?_
    show Steps p.tables e below (T7.setTop (mkF m 105 #[.val (.long q1), .second, .val (.long q2), .second, .val (.long q3), .second, .val (.long q4), .second, .val (.int p5), .val (.int p6), .val (.long P0), .second, .val (.long P1), .second, .val (.long P2), .second, .val (.long DM), .second, .val (.int (Int32.ofNat n)), .val (.int (Int32.ofNat k)), .val (.long Q0), .second, .val (.long Q1), .second, .val (.long Q2), .second, .val (.ref b7), .unset, .unset, .unset, .unset, .unset, .unset, .unset, .unset, .unset, .unset, .unset, .unset, .unset, .unset, .unset] [(.int (0 : Int32)), (.ref b7)])) _
    refine XS.lload X7.here hx rfl (hb hby at_105) rfl ?_
    show Steps p.tables e below (T7.setTop (mkF m 107 #[.val (.long q1), .second, .val (.long q2), .second, .val (.long q3), .second, .val (.long q4), .second, .val (.int p5), .val (.int p6), .val (.long P0), .second, .val (.long P1), .second, .val (.long P2), .second, .val (.long DM), .second, .val (.int (Int32.ofNat n)), .val (.int (Int32.ofNat k)), .val (.long Q0), .second, .val (.long Q1), .second, .val (.long Q2), .second, .val (.ref b7), .unset, .unset, .unset, .unset, .unset, .unset, .unset, .unset, .unset, .unset, .unset, .unset, .unset, .unset, .unset] [(.long P0), (.int (0 : Int32)), (.ref b7)])) _
    refine st8 _ ?_
    show Steps p.tables e below (T8.setTop (mkF m 108 #[.val (.long q1), .second, .val (.long q2), .second, .val (.long q3), .second, .val (.long q4), .second, .val (.int p5), .val (.int p6), .val (.long P0), .second, .val (.long P1), .second, .val (.long P2), .second, .val (.long DM), .second, .val (.int (Int32.ofNat n)), .val (.int (Int32.ofNat k)), .val (.long Q0), .second, .val (.long Q1), .second, .val (.long Q2), .second, .val (.ref b7), .unset, .unset, .unset, .unset, .unset, .unset, .unset, .unset, .unset, .unset, .unset, .unset, .unset, .unset, .unset] [])) _
    refine XS.iload X8.here hx rfl (hb hby at_108) rfl ?_
    show Steps p.tables e below (T8.setTop (mkF m 110 #[.val (.long q1), .second, .val (.long q2), .second, .val (.long q3), .second, .val (.long q4), .second, .val (.int p5), .val (.int p6), .val (.long P0), .second, .val (.long P1), .second, .val (.long P2), .second, .val (.long DM), .second, .val (.int (Int32.ofNat n)), .val (.int (Int32.ofNat k)), .val (.long Q0), .second, .val (.long Q1), .second, .val (.long Q2), .second, .val (.ref b7), .unset, .unset, .unset, .unset, .unset, .unset, .unset, .unset, .unset, .unset, .unset, .unset, .unset, .unset, .unset] [(.int (Int32.ofNat n))])) _
    refine XS.iconst X8.here hx rfl (hb hby at_110) ?_
    show Steps p.tables e below (T8.setTop (mkF m 111 #[.val (.long q1), .second, .val (.long q2), .second, .val (.long q3), .second, .val (.long q4), .second, .val (.int p5), .val (.int p6), .val (.long P0), .second, .val (.long P1), .second, .val (.long P2), .second, .val (.long DM), .second, .val (.int (Int32.ofNat n)), .val (.int (Int32.ofNat k)), .val (.long Q0), .second, .val (.long Q1), .second, .val (.long Q2), .second, .val (.ref b7), .unset, .unset, .unset, .unset, .unset, .unset, .unset, .unset, .unset, .unset, .unset, .unset, .unset, .unset, .unset] [(.int (1 : Int32)), (.int (Int32.ofNat n))])) _
    refine XS.icmpNo X8.here hx rfl (hb hby at_111) rfl (tlt hc111).2.2.2 ?_
    show Steps p.tables e below (T8.setTop (mkF m 114 #[.val (.long q1), .second, .val (.long q2), .second, .val (.long q3), .second, .val (.long q4), .second, .val (.int p5), .val (.int p6), .val (.long P0), .second, .val (.long P1), .second, .val (.long P2), .second, .val (.long DM), .second, .val (.int (Int32.ofNat n)), .val (.int (Int32.ofNat k)), .val (.long Q0), .second, .val (.long Q1), .second, .val (.long Q2), .second, .val (.ref b7), .unset, .unset, .unset, .unset, .unset, .unset, .unset, .unset, .unset, .unset, .unset, .unset, .unset, .unset, .unset] [])) _
    refine XS.aload X8.here hx rfl (hb hby at_114) rfl rfl ?_
    show Steps p.tables e below (T8.setTop (mkF m 116 #[.val (.long q1), .second, .val (.long q2), .second, .val (.long q3), .second, .val (.long q4), .second, .val (.int p5), .val (.int p6), .val (.long P0), .second, .val (.long P1), .second, .val (.long P2), .second, .val (.long DM), .second, .val (.int (Int32.ofNat n)), .val (.int (Int32.ofNat k)), .val (.long Q0), .second, .val (.long Q1), .second, .val (.long Q2), .second, .val (.ref b7), .unset, .unset, .unset, .unset, .unset, .unset, .unset, .unset, .unset, .unset, .unset, .unset, .unset, .unset, .unset] [(.ref b7)])) _
    refine XS.iconst X8.here hx rfl (hb hby at_116) ?_
    show Steps p.tables e below (T8.setTop (mkF m 117 #[.val (.long q1), .second, .val (.long q2), .second, .val (.long q3), .second, .val (.long q4), .second, .val (.int p5), .val (.int p6), .val (.long P0), .second, .val (.long P1), .second, .val (.long P2), .second, .val (.long DM), .second, .val (.int (Int32.ofNat n)), .val (.int (Int32.ofNat k)), .val (.long Q0), .second, .val (.long Q1), .second, .val (.long Q2), .second, .val (.ref b7), .unset, .unset, .unset, .unset, .unset, .unset, .unset, .unset, .unset, .unset, .unset, .unset, .unset, .unset, .unset] [(.int (1 : Int32)), (.ref b7)])) _
    refine XS.lload X8.here hx rfl (hb hby at_117) rfl ?_
    show Steps p.tables e below (T8.setTop (mkF m 119 #[.val (.long q1), .second, .val (.long q2), .second, .val (.long q3), .second, .val (.long q4), .second, .val (.int p5), .val (.int p6), .val (.long P0), .second, .val (.long P1), .second, .val (.long P2), .second, .val (.long DM), .second, .val (.int (Int32.ofNat n)), .val (.int (Int32.ofNat k)), .val (.long Q0), .second, .val (.long Q1), .second, .val (.long Q2), .second, .val (.ref b7), .unset, .unset, .unset, .unset, .unset, .unset, .unset, .unset, .unset, .unset, .unset, .unset, .unset, .unset, .unset] [(.long P1), (.int (1 : Int32)), (.ref b7)])) _
    refine st9 _ ?_
    show Steps p.tables e below (T9.setTop (mkF m 120 #[.val (.long q1), .second, .val (.long q2), .second, .val (.long q3), .second, .val (.long q4), .second, .val (.int p5), .val (.int p6), .val (.long P0), .second, .val (.long P1), .second, .val (.long P2), .second, .val (.long DM), .second, .val (.int (Int32.ofNat n)), .val (.int (Int32.ofNat k)), .val (.long Q0), .second, .val (.long Q1), .second, .val (.long Q2), .second, .val (.ref b7), .unset, .unset, .unset, .unset, .unset, .unset, .unset, .unset, .unset, .unset, .unset, .unset, .unset, .unset, .unset] [])) _
    refine XS.iload X9.here hx rfl (hb hby at_120) rfl ?_
    show Steps p.tables e below (T9.setTop (mkF m 122 #[.val (.long q1), .second, .val (.long q2), .second, .val (.long q3), .second, .val (.long q4), .second, .val (.int p5), .val (.int p6), .val (.long P0), .second, .val (.long P1), .second, .val (.long P2), .second, .val (.long DM), .second, .val (.int (Int32.ofNat n)), .val (.int (Int32.ofNat k)), .val (.long Q0), .second, .val (.long Q1), .second, .val (.long Q2), .second, .val (.ref b7), .unset, .unset, .unset, .unset, .unset, .unset, .unset, .unset, .unset, .unset, .unset, .unset, .unset, .unset, .unset] [(.int (Int32.ofNat n))])) _
    refine XS.iconst X9.here hx rfl (hb hby at_122) ?_
    show Steps p.tables e below (T9.setTop (mkF m 123 #[.val (.long q1), .second, .val (.long q2), .second, .val (.long q3), .second, .val (.long q4), .second, .val (.int p5), .val (.int p6), .val (.long P0), .second, .val (.long P1), .second, .val (.long P2), .second, .val (.long DM), .second, .val (.int (Int32.ofNat n)), .val (.int (Int32.ofNat k)), .val (.long Q0), .second, .val (.long Q1), .second, .val (.long Q2), .second, .val (.ref b7), .unset, .unset, .unset, .unset, .unset, .unset, .unset, .unset, .unset, .unset, .unset, .unset, .unset, .unset, .unset] [(.int (2 : Int32)), (.int (Int32.ofNat n))])) _
    refine XS.icmpNo X9.here hx rfl (hb hby at_123) rfl (tlt hc123).2.2.2 ?_
    show Steps p.tables e below (T9.setTop (mkF m 126 #[.val (.long q1), .second, .val (.long q2), .second, .val (.long q3), .second, .val (.long q4), .second, .val (.int p5), .val (.int p6), .val (.long P0), .second, .val (.long P1), .second, .val (.long P2), .second, .val (.long DM), .second, .val (.int (Int32.ofNat n)), .val (.int (Int32.ofNat k)), .val (.long Q0), .second, .val (.long Q1), .second, .val (.long Q2), .second, .val (.ref b7), .unset, .unset, .unset, .unset, .unset, .unset, .unset, .unset, .unset, .unset, .unset, .unset, .unset, .unset, .unset] [])) _
    refine XS.aload X9.here hx rfl (hb hby at_126) rfl rfl ?_
    show Steps p.tables e below (T9.setTop (mkF m 128 #[.val (.long q1), .second, .val (.long q2), .second, .val (.long q3), .second, .val (.long q4), .second, .val (.int p5), .val (.int p6), .val (.long P0), .second, .val (.long P1), .second, .val (.long P2), .second, .val (.long DM), .second, .val (.int (Int32.ofNat n)), .val (.int (Int32.ofNat k)), .val (.long Q0), .second, .val (.long Q1), .second, .val (.long Q2), .second, .val (.ref b7), .unset, .unset, .unset, .unset, .unset, .unset, .unset, .unset, .unset, .unset, .unset, .unset, .unset, .unset, .unset] [(.ref b7)])) _
    refine XS.iconst X9.here hx rfl (hb hby at_128) ?_
    show Steps p.tables e below (T9.setTop (mkF m 129 #[.val (.long q1), .second, .val (.long q2), .second, .val (.long q3), .second, .val (.long q4), .second, .val (.int p5), .val (.int p6), .val (.long P0), .second, .val (.long P1), .second, .val (.long P2), .second, .val (.long DM), .second, .val (.int (Int32.ofNat n)), .val (.int (Int32.ofNat k)), .val (.long Q0), .second, .val (.long Q1), .second, .val (.long Q2), .second, .val (.ref b7), .unset, .unset, .unset, .unset, .unset, .unset, .unset, .unset, .unset, .unset, .unset, .unset, .unset, .unset, .unset] [(.int (2 : Int32)), (.ref b7)])) _
    refine XS.lload X9.here hx rfl (hb hby at_129) rfl ?_
    show Steps p.tables e below (T9.setTop (mkF m 131 #[.val (.long q1), .second, .val (.long q2), .second, .val (.long q3), .second, .val (.long q4), .second, .val (.int p5), .val (.int p6), .val (.long P0), .second, .val (.long P1), .second, .val (.long P2), .second, .val (.long DM), .second, .val (.int (Int32.ofNat n)), .val (.int (Int32.ofNat k)), .val (.long Q0), .second, .val (.long Q1), .second, .val (.long Q2), .second, .val (.ref b7), .unset, .unset, .unset, .unset, .unset, .unset, .unset, .unset, .unset, .unset, .unset, .unset, .unset, .unset, .unset] [(.long P2), (.int (2 : Int32)), (.ref b7)])) _
    refine st10 _ ?_
    exact kt
theorem own_s2 {p : Program} {l : Launch} {e : Env} {s : State} {m : MethodId} {args : Array Value} {below : List Frame} {meth : Method} {c : Code} {T0 : State} {locs : List Loc} {Z : State} {a0 : Array Value} {h0 : Heap} {n0 : Nat} (q1 q2 q3 q4 : Int64) (p5 p6 : Int32) (P0 P1 P2 DM : Int64) (n k : Nat) (Q0 Q1 Q2 : Int64)
    (X0 : Stand p l e room_1 s m args below meth c T0 locs 0 0) (hx : p.tables.exec = Jvm.exec) (hZ : Z.Warmed39 s.vm) (hw : ∀ d ∈ tables_1, d.before a0 Z = true) (hby : c.code = code) (hml : c.maxLocals = 42) (hown : s.vm.findClass "com/example/updrift/updrift/model/ReleaseNumberOfPinLaw" = some m.cls) (e0 : T0.heap = h0) (N0 : Fr n0 locs) (Z0 : n0 ≤ h0.size) (hnn : n ≤ 3) (h1n : 1 ≤ n) :
    ∃ (T' : State) (h' : Heap) (locs' : List Loc) (b7 : Addr), Stand p l e room_1 s m args below meth c T' locs' 1 3 ∧ T'.heap = h' ∧ Fr n0 locs' ∧ Keep h0 h' [] ∧ h0.size ≤ b7 ∧ Exa Z h' b7 "[J" ∧ own_L Z h' b7 n (own_f3 P0 P1 P2) ∧
      ∀ target, Steps p.tables e below (T'.setTop (mkF m 132 #[.val (.long q1), .second, .val (.long q2), .second, .val (.long q3), .second, .val (.long q4), .second, .val (.int p5), .val (.int p6), .val (.long P0), .second, .val (.long P1), .second, .val (.long P2), .second, .val (.long DM), .second, .val (.int (Int32.ofNat n)), .val (.int (Int32.ofNat k)), .val (.long Q0), .second, .val (.long Q1), .second, .val (.long Q2), .second, .val (.ref b7), .unset, .unset, .unset, .unset, .unset, .unset, .unset, .unset, .unset, .unset, .unset, .unset, .unset, .unset, .unset] [])) target → Steps p.tables e below (T0.setTop (mkF m 96 #[.val (.long q1), .second, .val (.long q2), .second, .val (.long q3), .second, .val (.long q4), .second, .val (.int p5), .val (.int p6), .val (.long P0), .second, .val (.long P1), .second, .val (.long P2), .second, .val (.long DM), .second, .val (.int (Int32.ofNat n)), .val (.int (Int32.ofNat k)), .val (.long Q0), .second, .val (.long Q1), .second, .val (.long Q2), .second, .unset, .unset, .unset, .unset, .unset, .unset, .unset, .unset, .unset, .unset, .unset, .unset, .unset, .unset, .unset, .unset] [])) target := by
  obtain hr | hr | hr : n = 1 ∨ n = 2 ∨ n = 3 := by omega
  · exact own_s2_tt q1 q2 q3 q4 p5 p6 P0 P1 P2 DM n k Q0 Q1 Q2 X0 hx hZ hw hby hml hown e0 N0 Z0 hnn hr
  · exact own_s2_ft q1 q2 q3 q4 p5 p6 P0 P1 P2 DM n k Q0 Q1 Q2 X0 hx hZ hw hby hml hown e0 N0 Z0 hnn hr
  · exact own_s2_ff q1 q2 q3 q4 p5 p6 P0 P1 P2 DM n k Q0 Q1 Q2 X0 hx hZ hw hby hml hown e0 N0 Z0 hnn hr
set_option maxRecDepth 65536 in
set_option maxHeartbeats 40000000 in
theorem own_s3_tt {p : Program} {l : Launch} {e : Env} {s : State} {m : MethodId} {args : Array Value} {below : List Frame} {meth : Method} {c : Code} {T0 : State} {locs : List Loc} {Z : State} {a0 : Array Value} {h0 : Heap} {n0 : Nat} (q1 q2 q3 q4 : Int64) (p5 p6 : Int32) (P0 P1 P2 DM : Int64) (n k : Nat) (Q0 Q1 Q2 : Int64) (ra : Addr)
    (X0 : Stand p l e room_1 s m args below meth c T0 locs 1 3) (hx : p.tables.exec = Jvm.exec) (hZ : Z.Warmed39 s.vm) (hw : ∀ d ∈ tables_1, d.before a0 Z = true) (hby : c.code = code) (hml : c.maxLocals = 42) (hown : s.vm.findClass "com/example/updrift/updrift/model/ReleaseNumberOfPinLaw" = some m.cls) (e0 : T0.heap = h0) (N0 : Fr n0 locs) (Z0 : n0 ≤ h0.size) (hnk : k ≤ 3) (hr : k = 1) :
    ∃ (T' : State) (h' : Heap) (locs' : List Loc) (b7 : Addr), Stand p l e room_1 s m args below meth c T' locs' 2 6 ∧ T'.heap = h' ∧ Fr n0 locs' ∧ Keep h0 h' [] ∧ h0.size ≤ b7 ∧ Exa Z h' b7 "[J" ∧ own_L Z h' b7 k (own_f3 Q0 Q1 Q2) ∧
      ∀ target, Steps p.tables e below (T'.setTop (mkF m 168 #[.val (.long q1), .second, .val (.long q2), .second, .val (.long q3), .second, .val (.long q4), .second, .val (.int p5), .val (.int p6), .val (.long P0), .second, .val (.long P1), .second, .val (.long P2), .second, .val (.long DM), .second, .val (.int (Int32.ofNat n)), .val (.int (Int32.ofNat k)), .val (.long Q0), .second, .val (.long Q1), .second, .val (.long Q2), .second, .val (.ref ra), .val (.ref b7), .unset, .unset, .unset, .unset, .unset, .unset, .unset, .unset, .unset, .unset, .unset, .unset, .unset, .unset] [])) target → Steps p.tables e below (T0.setTop (mkF m 132 #[.val (.long q1), .second, .val (.long q2), .second, .val (.long q3), .second, .val (.long q4), .second, .val (.int p5), .val (.int p6), .val (.long P0), .second, .val (.long P1), .second, .val (.long P2), .second, .val (.long DM), .second, .val (.int (Int32.ofNat n)), .val (.int (Int32.ofNat k)), .val (.long Q0), .second, .val (.long Q1), .second, .val (.long Q2), .second, .val (.ref ra), .unset, .unset, .unset, .unset, .unset, .unset, .unset, .unset, .unset, .unset, .unset, .unset, .unset, .unset, .unset] [])) target := by
  have hc147 : ¬ ((1 : Int32) < (Int32.ofNat k)) := by rw [hr]; decide
  have hc159 : ¬ ((2 : Int32) < (Int32.ofNat k)) := by rw [hr]; decide
  obtain ⟨T7, h7, k7, X7, e7, E7, A7, Ex7, st7⟩ := newPE X0 hx hZ (hw _ (List.mem_of_getElem? (i := 5) rfl)) e0 (g := (mkF m 134 #[.val (.long q1), .second, .val (.long q2), .second, .val (.long q3), .second, .val (.long q4), .second, .val (.int p5), .val (.int p6), .val (.long P0), .second, .val (.long P1), .second, .val (.long P2), .second, .val (.long DM), .second, .val (.int (Int32.ofNat n)), .val (.int (Int32.ofNat k)), .val (.long Q0), .second, .val (.long Q1), .second, .val (.long Q2), .second, .val (.ref ra), .unset, .unset, .unset, .unset, .unset, .unset, .unset, .unset, .unset, .unset, .unset, .unset, .unset, .unset, .unset] [(.int (Int32.ofNat k))])) rfl (hb hby at_134) rfl (own_nn hnk) (cap := 3) (by rw [own_n32 hnk]; exact hnk) (by decide) (by decide) (by decide) rfl
  obtain ⟨b7, g7⟩ : ∃ z, z = h0.size := ⟨_, rfl⟩
  rw [← g7] at A7 st7 Ex7
  have V_b7 := own_L.of (Arv.new A7 (own_nn hnk)) (own_n32 hnk)
  have g_b7 : n0 ≤ b7 := Nat.le_trans Z0 (Nat.le_of_eq g7.symm)
  have sz_b7 : h0.size ≤ b7 := (Nat.le_trans (Keep.refl h0 []).1 (Nat.le_of_eq g7.symm))
  have K7 : Keep h0 h7 [] := (Keep.refl h0 []).ext E7
  obtain ⟨cl_b7_143, Ar_b7, S_b7, H_b7⟩ := V_b7
  have hin143 : ¬ ((0 : Int32) < 0 ∨ cl_b7_143.slots.size ≤ ((0 : Int32)).toNatClampNeg) := by rw [S_b7]; exact fun q => q.elim (by decide) (fun q => by have q2 := Nat.le_trans q (Nat.le_of_eq (rfl : _ = 0)); omega)
  obtain ⟨T8, h8, X8, e8, W8, st8⟩ := stJ X7 hx hZ e7 Ar_b7 (j := (0 : Int32)) hin143 (g := (mkF m 143 #[.val (.long q1), .second, .val (.long q2), .second, .val (.long q3), .second, .val (.long q4), .second, .val (.int p5), .val (.int p6), .val (.long P0), .second, .val (.long P1), .second, .val (.long P2), .second, .val (.long DM), .second, .val (.int (Int32.ofNat n)), .val (.int (Int32.ofNat k)), .val (.long Q0), .second, .val (.long Q1), .second, .val (.long Q2), .second, .val (.ref ra), .val (.ref b7), .unset, .unset, .unset, .unset, .unset, .unset, .unset, .unset, .unset, .unset, .unset, .unset, .unset, .unset] [(.long Q0), (.int (0 : Int32)), (.ref b7)])) rfl rfl (hb hby at_143)
  have V_b7_8 := own_L.set (i := 0) Ar_b7 S_b7 H_b7 W8
  have K8 : Keep h0 h8 [] := K7.wr W8 (Or.inr sz_b7)
  have N8 := Fr.snoc X8 N0 g_b7
  refine ⟨T8, _, _, b7, X8, e8, N8, K8, sz_b7, (Ex7.wr W8), V_b7_8.congr (fun j hj => ?_), fun target kt => ?_⟩
  · obtain rfl : j = 0 := by omega
    rfl
  · show Steps p.tables e below (T0.setTop (mkF m 132 #[.val (.long q1), .second, .val (.long q2), .second, .val (.long q3), .second, .val (.long q4), .second, .val (.int p5), .val (.int p6), .val (.long P0), .second, .val (.long P1), .second, .val (.long P2), .second, .val (.long DM), .second, .val (.int (Int32.ofNat n)), .val (.int (Int32.ofNat k)), .val (.long Q0), .second, .val (.long Q1), .second, .val (.long Q2), .second, .val (.ref ra), .unset, .unset, .unset, .unset, .unset, .unset, .unset, .unset, .unset, .unset, .unset, .unset, .unset, .unset, .unset] [])) _
    refine XS.iload X0.here hx rfl (hb hby at_132) rfl ?_
    show Steps p.tables e below (T0.setTop (mkF m 134 #[.val (.long q1), .second, .val (.long q2), .second, .val (.long q3), .second, .val (.long q4), .second, .val (.int p5), .val (.int p6), .val (.long P0), .second, .val (.long P1), .second, .val (.long P2), .second, .val (.long DM), .second, .val (.int (Int32.ofNat n)), .val (.int (Int32.ofNat k)), .val (.long Q0), .second, .val (.long Q1), .second, .val (.long Q2), .second, .val (.ref ra), .unset, .unset, .unset, .unset, .unset, .unset, .unset, .unset, .unset, .unset, .unset, .unset, .unset, .unset, .unset] [(.int (Int32.ofNat k))])) _
    refine st7 _ ?_
    show Steps p.tables e below (T7.setTop (mkF m 136 #[.val (.long q1), .second, .val (.long q2), .second, .val (.long q3), .second, .val (.long q4), .second, .val (.int p5), .val (.int p6), .val (.long P0), .second, .val (.long P1), .second, .val (.long P2), .second, .val (.long DM), .second, .val (.int (Int32.ofNat n)), .val (.int (Int32.ofNat k)), .val (.long Q0), .second, .val (.long Q1), .second, .val (.long Q2), .second, .val (.ref ra), .unset, .unset, .unset, .unset, .unset, .unset, .unset, .unset, .unset, .unset, .unset, .unset, .unset, .unset, .unset] [(.ref b7)])) _
    refine XS.astore X7.here hx rfl (hb hby at_136) rfl rfl (l' := #[.val (.long q1), .second, .val (.long q2), .second, .val (.long q3), .second, .val (.long q4), .second, .val (.int p5), .val (.int p6), .val (.long P0), .second, .val (.long P1), .second, .val (.long P2), .second, .val (.long DM), .second, .val (.int (Int32.ofNat n)), .val (.int (Int32.ofNat k)), .val (.long Q0), .second, .val (.long Q1), .second, .val (.long Q2), .second, .val (.ref ra), .val (.ref b7), .unset, .unset, .unset, .unset, .unset, .unset, .unset, .unset, .unset, .unset, .unset, .unset, .unset, .unset]) rfl ?_
    show Steps p.tables e below (T7.setTop (mkF m 138 #[.val (.long q1), .second, .val (.long q2), .second, .val (.long q3), .second, .val (.long q4), .second, .val (.int p5), .val (.int p6), .val (.long P0), .second, .val (.long P1), .second, .val (.long P2), .second, .val (.long DM), .second, .val (.int (Int32.ofNat n)), .val (.int (Int32.ofNat k)), .val (.long Q0), .second, .val (.long Q1), .second, .val (.long Q2), .second, .val (.ref ra), .val (.ref b7), .unset, .unset, .unset, .unset, .unset, .unset, .unset, .unset, .unset, .unset, .unset, .unset, .unset, .unset] [])) _
    refine XS.aload X7.here hx rfl (hb hby at_138) rfl rfl ?_
    show Steps p.tables e below (T7.setTop (mkF m 140 #[.val (.long q1), .second, .val (.long q2), .second, .val (.long q3), .second, .val (.long q4), .second, .val (.int p5), .val (.int p6), .val (.long P0), .second, .val (.long P1), .second, .val (.long P2), .second, .val (.long DM), .second, .val (.int (Int32.ofNat n)), .val (.int (Int32.ofNat k)), .val (.long Q0), .second, .val (.long Q1), .second, .val (.long Q2), .second, .val (.ref ra), .val (.ref b7), .unset, .unset, .unset, .unset, .unset, .unset, .unset, .unset, .unset, .unset, .unset, .unset, .unset, .unset] [(.ref b7)])) _
    refine XS.iconst X7.here hx rfl (hb hby at_140) ?_
    show Steps p.tables e below (T7.setTop (mkF m 141 #[.val (.long q1), .second, .val (.long q2), .second, .val (.long q3), .second, .val (.long q4), .second, .val (.int p5), .val (.int p6), .val (.long P0), .second, .val (.long P1), .second, .val (.long P2), .second, .val (.long DM), .second, .val (.int (Int32.ofNat n)), .val (.int (Int32.ofNat k)), .val (.long Q0), .second, .val (.long Q1), .second, .val (.long Q2), .second, .val (.ref ra), .val (.ref b7), .unset, .unset, .unset, .unset, .unset, .unset, .unset, .unset, .unset, .unset, .unset, .unset, .unset, .unset] [(.int (0 : Int32)), (.ref b7)])) _
    refine XS.lload X7.here hx rfl (hb hby at_141) rfl ?_
    show Steps p.tables e below (T7.setTop (mkF m 143 #[.val (.long q1), .second, .val (.long q2), .second, .val (.long q3), .second, .val (.long q4), .second, .val (.int p5), .val (.int p6), .val (.long P0), .second, .val (.long P1), .second, .val (.long P2), .second, .val (.long DM), .second, .val (.int (Int32.ofNat n)), .val (.int (Int32.ofNat k)), .val (.long Q0), .second, .val (.long Q1), .second, .val (.long Q2), .second, .val (.ref ra), .val (.ref b7), .unset, .unset, .unset, .unset, .unset, .unset, .unset, .unset, .unset, .unset, .unset, .unset, .unset, .unset] [(.long Q0), (.int (0 : Int32)), (.ref b7)])) _
    refine st8 _ ?_
    show Steps p.tables e below (T8.setTop (mkF m 144 #[.val (.long q1), .second, .val (.long q2), .second, .val (.long q3), .second, .val (.long q4), .second, .val (.int p5), .val (.int p6), .val (.long P0), .second, .val (.long P1), .second, .val (.long P2), .second, .val (.long DM), .second, .val (.int (Int32.ofNat n)), .val (.int (Int32.ofNat k)), .val (.long Q0), .second, .val (.long Q1), .second, .val (.long Q2), .second, .val (.ref ra), .val (.ref b7), .unset, .unset, .unset, .unset, .unset, .unset, .unset, .unset, .unset, .unset, .unset, .unset, .unset, .unset] [])) _
    refine XS.iload X8.here hx rfl (hb hby at_144) rfl ?_
    show Steps p.tables e below (T8.setTop (mkF m 146 #[.val (.long q1), .second, .val (.long q2), .second, .val (.long q3), .second, .val (.long q4), .second, .val (.int p5), .val (.int p6), .val (.long P0), .second, .val (.long P1), .second, .val (.long P2), .second, .val (.long DM), .second, .val (.int (Int32.ofNat n)), .val (.int (Int32.ofNat k)), .val (.long Q0), .second, .val (.long Q1), .second, .val (.long Q2), .second, .val (.ref ra), .val (.ref b7), .unset, .unset, .unset, .unset, .unset, .unset, .unset, .unset, .unset, .unset, .unset, .unset, .unset, .unset] [(.int (Int32.ofNat k))])) _
    refine XS.iconst X8.here hx rfl (hb hby at_146) ?_
    show Steps p.tables e below (T8.setTop (mkF m 147 #[.val (.long q1), .second, .val (.long q2), .second, .val (.long q3), .second, .val (.long q4), .second, .val (.int p5), .val (.int p6), .val (.long P0), .second, .val (.long P1), .second, .val (.long P2), .second, .val (.long DM), .second, .val (.int (Int32.ofNat n)), .val (.int (Int32.ofNat k)), .val (.long Q0), .second, .val (.long Q1), .second, .val (.long Q2), .second, .val (.ref ra), .val (.ref b7), .unset, .unset, .unset, .unset, .unset, .unset, .unset, .unset, .unset, .unset, .unset, .unset, .unset, .unset] [(.int (1 : Int32)), (.int (Int32.ofNat k))])) _
    refine XS.icmpYes X8.here hx rfl (pc0 := 147) (pc' := 156) rfl (hb hby at_147) rfl (flt hc147).2.2.2 (by decide) (by decide) ?_
    show Steps p.tables e below (T8.setTop (mkF m 156 #[.val (.long q1), .second, .val (.long q2), .second, .val (.long q3), .second, .val (.long q4), .second, .val (.int p5), .val (.int p6), .val (.long P0), .second, .val (.long P1), .second, .val (.long P2), .second, .val (.long DM), .second, .val (.int (Int32.ofNat n)), .val (.int (Int32.ofNat k)), .val (.long Q0), .second, .val (.long Q1), .second, .val (.long Q2), .second, .val (.ref ra), .val (.ref b7), .unset, .unset, .unset, .unset, .unset, .unset, .unset, .unset, .unset, .unset, .unset, .unset, .unset, .unset] [])) _
    refine XS.iload X8.here hx rfl (hb hby at_156) rfl ?_
    show Steps p.tables e below (T8.setTop (mkF m 158 #[.val (.long q1), .second, .val (.long q2), .second, .val (.long q3), .second, .val (.long q4), .second, .val (.int p5), .val (.int p6), .val (.long P0), .second, .val (.long P1), .second, .val (.long P2), .second, .val (.long DM), .second, .val (.int (Int32.ofNat n)), .val (.int (Int32.ofNat k)), .val (.long Q0), .second, .val (.long Q1), .second, .val (.long Q2), .second, .val (.ref ra), .val (.ref b7), .unset, .unset, .unset, .unset, .unset, .unset, .unset, .unset, .unset, .unset, .unset, .unset, .unset, .unset] [(.int (Int32.ofNat k))])) _
    refine XS.iconst X8.here hx rfl (hb hby at_158) ?_
    show Steps p.tables e below (T8.setTop (mkF m 159 #[.val (.long q1), .second, .val (.long q2), .second, .val (.long q3), .second, .val (.long q4), .second, .val (.int p5), .val (.int p6), .val (.long P0), .second, .val (.long P1), .second, .val (.long P2), .second, .val (.long DM), .second, .val (.int (Int32.ofNat n)), .val (.int (Int32.ofNat k)), .val (.long Q0), .second, .val (.long Q1), .second, .val (.long Q2), .second, .val (.ref ra), .val (.ref b7), .unset, .unset, .unset, .unset, .unset, .unset, .unset, .unset, .unset, .unset, .unset, .unset, .unset, .unset] [(.int (2 : Int32)), (.int (Int32.ofNat k))])) _
    refine XS.icmpYes X8.here hx rfl (pc0 := 159) (pc' := 168) rfl (hb hby at_159) rfl (flt hc159).2.2.2 (by decide) (by decide) ?_
    exact kt
set_option maxRecDepth 65536 in
set_option maxHeartbeats 40000000 in
theorem own_s3_ft {p : Program} {l : Launch} {e : Env} {s : State} {m : MethodId} {args : Array Value} {below : List Frame} {meth : Method} {c : Code} {T0 : State} {locs : List Loc} {Z : State} {a0 : Array Value} {h0 : Heap} {n0 : Nat} (q1 q2 q3 q4 : Int64) (p5 p6 : Int32) (P0 P1 P2 DM : Int64) (n k : Nat) (Q0 Q1 Q2 : Int64) (ra : Addr)
    (X0 : Stand p l e room_1 s m args below meth c T0 locs 1 3) (hx : p.tables.exec = Jvm.exec) (hZ : Z.Warmed39 s.vm) (hw : ∀ d ∈ tables_1, d.before a0 Z = true) (hby : c.code = code) (hml : c.maxLocals = 42) (hown : s.vm.findClass "com/example/updrift/updrift/model/ReleaseNumberOfPinLaw" = some m.cls) (e0 : T0.heap = h0) (N0 : Fr n0 locs) (Z0 : n0 ≤ h0.size) (hnk : k ≤ 3) (hr : k = 2) :
    ∃ (T' : State) (h' : Heap) (locs' : List Loc) (b7 : Addr), Stand p l e room_1 s m args below meth c T' locs' 2 6 ∧ T'.heap = h' ∧ Fr n0 locs' ∧ Keep h0 h' [] ∧ h0.size ≤ b7 ∧ Exa Z h' b7 "[J" ∧ own_L Z h' b7 k (own_f3 Q0 Q1 Q2) ∧
      ∀ target, Steps p.tables e below (T'.setTop (mkF m 168 #[.val (.long q1), .second, .val (.long q2), .second, .val (.long q3), .second, .val (.long q4), .second, .val (.int p5), .val (.int p6), .val (.long P0), .second, .val (.long P1), .second, .val (.long P2), .second, .val (.long DM), .second, .val (.int (Int32.ofNat n)), .val (.int (Int32.ofNat k)), .val (.long Q0), .second, .val (.long Q1), .second, .val (.long Q2), .second, .val (.ref ra), .val (.ref b7), .unset, .unset, .unset, .unset, .unset, .unset, .unset, .unset, .unset, .unset, .unset, .unset, .unset, .unset] [])) target → Steps p.tables e below (T0.setTop (mkF m 132 #[.val (.long q1), .second, .val (.long q2), .second, .val (.long q3), .second, .val (.long q4), .second, .val (.int p5), .val (.int p6), .val (.long P0), .second, .val (.long P1), .second, .val (.long P2), .second, .val (.long DM), .second, .val (.int (Int32.ofNat n)), .val (.int (Int32.ofNat k)), .val (.long Q0), .second, .val (.long Q1), .second, .val (.long Q2), .second, .val (.ref ra), .unset, .unset, .unset, .unset, .unset, .unset, .unset, .unset, .unset, .unset, .unset, .unset, .unset, .unset, .unset] [])) target := by
  have hc147 : (1 : Int32) < (Int32.ofNat k) := by rw [hr]; decide
  have hc159 : ¬ ((2 : Int32) < (Int32.ofNat k)) := by rw [hr]; decide
  obtain ⟨T7, h7, k7, X7, e7, E7, A7, Ex7, st7⟩ := newPE X0 hx hZ (hw _ (List.mem_of_getElem? (i := 5) rfl)) e0 (g := (mkF m 134 #[.val (.long q1), .second, .val (.long q2), .second, .val (.long q3), .second, .val (.long q4), .second, .val (.int p5), .val (.int p6), .val (.long P0), .second, .val (.long P1), .second, .val (.long P2), .second, .val (.long DM), .second, .val (.int (Int32.ofNat n)), .val (.int (Int32.ofNat k)), .val (.long Q0), .second, .val (.long Q1), .second, .val (.long Q2), .second, .val (.ref ra), .unset, .unset, .unset, .unset, .unset, .unset, .unset, .unset, .unset, .unset, .unset, .unset, .unset, .unset, .unset] [(.int (Int32.ofNat k))])) rfl (hb hby at_134) rfl (own_nn hnk) (cap := 3) (by rw [own_n32 hnk]; exact hnk) (by decide) (by decide) (by decide) rfl
  obtain ⟨b7, g7⟩ : ∃ z, z = h0.size := ⟨_, rfl⟩
  rw [← g7] at A7 st7 Ex7
  have V_b7 := own_L.of (Arv.new A7 (own_nn hnk)) (own_n32 hnk)
  have g_b7 : n0 ≤ b7 := Nat.le_trans Z0 (Nat.le_of_eq g7.symm)
  have sz_b7 : h0.size ≤ b7 := (Nat.le_trans (Keep.refl h0 []).1 (Nat.le_of_eq g7.symm))
  have K7 : Keep h0 h7 [] := (Keep.refl h0 []).ext E7
  obtain ⟨cl_b7_143, Ar_b7, S_b7, H_b7⟩ := V_b7
  have hin143 : ¬ ((0 : Int32) < 0 ∨ cl_b7_143.slots.size ≤ ((0 : Int32)).toNatClampNeg) := by rw [S_b7]; exact fun q => q.elim (by decide) (fun q => by have q2 := Nat.le_trans q (Nat.le_of_eq (rfl : _ = 0)); omega)
  obtain ⟨T8, h8, X8, e8, W8, st8⟩ := stJ X7 hx hZ e7 Ar_b7 (j := (0 : Int32)) hin143 (g := (mkF m 143 #[.val (.long q1), .second, .val (.long q2), .second, .val (.long q3), .second, .val (.long q4), .second, .val (.int p5), .val (.int p6), .val (.long P0), .second, .val (.long P1), .second, .val (.long P2), .second, .val (.long DM), .second, .val (.int (Int32.ofNat n)), .val (.int (Int32.ofNat k)), .val (.long Q0), .second, .val (.long Q1), .second, .val (.long Q2), .second, .val (.ref ra), .val (.ref b7), .unset, .unset, .unset, .unset, .unset, .unset, .unset, .unset, .unset, .unset, .unset, .unset, .unset, .unset] [(.long Q0), (.int (0 : Int32)), (.ref b7)])) rfl rfl (hb hby at_143)
  have V_b7_8 := own_L.set (i := 0) Ar_b7 S_b7 H_b7 W8
  have K8 : Keep h0 h8 [] := K7.wr W8 (Or.inr sz_b7)
  have N8 := Fr.snoc X8 N0 g_b7
  obtain ⟨cl_b7_155, Ar_b7, S_b7, H_b7⟩ := V_b7_8
  have hin155 : ¬ ((1 : Int32) < 0 ∨ cl_b7_155.slots.size ≤ ((1 : Int32)).toNatClampNeg) := by rw [S_b7]; exact fun q => q.elim (by decide) (fun q => by have q2 := Nat.le_trans q (Nat.le_of_eq (rfl : _ = 1)); omega)
  obtain ⟨T9, h9, X9, e9, W9, st9⟩ := stJ X8 hx hZ e8 Ar_b7 (j := (1 : Int32)) hin155 (g := (mkF m 155 #[.val (.long q1), .second, .val (.long q2), .second, .val (.long q3), .second, .val (.long q4), .second, .val (.int p5), .val (.int p6), .val (.long P0), .second, .val (.long P1), .second, .val (.long P2), .second, .val (.long DM), .second, .val (.int (Int32.ofNat n)), .val (.int (Int32.ofNat k)), .val (.long Q0), .second, .val (.long Q1), .second, .val (.long Q2), .second, .val (.ref ra), .val (.ref b7), .unset, .unset, .unset, .unset, .unset, .unset, .unset, .unset, .unset, .unset, .unset, .unset, .unset, .unset] [(.long Q1), (.int (1 : Int32)), (.ref b7)])) rfl rfl (hb hby at_155)
  have V_b7_9 := own_L.set (i := 1) Ar_b7 S_b7 H_b7 W9
  have K9 : Keep h0 h9 [] := K8.wr W9 (Or.inr sz_b7)
  have N9 := Fr.snoc X9 N8 g_b7
  refine ⟨T9, _, _, b7, X9, e9, N9, K9, sz_b7, ((Ex7.wr W8).wr W9), V_b7_9.congr (fun j hj => ?_), fun target kt => ?_⟩
  · obtain rfl | rfl : j = 0 ∨ j = 1 := by omega
    · rfl
    · rfl
  · show Steps p.tables e below (T0.setTop (mkF m 132 #[.val (.long q1), .second, .val (.long q2), .second, .val (.long q3), .second, .val (.long q4), .second, .val (.int p5), .val (.int p6), .val (.long P0), .second, .val (.long P1), .second, .val (.long P2), .second, .val (.long DM), .second, .val (.int (Int32.ofNat n)), .val (.int (Int32.ofNat k)), .val (.long Q0), .second, .val (.long Q1), .second, .val (.long Q2), .second, .val (.ref ra), .unset, .unset, .unset, .unset, .unset, .unset, .unset, .unset, .unset, .unset, .unset, .unset, .unset, .unset, .unset] [])) _
    refine XS.iload X0.here hx rfl (hb hby at_132) rfl ?_
    show Steps p.tables e below (T0.setTop (mkF m 134 #[.val (.long q1), .second, .val (.long q2), .second, .val (.long q3), .second, .val (.long q4), .second, .val (.int p5), .val (.int p6), .val (.long P0), .second, .val (.long P1), .second, .val (.long P2), .second, .val (.long DM), .second, .val (.int (Int32.ofNat n)), .val (.int (Int32.ofNat k)), .val (.long Q0), .second, .val (.long Q1), .second, .val (.long Q2), .second, .val (.ref ra), .unset, .unset, .unset, .unset, .unset, .unset, .unset, .unset, .unset, .unset, .unset, .unset, .unset, .unset, .unset] [(.int (Int32.ofNat k))])) _
    refine st7 _ ?_
    show Steps p.tables e below (T7.setTop (mkF m 136 #[.val (.long q1), .second, .val (.long q2), .second, .val (.long q3), .second, .val (.long q4), .second, .val (.int p5), .val (.int p6), .val (.long P0), .second, .val (.long P1), .second, .val (.long P2), .second, .val (.long DM), .second, .val (.int (Int32.ofNat n)), .val (.int (Int32.ofNat k)), .val (.long Q0), .second, .val (.long Q1), .second, .val (.long Q2), .second, .val (.ref ra), .unset, .unset, .unset, .unset, .unset, .unset, .unset, .unset, .unset, .unset, .unset, .unset, .unset, .unset, .unset] [(.ref b7)])) _
    refine XS.astore X7.here hx rfl (hb hby at_136) rfl rfl (l' := #[.val (.long q1), .second, .val (.long q2), .second, .val (.long q3), .second, .val (.long q4), .second, .val (.int p5), .val (.int p6), .val (.long P0), .second, .val (.long P1), .second, .val (.long P2), .second, .val (.long DM), .second, .val (.int (Int32.ofNat n)), .val (.int (Int32.ofNat k)), .val (.long Q0), .second, .val (.long Q1), .second, .val (.long Q2), .second, .val (.ref ra), .val (.ref b7), .unset, .unset, .unset, .unset, .unset, .unset, .unset, .unset, .unset, .unset, .unset, .unset, .unset, .unset]) rfl ?_
    show Steps p.tables e below (T7.setTop (mkF m 138 #[.val (.long q1), .second, .val (.long q2), .second, .val (.long q3), .second, .val (.long q4), .second, .val (.int p5), .val (.int p6), .val (.long P0), .second, .val (.long P1), .second, .val (.long P2), .second, .val (.long DM), .second, .val (.int (Int32.ofNat n)), .val (.int (Int32.ofNat k)), .val (.long Q0), .second, .val (.long Q1), .second, .val (.long Q2), .second, .val (.ref ra), .val (.ref b7), .unset, .unset, .unset, .unset, .unset, .unset, .unset, .unset, .unset, .unset, .unset, .unset, .unset, .unset] [])) _
    refine XS.aload X7.here hx rfl (hb hby at_138) rfl rfl ?_
    show Steps p.tables e below (T7.setTop (mkF m 140 #[.val (.long q1), .second, .val (.long q2), .second, .val (.long q3), .second, .val (.long q4), .second, .val (.int p5), .val (.int p6), .val (.long P0), .second, .val (.long P1), .second, .val (.long P2), .second, .val (.long DM), .second, .val (.int (Int32.ofNat n)), .val (.int (Int32.ofNat k)), .val (.long Q0), .second, .val (.long Q1), .second, .val (.long Q2), .second, .val (.ref ra), .val (.ref b7), .unset, .unset, .unset, .unset, .unset, .unset, .unset, .unset, .unset, .unset, .unset, .unset, .unset, .unset] [(.ref b7)])) _
    refine XS.iconst X7.here hx rfl (hb hby at_140) ?_
    show Steps p.tables e below (T7.setTop (mkF m 141 #[.val (.long q1), .second, .val (.long q2), .second, .val (.long q3), .second, .val (.long q4), .second, .val (.int p5), .val (.int p6), .val (.long P0), .second, .val (.long P1), .second, .val (.long P2), .second, .val (.long DM), .second, .val (.int (Int32.ofNat n)), .val (.int (Int32.ofNat k)), .val (.long Q0), .second, .val (.long Q1), .second, .val (.long Q2), .second, .val (.ref ra), .val (.ref b7), .unset, .unset, .unset, .unset, .unset, .unset, .unset, .unset, .unset, .unset, .unset, .unset, .unset, .unset] [(.int (0 : Int32)), (.ref b7)])) _
    refine XS.lload X7.here hx rfl (hb hby at_141) rfl ?_
    show Steps p.tables e below (T7.setTop (mkF m 143 #[.val (.long q1), .second, .val (.long q2), .second, .val (.long q3), .second, .val (.long q4), .second, .val (.int p5), .val (.int p6), .val (.long P0), .second, .val (.long P1), .second, .val (.long P2), .second, .val (.long DM), .second, .val (.int (Int32.ofNat n)), .val (.int (Int32.ofNat k)), .val (.long Q0), .second, .val (.long Q1), .second, .val (.long Q2), .second, .val (.ref ra), .val (.ref b7), .unset, .unset, .unset, .unset, .unset, .unset, .unset, .unset, .unset, .unset, .unset, .unset, .unset, .unset] [(.long Q0), (.int (0 : Int32)), (.ref b7)])) _
    refine st8 _ ?_
    show Steps p.tables e below (T8.setTop (mkF m 144 #[.val (.long q1), .second, .val (.long q2), .second, .val (.long q3), .second, .val (.long q4), .second, .val (.int p5), .val (.int p6), .val (.long P0), .second, .val (.long P1), .second, .val (.long P2), .second, .val (.long DM), .second, .val (.int (Int32.ofNat n)), .val (.int (Int32.ofNat k)), .val (.long Q0), .second, .val (.long Q1), .second, .val (.long Q2), .second, .val (.ref ra), .val (.ref b7), .unset, .unset, .unset, .unset, .unset, .unset, .unset, .unset, .unset, .unset, .unset, .unset, .unset, .unset] [])) _
    refine XS.iload X8.here hx rfl (hb hby at_144) rfl ?_
    show Steps p.tables e below (T8.setTop (mkF m 146 #[.val (.long q1), .second, .val (.long q2), .second, .val (.long q3), .second, .val (.long q4), .second, .val (.int p5), .val (.int p6), .val (.long P0), .second, .val (.long P1), .second, .val (.long P2), .second, .val (.long DM), .second, .val (.int (Int32.ofNat n)), .val (.int (Int32.ofNat k)), .val (.long Q0), .second, .val (.long Q1), .second, .val (.long Q2), .second, .val (.ref ra), .val (.ref b7), .unset, .unset, .unset, .unset, .unset, .unset, .unset, .unset, .unset, .unset, .unset, .unset, .unset, .unset] [(.int (Int32.ofNat k))])) _
    refine XS.iconst X8.here hx rfl (hb hby at_146) ?_
    show Steps p.tables e below (T8.setTop (mkF m 147 #[.val (.long q1), .second, .val (.long q2), .second, .val (.long q3), .second, .val (.long q4), .second, .val (.int p5), .val (.int p6), .val (.long P0), .second, .val (.long P1), .second, .val (.long P2), .second, .val (.long DM), .second, .val (.int (Int32.ofNat n)), .val (.int (Int32.ofNat k)), .val (.long Q0), .second, .val (.long Q1), .second, .val (.long Q2), .second, .val (.ref ra), .val (.ref b7), .unset, .unset, .unset, .unset, .unset, .unset, .unset, .unset, .unset, .unset, .unset, .unset, .unset, .unset] [(.int (1 : Int32)), (.int (Int32.ofNat k))])) _
    refine XS.icmpNo X8.here hx rfl (hb hby at_147) rfl (tlt hc147).2.2.2 ?_
    show Steps p.tables e below (T8.setTop (mkF m 150 #[.val (.long q1), .second, .val (.long q2), .second, .val (.long q3), .second, .val (.long q4), .second, .val (.int p5), .val (.int p6), .val (.long P0), .second, .val (.long P1), .second, .val (.long P2), .second, .val (.long DM), .second, .val (.int (Int32.ofNat n)), .val (.int (Int32.ofNat k)), .val (.long Q0), .second, .val (.long Q1), .second, .val (.long Q2), .second, .val (.ref ra), .val (.ref b7), .unset, .unset, .unset, .unset, .unset, .unset, .unset, .unset, .unset, .unset, .unset, .unset, .unset, .unset] [])) _
    refine XS.aload X8.here hx rfl (hb hby at_150) rfl rfl ?_
    show Steps p.tables e below (T8.setTop (mkF m 152 #[.val (.long q1), .second, .val (.long q2), .second, .val (.long q3), .second, .val (.long q4), .second, .val (.int p5), .val (.int p6), .val (.long P0), .second, .val (.long P1), .second, .val (.long P2), .second, .val (.long DM), .second, .val (.int (Int32.ofNat n)), .val (.int (Int32.ofNat k)), .val (.long Q0), .second, .val (.long Q1), .second, .val (.long Q2), .second, .val (.ref ra), .val (.ref b7), .unset, .unset, .unset, .unset, .unset, .unset, .unset, .unset, .unset, .unset, .unset, .unset, .unset, .unset] [(.ref b7)])) _
    refine XS.iconst X8.here hx rfl (hb hby at_152) ?_
    show Steps p.tables e below (T8.setTop (mkF m 153 #[.val (.long q1), .second, .val (.long q2), .second, .val (.long q3), .second, .val (.long q4), .second, .val (.int p5), .val (.int p6), .val (.long P0), .second, .val (.long P1), .second, .val (.long P2), .second, .val (.long DM), .second, .val (.int (Int32.ofNat n)), .val (.int (Int32.ofNat k)), .val (.long Q0), .second, .val (.long Q1), .second, .val (.long Q2), .second, .val (.ref ra), .val (.ref b7), .unset, .unset, .unset, .unset, .unset, .unset, .unset, .unset, .unset, .unset, .unset, .unset, .unset, .unset] [(.int (1 : Int32)), (.ref b7)])) _
    refine XS.lload X8.here hx rfl (hb hby at_153) rfl ?_
    show Steps p.tables e below (T8.setTop (mkF m 155 #[.val (.long q1), .second, .val (.long q2), .second, .val (.long q3), .second, .val (.long q4), .second, .val (.int p5), .val (.int p6), .val (.long P0), .second, .val (.long P1), .second, .val (.long P2), .second, .val (.long DM), .second, .val (.int (Int32.ofNat n)), .val (.int (Int32.ofNat k)), .val (.long Q0), .second, .val (.long Q1), .second, .val (.long Q2), .second, .val (.ref ra), .val (.ref b7), .unset, .unset, .unset, .unset, .unset, .unset, .unset, .unset, .unset, .unset, .unset, .unset, .unset, .unset] [(.long Q1), (.int (1 : Int32)), (.ref b7)])) _
    refine st9 _ ?_
    show Steps p.tables e below (T9.setTop (mkF m 156 #[.val (.long q1), .second, .val (.long q2), .second, .val (.long q3), .second, .val (.long q4), .second, .val (.int p5), .val (.int p6), .val (.long P0), .second, .val (.long P1), .second, .val (.long P2), .second, .val (.long DM), .second, .val (.int (Int32.ofNat n)), .val (.int (Int32.ofNat k)), .val (.long Q0), .second, .val (.long Q1), .second, .val (.long Q2), .second, .val (.ref ra), .val (.ref b7), .unset, .unset, .unset, .unset, .unset, .unset, .unset, .unset, .unset, .unset, .unset, .unset, .unset, .unset] [])) _
    refine XS.iload X9.here hx rfl (hb hby at_156) rfl ?_
    show Steps p.tables e below (T9.setTop (mkF m 158 #[.val (.long q1), .second, .val (.long q2), .second, .val (.long q3), .second, .val (.long q4), .second, .val (.int p5), .val (.int p6), .val (.long P0), .second, .val (.long P1), .second, .val (.long P2), .second, .val (.long DM), .second, .val (.int (Int32.ofNat n)), .val (.int (Int32.ofNat k)), .val (.long Q0), .second, .val (.long Q1), .second, .val (.long Q2), .second, .val (.ref ra), .val (.ref b7), .unset, .unset, .unset, .unset, .unset, .unset, .unset, .unset, .unset, .unset, .unset, .unset, .unset, .unset] [(.int (Int32.ofNat k))])) _
    refine XS.iconst X9.here hx rfl (hb hby at_158) ?_
    show Steps p.tables e below (T9.setTop (mkF m 159 #[.val (.long q1), .second, .val (.long q2), .second, .val (.long q3), .second, .val (.long q4), .second, .val (.int p5), .val (.int p6), .val (.long P0), .second, .val (.long P1), .second, .val (.long P2), .second, .val (.long DM), .second, .val (.int (Int32.ofNat n)), .val (.int (Int32.ofNat k)), .val (.long Q0), .second, .val (.long Q1), .second, .val (.long Q2), .second, .val (.ref ra), .val (.ref b7), .unset, .unset, .unset, .unset, .unset, .unset, .unset, .unset, .unset, .unset, .unset, .unset, .unset, .unset] [(.int (2 : Int32)), (.int (Int32.ofNat k))])) _
    refine XS.icmpYes X9.here hx rfl (pc0 := 159) (pc' := 168) rfl (hb hby at_159) rfl (flt hc159).2.2.2 (by decide) (by decide) ?_
    exact kt
set_option maxRecDepth 65536 in
set_option maxHeartbeats 40000000 in
theorem own_s3_ff {p : Program} {l : Launch} {e : Env} {s : State} {m : MethodId} {args : Array Value} {below : List Frame} {meth : Method} {c : Code} {T0 : State} {locs : List Loc} {Z : State} {a0 : Array Value} {h0 : Heap} {n0 : Nat} (q1 q2 q3 q4 : Int64) (p5 p6 : Int32) (P0 P1 P2 DM : Int64) (n k : Nat) (Q0 Q1 Q2 : Int64) (ra : Addr)
    (X0 : Stand p l e room_1 s m args below meth c T0 locs 1 3) (hx : p.tables.exec = Jvm.exec) (hZ : Z.Warmed39 s.vm) (hw : ∀ d ∈ tables_1, d.before a0 Z = true) (hby : c.code = code) (hml : c.maxLocals = 42) (hown : s.vm.findClass "com/example/updrift/updrift/model/ReleaseNumberOfPinLaw" = some m.cls) (e0 : T0.heap = h0) (N0 : Fr n0 locs) (Z0 : n0 ≤ h0.size) (hnk : k ≤ 3) (hr : k = 3) :
    ∃ (T' : State) (h' : Heap) (locs' : List Loc) (b7 : Addr), Stand p l e room_1 s m args below meth c T' locs' 2 6 ∧ T'.heap = h' ∧ Fr n0 locs' ∧ Keep h0 h' [] ∧ h0.size ≤ b7 ∧ Exa Z h' b7 "[J" ∧ own_L Z h' b7 k (own_f3 Q0 Q1 Q2) ∧
      ∀ target, Steps p.tables e below (T'.setTop (mkF m 168 #[.val (.long q1), .second, .val (.long q2), .second, .val (.long q3), .second, .val (.long q4), .second, .val (.int p5), .val (.int p6), .val (.long P0), .second, .val (.long P1), .second, .val (.long P2), .second, .val (.long DM), .second, .val (.int (Int32.ofNat n)), .val (.int (Int32.ofNat k)), .val (.long Q0), .second, .val (.long Q1), .second, .val (.long Q2), .second, .val (.ref ra), .val (.ref b7), .unset, .unset, .unset, .unset, .unset, .unset, .unset, .unset, .unset, .unset, .unset, .unset, .unset, .unset] [])) target → Steps p.tables e below (T0.setTop (mkF m 132 #[.val (.long q1), .second, .val (.long q2), .second, .val (.long q3), .second, .val (.long q4), .second, .val (.int p5), .val (.int p6), .val (.long P0), .second, .val (.long P1), .second, .val (.long P2), .second, .val (.long DM), .second, .val (.int (Int32.ofNat n)), .val (.int (Int32.ofNat k)), .val (.long Q0), .second, .val (.long Q1), .second, .val (.long Q2), .second, .val (.ref ra), .unset, .unset, .unset, .unset, .unset, .unset, .unset, .unset, .unset, .unset, .unset, .unset, .unset, .unset, .unset] [])) target := by
  have hc147 : (1 : Int32) < (Int32.ofNat k) := by rw [hr]; decide
  have hc159 : (2 : Int32) < (Int32.ofNat k) := by rw [hr]; decide
  obtain ⟨T7, h7, k7, X7, e7, E7, A7, Ex7, st7⟩ := newPE X0 hx hZ (hw _ (List.mem_of_getElem? (i := 5) rfl)) e0 (g := (mkF m 134 #[.val (.long q1), .second, .val (.long q2), .second, .val (.long q3), .second, .val (.long q4), .second, .val (.int p5), .val (.int p6), .val (.long P0), .second, .val (.long P1), .second, .val (.long P2), .second, .val (.long DM), .second, .val (.int (Int32.ofNat n)), .val (.int (Int32.ofNat k)), .val (.long Q0), .second, .val (.long Q1), .second, .val (.long Q2), .second, .val (.ref ra), .unset, .unset, .unset, .unset, .unset, .unset, .unset, .unset, .unset, .unset, .unset, .unset, .unset, .unset, .unset] [(.int (Int32.ofNat k))])) rfl (hb hby at_134) rfl (own_nn hnk) (cap := 3) (by rw [own_n32 hnk]; exact hnk) (by decide) (by decide) (by decide) rfl
  obtain ⟨b7, g7⟩ : ∃ z, z = h0.size := ⟨_, rfl⟩
  rw [← g7] at A7 st7 Ex7
  have V_b7 := own_L.of (Arv.new A7 (own_nn hnk)) (own_n32 hnk)
  have g_b7 : n0 ≤ b7 := Nat.le_trans Z0 (Nat.le_of_eq g7.symm)
  have sz_b7 : h0.size ≤ b7 := (Nat.le_trans (Keep.refl h0 []).1 (Nat.le_of_eq g7.symm))
  have K7 : Keep h0 h7 [] := (Keep.refl h0 []).ext E7
  obtain ⟨cl_b7_143, Ar_b7, S_b7, H_b7⟩ := V_b7
  have hin143 : ¬ ((0 : Int32) < 0 ∨ cl_b7_143.slots.size ≤ ((0 : Int32)).toNatClampNeg) := by rw [S_b7]; exact fun q => q.elim (by decide) (fun q => by have q2 := Nat.le_trans q (Nat.le_of_eq (rfl : _ = 0)); omega)
  obtain ⟨T8, h8, X8, e8, W8, st8⟩ := stJ X7 hx hZ e7 Ar_b7 (j := (0 : Int32)) hin143 (g := (mkF m 143 #[.val (.long q1), .second, .val (.long q2), .second, .val (.long q3), .second, .val (.long q4), .second, .val (.int p5), .val (.int p6), .val (.long P0), .second, .val (.long P1), .second, .val (.long P2), .second, .val (.long DM), .second, .val (.int (Int32.ofNat n)), .val (.int (Int32.ofNat k)), .val (.long Q0), .second, .val (.long Q1), .second, .val (.long Q2), .second, .val (.ref ra), .val (.ref b7), .unset, .unset, .unset, .unset, .unset, .unset, .unset, .unset, .unset, .unset, .unset, .unset, .unset, .unset] [(.long Q0), (.int (0 : Int32)), (.ref b7)])) rfl rfl (hb hby at_143)
  have V_b7_8 := own_L.set (i := 0) Ar_b7 S_b7 H_b7 W8
  have K8 : Keep h0 h8 [] := K7.wr W8 (Or.inr sz_b7)
  have N8 := Fr.snoc X8 N0 g_b7
  obtain ⟨cl_b7_155, Ar_b7, S_b7, H_b7⟩ := V_b7_8
  have hin155 : ¬ ((1 : Int32) < 0 ∨ cl_b7_155.slots.size ≤ ((1 : Int32)).toNatClampNeg) := by rw [S_b7]; exact fun q => q.elim (by decide) (fun q => by have q2 := Nat.le_trans q (Nat.le_of_eq (rfl : _ = 1)); omega)
  obtain ⟨T9, h9, X9, e9, W9, st9⟩ := stJ X8 hx hZ e8 Ar_b7 (j := (1 : Int32)) hin155 (g := (mkF m 155 #[.val (.long q1), .second, .val (.long q2), .second, .val (.long q3), .second, .val (.long q4), .second, .val (.int p5), .val (.int p6), .val (.long P0), .second, .val (.long P1), .second, .val (.long P2), .second, .val (.long DM), .second, .val (.int (Int32.ofNat n)), .val (.int (Int32.ofNat k)), .val (.long Q0), .second, .val (.long Q1), .second, .val (.long Q2), .second, .val (.ref ra), .val (.ref b7), .unset, .unset, .unset, .unset, .unset, .unset, .unset, .unset, .unset, .unset, .unset, .unset, .unset, .unset] [(.long Q1), (.int (1 : Int32)), (.ref b7)])) rfl rfl (hb hby at_155)
  have V_b7_9 := own_L.set (i := 1) Ar_b7 S_b7 H_b7 W9
  have K9 : Keep h0 h9 [] := K8.wr W9 (Or.inr sz_b7)
  have N9 := Fr.snoc X9 N8 g_b7
  obtain ⟨cl_b7_167, Ar_b7, S_b7, H_b7⟩ := V_b7_9
  have hin167 : ¬ ((2 : Int32) < 0 ∨ cl_b7_167.slots.size ≤ ((2 : Int32)).toNatClampNeg) := by rw [S_b7]; exact fun q => q.elim (by decide) (fun q => by have q2 := Nat.le_trans q (Nat.le_of_eq (rfl : _ = 2)); omega)
  obtain ⟨T10, h10, X10, e10, W10, st10⟩ := stJ X9 hx hZ e9 Ar_b7 (j := (2 : Int32)) hin167 (g := (mkF m 167 #[.val (.long q1), .second, .val (.long q2), .second, .val (.long q3), .second, .val (.long q4), .second, .val (.int p5), .val (.int p6), .val (.long P0), .second, .val (.long P1), .second, .val (.long P2), .second, .val (.long DM), .second, .val (.int (Int32.ofNat n)), .val (.int (Int32.ofNat k)), .val (.long Q0), .second, .val (.long Q1), .second, .val (.long Q2), .second, .val (.ref ra), .val (.ref b7), .unset, .unset, .unset, .unset, .unset, .unset, .unset, .unset, .unset, .unset, .unset, .unset, .unset, .unset] [(.long Q2), (.int (2 : Int32)), (.ref b7)])) rfl rfl (hb hby at_167)
  have V_b7_10 := own_L.set (i := 2) Ar_b7 S_b7 H_b7 W10
  have K10 : Keep h0 h10 [] := K9.wr W10 (Or.inr sz_b7)
  have N10 := Fr.snoc X10 N9 g_b7
  refine ⟨T10, _, _, b7, X10, e10, N10, K10, sz_b7, (((Ex7.wr W8).wr W9).wr W10), V_b7_10.congr (fun j hj => ?_), fun target kt => ?_⟩
  · obtain rfl | rfl | rfl : j = 0 ∨ j = 1 ∨ j = 2 := by omega
    · rfl
    · rfl
    · rfl
  · show Steps p.tables e below (T0.setTop (mkF m 132 #[.val (.long q1), .second, .val (.long q2), .second, .val (.long q3), .second, .val (.long q4), .second, .val (.int p5), .val (.int p6), .val (.long P0), .second, .val (.long P1), .second, .val (.long P2), .second, .val (.long DM), .second, .val (.int (Int32.ofNat n)), .val (.int (Int32.ofNat k)), .val (.long Q0), .second, .val (.long Q1), .second, .val (.long Q2), .second, .val (.ref ra), .unset, .unset, .unset, .unset, .unset, .unset, .unset, .unset, .unset, .unset, .unset, .unset, .unset, .unset, .unset] [])) _
    refine XS.iload X0.here hx rfl (hb hby at_132) rfl ?_
    show Steps p.tables e below (T0.setTop (mkF m 134 #[.val (.long q1), .second, .val (.long q2), .second, .val (.long q3), .second, .val (.long q4), .second, .val (.int p5), .val (.int p6), .val (.long P0), .second, .val (.long P1), .second, .val (.long P2), .second, .val (.long DM), .second, .val (.int (Int32.ofNat n)), .val (.int (Int32.ofNat k)), .val (.long Q0), .second, .val (.long Q1), .second, .val (.long Q2), .second, .val (.ref ra), .unset, .unset, .unset, .unset, .unset, .unset, .unset, .unset, .unset, .unset, .unset, .unset, .unset, .unset, .unset] [(.int (Int32.ofNat k))])) _
    refine st7 _ ?_
    show Steps p.tables e below (T7.setTop (mkF m 136 #[.val (.long q1), .second, .val (.long q2), .second, .val (.long q3), .second, .val (.long q4), .second, .val (.int p5), .val (.int p6), .val (.long P0), .second, .val (.long P1), .second, .val (.long P2), .second, .val (.long DM), .second, .val (.int (Int32.ofNat n)), .val (.int (Int32.ofNat k)), .val (.long Q0), .second, .val (.long Q1), .second, .val (.long Q2), .second, .val (.ref ra), .unset, .unset, .unset, .unset, .unset, .unset, .unset, .unset, .unset, .unset, .unset, .unset, .unset, .unset, .unset] [(.ref b7)])) _
    refine XS.astore X7.here hx rfl (hb hby at_136) rfl rfl (l' := #[.val (.long q1), .second, .val (.long q2), .second, .val (.long q3), .second, .val (.long q4), .second, .val (.int p5), .val (.int p6), .val (.long P0), .second, .val (.long P1), .second, .val (.long P2), .second, .val (.long DM), .second, .val (.int (Int32.ofNat n)), .val (.int (Int32.ofNat k)), .val (.long Q0), .second, .val (.long Q1), .second, .val (.long Q2), .second, .val (.ref ra), .val (.ref b7), .unset, .unset, .unset, .unset, .unset, .unset, .unset, .unset, .unset, .unset, .unset, .unset, .unset, .unset]) rfl ?_
    show Steps p.tables e below (T7.setTop (mkF m 138 #[.val (.long q1), .second, .val (.long q2), .second, .val (.long q3), .second, .val (.long q4), .second, .val (.int p5), .val (.int p6), .val (.long P0), .second, .val (.long P1), .second, .val (.long P2), .second, .val (.long DM), .second, .val (.int (Int32.ofNat n)), .val (.int (Int32.ofNat k)), .val (.long Q0), .second, .val (.long Q1), .second, .val (.long Q2), .second, .val (.ref ra), .val (.ref b7), .unset, .unset, .unset, .unset, .unset, .unset, .unset, .unset, .unset, .unset, .unset, .unset, .unset, .unset] [])) _
    refine XS.aload X7.here hx rfl (hb hby at_138) rfl rfl ?_
    show Steps p.tables e below (T7.setTop (mkF m 140 #[.val (.long q1), .second, .val (.long q2), .second, .val (.long q3), .second, .val (.long q4), .second, .val (.int p5), .val (.int p6), .val (.long P0), .second, .val (.long P1), .second, .val (.long P2), .second, .val (.long DM), .second, .val (.int (Int32.ofNat n)), .val (.int (Int32.ofNat k)), .val (.long Q0), .second, .val (.long Q1), .second, .val (.long Q2), .second, .val (.ref ra), .val (.ref b7), .unset, .unset, .unset, .unset, .unset, .unset, .unset, .unset, .unset, .unset, .unset, .unset, .unset, .unset] [(.ref b7)])) _
    refine XS.iconst X7.here hx rfl (hb hby at_140) ?_
    show Steps p.tables e below (T7.setTop (mkF m 141 #[.val (.long q1), .second, .val (.long q2), .second, .val (.long q3), .second, .val (.long q4), .second, .val (.int p5), .val (.int p6), .val (.long P0), .second, .val (.long P1), .second, .val (.long P2), .second, .val (.long DM), .second, .val (.int (Int32.ofNat n)), .val (.int (Int32.ofNat k)), .val (.long Q0), .second, .val (.long Q1), .second, .val (.long Q2), .second, .val (.ref ra), .val (.ref b7), .unset, .unset, .unset, .unset, .unset, .unset, .unset, .unset, .unset, .unset, .unset, .unset, .unset, .unset] [(.int (0 : Int32)), (.ref b7)])) _
    refine XS.lload X7.here hx rfl (hb hby at_141) rfl ?_
    show Steps p.tables e below (T7.setTop (mkF m 143 #[.val (.long q1), .second, .val (.long q2), .second, .val (.long q3), .second, .val (.long q4), .second, .val (.int p5), .val (.int p6), .val (.long P0), .second, .val (.long P1), .second, .val (.long P2), .second, .val (.long DM), .second, .val (.int (Int32.ofNat n)), .val (.int (Int32.ofNat k)), .val (.long Q0), .second, .val (.long Q1), .second, .val (.long Q2), .second, .val (.ref ra), .val (.ref b7), .unset, .unset, .unset, .unset, .unset, .unset, .unset, .unset, .unset, .unset, .unset, .unset, .unset, .unset] [(.long Q0), (.int (0 : Int32)), (.ref b7)])) _
    refine st8 _ ?_
    show Steps p.tables e below (T8.setTop (mkF m 144 #[.val (.long q1), .second, .val (.long q2), .second, .val (.long q3), .second, .val (.long q4), .second, .val (.int p5), .val (.int p6), .val (.long P0), .second, .val (.long P1), .second, .val (.long P2), .second, .val (.long DM), .second, .val (.int (Int32.ofNat n)), .val (.int (Int32.ofNat k)), .val (.long Q0), .second, .val (.long Q1), .second, .val (.long Q2), .second, .val (.ref ra), .val (.ref b7), .unset, .unset, .unset, .unset, .unset, .unset, .unset, .unset, .unset, .unset, .unset, .unset, .unset, .unset] [])) _
    refine XS.iload X8.here hx rfl (hb hby at_144) rfl ?_
    show Steps p.tables e below (T8.setTop (mkF m 146 #[.val (.long q1), .second, .val (.long q2), .second, .val (.long q3), .second, .val (.long q4), .second, .val (.int p5), .val (.int p6), .val (.long P0), .second, .val (.long P1), .second, .val (.long P2), .second, .val (.long DM), .second, .val (.int (Int32.ofNat n)), .val (.int (Int32.ofNat k)), .val (.long Q0), .second, .val (.long Q1), .second, .val (.long Q2), .second, .val (.ref ra), .val (.ref b7), .unset, .unset, .unset, .unset, .unset, .unset, .unset, .unset, .unset, .unset, .unset, .unset, .unset, .unset] [(.int (Int32.ofNat k))])) _
    refine XS.iconst X8.here hx rfl (hb hby at_146) ?_
    show Steps p.tables e below (T8.setTop (mkF m 147 #[.val (.long q1), .second, .val (.long q2), .second, .val (.long q3), .second, .val (.long q4), .second, .val (.int p5), .val (.int p6), .val (.long P0), .second, .val (.long P1), .second, .val (.long P2), .second, .val (.long DM), .second, .val (.int (Int32.ofNat n)), .val (.int (Int32.ofNat k)), .val (.long Q0), .second, .val (.long Q1), .second, .val (.long Q2), .second, .val (.ref ra), .val (.ref b7), .unset, .unset, .unset, .unset, .unset, .unset, .unset, .unset, .unset, .unset, .unset, .unset, .unset, .unset] [(.int (1 : Int32)), (.int (Int32.ofNat k))])) _
    refine XS.icmpNo X8.here hx rfl (hb hby at_147) rfl (tlt hc147).2.2.2 ?_
    show Steps p.tables e below (T8.setTop (mkF m 150 #[.val (.long q1), .second, .val (.long q2), .second, .val (.long q3), .second, .val (.long q4), .second, .val (.int p5), .val (.int p6), .val (.long P0), .second, .val (.long P1), .second, .val (.long P2), .second, .val (.long DM), .second, .val (.int (Int32.ofNat n)), .val (.int (Int32.ofNat k)), .val (.long Q0), .second, .val (.long Q1), .second, .val (.long Q2), .second, .val (.ref ra), .val (.ref b7), .unset, .unset, .unset, .unset, .unset, .unset, .unset, .unset, .unset, .unset, .unset, .unset, .unset, .unset] [])) _
    refine XS.aload X8.here hx rfl (hb hby at_150) rfl rfl ?_
    show Steps p.tables e below (T8.setTop (mkF m 152 #[.val (.long q1), .second, .val (.long q2), .second, .val (.long q3), .second, .val (.long q4), .second, .val (.int p5), .val (.int p6), .val (.long P0), .second, .val (.long P1), .second, .val (.long P2), .second, .val (.long DM), .second, .val (.int (Int32.ofNat n)), .val (.int (Int32.ofNat k)), .val (.long Q0), .second, .val (.long Q1), .second, .val (.long Q2), .second, .val (.ref ra), .val (.ref b7), .unset, .unset, .unset, .unset, .unset, .unset, .unset, .unset, .unset, .unset, .unset, .unset, .unset, .unset] [(.ref b7)])) _
    refine XS.iconst X8.here hx rfl (hb hby at_152) ?_
    show Steps p.tables e below (T8.setTop (mkF m 153 #[.val (.long q1), .second, .val (.long q2), .second, .val (.long q3), .second, .val (.long q4), .second, .val (.int p5), .val (.int p6), .val (.long P0), .second, .val (.long P1), .second, .val (.long P2), .second, .val (.long DM), .second, .val (.int (Int32.ofNat n)), .val (.int (Int32.ofNat k)), .val (.long Q0), .second, .val (.long Q1), .second, .val (.long Q2), .second, .val (.ref ra), .val (.ref b7), .unset, .unset, .unset, .unset, .unset, .unset, .unset, .unset, .unset, .unset, .unset, .unset, .unset, .unset] [(.int (1 : Int32)), (.ref b7)])) _
    refine XS.lload X8.here hx rfl (hb hby at_153) rfl ?_
    show Steps p.tables e below (T8.setTop (mkF m 155 #[.val (.long q1), .second, .val (.long q2), .second, .val (.long q3), .second, .val (.long q4), .second, .val (.int p5), .val (.int p6), .val (.long P0), .second, .val (.long P1), .second, .val (.long P2), .second, .val (.long DM), .second, .val (.int (Int32.ofNat n)), .val (.int (Int32.ofNat k)), .val (.long Q0), .second, .val (.long Q1), .second, .val (.long Q2), .second, .val (.ref ra), .val (.ref b7), .unset, .unset, .unset, .unset, .unset, .unset, .unset, .unset, .unset, .unset, .unset, .unset, .unset, .unset] [(.long Q1), (.int (1 : Int32)), (.ref b7)])) _
    refine st9 _ ?_
    show Steps p.tables e below (T9.setTop (mkF m 156 #[.val (.long q1), .second, .val (.long q2), .second, .val (.long q3), .second, .val (.long q4), .second, .val (.int p5), .val (.int p6), .val (.long P0), .second, .val (.long P1), .second, .val (.long P2), .second, .val (.long DM), .second, .val (.int (Int32.ofNat n)), .val (.int (Int32.ofNat k)), .val (.long Q0), .second, .val (.long Q1), .second, .val (.long Q2), .second, .val (.ref ra), .val (.ref b7), .unset, .unset, .unset, .unset, .unset, .unset, .unset, .unset, .unset, .unset, .unset, .unset, .unset, .unset] [])) _
    refine XS.iload X9.here hx rfl (hb hby at_156) rfl ?_
    show Steps p.tables e below (T9.setTop (mkF m 158 #[.val (.long q1), .second, .val (.long q2), .second, .val (.long q3), .second, .val (.long q4), .second, .val (.int p5), .val (.int p6), .val (.long P0), .second, .val (.long P1), .second, .val (.long P2), .second, .val (.long DM), .second, .val (.int (Int32.ofNat n)), .val (.int (Int32.ofNat k)), .val (.long Q0), .second, .val (.long Q1), .second, .val (.long Q2), .second, .val (.ref ra), .val (.ref b7), .unset, .unset, .unset, .unset, .unset, .unset, .unset, .unset, .unset, .unset, .unset, .unset, .unset, .unset] [(.int (Int32.ofNat k))])) _
    refine XS.iconst X9.here hx rfl (hb hby at_158) ?_
    show Steps p.tables e below (T9.setTop (mkF m 159 #[.val (.long q1), .second, .val (.long q2), .second, .val (.long q3), .second, .val (.long q4), .second, .val (.int p5), .val (.int p6), .val (.long P0), .second, .val (.long P1), .second, .val (.long P2), .second, .val (.long DM), .second, .val (.int (Int32.ofNat n)), .val (.int (Int32.ofNat k)), .val (.long Q0), .second, .val (.long Q1), .second, .val (.long Q2), .second, .val (.ref ra), .val (.ref b7), .unset, .unset, .unset, .unset, .unset, .unset, .unset, .unset, .unset, .unset, .unset, .unset, .unset, .unset] [(.int (2 : Int32)), (.int (Int32.ofNat k))])) _
    refine XS.icmpNo X9.here hx rfl (hb hby at_159) rfl (tlt hc159).2.2.2 ?_
    show Steps p.tables e below (T9.setTop (mkF m 162 #[.val (.long q1), .second, .val (.long q2), .second, .val (.long q3), .second, .val (.long q4), .second, .val (.int p5), .val (.int p6), .val (.long P0), .second, .val (.long P1), .second, .val (.long P2), .second, .val (.long DM), .second, .val (.int (Int32.ofNat n)), .val (.int (Int32.ofNat k)), .val (.long Q0), .second, .val (.long Q1), .second, .val (.long Q2), .second, .val (.ref ra), .val (.ref b7), .unset, .unset, .unset, .unset, .unset, .unset, .unset, .unset, .unset, .unset, .unset, .unset, .unset, .unset] [])) _
    refine XS.aload X9.here hx rfl (hb hby at_162) rfl rfl ?_
    show Steps p.tables e below (T9.setTop (mkF m 164 #[.val (.long q1), .second, .val (.long q2), .second, .val (.long q3), .second, .val (.long q4), .second, .val (.int p5), .val (.int p6), .val (.long P0), .second, .val (.long P1), .second, .val (.long P2), .second, .val (.long DM), .second, .val (.int (Int32.ofNat n)), .val (.int (Int32.ofNat k)), .val (.long Q0), .second, .val (.long Q1), .second, .val (.long Q2), .second, .val (.ref ra), .val (.ref b7), .unset, .unset, .unset, .unset, .unset, .unset, .unset, .unset, .unset, .unset, .unset, .unset, .unset, .unset] [(.ref b7)])) _
    refine XS.iconst X9.here hx rfl (hb hby at_164) ?_
    show Steps p.tables e below (T9.setTop (mkF m 165 #[.val (.long q1), .second, .val (.long q2), .second, .val (.long q3), .second, .val (.long q4), .second, .val (.int p5), .val (.int p6), .val (.long P0), .second, .val (.long P1), .second, .val (.long P2), .second, .val (.long DM), .second, .val (.int (Int32.ofNat n)), .val (.int (Int32.ofNat k)), .val (.long Q0), .second, .val (.long Q1), .second, .val (.long Q2), .second, .val (.ref ra), .val (.ref b7), .unset, .unset, .unset, .unset, .unset, .unset, .unset, .unset, .unset, .unset, .unset, .unset, .unset, .unset] [(.int (2 : Int32)), (.ref b7)])) _
    refine XS.lload X9.here hx rfl (hb hby at_165) rfl ?_
    show Steps p.tables e below (T9.setTop (mkF m 167 #[.val (.long q1), .second, .val (.long q2), .second, .val (.long q3), .second, .val (.long q4), .second, .val (.int p5), .val (.int p6), .val (.long P0), .second, .val (.long P1), .second, .val (.long P2), .second, .val (.long DM), .second, .val (.int (Int32.ofNat n)), .val (.int (Int32.ofNat k)), .val (.long Q0), .second, .val (.long Q1), .second, .val (.long Q2), .second, .val (.ref ra), .val (.ref b7), .unset, .unset, .unset, .unset, .unset, .unset, .unset, .unset, .unset, .unset, .unset, .unset, .unset, .unset] [(.long Q2), (.int (2 : Int32)), (.ref b7)])) _
    refine st10 _ ?_
    exact kt
theorem own_s3 {p : Program} {l : Launch} {e : Env} {s : State} {m : MethodId} {args : Array Value} {below : List Frame} {meth : Method} {c : Code} {T0 : State} {locs : List Loc} {Z : State} {a0 : Array Value} {h0 : Heap} {n0 : Nat} (q1 q2 q3 q4 : Int64) (p5 p6 : Int32) (P0 P1 P2 DM : Int64) (n k : Nat) (Q0 Q1 Q2 : Int64) (ra : Addr)
    (X0 : Stand p l e room_1 s m args below meth c T0 locs 1 3) (hx : p.tables.exec = Jvm.exec) (hZ : Z.Warmed39 s.vm) (hw : ∀ d ∈ tables_1, d.before a0 Z = true) (hby : c.code = code) (hml : c.maxLocals = 42) (hown : s.vm.findClass "com/example/updrift/updrift/model/ReleaseNumberOfPinLaw" = some m.cls) (e0 : T0.heap = h0) (N0 : Fr n0 locs) (Z0 : n0 ≤ h0.size) (hnk : k ≤ 3) (h1k : 1 ≤ k) :
    ∃ (T' : State) (h' : Heap) (locs' : List Loc) (b7 : Addr), Stand p l e room_1 s m args below meth c T' locs' 2 6 ∧ T'.heap = h' ∧ Fr n0 locs' ∧ Keep h0 h' [] ∧ h0.size ≤ b7 ∧ Exa Z h' b7 "[J" ∧ own_L Z h' b7 k (own_f3 Q0 Q1 Q2) ∧
      ∀ target, Steps p.tables e below (T'.setTop (mkF m 168 #[.val (.long q1), .second, .val (.long q2), .second, .val (.long q3), .second, .val (.long q4), .second, .val (.int p5), .val (.int p6), .val (.long P0), .second, .val (.long P1), .second, .val (.long P2), .second, .val (.long DM), .second, .val (.int (Int32.ofNat n)), .val (.int (Int32.ofNat k)), .val (.long Q0), .second, .val (.long Q1), .second, .val (.long Q2), .second, .val (.ref ra), .val (.ref b7), .unset, .unset, .unset, .unset, .unset, .unset, .unset, .unset, .unset, .unset, .unset, .unset, .unset, .unset] [])) target → Steps p.tables e below (T0.setTop (mkF m 132 #[.val (.long q1), .second, .val (.long q2), .second, .val (.long q3), .second, .val (.long q4), .second, .val (.int p5), .val (.int p6), .val (.long P0), .second, .val (.long P1), .second, .val (.long P2), .second, .val (.long DM), .second, .val (.int (Int32.ofNat n)), .val (.int (Int32.ofNat k)), .val (.long Q0), .second, .val (.long Q1), .second, .val (.long Q2), .second, .val (.ref ra), .unset, .unset, .unset, .unset, .unset, .unset, .unset, .unset, .unset, .unset, .unset, .unset, .unset, .unset, .unset] [])) target := by
  obtain hr | hr | hr : k = 1 ∨ k = 2 ∨ k = 3 := by omega
  · exact own_s3_tt q1 q2 q3 q4 p5 p6 P0 P1 P2 DM n k Q0 Q1 Q2 ra X0 hx hZ hw hby hml hown e0 N0 Z0 hnk hr
  · exact own_s3_ft q1 q2 q3 q4 p5 p6 P0 P1 P2 DM n k Q0 Q1 Q2 ra X0 hx hZ hw hby hml hown e0 N0 Z0 hnk hr
  · exact own_s3_ff q1 q2 q3 q4 p5 p6 P0 P1 P2 DM n k Q0 Q1 Q2 ra X0 hx hZ hw hby hml hown e0 N0 Z0 hnk hr
theorem pd_0_1 : parseMethodDescriptor "([J)Lcom/example/updrift/updrift/model/ReleaseNumber;" = some ⟨[(.array .long)], some (.object "com/example/updrift/updrift/model/ReleaseNumber")⟩ := by decide +kernel
set_option maxRecDepth 65536 in
set_option maxHeartbeats 40000000 in
theorem own_s4 {p : Program} {l : Launch} {e : Env} {s : State} {m : MethodId} {args : Array Value} {below : List Frame} {meth : Method} {c : Code} {T0 : State} {locs : List Loc} {Z : State} {a0 : Array Value} {h0 : Heap} {n0 : Nat} (q1 q2 q3 q4 : Int64) (p5 p6 : Int32) (P0 P1 P2 DM : Int64) (n k : Nat) (Q0 Q1 Q2 : Int64) (ra qa : Addr)
    (X0 : Stand p l e room_1 s m args below meth c T0 locs 2 6) (hx : p.tables.exec = Jvm.exec) (hZ : Z.Warmed39 s.vm) (hw : ∀ d ∈ tables_1, d.before a0 Z = true) (hby : c.code = code) (hml : c.maxLocals = 42) (hown : s.vm.findClass "com/example/updrift/updrift/model/ReleaseNumberOfPinLaw" = some m.cls) (e0 : T0.heap = h0) (N0 : Fr n0 locs) (Z0 : n0 ≤ h0.size) (hnn : n ≤ 3) (h1n : 1 ≤ n) (hnk : k ≤ 3) (h1k : 1 ≤ k) (Va : own_L Z h0 ra n (own_f3 P0 P1 P2)) (Xa : Exa Z h0 ra "[J") (Vb : own_L Z h0 qa k (own_f3 Q0 Q1 Q2)) (Xb : Exa Z h0 qa "[J") (hpa : ∀ j, j < n → ¬ (lcmpW ((own_f3 P0 P1 P2) j) (0 : Int64) < (0 : Int32))) (hpb : ∀ j, j < k → ¬ (lcmpW ((own_f3 Q0 Q1 Q2) j) (0 : Int64) < (0 : Int32))) :
    ∃ (T' : State) (h' : Heap) (locs' : List Loc) (r q tr tq : Addr), Stand p l e room_1 s m args below meth c T' locs' 6 14 ∧ T'.heap = h' ∧ Fr n0 locs' ∧ Keep h0 h' [] ∧ h0.size ≤ r ∧ h0.size ≤ q ∧ h0.size ≤ tr ∧ h0.size ≤ tq ∧ Exa Z h' r "com/example/updrift/updrift/model/ReleaseNumber" ∧ Exa Z h' q "com/example/updrift/updrift/model/ReleaseNumber" ∧ Fld Z h' r "com/example/updrift/updrift/model/ReleaseNumber" "parts" "[J" (.ref tr) ∧ Fld Z h' q "com/example/updrift/updrift/model/ReleaseNumber" "parts" "[J" (.ref tq) ∧ own_L Z h' tr n (own_f3 P0 P1 P2) ∧ own_L Z h' tq k (own_f3 Q0 Q1 Q2) ∧
      ∀ target, Steps p.tables e below (T'.setTop (mkF m 182 #[.val (.long q1), .second, .val (.long q2), .second, .val (.long q3), .second, .val (.long q4), .second, .val (.int p5), .val (.int p6), .val (.long P0), .second, .val (.long P1), .second, .val (.long P2), .second, .val (.long DM), .second, .val (.int (Int32.ofNat n)), .val (.int (Int32.ofNat k)), .val (.long Q0), .second, .val (.long Q1), .second, .val (.long Q2), .second, .val (.ref ra), .val (.ref qa), .val (.ref r), .val (.ref q), .unset, .unset, .unset, .unset, .unset, .unset, .unset, .unset, .unset, .unset, .unset, .unset] [])) target → Steps p.tables e below (T0.setTop (mkF m 168 #[.val (.long q1), .second, .val (.long q2), .second, .val (.long q3), .second, .val (.long q4), .second, .val (.int p5), .val (.int p6), .val (.long P0), .second, .val (.long P1), .second, .val (.long P2), .second, .val (.long DM), .second, .val (.int (Int32.ofNat n)), .val (.int (Int32.ofNat k)), .val (.long Q0), .second, .val (.long Q1), .second, .val (.long Q2), .second, .val (.ref ra), .val (.ref qa), .unset, .unset, .unset, .unset, .unset, .unset, .unset, .unset, .unset, .unset, .unset, .unset, .unset, .unset] [])) target := by
  obtain ⟨_, _, ⟨T7, L7, k7, n7⟩, -, X7, ⟨Lc7, hQ7, l7, y7, z7⟩, st7⟩ := Jvm.LawKit.callS X0 hx (y := (⟨"com/example/updrift/updrift/model/ReleaseNumber", "of", "([J)Lcom/example/updrift/updrift/model/ReleaseNumber;"⟩ : MethodName)) hown (mvT hZ (hw _ (List.mem_of_getElem? (i := 6) rfl))) (mvT hZ (hw _ (List.mem_of_getElem? (i := 7) rfl))) (mvT hZ (hw _ (List.mem_of_getElem? (i := 8) rfl))) (mvT hZ (hw _ (List.mem_of_getElem? (i := 9) rfl))) (by decide) (backOf (W := 0) (rm2 l Z a0 hw [] ra n (own_f3 P0 P1 P2) h0 n0 Z0 hnn h1n Va Xa hpa) hZ (hw _ (List.mem_of_getElem? (i := 9) rfl)) (hw _ (List.mem_of_getElem? (i := 8) rfl)) (by decide) (by decide)) (g := (mkF m 170 #[.val (.long q1), .second, .val (.long q2), .second, .val (.long q3), .second, .val (.long q4), .second, .val (.int p5), .val (.int p6), .val (.long P0), .second, .val (.long P1), .second, .val (.long P2), .second, .val (.long DM), .second, .val (.int (Int32.ofNat n)), .val (.int (Int32.ofNat k)), .val (.long Q0), .second, .val (.long Q1), .second, .val (.long Q2), .second, .val (.ref ra), .val (.ref qa), .unset, .unset, .unset, .unset, .unset, .unset, .unset, .unset, .unset, .unset, .unset, .unset, .unset, .unset] [(.ref ra)])) rfl (by rw [hml]; rfl) (argsL := [(.ref ra)]) (rest := []) (lenOf pd_0_1 rfl) rfl (by show 2 * 0 + _ ≤ _; exact Nat.le_of_eq rfl) (hb hby at_170) (fun _ _ => ⟨rfl, e0, (by decide : 2 + 2 ≤ _), (by decide : 6 + 4 ≤ _)⟩)
  dsimp only [Pt.U, Pt.locs, Pt.cells, Pt.slots] at X7 l7 y7 z7 st7 hQ7
  subst l7 y7 z7
  obtain ⟨⟨r, tr, rfl, sr, str, Er, Fr_, Vr⟩, N7q, K7q⟩ := hQ7
  have N7 := Fr.app N0 N7q
  have z7q : n0 ≤ T7.heap.size := Nat.le_trans Z0 K7q.1
  obtain ⟨_, _, ⟨T8, L8, k8, n8⟩, -, X8, ⟨Lc8, hQ8, l8, y8, z8⟩, st8⟩ := Jvm.LawKit.callS X7 hx (y := (⟨"com/example/updrift/updrift/model/ReleaseNumber", "of", "([J)Lcom/example/updrift/updrift/model/ReleaseNumber;"⟩ : MethodName)) hown (mvT hZ (hw _ (List.mem_of_getElem? (i := 6) rfl))) (mvT hZ (hw _ (List.mem_of_getElem? (i := 7) rfl))) (mvT hZ (hw _ (List.mem_of_getElem? (i := 8) rfl))) (mvT hZ (hw _ (List.mem_of_getElem? (i := 9) rfl))) (by decide) (backOf (W := 0) (rm2 l Z a0 hw [] qa k (own_f3 Q0 Q1 Q2) T7.heap n0 z7q hnk h1k (Vb.keep K7q (by simp)) (Xb.keep K7q) hpb) hZ (hw _ (List.mem_of_getElem? (i := 9) rfl)) (hw _ (List.mem_of_getElem? (i := 8) rfl)) (by decide) (by decide)) (g := (mkF m 177 #[.val (.long q1), .second, .val (.long q2), .second, .val (.long q3), .second, .val (.long q4), .second, .val (.int p5), .val (.int p6), .val (.long P0), .second, .val (.long P1), .second, .val (.long P2), .second, .val (.long DM), .second, .val (.int (Int32.ofNat n)), .val (.int (Int32.ofNat k)), .val (.long Q0), .second, .val (.long Q1), .second, .val (.long Q2), .second, .val (.ref ra), .val (.ref qa), .val (.ref r), .unset, .unset, .unset, .unset, .unset, .unset, .unset, .unset, .unset, .unset, .unset, .unset, .unset] [(.ref qa)])) rfl (by rw [hml]; rfl) (argsL := [(.ref qa)]) (rest := []) (lenOf pd_0_1 rfl) rfl (by show 2 * 0 + _ ≤ _; exact Nat.le_of_eq rfl) (hb hby at_177) (fun _ _ => ⟨rfl, rfl, (by decide : 4 + 2 ≤ _), (by decide : 10 + 4 ≤ _)⟩)
  dsimp only [Pt.U, Pt.locs, Pt.cells, Pt.slots] at X8 l8 y8 z8 st8 hQ8
  subst l8 y8 z8
  obtain ⟨⟨q, tq, rfl, sq, stq, Eq, Fq, Vq⟩, N8q, K8q⟩ := hQ8
  have N8 := Fr.app N7 N8q
  have KK : Keep h0 T8.heap [] := K7q.trans K8q (fun x hx => by simp at hx)
  refine ⟨T8, _, _, r, q, tr, tq, X8, rfl, N8, KK, sr, Nat.le_trans K7q.1 sq, str, Nat.le_trans K7q.1 stq, Er.keep K8q, Eq, Fr_.keep K8q (by simp), Fq, Vr.keep K8q (by simp), Vq, fun target kt => ?_⟩
  show Steps p.tables e below (T0.setTop (mkF m 168 #[.val (.long q1), .second, .val (.long q2), .second, .val (.long q3), .second, .val (.long q4), .second, .val (.int p5), .val (.int p6), .val (.long P0), .second, .val (.long P1), .second, .val (.long P2), .second, .val (.long DM), .second, .val (.int (Int32.ofNat n)), .val (.int (Int32.ofNat k)), .val (.long Q0), .second, .val (.long Q1), .second, .val (.long Q2), .second, .val (.ref ra), .val (.ref qa), .unset, .unset, .unset, .unset, .unset, .unset, .unset, .unset, .unset, .unset, .unset, .unset, .unset, .unset] [])) _
  refine XS.aload X0.here hx rfl (hb hby at_168) rfl rfl ?_
  show Steps p.tables e below (T0.setTop (mkF m 170 #[.val (.long q1), .second, .val (.long q2), .second, .val (.long q3), .second, .val (.long q4), .second, .val (.int p5), .val (.int p6), .val (.long P0), .second, .val (.long P1), .second, .val (.long P2), .second, .val (.long DM), .second, .val (.int (Int32.ofNat n)), .val (.int (Int32.ofNat k)), .val (.long Q0), .second, .val (.long Q1), .second, .val (.long Q2), .second, .val (.ref ra), .val (.ref qa), .unset, .unset, .unset, .unset, .unset, .unset, .unset, .unset, .unset, .unset, .unset, .unset, .unset, .unset] [(.ref ra)])) _
  refine st7 _ ?_
  show Steps p.tables e below (T7.setTop (mkF m 173 #[.val (.long q1), .second, .val (.long q2), .second, .val (.long q3), .second, .val (.long q4), .second, .val (.int p5), .val (.int p6), .val (.long P0), .second, .val (.long P1), .second, .val (.long P2), .second, .val (.long DM), .second, .val (.int (Int32.ofNat n)), .val (.int (Int32.ofNat k)), .val (.long Q0), .second, .val (.long Q1), .second, .val (.long Q2), .second, .val (.ref ra), .val (.ref qa), .unset, .unset, .unset, .unset, .unset, .unset, .unset, .unset, .unset, .unset, .unset, .unset, .unset, .unset] [(.ref r)])) _
  refine XS.astore X7.here hx rfl (hb hby at_173) rfl rfl (l' := #[.val (.long q1), .second, .val (.long q2), .second, .val (.long q3), .second, .val (.long q4), .second, .val (.int p5), .val (.int p6), .val (.long P0), .second, .val (.long P1), .second, .val (.long P2), .second, .val (.long DM), .second, .val (.int (Int32.ofNat n)), .val (.int (Int32.ofNat k)), .val (.long Q0), .second, .val (.long Q1), .second, .val (.long Q2), .second, .val (.ref ra), .val (.ref qa), .val (.ref r), .unset, .unset, .unset, .unset, .unset, .unset, .unset, .unset, .unset, .unset, .unset, .unset, .unset]) rfl ?_
  show Steps p.tables e below (T7.setTop (mkF m 175 #[.val (.long q1), .second, .val (.long q2), .second, .val (.long q3), .second, .val (.long q4), .second, .val (.int p5), .val (.int p6), .val (.long P0), .second, .val (.long P1), .second, .val (.long P2), .second, .val (.long DM), .second, .val (.int (Int32.ofNat n)), .val (.int (Int32.ofNat k)), .val (.long Q0), .second, .val (.long Q1), .second, .val (.long Q2), .second, .val (.ref ra), .val (.ref qa), .val (.ref r), .unset, .unset, .unset, .unset, .unset, .unset, .unset, .unset, .unset, .unset, .unset, .unset, .unset] [])) _
  refine XS.aload X7.here hx rfl (hb hby at_175) rfl rfl ?_
  show Steps p.tables e below (T7.setTop (mkF m 177 #[.val (.long q1), .second, .val (.long q2), .second, .val (.long q3), .second, .val (.long q4), .second, .val (.int p5), .val (.int p6), .val (.long P0), .second, .val (.long P1), .second, .val (.long P2), .second, .val (.long DM), .second, .val (.int (Int32.ofNat n)), .val (.int (Int32.ofNat k)), .val (.long Q0), .second, .val (.long Q1), .second, .val (.long Q2), .second, .val (.ref ra), .val (.ref qa), .val (.ref r), .unset, .unset, .unset, .unset, .unset, .unset, .unset, .unset, .unset, .unset, .unset, .unset, .unset] [(.ref qa)])) _
  refine st8 _ ?_
  show Steps p.tables e below (T8.setTop (mkF m 180 #[.val (.long q1), .second, .val (.long q2), .second, .val (.long q3), .second, .val (.long q4), .second, .val (.int p5), .val (.int p6), .val (.long P0), .second, .val (.long P1), .second, .val (.long P2), .second, .val (.long DM), .second, .val (.int (Int32.ofNat n)), .val (.int (Int32.ofNat k)), .val (.long Q0), .second, .val (.long Q1), .second, .val (.long Q2), .second, .val (.ref ra), .val (.ref qa), .val (.ref r), .unset, .unset, .unset, .unset, .unset, .unset, .unset, .unset, .unset, .unset, .unset, .unset, .unset] [(.ref q)])) _
  refine XS.astore X8.here hx rfl (hb hby at_180) rfl rfl (l' := #[.val (.long q1), .second, .val (.long q2), .second, .val (.long q3), .second, .val (.long q4), .second, .val (.int p5), .val (.int p6), .val (.long P0), .second, .val (.long P1), .second, .val (.long P2), .second, .val (.long DM), .second, .val (.int (Int32.ofNat n)), .val (.int (Int32.ofNat k)), .val (.long Q0), .second, .val (.long Q1), .second, .val (.long Q2), .second, .val (.ref ra), .val (.ref qa), .val (.ref r), .val (.ref q), .unset, .unset, .unset, .unset, .unset, .unset, .unset, .unset, .unset, .unset, .unset, .unset]) rfl ?_
  exact kt
set_option maxRecDepth 65536 in
set_option maxHeartbeats 40000000 in
theorem own_s4b {p : Program} {l : Launch} {e : Env} {s : State} {m : MethodId} {args : Array Value} {below : List Frame} {meth : Method} {c : Code} {T0 : State} {locs : List Loc} {Z : State} {a0 : Array Value} {h0 : Heap} {n0 : Nat} (q1 q2 q3 q4 : Int64) (p5 p6 : Int32) (P0 P1 P2 DM : Int64) (n k : Nat) (Q0 Q1 Q2 : Int64) (ra qa r q : Addr)
    (X0 : Stand p l e room_1 s m args below meth c T0 locs 6 14) (hx : p.tables.exec = Jvm.exec) (hZ : Z.Warmed39 s.vm) (hw : ∀ d ∈ tables_1, d.before a0 Z = true) (hby : c.code = code) (hml : c.maxLocals = 42) (hown : s.vm.findClass "com/example/updrift/updrift/model/ReleaseNumberOfPinLaw" = some m.cls) (e0 : T0.heap = h0) (N0 : Fr n0 locs) (Z0 : n0 ≤ h0.size) (hnn : n ≤ 3) (h1n : 1 ≤ n) (hnk : k ≤ 3) (h1k : 1 ≤ k) (Va : own_L Z h0 ra n (own_f3 P0 P1 P2)) (Vb : own_L Z h0 qa k (own_f3 Q0 Q1 Q2)) (hne : ra ≠ qa) (g_ra : n0 ≤ ra) (g_qa : n0 ≤ qa) :
    ∃ (T' : State) (h' : Heap) (locs' : List Loc), Stand p l e room_1 s m args below meth c T' locs' 6 14 ∧ T'.heap = h' ∧ Fr n0 locs' ∧ Keep h0 h' [ra, qa] ∧
      ∀ target, Steps p.tables e below (T'.setTop (mkF m 208 #[.val (.long q1), .second, .val (.long q2), .second, .val (.long q3), .second, .val (.long q4), .second, .val (.int p5), .val (.int p6), .val (.long P0), .second, .val (.long P1), .second, .val (.long P2), .second, .val (.long DM), .second, .val (.int (Int32.ofNat n)), .val (.int (Int32.ofNat k)), .val (.long Q0), .second, .val (.long Q1), .second, .val (.long Q2), .second, .val (.ref ra), .val (.ref qa), .val (.ref r), .val (.ref q), .unset, .unset, .unset, .unset, .unset, .unset, .unset, .unset, .unset, .unset, .unset, .unset] [])) target → Steps p.tables e below (T0.setTop (mkF m 182 #[.val (.long q1), .second, .val (.long q2), .second, .val (.long q3), .second, .val (.long q4), .second, .val (.int p5), .val (.int p6), .val (.long P0), .second, .val (.long P1), .second, .val (.long P2), .second, .val (.long DM), .second, .val (.int (Int32.ofNat n)), .val (.int (Int32.ofNat k)), .val (.long Q0), .second, .val (.long Q1), .second, .val (.long Q2), .second, .val (.ref ra), .val (.ref qa), .val (.ref r), .val (.ref q), .unset, .unset, .unset, .unset, .unset, .unset, .unset, .unset, .unset, .unset, .unset, .unset] [])) target := by
  obtain ⟨cl_ra, Ar_ra, S_ra, H_ra⟩ := Va
  obtain ⟨cl_qa, Ar_qa, S_qa, H_qa⟩ := Vb
  have hk1 : (Int32.ofNat k) - (1 : Int32) = Int32.ofNat (k - 1) := by
    obtain rfl | rfl | rfl : k = 1 ∨ k = 2 ∨ k = 3 := by omega
    · rfl
    · rfl
    · rfl
  have hk2 : ((Int32.ofNat k) - (1 : Int32)).toNatClampNeg = k - 1 := by rw [hk1]; exact own_n32 (by omega)
  have hin188 : ¬ ((0 : Int32) < 0 ∨ cl_ra.slots.size ≤ ((0 : Int32)).toNatClampNeg) := by
    rw [S_ra]; exact fun q => q.elim (by decide) (fun q => by have q2 : n ≤ 0 := q; omega)
  have hin191 := hin188
  have hat188 : cl_ra.slots[((0 : Int32)).toNatClampNeg]? = some (.long ((own_f3 P0 P1 P2) 0)) := H_ra 0 (by omega)
  have hin204 : ¬ (((Int32.ofNat k) - (1 : Int32)) < 0 ∨ cl_qa.slots.size ≤ (((Int32.ofNat k) - (1 : Int32))).toNatClampNeg) := by
    rw [S_qa, hk2, hk1]; exact fun q => q.elim (own_nn (by omega)) (fun q => by omega)
  have hin207 := hin204
  have hat204 : cl_qa.slots[(((Int32.ofNat k) - (1 : Int32))).toNatClampNeg]? = some (.long ((own_f3 Q0 Q1 Q2) (k - 1))) := by rw [hk2]; exact H_qa (k - 1) (by omega)
  obtain ⟨T8, h8, X8, e8, W8, st8⟩ := stJ X0 hx hZ e0 Ar_ra (j := (0 : Int32)) hin191 (g := (mkF m 191 #[.val (.long q1), .second, .val (.long q2), .second, .val (.long q3), .second, .val (.long q4), .second, .val (.int p5), .val (.int p6), .val (.long P0), .second, .val (.long P1), .second, .val (.long P2), .second, .val (.long DM), .second, .val (.int (Int32.ofNat n)), .val (.int (Int32.ofNat k)), .val (.long Q0), .second, .val (.long Q1), .second, .val (.long Q2), .second, .val (.ref ra), .val (.ref qa), .val (.ref r), .val (.ref q), .unset, .unset, .unset, .unset, .unset, .unset, .unset, .unset, .unset, .unset, .unset, .unset] [(.long (((own_f3 P0 P1 P2) 0) ^^^ (1 : Int64))), (.int (0 : Int32)), (.ref ra)])) rfl rfl (hb hby at_191)
  have N8 := Fr.snoc X8 N0 g_ra
  have K8 : Keep h0 h8 [ra, qa] := (Keep.refl h0 [ra, qa]).wr W8 (Or.inl (List.mem_of_getElem? (i := 0) rfl))
  have Ar_qa := Ar_qa.other W8 hne.symm
  obtain ⟨T10, h10, X10, e10, W10, st10⟩ := stJ X8 hx hZ e8 Ar_qa (j := ((Int32.ofNat k) - (1 : Int32))) hin207 (g := (mkF m 207 #[.val (.long q1), .second, .val (.long q2), .second, .val (.long q3), .second, .val (.long q4), .second, .val (.int p5), .val (.int p6), .val (.long P0), .second, .val (.long P1), .second, .val (.long P2), .second, .val (.long DM), .second, .val (.int (Int32.ofNat n)), .val (.int (Int32.ofNat k)), .val (.long Q0), .second, .val (.long Q1), .second, .val (.long Q2), .second, .val (.ref ra), .val (.ref qa), .val (.ref r), .val (.ref q), .unset, .unset, .unset, .unset, .unset, .unset, .unset, .unset, .unset, .unset, .unset, .unset] [(.long (((own_f3 Q0 Q1 Q2) (k - 1)) ^^^ (1 : Int64))), (.int ((Int32.ofNat k) - (1 : Int32))), (.ref qa)])) rfl rfl (hb hby at_207)
  have N10 := Fr.snoc X10 N8 g_qa
  have K10 : Keep h0 h10 [ra, qa] := K8.wr W10 (Or.inl (List.mem_of_getElem? (i := 1) rfl))
  refine ⟨T10, _, _, X10, e10, N10, K10, fun target kt => ?_⟩
  show Steps p.tables e below (T0.setTop (mkF m 182 #[.val (.long q1), .second, .val (.long q2), .second, .val (.long q3), .second, .val (.long q4), .second, .val (.int p5), .val (.int p6), .val (.long P0), .second, .val (.long P1), .second, .val (.long P2), .second, .val (.long DM), .second, .val (.int (Int32.ofNat n)), .val (.int (Int32.ofNat k)), .val (.long Q0), .second, .val (.long Q1), .second, .val (.long Q2), .second, .val (.ref ra), .val (.ref qa), .val (.ref r), .val (.ref q), .unset, .unset, .unset, .unset, .unset, .unset, .unset, .unset, .unset, .unset, .unset, .unset] [])) _
  refine XS.aload X0.here hx rfl (hb hby at_182) rfl rfl ?_
  show Steps p.tables e below (T0.setTop (mkF m 184 #[.val (.long q1), .second, .val (.long q2), .second, .val (.long q3), .second, .val (.long q4), .second, .val (.int p5), .val (.int p6), .val (.long P0), .second, .val (.long P1), .second, .val (.long P2), .second, .val (.long DM), .second, .val (.int (Int32.ofNat n)), .val (.int (Int32.ofNat k)), .val (.long Q0), .second, .val (.long Q1), .second, .val (.long Q2), .second, .val (.ref ra), .val (.ref qa), .val (.ref r), .val (.ref q), .unset, .unset, .unset, .unset, .unset, .unset, .unset, .unset, .unset, .unset, .unset, .unset] [(.ref ra)])) _
  refine XS.iconst X0.here hx rfl (hb hby at_184) ?_
  show Steps p.tables e below (T0.setTop (mkF m 185 #[.val (.long q1), .second, .val (.long q2), .second, .val (.long q3), .second, .val (.long q4), .second, .val (.int p5), .val (.int p6), .val (.long P0), .second, .val (.long P1), .second, .val (.long P2), .second, .val (.long DM), .second, .val (.int (Int32.ofNat n)), .val (.int (Int32.ofNat k)), .val (.long Q0), .second, .val (.long Q1), .second, .val (.long Q2), .second, .val (.ref ra), .val (.ref qa), .val (.ref r), .val (.ref q), .unset, .unset, .unset, .unset, .unset, .unset, .unset, .unset, .unset, .unset, .unset, .unset] [(.int (0 : Int32)), (.ref ra)])) _
  refine XS.aload X0.here hx rfl (hb hby at_185) rfl rfl ?_
  show Steps p.tables e below (T0.setTop (mkF m 187 #[.val (.long q1), .second, .val (.long q2), .second, .val (.long q3), .second, .val (.long q4), .second, .val (.int p5), .val (.int p6), .val (.long P0), .second, .val (.long P1), .second, .val (.long P2), .second, .val (.long DM), .second, .val (.int (Int32.ofNat n)), .val (.int (Int32.ofNat k)), .val (.long Q0), .second, .val (.long Q1), .second, .val (.long Q2), .second, .val (.ref ra), .val (.ref qa), .val (.ref r), .val (.ref q), .unset, .unset, .unset, .unset, .unset, .unset, .unset, .unset, .unset, .unset, .unset, .unset] [(.ref ra), (.int (0 : Int32)), (.ref ra)])) _
  refine XS.iconst X0.here hx rfl (hb hby at_187) ?_
  show Steps p.tables e below (T0.setTop (mkF m 188 #[.val (.long q1), .second, .val (.long q2), .second, .val (.long q3), .second, .val (.long q4), .second, .val (.int p5), .val (.int p6), .val (.long P0), .second, .val (.long P1), .second, .val (.long P2), .second, .val (.long DM), .second, .val (.int (Int32.ofNat n)), .val (.int (Int32.ofNat k)), .val (.long Q0), .second, .val (.long Q1), .second, .val (.long Q2), .second, .val (.ref ra), .val (.ref qa), .val (.ref r), .val (.ref q), .unset, .unset, .unset, .unset, .unset, .unset, .unset, .unset, .unset, .unset, .unset, .unset] [(.int (0 : Int32)), (.ref ra), (.int (0 : Int32)), (.ref ra)])) _
  refine X0.laload hx (j := (0 : Int32)) (v := (.long ((own_f3 P0 P1 P2) 0))) (by rw [e0]; exact Ar_ra.1) (State.isArrayOf_alike hZ.alike Ar_ra.2.1) Ar_ra.2.2 hin188 hat188 (g := (mkF m 188 #[.val (.long q1), .second, .val (.long q2), .second, .val (.long q3), .second, .val (.long q4), .second, .val (.int p5), .val (.int p6), .val (.long P0), .second, .val (.long P1), .second, .val (.long P2), .second, .val (.long DM), .second, .val (.int (Int32.ofNat n)), .val (.int (Int32.ofNat k)), .val (.long Q0), .second, .val (.long Q1), .second, .val (.long Q2), .second, .val (.ref ra), .val (.ref qa), .val (.ref r), .val (.ref q), .unset, .unset, .unset, .unset, .unset, .unset, .unset, .unset, .unset, .unset, .unset, .unset] [(.int (0 : Int32)), (.ref ra), (.int (0 : Int32)), (.ref ra)])) rfl rfl (hb hby at_188) _ ?_
  show Steps p.tables e below (T0.setTop (mkF m 189 #[.val (.long q1), .second, .val (.long q2), .second, .val (.long q3), .second, .val (.long q4), .second, .val (.int p5), .val (.int p6), .val (.long P0), .second, .val (.long P1), .second, .val (.long P2), .second, .val (.long DM), .second, .val (.int (Int32.ofNat n)), .val (.int (Int32.ofNat k)), .val (.long Q0), .second, .val (.long Q1), .second, .val (.long Q2), .second, .val (.ref ra), .val (.ref qa), .val (.ref r), .val (.ref q), .unset, .unset, .unset, .unset, .unset, .unset, .unset, .unset, .unset, .unset, .unset, .unset] [(.long ((own_f3 P0 P1 P2) 0)), (.int (0 : Int32)), (.ref ra)])) _
  refine XS.lconst X0.here hx rfl (hb hby at_189) ?_
  show Steps p.tables e below (T0.setTop (mkF m 190 #[.val (.long q1), .second, .val (.long q2), .second, .val (.long q3), .second, .val (.long q4), .second, .val (.int p5), .val (.int p6), .val (.long P0), .second, .val (.long P1), .second, .val (.long P2), .second, .val (.long DM), .second, .val (.int (Int32.ofNat n)), .val (.int (Int32.ofNat k)), .val (.long Q0), .second, .val (.long Q1), .second, .val (.long Q2), .second, .val (.ref ra), .val (.ref qa), .val (.ref r), .val (.ref q), .unset, .unset, .unset, .unset, .unset, .unset, .unset, .unset, .unset, .unset, .unset, .unset] [(.long (1 : Int64)), (.long ((own_f3 P0 P1 P2) 0)), (.int (0 : Int32)), (.ref ra)])) _
  refine XS.lxor X0.here hx rfl (hb hby at_190) rfl ?_
  show Steps p.tables e below (T0.setTop (mkF m 191 #[.val (.long q1), .second, .val (.long q2), .second, .val (.long q3), .second, .val (.long q4), .second, .val (.int p5), .val (.int p6), .val (.long P0), .second, .val (.long P1), .second, .val (.long P2), .second, .val (.long DM), .second, .val (.int (Int32.ofNat n)), .val (.int (Int32.ofNat k)), .val (.long Q0), .second, .val (.long Q1), .second, .val (.long Q2), .second, .val (.ref ra), .val (.ref qa), .val (.ref r), .val (.ref q), .unset, .unset, .unset, .unset, .unset, .unset, .unset, .unset, .unset, .unset, .unset, .unset] [(.long (((own_f3 P0 P1 P2) 0) ^^^ (1 : Int64))), (.int (0 : Int32)), (.ref ra)])) _
  refine st8 _ ?_
  show Steps p.tables e below (T8.setTop (mkF m 192 #[.val (.long q1), .second, .val (.long q2), .second, .val (.long q3), .second, .val (.long q4), .second, .val (.int p5), .val (.int p6), .val (.long P0), .second, .val (.long P1), .second, .val (.long P2), .second, .val (.long DM), .second, .val (.int (Int32.ofNat n)), .val (.int (Int32.ofNat k)), .val (.long Q0), .second, .val (.long Q1), .second, .val (.long Q2), .second, .val (.ref ra), .val (.ref qa), .val (.ref r), .val (.ref q), .unset, .unset, .unset, .unset, .unset, .unset, .unset, .unset, .unset, .unset, .unset, .unset] [])) _
  refine XS.aload X8.here hx rfl (hb hby at_192) rfl rfl ?_
  show Steps p.tables e below (T8.setTop (mkF m 194 #[.val (.long q1), .second, .val (.long q2), .second, .val (.long q3), .second, .val (.long q4), .second, .val (.int p5), .val (.int p6), .val (.long P0), .second, .val (.long P1), .second, .val (.long P2), .second, .val (.long DM), .second, .val (.int (Int32.ofNat n)), .val (.int (Int32.ofNat k)), .val (.long Q0), .second, .val (.long Q1), .second, .val (.long Q2), .second, .val (.ref ra), .val (.ref qa), .val (.ref r), .val (.ref q), .unset, .unset, .unset, .unset, .unset, .unset, .unset, .unset, .unset, .unset, .unset, .unset] [(.ref qa)])) _
  refine XS.iload X8.here hx rfl (hb hby at_194) rfl ?_
  show Steps p.tables e below (T8.setTop (mkF m 196 #[.val (.long q1), .second, .val (.long q2), .second, .val (.long q3), .second, .val (.long q4), .second, .val (.int p5), .val (.int p6), .val (.long P0), .second, .val (.long P1), .second, .val (.long P2), .second, .val (.long DM), .second, .val (.int (Int32.ofNat n)), .val (.int (Int32.ofNat k)), .val (.long Q0), .second, .val (.long Q1), .second, .val (.long Q2), .second, .val (.ref ra), .val (.ref qa), .val (.ref r), .val (.ref q), .unset, .unset, .unset, .unset, .unset, .unset, .unset, .unset, .unset, .unset, .unset, .unset] [(.int (Int32.ofNat k)), (.ref qa)])) _
  refine XS.iconst X8.here hx rfl (hb hby at_196) ?_
  show Steps p.tables e below (T8.setTop (mkF m 197 #[.val (.long q1), .second, .val (.long q2), .second, .val (.long q3), .second, .val (.long q4), .second, .val (.int p5), .val (.int p6), .val (.long P0), .second, .val (.long P1), .second, .val (.long P2), .second, .val (.long DM), .second, .val (.int (Int32.ofNat n)), .val (.int (Int32.ofNat k)), .val (.long Q0), .second, .val (.long Q1), .second, .val (.long Q2), .second, .val (.ref ra), .val (.ref qa), .val (.ref r), .val (.ref q), .unset, .unset, .unset, .unset, .unset, .unset, .unset, .unset, .unset, .unset, .unset, .unset] [(.int (1 : Int32)), (.int (Int32.ofNat k)), (.ref qa)])) _
  refine XS.isub X8.here hx rfl (hb hby at_197) rfl ?_
  show Steps p.tables e below (T8.setTop (mkF m 198 #[.val (.long q1), .second, .val (.long q2), .second, .val (.long q3), .second, .val (.long q4), .second, .val (.int p5), .val (.int p6), .val (.long P0), .second, .val (.long P1), .second, .val (.long P2), .second, .val (.long DM), .second, .val (.int (Int32.ofNat n)), .val (.int (Int32.ofNat k)), .val (.long Q0), .second, .val (.long Q1), .second, .val (.long Q2), .second, .val (.ref ra), .val (.ref qa), .val (.ref r), .val (.ref q), .unset, .unset, .unset, .unset, .unset, .unset, .unset, .unset, .unset, .unset, .unset, .unset] [(.int ((Int32.ofNat k) - (1 : Int32))), (.ref qa)])) _
  refine XS.aload X8.here hx rfl (hb hby at_198) rfl rfl ?_
  show Steps p.tables e below (T8.setTop (mkF m 200 #[.val (.long q1), .second, .val (.long q2), .second, .val (.long q3), .second, .val (.long q4), .second, .val (.int p5), .val (.int p6), .val (.long P0), .second, .val (.long P1), .second, .val (.long P2), .second, .val (.long DM), .second, .val (.int (Int32.ofNat n)), .val (.int (Int32.ofNat k)), .val (.long Q0), .second, .val (.long Q1), .second, .val (.long Q2), .second, .val (.ref ra), .val (.ref qa), .val (.ref r), .val (.ref q), .unset, .unset, .unset, .unset, .unset, .unset, .unset, .unset, .unset, .unset, .unset, .unset] [(.ref qa), (.int ((Int32.ofNat k) - (1 : Int32))), (.ref qa)])) _
  refine XS.iload X8.here hx rfl (hb hby at_200) rfl ?_
  show Steps p.tables e below (T8.setTop (mkF m 202 #[.val (.long q1), .second, .val (.long q2), .second, .val (.long q3), .second, .val (.long q4), .second, .val (.int p5), .val (.int p6), .val (.long P0), .second, .val (.long P1), .second, .val (.long P2), .second, .val (.long DM), .second, .val (.int (Int32.ofNat n)), .val (.int (Int32.ofNat k)), .val (.long Q0), .second, .val (.long Q1), .second, .val (.long Q2), .second, .val (.ref ra), .val (.ref qa), .val (.ref r), .val (.ref q), .unset, .unset, .unset, .unset, .unset, .unset, .unset, .unset, .unset, .unset, .unset, .unset] [(.int (Int32.ofNat k)), (.ref qa), (.int ((Int32.ofNat k) - (1 : Int32))), (.ref qa)])) _
  refine XS.iconst X8.here hx rfl (hb hby at_202) ?_
  show Steps p.tables e below (T8.setTop (mkF m 203 #[.val (.long q1), .second, .val (.long q2), .second, .val (.long q3), .second, .val (.long q4), .second, .val (.int p5), .val (.int p6), .val (.long P0), .second, .val (.long P1), .second, .val (.long P2), .second, .val (.long DM), .second, .val (.int (Int32.ofNat n)), .val (.int (Int32.ofNat k)), .val (.long Q0), .second, .val (.long Q1), .second, .val (.long Q2), .second, .val (.ref ra), .val (.ref qa), .val (.ref r), .val (.ref q), .unset, .unset, .unset, .unset, .unset, .unset, .unset, .unset, .unset, .unset, .unset, .unset] [(.int (1 : Int32)), (.int (Int32.ofNat k)), (.ref qa), (.int ((Int32.ofNat k) - (1 : Int32))), (.ref qa)])) _
  refine XS.isub X8.here hx rfl (hb hby at_203) rfl ?_
  show Steps p.tables e below (T8.setTop (mkF m 204 #[.val (.long q1), .second, .val (.long q2), .second, .val (.long q3), .second, .val (.long q4), .second, .val (.int p5), .val (.int p6), .val (.long P0), .second, .val (.long P1), .second, .val (.long P2), .second, .val (.long DM), .second, .val (.int (Int32.ofNat n)), .val (.int (Int32.ofNat k)), .val (.long Q0), .second, .val (.long Q1), .second, .val (.long Q2), .second, .val (.ref ra), .val (.ref qa), .val (.ref r), .val (.ref q), .unset, .unset, .unset, .unset, .unset, .unset, .unset, .unset, .unset, .unset, .unset, .unset] [(.int ((Int32.ofNat k) - (1 : Int32))), (.ref qa), (.int ((Int32.ofNat k) - (1 : Int32))), (.ref qa)])) _
  refine X8.laload hx (j := ((Int32.ofNat k) - (1 : Int32))) (v := (.long ((own_f3 Q0 Q1 Q2) (k - 1)))) (by rw [e8]; exact Ar_qa.1) (State.isArrayOf_alike hZ.alike Ar_qa.2.1) Ar_qa.2.2 hin204 hat204 (g := (mkF m 204 #[.val (.long q1), .second, .val (.long q2), .second, .val (.long q3), .second, .val (.long q4), .second, .val (.int p5), .val (.int p6), .val (.long P0), .second, .val (.long P1), .second, .val (.long P2), .second, .val (.long DM), .second, .val (.int (Int32.ofNat n)), .val (.int (Int32.ofNat k)), .val (.long Q0), .second, .val (.long Q1), .second, .val (.long Q2), .second, .val (.ref ra), .val (.ref qa), .val (.ref r), .val (.ref q), .unset, .unset, .unset, .unset, .unset, .unset, .unset, .unset, .unset, .unset, .unset, .unset] [(.int ((Int32.ofNat k) - (1 : Int32))), (.ref qa), (.int ((Int32.ofNat k) - (1 : Int32))), (.ref qa)])) rfl rfl (hb hby at_204) _ ?_
  show Steps p.tables e below (T8.setTop (mkF m 205 #[.val (.long q1), .second, .val (.long q2), .second, .val (.long q3), .second, .val (.long q4), .second, .val (.int p5), .val (.int p6), .val (.long P0), .second, .val (.long P1), .second, .val (.long P2), .second, .val (.long DM), .second, .val (.int (Int32.ofNat n)), .val (.int (Int32.ofNat k)), .val (.long Q0), .second, .val (.long Q1), .second, .val (.long Q2), .second, .val (.ref ra), .val (.ref qa), .val (.ref r), .val (.ref q), .unset, .unset, .unset, .unset, .unset, .unset, .unset, .unset, .unset, .unset, .unset, .unset] [(.long ((own_f3 Q0 Q1 Q2) (k - 1))), (.int ((Int32.ofNat k) - (1 : Int32))), (.ref qa)])) _
  refine XS.lconst X8.here hx rfl (hb hby at_205) ?_
  show Steps p.tables e below (T8.setTop (mkF m 206 #[.val (.long q1), .second, .val (.long q2), .second, .val (.long q3), .second, .val (.long q4), .second, .val (.int p5), .val (.int p6), .val (.long P0), .second, .val (.long P1), .second, .val (.long P2), .second, .val (.long DM), .second, .val (.int (Int32.ofNat n)), .val (.int (Int32.ofNat k)), .val (.long Q0), .second, .val (.long Q1), .second, .val (.long Q2), .second, .val (.ref ra), .val (.ref qa), .val (.ref r), .val (.ref q), .unset, .unset, .unset, .unset, .unset, .unset, .unset, .unset, .unset, .unset, .unset, .unset] [(.long (1 : Int64)), (.long ((own_f3 Q0 Q1 Q2) (k - 1))), (.int ((Int32.ofNat k) - (1 : Int32))), (.ref qa)])) _
  refine XS.lxor X8.here hx rfl (hb hby at_206) rfl ?_
  show Steps p.tables e below (T8.setTop (mkF m 207 #[.val (.long q1), .second, .val (.long q2), .second, .val (.long q3), .second, .val (.long q4), .second, .val (.int p5), .val (.int p6), .val (.long P0), .second, .val (.long P1), .second, .val (.long P2), .second, .val (.long DM), .second, .val (.int (Int32.ofNat n)), .val (.int (Int32.ofNat k)), .val (.long Q0), .second, .val (.long Q1), .second, .val (.long Q2), .second, .val (.ref ra), .val (.ref qa), .val (.ref r), .val (.ref q), .unset, .unset, .unset, .unset, .unset, .unset, .unset, .unset, .unset, .unset, .unset, .unset] [(.long (((own_f3 Q0 Q1 Q2) (k - 1)) ^^^ (1 : Int64))), (.int ((Int32.ofNat k) - (1 : Int32))), (.ref qa)])) _
  refine st10 _ ?_
  exact kt
set_option maxRecDepth 65536 in
set_option maxHeartbeats 40000000 in
theorem tn0_208_222f {p : Program} {l : Launch} {e : Env} {R : Room} {s : State} {m : MethodId} {args : Array Value} {below : List Frame} {meth : Method} {c : Code} {T0 : State} {locs : List Loc} {cells slots : Nat} {Z : State} {a0 : Array Value} {h0 : Heap} (q1 q2 q3 q4 : Int64) (p5 p6 : Int32) (P0 P1 P2 DM : Int64) (n k : Nat) (Q0 Q1 Q2 : Int64) (ra qa r q : Addr)
    (X0 : Stand p l e R s m args below meth c T0 locs cells slots) (hx : p.tables.exec = Jvm.exec) (hZ : Z.Warmed39 s.vm) (hw : ∀ d ∈ tables_1, d.before a0 Z = true) (hby : c.code = code) (hml : c.maxLocals = 42) (hown : s.vm.findClass "com/example/updrift/updrift/model/ReleaseNumberOfPinLaw" = some m.cls) (e0 : T0.heap = h0) (hc211 : (1 : Int32) < (Int32.ofNat n)) :
    ∃ (T' : State), Stand p l e R s m args below meth c T' locs cells slots ∧ T'.heap = h0 ∧
      ∀ target, Steps p.tables e below (T'.setTop (mkF m 222 #[.val (.long q1), .second, .val (.long q2), .second, .val (.long q3), .second, .val (.long q4), .second, .val (.int p5), .val (.int p6), .val (.long P0), .second, .val (.long P1), .second, .val (.long P2), .second, .val (.long DM), .second, .val (.int (Int32.ofNat n)), .val (.int (Int32.ofNat k)), .val (.long Q0), .second, .val (.long Q1), .second, .val (.long Q2), .second, .val (.ref ra), .val (.ref qa), .val (.ref r), .val (.ref q), .val (.long P1), .second, .unset, .unset, .unset, .unset, .unset, .unset, .unset, .unset, .unset, .unset] [])) target → Steps p.tables e below (T0.setTop (mkF m 208 #[.val (.long q1), .second, .val (.long q2), .second, .val (.long q3), .second, .val (.long q4), .second, .val (.int p5), .val (.int p6), .val (.long P0), .second, .val (.long P1), .second, .val (.long P2), .second, .val (.long DM), .second, .val (.int (Int32.ofNat n)), .val (.int (Int32.ofNat k)), .val (.long Q0), .second, .val (.long Q1), .second, .val (.long Q2), .second, .val (.ref ra), .val (.ref qa), .val (.ref r), .val (.ref q), .unset, .unset, .unset, .unset, .unset, .unset, .unset, .unset, .unset, .unset, .unset, .unset] [])) target := by

  refine ⟨T0, X0, e0, fun target kt => ?_⟩
  show Steps p.tables e below (T0.setTop (mkF m 208 #[.val (.long q1), .second, .val (.long q2), .second, .val (.long q3), .second, .val (.long q4), .second, .val (.int p5), .val (.int p6), .val (.long P0), .second, .val (.long P1), .second, .val (.long P2), .second, .val (.long DM), .second, .val (.int (Int32.ofNat n)), .val (.int (Int32.ofNat k)), .val (.long Q0), .second, .val (.long Q1), .second, .val (.long Q2), .second, .val (.ref ra), .val (.ref qa), .val (.ref r), .val (.ref q), .unset, .unset, .unset, .unset, .unset, .unset, .unset, .unset, .unset, .unset, .unset, .unset] [])) _
  refine XS.iload X0.here hx rfl (hb hby at_208) rfl ?_
  show Steps p.tables e below (T0.setTop (mkF m 210 #[.val (.long q1), .second, .val (.long q2), .second, .val (.long q3), .second, .val (.long q4), .second, .val (.int p5), .val (.int p6), .val (.long P0), .second, .val (.long P1), .second, .val (.long P2), .second, .val (.long DM), .second, .val (.int (Int32.ofNat n)), .val (.int (Int32.ofNat k)), .val (.long Q0), .second, .val (.long Q1), .second, .val (.long Q2), .second, .val (.ref ra), .val (.ref qa), .val (.ref r), .val (.ref q), .unset, .unset, .unset, .unset, .unset, .unset, .unset, .unset, .unset, .unset, .unset, .unset] [(.int (Int32.ofNat n))])) _
  refine XS.iconst X0.here hx rfl (hb hby at_210) ?_
  show Steps p.tables e below (T0.setTop (mkF m 211 #[.val (.long q1), .second, .val (.long q2), .second, .val (.long q3), .second, .val (.long q4), .second, .val (.int p5), .val (.int p6), .val (.long P0), .second, .val (.long P1), .second, .val (.long P2), .second, .val (.long DM), .second, .val (.int (Int32.ofNat n)), .val (.int (Int32.ofNat k)), .val (.long Q0), .second, .val (.long Q1), .second, .val (.long Q2), .second, .val (.ref ra), .val (.ref qa), .val (.ref r), .val (.ref q), .unset, .unset, .unset, .unset, .unset, .unset, .unset, .unset, .unset, .unset, .unset, .unset] [(.int (1 : Int32)), (.int (Int32.ofNat n))])) _
  refine XS.icmpNo X0.here hx rfl (hb hby at_211) rfl (tlt hc211).2.2.2 ?_
  show Steps p.tables e below (T0.setTop (mkF m 214 #[.val (.long q1), .second, .val (.long q2), .second, .val (.long q3), .second, .val (.long q4), .second, .val (.int p5), .val (.int p6), .val (.long P0), .second, .val (.long P1), .second, .val (.long P2), .second, .val (.long DM), .second, .val (.int (Int32.ofNat n)), .val (.int (Int32.ofNat k)), .val (.long Q0), .second, .val (.long Q1), .second, .val (.long Q2), .second, .val (.ref ra), .val (.ref qa), .val (.ref r), .val (.ref q), .unset, .unset, .unset, .unset, .unset, .unset, .unset, .unset, .unset, .unset, .unset, .unset] [])) _
  refine XS.lload X0.here hx rfl (hb hby at_214) rfl ?_
  show Steps p.tables e below (T0.setTop (mkF m 216 #[.val (.long q1), .second, .val (.long q2), .second, .val (.long q3), .second, .val (.long q4), .second, .val (.int p5), .val (.int p6), .val (.long P0), .second, .val (.long P1), .second, .val (.long P2), .second, .val (.long DM), .second, .val (.int (Int32.ofNat n)), .val (.int (Int32.ofNat k)), .val (.long Q0), .second, .val (.long Q1), .second, .val (.long Q2), .second, .val (.ref ra), .val (.ref qa), .val (.ref r), .val (.ref q), .unset, .unset, .unset, .unset, .unset, .unset, .unset, .unset, .unset, .unset, .unset, .unset] [(.long P1)])) _
  refine XS.goto X0.here hx rfl (pc0 := 216) (pc' := 220) rfl (hb hby at_216) (by decide) (by decide) ?_
  show Steps p.tables e below (T0.setTop (mkF m 220 #[.val (.long q1), .second, .val (.long q2), .second, .val (.long q3), .second, .val (.long q4), .second, .val (.int p5), .val (.int p6), .val (.long P0), .second, .val (.long P1), .second, .val (.long P2), .second, .val (.long DM), .second, .val (.int (Int32.ofNat n)), .val (.int (Int32.ofNat k)), .val (.long Q0), .second, .val (.long Q1), .second, .val (.long Q2), .second, .val (.ref ra), .val (.ref qa), .val (.ref r), .val (.ref q), .unset, .unset, .unset, .unset, .unset, .unset, .unset, .unset, .unset, .unset, .unset, .unset] [(.long P1)])) _
  refine XS.lstore X0.here hx rfl (hb hby at_220) rfl (l' := #[.val (.long q1), .second, .val (.long q2), .second, .val (.long q3), .second, .val (.long q4), .second, .val (.int p5), .val (.int p6), .val (.long P0), .second, .val (.long P1), .second, .val (.long P2), .second, .val (.long DM), .second, .val (.int (Int32.ofNat n)), .val (.int (Int32.ofNat k)), .val (.long Q0), .second, .val (.long Q1), .second, .val (.long Q2), .second, .val (.ref ra), .val (.ref qa), .val (.ref r), .val (.ref q), .val (.long P1), .second, .unset, .unset, .unset, .unset, .unset, .unset, .unset, .unset, .unset, .unset]) rfl ?_
  exact kt
set_option maxRecDepth 65536 in
set_option maxHeartbeats 40000000 in
theorem tn0_208_222t {p : Program} {l : Launch} {e : Env} {R : Room} {s : State} {m : MethodId} {args : Array Value} {below : List Frame} {meth : Method} {c : Code} {T0 : State} {locs : List Loc} {cells slots : Nat} {Z : State} {a0 : Array Value} {h0 : Heap} (q1 q2 q3 q4 : Int64) (p5 p6 : Int32) (P0 P1 P2 DM : Int64) (n k : Nat) (Q0 Q1 Q2 : Int64) (ra qa r q : Addr)
    (X0 : Stand p l e R s m args below meth c T0 locs cells slots) (hx : p.tables.exec = Jvm.exec) (hZ : Z.Warmed39 s.vm) (hw : ∀ d ∈ tables_1, d.before a0 Z = true) (hby : c.code = code) (hml : c.maxLocals = 42) (hown : s.vm.findClass "com/example/updrift/updrift/model/ReleaseNumberOfPinLaw" = some m.cls) (e0 : T0.heap = h0) (hc211 : ¬ ((1 : Int32) < (Int32.ofNat n))) :
    ∃ (T' : State), Stand p l e R s m args below meth c T' locs cells slots ∧ T'.heap = h0 ∧
      ∀ target, Steps p.tables e below (T'.setTop (mkF m 222 #[.val (.long q1), .second, .val (.long q2), .second, .val (.long q3), .second, .val (.long q4), .second, .val (.int p5), .val (.int p6), .val (.long P0), .second, .val (.long P1), .second, .val (.long P2), .second, .val (.long DM), .second, .val (.int (Int32.ofNat n)), .val (.int (Int32.ofNat k)), .val (.long Q0), .second, .val (.long Q1), .second, .val (.long Q2), .second, .val (.ref ra), .val (.ref qa), .val (.ref r), .val (.ref q), .val (.long (0 : Int64)), .second, .unset, .unset, .unset, .unset, .unset, .unset, .unset, .unset, .unset, .unset] [])) target → Steps p.tables e below (T0.setTop (mkF m 208 #[.val (.long q1), .second, .val (.long q2), .second, .val (.long q3), .second, .val (.long q4), .second, .val (.int p5), .val (.int p6), .val (.long P0), .second, .val (.long P1), .second, .val (.long P2), .second, .val (.long DM), .second, .val (.int (Int32.ofNat n)), .val (.int (Int32.ofNat k)), .val (.long Q0), .second, .val (.long Q1), .second, .val (.long Q2), .second, .val (.ref ra), .val (.ref qa), .val (.ref r), .val (.ref q), .unset, .unset, .unset, .unset, .unset, .unset, .unset, .unset, .unset, .unset, .unset, .unset] [])) target := by

  refine ⟨T0, X0, e0, fun target kt => ?_⟩
  show Steps p.tables e below (T0.setTop (mkF m 208 #[.val (.long q1), .second, .val (.long q2), .second, .val (.long q3), .second, .val (.long q4), .second, .val (.int p5), .val (.int p6), .val (.long P0), .second, .val (.long P1), .second, .val (.long P2), .second, .val (.long DM), .second, .val (.int (Int32.ofNat n)), .val (.int (Int32.ofNat k)), .val (.long Q0), .second, .val (.long Q1), .second, .val (.long Q2), .second, .val (.ref ra), .val (.ref qa), .val (.ref r), .val (.ref q), .unset, .unset, .unset, .unset, .unset, .unset, .unset, .unset, .unset, .unset, .unset, .unset] [])) _
  refine XS.iload X0.here hx rfl (hb hby at_208) rfl ?_
  show Steps p.tables e below (T0.setTop (mkF m 210 #[.val (.long q1), .second, .val (.long q2), .second, .val (.long q3), .second, .val (.long q4), .second, .val (.int p5), .val (.int p6), .val (.long P0), .second, .val (.long P1), .second, .val (.long P2), .second, .val (.long DM), .second, .val (.int (Int32.ofNat n)), .val (.int (Int32.ofNat k)), .val (.long Q0), .second, .val (.long Q1), .second, .val (.long Q2), .second, .val (.ref ra), .val (.ref qa), .val (.ref r), .val (.ref q), .unset, .unset, .unset, .unset, .unset, .unset, .unset, .unset, .unset, .unset, .unset, .unset] [(.int (Int32.ofNat n))])) _
  refine XS.iconst X0.here hx rfl (hb hby at_210) ?_
  show Steps p.tables e below (T0.setTop (mkF m 211 #[.val (.long q1), .second, .val (.long q2), .second, .val (.long q3), .second, .val (.long q4), .second, .val (.int p5), .val (.int p6), .val (.long P0), .second, .val (.long P1), .second, .val (.long P2), .second, .val (.long DM), .second, .val (.int (Int32.ofNat n)), .val (.int (Int32.ofNat k)), .val (.long Q0), .second, .val (.long Q1), .second, .val (.long Q2), .second, .val (.ref ra), .val (.ref qa), .val (.ref r), .val (.ref q), .unset, .unset, .unset, .unset, .unset, .unset, .unset, .unset, .unset, .unset, .unset, .unset] [(.int (1 : Int32)), (.int (Int32.ofNat n))])) _
  refine XS.icmpYes X0.here hx rfl (pc0 := 211) (pc' := 219) rfl (hb hby at_211) rfl (flt hc211).2.2.2 (by decide) (by decide) ?_
  show Steps p.tables e below (T0.setTop (mkF m 219 #[.val (.long q1), .second, .val (.long q2), .second, .val (.long q3), .second, .val (.long q4), .second, .val (.int p5), .val (.int p6), .val (.long P0), .second, .val (.long P1), .second, .val (.long P2), .second, .val (.long DM), .second, .val (.int (Int32.ofNat n)), .val (.int (Int32.ofNat k)), .val (.long Q0), .second, .val (.long Q1), .second, .val (.long Q2), .second, .val (.ref ra), .val (.ref qa), .val (.ref r), .val (.ref q), .unset, .unset, .unset, .unset, .unset, .unset, .unset, .unset, .unset, .unset, .unset, .unset] [])) _
  refine XS.lconst X0.here hx rfl (hb hby at_219) ?_
  show Steps p.tables e below (T0.setTop (mkF m 220 #[.val (.long q1), .second, .val (.long q2), .second, .val (.long q3), .second, .val (.long q4), .second, .val (.int p5), .val (.int p6), .val (.long P0), .second, .val (.long P1), .second, .val (.long P2), .second, .val (.long DM), .second, .val (.int (Int32.ofNat n)), .val (.int (Int32.ofNat k)), .val (.long Q0), .second, .val (.long Q1), .second, .val (.long Q2), .second, .val (.ref ra), .val (.ref qa), .val (.ref r), .val (.ref q), .unset, .unset, .unset, .unset, .unset, .unset, .unset, .unset, .unset, .unset, .unset, .unset] [(.long (0 : Int64))])) _
  refine XS.lstore X0.here hx rfl (hb hby at_220) rfl (l' := #[.val (.long q1), .second, .val (.long q2), .second, .val (.long q3), .second, .val (.long q4), .second, .val (.int p5), .val (.int p6), .val (.long P0), .second, .val (.long P1), .second, .val (.long P2), .second, .val (.long DM), .second, .val (.int (Int32.ofNat n)), .val (.int (Int32.ofNat k)), .val (.long Q0), .second, .val (.long Q1), .second, .val (.long Q2), .second, .val (.ref ra), .val (.ref qa), .val (.ref r), .val (.ref q), .val (.long (0 : Int64)), .second, .unset, .unset, .unset, .unset, .unset, .unset, .unset, .unset, .unset, .unset]) rfl ?_
  exact kt
theorem own_s5_r1 {p : Program} {l : Launch} {e : Env} {R : Room} {s : State} {m : MethodId} {args : Array Value} {below : List Frame} {meth : Method} {c : Code} {T0 : State} {locs : List Loc} {cells slots : Nat} {Z : State} {a0 : Array Value} {h0 : Heap} (q1 q2 q3 q4 : Int64) (p5 p6 : Int32) (P0 P1 P2 DM : Int64) (n k : Nat) (Q0 Q1 Q2 : Int64) (ra qa r q : Addr) (r1 : Int64) (hq : own_part n (own_f3 P0 P1 P2) 1 = r1) (hn3 : n ≤ 3)
    (X0 : Stand p l e R s m args below meth c T0 locs cells slots) (hx : p.tables.exec = Jvm.exec) (hZ : Z.Warmed39 s.vm) (hw : ∀ d ∈ tables_1, d.before a0 Z = true) (hby : c.code = code) (hml : c.maxLocals = 42) (hown : s.vm.findClass "com/example/updrift/updrift/model/ReleaseNumberOfPinLaw" = some m.cls) (e0 : T0.heap = h0) :
    ∃ (T' : State), Stand p l e R s m args below meth c T' locs cells slots ∧ T'.heap = h0 ∧
      ∀ target, Steps p.tables e below (T'.setTop (mkF m 222 #[.val (.long q1), .second, .val (.long q2), .second, .val (.long q3), .second, .val (.long q4), .second, .val (.int p5), .val (.int p6), .val (.long P0), .second, .val (.long P1), .second, .val (.long P2), .second, .val (.long DM), .second, .val (.int (Int32.ofNat n)), .val (.int (Int32.ofNat k)), .val (.long Q0), .second, .val (.long Q1), .second, .val (.long Q2), .second, .val (.ref ra), .val (.ref qa), .val (.ref r), .val (.ref q), .val (.long r1), .second, .unset, .unset, .unset, .unset, .unset, .unset, .unset, .unset, .unset, .unset] [])) target → Steps p.tables e below (T0.setTop (mkF m 208 #[.val (.long q1), .second, .val (.long q2), .second, .val (.long q3), .second, .val (.long q4), .second, .val (.int p5), .val (.int p6), .val (.long P0), .second, .val (.long P1), .second, .val (.long P2), .second, .val (.long DM), .second, .val (.int (Int32.ofNat n)), .val (.int (Int32.ofNat k)), .val (.long Q0), .second, .val (.long Q1), .second, .val (.long Q2), .second, .val (.ref ra), .val (.ref qa), .val (.ref r), .val (.ref q), .unset, .unset, .unset, .unset, .unset, .unset, .unset, .unset, .unset, .unset, .unset, .unset] [])) target := by
  subst hq
  unfold own_part
  by_cases hc : 1 < n
  · rw [if_pos hc]
    exact tn0_208_222f q1 q2 q3 q4 p5 p6 P0 P1 P2 DM n k Q0 Q1 Q2 ra qa r q X0 hx hZ hw hby hml hown e0 (own_lt hc hn3)
  · rw [if_neg hc]
    exact tn0_208_222t q1 q2 q3 q4 p5 p6 P0 P1 P2 DM n k Q0 Q1 Q2 ra qa r q X0 hx hZ hw hby hml hown e0 (by
      show ¬ (Int32.ofNat 1 < Int32.ofNat n)
      rw [Int32.lt_iff_toInt_lt, Int32.toInt_ofNat_of_lt (by omega), Int32.toInt_ofNat_of_lt (by omega)]; omega)
set_option maxRecDepth 65536 in
set_option maxHeartbeats 40000000 in
theorem tn0_222_236f {p : Program} {l : Launch} {e : Env} {R : Room} {s : State} {m : MethodId} {args : Array Value} {below : List Frame} {meth : Method} {c : Code} {T0 : State} {locs : List Loc} {cells slots : Nat} {Z : State} {a0 : Array Value} {h0 : Heap} (q1 q2 q3 q4 : Int64) (p5 p6 : Int32) (P0 P1 P2 DM : Int64) (n k : Nat) (Q0 Q1 Q2 : Int64) (ra qa r q : Addr) (r1 : Int64)
    (X0 : Stand p l e R s m args below meth c T0 locs cells slots) (hx : p.tables.exec = Jvm.exec) (hZ : Z.Warmed39 s.vm) (hw : ∀ d ∈ tables_1, d.before a0 Z = true) (hby : c.code = code) (hml : c.maxLocals = 42) (hown : s.vm.findClass "com/example/updrift/updrift/model/ReleaseNumberOfPinLaw" = some m.cls) (e0 : T0.heap = h0) (hc225 : (2 : Int32) < (Int32.ofNat n)) :
    ∃ (T' : State), Stand p l e R s m args below meth c T' locs cells slots ∧ T'.heap = h0 ∧
      ∀ target, Steps p.tables e below (T'.setTop (mkF m 236 #[.val (.long q1), .second, .val (.long q2), .second, .val (.long q3), .second, .val (.long q4), .second, .val (.int p5), .val (.int p6), .val (.long P0), .second, .val (.long P1), .second, .val (.long P2), .second, .val (.long DM), .second, .val (.int (Int32.ofNat n)), .val (.int (Int32.ofNat k)), .val (.long Q0), .second, .val (.long Q1), .second, .val (.long Q2), .second, .val (.ref ra), .val (.ref qa), .val (.ref r), .val (.ref q), .val (.long r1), .second, .val (.long P2), .second, .unset, .unset, .unset, .unset, .unset, .unset, .unset, .unset] [])) target → Steps p.tables e below (T0.setTop (mkF m 222 #[.val (.long q1), .second, .val (.long q2), .second, .val (.long q3), .second, .val (.long q4), .second, .val (.int p5), .val (.int p6), .val (.long P0), .second, .val (.long P1), .second, .val (.long P2), .second, .val (.long DM), .second, .val (.int (Int32.ofNat n)), .val (.int (Int32.ofNat k)), .val (.long Q0), .second, .val (.long Q1), .second, .val (.long Q2), .second, .val (.ref ra), .val (.ref qa), .val (.ref r), .val (.ref q), .val (.long r1), .second, .unset, .unset, .unset, .unset, .unset, .unset, .unset, .unset, .unset, .unset] [])) target := by

  refine ⟨T0, X0, e0, fun target kt => ?_⟩
  show Steps p.tables e below (T0.setTop (mkF m 222 #[.val (.long q1), .second, .val (.long q2), .second, .val (.long q3), .second, .val (.long q4), .second, .val (.int p5), .val (.int p6), .val (.long P0), .second, .val (.long P1), .second, .val (.long P2), .second, .val (.long DM), .second, .val (.int (Int32.ofNat n)), .val (.int (Int32.ofNat k)), .val (.long Q0), .second, .val (.long Q1), .second, .val (.long Q2), .second, .val (.ref ra), .val (.ref qa), .val (.ref r), .val (.ref q), .val (.long r1), .second, .unset, .unset, .unset, .unset, .unset, .unset, .unset, .unset, .unset, .unset] [])) _
  refine XS.iload X0.here hx rfl (hb hby at_222) rfl ?_
  show Steps p.tables e below (T0.setTop (mkF m 224 #[.val (.long q1), .second, .val (.long q2), .second, .val (.long q3), .second, .val (.long q4), .second, .val (.int p5), .val (.int p6), .val (.long P0), .second, .val (.long P1), .second, .val (.long P2), .second, .val (.long DM), .second, .val (.int (Int32.ofNat n)), .val (.int (Int32.ofNat k)), .val (.long Q0), .second, .val (.long Q1), .second, .val (.long Q2), .second, .val (.ref ra), .val (.ref qa), .val (.ref r), .val (.ref q), .val (.long r1), .second, .unset, .unset, .unset, .unset, .unset, .unset, .unset, .unset, .unset, .unset] [(.int (Int32.ofNat n))])) _
  refine XS.iconst X0.here hx rfl (hb hby at_224) ?_
  show Steps p.tables e below (T0.setTop (mkF m 225 #[.val (.long q1), .second, .val (.long q2), .second, .val (.long q3), .second, .val (.long q4), .second, .val (.int p5), .val (.int p6), .val (.long P0), .second, .val (.long P1), .second, .val (.long P2), .second, .val (.long DM), .second, .val (.int (Int32.ofNat n)), .val (.int (Int32.ofNat k)), .val (.long Q0), .second, .val (.long Q1), .second, .val (.long Q2), .second, .val (.ref ra), .val (.ref qa), .val (.ref r), .val (.ref q), .val (.long r1), .second, .unset, .unset, .unset, .unset, .unset, .unset, .unset, .unset, .unset, .unset] [(.int (2 : Int32)), (.int (Int32.ofNat n))])) _
  refine XS.icmpNo X0.here hx rfl (hb hby at_225) rfl (tlt hc225).2.2.2 ?_
  show Steps p.tables e below (T0.setTop (mkF m 228 #[.val (.long q1), .second, .val (.long q2), .second, .val (.long q3), .second, .val (.long q4), .second, .val (.int p5), .val (.int p6), .val (.long P0), .second, .val (.long P1), .second, .val (.long P2), .second, .val (.long DM), .second, .val (.int (Int32.ofNat n)), .val (.int (Int32.ofNat k)), .val (.long Q0), .second, .val (.long Q1), .second, .val (.long Q2), .second, .val (.ref ra), .val (.ref qa), .val (.ref r), .val (.ref q), .val (.long r1), .second, .unset, .unset, .unset, .unset, .unset, .unset, .unset, .unset, .unset, .unset] [])) _
  refine XS.lload X0.here hx rfl (hb hby at_228) rfl ?_
  show Steps p.tables e below (T0.setTop (mkF m 230 #[.val (.long q1), .second, .val (.long q2), .second, .val (.long q3), .second, .val (.long q4), .second, .val (.int p5), .val (.int p6), .val (.long P0), .second, .val (.long P1), .second, .val (.long P2), .second, .val (.long DM), .second, .val (.int (Int32.ofNat n)), .val (.int (Int32.ofNat k)), .val (.long Q0), .second, .val (.long Q1), .second, .val (.long Q2), .second, .val (.ref ra), .val (.ref qa), .val (.ref r), .val (.ref q), .val (.long r1), .second, .unset, .unset, .unset, .unset, .unset, .unset, .unset, .unset, .unset, .unset] [(.long P2)])) _
  refine XS.goto X0.here hx rfl (pc0 := 230) (pc' := 234) rfl (hb hby at_230) (by decide) (by decide) ?_
  show Steps p.tables e below (T0.setTop (mkF m 234 #[.val (.long q1), .second, .val (.long q2), .second, .val (.long q3), .second, .val (.long q4), .second, .val (.int p5), .val (.int p6), .val (.long P0), .second, .val (.long P1), .second, .val (.long P2), .second, .val (.long DM), .second, .val (.int (Int32.ofNat n)), .val (.int (Int32.ofNat k)), .val (.long Q0), .second, .val (.long Q1), .second, .val (.long Q2), .second, .val (.ref ra), .val (.ref qa), .val (.ref r), .val (.ref q), .val (.long r1), .second, .unset, .unset, .unset, .unset, .unset, .unset, .unset, .unset, .unset, .unset] [(.long P2)])) _
  refine XS.lstore X0.here hx rfl (hb hby at_234) rfl (l' := #[.val (.long q1), .second, .val (.long q2), .second, .val (.long q3), .second, .val (.long q4), .second, .val (.int p5), .val (.int p6), .val (.long P0), .second, .val (.long P1), .second, .val (.long P2), .second, .val (.long DM), .second, .val (.int (Int32.ofNat n)), .val (.int (Int32.ofNat k)), .val (.long Q0), .second, .val (.long Q1), .second, .val (.long Q2), .second, .val (.ref ra), .val (.ref qa), .val (.ref r), .val (.ref q), .val (.long r1), .second, .val (.long P2), .second, .unset, .unset, .unset, .unset, .unset, .unset, .unset, .unset]) rfl ?_
  exact kt
set_option maxRecDepth 65536 in
set_option maxHeartbeats 40000000 in
theorem tn0_222_236t {p : Program} {l : Launch} {e : Env} {R : Room} {s : State} {m : MethodId} {args : Array Value} {below : List Frame} {meth : Method} {c : Code} {T0 : State} {locs : List Loc} {cells slots : Nat} {Z : State} {a0 : Array Value} {h0 : Heap} (q1 q2 q3 q4 : Int64) (p5 p6 : Int32) (P0 P1 P2 DM : Int64) (n k : Nat) (Q0 Q1 Q2 : Int64) (ra qa r q : Addr) (r1 : Int64)
    (X0 : Stand p l e R s m args below meth c T0 locs cells slots) (hx : p.tables.exec = Jvm.exec) (hZ : Z.Warmed39 s.vm) (hw : ∀ d ∈ tables_1, d.before a0 Z = true) (hby : c.code = code) (hml : c.maxLocals = 42) (hown : s.vm.findClass "com/example/updrift/updrift/model/ReleaseNumberOfPinLaw" = some m.cls) (e0 : T0.heap = h0) (hc225 : ¬ ((2 : Int32) < (Int32.ofNat n))) :
    ∃ (T' : State), Stand p l e R s m args below meth c T' locs cells slots ∧ T'.heap = h0 ∧
      ∀ target, Steps p.tables e below (T'.setTop (mkF m 236 #[.val (.long q1), .second, .val (.long q2), .second, .val (.long q3), .second, .val (.long q4), .second, .val (.int p5), .val (.int p6), .val (.long P0), .second, .val (.long P1), .second, .val (.long P2), .second, .val (.long DM), .second, .val (.int (Int32.ofNat n)), .val (.int (Int32.ofNat k)), .val (.long Q0), .second, .val (.long Q1), .second, .val (.long Q2), .second, .val (.ref ra), .val (.ref qa), .val (.ref r), .val (.ref q), .val (.long r1), .second, .val (.long (0 : Int64)), .second, .unset, .unset, .unset, .unset, .unset, .unset, .unset, .unset] [])) target → Steps p.tables e below (T0.setTop (mkF m 222 #[.val (.long q1), .second, .val (.long q2), .second, .val (.long q3), .second, .val (.long q4), .second, .val (.int p5), .val (.int p6), .val (.long P0), .second, .val (.long P1), .second, .val (.long P2), .second, .val (.long DM), .second, .val (.int (Int32.ofNat n)), .val (.int (Int32.ofNat k)), .val (.long Q0), .second, .val (.long Q1), .second, .val (.long Q2), .second, .val (.ref ra), .val (.ref qa), .val (.ref r), .val (.ref q), .val (.long r1), .second, .unset, .unset, .unset, .unset, .unset, .unset, .unset, .unset, .unset, .unset] [])) target := by

  refine ⟨T0, X0, e0, fun target kt => ?_⟩
  show Steps p.tables e below (T0.setTop (mkF m 222 #[.val (.long q1), .second, .val (.long q2), .second, .val (.long q3), .second, .val (.long q4), .second, .val (.int p5), .val (.int p6), .val (.long P0), .second, .val (.long P1), .second, .val (.long P2), .second, .val (.long DM), .second, .val (.int (Int32.ofNat n)), .val (.int (Int32.ofNat k)), .val (.long Q0), .second, .val (.long Q1), .second, .val (.long Q2), .second, .val (.ref ra), .val (.ref qa), .val (.ref r), .val (.ref q), .val (.long r1), .second, .unset, .unset, .unset, .unset, .unset, .unset, .unset, .unset, .unset, .unset] [])) _
  refine XS.iload X0.here hx rfl (hb hby at_222) rfl ?_
  show Steps p.tables e below (T0.setTop (mkF m 224 #[.val (.long q1), .second, .val (.long q2), .second, .val (.long q3), .second, .val (.long q4), .second, .val (.int p5), .val (.int p6), .val (.long P0), .second, .val (.long P1), .second, .val (.long P2), .second, .val (.long DM), .second, .val (.int (Int32.ofNat n)), .val (.int (Int32.ofNat k)), .val (.long Q0), .second, .val (.long Q1), .second, .val (.long Q2), .second, .val (.ref ra), .val (.ref qa), .val (.ref r), .val (.ref q), .val (.long r1), .second, .unset, .unset, .unset, .unset, .unset, .unset, .unset, .unset, .unset, .unset] [(.int (Int32.ofNat n))])) _
  refine XS.iconst X0.here hx rfl (hb hby at_224) ?_
  show Steps p.tables e below (T0.setTop (mkF m 225 #[.val (.long q1), .second, .val (.long q2), .second, .val (.long q3), .second, .val (.long q4), .second, .val (.int p5), .val (.int p6), .val (.long P0), .second, .val (.long P1), .second, .val (.long P2), .second, .val (.long DM), .second, .val (.int (Int32.ofNat n)), .val (.int (Int32.ofNat k)), .val (.long Q0), .second, .val (.long Q1), .second, .val (.long Q2), .second, .val (.ref ra), .val (.ref qa), .val (.ref r), .val (.ref q), .val (.long r1), .second, .unset, .unset, .unset, .unset, .unset, .unset, .unset, .unset, .unset, .unset] [(.int (2 : Int32)), (.int (Int32.ofNat n))])) _
  refine XS.icmpYes X0.here hx rfl (pc0 := 225) (pc' := 233) rfl (hb hby at_225) rfl (flt hc225).2.2.2 (by decide) (by decide) ?_
  show Steps p.tables e below (T0.setTop (mkF m 233 #[.val (.long q1), .second, .val (.long q2), .second, .val (.long q3), .second, .val (.long q4), .second, .val (.int p5), .val (.int p6), .val (.long P0), .second, .val (.long P1), .second, .val (.long P2), .second, .val (.long DM), .second, .val (.int (Int32.ofNat n)), .val (.int (Int32.ofNat k)), .val (.long Q0), .second, .val (.long Q1), .second, .val (.long Q2), .second, .val (.ref ra), .val (.ref qa), .val (.ref r), .val (.ref q), .val (.long r1), .second, .unset, .unset, .unset, .unset, .unset, .unset, .unset, .unset, .unset, .unset] [])) _
  refine XS.lconst X0.here hx rfl (hb hby at_233) ?_
  show Steps p.tables e below (T0.setTop (mkF m 234 #[.val (.long q1), .second, .val (.long q2), .second, .val (.long q3), .second, .val (.long q4), .second, .val (.int p5), .val (.int p6), .val (.long P0), .second, .val (.long P1), .second, .val (.long P2), .second, .val (.long DM), .second, .val (.int (Int32.ofNat n)), .val (.int (Int32.ofNat k)), .val (.long Q0), .second, .val (.long Q1), .second, .val (.long Q2), .second, .val (.ref ra), .val (.ref qa), .val (.ref r), .val (.ref q), .val (.long r1), .second, .unset, .unset, .unset, .unset, .unset, .unset, .unset, .unset, .unset, .unset] [(.long (0 : Int64))])) _
  refine XS.lstore X0.here hx rfl (hb hby at_234) rfl (l' := #[.val (.long q1), .second, .val (.long q2), .second, .val (.long q3), .second, .val (.long q4), .second, .val (.int p5), .val (.int p6), .val (.long P0), .second, .val (.long P1), .second, .val (.long P2), .second, .val (.long DM), .second, .val (.int (Int32.ofNat n)), .val (.int (Int32.ofNat k)), .val (.long Q0), .second, .val (.long Q1), .second, .val (.long Q2), .second, .val (.ref ra), .val (.ref qa), .val (.ref r), .val (.ref q), .val (.long r1), .second, .val (.long (0 : Int64)), .second, .unset, .unset, .unset, .unset, .unset, .unset, .unset, .unset]) rfl ?_
  exact kt
theorem own_s5_r2 {p : Program} {l : Launch} {e : Env} {R : Room} {s : State} {m : MethodId} {args : Array Value} {below : List Frame} {meth : Method} {c : Code} {T0 : State} {locs : List Loc} {cells slots : Nat} {Z : State} {a0 : Array Value} {h0 : Heap} (q1 q2 q3 q4 : Int64) (p5 p6 : Int32) (P0 P1 P2 DM : Int64) (n k : Nat) (Q0 Q1 Q2 : Int64) (ra qa r q : Addr) (r1 : Int64) (r2 : Int64) (hq : own_part n (own_f3 P0 P1 P2) 2 = r2) (hn3 : n ≤ 3)
    (X0 : Stand p l e R s m args below meth c T0 locs cells slots) (hx : p.tables.exec = Jvm.exec) (hZ : Z.Warmed39 s.vm) (hw : ∀ d ∈ tables_1, d.before a0 Z = true) (hby : c.code = code) (hml : c.maxLocals = 42) (hown : s.vm.findClass "com/example/updrift/updrift/model/ReleaseNumberOfPinLaw" = some m.cls) (e0 : T0.heap = h0) :
    ∃ (T' : State), Stand p l e R s m args below meth c T' locs cells slots ∧ T'.heap = h0 ∧
      ∀ target, Steps p.tables e below (T'.setTop (mkF m 236 #[.val (.long q1), .second, .val (.long q2), .second, .val (.long q3), .second, .val (.long q4), .second, .val (.int p5), .val (.int p6), .val (.long P0), .second, .val (.long P1), .second, .val (.long P2), .second, .val (.long DM), .second, .val (.int (Int32.ofNat n)), .val (.int (Int32.ofNat k)), .val (.long Q0), .second, .val (.long Q1), .second, .val (.long Q2), .second, .val (.ref ra), .val (.ref qa), .val (.ref r), .val (.ref q), .val (.long r1), .second, .val (.long r2), .second, .unset, .unset, .unset, .unset, .unset, .unset, .unset, .unset] [])) target → Steps p.tables e below (T0.setTop (mkF m 222 #[.val (.long q1), .second, .val (.long q2), .second, .val (.long q3), .second, .val (.long q4), .second, .val (.int p5), .val (.int p6), .val (.long P0), .second, .val (.long P1), .second, .val (.long P2), .second, .val (.long DM), .second, .val (.int (Int32.ofNat n)), .val (.int (Int32.ofNat k)), .val (.long Q0), .second, .val (.long Q1), .second, .val (.long Q2), .second, .val (.ref ra), .val (.ref qa), .val (.ref r), .val (.ref q), .val (.long r1), .second, .unset, .unset, .unset, .unset, .unset, .unset, .unset, .unset, .unset, .unset] [])) target := by
  subst hq
  unfold own_part
  by_cases hc : 2 < n
  · rw [if_pos hc]
    exact tn0_222_236f q1 q2 q3 q4 p5 p6 P0 P1 P2 DM n k Q0 Q1 Q2 ra qa r q r1 X0 hx hZ hw hby hml hown e0 (own_lt hc hn3)
  · rw [if_neg hc]
    exact tn0_222_236t q1 q2 q3 q4 p5 p6 P0 P1 P2 DM n k Q0 Q1 Q2 ra qa r q r1 X0 hx hZ hw hby hml hown e0 (by
      show ¬ (Int32.ofNat 2 < Int32.ofNat n)
      rw [Int32.lt_iff_toInt_lt, Int32.toInt_ofNat_of_lt (by omega), Int32.toInt_ofNat_of_lt (by omega)]; omega)
set_option maxRecDepth 65536 in
set_option maxHeartbeats 40000000 in
theorem tn0_236_250f {p : Program} {l : Launch} {e : Env} {R : Room} {s : State} {m : MethodId} {args : Array Value} {below : List Frame} {meth : Method} {c : Code} {T0 : State} {locs : List Loc} {cells slots : Nat} {Z : State} {a0 : Array Value} {h0 : Heap} (q1 q2 q3 q4 : Int64) (p5 p6 : Int32) (P0 P1 P2 DM : Int64) (n k : Nat) (Q0 Q1 Q2 : Int64) (ra qa r q : Addr) (r1 : Int64) (r2 : Int64)
    (X0 : Stand p l e R s m args below meth c T0 locs cells slots) (hx : p.tables.exec = Jvm.exec) (hZ : Z.Warmed39 s.vm) (hw : ∀ d ∈ tables_1, d.before a0 Z = true) (hby : c.code = code) (hml : c.maxLocals = 42) (hown : s.vm.findClass "com/example/updrift/updrift/model/ReleaseNumberOfPinLaw" = some m.cls) (e0 : T0.heap = h0) (hc239 : (1 : Int32) < (Int32.ofNat k)) :
    ∃ (T' : State), Stand p l e R s m args below meth c T' locs cells slots ∧ T'.heap = h0 ∧
      ∀ target, Steps p.tables e below (T'.setTop (mkF m 250 #[.val (.long q1), .second, .val (.long q2), .second, .val (.long q3), .second, .val (.long q4), .second, .val (.int p5), .val (.int p6), .val (.long P0), .second, .val (.long P1), .second, .val (.long P2), .second, .val (.long DM), .second, .val (.int (Int32.ofNat n)), .val (.int (Int32.ofNat k)), .val (.long Q0), .second, .val (.long Q1), .second, .val (.long Q2), .second, .val (.ref ra), .val (.ref qa), .val (.ref r), .val (.ref q), .val (.long r1), .second, .val (.long r2), .second, .val (.long Q1), .second, .unset, .unset, .unset, .unset, .unset, .unset] [])) target → Steps p.tables e below (T0.setTop (mkF m 236 #[.val (.long q1), .second, .val (.long q2), .second, .val (.long q3), .second, .val (.long q4), .second, .val (.int p5), .val (.int p6), .val (.long P0), .second, .val (.long P1), .second, .val (.long P2), .second, .val (.long DM), .second, .val (.int (Int32.ofNat n)), .val (.int (Int32.ofNat k)), .val (.long Q0), .second, .val (.long Q1), .second, .val (.long Q2), .second, .val (.ref ra), .val (.ref qa), .val (.ref r), .val (.ref q), .val (.long r1), .second, .val (.long r2), .second, .unset, .unset, .unset, .unset, .unset, .unset, .unset, .unset] [])) target := by

  refine ⟨T0, X0, e0, fun target kt => ?_⟩
  show Steps p.tables e below (T0.setTop (mkF m 236 #[.val (.long q1), .second, .val (.long q2), .second, .val (.long q3), .second, .val (.long q4), .second, .val (.int p5), .val (.int p6), .val (.long P0), .second, .val (.long P1), .second, .val (.long P2), .second, .val (.long DM), .second, .val (.int (Int32.ofNat n)), .val (.int (Int32.ofNat k)), .val (.long Q0), .second, .val (.long Q1), .second, .val (.long Q2), .second, .val (.ref ra), .val (.ref qa), .val (.ref r), .val (.ref q), .val (.long r1), .second, .val (.long r2), .second, .unset, .unset, .unset, .unset, .unset, .unset, .unset, .unset] [])) _
  refine XS.iload X0.here hx rfl (hb hby at_236) rfl ?_
  show Steps p.tables e below (T0.setTop (mkF m 238 #[.val (.long q1), .second, .val (.long q2), .second, .val (.long q3), .second, .val (.long q4), .second, .val (.int p5), .val (.int p6), .val (.long P0), .second, .val (.long P1), .second, .val (.long P2), .second, .val (.long DM), .second, .val (.int (Int32.ofNat n)), .val (.int (Int32.ofNat k)), .val (.long Q0), .second, .val (.long Q1), .second, .val (.long Q2), .second, .val (.ref ra), .val (.ref qa), .val (.ref r), .val (.ref q), .val (.long r1), .second, .val (.long r2), .second, .unset, .unset, .unset, .unset, .unset, .unset, .unset, .unset] [(.int (Int32.ofNat k))])) _
  refine XS.iconst X0.here hx rfl (hb hby at_238) ?_
  show Steps p.tables e below (T0.setTop (mkF m 239 #[.val (.long q1), .second, .val (.long q2), .second, .val (.long q3), .second, .val (.long q4), .second, .val (.int p5), .val (.int p6), .val (.long P0), .second, .val (.long P1), .second, .val (.long P2), .second, .val (.long DM), .second, .val (.int (Int32.ofNat n)), .val (.int (Int32.ofNat k)), .val (.long Q0), .second, .val (.long Q1), .second, .val (.long Q2), .second, .val (.ref ra), .val (.ref qa), .val (.ref r), .val (.ref q), .val (.long r1), .second, .val (.long r2), .second, .unset, .unset, .unset, .unset, .unset, .unset, .unset, .unset] [(.int (1 : Int32)), (.int (Int32.ofNat k))])) _
  refine XS.icmpNo X0.here hx rfl (hb hby at_239) rfl (tlt hc239).2.2.2 ?_
  show Steps p.tables e below (T0.setTop (mkF m 242 #[.val (.long q1), .second, .val (.long q2), .second, .val (.long q3), .second, .val (.long q4), .second, .val (.int p5), .val (.int p6), .val (.long P0), .second, .val (.long P1), .second, .val (.long P2), .second, .val (.long DM), .second, .val (.int (Int32.ofNat n)), .val (.int (Int32.ofNat k)), .val (.long Q0), .second, .val (.long Q1), .second, .val (.long Q2), .second, .val (.ref ra), .val (.ref qa), .val (.ref r), .val (.ref q), .val (.long r1), .second, .val (.long r2), .second, .unset, .unset, .unset, .unset, .unset, .unset, .unset, .unset] [])) _
  refine XS.lload X0.here hx rfl (hb hby at_242) rfl ?_
  show Steps p.tables e below (T0.setTop (mkF m 244 #[.val (.long q1), .second, .val (.long q2), .second, .val (.long q3), .second, .val (.long q4), .second, .val (.int p5), .val (.int p6), .val (.long P0), .second, .val (.long P1), .second, .val (.long P2), .second, .val (.long DM), .second, .val (.int (Int32.ofNat n)), .val (.int (Int32.ofNat k)), .val (.long Q0), .second, .val (.long Q1), .second, .val (.long Q2), .second, .val (.ref ra), .val (.ref qa), .val (.ref r), .val (.ref q), .val (.long r1), .second, .val (.long r2), .second, .unset, .unset, .unset, .unset, .unset, .unset, .unset, .unset] [(.long Q1)])) _
  refine XS.goto X0.here hx rfl (pc0 := 244) (pc' := 248) rfl (hb hby at_244) (by decide) (by decide) ?_
  show Steps p.tables e below (T0.setTop (mkF m 248 #[.val (.long q1), .second, .val (.long q2), .second, .val (.long q3), .second, .val (.long q4), .second, .val (.int p5), .val (.int p6), .val (.long P0), .second, .val (.long P1), .second, .val (.long P2), .second, .val (.long DM), .second, .val (.int (Int32.ofNat n)), .val (.int (Int32.ofNat k)), .val (.long Q0), .second, .val (.long Q1), .second, .val (.long Q2), .second, .val (.ref ra), .val (.ref qa), .val (.ref r), .val (.ref q), .val (.long r1), .second, .val (.long r2), .second, .unset, .unset, .unset, .unset, .unset, .unset, .unset, .unset] [(.long Q1)])) _
  refine XS.lstore X0.here hx rfl (hb hby at_248) rfl (l' := #[.val (.long q1), .second, .val (.long q2), .second, .val (.long q3), .second, .val (.long q4), .second, .val (.int p5), .val (.int p6), .val (.long P0), .second, .val (.long P1), .second, .val (.long P2), .second, .val (.long DM), .second, .val (.int (Int32.ofNat n)), .val (.int (Int32.ofNat k)), .val (.long Q0), .second, .val (.long Q1), .second, .val (.long Q2), .second, .val (.ref ra), .val (.ref qa), .val (.ref r), .val (.ref q), .val (.long r1), .second, .val (.long r2), .second, .val (.long Q1), .second, .unset, .unset, .unset, .unset, .unset, .unset]) rfl ?_
  exact kt
set_option maxRecDepth 65536 in
set_option maxHeartbeats 40000000 in
theorem tn0_236_250t {p : Program} {l : Launch} {e : Env} {R : Room} {s : State} {m : MethodId} {args : Array Value} {below : List Frame} {meth : Method} {c : Code} {T0 : State} {locs : List Loc} {cells slots : Nat} {Z : State} {a0 : Array Value} {h0 : Heap} (q1 q2 q3 q4 : Int64) (p5 p6 : Int32) (P0 P1 P2 DM : Int64) (n k : Nat) (Q0 Q1 Q2 : Int64) (ra qa r q : Addr) (r1 : Int64) (r2 : Int64)
    (X0 : Stand p l e R s m args below meth c T0 locs cells slots) (hx : p.tables.exec = Jvm.exec) (hZ : Z.Warmed39 s.vm) (hw : ∀ d ∈ tables_1, d.before a0 Z = true) (hby : c.code = code) (hml : c.maxLocals = 42) (hown : s.vm.findClass "com/example/updrift/updrift/model/ReleaseNumberOfPinLaw" = some m.cls) (e0 : T0.heap = h0) (hc239 : ¬ ((1 : Int32) < (Int32.ofNat k))) :
    ∃ (T' : State), Stand p l e R s m args below meth c T' locs cells slots ∧ T'.heap = h0 ∧
      ∀ target, Steps p.tables e below (T'.setTop (mkF m 250 #[.val (.long q1), .second, .val (.long q2), .second, .val (.long q3), .second, .val (.long q4), .second, .val (.int p5), .val (.int p6), .val (.long P0), .second, .val (.long P1), .second, .val (.long P2), .second, .val (.long DM), .second, .val (.int (Int32.ofNat n)), .val (.int (Int32.ofNat k)), .val (.long Q0), .second, .val (.long Q1), .second, .val (.long Q2), .second, .val (.ref ra), .val (.ref qa), .val (.ref r), .val (.ref q), .val (.long r1), .second, .val (.long r2), .second, .val (.long (0 : Int64)), .second, .unset, .unset, .unset, .unset, .unset, .unset] [])) target → Steps p.tables e below (T0.setTop (mkF m 236 #[.val (.long q1), .second, .val (.long q2), .second, .val (.long q3), .second, .val (.long q4), .second, .val (.int p5), .val (.int p6), .val (.long P0), .second, .val (.long P1), .second, .val (.long P2), .second, .val (.long DM), .second, .val (.int (Int32.ofNat n)), .val (.int (Int32.ofNat k)), .val (.long Q0), .second, .val (.long Q1), .second, .val (.long Q2), .second, .val (.ref ra), .val (.ref qa), .val (.ref r), .val (.ref q), .val (.long r1), .second, .val (.long r2), .second, .unset, .unset, .unset, .unset, .unset, .unset, .unset, .unset] [])) target := by

  refine ⟨T0, X0, e0, fun target kt => ?_⟩
  show Steps p.tables e below (T0.setTop (mkF m 236 #[.val (.long q1), .second, .val (.long q2), .second, .val (.long q3), .second, .val (.long q4), .second, .val (.int p5), .val (.int p6), .val (.long P0), .second, .val (.long P1), .second, .val (.long P2), .second, .val (.long DM), .second, .val (.int (Int32.ofNat n)), .val (.int (Int32.ofNat k)), .val (.long Q0), .second, .val (.long Q1), .second, .val (.long Q2), .second, .val (.ref ra), .val (.ref qa), .val (.ref r), .val (.ref q), .val (.long r1), .second, .val (.long r2), .second, .unset, .unset, .unset, .unset, .unset, .unset, .unset, .unset] [])) _
  refine XS.iload X0.here hx rfl (hb hby at_236) rfl ?_
  show Steps p.tables e below (T0.setTop (mkF m 238 #[.val (.long q1), .second, .val (.long q2), .second, .val (.long q3), .second, .val (.long q4), .second, .val (.int p5), .val (.int p6), .val (.long P0), .second, .val (.long P1), .second, .val (.long P2), .second, .val (.long DM), .second, .val (.int (Int32.ofNat n)), .val (.int (Int32.ofNat k)), .val (.long Q0), .second, .val (.long Q1), .second, .val (.long Q2), .second, .val (.ref ra), .val (.ref qa), .val (.ref r), .val (.ref q), .val (.long r1), .second, .val (.long r2), .second, .unset, .unset, .unset, .unset, .unset, .unset, .unset, .unset] [(.int (Int32.ofNat k))])) _
  refine XS.iconst X0.here hx rfl (hb hby at_238) ?_
  show Steps p.tables e below (T0.setTop (mkF m 239 #[.val (.long q1), .second, .val (.long q2), .second, .val (.long q3), .second, .val (.long q4), .second, .val (.int p5), .val (.int p6), .val (.long P0), .second, .val (.long P1), .second, .val (.long P2), .second, .val (.long DM), .second, .val (.int (Int32.ofNat n)), .val (.int (Int32.ofNat k)), .val (.long Q0), .second, .val (.long Q1), .second, .val (.long Q2), .second, .val (.ref ra), .val (.ref qa), .val (.ref r), .val (.ref q), .val (.long r1), .second, .val (.long r2), .second, .unset, .unset, .unset, .unset, .unset, .unset, .unset, .unset] [(.int (1 : Int32)), (.int (Int32.ofNat k))])) _
  refine XS.icmpYes X0.here hx rfl (pc0 := 239) (pc' := 247) rfl (hb hby at_239) rfl (flt hc239).2.2.2 (by decide) (by decide) ?_
  show Steps p.tables e below (T0.setTop (mkF m 247 #[.val (.long q1), .second, .val (.long q2), .second, .val (.long q3), .second, .val (.long q4), .second, .val (.int p5), .val (.int p6), .val (.long P0), .second, .val (.long P1), .second, .val (.long P2), .second, .val (.long DM), .second, .val (.int (Int32.ofNat n)), .val (.int (Int32.ofNat k)), .val (.long Q0), .second, .val (.long Q1), .second, .val (.long Q2), .second, .val (.ref ra), .val (.ref qa), .val (.ref r), .val (.ref q), .val (.long r1), .second, .val (.long r2), .second, .unset, .unset, .unset, .unset, .unset, .unset, .unset, .unset] [])) _
  refine XS.lconst X0.here hx rfl (hb hby at_247) ?_
  show Steps p.tables e below (T0.setTop (mkF m 248 #[.val (.long q1), .second, .val (.long q2), .second, .val (.long q3), .second, .val (.long q4), .second, .val (.int p5), .val (.int p6), .val (.long P0), .second, .val (.long P1), .second, .val (.long P2), .second, .val (.long DM), .second, .val (.int (Int32.ofNat n)), .val (.int (Int32.ofNat k)), .val (.long Q0), .second, .val (.long Q1), .second, .val (.long Q2), .second, .val (.ref ra), .val (.ref qa), .val (.ref r), .val (.ref q), .val (.long r1), .second, .val (.long r2), .second, .unset, .unset, .unset, .unset, .unset, .unset, .unset, .unset] [(.long (0 : Int64))])) _
  refine XS.lstore X0.here hx rfl (hb hby at_248) rfl (l' := #[.val (.long q1), .second, .val (.long q2), .second, .val (.long q3), .second, .val (.long q4), .second, .val (.int p5), .val (.int p6), .val (.long P0), .second, .val (.long P1), .second, .val (.long P2), .second, .val (.long DM), .second, .val (.int (Int32.ofNat n)), .val (.int (Int32.ofNat k)), .val (.long Q0), .second, .val (.long Q1), .second, .val (.long Q2), .second, .val (.ref ra), .val (.ref qa), .val (.ref r), .val (.ref q), .val (.long r1), .second, .val (.long r2), .second, .val (.long (0 : Int64)), .second, .unset, .unset, .unset, .unset, .unset, .unset]) rfl ?_
  exact kt
theorem own_s5_s1 {p : Program} {l : Launch} {e : Env} {R : Room} {s : State} {m : MethodId} {args : Array Value} {below : List Frame} {meth : Method} {c : Code} {T0 : State} {locs : List Loc} {cells slots : Nat} {Z : State} {a0 : Array Value} {h0 : Heap} (q1 q2 q3 q4 : Int64) (p5 p6 : Int32) (P0 P1 P2 DM : Int64) (n k : Nat) (Q0 Q1 Q2 : Int64) (ra qa r q : Addr) (r1 : Int64) (r2 : Int64) (s1 : Int64) (hq : own_part k (own_f3 Q0 Q1 Q2) 1 = s1) (hn3 : k ≤ 3)
    (X0 : Stand p l e R s m args below meth c T0 locs cells slots) (hx : p.tables.exec = Jvm.exec) (hZ : Z.Warmed39 s.vm) (hw : ∀ d ∈ tables_1, d.before a0 Z = true) (hby : c.code = code) (hml : c.maxLocals = 42) (hown : s.vm.findClass "com/example/updrift/updrift/model/ReleaseNumberOfPinLaw" = some m.cls) (e0 : T0.heap = h0) :
    ∃ (T' : State), Stand p l e R s m args below meth c T' locs cells slots ∧ T'.heap = h0 ∧
      ∀ target, Steps p.tables e below (T'.setTop (mkF m 250 #[.val (.long q1), .second, .val (.long q2), .second, .val (.long q3), .second, .val (.long q4), .second, .val (.int p5), .val (.int p6), .val (.long P0), .second, .val (.long P1), .second, .val (.long P2), .second, .val (.long DM), .second, .val (.int (Int32.ofNat n)), .val (.int (Int32.ofNat k)), .val (.long Q0), .second, .val (.long Q1), .second, .val (.long Q2), .second, .val (.ref ra), .val (.ref qa), .val (.ref r), .val (.ref q), .val (.long r1), .second, .val (.long r2), .second, .val (.long s1), .second, .unset, .unset, .unset, .unset, .unset, .unset] [])) target → Steps p.tables e below (T0.setTop (mkF m 236 #[.val (.long q1), .second, .val (.long q2), .second, .val (.long q3), .second, .val (.long q4), .second, .val (.int p5), .val (.int p6), .val (.long P0), .second, .val (.long P1), .second, .val (.long P2), .second, .val (.long DM), .second, .val (.int (Int32.ofNat n)), .val (.int (Int32.ofNat k)), .val (.long Q0), .second, .val (.long Q1), .second, .val (.long Q2), .second, .val (.ref ra), .val (.ref qa), .val (.ref r), .val (.ref q), .val (.long r1), .second, .val (.long r2), .second, .unset, .unset, .unset, .unset, .unset, .unset, .unset, .unset] [])) target := by
  subst hq
  unfold own_part
  by_cases hc : 1 < k
  · rw [if_pos hc]
    exact tn0_236_250f q1 q2 q3 q4 p5 p6 P0 P1 P2 DM n k Q0 Q1 Q2 ra qa r q r1 r2 X0 hx hZ hw hby hml hown e0 (own_lt hc hn3)
  · rw [if_neg hc]
    exact tn0_236_250t q1 q2 q3 q4 p5 p6 P0 P1 P2 DM n k Q0 Q1 Q2 ra qa r q r1 r2 X0 hx hZ hw hby hml hown e0 (by
      show ¬ (Int32.ofNat 1 < Int32.ofNat k)
      rw [Int32.lt_iff_toInt_lt, Int32.toInt_ofNat_of_lt (by omega), Int32.toInt_ofNat_of_lt (by omega)]; omega)
set_option maxRecDepth 65536 in
set_option maxHeartbeats 40000000 in
theorem tn0_250_264f {p : Program} {l : Launch} {e : Env} {R : Room} {s : State} {m : MethodId} {args : Array Value} {below : List Frame} {meth : Method} {c : Code} {T0 : State} {locs : List Loc} {cells slots : Nat} {Z : State} {a0 : Array Value} {h0 : Heap} (q1 q2 q3 q4 : Int64) (p5 p6 : Int32) (P0 P1 P2 DM : Int64) (n k : Nat) (Q0 Q1 Q2 : Int64) (ra qa r q : Addr) (r1 : Int64) (r2 : Int64) (s1 : Int64)
    (X0 : Stand p l e R s m args below meth c T0 locs cells slots) (hx : p.tables.exec = Jvm.exec) (hZ : Z.Warmed39 s.vm) (hw : ∀ d ∈ tables_1, d.before a0 Z = true) (hby : c.code = code) (hml : c.maxLocals = 42) (hown : s.vm.findClass "com/example/updrift/updrift/model/ReleaseNumberOfPinLaw" = some m.cls) (e0 : T0.heap = h0) (hc253 : (2 : Int32) < (Int32.ofNat k)) :
    ∃ (T' : State), Stand p l e R s m args below meth c T' locs cells slots ∧ T'.heap = h0 ∧
      ∀ target, Steps p.tables e below (T'.setTop (mkF m 264 #[.val (.long q1), .second, .val (.long q2), .second, .val (.long q3), .second, .val (.long q4), .second, .val (.int p5), .val (.int p6), .val (.long P0), .second, .val (.long P1), .second, .val (.long P2), .second, .val (.long DM), .second, .val (.int (Int32.ofNat n)), .val (.int (Int32.ofNat k)), .val (.long Q0), .second, .val (.long Q1), .second, .val (.long Q2), .second, .val (.ref ra), .val (.ref qa), .val (.ref r), .val (.ref q), .val (.long r1), .second, .val (.long r2), .second, .val (.long s1), .second, .val (.long Q2), .second, .unset, .unset, .unset, .unset] [])) target → Steps p.tables e below (T0.setTop (mkF m 250 #[.val (.long q1), .second, .val (.long q2), .second, .val (.long q3), .second, .val (.long q4), .second, .val (.int p5), .val (.int p6), .val (.long P0), .second, .val (.long P1), .second, .val (.long P2), .second, .val (.long DM), .second, .val (.int (Int32.ofNat n)), .val (.int (Int32.ofNat k)), .val (.long Q0), .second, .val (.long Q1), .second, .val (.long Q2), .second, .val (.ref ra), .val (.ref qa), .val (.ref r), .val (.ref q), .val (.long r1), .second, .val (.long r2), .second, .val (.long s1), .second, .unset, .unset, .unset, .unset, .unset, .unset] [])) target := by

  refine ⟨T0, X0, e0, fun target kt => ?_⟩
  show Steps p.tables e below (T0.setTop (mkF m 250 #[.val (.long q1), .second, .val (.long q2), .second, .val (.long q3), .second, .val (.long q4), .second, .val (.int p5), .val (.int p6), .val (.long P0), .second, .val (.long P1), .second, .val (.long P2), .second, .val (.long DM), .second, .val (.int (Int32.ofNat n)), .val (.int (Int32.ofNat k)), .val (.long Q0), .second, .val (.long Q1), .second, .val (.long Q2), .second, .val (.ref ra), .val (.ref qa), .val (.ref r), .val (.ref q), .val (.long r1), .second, .val (.long r2), .second, .val (.long s1), .second, .unset, .unset, .unset, .unset, .unset, .unset] [])) _
  refine XS.iload X0.here hx rfl (hb hby at_250) rfl ?_
  show Steps p.tables e below (T0.setTop (mkF m 252 #[.val (.long q1), .second, .val (.long q2), .second, .val (.long q3), .second, .val (.long q4), .second, .val (.int p5), .val (.int p6), .val (.long P0), .second, .val (.long P1), .second, .val (.long P2), .second, .val (.long DM), .second, .val (.int (Int32.ofNat n)), .val (.int (Int32.ofNat k)), .val (.long Q0), .second, .val (.long Q1), .second, .val (.long Q2), .second, .val (.ref ra), .val (.ref qa), .val (.ref r), .val (.ref q), .val (.long r1), .second, .val (.long r2), .second, .val (.long s1), .second, .unset, .unset, .unset, .unset, .unset, .unset] [(.int (Int32.ofNat k))])) _
  refine XS.iconst X0.here hx rfl (hb hby at_252) ?_
  show Steps p.tables e below (T0.setTop (mkF m 253 #[.val (.long q1), .second, .val (.long q2), .second, .val (.long q3), .second, .val (.long q4), .second, .val (.int p5), .val (.int p6), .val (.long P0), .second, .val (.long P1), .second, .val (.long P2), .second, .val (.long DM), .second, .val (.int (Int32.ofNat n)), .val (.int (Int32.ofNat k)), .val (.long Q0), .second, .val (.long Q1), .second, .val (.long Q2), .second, .val (.ref ra), .val (.ref qa), .val (.ref r), .val (.ref q), .val (.long r1), .second, .val (.long r2), .second, .val (.long s1), .second, .unset, .unset, .unset, .unset, .unset, .unset] [(.int (2 : Int32)), (.int (Int32.ofNat k))])) _
  refine XS.icmpNo X0.here hx rfl (hb hby at_253) rfl (tlt hc253).2.2.2 ?_
  show Steps p.tables e below (T0.setTop (mkF m 256 #[.val (.long q1), .second, .val (.long q2), .second, .val (.long q3), .second, .val (.long q4), .second, .val (.int p5), .val (.int p6), .val (.long P0), .second, .val (.long P1), .second, .val (.long P2), .second, .val (.long DM), .second, .val (.int (Int32.ofNat n)), .val (.int (Int32.ofNat k)), .val (.long Q0), .second, .val (.long Q1), .second, .val (.long Q2), .second, .val (.ref ra), .val (.ref qa), .val (.ref r), .val (.ref q), .val (.long r1), .second, .val (.long r2), .second, .val (.long s1), .second, .unset, .unset, .unset, .unset, .unset, .unset] [])) _
  refine XS.lload X0.here hx rfl (hb hby at_256) rfl ?_
  show Steps p.tables e below (T0.setTop (mkF m 258 #[.val (.long q1), .second, .val (.long q2), .second, .val (.long q3), .second, .val (.long q4), .second, .val (.int p5), .val (.int p6), .val (.long P0), .second, .val (.long P1), .second, .val (.long P2), .second, .val (.long DM), .second, .val (.int (Int32.ofNat n)), .val (.int (Int32.ofNat k)), .val (.long Q0), .second, .val (.long Q1), .second, .val (.long Q2), .second, .val (.ref ra), .val (.ref qa), .val (.ref r), .val (.ref q), .val (.long r1), .second, .val (.long r2), .second, .val (.long s1), .second, .unset, .unset, .unset, .unset, .unset, .unset] [(.long Q2)])) _
  refine XS.goto X0.here hx rfl (pc0 := 258) (pc' := 262) rfl (hb hby at_258) (by decide) (by decide) ?_
  show Steps p.tables e below (T0.setTop (mkF m 262 #[.val (.long q1), .second, .val (.long q2), .second, .val (.long q3), .second, .val (.long q4), .second, .val (.int p5), .val (.int p6), .val (.long P0), .second, .val (.long P1), .second, .val (.long P2), .second, .val (.long DM), .second, .val (.int (Int32.ofNat n)), .val (.int (Int32.ofNat k)), .val (.long Q0), .second, .val (.long Q1), .second, .val (.long Q2), .second, .val (.ref ra), .val (.ref qa), .val (.ref r), .val (.ref q), .val (.long r1), .second, .val (.long r2), .second, .val (.long s1), .second, .unset, .unset, .unset, .unset, .unset, .unset] [(.long Q2)])) _
  refine XS.lstore X0.here hx rfl (hb hby at_262) rfl (l' := #[.val (.long q1), .second, .val (.long q2), .second, .val (.long q3), .second, .val (.long q4), .second, .val (.int p5), .val (.int p6), .val (.long P0), .second, .val (.long P1), .second, .val (.long P2), .second, .val (.long DM), .second, .val (.int (Int32.ofNat n)), .val (.int (Int32.ofNat k)), .val (.long Q0), .second, .val (.long Q1), .second, .val (.long Q2), .second, .val (.ref ra), .val (.ref qa), .val (.ref r), .val (.ref q), .val (.long r1), .second, .val (.long r2), .second, .val (.long s1), .second, .val (.long Q2), .second, .unset, .unset, .unset, .unset]) rfl ?_
  exact kt
set_option maxRecDepth 65536 in
set_option maxHeartbeats 40000000 in
theorem tn0_250_264t {p : Program} {l : Launch} {e : Env} {R : Room} {s : State} {m : MethodId} {args : Array Value} {below : List Frame} {meth : Method} {c : Code} {T0 : State} {locs : List Loc} {cells slots : Nat} {Z : State} {a0 : Array Value} {h0 : Heap} (q1 q2 q3 q4 : Int64) (p5 p6 : Int32) (P0 P1 P2 DM : Int64) (n k : Nat) (Q0 Q1 Q2 : Int64) (ra qa r q : Addr) (r1 : Int64) (r2 : Int64) (s1 : Int64)
    (X0 : Stand p l e R s m args below meth c T0 locs cells slots) (hx : p.tables.exec = Jvm.exec) (hZ : Z.Warmed39 s.vm) (hw : ∀ d ∈ tables_1, d.before a0 Z = true) (hby : c.code = code) (hml : c.maxLocals = 42) (hown : s.vm.findClass "com/example/updrift/updrift/model/ReleaseNumberOfPinLaw" = some m.cls) (e0 : T0.heap = h0) (hc253 : ¬ ((2 : Int32) < (Int32.ofNat k))) :
    ∃ (T' : State), Stand p l e R s m args below meth c T' locs cells slots ∧ T'.heap = h0 ∧
      ∀ target, Steps p.tables e below (T'.setTop (mkF m 264 #[.val (.long q1), .second, .val (.long q2), .second, .val (.long q3), .second, .val (.long q4), .second, .val (.int p5), .val (.int p6), .val (.long P0), .second, .val (.long P1), .second, .val (.long P2), .second, .val (.long DM), .second, .val (.int (Int32.ofNat n)), .val (.int (Int32.ofNat k)), .val (.long Q0), .second, .val (.long Q1), .second, .val (.long Q2), .second, .val (.ref ra), .val (.ref qa), .val (.ref r), .val (.ref q), .val (.long r1), .second, .val (.long r2), .second, .val (.long s1), .second, .val (.long (0 : Int64)), .second, .unset, .unset, .unset, .unset] [])) target → Steps p.tables e below (T0.setTop (mkF m 250 #[.val (.long q1), .second, .val (.long q2), .second, .val (.long q3), .second, .val (.long q4), .second, .val (.int p5), .val (.int p6), .val (.long P0), .second, .val (.long P1), .second, .val (.long P2), .second, .val (.long DM), .second, .val (.int (Int32.ofNat n)), .val (.int (Int32.ofNat k)), .val (.long Q0), .second, .val (.long Q1), .second, .val (.long Q2), .second, .val (.ref ra), .val (.ref qa), .val (.ref r), .val (.ref q), .val (.long r1), .second, .val (.long r2), .second, .val (.long s1), .second, .unset, .unset, .unset, .unset, .unset, .unset] [])) target := by

  refine ⟨T0, X0, e0, fun target kt => ?_⟩
  show Steps p.tables e below (T0.setTop (mkF m 250 #[.val (.long q1), .second, .val (.long q2), .second, .val (.long q3), .second, .val (.long q4), .second, .val (.int p5), .val (.int p6), .val (.long P0), .second, .val (.long P1), .second, .val (.long P2), .second, .val (.long DM), .second, .val (.int (Int32.ofNat n)), .val (.int (Int32.ofNat k)), .val (.long Q0), .second, .val (.long Q1), .second, .val (.long Q2), .second, .val (.ref ra), .val (.ref qa), .val (.ref r), .val (.ref q), .val (.long r1), .second, .val (.long r2), .second, .val (.long s1), .second, .unset, .unset, .unset, .unset, .unset, .unset] [])) _
  refine XS.iload X0.here hx rfl (hb hby at_250) rfl ?_
  show Steps p.tables e below (T0.setTop (mkF m 252 #[.val (.long q1), .second, .val (.long q2), .second, .val (.long q3), .second, .val (.long q4), .second, .val (.int p5), .val (.int p6), .val (.long P0), .second, .val (.long P1), .second, .val (.long P2), .second, .val (.long DM), .second, .val (.int (Int32.ofNat n)), .val (.int (Int32.ofNat k)), .val (.long Q0), .second, .val (.long Q1), .second, .val (.long Q2), .second, .val (.ref ra), .val (.ref qa), .val (.ref r), .val (.ref q), .val (.long r1), .second, .val (.long r2), .second, .val (.long s1), .second, .unset, .unset, .unset, .unset, .unset, .unset] [(.int (Int32.ofNat k))])) _
  refine XS.iconst X0.here hx rfl (hb hby at_252) ?_
  show Steps p.tables e below (T0.setTop (mkF m 253 #[.val (.long q1), .second, .val (.long q2), .second, .val (.long q3), .second, .val (.long q4), .second, .val (.int p5), .val (.int p6), .val (.long P0), .second, .val (.long P1), .second, .val (.long P2), .second, .val (.long DM), .second, .val (.int (Int32.ofNat n)), .val (.int (Int32.ofNat k)), .val (.long Q0), .second, .val (.long Q1), .second, .val (.long Q2), .second, .val (.ref ra), .val (.ref qa), .val (.ref r), .val (.ref q), .val (.long r1), .second, .val (.long r2), .second, .val (.long s1), .second, .unset, .unset, .unset, .unset, .unset, .unset] [(.int (2 : Int32)), (.int (Int32.ofNat k))])) _
  refine XS.icmpYes X0.here hx rfl (pc0 := 253) (pc' := 261) rfl (hb hby at_253) rfl (flt hc253).2.2.2 (by decide) (by decide) ?_
  show Steps p.tables e below (T0.setTop (mkF m 261 #[.val (.long q1), .second, .val (.long q2), .second, .val (.long q3), .second, .val (.long q4), .second, .val (.int p5), .val (.int p6), .val (.long P0), .second, .val (.long P1), .second, .val (.long P2), .second, .val (.long DM), .second, .val (.int (Int32.ofNat n)), .val (.int (Int32.ofNat k)), .val (.long Q0), .second, .val (.long Q1), .second, .val (.long Q2), .second, .val (.ref ra), .val (.ref qa), .val (.ref r), .val (.ref q), .val (.long r1), .second, .val (.long r2), .second, .val (.long s1), .second, .unset, .unset, .unset, .unset, .unset, .unset] [])) _
  refine XS.lconst X0.here hx rfl (hb hby at_261) ?_
  show Steps p.tables e below (T0.setTop (mkF m 262 #[.val (.long q1), .second, .val (.long q2), .second, .val (.long q3), .second, .val (.long q4), .second, .val (.int p5), .val (.int p6), .val (.long P0), .second, .val (.long P1), .second, .val (.long P2), .second, .val (.long DM), .second, .val (.int (Int32.ofNat n)), .val (.int (Int32.ofNat k)), .val (.long Q0), .second, .val (.long Q1), .second, .val (.long Q2), .second, .val (.ref ra), .val (.ref qa), .val (.ref r), .val (.ref q), .val (.long r1), .second, .val (.long r2), .second, .val (.long s1), .second, .unset, .unset, .unset, .unset, .unset, .unset] [(.long (0 : Int64))])) _
  refine XS.lstore X0.here hx rfl (hb hby at_262) rfl (l' := #[.val (.long q1), .second, .val (.long q2), .second, .val (.long q3), .second, .val (.long q4), .second, .val (.int p5), .val (.int p6), .val (.long P0), .second, .val (.long P1), .second, .val (.long P2), .second, .val (.long DM), .second, .val (.int (Int32.ofNat n)), .val (.int (Int32.ofNat k)), .val (.long Q0), .second, .val (.long Q1), .second, .val (.long Q2), .second, .val (.ref ra), .val (.ref qa), .val (.ref r), .val (.ref q), .val (.long r1), .second, .val (.long r2), .second, .val (.long s1), .second, .val (.long (0 : Int64)), .second, .unset, .unset, .unset, .unset]) rfl ?_
  exact kt
theorem own_s5_s2 {p : Program} {l : Launch} {e : Env} {R : Room} {s : State} {m : MethodId} {args : Array Value} {below : List Frame} {meth : Method} {c : Code} {T0 : State} {locs : List Loc} {cells slots : Nat} {Z : State} {a0 : Array Value} {h0 : Heap} (q1 q2 q3 q4 : Int64) (p5 p6 : Int32) (P0 P1 P2 DM : Int64) (n k : Nat) (Q0 Q1 Q2 : Int64) (ra qa r q : Addr) (r1 : Int64) (r2 : Int64) (s1 : Int64) (s2 : Int64) (hq : own_part k (own_f3 Q0 Q1 Q2) 2 = s2) (hn3 : k ≤ 3)
    (X0 : Stand p l e R s m args below meth c T0 locs cells slots) (hx : p.tables.exec = Jvm.exec) (hZ : Z.Warmed39 s.vm) (hw : ∀ d ∈ tables_1, d.before a0 Z = true) (hby : c.code = code) (hml : c.maxLocals = 42) (hown : s.vm.findClass "com/example/updrift/updrift/model/ReleaseNumberOfPinLaw" = some m.cls) (e0 : T0.heap = h0) :
    ∃ (T' : State), Stand p l e R s m args below meth c T' locs cells slots ∧ T'.heap = h0 ∧
      ∀ target, Steps p.tables e below (T'.setTop (mkF m 264 #[.val (.long q1), .second, .val (.long q2), .second, .val (.long q3), .second, .val (.long q4), .second, .val (.int p5), .val (.int p6), .val (.long P0), .second, .val (.long P1), .second, .val (.long P2), .second, .val (.long DM), .second, .val (.int (Int32.ofNat n)), .val (.int (Int32.ofNat k)), .val (.long Q0), .second, .val (.long Q1), .second, .val (.long Q2), .second, .val (.ref ra), .val (.ref qa), .val (.ref r), .val (.ref q), .val (.long r1), .second, .val (.long r2), .second, .val (.long s1), .second, .val (.long s2), .second, .unset, .unset, .unset, .unset] [])) target → Steps p.tables e below (T0.setTop (mkF m 250 #[.val (.long q1), .second, .val (.long q2), .second, .val (.long q3), .second, .val (.long q4), .second, .val (.int p5), .val (.int p6), .val (.long P0), .second, .val (.long P1), .second, .val (.long P2), .second, .val (.long DM), .second, .val (.int (Int32.ofNat n)), .val (.int (Int32.ofNat k)), .val (.long Q0), .second, .val (.long Q1), .second, .val (.long Q2), .second, .val (.ref ra), .val (.ref qa), .val (.ref r), .val (.ref q), .val (.long r1), .second, .val (.long r2), .second, .val (.long s1), .second, .unset, .unset, .unset, .unset, .unset, .unset] [])) target := by
  subst hq
  unfold own_part
  by_cases hc : 2 < k
  · rw [if_pos hc]
    exact tn0_250_264f q1 q2 q3 q4 p5 p6 P0 P1 P2 DM n k Q0 Q1 Q2 ra qa r q r1 r2 s1 X0 hx hZ hw hby hml hown e0 (own_lt hc hn3)
  · rw [if_neg hc]
    exact tn0_250_264t q1 q2 q3 q4 p5 p6 P0 P1 P2 DM n k Q0 Q1 Q2 ra qa r q r1 r2 s1 X0 hx hZ hw hby hml hown e0 (by
      show ¬ (Int32.ofNat 2 < Int32.ofNat k)
      rw [Int32.lt_iff_toInt_lt, Int32.toInt_ofNat_of_lt (by omega), Int32.toInt_ofNat_of_lt (by omega)]; omega)
theorem pd_0_5 : parseMethodDescriptor "(JJ)I" = some ⟨[.long, .long], some .int⟩ := by decide +kernel
set_option maxRecDepth 65536 in
set_option maxHeartbeats 40000000 in
theorem own_g6 {p : Program} {l : Launch} {e : Env} {s : State} {m : MethodId} {args : Array Value} {below : List Frame} {meth : Method} {c : Code} {T0 : State} {locs : List Loc} {Z : State} {a0 : Array Value} {h0 : Heap} {n0 : Nat} (q1 q2 q3 q4 : Int64) (p5 p6 : Int32) (P0 P1 P2 DM : Int64) (n k : Nat) (Q0 Q1 Q2 : Int64) (ra qa r q : Addr) (r1 r2 s1 s2 : Int64)
    (X0 : Stand p l e room_1 s m args below meth c T0 locs 6 14) (hx : p.tables.exec = Jvm.exec) (hZ : Z.Warmed39 s.vm) (hw : ∀ d ∈ tables_1, d.before a0 Z = true) (hby : c.code = code) (hml : c.maxLocals = 42) (hown : s.vm.findClass "com/example/updrift/updrift/model/ReleaseNumberOfPinLaw" = some m.cls) (e0 : T0.heap = h0) (N0 : Fr n0 locs) (Z0 : n0 ≤ h0.size)  :
    ∃ (T' : State) (locs' : List Loc), Stand p l e room_1 s m args below meth c T' locs' 6 14 ∧ T'.heap = h0 ∧ Fr n0 locs' ∧ 
      ∀ target, Steps p.tables e below (T'.setTop (mkF m 291 #[.val (.long q1), .second, .val (.long q2), .second, .val (.long q3), .second, .val (.long q4), .second, .val (.int p5), .val (.int p6), .val (.long P0), .second, .val (.long P1), .second, .val (.long P2), .second, .val (.long DM), .second, .val (.int (Int32.ofNat n)), .val (.int (Int32.ofNat k)), .val (.long Q0), .second, .val (.long Q1), .second, .val (.long Q2), .second, .val (.ref ra), .val (.ref qa), .val (.ref r), .val (.ref q), .val (.long r1), .second, .val (.long r2), .second, .val (.long s1), .second, .val (.long s2), .second, .val (.int (own_cmp P0 Q0)), .val (.int (own_cmp r1 s1)), .val (.int (own_cmp r2 s2)), .unset] [])) target → Steps p.tables e below (T0.setTop (mkF m 264 #[.val (.long q1), .second, .val (.long q2), .second, .val (.long q3), .second, .val (.long q4), .second, .val (.int p5), .val (.int p6), .val (.long P0), .second, .val (.long P1), .second, .val (.long P2), .second, .val (.long DM), .second, .val (.int (Int32.ofNat n)), .val (.int (Int32.ofNat k)), .val (.long Q0), .second, .val (.long Q1), .second, .val (.long Q2), .second, .val (.ref ra), .val (.ref qa), .val (.ref r), .val (.ref q), .val (.long r1), .second, .val (.long r2), .second, .val (.long s1), .second, .val (.long s2), .second, .unset, .unset, .unset, .unset] [])) target := by
  obtain ⟨_, _, ⟨T7, L7, k7, n7⟩, -, X7, ⟨Lc7, hQ7, l7, y7, z7⟩, st7⟩ := Jvm.LawKit.callS X0 hx (y := (⟨"com/example/updrift/updrift/model/ReleaseNumberOfPinLaw", "cmp", "(JJ)I"⟩ : MethodName)) hown (mvT hZ (hw _ (List.mem_of_getElem? (i := 29) rfl))) (mvT hZ (hw _ (List.mem_of_getElem? (i := 30) rfl))) (mvT hZ (hw _ (List.mem_of_getElem? (i := 3) rfl))) (mvT hZ (hw _ (List.mem_of_getElem? (i := 31) rfl))) (by decide) (backOf (W := 0) (rm5 l Z a0 hw [] P0 Q0  h0 n0 Z0) hZ (hw _ (List.mem_of_getElem? (i := 31) rfl)) (hw _ (List.mem_of_getElem? (i := 3) rfl)) (by decide) (by decide)) (g := (mkF m 268 #[.val (.long q1), .second, .val (.long q2), .second, .val (.long q3), .second, .val (.long q4), .second, .val (.int p5), .val (.int p6), .val (.long P0), .second, .val (.long P1), .second, .val (.long P2), .second, .val (.long DM), .second, .val (.int (Int32.ofNat n)), .val (.int (Int32.ofNat k)), .val (.long Q0), .second, .val (.long Q1), .second, .val (.long Q2), .second, .val (.ref ra), .val (.ref qa), .val (.ref r), .val (.ref q), .val (.long r1), .second, .val (.long r2), .second, .val (.long s1), .second, .val (.long s2), .second, .unset, .unset, .unset, .unset] [(.long Q0), (.long P0)])) rfl (by rw [hml]; rfl) (argsL := [(.long P0), (.long Q0)]) (rest := []) (lenOf pd_0_5 rfl) rfl (by show 2 * 0 + _ ≤ _; exact Nat.le_of_eq rfl) (hb hby at_268) (fun _ _ => ⟨rfl, e0, (by decide : 6 + 0 ≤ _), (by decide : 14 + 0 ≤ _)⟩)
  dsimp only [Pt.U, Pt.locs, Pt.cells, Pt.slots] at X7 l7 y7 z7 st7 hQ7
  subst l7 y7 z7
  obtain ⟨rfl, N7q, e7q⟩ := hQ7
  have N7 := Fr.app N0 N7q
  have e7h : T7.heap = h0 := e7q
  have z7q : n0 ≤ T7.heap.size := by rw [e7h]; exact Z0
  obtain ⟨_, _, ⟨T8, L8, k8, n8⟩, -, X8, ⟨Lc8, hQ8, l8, y8, z8⟩, st8⟩ := Jvm.LawKit.callS X7 hx (y := (⟨"com/example/updrift/updrift/model/ReleaseNumberOfPinLaw", "cmp", "(JJ)I"⟩ : MethodName)) hown (mvT hZ (hw _ (List.mem_of_getElem? (i := 29) rfl))) (mvT hZ (hw _ (List.mem_of_getElem? (i := 30) rfl))) (mvT hZ (hw _ (List.mem_of_getElem? (i := 3) rfl))) (mvT hZ (hw _ (List.mem_of_getElem? (i := 31) rfl))) (by decide) (backOf (W := 0) (rm5 l Z a0 hw [] r1 s1  T7.heap n0 z7q) hZ (hw _ (List.mem_of_getElem? (i := 31) rfl)) (hw _ (List.mem_of_getElem? (i := 3) rfl)) (by decide) (by decide)) (g := (mkF m 277 #[.val (.long q1), .second, .val (.long q2), .second, .val (.long q3), .second, .val (.long q4), .second, .val (.int p5), .val (.int p6), .val (.long P0), .second, .val (.long P1), .second, .val (.long P2), .second, .val (.long DM), .second, .val (.int (Int32.ofNat n)), .val (.int (Int32.ofNat k)), .val (.long Q0), .second, .val (.long Q1), .second, .val (.long Q2), .second, .val (.ref ra), .val (.ref qa), .val (.ref r), .val (.ref q), .val (.long r1), .second, .val (.long r2), .second, .val (.long s1), .second, .val (.long s2), .second, .val (.int (own_cmp P0 Q0)), .unset, .unset, .unset] [(.long s1), (.long r1)])) rfl (by rw [hml]; rfl) (argsL := [(.long r1), (.long s1)]) (rest := []) (lenOf pd_0_5 rfl) rfl (by show 2 * 0 + _ ≤ _; exact Nat.le_of_eq rfl) (hb hby at_277) (fun _ _ => ⟨rfl, rfl, (by decide : 6 + 0 ≤ _), (by decide : 14 + 0 ≤ _)⟩)
  dsimp only [Pt.U, Pt.locs, Pt.cells, Pt.slots] at X8 l8 y8 z8 st8 hQ8
  subst l8 y8 z8
  obtain ⟨rfl, N8q, e8q⟩ := hQ8
  have N8 := Fr.app N7 N8q
  have e8h : T8.heap = h0 := e8q.trans e7h
  have z8q : n0 ≤ T8.heap.size := by rw [e8h]; exact Z0
  obtain ⟨_, _, ⟨T9, L9, k9, n9⟩, -, X9, ⟨Lc9, hQ9, l9, y9, z9⟩, st9⟩ := Jvm.LawKit.callS X8 hx (y := (⟨"com/example/updrift/updrift/model/ReleaseNumberOfPinLaw", "cmp", "(JJ)I"⟩ : MethodName)) hown (mvT hZ (hw _ (List.mem_of_getElem? (i := 29) rfl))) (mvT hZ (hw _ (List.mem_of_getElem? (i := 30) rfl))) (mvT hZ (hw _ (List.mem_of_getElem? (i := 3) rfl))) (mvT hZ (hw _ (List.mem_of_getElem? (i := 31) rfl))) (by decide) (backOf (W := 0) (rm5 l Z a0 hw [] r2 s2  T8.heap n0 z8q) hZ (hw _ (List.mem_of_getElem? (i := 31) rfl)) (hw _ (List.mem_of_getElem? (i := 3) rfl)) (by decide) (by decide)) (g := (mkF m 286 #[.val (.long q1), .second, .val (.long q2), .second, .val (.long q3), .second, .val (.long q4), .second, .val (.int p5), .val (.int p6), .val (.long P0), .second, .val (.long P1), .second, .val (.long P2), .second, .val (.long DM), .second, .val (.int (Int32.ofNat n)), .val (.int (Int32.ofNat k)), .val (.long Q0), .second, .val (.long Q1), .second, .val (.long Q2), .second, .val (.ref ra), .val (.ref qa), .val (.ref r), .val (.ref q), .val (.long r1), .second, .val (.long r2), .second, .val (.long s1), .second, .val (.long s2), .second, .val (.int (own_cmp P0 Q0)), .val (.int (own_cmp r1 s1)), .unset, .unset] [(.long s2), (.long r2)])) rfl (by rw [hml]; rfl) (argsL := [(.long r2), (.long s2)]) (rest := []) (lenOf pd_0_5 rfl) rfl (by show 2 * 0 + _ ≤ _; exact Nat.le_of_eq rfl) (hb hby at_286) (fun _ _ => ⟨rfl, rfl, (by decide : 6 + 0 ≤ _), (by decide : 14 + 0 ≤ _)⟩)
  dsimp only [Pt.U, Pt.locs, Pt.cells, Pt.slots] at X9 l9 y9 z9 st9 hQ9
  subst l9 y9 z9
  obtain ⟨rfl, N9q, e9q⟩ := hQ9
  have N9 := Fr.app N8 N9q
  have e9h : T9.heap = h0 := e9q.trans e8h
  have z9q : n0 ≤ T9.heap.size := by rw [e9h]; exact Z0
  refine ⟨T9, _, X9, e9h, N9, fun target kt => ?_⟩
  show Steps p.tables e below (T0.setTop (mkF m 264 #[.val (.long q1), .second, .val (.long q2), .second, .val (.long q3), .second, .val (.long q4), .second, .val (.int p5), .val (.int p6), .val (.long P0), .second, .val (.long P1), .second, .val (.long P2), .second, .val (.long DM), .second, .val (.int (Int32.ofNat n)), .val (.int (Int32.ofNat k)), .val (.long Q0), .second, .val (.long Q1), .second, .val (.long Q2), .second, .val (.ref ra), .val (.ref qa), .val (.ref r), .val (.ref q), .val (.long r1), .second, .val (.long r2), .second, .val (.long s1), .second, .val (.long s2), .second, .unset, .unset, .unset, .unset] [])) _
  refine XS.lload X0.here hx rfl (hb hby at_264) rfl ?_
  show Steps p.tables e below (T0.setTop (mkF m 266 #[.val (.long q1), .second, .val (.long q2), .second, .val (.long q3), .second, .val (.long q4), .second, .val (.int p5), .val (.int p6), .val (.long P0), .second, .val (.long P1), .second, .val (.long P2), .second, .val (.long DM), .second, .val (.int (Int32.ofNat n)), .val (.int (Int32.ofNat k)), .val (.long Q0), .second, .val (.long Q1), .second, .val (.long Q2), .second, .val (.ref ra), .val (.ref qa), .val (.ref r), .val (.ref q), .val (.long r1), .second, .val (.long r2), .second, .val (.long s1), .second, .val (.long s2), .second, .unset, .unset, .unset, .unset] [(.long P0)])) _
  refine XS.lload X0.here hx rfl (hb hby at_266) rfl ?_
  show Steps p.tables e below (T0.setTop (mkF m 268 #[.val (.long q1), .second, .val (.long q2), .second, .val (.long q3), .second, .val (.long q4), .second, .val (.int p5), .val (.int p6), .val (.long P0), .second, .val (.long P1), .second, .val (.long P2), .second, .val (.long DM), .second, .val (.int (Int32.ofNat n)), .val (.int (Int32.ofNat k)), .val (.long Q0), .second, .val (.long Q1), .second, .val (.long Q2), .second, .val (.ref ra), .val (.ref qa), .val (.ref r), .val (.ref q), .val (.long r1), .second, .val (.long r2), .second, .val (.long s1), .second, .val (.long s2), .second, .unset, .unset, .unset, .unset] [(.long Q0), (.long P0)])) _
  refine st7 _ ?_
  show Steps p.tables e below (T7.setTop (mkF m 271 #[.val (.long q1), .second, .val (.long q2), .second, .val (.long q3), .second, .val (.long q4), .second, .val (.int p5), .val (.int p6), .val (.long P0), .second, .val (.long P1), .second, .val (.long P2), .second, .val (.long DM), .second, .val (.int (Int32.ofNat n)), .val (.int (Int32.ofNat k)), .val (.long Q0), .second, .val (.long Q1), .second, .val (.long Q2), .second, .val (.ref ra), .val (.ref qa), .val (.ref r), .val (.ref q), .val (.long r1), .second, .val (.long r2), .second, .val (.long s1), .second, .val (.long s2), .second, .unset, .unset, .unset, .unset] [(.int (own_cmp P0 Q0))])) _
  refine XS.istore X7.here hx rfl (hb hby at_271) rfl (l' := #[.val (.long q1), .second, .val (.long q2), .second, .val (.long q3), .second, .val (.long q4), .second, .val (.int p5), .val (.int p6), .val (.long P0), .second, .val (.long P1), .second, .val (.long P2), .second, .val (.long DM), .second, .val (.int (Int32.ofNat n)), .val (.int (Int32.ofNat k)), .val (.long Q0), .second, .val (.long Q1), .second, .val (.long Q2), .second, .val (.ref ra), .val (.ref qa), .val (.ref r), .val (.ref q), .val (.long r1), .second, .val (.long r2), .second, .val (.long s1), .second, .val (.long s2), .second, .val (.int (own_cmp P0 Q0)), .unset, .unset, .unset]) rfl ?_
  show Steps p.tables e below (T7.setTop (mkF m 273 #[.val (.long q1), .second, .val (.long q2), .second, .val (.long q3), .second, .val (.long q4), .second, .val (.int p5), .val (.int p6), .val (.long P0), .second, .val (.long P1), .second, .val (.long P2), .second, .val (.long DM), .second, .val (.int (Int32.ofNat n)), .val (.int (Int32.ofNat k)), .val (.long Q0), .second, .val (.long Q1), .second, .val (.long Q2), .second, .val (.ref ra), .val (.ref qa), .val (.ref r), .val (.ref q), .val (.long r1), .second, .val (.long r2), .second, .val (.long s1), .second, .val (.long s2), .second, .val (.int (own_cmp P0 Q0)), .unset, .unset, .unset] [])) _
  refine XS.lload X7.here hx rfl (hb hby at_273) rfl ?_
  show Steps p.tables e below (T7.setTop (mkF m 275 #[.val (.long q1), .second, .val (.long q2), .second, .val (.long q3), .second, .val (.long q4), .second, .val (.int p5), .val (.int p6), .val (.long P0), .second, .val (.long P1), .second, .val (.long P2), .second, .val (.long DM), .second, .val (.int (Int32.ofNat n)), .val (.int (Int32.ofNat k)), .val (.long Q0), .second, .val (.long Q1), .second, .val (.long Q2), .second, .val (.ref ra), .val (.ref qa), .val (.ref r), .val (.ref q), .val (.long r1), .second, .val (.long r2), .second, .val (.long s1), .second, .val (.long s2), .second, .val (.int (own_cmp P0 Q0)), .unset, .unset, .unset] [(.long r1)])) _
  refine XS.lload X7.here hx rfl (hb hby at_275) rfl ?_
  show Steps p.tables e below (T7.setTop (mkF m 277 #[.val (.long q1), .second, .val (.long q2), .second, .val (.long q3), .second, .val (.long q4), .second, .val (.int p5), .val (.int p6), .val (.long P0), .second, .val (.long P1), .second, .val (.long P2), .second, .val (.long DM), .second, .val (.int (Int32.ofNat n)), .val (.int (Int32.ofNat k)), .val (.long Q0), .second, .val (.long Q1), .second, .val (.long Q2), .second, .val (.ref ra), .val (.ref qa), .val (.ref r), .val (.ref q), .val (.long r1), .second, .val (.long r2), .second, .val (.long s1), .second, .val (.long s2), .second, .val (.int (own_cmp P0 Q0)), .unset, .unset, .unset] [(.long s1), (.long r1)])) _
  refine st8 _ ?_
  show Steps p.tables e below (T8.setTop (mkF m 280 #[.val (.long q1), .second, .val (.long q2), .second, .val (.long q3), .second, .val (.long q4), .second, .val (.int p5), .val (.int p6), .val (.long P0), .second, .val (.long P1), .second, .val (.long P2), .second, .val (.long DM), .second, .val (.int (Int32.ofNat n)), .val (.int (Int32.ofNat k)), .val (.long Q0), .second, .val (.long Q1), .second, .val (.long Q2), .second, .val (.ref ra), .val (.ref qa), .val (.ref r), .val (.ref q), .val (.long r1), .second, .val (.long r2), .second, .val (.long s1), .second, .val (.long s2), .second, .val (.int (own_cmp P0 Q0)), .unset, .unset, .unset] [(.int (own_cmp r1 s1))])) _
  refine XS.istore X8.here hx rfl (hb hby at_280) rfl (l' := #[.val (.long q1), .second, .val (.long q2), .second, .val (.long q3), .second, .val (.long q4), .second, .val (.int p5), .val (.int p6), .val (.long P0), .second, .val (.long P1), .second, .val (.long P2), .second, .val (.long DM), .second, .val (.int (Int32.ofNat n)), .val (.int (Int32.ofNat k)), .val (.long Q0), .second, .val (.long Q1), .second, .val (.long Q2), .second, .val (.ref ra), .val (.ref qa), .val (.ref r), .val (.ref q), .val (.long r1), .second, .val (.long r2), .second, .val (.long s1), .second, .val (.long s2), .second, .val (.int (own_cmp P0 Q0)), .val (.int (own_cmp r1 s1)), .unset, .unset]) rfl ?_
  show Steps p.tables e below (T8.setTop (mkF m 282 #[.val (.long q1), .second, .val (.long q2), .second, .val (.long q3), .second, .val (.long q4), .second, .val (.int p5), .val (.int p6), .val (.long P0), .second, .val (.long P1), .second, .val (.long P2), .second, .val (.long DM), .second, .val (.int (Int32.ofNat n)), .val (.int (Int32.ofNat k)), .val (.long Q0), .second, .val (.long Q1), .second, .val (.long Q2), .second, .val (.ref ra), .val (.ref qa), .val (.ref r), .val (.ref q), .val (.long r1), .second, .val (.long r2), .second, .val (.long s1), .second, .val (.long s2), .second, .val (.int (own_cmp P0 Q0)), .val (.int (own_cmp r1 s1)), .unset, .unset] [])) _
  refine XS.lload X8.here hx rfl (hb hby at_282) rfl ?_
  show Steps p.tables e below (T8.setTop (mkF m 284 #[.val (.long q1), .second, .val (.long q2), .second, .val (.long q3), .second, .val (.long q4), .second, .val (.int p5), .val (.int p6), .val (.long P0), .second, .val (.long P1), .second, .val (.long P2), .second, .val (.long DM), .second, .val (.int (Int32.ofNat n)), .val (.int (Int32.ofNat k)), .val (.long Q0), .second, .val (.long Q1), .second, .val (.long Q2), .second, .val (.ref ra), .val (.ref qa), .val (.ref r), .val (.ref q), .val (.long r1), .second, .val (.long r2), .second, .val (.long s1), .second, .val (.long s2), .second, .val (.int (own_cmp P0 Q0)), .val (.int (own_cmp r1 s1)), .unset, .unset] [(.long r2)])) _
  refine XS.lload X8.here hx rfl (hb hby at_284) rfl ?_
  show Steps p.tables e below (T8.setTop (mkF m 286 #[.val (.long q1), .second, .val (.long q2), .second, .val (.long q3), .second, .val (.long q4), .second, .val (.int p5), .val (.int p6), .val (.long P0), .second, .val (.long P1), .second, .val (.long P2), .second, .val (.long DM), .second, .val (.int (Int32.ofNat n)), .val (.int (Int32.ofNat k)), .val (.long Q0), .second, .val (.long Q1), .second, .val (.long Q2), .second, .val (.ref ra), .val (.ref qa), .val (.ref r), .val (.ref q), .val (.long r1), .second, .val (.long r2), .second, .val (.long s1), .second, .val (.long s2), .second, .val (.int (own_cmp P0 Q0)), .val (.int (own_cmp r1 s1)), .unset, .unset] [(.long s2), (.long r2)])) _
  refine st9 _ ?_
  show Steps p.tables e below (T9.setTop (mkF m 289 #[.val (.long q1), .second, .val (.long q2), .second, .val (.long q3), .second, .val (.long q4), .second, .val (.int p5), .val (.int p6), .val (.long P0), .second, .val (.long P1), .second, .val (.long P2), .second, .val (.long DM), .second, .val (.int (Int32.ofNat n)), .val (.int (Int32.ofNat k)), .val (.long Q0), .second, .val (.long Q1), .second, .val (.long Q2), .second, .val (.ref ra), .val (.ref qa), .val (.ref r), .val (.ref q), .val (.long r1), .second, .val (.long r2), .second, .val (.long s1), .second, .val (.long s2), .second, .val (.int (own_cmp P0 Q0)), .val (.int (own_cmp r1 s1)), .unset, .unset] [(.int (own_cmp r2 s2))])) _
  refine XS.istore X9.here hx rfl (hb hby at_289) rfl (l' := #[.val (.long q1), .second, .val (.long q2), .second, .val (.long q3), .second, .val (.long q4), .second, .val (.int p5), .val (.int p6), .val (.long P0), .second, .val (.long P1), .second, .val (.long P2), .second, .val (.long DM), .second, .val (.int (Int32.ofNat n)), .val (.int (Int32.ofNat k)), .val (.long Q0), .second, .val (.long Q1), .second, .val (.long Q2), .second, .val (.ref ra), .val (.ref qa), .val (.ref r), .val (.ref q), .val (.long r1), .second, .val (.long r2), .second, .val (.long s1), .second, .val (.long s2), .second, .val (.int (own_cmp P0 Q0)), .val (.int (own_cmp r1 s1)), .val (.int (own_cmp r2 s2)), .unset]) rfl ?_
  exact kt
theorem own_j6 {p : Program} {l : Launch} {e : Env} {s : State} {m : MethodId} {args : Array Value} {below : List Frame} {meth : Method} {c : Code} {T0 : State} {locs : List Loc} {Z : State} {a0 : Array Value} {h0 : Heap} {n0 : Nat} (q1 q2 q3 q4 : Int64) (p5 p6 : Int32) (P0 P1 P2 DM : Int64) (n k : Nat) (Q0 Q1 Q2 : Int64) (ra qa r q : Addr) (r1 r2 s1 s2 : Int64) (c0 c1 c2 : Int32) (h0c : own_cmp P0 Q0 = c0) (h1c : own_cmp r1 s1 = c1) (h2c : own_cmp r2 s2 = c2)
    (X0 : Stand p l e room_1 s m args below meth c T0 locs 6 14) (hx : p.tables.exec = Jvm.exec) (hZ : Z.Warmed39 s.vm) (hw : ∀ d ∈ tables_1, d.before a0 Z = true) (hby : c.code = code) (hml : c.maxLocals = 42) (hown : s.vm.findClass "com/example/updrift/updrift/model/ReleaseNumberOfPinLaw" = some m.cls) (e0 : T0.heap = h0) (N0 : Fr n0 locs) (Z0 : n0 ≤ h0.size) :
    ∃ (T' : State) (locs' : List Loc), Stand p l e room_1 s m args below meth c T' locs' 6 14 ∧ T'.heap = h0 ∧ Fr n0 locs' ∧
      ∀ target, Steps p.tables e below (T'.setTop (mkF m 291 #[.val (.long q1), .second, .val (.long q2), .second, .val (.long q3), .second, .val (.long q4), .second, .val (.int p5), .val (.int p6), .val (.long P0), .second, .val (.long P1), .second, .val (.long P2), .second, .val (.long DM), .second, .val (.int (Int32.ofNat n)), .val (.int (Int32.ofNat k)), .val (.long Q0), .second, .val (.long Q1), .second, .val (.long Q2), .second, .val (.ref ra), .val (.ref qa), .val (.ref r), .val (.ref q), .val (.long r1), .second, .val (.long r2), .second, .val (.long s1), .second, .val (.long s2), .second, .val (.int c0), .val (.int c1), .val (.int c2), .unset] [])) target → Steps p.tables e below (T0.setTop (mkF m 264 #[.val (.long q1), .second, .val (.long q2), .second, .val (.long q3), .second, .val (.long q4), .second, .val (.int p5), .val (.int p6), .val (.long P0), .second, .val (.long P1), .second, .val (.long P2), .second, .val (.long DM), .second, .val (.int (Int32.ofNat n)), .val (.int (Int32.ofNat k)), .val (.long Q0), .second, .val (.long Q1), .second, .val (.long Q2), .second, .val (.ref ra), .val (.ref qa), .val (.ref r), .val (.ref q), .val (.long r1), .second, .val (.long r2), .second, .val (.long s1), .second, .val (.long s2), .second, .unset, .unset, .unset, .unset] [])) target := by
  subst h0c h1c h2c
  exact own_g6 q1 q2 q3 q4 p5 p6 P0 P1 P2 DM n k Q0 Q1 Q2 ra qa r q r1 r2 s1 s2 X0 hx hZ hw hby hml hown e0 N0 Z0
set_option maxRecDepth 65536 in
set_option maxHeartbeats 40000000 in
theorem tn0_291_315f {p : Program} {l : Launch} {e : Env} {R : Room} {s : State} {m : MethodId} {args : Array Value} {below : List Frame} {meth : Method} {c : Code} {T0 : State} {locs : List Loc} {cells slots : Nat} {Z : State} {a0 : Array Value} {h0 : Heap} (q1 q2 q3 q4 : Int64) (p5 p6 : Int32) (P0 P1 P2 DM : Int64) (n k : Nat) (Q0 Q1 Q2 : Int64) (ra qa r q : Addr) (r1 r2 s1 s2 : Int64) (c0 c1 c2 : Int32)
    (X0 : Stand p l e R s m args below meth c T0 locs cells slots) (hx : p.tables.exec = Jvm.exec) (hZ : Z.Warmed39 s.vm) (hw : ∀ d ∈ tables_1, d.before a0 Z = true) (hby : c.code = code) (hml : c.maxLocals = 42) (hown : s.vm.findClass "com/example/updrift/updrift/model/ReleaseNumberOfPinLaw" = some m.cls) (e0 : T0.heap = h0) (hc293 : ¬ (c0 = (0 : Int32))) :
    ∃ (T' : State), Stand p l e R s m args below meth c T' locs cells slots ∧ T'.heap = h0 ∧
      ∀ target, Steps p.tables e below (T'.setTop (mkF m 315 #[.val (.long q1), .second, .val (.long q2), .second, .val (.long q3), .second, .val (.long q4), .second, .val (.int p5), .val (.int p6), .val (.long P0), .second, .val (.long P1), .second, .val (.long P2), .second, .val (.long DM), .second, .val (.int (Int32.ofNat n)), .val (.int (Int32.ofNat k)), .val (.long Q0), .second, .val (.long Q1), .second, .val (.long Q2), .second, .val (.ref ra), .val (.ref qa), .val (.ref r), .val (.ref q), .val (.long r1), .second, .val (.long r2), .second, .val (.long s1), .second, .val (.long s2), .second, .val (.int c0), .val (.int c1), .val (.int c2), .val (.int c0)] [])) target → Steps p.tables e below (T0.setTop (mkF m 291 #[.val (.long q1), .second, .val (.long q2), .second, .val (.long q3), .second, .val (.long q4), .second, .val (.int p5), .val (.int p6), .val (.long P0), .second, .val (.long P1), .second, .val (.long P2), .second, .val (.long DM), .second, .val (.int (Int32.ofNat n)), .val (.int (Int32.ofNat k)), .val (.long Q0), .second, .val (.long Q1), .second, .val (.long Q2), .second, .val (.ref ra), .val (.ref qa), .val (.ref r), .val (.ref q), .val (.long r1), .second, .val (.long r2), .second, .val (.long s1), .second, .val (.long s2), .second, .val (.int c0), .val (.int c1), .val (.int c2), .unset] [])) target := by

  refine ⟨T0, X0, e0, fun target kt => ?_⟩
  show Steps p.tables e below (T0.setTop (mkF m 291 #[.val (.long q1), .second, .val (.long q2), .second, .val (.long q3), .second, .val (.long q4), .second, .val (.int p5), .val (.int p6), .val (.long P0), .second, .val (.long P1), .second, .val (.long P2), .second, .val (.long DM), .second, .val (.int (Int32.ofNat n)), .val (.int (Int32.ofNat k)), .val (.long Q0), .second, .val (.long Q1), .second, .val (.long Q2), .second, .val (.ref ra), .val (.ref qa), .val (.ref r), .val (.ref q), .val (.long r1), .second, .val (.long r2), .second, .val (.long s1), .second, .val (.long s2), .second, .val (.int c0), .val (.int c1), .val (.int c2), .unset] [])) _
  refine XS.iload X0.here hx rfl (hb hby at_291) rfl ?_
  show Steps p.tables e below (T0.setTop (mkF m 293 #[.val (.long q1), .second, .val (.long q2), .second, .val (.long q3), .second, .val (.long q4), .second, .val (.int p5), .val (.int p6), .val (.long P0), .second, .val (.long P1), .second, .val (.long P2), .second, .val (.long DM), .second, .val (.int (Int32.ofNat n)), .val (.int (Int32.ofNat k)), .val (.long Q0), .second, .val (.long Q1), .second, .val (.long Q2), .second, .val (.ref ra), .val (.ref qa), .val (.ref r), .val (.ref q), .val (.long r1), .second, .val (.long r2), .second, .val (.long s1), .second, .val (.long s2), .second, .val (.int c0), .val (.int c1), .val (.int c2), .unset] [(.int c0)])) _
  refine XS.ifNo X0.here hx rfl (hb hby at_293) rfl ((if0 _ _).trans (feq hc293).1) ?_
  show Steps p.tables e below (T0.setTop (mkF m 296 #[.val (.long q1), .second, .val (.long q2), .second, .val (.long q3), .second, .val (.long q4), .second, .val (.int p5), .val (.int p6), .val (.long P0), .second, .val (.long P1), .second, .val (.long P2), .second, .val (.long DM), .second, .val (.int (Int32.ofNat n)), .val (.int (Int32.ofNat k)), .val (.long Q0), .second, .val (.long Q1), .second, .val (.long Q2), .second, .val (.ref ra), .val (.ref qa), .val (.ref r), .val (.ref q), .val (.long r1), .second, .val (.long r2), .second, .val (.long s1), .second, .val (.long s2), .second, .val (.int c0), .val (.int c1), .val (.int c2), .unset] [])) _
  refine XS.iload X0.here hx rfl (hb hby at_296) rfl ?_
  show Steps p.tables e below (T0.setTop (mkF m 298 #[.val (.long q1), .second, .val (.long q2), .second, .val (.long q3), .second, .val (.long q4), .second, .val (.int p5), .val (.int p6), .val (.long P0), .second, .val (.long P1), .second, .val (.long P2), .second, .val (.long DM), .second, .val (.int (Int32.ofNat n)), .val (.int (Int32.ofNat k)), .val (.long Q0), .second, .val (.long Q1), .second, .val (.long Q2), .second, .val (.ref ra), .val (.ref qa), .val (.ref r), .val (.ref q), .val (.long r1), .second, .val (.long r2), .second, .val (.long s1), .second, .val (.long s2), .second, .val (.int c0), .val (.int c1), .val (.int c2), .unset] [(.int c0)])) _
  refine XS.goto X0.here hx rfl (pc0 := 298) (pc' := 313) rfl (hb hby at_298) (by decide) (by decide) ?_
  show Steps p.tables e below (T0.setTop (mkF m 313 #[.val (.long q1), .second, .val (.long q2), .second, .val (.long q3), .second, .val (.long q4), .second, .val (.int p5), .val (.int p6), .val (.long P0), .second, .val (.long P1), .second, .val (.long P2), .second, .val (.long DM), .second, .val (.int (Int32.ofNat n)), .val (.int (Int32.ofNat k)), .val (.long Q0), .second, .val (.long Q1), .second, .val (.long Q2), .second, .val (.ref ra), .val (.ref qa), .val (.ref r), .val (.ref q), .val (.long r1), .second, .val (.long r2), .second, .val (.long s1), .second, .val (.long s2), .second, .val (.int c0), .val (.int c1), .val (.int c2), .unset] [(.int c0)])) _
  refine XS.istore X0.here hx rfl (hb hby at_313) rfl (l' := #[.val (.long q1), .second, .val (.long q2), .second, .val (.long q3), .second, .val (.long q4), .second, .val (.int p5), .val (.int p6), .val (.long P0), .second, .val (.long P1), .second, .val (.long P2), .second, .val (.long DM), .second, .val (.int (Int32.ofNat n)), .val (.int (Int32.ofNat k)), .val (.long Q0), .second, .val (.long Q1), .second, .val (.long Q2), .second, .val (.ref ra), .val (.ref qa), .val (.ref r), .val (.ref q), .val (.long r1), .second, .val (.long r2), .second, .val (.long s1), .second, .val (.long s2), .second, .val (.int c0), .val (.int c1), .val (.int c2), .val (.int c0)]) rfl ?_
  exact kt
set_option maxRecDepth 65536 in
set_option maxHeartbeats 40000000 in
theorem tn0_291_315tf {p : Program} {l : Launch} {e : Env} {R : Room} {s : State} {m : MethodId} {args : Array Value} {below : List Frame} {meth : Method} {c : Code} {T0 : State} {locs : List Loc} {cells slots : Nat} {Z : State} {a0 : Array Value} {h0 : Heap} (q1 q2 q3 q4 : Int64) (p5 p6 : Int32) (P0 P1 P2 DM : Int64) (n k : Nat) (Q0 Q1 Q2 : Int64) (ra qa r q : Addr) (r1 r2 s1 s2 : Int64) (c0 c1 c2 : Int32)
    (X0 : Stand p l e R s m args below meth c T0 locs cells slots) (hx : p.tables.exec = Jvm.exec) (hZ : Z.Warmed39 s.vm) (hw : ∀ d ∈ tables_1, d.before a0 Z = true) (hby : c.code = code) (hml : c.maxLocals = 42) (hown : s.vm.findClass "com/example/updrift/updrift/model/ReleaseNumberOfPinLaw" = some m.cls) (e0 : T0.heap = h0) (hc293 : c0 = (0 : Int32)) (hc303 : ¬ (c1 = (0 : Int32))) :
    ∃ (T' : State), Stand p l e R s m args below meth c T' locs cells slots ∧ T'.heap = h0 ∧
      ∀ target, Steps p.tables e below (T'.setTop (mkF m 315 #[.val (.long q1), .second, .val (.long q2), .second, .val (.long q3), .second, .val (.long q4), .second, .val (.int p5), .val (.int p6), .val (.long P0), .second, .val (.long P1), .second, .val (.long P2), .second, .val (.long DM), .second, .val (.int (Int32.ofNat n)), .val (.int (Int32.ofNat k)), .val (.long Q0), .second, .val (.long Q1), .second, .val (.long Q2), .second, .val (.ref ra), .val (.ref qa), .val (.ref r), .val (.ref q), .val (.long r1), .second, .val (.long r2), .second, .val (.long s1), .second, .val (.long s2), .second, .val (.int c0), .val (.int c1), .val (.int c2), .val (.int c1)] [])) target → Steps p.tables e below (T0.setTop (mkF m 291 #[.val (.long q1), .second, .val (.long q2), .second, .val (.long q3), .second, .val (.long q4), .second, .val (.int p5), .val (.int p6), .val (.long P0), .second, .val (.long P1), .second, .val (.long P2), .second, .val (.long DM), .second, .val (.int (Int32.ofNat n)), .val (.int (Int32.ofNat k)), .val (.long Q0), .second, .val (.long Q1), .second, .val (.long Q2), .second, .val (.ref ra), .val (.ref qa), .val (.ref r), .val (.ref q), .val (.long r1), .second, .val (.long r2), .second, .val (.long s1), .second, .val (.long s2), .second, .val (.int c0), .val (.int c1), .val (.int c2), .unset] [])) target := by

  refine ⟨T0, X0, e0, fun target kt => ?_⟩
  show Steps p.tables e below (T0.setTop (mkF m 291 #[.val (.long q1), .second, .val (.long q2), .second, .val (.long q3), .second, .val (.long q4), .second, .val (.int p5), .val (.int p6), .val (.long P0), .second, .val (.long P1), .second, .val (.long P2), .second, .val (.long DM), .second, .val (.int (Int32.ofNat n)), .val (.int (Int32.ofNat k)), .val (.long Q0), .second, .val (.long Q1), .second, .val (.long Q2), .second, .val (.ref ra), .val (.ref qa), .val (.ref r), .val (.ref q), .val (.long r1), .second, .val (.long r2), .second, .val (.long s1), .second, .val (.long s2), .second, .val (.int c0), .val (.int c1), .val (.int c2), .unset] [])) _
  refine XS.iload X0.here hx rfl (hb hby at_291) rfl ?_
  show Steps p.tables e below (T0.setTop (mkF m 293 #[.val (.long q1), .second, .val (.long q2), .second, .val (.long q3), .second, .val (.long q4), .second, .val (.int p5), .val (.int p6), .val (.long P0), .second, .val (.long P1), .second, .val (.long P2), .second, .val (.long DM), .second, .val (.int (Int32.ofNat n)), .val (.int (Int32.ofNat k)), .val (.long Q0), .second, .val (.long Q1), .second, .val (.long Q2), .second, .val (.ref ra), .val (.ref qa), .val (.ref r), .val (.ref q), .val (.long r1), .second, .val (.long r2), .second, .val (.long s1), .second, .val (.long s2), .second, .val (.int c0), .val (.int c1), .val (.int c2), .unset] [(.int c0)])) _
  refine XS.ifYes X0.here hx rfl (pc0 := 293) (pc' := 301) rfl (hb hby at_293) rfl ((if0 _ _).trans (teq hc293).1) (by decide) (by decide) ?_
  show Steps p.tables e below (T0.setTop (mkF m 301 #[.val (.long q1), .second, .val (.long q2), .second, .val (.long q3), .second, .val (.long q4), .second, .val (.int p5), .val (.int p6), .val (.long P0), .second, .val (.long P1), .second, .val (.long P2), .second, .val (.long DM), .second, .val (.int (Int32.ofNat n)), .val (.int (Int32.ofNat k)), .val (.long Q0), .second, .val (.long Q1), .second, .val (.long Q2), .second, .val (.ref ra), .val (.ref qa), .val (.ref r), .val (.ref q), .val (.long r1), .second, .val (.long r2), .second, .val (.long s1), .second, .val (.long s2), .second, .val (.int c0), .val (.int c1), .val (.int c2), .unset] [])) _
  refine XS.iload X0.here hx rfl (hb hby at_301) rfl ?_
  show Steps p.tables e below (T0.setTop (mkF m 303 #[.val (.long q1), .second, .val (.long q2), .second, .val (.long q3), .second, .val (.long q4), .second, .val (.int p5), .val (.int p6), .val (.long P0), .second, .val (.long P1), .second, .val (.long P2), .second, .val (.long DM), .second, .val (.int (Int32.ofNat n)), .val (.int (Int32.ofNat k)), .val (.long Q0), .second, .val (.long Q1), .second, .val (.long Q2), .second, .val (.ref ra), .val (.ref qa), .val (.ref r), .val (.ref q), .val (.long r1), .second, .val (.long r2), .second, .val (.long s1), .second, .val (.long s2), .second, .val (.int c0), .val (.int c1), .val (.int c2), .unset] [(.int c1)])) _
  refine XS.ifNo X0.here hx rfl (hb hby at_303) rfl ((if0 _ _).trans (feq hc303).1) ?_
  show Steps p.tables e below (T0.setTop (mkF m 306 #[.val (.long q1), .second, .val (.long q2), .second, .val (.long q3), .second, .val (.long q4), .second, .val (.int p5), .val (.int p6), .val (.long P0), .second, .val (.long P1), .second, .val (.long P2), .second, .val (.long DM), .second, .val (.int (Int32.ofNat n)), .val (.int (Int32.ofNat k)), .val (.long Q0), .second, .val (.long Q1), .second, .val (.long Q2), .second, .val (.ref ra), .val (.ref qa), .val (.ref r), .val (.ref q), .val (.long r1), .second, .val (.long r2), .second, .val (.long s1), .second, .val (.long s2), .second, .val (.int c0), .val (.int c1), .val (.int c2), .unset] [])) _
  refine XS.iload X0.here hx rfl (hb hby at_306) rfl ?_
  show Steps p.tables e below (T0.setTop (mkF m 308 #[.val (.long q1), .second, .val (.long q2), .second, .val (.long q3), .second, .val (.long q4), .second, .val (.int p5), .val (.int p6), .val (.long P0), .second, .val (.long P1), .second, .val (.long P2), .second, .val (.long DM), .second, .val (.int (Int32.ofNat n)), .val (.int (Int32.ofNat k)), .val (.long Q0), .second, .val (.long Q1), .second, .val (.long Q2), .second, .val (.ref ra), .val (.ref qa), .val (.ref r), .val (.ref q), .val (.long r1), .second, .val (.long r2), .second, .val (.long s1), .second, .val (.long s2), .second, .val (.int c0), .val (.int c1), .val (.int c2), .unset] [(.int c1)])) _
  refine XS.goto X0.here hx rfl (pc0 := 308) (pc' := 313) rfl (hb hby at_308) (by decide) (by decide) ?_
  show Steps p.tables e below (T0.setTop (mkF m 313 #[.val (.long q1), .second, .val (.long q2), .second, .val (.long q3), .second, .val (.long q4), .second, .val (.int p5), .val (.int p6), .val (.long P0), .second, .val (.long P1), .second, .val (.long P2), .second, .val (.long DM), .second, .val (.int (Int32.ofNat n)), .val (.int (Int32.ofNat k)), .val (.long Q0), .second, .val (.long Q1), .second, .val (.long Q2), .second, .val (.ref ra), .val (.ref qa), .val (.ref r), .val (.ref q), .val (.long r1), .second, .val (.long r2), .second, .val (.long s1), .second, .val (.long s2), .second, .val (.int c0), .val (.int c1), .val (.int c2), .unset] [(.int c1)])) _
  refine XS.istore X0.here hx rfl (hb hby at_313) rfl (l' := #[.val (.long q1), .second, .val (.long q2), .second, .val (.long q3), .second, .val (.long q4), .second, .val (.int p5), .val (.int p6), .val (.long P0), .second, .val (.long P1), .second, .val (.long P2), .second, .val (.long DM), .second, .val (.int (Int32.ofNat n)), .val (.int (Int32.ofNat k)), .val (.long Q0), .second, .val (.long Q1), .second, .val (.long Q2), .second, .val (.ref ra), .val (.ref qa), .val (.ref r), .val (.ref q), .val (.long r1), .second, .val (.long r2), .second, .val (.long s1), .second, .val (.long s2), .second, .val (.int c0), .val (.int c1), .val (.int c2), .val (.int c1)]) rfl ?_
  exact kt
set_option maxRecDepth 65536 in
set_option maxHeartbeats 40000000 in
theorem tn0_291_315tt {p : Program} {l : Launch} {e : Env} {R : Room} {s : State} {m : MethodId} {args : Array Value} {below : List Frame} {meth : Method} {c : Code} {T0 : State} {locs : List Loc} {cells slots : Nat} {Z : State} {a0 : Array Value} {h0 : Heap} (q1 q2 q3 q4 : Int64) (p5 p6 : Int32) (P0 P1 P2 DM : Int64) (n k : Nat) (Q0 Q1 Q2 : Int64) (ra qa r q : Addr) (r1 r2 s1 s2 : Int64) (c0 c1 c2 : Int32)
    (X0 : Stand p l e R s m args below meth c T0 locs cells slots) (hx : p.tables.exec = Jvm.exec) (hZ : Z.Warmed39 s.vm) (hw : ∀ d ∈ tables_1, d.before a0 Z = true) (hby : c.code = code) (hml : c.maxLocals = 42) (hown : s.vm.findClass "com/example/updrift/updrift/model/ReleaseNumberOfPinLaw" = some m.cls) (e0 : T0.heap = h0) (hc293 : c0 = (0 : Int32)) (hc303 : c1 = (0 : Int32)) :
    ∃ (T' : State), Stand p l e R s m args below meth c T' locs cells slots ∧ T'.heap = h0 ∧
      ∀ target, Steps p.tables e below (T'.setTop (mkF m 315 #[.val (.long q1), .second, .val (.long q2), .second, .val (.long q3), .second, .val (.long q4), .second, .val (.int p5), .val (.int p6), .val (.long P0), .second, .val (.long P1), .second, .val (.long P2), .second, .val (.long DM), .second, .val (.int (Int32.ofNat n)), .val (.int (Int32.ofNat k)), .val (.long Q0), .second, .val (.long Q1), .second, .val (.long Q2), .second, .val (.ref ra), .val (.ref qa), .val (.ref r), .val (.ref q), .val (.long r1), .second, .val (.long r2), .second, .val (.long s1), .second, .val (.long s2), .second, .val (.int c0), .val (.int c1), .val (.int c2), .val (.int c2)] [])) target → Steps p.tables e below (T0.setTop (mkF m 291 #[.val (.long q1), .second, .val (.long q2), .second, .val (.long q3), .second, .val (.long q4), .second, .val (.int p5), .val (.int p6), .val (.long P0), .second, .val (.long P1), .second, .val (.long P2), .second, .val (.long DM), .second, .val (.int (Int32.ofNat n)), .val (.int (Int32.ofNat k)), .val (.long Q0), .second, .val (.long Q1), .second, .val (.long Q2), .second, .val (.ref ra), .val (.ref qa), .val (.ref r), .val (.ref q), .val (.long r1), .second, .val (.long r2), .second, .val (.long s1), .second, .val (.long s2), .second, .val (.int c0), .val (.int c1), .val (.int c2), .unset] [])) target := by

  refine ⟨T0, X0, e0, fun target kt => ?_⟩
  show Steps p.tables e below (T0.setTop (mkF m 291 #[.val (.long q1), .second, .val (.long q2), .second, .val (.long q3), .second, .val (.long q4), .second, .val (.int p5), .val (.int p6), .val (.long P0), .second, .val (.long P1), .second, .val (.long P2), .second, .val (.long DM), .second, .val (.int (Int32.ofNat n)), .val (.int (Int32.ofNat k)), .val (.long Q0), .second, .val (.long Q1), .second, .val (.long Q2), .second, .val (.ref ra), .val (.ref qa), .val (.ref r), .val (.ref q), .val (.long r1), .second, .val (.long r2), .second, .val (.long s1), .second, .val (.long s2), .second, .val (.int c0), .val (.int c1), .val (.int c2), .unset] [])) _
  refine XS.iload X0.here hx rfl (hb hby at_291) rfl ?_
  show Steps p.tables e below (T0.setTop (mkF m 293 #[.val (.long q1), .second, .val (.long q2), .second, .val (.long q3), .second, .val (.long q4), .second, .val (.int p5), .val (.int p6), .val (.long P0), .second, .val (.long P1), .second, .val (.long P2), .second, .val (.long DM), .second, .val (.int (Int32.ofNat n)), .val (.int (Int32.ofNat k)), .val (.long Q0), .second, .val (.long Q1), .second, .val (.long Q2), .second, .val (.ref ra), .val (.ref qa), .val (.ref r), .val (.ref q), .val (.long r1), .second, .val (.long r2), .second, .val (.long s1), .second, .val (.long s2), .second, .val (.int c0), .val (.int c1), .val (.int c2), .unset] [(.int c0)])) _
  refine XS.ifYes X0.here hx rfl (pc0 := 293) (pc' := 301) rfl (hb hby at_293) rfl ((if0 _ _).trans (teq hc293).1) (by decide) (by decide) ?_
  show Steps p.tables e below (T0.setTop (mkF m 301 #[.val (.long q1), .second, .val (.long q2), .second, .val (.long q3), .second, .val (.long q4), .second, .val (.int p5), .val (.int p6), .val (.long P0), .second, .val (.long P1), .second, .val (.long P2), .second, .val (.long DM), .second, .val (.int (Int32.ofNat n)), .val (.int (Int32.ofNat k)), .val (.long Q0), .second, .val (.long Q1), .second, .val (.long Q2), .second, .val (.ref ra), .val (.ref qa), .val (.ref r), .val (.ref q), .val (.long r1), .second, .val (.long r2), .second, .val (.long s1), .second, .val (.long s2), .second, .val (.int c0), .val (.int c1), .val (.int c2), .unset] [])) _
  refine XS.iload X0.here hx rfl (hb hby at_301) rfl ?_
  show Steps p.tables e below (T0.setTop (mkF m 303 #[.val (.long q1), .second, .val (.long q2), .second, .val (.long q3), .second, .val (.long q4), .second, .val (.int p5), .val (.int p6), .val (.long P0), .second, .val (.long P1), .second, .val (.long P2), .second, .val (.long DM), .second, .val (.int (Int32.ofNat n)), .val (.int (Int32.ofNat k)), .val (.long Q0), .second, .val (.long Q1), .second, .val (.long Q2), .second, .val (.ref ra), .val (.ref qa), .val (.ref r), .val (.ref q), .val (.long r1), .second, .val (.long r2), .second, .val (.long s1), .second, .val (.long s2), .second, .val (.int c0), .val (.int c1), .val (.int c2), .unset] [(.int c1)])) _
  refine XS.ifYes X0.here hx rfl (pc0 := 303) (pc' := 311) rfl (hb hby at_303) rfl ((if0 _ _).trans (teq hc303).1) (by decide) (by decide) ?_
  show Steps p.tables e below (T0.setTop (mkF m 311 #[.val (.long q1), .second, .val (.long q2), .second, .val (.long q3), .second, .val (.long q4), .second, .val (.int p5), .val (.int p6), .val (.long P0), .second, .val (.long P1), .second, .val (.long P2), .second, .val (.long DM), .second, .val (.int (Int32.ofNat n)), .val (.int (Int32.ofNat k)), .val (.long Q0), .second, .val (.long Q1), .second, .val (.long Q2), .second, .val (.ref ra), .val (.ref qa), .val (.ref r), .val (.ref q), .val (.long r1), .second, .val (.long r2), .second, .val (.long s1), .second, .val (.long s2), .second, .val (.int c0), .val (.int c1), .val (.int c2), .unset] [])) _
  refine XS.iload X0.here hx rfl (hb hby at_311) rfl ?_
  show Steps p.tables e below (T0.setTop (mkF m 313 #[.val (.long q1), .second, .val (.long q2), .second, .val (.long q3), .second, .val (.long q4), .second, .val (.int p5), .val (.int p6), .val (.long P0), .second, .val (.long P1), .second, .val (.long P2), .second, .val (.long DM), .second, .val (.int (Int32.ofNat n)), .val (.int (Int32.ofNat k)), .val (.long Q0), .second, .val (.long Q1), .second, .val (.long Q2), .second, .val (.ref ra), .val (.ref qa), .val (.ref r), .val (.ref q), .val (.long r1), .second, .val (.long r2), .second, .val (.long s1), .second, .val (.long s2), .second, .val (.int c0), .val (.int c1), .val (.int c2), .unset] [(.int c2)])) _
  refine XS.istore X0.here hx rfl (hb hby at_313) rfl (l' := #[.val (.long q1), .second, .val (.long q2), .second, .val (.long q3), .second, .val (.long q4), .second, .val (.int p5), .val (.int p6), .val (.long P0), .second, .val (.long P1), .second, .val (.long P2), .second, .val (.long DM), .second, .val (.int (Int32.ofNat n)), .val (.int (Int32.ofNat k)), .val (.long Q0), .second, .val (.long Q1), .second, .val (.long Q2), .second, .val (.ref ra), .val (.ref qa), .val (.ref r), .val (.ref q), .val (.long r1), .second, .val (.long r2), .second, .val (.long s1), .second, .val (.long s2), .second, .val (.int c0), .val (.int c1), .val (.int c2), .val (.int c2)]) rfl ?_
  exact kt
theorem own_j7 {p : Program} {l : Launch} {e : Env} {R : Room} {s : State} {m : MethodId} {args : Array Value} {below : List Frame} {meth : Method} {c : Code} {T0 : State} {locs : List Loc} {cells slots : Nat} {Z : State} {a0 : Array Value} {h0 : Heap} (q1 q2 q3 q4 : Int64) (p5 p6 : Int32) (P0 P1 P2 DM : Int64) (n k : Nat) (Q0 Q1 Q2 : Int64) (ra qa r q : Addr) (r1 r2 s1 s2 : Int64) (c0 c1 c2 : Int32) (ex : Int32) (hex : own_exp c0 c1 c2 = ex)
    (X0 : Stand p l e R s m args below meth c T0 locs cells slots) (hx : p.tables.exec = Jvm.exec) (hZ : Z.Warmed39 s.vm) (hw : ∀ d ∈ tables_1, d.before a0 Z = true) (hby : c.code = code) (hml : c.maxLocals = 42) (hown : s.vm.findClass "com/example/updrift/updrift/model/ReleaseNumberOfPinLaw" = some m.cls) (e0 : T0.heap = h0) :
    ∃ (T' : State), Stand p l e R s m args below meth c T' locs cells slots ∧ T'.heap = h0 ∧
      ∀ target, Steps p.tables e below (T'.setTop (mkF m 315 #[.val (.long q1), .second, .val (.long q2), .second, .val (.long q3), .second, .val (.long q4), .second, .val (.int p5), .val (.int p6), .val (.long P0), .second, .val (.long P1), .second, .val (.long P2), .second, .val (.long DM), .second, .val (.int (Int32.ofNat n)), .val (.int (Int32.ofNat k)), .val (.long Q0), .second, .val (.long Q1), .second, .val (.long Q2), .second, .val (.ref ra), .val (.ref qa), .val (.ref r), .val (.ref q), .val (.long r1), .second, .val (.long r2), .second, .val (.long s1), .second, .val (.long s2), .second, .val (.int c0), .val (.int c1), .val (.int c2), .val (.int ex)] [])) target → Steps p.tables e below (T0.setTop (mkF m 291 #[.val (.long q1), .second, .val (.long q2), .second, .val (.long q3), .second, .val (.long q4), .second, .val (.int p5), .val (.int p6), .val (.long P0), .second, .val (.long P1), .second, .val (.long P2), .second, .val (.long DM), .second, .val (.int (Int32.ofNat n)), .val (.int (Int32.ofNat k)), .val (.long Q0), .second, .val (.long Q1), .second, .val (.long Q2), .second, .val (.ref ra), .val (.ref qa), .val (.ref r), .val (.ref q), .val (.long r1), .second, .val (.long r2), .second, .val (.long s1), .second, .val (.long s2), .second, .val (.int c0), .val (.int c1), .val (.int c2), .unset] [])) target := by
  subst hex
  unfold own_exp
  by_cases q0 : c0 = (0 : Int32)
  · rw [if_pos q0]
    by_cases q1_ : c1 = (0 : Int32)
    · rw [if_pos q1_]; exact tn0_291_315tt q1 q2 q3 q4 p5 p6 P0 P1 P2 DM n k Q0 Q1 Q2 ra qa r q r1 r2 s1 s2 c0 c1 c2 X0 hx hZ hw hby hml hown e0 q0 q1_
    · rw [if_neg q1_]; exact tn0_291_315tf q1 q2 q3 q4 p5 p6 P0 P1 P2 DM n k Q0 Q1 Q2 ra qa r q r1 r2 s1 s2 c0 c1 c2 X0 hx hZ hw hby hml hown e0 q0 q1_
  · rw [if_neg q0]; exact tn0_291_315f q1 q2 q3 q4 p5 p6 P0 P1 P2 DM n k Q0 Q1 Q2 ra qa r q r1 r2 s1 s2 c0 c1 c2 X0 hx hZ hw hby hml hown e0 q0
set_option maxRecDepth 65536 in
set_option maxHeartbeats 40000000 in
theorem tn0_373_383f {p : Program} {l : Launch} {e : Env} {R : Room} {s : State} {m : MethodId} {args : Array Value} {below : List Frame} {meth : Method} {c : Code} {T0 : State} {locs : List Loc} {cells slots : Nat} {Z : State} {a0 : Array Value} {h0 : Heap} (q1 q2 q3 q4 : Int64) (p5 p6 : Int32) (P0 P1 P2 DM : Int64) (n k : Nat) (Q0 Q1 Q2 : Int64) (ra qa r q : Addr) (r1 r2 s1 s2 : Int64) (c0 c1 c2 : Int32) (ex : Int32) (sx : Int32)
    (X0 : Stand p l e R s m args below meth c T0 locs cells slots) (hx : p.tables.exec = Jvm.exec) (hZ : Z.Warmed39 s.vm) (hw : ∀ d ∈ tables_1, d.before a0 Z = true) (hby : c.code = code) (hml : c.maxLocals = 42) (hown : s.vm.findClass "com/example/updrift/updrift/model/ReleaseNumberOfPinLaw" = some m.cls) (e0 : T0.heap = h0) (hc375 : ex = (0 : Int32)) :
    ∃ (T' : State), Stand p l e R s m args below meth c T' locs cells slots ∧ T'.heap = h0 ∧
      ∀ target, Steps p.tables e below (T'.setTop (mkF m 383 #[.val (.long q1), .second, .val (.long q2), .second, .val (.long q3), .second, .val (.long q4), .second, .val (.int p5), .val (.int p6), .val (.long P0), .second, .val (.long P1), .second, .val (.long P2), .second, .val (.long DM), .second, .val (.int (Int32.ofNat n)), .val (.int (Int32.ofNat k)), .val (.long Q0), .second, .val (.long Q1), .second, .val (.long Q2), .second, .val (.ref ra), .val (.ref qa), .val (.ref r), .val (.ref q), .val (.long r1), .second, .val (.long r2), .second, .val (.long s1), .second, .val (.long s2), .second, .val (.int c0), .val (.int c1), .val (.int c2), .val (.int ex)] [(.int (1 : Int32)), (.int sx)])) target → Steps p.tables e below (T0.setTop (mkF m 373 #[.val (.long q1), .second, .val (.long q2), .second, .val (.long q3), .second, .val (.long q4), .second, .val (.int p5), .val (.int p6), .val (.long P0), .second, .val (.long P1), .second, .val (.long P2), .second, .val (.long DM), .second, .val (.int (Int32.ofNat n)), .val (.int (Int32.ofNat k)), .val (.long Q0), .second, .val (.long Q1), .second, .val (.long Q2), .second, .val (.ref ra), .val (.ref qa), .val (.ref r), .val (.ref q), .val (.long r1), .second, .val (.long r2), .second, .val (.long s1), .second, .val (.long s2), .second, .val (.int c0), .val (.int c1), .val (.int c2), .val (.int ex)] [(.int sx)])) target := by

  refine ⟨T0, X0, e0, fun target kt => ?_⟩
  show Steps p.tables e below (T0.setTop (mkF m 373 #[.val (.long q1), .second, .val (.long q2), .second, .val (.long q3), .second, .val (.long q4), .second, .val (.int p5), .val (.int p6), .val (.long P0), .second, .val (.long P1), .second, .val (.long P2), .second, .val (.long DM), .second, .val (.int (Int32.ofNat n)), .val (.int (Int32.ofNat k)), .val (.long Q0), .second, .val (.long Q1), .second, .val (.long Q2), .second, .val (.ref ra), .val (.ref qa), .val (.ref r), .val (.ref q), .val (.long r1), .second, .val (.long r2), .second, .val (.long s1), .second, .val (.long s2), .second, .val (.int c0), .val (.int c1), .val (.int c2), .val (.int ex)] [(.int sx)])) _
  refine XS.iload X0.here hx rfl (hb hby at_373) rfl ?_
  show Steps p.tables e below (T0.setTop (mkF m 375 #[.val (.long q1), .second, .val (.long q2), .second, .val (.long q3), .second, .val (.long q4), .second, .val (.int p5), .val (.int p6), .val (.long P0), .second, .val (.long P1), .second, .val (.long P2), .second, .val (.long DM), .second, .val (.int (Int32.ofNat n)), .val (.int (Int32.ofNat k)), .val (.long Q0), .second, .val (.long Q1), .second, .val (.long Q2), .second, .val (.ref ra), .val (.ref qa), .val (.ref r), .val (.ref q), .val (.long r1), .second, .val (.long r2), .second, .val (.long s1), .second, .val (.long s2), .second, .val (.int c0), .val (.int c1), .val (.int c2), .val (.int ex)] [(.int ex), (.int sx)])) _
  refine XS.ifNo X0.here hx rfl (hb hby at_375) rfl ((if0 _ _).trans (teq hc375).2) ?_
  show Steps p.tables e below (T0.setTop (mkF m 378 #[.val (.long q1), .second, .val (.long q2), .second, .val (.long q3), .second, .val (.long q4), .second, .val (.int p5), .val (.int p6), .val (.long P0), .second, .val (.long P1), .second, .val (.long P2), .second, .val (.long DM), .second, .val (.int (Int32.ofNat n)), .val (.int (Int32.ofNat k)), .val (.long Q0), .second, .val (.long Q1), .second, .val (.long Q2), .second, .val (.ref ra), .val (.ref qa), .val (.ref r), .val (.ref q), .val (.long r1), .second, .val (.long r2), .second, .val (.long s1), .second, .val (.long s2), .second, .val (.int c0), .val (.int c1), .val (.int c2), .val (.int ex)] [(.int sx)])) _
  refine XS.iconst X0.here hx rfl (hb hby at_378) ?_
  show Steps p.tables e below (T0.setTop (mkF m 379 #[.val (.long q1), .second, .val (.long q2), .second, .val (.long q3), .second, .val (.long q4), .second, .val (.int p5), .val (.int p6), .val (.long P0), .second, .val (.long P1), .second, .val (.long P2), .second, .val (.long DM), .second, .val (.int (Int32.ofNat n)), .val (.int (Int32.ofNat k)), .val (.long Q0), .second, .val (.long Q1), .second, .val (.long Q2), .second, .val (.ref ra), .val (.ref qa), .val (.ref r), .val (.ref q), .val (.long r1), .second, .val (.long r2), .second, .val (.long s1), .second, .val (.long s2), .second, .val (.int c0), .val (.int c1), .val (.int c2), .val (.int ex)] [(.int (1 : Int32)), (.int sx)])) _
  refine XS.goto X0.here hx rfl (pc0 := 379) (pc' := 383) rfl (hb hby at_379) (by decide) (by decide) ?_
  exact kt
set_option maxRecDepth 65536 in
set_option maxHeartbeats 40000000 in
theorem tn0_373_383t {p : Program} {l : Launch} {e : Env} {R : Room} {s : State} {m : MethodId} {args : Array Value} {below : List Frame} {meth : Method} {c : Code} {T0 : State} {locs : List Loc} {cells slots : Nat} {Z : State} {a0 : Array Value} {h0 : Heap} (q1 q2 q3 q4 : Int64) (p5 p6 : Int32) (P0 P1 P2 DM : Int64) (n k : Nat) (Q0 Q1 Q2 : Int64) (ra qa r q : Addr) (r1 r2 s1 s2 : Int64) (c0 c1 c2 : Int32) (ex : Int32) (sx : Int32)
    (X0 : Stand p l e R s m args below meth c T0 locs cells slots) (hx : p.tables.exec = Jvm.exec) (hZ : Z.Warmed39 s.vm) (hw : ∀ d ∈ tables_1, d.before a0 Z = true) (hby : c.code = code) (hml : c.maxLocals = 42) (hown : s.vm.findClass "com/example/updrift/updrift/model/ReleaseNumberOfPinLaw" = some m.cls) (e0 : T0.heap = h0) (hc375 : ¬ (ex = (0 : Int32))) :
    ∃ (T' : State), Stand p l e R s m args below meth c T' locs cells slots ∧ T'.heap = h0 ∧
      ∀ target, Steps p.tables e below (T'.setTop (mkF m 383 #[.val (.long q1), .second, .val (.long q2), .second, .val (.long q3), .second, .val (.long q4), .second, .val (.int p5), .val (.int p6), .val (.long P0), .second, .val (.long P1), .second, .val (.long P2), .second, .val (.long DM), .second, .val (.int (Int32.ofNat n)), .val (.int (Int32.ofNat k)), .val (.long Q0), .second, .val (.long Q1), .second, .val (.long Q2), .second, .val (.ref ra), .val (.ref qa), .val (.ref r), .val (.ref q), .val (.long r1), .second, .val (.long r2), .second, .val (.long s1), .second, .val (.long s2), .second, .val (.int c0), .val (.int c1), .val (.int c2), .val (.int ex)] [(.int (0 : Int32)), (.int sx)])) target → Steps p.tables e below (T0.setTop (mkF m 373 #[.val (.long q1), .second, .val (.long q2), .second, .val (.long q3), .second, .val (.long q4), .second, .val (.int p5), .val (.int p6), .val (.long P0), .second, .val (.long P1), .second, .val (.long P2), .second, .val (.long DM), .second, .val (.int (Int32.ofNat n)), .val (.int (Int32.ofNat k)), .val (.long Q0), .second, .val (.long Q1), .second, .val (.long Q2), .second, .val (.ref ra), .val (.ref qa), .val (.ref r), .val (.ref q), .val (.long r1), .second, .val (.long r2), .second, .val (.long s1), .second, .val (.long s2), .second, .val (.int c0), .val (.int c1), .val (.int c2), .val (.int ex)] [(.int sx)])) target := by

  refine ⟨T0, X0, e0, fun target kt => ?_⟩
  show Steps p.tables e below (T0.setTop (mkF m 373 #[.val (.long q1), .second, .val (.long q2), .second, .val (.long q3), .second, .val (.long q4), .second, .val (.int p5), .val (.int p6), .val (.long P0), .second, .val (.long P1), .second, .val (.long P2), .second, .val (.long DM), .second, .val (.int (Int32.ofNat n)), .val (.int (Int32.ofNat k)), .val (.long Q0), .second, .val (.long Q1), .second, .val (.long Q2), .second, .val (.ref ra), .val (.ref qa), .val (.ref r), .val (.ref q), .val (.long r1), .second, .val (.long r2), .second, .val (.long s1), .second, .val (.long s2), .second, .val (.int c0), .val (.int c1), .val (.int c2), .val (.int ex)] [(.int sx)])) _
  refine XS.iload X0.here hx rfl (hb hby at_373) rfl ?_
  show Steps p.tables e below (T0.setTop (mkF m 375 #[.val (.long q1), .second, .val (.long q2), .second, .val (.long q3), .second, .val (.long q4), .second, .val (.int p5), .val (.int p6), .val (.long P0), .second, .val (.long P1), .second, .val (.long P2), .second, .val (.long DM), .second, .val (.int (Int32.ofNat n)), .val (.int (Int32.ofNat k)), .val (.long Q0), .second, .val (.long Q1), .second, .val (.long Q2), .second, .val (.ref ra), .val (.ref qa), .val (.ref r), .val (.ref q), .val (.long r1), .second, .val (.long r2), .second, .val (.long s1), .second, .val (.long s2), .second, .val (.int c0), .val (.int c1), .val (.int c2), .val (.int ex)] [(.int ex), (.int sx)])) _
  refine XS.ifYes X0.here hx rfl (pc0 := 375) (pc' := 382) rfl (hb hby at_375) rfl ((if0 _ _).trans (feq hc375).2) (by decide) (by decide) ?_
  show Steps p.tables e below (T0.setTop (mkF m 382 #[.val (.long q1), .second, .val (.long q2), .second, .val (.long q3), .second, .val (.long q4), .second, .val (.int p5), .val (.int p6), .val (.long P0), .second, .val (.long P1), .second, .val (.long P2), .second, .val (.long DM), .second, .val (.int (Int32.ofNat n)), .val (.int (Int32.ofNat k)), .val (.long Q0), .second, .val (.long Q1), .second, .val (.long Q2), .second, .val (.ref ra), .val (.ref qa), .val (.ref r), .val (.ref q), .val (.long r1), .second, .val (.long r2), .second, .val (.long s1), .second, .val (.long s2), .second, .val (.int c0), .val (.int c1), .val (.int c2), .val (.int ex)] [(.int sx)])) _
  refine XS.iconst X0.here hx rfl (hb hby at_382) ?_
  exact kt
theorem own_j9 {p : Program} {l : Launch} {e : Env} {R : Room} {s : State} {m : MethodId} {args : Array Value} {below : List Frame} {meth : Method} {c : Code} {T0 : State} {locs : List Loc} {cells slots : Nat} {Z : State} {a0 : Array Value} {h0 : Heap} (q1 q2 q3 q4 : Int64) (p5 p6 : Int32) (P0 P1 P2 DM : Int64) (n k : Nat) (Q0 Q1 Q2 : Int64) (ra qa r q : Addr) (r1 r2 s1 s2 : Int64) (c0 c1 c2 : Int32) (ex : Int32) (sx : Int32)
    (X0 : Stand p l e R s m args below meth c T0 locs cells slots) (hx : p.tables.exec = Jvm.exec) (hZ : Z.Warmed39 s.vm) (hw : ∀ d ∈ tables_1, d.before a0 Z = true) (hby : c.code = code) (hml : c.maxLocals = 42) (hown : s.vm.findClass "com/example/updrift/updrift/model/ReleaseNumberOfPinLaw" = some m.cls) (e0 : T0.heap = h0) :
    ∃ (T' : State), Stand p l e R s m args below meth c T' locs cells slots ∧ T'.heap = h0 ∧
      ∀ target, Steps p.tables e below (T'.setTop (mkF m 383 #[.val (.long q1), .second, .val (.long q2), .second, .val (.long q3), .second, .val (.long q4), .second, .val (.int p5), .val (.int p6), .val (.long P0), .second, .val (.long P1), .second, .val (.long P2), .second, .val (.long DM), .second, .val (.int (Int32.ofNat n)), .val (.int (Int32.ofNat k)), .val (.long Q0), .second, .val (.long Q1), .second, .val (.long Q2), .second, .val (.ref ra), .val (.ref qa), .val (.ref r), .val (.ref q), .val (.long r1), .second, .val (.long r2), .second, .val (.long s1), .second, .val (.long s2), .second, .val (.int c0), .val (.int c1), .val (.int c2), .val (.int ex)] [(.int (own_z ex)), (.int sx)])) target → Steps p.tables e below (T0.setTop (mkF m 373 #[.val (.long q1), .second, .val (.long q2), .second, .val (.long q3), .second, .val (.long q4), .second, .val (.int p5), .val (.int p6), .val (.long P0), .second, .val (.long P1), .second, .val (.long P2), .second, .val (.long DM), .second, .val (.int (Int32.ofNat n)), .val (.int (Int32.ofNat k)), .val (.long Q0), .second, .val (.long Q1), .second, .val (.long Q2), .second, .val (.ref ra), .val (.ref qa), .val (.ref r), .val (.ref q), .val (.long r1), .second, .val (.long r2), .second, .val (.long s1), .second, .val (.long s2), .second, .val (.int c0), .val (.int c1), .val (.int c2), .val (.int ex)] [(.int sx)])) target := by
  unfold own_z
  by_cases q0 : ex = (0 : Int32)
  · rw [if_pos q0]; exact tn0_373_383f q1 q2 q3 q4 p5 p6 P0 P1 P2 DM n k Q0 Q1 Q2 ra qa r q r1 r2 s1 s2 c0 c1 c2 ex sx X0 hx hZ hw hby hml hown e0 q0
  · rw [if_neg q0]; exact tn0_373_383t q1 q2 q3 q4 p5 p6 P0 P1 P2 DM n k Q0 Q1 Q2 ra qa r q r1 r2 s1 s2 c0 c1 c2 ex sx X0 hx hZ hw hby hml hown e0 q0
theorem own_i3 (x : Int32) : x < 0 ∨ x = 0 ∨ 0 < x := by
  rw [Int32.lt_iff_toInt_lt, Int32.lt_iff_toInt_lt, ← Int32.toInt_inj]; omega
theorem own_cmp_lc (x y : Int64) : own_cmp x y = own_lc x y := by
  unfold own_cmp own_lc
  rcases own_i3 (lcmpW x y) with h | h | h
  · rw [if_pos h, if_pos h]
  · rw [h]; rfl
  · have h1 : ¬ (lcmpW x y < (0 : Int32)) := fun q => by rw [Int32.lt_iff_toInt_lt] at q h; omega
    have h2 : ¬ (lcmpW x y = (0 : Int32)) := fun q => by rw [q] at h; exact Int32.lt_irrefl h
    rw [if_neg h1, if_neg h1, if_pos h, if_neg h2]
theorem own_lc_3 (x y : Int64) : own_lc x y = -1 ∨ own_lc x y = 0 ∨ own_lc x y = 1 := by
  unfold own_lc
  split
  · exact Or.inl rfl
  · split
    · exact Or.inr (Or.inl rfl)
    · exact Or.inr (Or.inr rfl)
theorem own_lc_lt {x y : Int64} (h : x < y) : own_lc x y = -1 := by
  unfold own_lc; rw [if_pos ((lw_lt _ _).mpr h)]
theorem own_lc_eq (x : Int64) : own_lc x x = 0 := by
  unfold own_lc; rw [if_neg (by rw [lw_lt]; exact Int64.lt_irrefl), if_pos ((lw_eq _ _).mpr rfl)]
theorem own_lc_gt {x y : Int64} (h : y < x) : own_lc x y = 1 := by
  unfold own_lc
  rw [if_neg (by rw [lw_lt]; intro q; rw [Int64.lt_iff_toInt_lt] at q h; omega), if_neg (by rw [lw_eq]; intro q; rw [q] at h; exact Int64.lt_irrefl h)]
theorem own_lc_swap (x y : Int64) : own_lc y x = -(own_lc x y) := by
  have h3 : x < y ∨ x = y ∨ y < x := by
    rw [Int64.lt_iff_toInt_lt, Int64.lt_iff_toInt_lt, ← Int64.toInt_inj]; omega
  rcases h3 with h | h | h
  · rw [own_lc_lt h, own_lc_gt h]; rfl
  · rw [h, own_lc_eq]; rfl
  · rw [own_lc_gt h, own_lc_lt h]
theorem own_ct_exp (g : Nat → Int32) {N : Nat} (h1 : 1 ≤ N) (h3 : N ≤ 3) (hz : ∀ i, N ≤ i → g i = 0) : own_ct g N 0 = own_exp (g 0) (g 1) (g 2) := by
  obtain rfl | rfl | rfl : N = 1 ∨ N = 2 ∨ N = 3 := by omega
  · have e1 := hz 1 (by omega)
    have e2 := hz 2 (by omega)
    simp only [own_ct, own_exp, e1, e2, if_true]
  · have e2 := hz 2 (by omega)
    simp only [own_ct, own_exp, e2]
  · simp only [own_ct, own_exp]
    by_cases q0 : g 0 = 0
    · by_cases q1 : g 1 = 0
      · by_cases q2 : g 2 = 0
        · simp [q0, q1, q2]
        · simp [q0, q1, q2]
      · simp [q0, q1]
    · simp [q0]
theorem own_exp_3 {a b c : Int32} (ha : a = -1 ∨ a = 0 ∨ a = 1) (hb : b = -1 ∨ b = 0 ∨ b = 1) (hc : c = -1 ∨ c = 0 ∨ c = 1) : own_exp a b c = -1 ∨ own_exp a b c = 0 ∨ own_exp a b c = 1 := by
  unfold own_exp
  split
  · split
    · exact hc
    · exact hb
  · exact ha
theorem own_sgn_id {x : Int32} (h : x = -1 ∨ x = 0 ∨ x = 1) : own_sgn x = x := by
  rcases h with rfl | rfl | rfl <;> decide
theorem own_exp_neg {a b c : Int32} (ha : a = -1 ∨ a = 0 ∨ a = 1) (hb : b = -1 ∨ b = 0 ∨ b = 1) (hc : c = -1 ∨ c = 0 ∨ c = 1) : own_exp (-a) (-b) (-c) = -(own_exp a b c) := by
  rcases ha with rfl | rfl | rfl <;> rcases hb with rfl | rfl | rfl <;> rcases hc with rfl | rfl | rfl <;> decide
theorem own_part_far {n : Nat} {f : Nat → Int64} {i : Nat} (h : n ≤ i) : own_part n f i = 0 := if_neg (by omega)
theorem own_final {n k : Nat} (h1n : 1 ≤ n) (hnn : n ≤ 3) (h1k : 1 ≤ k) (hnk : k ≤ 3) (f f2 : Nat → Int64) :
    own_ct (fun j => own_lc (own_part n f j) (own_part k f2 j)) (max n k) 0 = own_exp (own_cmp (f 0) (f2 0)) (own_cmp (own_part n f 1) (own_part k f2 1)) (own_cmp (own_part n f 2) (own_part k f2 2)) := by
  rw [own_ct_exp _ (by omega) (by omega) (fun i hi => by
    show own_lc (own_part n f i) (own_part k f2 i) = 0
    rw [own_part_far (show n ≤ i by omega), own_part_far (show k ≤ i by omega), own_lc_eq])]
  have e1 : own_part n f 0 = f 0 := if_pos (by omega)
  have e2 : own_part k f2 0 = f2 0 := if_pos (by omega)
  show own_exp (own_lc (own_part n f 0) (own_part k f2 0)) _ _ = _
  rw [e1, e2, own_cmp_lc, own_cmp_lc, own_cmp_lc]
theorem own_back {n k : Nat} (h1n : 1 ≤ n) (hnn : n ≤ 3) (h1k : 1 ≤ k) (hnk : k ≤ 3) (f f2 : Nat → Int64) :
    own_ct (fun j => own_lc (own_part k f2 j) (own_part n f j)) (max k n) 0 = -(own_ct (fun j => own_lc (own_part n f j) (own_part k f2 j)) (max n k) 0) := by
  rw [own_final h1k hnk h1n hnn, own_final h1n hnn h1k hnk, own_cmp_lc, own_cmp_lc, own_cmp_lc, own_cmp_lc, own_cmp_lc, own_cmp_lc, own_lc_swap (f 0) (f2 0), own_lc_swap (own_part n f 1), own_lc_swap (own_part n f 2)]
  exact own_exp_neg (own_lc_3 _ _) (own_lc_3 _ _) (own_lc_3 _ _)
theorem pn_0 : plainName "com/example/updrift/updrift/model/ReleaseNumberOfPinLaw" = true := by first | (simp [plainName, overriddenIn]; done) | decide +kernel
theorem pd_0_6 : parseMethodDescriptor "()I" = some ⟨[], some .int⟩ := by decide +kernel
theorem pd_0_7 : parseMethodDescriptor "(Lcom/example/updrift/updrift/model/ReleaseNumber;)I" = some ⟨[(.object "com/example/updrift/updrift/model/ReleaseNumber")], some .int⟩ := by decide +kernel
theorem pd_0_10 : parseMethodDescriptor "(I)I" = some ⟨[.int], some .int⟩ := by decide +kernel
theorem pd_0_11 : parseMethodDescriptor "(Ljava/lang/Object;)Z" = some ⟨[(.object "java/lang/Object")], some .boolean⟩ := by decide +kernel
theorem ef_0 (m : MethodId) (x0 : Int64) (x1 : Int64) (x2 : Int64) (x3 : Int64) (x4 : Int32) (x5 : Int32) : entryFrame m #[(.long x0), (.long x1), (.long x2), (.long x3), (.int x4), (.int x5)] maxLocals = mkF m 0 #[.val (.long x0), .second, .val (.long x1), .second, .val (.long x2), .second, .val (.long x3), .second, .val (.int x4), .val (.int x5), .unset, .unset, .unset, .unset, .unset, .unset, .unset, .unset, .unset, .unset, .unset, .unset, .unset, .unset, .unset, .unset, .unset, .unset, .unset, .unset, .unset, .unset, .unset, .unset, .unset, .unset, .unset, .unset, .unset, .unset, .unset, .unset] [] := by first | (simp [entryFrame, mkF, argsToLocals, Value.category, maxLocals]; done) | rfl
def QL (Z : State) (q1 q2 q3 q4 : Int64) (p5 p6 : Int32) (h0 : Heap) (n0 : Nat) (v : Option Value) (h : Heap) (L : List Loc) : Prop := v = some (.int (1 : Int32)) ∧ Fr n0 L
set_option maxRecDepth 65536 in
set_option maxHeartbeats 40000000 in
theorem rm0w (l : Launch) (Z : State) (a0 : Array Value) (hw : ∀ d ∈ tables_1, d.before a0 Z = true) (ws : List Jvm.Cond) (q1 q2 q3 q4 : Int64) (p5 p6 : Int32) (h0 : Heap) (n0 : Nat) (Z0 : n0 ≤ h0.size) (P0 P1 P2 DM : Int64) (n k : Nat) (Q0 Q1 Q2 : Int64) (r1 r2 s1 s2 : Int64) (c0 c1 c2 ex : Int32) (h1n : 1 ≤ n) (hnn : n ≤ 3) (h1k : 1 ≤ k) (hnk : k ≤ 3) (hP0 : own_P q1 = P0) (hP1 : own_P q2 = P1) (hP2 : own_P q3 = P2) (hDM : own_P q4 = DM) (hn : own_n p5 = Int32.ofNat n) (hk : own_n (own_s6 p6) = Int32.ofNat k) (hQ0 : own_pick (own_k0 p6) P0 DM = Q0) (hQ1 : own_pick (own_k1 p6) P1 DM = Q1) (hQ2 : own_pick (own_k2 p6) P2 DM = Q2) (hr1 : own_part n (own_f3 P0 P1 P2) 1 = r1) (hr2 : own_part n (own_f3 P0 P1 P2) 2 = r2) (hs1 : own_part k (own_f3 Q0 Q1 Q2) 1 = s1) (hs2 : own_part k (own_f3 Q0 Q1 Q2) 2 = s2) (hc0 : own_cmp P0 Q0 = c0) (hc1 : own_cmp r1 s1 = c1) (hc2 : own_cmp r2 s2 = c2) (hex : own_exp c0 c1 c2 = ex) (hpa : ∀ j, j < n → ¬ (lcmpW ((own_f3 P0 P1 P2) j) (0 : Int64) < (0 : Int32))) (hpb : ∀ j, j < k → ¬ (lcmpW ((own_f3 Q0 Q1 Q2) j) (0 : Int64) < (0 : Int32))) (hA : own_sgn (own_ct (fun j => own_lc (own_part n (own_f3 P0 P1 P2) j) (own_part k (own_f3 Q0 Q1 Q2) j)) (max n k) 0) = ex) (hB : own_sgn (own_ct (fun j => own_lc (own_part k (own_f3 Q0 Q1 Q2) j) (own_part n (own_f3 P0 P1 P2) j)) (max k n) 0) = -ex) (hC : own_z (own_ct (fun j => own_lc (own_part n (own_f3 P0 P1 P2) j) (own_part k (own_f3 Q0 Q1 Q2) j)) (max n k) 0) = own_z ex) :
    MetFree l x (head1 (Jvm.Cond.code x code maxLocals ret :: ws) room_1) (fun a U => a = #[(.long q1), (.long q2), (.long q3), (.long q4), (.int p5), (.int p6)] ∧ Z.Warmed39 U.vm ∧ U.heap = h0) (fun _ _ _ _ _ => True) (fun _ U o U' => ∃ v L, o = .returned v ∧ QL Z q1 q2 q3 q4 p5 p6 h0 n0 v U'.heap L ∧ FrameEnd U o U' L room_1.cells room_1.slots) := by
  refine MetFree.of_bodySF (plainFor_of_name pn_0) hisR ?_
  intro p e s m args below meth c s₁ Bd hml0 hP hK
  obtain ⟨rfl, hZ, hh⟩ := hP
  have hx := Bd.exec
  have hby := Bd.bytes
  have hml : c.maxLocals = 42 := hml0
  have hown : s.vm.findClass "com/example/updrift/updrift/model/ReleaseNumberOfPinLaw" = some m.cls := findClass_of_methodNamed Bd.named
  have hnm := (name_of_methodNamed Bd.named Bd.method).1
  have X0 : Stand p l e room_1 s m #[(.long q1), (.long q2), (.long q3), (.long q4), (.int p5), (.int p6)] below meth c s₁ [] 0 0 := Stand.of_body Bd
  have e0 : s₁.heap = h0 := by rw [← hh, Bd.state]; rfl
  have N0 := Fr.nil n0
  have pre0 : ∀ t, Steps p.tables e below (s₁.setTop (mkF m 0 #[.val (.long q1), .second, .val (.long q2), .second, .val (.long q3), .second, .val (.long q4), .second, .val (.int p5), .val (.int p6), .unset, .unset, .unset, .unset, .unset, .unset, .unset, .unset, .unset, .unset, .unset, .unset, .unset, .unset, .unset, .unset, .unset, .unset, .unset, .unset, .unset, .unset, .unset, .unset, .unset, .unset, .unset, .unset, .unset, .unset, .unset, .unset] [])) t → Steps p.tables e below (s₁.setTop (entryFrame m #[(.long q1), (.long q2), (.long q3), (.long q4), (.int p5), (.int p6)] maxLocals)) t := fun t k => castTop (ef_0 m q1 q2 q3 q4 p5 p6) k
  obtain ⟨T7, L7, X7, e7, N7, st7⟩ := own_j0 q1 q2 q3 q4 p5 p6 P0 P1 P2 DM n k Q0 Q1 Q2 hP0 hP1 hP2 hDM hn hk hQ0 hQ1 hQ2 X0 hx hZ hw hby hml hown e0 N0 Z0
  obtain ⟨T8, h8, L8, ra, X8, e8, N8, Ka, sra, Xa, Va, st8⟩ := own_s2 q1 q2 q3 q4 p5 p6 P0 P1 P2 DM n k Q0 Q1 Q2 X7 hx hZ hw hby hml hown e7 N7 Z0 hnn h1n
  have Za := Nat.le_trans Z0 Ka.1
  obtain ⟨T9, h9, L9, qa, X9, e9, N9, Kb, sqa, Xb, Vb, st9⟩ := own_s3 q1 q2 q3 q4 p5 p6 P0 P1 P2 DM n k Q0 Q1 Q2 ra X8 hx hZ hw hby hml hown e8 N8 Za hnk h1k
  have Zb := Nat.le_trans Za Kb.1
  have Va2 := Va.keep Kb (by simp)
  have Xa2 := Xa.keep Kb
  have hne : ra ≠ qa := Nat.ne_of_lt (Nat.lt_of_lt_of_le Xa.lt sqa)
  have g_ra : n0 ≤ ra := Nat.le_trans Z0 sra
  have g_qa : n0 ≤ qa := Nat.le_trans Za sqa
  obtain ⟨T10, h10, L10, r, q, tr, tq, X10, e10, N10, Kc, sr, sq, str, stq, Er, Eq, Fr_, Fq, Vr, Vq, st10⟩ := own_s4 q1 q2 q3 q4 p5 p6 P0 P1 P2 DM n k Q0 Q1 Q2 ra qa X9 hx hZ hw hby hml hown e9 N9 Zb hnn h1n hnk h1k Va2 Xa2 Vb Xb hpa hpb
  have Zc := Nat.le_trans Zb Kc.1
  have far : ∀ y, h9.size ≤ y → y ∉ [ra, qa] := fun y hy => by
    have q1_ := Xa2.lt
    have q2_ := Xb.lt
    simp only [List.mem_cons, List.not_mem_nil, or_false, not_or]
    exact ⟨fun z => Nat.lt_irrefl _ (Nat.lt_of_lt_of_le q1_ (z ▸ hy)), fun z => Nat.lt_irrefl _ (Nat.lt_of_lt_of_le q2_ (z ▸ hy))⟩
  obtain ⟨T11, h11, L11, X11, e11, N11, Kd, st11⟩ := own_s4b q1 q2 q3 q4 p5 p6 P0 P1 P2 DM n k Q0 Q1 Q2 ra qa r q X10 hx hZ hw hby hml hown e10 N10 Zc hnn h1n hnk h1k (Va2.keep Kc (by simp)) (Vb.keep Kc (by simp)) hne g_ra g_qa
  have Zd := Nat.le_trans Zc Kd.1
  have Er2 := Er.keep Kd
  have Eq2 := Eq.keep Kd
  have Fr2 := Fr_.keep Kd (far r sr)
  have Fq2 := Fq.keep Kd (far q sq)
  have Vr2 := Vr.keep Kd (far tr str)
  have Vq2 := Vq.keep Kd (far tq stq)
  obtain ⟨T12, X12, e12, st12⟩ := own_s5_r1 q1 q2 q3 q4 p5 p6 P0 P1 P2 DM n k Q0 Q1 Q2 ra qa r q r1 hr1 hnn X11 hx hZ hw hby hml hown e11
  obtain ⟨T13, X13, e13, st13⟩ := own_s5_r2 q1 q2 q3 q4 p5 p6 P0 P1 P2 DM n k Q0 Q1 Q2 ra qa r q r1 r2 hr2 hnn X12 hx hZ hw hby hml hown e12
  obtain ⟨T14, X14, e14, st14⟩ := own_s5_s1 q1 q2 q3 q4 p5 p6 P0 P1 P2 DM n k Q0 Q1 Q2 ra qa r q r1 r2 s1 hs1 hnk X13 hx hZ hw hby hml hown e13
  obtain ⟨T15, X15, e15, st15⟩ := own_s5_s2 q1 q2 q3 q4 p5 p6 P0 P1 P2 DM n k Q0 Q1 Q2 ra qa r q r1 r2 s1 s2 hs2 hnk X14 hx hZ hw hby hml hown e14
  obtain ⟨T16, L16, X16, e16, N16, st16⟩ := own_j6 q1 q2 q3 q4 p5 p6 P0 P1 P2 DM n k Q0 Q1 Q2 ra qa r q r1 r2 s1 s2 c0 c1 c2 hc0 hc1 hc2 X15 hx hZ hw hby hml hown e15 N11 Zd
  obtain ⟨T17, X17, e17, st17⟩ := own_j7 q1 q2 q3 q4 p5 p6 P0 P1 P2 DM n k Q0 Q1 Q2 ra qa r q r1 r2 s1 s2 c0 c1 c2 ex hex X16 hx hZ hw hby hml hown e16
  obtain ⟨cq18, kq18, q18a, q18b, q18c⟩ := isOf hZ e17 Er2
  obtain ⟨_, _, ⟨T18, L18, k18, n18⟩, -, X18, ⟨Lc18, hQ18, l18, y18, z18⟩, st18⟩ := X17.virtualBack hx (y := (⟨"com/example/updrift/updrift/model/ReleaseNumber", "partCount", "()I"⟩ : MethodName)) (z := (⟨"com/example/updrift/updrift/model/ReleaseNumber", "partCount", "()I"⟩ : MethodName)) hown (mvT hZ (hw _ (List.mem_of_getElem? (i := 32) rfl))) (mvT hZ (hw _ (List.mem_of_getElem? (i := 33) rfl))) (notFace_of_selects (args := #[]) (mvT hZ (hw _ (List.mem_of_getElem? (i := 35) rfl)))) (mvT hZ (hw _ (List.mem_of_getElem? (i := 35) rfl))) (mvT hZ (hw _ (List.mem_of_getElem? (i := 34) rfl))) (by decide) (backOf (W := 0) (rm6 l Z a0 hw [] r tr n (own_f3 P0 P1 P2) h11 n0 Zd hnn Fr2 Vr2) hZ (hw _ (List.mem_of_getElem? (i := 36) rfl)) (hw _ (List.mem_of_getElem? (i := 8) rfl)) (by decide) (by decide)) q18a q18c (g := (mkF m 317 #[.val (.long q1), .second, .val (.long q2), .second, .val (.long q3), .second, .val (.long q4), .second, .val (.int p5), .val (.int p6), .val (.long P0), .second, .val (.long P1), .second, .val (.long P2), .second, .val (.long DM), .second, .val (.int (Int32.ofNat n)), .val (.int (Int32.ofNat k)), .val (.long Q0), .second, .val (.long Q1), .second, .val (.long Q2), .second, .val (.ref ra), .val (.ref qa), .val (.ref r), .val (.ref q), .val (.long r1), .second, .val (.long r2), .second, .val (.long s1), .second, .val (.long s2), .second, .val (.int c0), .val (.int c1), .val (.int c2), .val (.int ex)] [(.ref r)])) rfl (by rw [hml]; rfl) (Steps.refl _) (argsL := []) (rest := []) (lenOf pd_0_6 rfl) rfl (by show 2 * 0 + _ ≤ _; exact Nat.le_of_eq rfl) (hb hby at_317) (fun _ _ => ⟨rfl, e17, (by decide : 6 + 0 ≤ _), (by decide : 14 + 0 ≤ _)⟩)
  dsimp only [Pt.U, Pt.locs, Pt.cells, Pt.slots] at X18 l18 y18 z18 st18 hQ18
  subst l18 y18 z18
  obtain ⟨rfl, N18q, e18q⟩ := hQ18
  have N18 := Fr.app N16 N18q
  have e18h : T18.heap = h11 := e18q
  have z18q : n0 ≤ T18.heap.size := by rw [e18h]; exact Zd
  obtain ⟨cq19, kq19, q19a, q19b, q19c⟩ := isOf hZ rfl (show Exa Z T18.heap q "com/example/updrift/updrift/model/ReleaseNumber" by rw [e18h]; exact Eq2)
  obtain ⟨_, _, ⟨T19, L19, k19, n19⟩, -, X19, ⟨Lc19, hQ19, l19, y19, z19⟩, st19⟩ := X18.virtualBack hx (y := (⟨"com/example/updrift/updrift/model/ReleaseNumber", "partCount", "()I"⟩ : MethodName)) (z := (⟨"com/example/updrift/updrift/model/ReleaseNumber", "partCount", "()I"⟩ : MethodName)) hown (mvT hZ (hw _ (List.mem_of_getElem? (i := 32) rfl))) (mvT hZ (hw _ (List.mem_of_getElem? (i := 33) rfl))) (notFace_of_selects (args := #[]) (mvT hZ (hw _ (List.mem_of_getElem? (i := 35) rfl)))) (mvT hZ (hw _ (List.mem_of_getElem? (i := 35) rfl))) (mvT hZ (hw _ (List.mem_of_getElem? (i := 34) rfl))) (by decide) (backOf (W := 0) (rm6 l Z a0 hw [] q tq k (own_f3 Q0 Q1 Q2) T18.heap n0 z18q hnk (by rw [e18h]; exact Fq2) (by rw [e18h]; exact Vq2)) hZ (hw _ (List.mem_of_getElem? (i := 36) rfl)) (hw _ (List.mem_of_getElem? (i := 8) rfl)) (by decide) (by decide)) q19a q19c (g := (mkF m 327 #[.val (.long q1), .second, .val (.long q2), .second, .val (.long q3), .second, .val (.long q4), .second, .val (.int p5), .val (.int p6), .val (.long P0), .second, .val (.long P1), .second, .val (.long P2), .second, .val (.long DM), .second, .val (.int (Int32.ofNat n)), .val (.int (Int32.ofNat k)), .val (.long Q0), .second, .val (.long Q1), .second, .val (.long Q2), .second, .val (.ref ra), .val (.ref qa), .val (.ref r), .val (.ref q), .val (.long r1), .second, .val (.long r2), .second, .val (.long s1), .second, .val (.long s2), .second, .val (.int c0), .val (.int c1), .val (.int c2), .val (.int ex)] [(.ref q)])) rfl (by rw [hml]; rfl) (Steps.refl _) (argsL := []) (rest := []) (lenOf pd_0_6 rfl) rfl (by show 2 * 0 + _ ≤ _; exact Nat.le_of_eq rfl) (hb hby at_327) (fun _ _ => ⟨rfl, rfl, (by decide : 6 + 0 ≤ _), (by decide : 14 + 0 ≤ _)⟩)
  dsimp only [Pt.U, Pt.locs, Pt.cells, Pt.slots] at X19 l19 y19 z19 st19 hQ19
  subst l19 y19 z19
  obtain ⟨rfl, N19q, e19q⟩ := hQ19
  have N19 := Fr.app N18 N19q
  have e19h : T19.heap = h11 := e19q.trans e18h
  have z19q : n0 ≤ T19.heap.size := by rw [e19h]; exact Zd
  obtain ⟨cq20, kq20, q20a, q20b, q20c⟩ := isOf hZ rfl (show Exa Z T19.heap r "com/example/updrift/updrift/model/ReleaseNumber" by rw [e19h]; exact Er2)
  obtain ⟨_, _, ⟨T20, L20, k20, n20⟩, -, X20, ⟨Lc20, hQ20, l20, y20, z20⟩, st20⟩ := X19.virtualBack hx (y := (⟨"com/example/updrift/updrift/model/ReleaseNumber", "compareTo", "(Lcom/example/updrift/updrift/model/ReleaseNumber;)I"⟩ : MethodName)) (z := (⟨"com/example/updrift/updrift/model/ReleaseNumber", "compareTo", "(Lcom/example/updrift/updrift/model/ReleaseNumber;)I"⟩ : MethodName)) hown (mvT hZ (hw _ (List.mem_of_getElem? (i := 37) rfl))) (mvT hZ (hw _ (List.mem_of_getElem? (i := 38) rfl))) (notFace_of_selects (args := #[]) (mvT hZ (hw _ (List.mem_of_getElem? (i := 40) rfl)))) (mvT hZ (hw _ (List.mem_of_getElem? (i := 40) rfl))) (mvT hZ (hw _ (List.mem_of_getElem? (i := 39) rfl))) (by decide) (backOf (W := 0) (rm7 l Z a0 hw [] r q tr tq n k (own_f3 P0 P1 P2) (own_f3 Q0 Q1 Q2) T19.heap n0 z19q hnn hnk (by rw [e19h]; exact Er2) (by rw [e19h]; exact Eq2) (by rw [e19h]; exact Fr2) (by rw [e19h]; exact Fq2) (by rw [e19h]; exact Vr2) (by rw [e19h]; exact Vq2)) hZ (hw _ (List.mem_of_getElem? (i := 41) rfl)) (hw _ (List.mem_of_getElem? (i := 8) rfl)) (by decide) (by decide)) q20a q20c (g := (mkF m 339 #[.val (.long q1), .second, .val (.long q2), .second, .val (.long q3), .second, .val (.long q4), .second, .val (.int p5), .val (.int p6), .val (.long P0), .second, .val (.long P1), .second, .val (.long P2), .second, .val (.long DM), .second, .val (.int (Int32.ofNat n)), .val (.int (Int32.ofNat k)), .val (.long Q0), .second, .val (.long Q1), .second, .val (.long Q2), .second, .val (.ref ra), .val (.ref qa), .val (.ref r), .val (.ref q), .val (.long r1), .second, .val (.long r2), .second, .val (.long s1), .second, .val (.long s2), .second, .val (.int c0), .val (.int c1), .val (.int c2), .val (.int ex)] [(.ref q), (.ref r)])) rfl (by rw [hml]; rfl) (Steps.refl _) (argsL := [(.ref q)]) (rest := []) (lenOf pd_0_7 rfl) rfl (by show 2 * 0 + _ ≤ _; exact Nat.le_of_eq rfl) (hb hby at_339) (fun _ _ => ⟨rfl, rfl, (by decide : 6 + 0 ≤ _), (by decide : 14 + 0 ≤ _)⟩)
  dsimp only [Pt.U, Pt.locs, Pt.cells, Pt.slots] at X20 l20 y20 z20 st20 hQ20
  subst l20 y20 z20
  obtain ⟨rfl, N20q, e20q⟩ := hQ20
  have N20 := Fr.app N19 N20q
  have e20h : T20.heap = h11 := e20q.trans e19h
  have z20q : n0 ≤ T20.heap.size := by rw [e20h]; exact Zd
  obtain ⟨_, _, ⟨T21, L21, k21, n21⟩, -, X21, ⟨Lc21, hQ21, l21, y21, z21⟩, st21⟩ := Jvm.LawKit.callS X20 hx (y := (⟨"com/example/updrift/updrift/model/ReleaseNumberOfPinLaw", "sgn", "(I)I"⟩ : MethodName)) hown (mvT hZ (hw _ (List.mem_of_getElem? (i := 54) rfl))) (mvT hZ (hw _ (List.mem_of_getElem? (i := 55) rfl))) (mvT hZ (hw _ (List.mem_of_getElem? (i := 3) rfl))) (mvT hZ (hw _ (List.mem_of_getElem? (i := 56) rfl))) (by decide) (backOf (W := 0) (rm11 l Z a0 hw [] (own_ct (fun j => own_lc (own_part n (own_f3 P0 P1 P2) j) (own_part k (own_f3 Q0 Q1 Q2) j)) (max n k) 0)  T20.heap n0 z20q) hZ (hw _ (List.mem_of_getElem? (i := 56) rfl)) (hw _ (List.mem_of_getElem? (i := 3) rfl)) (by decide) (by decide)) (g := (mkF m 342 #[.val (.long q1), .second, .val (.long q2), .second, .val (.long q3), .second, .val (.long q4), .second, .val (.int p5), .val (.int p6), .val (.long P0), .second, .val (.long P1), .second, .val (.long P2), .second, .val (.long DM), .second, .val (.int (Int32.ofNat n)), .val (.int (Int32.ofNat k)), .val (.long Q0), .second, .val (.long Q1), .second, .val (.long Q2), .second, .val (.ref ra), .val (.ref qa), .val (.ref r), .val (.ref q), .val (.long r1), .second, .val (.long r2), .second, .val (.long s1), .second, .val (.long s2), .second, .val (.int c0), .val (.int c1), .val (.int c2), .val (.int ex)] [(.int (own_ct (fun j => own_lc (own_part n (own_f3 P0 P1 P2) j) (own_part k (own_f3 Q0 Q1 Q2) j)) (max n k) 0))])) rfl (by rw [hml]; rfl) (argsL := [(.int (own_ct (fun j => own_lc (own_part n (own_f3 P0 P1 P2) j) (own_part k (own_f3 Q0 Q1 Q2) j)) (max n k) 0))]) (rest := []) (lenOf pd_0_10 rfl) rfl (by show 2 * 0 + _ ≤ _; exact Nat.le_of_eq rfl) (hb hby at_342) (fun _ _ => ⟨rfl, rfl, (by decide : 6 + 0 ≤ _), (by decide : 14 + 0 ≤ _)⟩)
  dsimp only [Pt.U, Pt.locs, Pt.cells, Pt.slots] at X21 l21 y21 z21 st21 hQ21
  subst l21 y21 z21
  obtain ⟨rfl, N21q, e21q⟩ := hQ21
  have N21 := Fr.app N20 N21q
  have e21h : T21.heap = h11 := e21q.trans e20h
  have z21q : n0 ≤ T21.heap.size := by rw [e21h]; exact Zd
  obtain ⟨cq22, kq22, q22a, q22b, q22c⟩ := isOf hZ rfl (show Exa Z T21.heap q "com/example/updrift/updrift/model/ReleaseNumber" by rw [e21h]; exact Eq2)
  obtain ⟨_, _, ⟨T22, L22, k22, n22⟩, -, X22, ⟨Lc22, hQ22, l22, y22, z22⟩, st22⟩ := X21.virtualBack hx (y := (⟨"com/example/updrift/updrift/model/ReleaseNumber", "compareTo", "(Lcom/example/updrift/updrift/model/ReleaseNumber;)I"⟩ : MethodName)) (z := (⟨"com/example/updrift/updrift/model/ReleaseNumber", "compareTo", "(Lcom/example/updrift/updrift/model/ReleaseNumber;)I"⟩ : MethodName)) hown (mvT hZ (hw _ (List.mem_of_getElem? (i := 37) rfl))) (mvT hZ (hw _ (List.mem_of_getElem? (i := 38) rfl))) (notFace_of_selects (args := #[]) (mvT hZ (hw _ (List.mem_of_getElem? (i := 40) rfl)))) (mvT hZ (hw _ (List.mem_of_getElem? (i := 40) rfl))) (mvT hZ (hw _ (List.mem_of_getElem? (i := 39) rfl))) (by decide) (backOf (W := 0) (rm7 l Z a0 hw [] q r tq tr k n (own_f3 Q0 Q1 Q2) (own_f3 P0 P1 P2) T21.heap n0 z21q hnk hnn (by rw [e21h]; exact Eq2) (by rw [e21h]; exact Er2) (by rw [e21h]; exact Fq2) (by rw [e21h]; exact Fr2) (by rw [e21h]; exact Vq2) (by rw [e21h]; exact Vr2)) hZ (hw _ (List.mem_of_getElem? (i := 41) rfl)) (hw _ (List.mem_of_getElem? (i := 8) rfl)) (by decide) (by decide)) q22a q22c (g := (mkF m 354 #[.val (.long q1), .second, .val (.long q2), .second, .val (.long q3), .second, .val (.long q4), .second, .val (.int p5), .val (.int p6), .val (.long P0), .second, .val (.long P1), .second, .val (.long P2), .second, .val (.long DM), .second, .val (.int (Int32.ofNat n)), .val (.int (Int32.ofNat k)), .val (.long Q0), .second, .val (.long Q1), .second, .val (.long Q2), .second, .val (.ref ra), .val (.ref qa), .val (.ref r), .val (.ref q), .val (.long r1), .second, .val (.long r2), .second, .val (.long s1), .second, .val (.long s2), .second, .val (.int c0), .val (.int c1), .val (.int c2), .val (.int ex)] [(.ref r), (.ref q)])) rfl (by rw [hml]; rfl) (Steps.refl _) (argsL := [(.ref r)]) (rest := []) (lenOf pd_0_7 rfl) rfl (by show 2 * 0 + _ ≤ _; exact Nat.le_of_eq rfl) (hb hby at_354) (fun _ _ => ⟨rfl, rfl, (by decide : 6 + 0 ≤ _), (by decide : 14 + 0 ≤ _)⟩)
  dsimp only [Pt.U, Pt.locs, Pt.cells, Pt.slots] at X22 l22 y22 z22 st22 hQ22
  subst l22 y22 z22
  obtain ⟨rfl, N22q, e22q⟩ := hQ22
  have N22 := Fr.app N21 N22q
  have e22h : T22.heap = h11 := e22q.trans e21h
  have z22q : n0 ≤ T22.heap.size := by rw [e22h]; exact Zd
  obtain ⟨_, _, ⟨T23, L23, k23, n23⟩, -, X23, ⟨Lc23, hQ23, l23, y23, z23⟩, st23⟩ := Jvm.LawKit.callS X22 hx (y := (⟨"com/example/updrift/updrift/model/ReleaseNumberOfPinLaw", "sgn", "(I)I"⟩ : MethodName)) hown (mvT hZ (hw _ (List.mem_of_getElem? (i := 54) rfl))) (mvT hZ (hw _ (List.mem_of_getElem? (i := 55) rfl))) (mvT hZ (hw _ (List.mem_of_getElem? (i := 3) rfl))) (mvT hZ (hw _ (List.mem_of_getElem? (i := 56) rfl))) (by decide) (backOf (W := 0) (rm11 l Z a0 hw [] (own_ct (fun j => own_lc (own_part k (own_f3 Q0 Q1 Q2) j) (own_part n (own_f3 P0 P1 P2) j)) (max k n) 0)  T22.heap n0 z22q) hZ (hw _ (List.mem_of_getElem? (i := 56) rfl)) (hw _ (List.mem_of_getElem? (i := 3) rfl)) (by decide) (by decide)) (g := (mkF m 357 #[.val (.long q1), .second, .val (.long q2), .second, .val (.long q3), .second, .val (.long q4), .second, .val (.int p5), .val (.int p6), .val (.long P0), .second, .val (.long P1), .second, .val (.long P2), .second, .val (.long DM), .second, .val (.int (Int32.ofNat n)), .val (.int (Int32.ofNat k)), .val (.long Q0), .second, .val (.long Q1), .second, .val (.long Q2), .second, .val (.ref ra), .val (.ref qa), .val (.ref r), .val (.ref q), .val (.long r1), .second, .val (.long r2), .second, .val (.long s1), .second, .val (.long s2), .second, .val (.int c0), .val (.int c1), .val (.int c2), .val (.int ex)] [(.int (own_ct (fun j => own_lc (own_part k (own_f3 Q0 Q1 Q2) j) (own_part n (own_f3 P0 P1 P2) j)) (max k n) 0))])) rfl (by rw [hml]; rfl) (argsL := [(.int (own_ct (fun j => own_lc (own_part k (own_f3 Q0 Q1 Q2) j) (own_part n (own_f3 P0 P1 P2) j)) (max k n) 0))]) (rest := []) (lenOf pd_0_10 rfl) rfl (by show 2 * 0 + _ ≤ _; exact Nat.le_of_eq rfl) (hb hby at_357) (fun _ _ => ⟨rfl, rfl, (by decide : 6 + 0 ≤ _), (by decide : 14 + 0 ≤ _)⟩)
  dsimp only [Pt.U, Pt.locs, Pt.cells, Pt.slots] at X23 l23 y23 z23 st23 hQ23
  subst l23 y23 z23
  obtain ⟨rfl, N23q, e23q⟩ := hQ23
  have N23 := Fr.app N22 N23q
  have e23h : T23.heap = h11 := e23q.trans e22h
  have z23q : n0 ≤ T23.heap.size := by rw [e23h]; exact Zd
  obtain ⟨cq24, kq24, q24a, q24b, q24c⟩ := isOf hZ rfl (show Exa Z T23.heap r "com/example/updrift/updrift/model/ReleaseNumber" by rw [e23h]; exact Er2)
  obtain ⟨_, _, ⟨T24, L24, k24, n24⟩, -, X24, ⟨Lc24, hQ24, l24, y24, z24⟩, st24⟩ := X23.virtualBack hx (y := (⟨"com/example/updrift/updrift/model/ReleaseNumber", "equals", "(Ljava/lang/Object;)Z"⟩ : MethodName)) (z := (⟨"com/example/updrift/updrift/model/ReleaseNumber", "equals", "(Ljava/lang/Object;)Z"⟩ : MethodName)) hown (mvT hZ (hw _ (List.mem_of_getElem? (i := 57) rfl))) (mvT hZ (hw _ (List.mem_of_getElem? (i := 58) rfl))) (notFace_of_selects (args := #[]) (mvT hZ (hw _ (List.mem_of_getElem? (i := 60) rfl)))) (mvT hZ (hw _ (List.mem_of_getElem? (i := 60) rfl))) (mvT hZ (hw _ (List.mem_of_getElem? (i := 59) rfl))) (by decide) (backOf (W := 0) (rm12 l Z a0 hw [] r q tr tq n k (own_f3 P0 P1 P2) (own_f3 Q0 Q1 Q2) T23.heap n0 z23q hnn hnk (by rw [e23h]; exact Er2) (by rw [e23h]; exact Eq2) (by rw [e23h]; exact Fr2) (by rw [e23h]; exact Fq2) (by rw [e23h]; exact Vr2) (by rw [e23h]; exact Vq2)) hZ (hw _ (List.mem_of_getElem? (i := 61) rfl)) (hw _ (List.mem_of_getElem? (i := 8) rfl)) (by decide) (by decide)) q24a q24c (g := (mkF m 370 #[.val (.long q1), .second, .val (.long q2), .second, .val (.long q3), .second, .val (.long q4), .second, .val (.int p5), .val (.int p6), .val (.long P0), .second, .val (.long P1), .second, .val (.long P2), .second, .val (.long DM), .second, .val (.int (Int32.ofNat n)), .val (.int (Int32.ofNat k)), .val (.long Q0), .second, .val (.long Q1), .second, .val (.long Q2), .second, .val (.ref ra), .val (.ref qa), .val (.ref r), .val (.ref q), .val (.long r1), .second, .val (.long r2), .second, .val (.long s1), .second, .val (.long s2), .second, .val (.int c0), .val (.int c1), .val (.int c2), .val (.int ex)] [(.ref q), (.ref r)])) rfl (by rw [hml]; rfl) (Steps.refl _) (argsL := [(.ref q)]) (rest := []) (lenOf pd_0_11 rfl) rfl (by show 2 * 0 + _ ≤ _; exact Nat.le_of_eq rfl) (hb hby at_370) (fun _ _ => ⟨rfl, rfl, (by decide : 6 + 0 ≤ _), (by decide : 14 + 0 ≤ _)⟩)
  dsimp only [Pt.U, Pt.locs, Pt.cells, Pt.slots] at X24 l24 y24 z24 st24 hQ24
  subst l24 y24 z24
  obtain ⟨rfl, N24q, e24q⟩ := hQ24
  have N24 := Fr.app N23 N24q
  have e24h : T24.heap = h11 := e24q.trans e23h
  have z24q : n0 ≤ T24.heap.size := by rw [e24h]; exact Zd
  obtain ⟨T25, X25, e25, st25⟩ := own_j9 q1 q2 q3 q4 p5 p6 P0 P1 P2 DM n k Q0 Q1 Q2 ra qa r q r1 r2 s1 s2 c0 c1 c2 ex (own_z (own_ct (fun j => own_lc (own_part n (own_f3 P0 P1 P2) j) (own_part k (own_f3 Q0 Q1 Q2) j)) (max n k) 0)) X24 hx hZ hw hby hml hown rfl
  obtain ⟨fs, hr, hrun, hended, hW, hsame⟩ := X25.leave (v := some (.int (1 : Int32))) (fun h => by rw [Bd.returns] at h; cases h)
  refine ⟨_, _, pre0 _ ?_, hrun, hended, _, _, rfl, ?_, ⟨_, rfl⟩, hW, hsame.mono (by decide) (by decide)⟩
  · show Steps p.tables e below (s₁.setTop (mkF m 0 #[.val (.long q1), .second, .val (.long q2), .second, .val (.long q3), .second, .val (.long q4), .second, .val (.int p5), .val (.int p6), .unset, .unset, .unset, .unset, .unset, .unset, .unset, .unset, .unset, .unset, .unset, .unset, .unset, .unset, .unset, .unset, .unset, .unset, .unset, .unset, .unset, .unset, .unset, .unset, .unset, .unset, .unset, .unset, .unset, .unset, .unset, .unset] [])) _
    refine st7 _ ?_
    show Steps p.tables e below (T7.setTop (mkF m 96 #[.val (.long q1), .second, .val (.long q2), .second, .val (.long q3), .second, .val (.long q4), .second, .val (.int p5), .val (.int p6), .val (.long P0), .second, .val (.long P1), .second, .val (.long P2), .second, .val (.long DM), .second, .val (.int (Int32.ofNat n)), .val (.int (Int32.ofNat k)), .val (.long Q0), .second, .val (.long Q1), .second, .val (.long Q2), .second, .unset, .unset, .unset, .unset, .unset, .unset, .unset, .unset, .unset, .unset, .unset, .unset, .unset, .unset, .unset, .unset] [])) _
    refine st8 _ ?_
    show Steps p.tables e below (T8.setTop (mkF m 132 #[.val (.long q1), .second, .val (.long q2), .second, .val (.long q3), .second, .val (.long q4), .second, .val (.int p5), .val (.int p6), .val (.long P0), .second, .val (.long P1), .second, .val (.long P2), .second, .val (.long DM), .second, .val (.int (Int32.ofNat n)), .val (.int (Int32.ofNat k)), .val (.long Q0), .second, .val (.long Q1), .second, .val (.long Q2), .second, .val (.ref ra), .unset, .unset, .unset, .unset, .unset, .unset, .unset, .unset, .unset, .unset, .unset, .unset, .unset, .unset, .unset] [])) _
    refine st9 _ ?_
    show Steps p.tables e below (T9.setTop (mkF m 168 #[.val (.long q1), .second, .val (.long q2), .second, .val (.long q3), .second, .val (.long q4), .second, .val (.int p5), .val (.int p6), .val (.long P0), .second, .val (.long P1), .second, .val (.long P2), .second, .val (.long DM), .second, .val (.int (Int32.ofNat n)), .val (.int (Int32.ofNat k)), .val (.long Q0), .second, .val (.long Q1), .second, .val (.long Q2), .second, .val (.ref ra), .val (.ref qa), .unset, .unset, .unset, .unset, .unset, .unset, .unset, .unset, .unset, .unset, .unset, .unset, .unset, .unset] [])) _
    refine st10 _ ?_
    show Steps p.tables e below (T10.setTop (mkF m 182 #[.val (.long q1), .second, .val (.long q2), .second, .val (.long q3), .second, .val (.long q4), .second, .val (.int p5), .val (.int p6), .val (.long P0), .second, .val (.long P1), .second, .val (.long P2), .second, .val (.long DM), .second, .val (.int (Int32.ofNat n)), .val (.int (Int32.ofNat k)), .val (.long Q0), .second, .val (.long Q1), .second, .val (.long Q2), .second, .val (.ref ra), .val (.ref qa), .val (.ref r), .val (.ref q), .unset, .unset, .unset, .unset, .unset, .unset, .unset, .unset, .unset, .unset, .unset, .unset] [])) _
    refine st11 _ ?_
    show Steps p.tables e below (T11.setTop (mkF m 208 #[.val (.long q1), .second, .val (.long q2), .second, .val (.long q3), .second, .val (.long q4), .second, .val (.int p5), .val (.int p6), .val (.long P0), .second, .val (.long P1), .second, .val (.long P2), .second, .val (.long DM), .second, .val (.int (Int32.ofNat n)), .val (.int (Int32.ofNat k)), .val (.long Q0), .second, .val (.long Q1), .second, .val (.long Q2), .second, .val (.ref ra), .val (.ref qa), .val (.ref r), .val (.ref q), .unset, .unset, .unset, .unset, .unset, .unset, .unset, .unset, .unset, .unset, .unset, .unset] [])) _
    refine st12 _ ?_
    show Steps p.tables e below (T12.setTop (mkF m 222 #[.val (.long q1), .second, .val (.long q2), .second, .val (.long q3), .second, .val (.long q4), .second, .val (.int p5), .val (.int p6), .val (.long P0), .second, .val (.long P1), .second, .val (.long P2), .second, .val (.long DM), .second, .val (.int (Int32.ofNat n)), .val (.int (Int32.ofNat k)), .val (.long Q0), .second, .val (.long Q1), .second, .val (.long Q2), .second, .val (.ref ra), .val (.ref qa), .val (.ref r), .val (.ref q), .val (.long r1), .second, .unset, .unset, .unset, .unset, .unset, .unset, .unset, .unset, .unset, .unset] [])) _
    refine st13 _ ?_
    show Steps p.tables e below (T13.setTop (mkF m 236 #[.val (.long q1), .second, .val (.long q2), .second, .val (.long q3), .second, .val (.long q4), .second, .val (.int p5), .val (.int p6), .val (.long P0), .second, .val (.long P1), .second, .val (.long P2), .second, .val (.long DM), .second, .val (.int (Int32.ofNat n)), .val (.int (Int32.ofNat k)), .val (.long Q0), .second, .val (.long Q1), .second, .val (.long Q2), .second, .val (.ref ra), .val (.ref qa), .val (.ref r), .val (.ref q), .val (.long r1), .second, .val (.long r2), .second, .unset, .unset, .unset, .unset, .unset, .unset, .unset, .unset] [])) _
    refine st14 _ ?_
    show Steps p.tables e below (T14.setTop (mkF m 250 #[.val (.long q1), .second, .val (.long q2), .second, .val (.long q3), .second, .val (.long q4), .second, .val (.int p5), .val (.int p6), .val (.long P0), .second, .val (.long P1), .second, .val (.long P2), .second, .val (.long DM), .second, .val (.int (Int32.ofNat n)), .val (.int (Int32.ofNat k)), .val (.long Q0), .second, .val (.long Q1), .second, .val (.long Q2), .second, .val (.ref ra), .val (.ref qa), .val (.ref r), .val (.ref q), .val (.long r1), .second, .val (.long r2), .second, .val (.long s1), .second, .unset, .unset, .unset, .unset, .unset, .unset] [])) _
    refine st15 _ ?_
    show Steps p.tables e below (T15.setTop (mkF m 264 #[.val (.long q1), .second, .val (.long q2), .second, .val (.long q3), .second, .val (.long q4), .second, .val (.int p5), .val (.int p6), .val (.long P0), .second, .val (.long P1), .second, .val (.long P2), .second, .val (.long DM), .second, .val (.int (Int32.ofNat n)), .val (.int (Int32.ofNat k)), .val (.long Q0), .second, .val (.long Q1), .second, .val (.long Q2), .second, .val (.ref ra), .val (.ref qa), .val (.ref r), .val (.ref q), .val (.long r1), .second, .val (.long r2), .second, .val (.long s1), .second, .val (.long s2), .second, .unset, .unset, .unset, .unset] [])) _
    refine st16 _ ?_
    show Steps p.tables e below (T16.setTop (mkF m 291 #[.val (.long q1), .second, .val (.long q2), .second, .val (.long q3), .second, .val (.long q4), .second, .val (.int p5), .val (.int p6), .val (.long P0), .second, .val (.long P1), .second, .val (.long P2), .second, .val (.long DM), .second, .val (.int (Int32.ofNat n)), .val (.int (Int32.ofNat k)), .val (.long Q0), .second, .val (.long Q1), .second, .val (.long Q2), .second, .val (.ref ra), .val (.ref qa), .val (.ref r), .val (.ref q), .val (.long r1), .second, .val (.long r2), .second, .val (.long s1), .second, .val (.long s2), .second, .val (.int c0), .val (.int c1), .val (.int c2), .unset] [])) _
    refine st17 _ ?_
    show Steps p.tables e below (T17.setTop (mkF m 315 #[.val (.long q1), .second, .val (.long q2), .second, .val (.long q3), .second, .val (.long q4), .second, .val (.int p5), .val (.int p6), .val (.long P0), .second, .val (.long P1), .second, .val (.long P2), .second, .val (.long DM), .second, .val (.int (Int32.ofNat n)), .val (.int (Int32.ofNat k)), .val (.long Q0), .second, .val (.long Q1), .second, .val (.long Q2), .second, .val (.ref ra), .val (.ref qa), .val (.ref r), .val (.ref q), .val (.long r1), .second, .val (.long r2), .second, .val (.long s1), .second, .val (.long s2), .second, .val (.int c0), .val (.int c1), .val (.int c2), .val (.int ex)] [])) _
    refine XS.aload X17.here hx rfl (hb hby at_315) rfl rfl ?_
    show Steps p.tables e below (T17.setTop (mkF m 317 #[.val (.long q1), .second, .val (.long q2), .second, .val (.long q3), .second, .val (.long q4), .second, .val (.int p5), .val (.int p6), .val (.long P0), .second, .val (.long P1), .second, .val (.long P2), .second, .val (.long DM), .second, .val (.int (Int32.ofNat n)), .val (.int (Int32.ofNat k)), .val (.long Q0), .second, .val (.long Q1), .second, .val (.long Q2), .second, .val (.ref ra), .val (.ref qa), .val (.ref r), .val (.ref q), .val (.long r1), .second, .val (.long r2), .second, .val (.long s1), .second, .val (.long s2), .second, .val (.int c0), .val (.int c1), .val (.int c2), .val (.int ex)] [(.ref r)])) _
    refine st18.trans ?_
    show Steps p.tables e below (T18.setTop (mkF m 320 #[.val (.long q1), .second, .val (.long q2), .second, .val (.long q3), .second, .val (.long q4), .second, .val (.int p5), .val (.int p6), .val (.long P0), .second, .val (.long P1), .second, .val (.long P2), .second, .val (.long DM), .second, .val (.int (Int32.ofNat n)), .val (.int (Int32.ofNat k)), .val (.long Q0), .second, .val (.long Q1), .second, .val (.long Q2), .second, .val (.ref ra), .val (.ref qa), .val (.ref r), .val (.ref q), .val (.long r1), .second, .val (.long r2), .second, .val (.long s1), .second, .val (.long s2), .second, .val (.int c0), .val (.int c1), .val (.int c2), .val (.int ex)] [(.int (Int32.ofNat n))])) _
    refine XS.iload X18.here hx rfl (hb hby at_320) rfl ?_
    show Steps p.tables e below (T18.setTop (mkF m 322 #[.val (.long q1), .second, .val (.long q2), .second, .val (.long q3), .second, .val (.long q4), .second, .val (.int p5), .val (.int p6), .val (.long P0), .second, .val (.long P1), .second, .val (.long P2), .second, .val (.long DM), .second, .val (.int (Int32.ofNat n)), .val (.int (Int32.ofNat k)), .val (.long Q0), .second, .val (.long Q1), .second, .val (.long Q2), .second, .val (.ref ra), .val (.ref qa), .val (.ref r), .val (.ref q), .val (.long r1), .second, .val (.long r2), .second, .val (.long s1), .second, .val (.long s2), .second, .val (.int c0), .val (.int c1), .val (.int c2), .val (.int ex)] [(.int (Int32.ofNat n)), (.int (Int32.ofNat n))])) _
    refine XS.icmpNo X18.here hx rfl (hb hby at_322) rfl (teq (rfl : (Int32.ofNat n) = (Int32.ofNat n))).2 ?_
    show Steps p.tables e below (T18.setTop (mkF m 325 #[.val (.long q1), .second, .val (.long q2), .second, .val (.long q3), .second, .val (.long q4), .second, .val (.int p5), .val (.int p6), .val (.long P0), .second, .val (.long P1), .second, .val (.long P2), .second, .val (.long DM), .second, .val (.int (Int32.ofNat n)), .val (.int (Int32.ofNat k)), .val (.long Q0), .second, .val (.long Q1), .second, .val (.long Q2), .second, .val (.ref ra), .val (.ref qa), .val (.ref r), .val (.ref q), .val (.long r1), .second, .val (.long r2), .second, .val (.long s1), .second, .val (.long s2), .second, .val (.int c0), .val (.int c1), .val (.int c2), .val (.int ex)] [])) _
    refine XS.aload X18.here hx rfl (hb hby at_325) rfl rfl ?_
    show Steps p.tables e below (T18.setTop (mkF m 327 #[.val (.long q1), .second, .val (.long q2), .second, .val (.long q3), .second, .val (.long q4), .second, .val (.int p5), .val (.int p6), .val (.long P0), .second, .val (.long P1), .second, .val (.long P2), .second, .val (.long DM), .second, .val (.int (Int32.ofNat n)), .val (.int (Int32.ofNat k)), .val (.long Q0), .second, .val (.long Q1), .second, .val (.long Q2), .second, .val (.ref ra), .val (.ref qa), .val (.ref r), .val (.ref q), .val (.long r1), .second, .val (.long r2), .second, .val (.long s1), .second, .val (.long s2), .second, .val (.int c0), .val (.int c1), .val (.int c2), .val (.int ex)] [(.ref q)])) _
    refine st19.trans ?_
    show Steps p.tables e below (T19.setTop (mkF m 330 #[.val (.long q1), .second, .val (.long q2), .second, .val (.long q3), .second, .val (.long q4), .second, .val (.int p5), .val (.int p6), .val (.long P0), .second, .val (.long P1), .second, .val (.long P2), .second, .val (.long DM), .second, .val (.int (Int32.ofNat n)), .val (.int (Int32.ofNat k)), .val (.long Q0), .second, .val (.long Q1), .second, .val (.long Q2), .second, .val (.ref ra), .val (.ref qa), .val (.ref r), .val (.ref q), .val (.long r1), .second, .val (.long r2), .second, .val (.long s1), .second, .val (.long s2), .second, .val (.int c0), .val (.int c1), .val (.int c2), .val (.int ex)] [(.int (Int32.ofNat k))])) _
    refine XS.iload X19.here hx rfl (hb hby at_330) rfl ?_
    show Steps p.tables e below (T19.setTop (mkF m 332 #[.val (.long q1), .second, .val (.long q2), .second, .val (.long q3), .second, .val (.long q4), .second, .val (.int p5), .val (.int p6), .val (.long P0), .second, .val (.long P1), .second, .val (.long P2), .second, .val (.long DM), .second, .val (.int (Int32.ofNat n)), .val (.int (Int32.ofNat k)), .val (.long Q0), .second, .val (.long Q1), .second, .val (.long Q2), .second, .val (.ref ra), .val (.ref qa), .val (.ref r), .val (.ref q), .val (.long r1), .second, .val (.long r2), .second, .val (.long s1), .second, .val (.long s2), .second, .val (.int c0), .val (.int c1), .val (.int c2), .val (.int ex)] [(.int (Int32.ofNat k)), (.int (Int32.ofNat k))])) _
    refine XS.icmpNo X19.here hx rfl (hb hby at_332) rfl (teq (rfl : (Int32.ofNat k) = (Int32.ofNat k))).2 ?_
    show Steps p.tables e below (T19.setTop (mkF m 335 #[.val (.long q1), .second, .val (.long q2), .second, .val (.long q3), .second, .val (.long q4), .second, .val (.int p5), .val (.int p6), .val (.long P0), .second, .val (.long P1), .second, .val (.long P2), .second, .val (.long DM), .second, .val (.int (Int32.ofNat n)), .val (.int (Int32.ofNat k)), .val (.long Q0), .second, .val (.long Q1), .second, .val (.long Q2), .second, .val (.ref ra), .val (.ref qa), .val (.ref r), .val (.ref q), .val (.long r1), .second, .val (.long r2), .second, .val (.long s1), .second, .val (.long s2), .second, .val (.int c0), .val (.int c1), .val (.int c2), .val (.int ex)] [])) _
    refine XS.aload X19.here hx rfl (hb hby at_335) rfl rfl ?_
    show Steps p.tables e below (T19.setTop (mkF m 337 #[.val (.long q1), .second, .val (.long q2), .second, .val (.long q3), .second, .val (.long q4), .second, .val (.int p5), .val (.int p6), .val (.long P0), .second, .val (.long P1), .second, .val (.long P2), .second, .val (.long DM), .second, .val (.int (Int32.ofNat n)), .val (.int (Int32.ofNat k)), .val (.long Q0), .second, .val (.long Q1), .second, .val (.long Q2), .second, .val (.ref ra), .val (.ref qa), .val (.ref r), .val (.ref q), .val (.long r1), .second, .val (.long r2), .second, .val (.long s1), .second, .val (.long s2), .second, .val (.int c0), .val (.int c1), .val (.int c2), .val (.int ex)] [(.ref r)])) _
    refine XS.aload X19.here hx rfl (hb hby at_337) rfl rfl ?_
    show Steps p.tables e below (T19.setTop (mkF m 339 #[.val (.long q1), .second, .val (.long q2), .second, .val (.long q3), .second, .val (.long q4), .second, .val (.int p5), .val (.int p6), .val (.long P0), .second, .val (.long P1), .second, .val (.long P2), .second, .val (.long DM), .second, .val (.int (Int32.ofNat n)), .val (.int (Int32.ofNat k)), .val (.long Q0), .second, .val (.long Q1), .second, .val (.long Q2), .second, .val (.ref ra), .val (.ref qa), .val (.ref r), .val (.ref q), .val (.long r1), .second, .val (.long r2), .second, .val (.long s1), .second, .val (.long s2), .second, .val (.int c0), .val (.int c1), .val (.int c2), .val (.int ex)] [(.ref q), (.ref r)])) _
    refine st20.trans ?_
    show Steps p.tables e below (T20.setTop (mkF m 342 #[.val (.long q1), .second, .val (.long q2), .second, .val (.long q3), .second, .val (.long q4), .second, .val (.int p5), .val (.int p6), .val (.long P0), .second, .val (.long P1), .second, .val (.long P2), .second, .val (.long DM), .second, .val (.int (Int32.ofNat n)), .val (.int (Int32.ofNat k)), .val (.long Q0), .second, .val (.long Q1), .second, .val (.long Q2), .second, .val (.ref ra), .val (.ref qa), .val (.ref r), .val (.ref q), .val (.long r1), .second, .val (.long r2), .second, .val (.long s1), .second, .val (.long s2), .second, .val (.int c0), .val (.int c1), .val (.int c2), .val (.int ex)] [(.int (own_ct (fun j => own_lc (own_part n (own_f3 P0 P1 P2) j) (own_part k (own_f3 Q0 Q1 Q2) j)) (max n k) 0))])) _
    refine st21 _ ?_
    show Steps p.tables e below (T21.setTop (mkF m 345 #[.val (.long q1), .second, .val (.long q2), .second, .val (.long q3), .second, .val (.long q4), .second, .val (.int p5), .val (.int p6), .val (.long P0), .second, .val (.long P1), .second, .val (.long P2), .second, .val (.long DM), .second, .val (.int (Int32.ofNat n)), .val (.int (Int32.ofNat k)), .val (.long Q0), .second, .val (.long Q1), .second, .val (.long Q2), .second, .val (.ref ra), .val (.ref qa), .val (.ref r), .val (.ref q), .val (.long r1), .second, .val (.long r2), .second, .val (.long s1), .second, .val (.long s2), .second, .val (.int c0), .val (.int c1), .val (.int c2), .val (.int ex)] [(.int (own_sgn (own_ct (fun j => own_lc (own_part n (own_f3 P0 P1 P2) j) (own_part k (own_f3 Q0 Q1 Q2) j)) (max n k) 0)))])) _
    refine XS.iload X21.here hx rfl (hb hby at_345) rfl ?_
    show Steps p.tables e below (T21.setTop (mkF m 347 #[.val (.long q1), .second, .val (.long q2), .second, .val (.long q3), .second, .val (.long q4), .second, .val (.int p5), .val (.int p6), .val (.long P0), .second, .val (.long P1), .second, .val (.long P2), .second, .val (.long DM), .second, .val (.int (Int32.ofNat n)), .val (.int (Int32.ofNat k)), .val (.long Q0), .second, .val (.long Q1), .second, .val (.long Q2), .second, .val (.ref ra), .val (.ref qa), .val (.ref r), .val (.ref q), .val (.long r1), .second, .val (.long r2), .second, .val (.long s1), .second, .val (.long s2), .second, .val (.int c0), .val (.int c1), .val (.int c2), .val (.int ex)] [(.int ex), (.int (own_sgn (own_ct (fun j => own_lc (own_part n (own_f3 P0 P1 P2) j) (own_part k (own_f3 Q0 Q1 Q2) j)) (max n k) 0)))])) _
    refine XS.icmpNo X21.here hx rfl (hb hby at_347) rfl (teq (hA : (own_sgn (own_ct (fun j => own_lc (own_part n (own_f3 P0 P1 P2) j) (own_part k (own_f3 Q0 Q1 Q2) j)) (max n k) 0)) = ex)).2 ?_
    show Steps p.tables e below (T21.setTop (mkF m 350 #[.val (.long q1), .second, .val (.long q2), .second, .val (.long q3), .second, .val (.long q4), .second, .val (.int p5), .val (.int p6), .val (.long P0), .second, .val (.long P1), .second, .val (.long P2), .second, .val (.long DM), .second, .val (.int (Int32.ofNat n)), .val (.int (Int32.ofNat k)), .val (.long Q0), .second, .val (.long Q1), .second, .val (.long Q2), .second, .val (.ref ra), .val (.ref qa), .val (.ref r), .val (.ref q), .val (.long r1), .second, .val (.long r2), .second, .val (.long s1), .second, .val (.long s2), .second, .val (.int c0), .val (.int c1), .val (.int c2), .val (.int ex)] [])) _
    refine XS.aload X21.here hx rfl (hb hby at_350) rfl rfl ?_
    show Steps p.tables e below (T21.setTop (mkF m 352 #[.val (.long q1), .second, .val (.long q2), .second, .val (.long q3), .second, .val (.long q4), .second, .val (.int p5), .val (.int p6), .val (.long P0), .second, .val (.long P1), .second, .val (.long P2), .second, .val (.long DM), .second, .val (.int (Int32.ofNat n)), .val (.int (Int32.ofNat k)), .val (.long Q0), .second, .val (.long Q1), .second, .val (.long Q2), .second, .val (.ref ra), .val (.ref qa), .val (.ref r), .val (.ref q), .val (.long r1), .second, .val (.long r2), .second, .val (.long s1), .second, .val (.long s2), .second, .val (.int c0), .val (.int c1), .val (.int c2), .val (.int ex)] [(.ref q)])) _
    refine XS.aload X21.here hx rfl (hb hby at_352) rfl rfl ?_
    show Steps p.tables e below (T21.setTop (mkF m 354 #[.val (.long q1), .second, .val (.long q2), .second, .val (.long q3), .second, .val (.long q4), .second, .val (.int p5), .val (.int p6), .val (.long P0), .second, .val (.long P1), .second, .val (.long P2), .second, .val (.long DM), .second, .val (.int (Int32.ofNat n)), .val (.int (Int32.ofNat k)), .val (.long Q0), .second, .val (.long Q1), .second, .val (.long Q2), .second, .val (.ref ra), .val (.ref qa), .val (.ref r), .val (.ref q), .val (.long r1), .second, .val (.long r2), .second, .val (.long s1), .second, .val (.long s2), .second, .val (.int c0), .val (.int c1), .val (.int c2), .val (.int ex)] [(.ref r), (.ref q)])) _
    refine st22.trans ?_
    show Steps p.tables e below (T22.setTop (mkF m 357 #[.val (.long q1), .second, .val (.long q2), .second, .val (.long q3), .second, .val (.long q4), .second, .val (.int p5), .val (.int p6), .val (.long P0), .second, .val (.long P1), .second, .val (.long P2), .second, .val (.long DM), .second, .val (.int (Int32.ofNat n)), .val (.int (Int32.ofNat k)), .val (.long Q0), .second, .val (.long Q1), .second, .val (.long Q2), .second, .val (.ref ra), .val (.ref qa), .val (.ref r), .val (.ref q), .val (.long r1), .second, .val (.long r2), .second, .val (.long s1), .second, .val (.long s2), .second, .val (.int c0), .val (.int c1), .val (.int c2), .val (.int ex)] [(.int (own_ct (fun j => own_lc (own_part k (own_f3 Q0 Q1 Q2) j) (own_part n (own_f3 P0 P1 P2) j)) (max k n) 0))])) _
    refine st23 _ ?_
    show Steps p.tables e below (T23.setTop (mkF m 360 #[.val (.long q1), .second, .val (.long q2), .second, .val (.long q3), .second, .val (.long q4), .second, .val (.int p5), .val (.int p6), .val (.long P0), .second, .val (.long P1), .second, .val (.long P2), .second, .val (.long DM), .second, .val (.int (Int32.ofNat n)), .val (.int (Int32.ofNat k)), .val (.long Q0), .second, .val (.long Q1), .second, .val (.long Q2), .second, .val (.ref ra), .val (.ref qa), .val (.ref r), .val (.ref q), .val (.long r1), .second, .val (.long r2), .second, .val (.long s1), .second, .val (.long s2), .second, .val (.int c0), .val (.int c1), .val (.int c2), .val (.int ex)] [(.int (own_sgn (own_ct (fun j => own_lc (own_part k (own_f3 Q0 Q1 Q2) j) (own_part n (own_f3 P0 P1 P2) j)) (max k n) 0)))])) _
    refine XS.iload X23.here hx rfl (hb hby at_360) rfl ?_
    show Steps p.tables e below (T23.setTop (mkF m 362 #[.val (.long q1), .second, .val (.long q2), .second, .val (.long q3), .second, .val (.long q4), .second, .val (.int p5), .val (.int p6), .val (.long P0), .second, .val (.long P1), .second, .val (.long P2), .second, .val (.long DM), .second, .val (.int (Int32.ofNat n)), .val (.int (Int32.ofNat k)), .val (.long Q0), .second, .val (.long Q1), .second, .val (.long Q2), .second, .val (.ref ra), .val (.ref qa), .val (.ref r), .val (.ref q), .val (.long r1), .second, .val (.long r2), .second, .val (.long s1), .second, .val (.long s2), .second, .val (.int c0), .val (.int c1), .val (.int c2), .val (.int ex)] [(.int ex), (.int (own_sgn (own_ct (fun j => own_lc (own_part k (own_f3 Q0 Q1 Q2) j) (own_part n (own_f3 P0 P1 P2) j)) (max k n) 0)))])) _
    refine XS.ineg X23.here hx rfl (hb hby at_362) rfl ?_
    show Steps p.tables e below (T23.setTop (mkF m 363 #[.val (.long q1), .second, .val (.long q2), .second, .val (.long q3), .second, .val (.long q4), .second, .val (.int p5), .val (.int p6), .val (.long P0), .second, .val (.long P1), .second, .val (.long P2), .second, .val (.long DM), .second, .val (.int (Int32.ofNat n)), .val (.int (Int32.ofNat k)), .val (.long Q0), .second, .val (.long Q1), .second, .val (.long Q2), .second, .val (.ref ra), .val (.ref qa), .val (.ref r), .val (.ref q), .val (.long r1), .second, .val (.long r2), .second, .val (.long s1), .second, .val (.long s2), .second, .val (.int c0), .val (.int c1), .val (.int c2), .val (.int ex)] [(.int (-ex)), (.int (own_sgn (own_ct (fun j => own_lc (own_part k (own_f3 Q0 Q1 Q2) j) (own_part n (own_f3 P0 P1 P2) j)) (max k n) 0)))])) _
    refine XS.icmpNo X23.here hx rfl (hb hby at_363) rfl (teq (hB : (own_sgn (own_ct (fun j => own_lc (own_part k (own_f3 Q0 Q1 Q2) j) (own_part n (own_f3 P0 P1 P2) j)) (max k n) 0)) = (-ex))).2 ?_
    show Steps p.tables e below (T23.setTop (mkF m 366 #[.val (.long q1), .second, .val (.long q2), .second, .val (.long q3), .second, .val (.long q4), .second, .val (.int p5), .val (.int p6), .val (.long P0), .second, .val (.long P1), .second, .val (.long P2), .second, .val (.long DM), .second, .val (.int (Int32.ofNat n)), .val (.int (Int32.ofNat k)), .val (.long Q0), .second, .val (.long Q1), .second, .val (.long Q2), .second, .val (.ref ra), .val (.ref qa), .val (.ref r), .val (.ref q), .val (.long r1), .second, .val (.long r2), .second, .val (.long s1), .second, .val (.long s2), .second, .val (.int c0), .val (.int c1), .val (.int c2), .val (.int ex)] [])) _
    refine XS.aload X23.here hx rfl (hb hby at_366) rfl rfl ?_
    show Steps p.tables e below (T23.setTop (mkF m 368 #[.val (.long q1), .second, .val (.long q2), .second, .val (.long q3), .second, .val (.long q4), .second, .val (.int p5), .val (.int p6), .val (.long P0), .second, .val (.long P1), .second, .val (.long P2), .second, .val (.long DM), .second, .val (.int (Int32.ofNat n)), .val (.int (Int32.ofNat k)), .val (.long Q0), .second, .val (.long Q1), .second, .val (.long Q2), .second, .val (.ref ra), .val (.ref qa), .val (.ref r), .val (.ref q), .val (.long r1), .second, .val (.long r2), .second, .val (.long s1), .second, .val (.long s2), .second, .val (.int c0), .val (.int c1), .val (.int c2), .val (.int ex)] [(.ref r)])) _
    refine XS.aload X23.here hx rfl (hb hby at_368) rfl rfl ?_
    show Steps p.tables e below (T23.setTop (mkF m 370 #[.val (.long q1), .second, .val (.long q2), .second, .val (.long q3), .second, .val (.long q4), .second, .val (.int p5), .val (.int p6), .val (.long P0), .second, .val (.long P1), .second, .val (.long P2), .second, .val (.long DM), .second, .val (.int (Int32.ofNat n)), .val (.int (Int32.ofNat k)), .val (.long Q0), .second, .val (.long Q1), .second, .val (.long Q2), .second, .val (.ref ra), .val (.ref qa), .val (.ref r), .val (.ref q), .val (.long r1), .second, .val (.long r2), .second, .val (.long s1), .second, .val (.long s2), .second, .val (.int c0), .val (.int c1), .val (.int c2), .val (.int ex)] [(.ref q), (.ref r)])) _
    refine st24.trans ?_
    show Steps p.tables e below (T24.setTop (mkF m 373 #[.val (.long q1), .second, .val (.long q2), .second, .val (.long q3), .second, .val (.long q4), .second, .val (.int p5), .val (.int p6), .val (.long P0), .second, .val (.long P1), .second, .val (.long P2), .second, .val (.long DM), .second, .val (.int (Int32.ofNat n)), .val (.int (Int32.ofNat k)), .val (.long Q0), .second, .val (.long Q1), .second, .val (.long Q2), .second, .val (.ref ra), .val (.ref qa), .val (.ref r), .val (.ref q), .val (.long r1), .second, .val (.long r2), .second, .val (.long s1), .second, .val (.long s2), .second, .val (.int c0), .val (.int c1), .val (.int c2), .val (.int ex)] [(.int (own_z (own_ct (fun j => own_lc (own_part n (own_f3 P0 P1 P2) j) (own_part k (own_f3 Q0 Q1 Q2) j)) (max n k) 0)))])) _
    refine st25 _ ?_
    show Steps p.tables e below (T25.setTop (mkF m 383 #[.val (.long q1), .second, .val (.long q2), .second, .val (.long q3), .second, .val (.long q4), .second, .val (.int p5), .val (.int p6), .val (.long P0), .second, .val (.long P1), .second, .val (.long P2), .second, .val (.long DM), .second, .val (.int (Int32.ofNat n)), .val (.int (Int32.ofNat k)), .val (.long Q0), .second, .val (.long Q1), .second, .val (.long Q2), .second, .val (.ref ra), .val (.ref qa), .val (.ref r), .val (.ref q), .val (.long r1), .second, .val (.long r2), .second, .val (.long s1), .second, .val (.long s2), .second, .val (.int c0), .val (.int c1), .val (.int c2), .val (.int ex)] [(.int (own_z ex)), (.int (own_z (own_ct (fun j => own_lc (own_part n (own_f3 P0 P1 P2) j) (own_part k (own_f3 Q0 Q1 Q2) j)) (max n k) 0)))])) _
    refine XS.icmpNo X25.here hx rfl (hb hby at_383) rfl (teq (hC : (own_z (own_ct (fun j => own_lc (own_part n (own_f3 P0 P1 P2) j) (own_part k (own_f3 Q0 Q1 Q2) j)) (max n k) 0)) = (own_z ex))).2 ?_
    show Steps p.tables e below (T25.setTop (mkF m 386 #[.val (.long q1), .second, .val (.long q2), .second, .val (.long q3), .second, .val (.long q4), .second, .val (.int p5), .val (.int p6), .val (.long P0), .second, .val (.long P1), .second, .val (.long P2), .second, .val (.long DM), .second, .val (.int (Int32.ofNat n)), .val (.int (Int32.ofNat k)), .val (.long Q0), .second, .val (.long Q1), .second, .val (.long Q2), .second, .val (.ref ra), .val (.ref qa), .val (.ref r), .val (.ref q), .val (.long r1), .second, .val (.long r2), .second, .val (.long s1), .second, .val (.long s2), .second, .val (.int c0), .val (.int c1), .val (.int c2), .val (.int ex)] [])) _
    refine XS.iconst X25.here hx rfl (hb hby at_386) ?_
    show Steps p.tables e below (T25.setTop (mkF m 387 #[.val (.long q1), .second, .val (.long q2), .second, .val (.long q3), .second, .val (.long q4), .second, .val (.int p5), .val (.int p6), .val (.long P0), .second, .val (.long P1), .second, .val (.long P2), .second, .val (.long DM), .second, .val (.int (Int32.ofNat n)), .val (.int (Int32.ofNat k)), .val (.long Q0), .second, .val (.long Q1), .second, .val (.long Q2), .second, .val (.ref ra), .val (.ref qa), .val (.ref r), .val (.ref q), .val (.long r1), .second, .val (.long r2), .second, .val (.long s1), .second, .val (.long s2), .second, .val (.int c0), .val (.int c1), .val (.int c2), .val (.int ex)] [(.int (1 : Int32))])) _
    refine XS.goto X25.here hx rfl (pc0 := 387) (pc' := 391) rfl (hb hby at_387) (by decide) (by decide) ?_
    show Steps p.tables e below (T25.setTop (mkF m 391 #[.val (.long q1), .second, .val (.long q2), .second, .val (.long q3), .second, .val (.long q4), .second, .val (.int p5), .val (.int p6), .val (.long P0), .second, .val (.long P1), .second, .val (.long P2), .second, .val (.long DM), .second, .val (.int (Int32.ofNat n)), .val (.int (Int32.ofNat k)), .val (.long Q0), .second, .val (.long Q1), .second, .val (.long Q2), .second, .val (.ref ra), .val (.ref qa), .val (.ref r), .val (.ref q), .val (.long r1), .second, .val (.long r2), .second, .val (.long s1), .second, .val (.long s2), .second, .val (.int c0), .val (.int c1), .val (.int c2), .val (.int ex)] [(.int (1 : Int32))])) _
    exact retN X25 hx (t := .boolean) Bd.returns (by simp) (hb hby at_391) hr
  · show QL Z q1 q2 q3 q4 p5 p6 h0 n0 _ T25.heap _
    rw [e25]
    exact ⟨rfl, N24⟩
theorem rm0 (l : Launch) (Z : State) (a0 : Array Value) (hw : ∀ d ∈ tables_1, d.before a0 Z = true) (ws : List Jvm.Cond) (q1 q2 q3 q4 : Int64) (p5 p6 : Int32) (h0 : Heap) (n0 : Nat) (Z0 : n0 ≤ h0.size) :
    MetFree l x (head1 (Jvm.Cond.code x code maxLocals ret :: ws) room_1) (fun a U => a = #[(.long q1), (.long q2), (.long q3), (.long q4), (.int p5), (.int p6)] ∧ Z.Warmed39 U.vm ∧ U.heap = h0) (fun _ _ _ _ _ => True) (fun _ U o U' => ∃ v L, o = .returned v ∧ QL Z q1 q2 q3 q4 p5 p6 h0 n0 v U'.heap L ∧ FrameEnd U o U' L room_1.cells room_1.slots) := by
  obtain ⟨P0, hP0⟩ : ∃ z, own_P q1 = z := ⟨_, rfl⟩
  obtain ⟨P1, hP1⟩ : ∃ z, own_P q2 = z := ⟨_, rfl⟩
  obtain ⟨P2, hP2⟩ : ∃ z, own_P q3 = z := ⟨_, rfl⟩
  obtain ⟨DM, hDM⟩ : ∃ z, own_P q4 = z := ⟨_, rfl⟩
  obtain ⟨n, h1n, hnn, hn⟩ := own_n_nat p5
  obtain ⟨k, h1k, hnk, hk⟩ := own_n_nat (own_s6 p6)
  obtain ⟨Q0_, hQ0⟩ : ∃ z, own_pick (own_k0 p6) P0 DM = z := ⟨_, rfl⟩
  obtain ⟨Q1_, hQ1⟩ : ∃ z, own_pick (own_k1 p6) P1 DM = z := ⟨_, rfl⟩
  obtain ⟨Q2_, hQ2⟩ : ∃ z, own_pick (own_k2 p6) P2 DM = z := ⟨_, rfl⟩
  have n0_ : 0 ≤ P0.toInt := by rw [← hP0]; exact own_P_nn q1
  have n1_ : 0 ≤ P1.toInt := by rw [← hP1]; exact own_P_nn q2
  have n2_ : 0 ≤ P2.toInt := by rw [← hP2]; exact own_P_nn q3
  have nd_ : 0 ≤ DM.toInt := by rw [← hDM]; exact own_P_nn q4
  have m0_ : 0 ≤ Q0_.toInt := by rw [← hQ0]; exact own_pick_nn _ n0_ nd_
  have m1_ : 0 ≤ Q1_.toInt := by rw [← hQ1]; exact own_pick_nn _ n1_ nd_
  have m2_ : 0 ≤ Q2_.toInt := by rw [← hQ2]; exact own_pick_nn _ n2_ nd_
  have f3 : ∀ (a b c : Int64), 0 ≤ a.toInt → 0 ≤ b.toInt → 0 ≤ c.toInt → ∀ j : Nat, ¬ (lcmpW (own_f3 a b c j) (0 : Int64) < (0 : Int32)) := fun a b c ha hb hc j => by
    apply own_nn_lc
    unfold own_f3
    split
    · exact ha
    · split
      · exact hb
      · exact hc
  have hF := own_final h1n hnn h1k hnk (own_f3 P0 P1 P2) (own_f3 Q0_ Q1_ Q2_)
  have hG := own_back h1n hnn h1k hnk (own_f3 P0 P1 P2) (own_f3 Q0_ Q1_ Q2_)
  have hF' : own_ct (fun j => own_lc (own_part n (own_f3 P0 P1 P2) j) (own_part k (own_f3 Q0_ Q1_ Q2_) j)) (max n k) 0 = own_exp (own_cmp P0 Q0_) (own_cmp (own_part n (own_f3 P0 P1 P2) 1) (own_part k (own_f3 Q0_ Q1_ Q2_) 1)) (own_cmp (own_part n (own_f3 P0 P1 P2) 2) (own_part k (own_f3 Q0_ Q1_ Q2_) 2)) := hF
  have h3 : own_exp (own_cmp P0 Q0_) (own_cmp (own_part n (own_f3 P0 P1 P2) 1) (own_part k (own_f3 Q0_ Q1_ Q2_) 1)) (own_cmp (own_part n (own_f3 P0 P1 P2) 2) (own_part k (own_f3 Q0_ Q1_ Q2_) 2)) = -1 ∨ own_exp (own_cmp P0 Q0_) (own_cmp (own_part n (own_f3 P0 P1 P2) 1) (own_part k (own_f3 Q0_ Q1_ Q2_) 1)) (own_cmp (own_part n (own_f3 P0 P1 P2) 2) (own_part k (own_f3 Q0_ Q1_ Q2_) 2)) = 0 ∨ own_exp (own_cmp P0 Q0_) (own_cmp (own_part n (own_f3 P0 P1 P2) 1) (own_part k (own_f3 Q0_ Q1_ Q2_) 1)) (own_cmp (own_part n (own_f3 P0 P1 P2) 2) (own_part k (own_f3 Q0_ Q1_ Q2_) 2)) = 1 := by
    rw [own_cmp_lc, own_cmp_lc, own_cmp_lc]
    exact own_exp_3 (own_lc_3 _ _) (own_lc_3 _ _) (own_lc_3 _ _)
  have h3' : ∀ x : Int32, (x = -1 ∨ x = 0 ∨ x = 1) → (-x = -1 ∨ -x = 0 ∨ -x = 1) := fun x hx => by
    rcases hx with rfl | rfl | rfl
    · exact Or.inr (Or.inr (by decide))
    · exact Or.inr (Or.inl (by decide))
    · exact Or.inl (by decide)
  exact rm0w l Z a0 hw ws q1 q2 q3 q4 p5 p6 h0 n0 Z0 P0 P1 P2 DM n k Q0_ Q1_ Q2_ _ _ _ _ _ _ _ _ h1n hnn h1k hnk hP0 hP1 hP2 hDM hn hk hQ0 hQ1 hQ2 rfl rfl rfl rfl rfl rfl rfl rfl (fun j _ => f3 P0 P1 P2 n0_ n1_ n2_ j) (fun j _ => f3 Q0_ Q1_ Q2_ m0_ m1_ m2_ j)
    (by rw [hF']; exact own_sgn_id h3) (by rw [hG, hF']; exact own_sgn_id (h3' _ h3)) (by rw [hF'])
set_option maxRecDepth 65536 in
set_option maxHeartbeats 40000000 in
theorem comes_1 {Post : Tables → Env → Array Value → State → Outcome → State → Prop} (hpost : ∀ tb e args s v u, (limb_1_1.after args s (.returned v) u = true ∧ limb_1_2.after args s (.returned v) u = true ∧ True) → FrameEnd s (.returned v) u (Jvm.fieldLocs frame_1_writes args s ++ Jvm.arrayLocs frame_1_arrays args s ++ Jvm.staticLocs frame_1_statics s) 24 128 → Post tb e args s (.returned v) u) :
    ArmFor flags0 classFile x code maxLocals ret World_1 tables_1 room_1 Calls_1 rest_1 Pre_1 Post := by
  intro l hfl _ _ p e ha hc hk s m args below hf hA hF happ hP
  obtain ⟨hcalls, hrest, hpre⟩ := hP
  obtain ⟨-, -, -, hnamed, -, -, -, hat⟩ := (Spec.applies_iff hf).mp happ
  obtain ⟨hg, hn⟩ := and_e (Cond.before_iff.mp (show (Jvm.Cond.and given_1 narrow_1).before args s = true from hpre))
  obtain ⟨g26, g27⟩ := and_e hg
  obtain ⟨g28, g29⟩ := and_e g27
  obtain ⟨g30, g31⟩ := and_e g29
  obtain ⟨g32, g33⟩ := and_e g31
  obtain ⟨g34, g35⟩ := and_e g33
  obtain ⟨g36, g37⟩ := and_e g35
  obtain ⟨w0, w1, w2, w3, w4, w5, rfl⟩ : ∃ w0 w1 w2 w3 w4 w5 : Value, args = #[w0, w1, w2, w3, w4, w5] := by
    have hs : args.size = 6 := by simpa [Cond.value, given_1] using g26
    obtain ⟨L⟩ := args
    match L, hs with
    | [w0, w1, w2, w3, w4, w5], _ => exact ⟨w0, w1, w2, w3, w4, w5, rfl⟩
  have hw := fun d (hd : d ∈ tables_1) => atoms_spec (ws := Jvm.Cond.code x code maxLocals ret :: tables_1) hat d (List.mem_cons_of_mem _ hd)
  have hfit : Fit s := fun {y c} hc i hi => by
    obtain ⟨ha, rfl⟩ := Array.getElem?_eq_some_iff.mp hc
    have q := List.all_eq_true.mp ((Array.all_eq_true_iff_forall_mem.mp hF) _ (Array.getElem_mem ha)) i (List.mem_range.mpr hi)
    simpa [Array.getElem?_eq_getElem hi] using q
  obtain ⟨i0, ei0⟩ := isL_v g28
  obtain rfl : w0 = (.long i0) := Option.some.inj ei0
  obtain ⟨i1, ei1⟩ := isL_v g30
  obtain rfl : w1 = (.long i1) := Option.some.inj ei1
  obtain ⟨i2, ei2⟩ := isL_v g32
  obtain rfl : w2 = (.long i2) := Option.some.inj ei2
  obtain ⟨i3, ei3⟩ := isL_v g34
  obtain rfl : w3 = (.long i3) := Option.some.inj ei3
  obtain ⟨i4, ei4⟩ := is_v g36
  obtain rfl : w4 = (.int i4) := Option.some.inj ei4
  obtain ⟨i5, ei5⟩ := is_v g37
  obtain rfl : w5 = (.int i5) := Option.some.inj ei5
  obtain ⟨n, o, h1, h2, h3, _, L, rfl, ⟨rfl, N⟩, hq⟩ := rm0 l s _ hw tables_1 i0 i1 i2 i3 i4 i5 s.heap s.heap.size (Nat.le_refl _)  p e ha hc hk s m _ below hf ((Spec.applies_iff_loose hf).mp happ).1 ⟨rfl, State.Warmed39.refl s, rfl⟩ trivial
  refine ⟨n, _, h1, h2, h3, hpost _ _ _ _ _ _ ⟨Cond.after_iff.mpr rfl, Cond.after_iff.mpr (eq_i res_at (Term.int_eval (1)) rfl), trivial⟩ ⟨hq.1, hq.2.1, (hq.2.2.sift fun y hy => Or.inr (N y hy)).mono (by decide) (by decide)⟩⟩
theorem main_1_1 : Claimed_1_1 := comes_1 fun _ _ _ _ _ _ h hF => ⟨h.1, hF⟩
theorem main_1_2 : Claimed_1_2 := comes_1 fun _ _ _ _ _ _ h hF => ⟨h.2.1, hF⟩
end Jvm.Pilot.@@N@@
namespace Jvm.Pilot.@@N@@
open Jvm Jvm.ClassFile Sem Op Lib Jvm.Free Jvm.Stand Jvm.Pilot.@@N@@.Jvm.D
/-! MADE BY PROGRAM (witnessworld.py) out of the Statement's table words and the real class files: 17 classes; the members and pool entries that the words name. The judged class is class 1, her method 4. -/
namespace start1
open Jvm.ClassFile
def u (s : String) : CpInfo := .utf8 (stringToUtf16 s)
/-- a pool by its gaps: so many unusable entries, then the entry; so many at the end -/
def gap : Nat → List CpInfo → List CpInfo
  | 0, r => r
  | n + 1, r => .unusable :: gap n r
def poolList (es : List (Nat × CpInfo)) (last : Nat) : List CpInfo := es.foldr (fun e r => gap e.1 (e.2 :: r)) (gap last [])
def pool (es : List (Nat × CpInfo)) (last : Nat) : Array CpInfo := ⟨poolList es last⟩
def fileOf (pool : Array CpInfo) (this : Nat) (attrs : Array Attribute := #[]) (ms : Array MethodInfo := #[]) (fl : Nat := 33) (sup : Nat := 0) (ifs : Array Nat := #[]) (fds : Array FieldInfo := #[]) : ClassFile where
  minorVersion := 0
  majorVersion := 65
  constantPool := pool
  accessFlags := fl
  thisClass := this
  superClass := sup
  interfaces := ifs
  fields := fds
  methods := ms
  attributes := attrs
def plain (name : String) (sup : Option ClassId) : Class where
  name := name
  kind := .ordinary
  loader := none
  accessFlags := 33
  super := sup
  interfaces := #[]
  cf := none
  fields := #[]
  methods := #[]
  instanceTypes := #[]
  staticTypes := #[]
  resolved := #[]
  callSites := []
  init := .initialized
  statics := none
  mirror := none

def pool0 : Array CpInfo := pool [(5, u "<init>"), (0, u "()V"), (1, .class_ 10), (1, u "java/lang/Object"), (85, u "clone"), (0, u "()Ljava/lang/Object;")] 26

def k0c0 : Code := { maxStack := 0, maxLocals := 1, code := object_method_1_code, exceptionTable := #[], attributes := #[] }
def k0m0 : Method := { name := "<init>", desc := "()V", sig := { parameters := [], returnType := none }, accessFlags := 1, code := some k0c0 }
def k0m1 : Method := { name := "clone", desc := "()Ljava/lang/Object;", sig := { parameters := [], returnType := some (.object "java/lang/Object") }, accessFlags := 260, code := none }
/-- java/lang/Object -/
def k0 : Class := { plain "java/lang/Object" none with
  accessFlags := 33
  interfaces := #[]
  cf := some (fileOf pool0 8 #[] #[{ accessFlags := 1, nameIndex := 5, descriptorIndex := 6, attributes := #[] }, { accessFlags := 260, nameIndex := 96, descriptorIndex := 97, attributes := #[] }] 33 0 #[] #[])
  fields := #[]
  methods := #[k0m0, k0m1]
  instanceTypes := #[]
  staticTypes := #[]
  resolved := Array.replicate 124 none
  statics := none }

def pool1 : Array CpInfo := pool [(2, .class_ 4), (1, u "java/lang/Object"), (0, u "<init>"), (0, u "()V"), (2, .long 9223372036854775807), (1, .methodref 12 13), (0, .class_ 14), (0, .nameAndType 15 16), (0, u "com/example/updrift/updrift/model/ReleaseNumberOfPinLaw"), (0, u "pick"), (0, u "(IJJ)J"), (0, .methodref 18 19), (0, .class_ 20), (0, .nameAndType 21 22), (0, u "com/example/updrift/updrift/model/ReleaseNumber"), (0, u "of"), (0, u "([J)Lcom/example/updrift/updrift/model/ReleaseNumber;"), (0, .methodref 12 24), (0, .nameAndType 25 26), (0, u "cmp"), (0, u "(JJ)I"), (0, .methodref 18 28), (0, .nameAndType 29 30), (0, u "partCount"), (0, u "()I"), (0, .methodref 18 32), (0, .nameAndType 33 34), (0, u "compareTo"), (0, u "(Lcom/example/updrift/updrift/model/ReleaseNumber;)I"), (0, .methodref 12 36), (0, .nameAndType 37 38), (0, u "sgn"), (0, u "(I)I"), (0, .methodref 18 40), (0, .nameAndType 41 42), (0, u "equals"), (0, u "(Ljava/lang/Object;)Z"), (3, u "law"), (0, u "(JJJJII)Z")] 4

def k1m0 : Method := { name := "<init>", desc := "()V", sig := { parameters := [], returnType := none }, accessFlags := 1, code := none }
def k1c1 : Code := { maxStack := 4, maxLocals := 5, code := method_2_code, exceptionTable := #[], attributes := #[] }
def k1m1 : Method := { name := "pick", desc := "(IJJ)J", sig := { parameters := [.int, .long, .long], returnType := some .long }, accessFlags := 10, code := some k1c1 }
def k1c2 : Code := { maxStack := 4, maxLocals := 4, code := method_3_code, exceptionTable := #[], attributes := #[] }
def k1m2 : Method := { name := "cmp", desc := "(JJ)I", sig := { parameters := [.long, .long], returnType := some .int }, accessFlags := 10, code := some k1c2 }
def k1c3 : Code := { maxStack := 1, maxLocals := 1, code := method_4_code, exceptionTable := #[], attributes := #[] }
def k1m3 : Method := { name := "sgn", desc := "(I)I", sig := { parameters := [.int], returnType := some .int }, accessFlags := 10, code := some k1c3 }
def k1c4 : Code := { maxStack := 6, maxLocals := 42, code := code, exceptionTable := #[], attributes := #[] }
def k1m4 : Method := { name := "law", desc := "(JJJJII)Z", sig := { parameters := [.long, .long, .long, .long, .int, .int], returnType := some .boolean }, accessFlags := 9, code := some k1c4 }
/-- com/example/updrift/updrift/model/ReleaseNumberOfPinLaw -/
def k1 : Class := { plain "com/example/updrift/updrift/model/ReleaseNumberOfPinLaw" (some 0) with
  accessFlags := 49
  interfaces := #[]
  cf := some (fileOf pool1 12 #[] #[{ accessFlags := 1, nameIndex := 5, descriptorIndex := 6, attributes := #[] }, { accessFlags := 10, nameIndex := 15, descriptorIndex := 16, attributes := #[] }, { accessFlags := 10, nameIndex := 25, descriptorIndex := 26, attributes := #[] }, { accessFlags := 10, nameIndex := 37, descriptorIndex := 38, attributes := #[] }, { accessFlags := 9, nameIndex := 46, descriptorIndex := 47, attributes := #[] }] 49 2 #[] #[])
  fields := #[]
  methods := #[k1m0, k1m1, k1m2, k1m3, k1m4]
  instanceTypes := #[]
  staticTypes := #[]
  resolved := Array.replicate 52 none
  statics := none }

def pool2 : Array CpInfo := pool [(1, .class_ 2), (0, u "java/lang/Comparable"), (0, .class_ 4), (0, u "java/lang/Object")] 7

/-- java/lang/Comparable -/
def k2 : Class := { plain "java/lang/Comparable" (some 0) with
  accessFlags := 1537
  interfaces := #[]
  cf := some (fileOf pool2 1 #[] #[] 1537 3 #[] #[])
  fields := #[]
  methods := #[]
  instanceTypes := #[]
  staticTypes := #[]
  resolved := Array.replicate 12 none
  statics := none }

def pool3 : Array CpInfo := pool [(1, .methodref 2 3), (0, .class_ 4), (0, .nameAndType 5 6), (0, u "java/lang/Object"), (0, u "<init>"), (0, u "()V"), (0, .fieldref 8 9), (0, .class_ 10), (0, .nameAndType 11 12), (0, u "com/example/updrift/updrift/model/ReleaseNumber"), (0, u "parts"), (0, u "[J"), (11, .methodref 25 26), (0, .class_ 12), (0, .nameAndType 27 28), (0, u "clone"), (0, u "()Ljava/lang/Object;"), (0, .methodref 8 30), (0, .nameAndType 5 31), (0, u "([J)V"), (29, .class_ 63), (1, u "java/lang/Long"), (6, u "of"), (1, .methodref 73 74), (0, .class_ 75), (0, .nameAndType 76 77), (0, u "java/lang/Math"), (0, u "max"), (0, u "(II)I"), (0, .methodref 8 79), (0, .nameAndType 80 81), (0, u "part"), (0, u "(I)J"), (0, .methodref 61 83), (0, .nameAndType 84 85), (0, u "compare"), (0, u "(JJ)I"), (0, .methodref 8 87), (0, .nameAndType 88 89), (0, u "compareTo"), (0, u "(Lcom/example/updrift/updrift/model/ReleaseNumber;)I"), (38, .class_ 129), (0, u "java/lang/Comparable"), (2, u "([J)Lcom/example/updrift/updrift/model/ReleaseNumber;"), (7, u "partCount"), (0, u "()I"), (0, u "equals"), (0, u "(Ljava/lang/Object;)Z")] 35

def k3c0 : Code := { maxStack := 2, maxLocals := 2, code := prog_87_method_1_code, exceptionTable := #[], attributes := #[] }
def k3m0 : Method := { name := "<init>", desc := "([J)V", sig := { parameters := [(.array .long)], returnType := none }, accessFlags := 2, code := some k3c0 }
def k3c1 : Code := { maxStack := 4, maxLocals := 6, code := prog_87_method_2_code, exceptionTable := #[], attributes := #[] }
def k3m1 : Method := { name := "of", desc := "([J)Lcom/example/updrift/updrift/model/ReleaseNumber;", sig := { parameters := [(.array .long)], returnType := some (.object "com/example/updrift/updrift/model/ReleaseNumber") }, accessFlags := 137, code := some k3c1 }
def k3c2 : Code := { maxStack := 1, maxLocals := 1, code := prog_87_method_4_code, exceptionTable := #[], attributes := #[] }
def k3m2 : Method := { name := "partCount", desc := "()I", sig := { parameters := [], returnType := some .int }, accessFlags := 1, code := some k3c2 }
def k3c3 : Code := { maxStack := 4, maxLocals := 4, code := prog_87_method_5_code, exceptionTable := #[], attributes := #[] }
def k3m3 : Method := { name := "compareTo", desc := "(Lcom/example/updrift/updrift/model/ReleaseNumber;)I", sig := { parameters := [(.object "com/example/updrift/updrift/model/ReleaseNumber")], returnType := some .int }, accessFlags := 1, code := some k3c3 }
def k3c4 : Code := { maxStack := 2, maxLocals := 3, code := prog_87_method_6_code, exceptionTable := #[], attributes := #[] }
def k3m4 : Method := { name := "equals", desc := "(Ljava/lang/Object;)Z", sig := { parameters := [(.object "java/lang/Object")], returnType := some .boolean }, accessFlags := 1, code := some k3c4 }
def k3c5 : Code := { maxStack := 2, maxLocals := 2, code := prog_87_method_9_code, exceptionTable := #[], attributes := #[] }
def k3m5 : Method := { name := "part", desc := "(I)J", sig := { parameters := [.int], returnType := some .long }, accessFlags := 2, code := some k3c5 }
/-- com/example/updrift/updrift/model/ReleaseNumber -/
def k3 : Class := { plain "com/example/updrift/updrift/model/ReleaseNumber" (some 0) with
  accessFlags := 49
  interfaces := #[2]
  cf := some (fileOf pool3 8 #[] #[{ accessFlags := 2, nameIndex := 5, descriptorIndex := 31, attributes := #[] }, { accessFlags := 137, nameIndex := 70, descriptorIndex := 132, attributes := #[] }, { accessFlags := 1, nameIndex := 140, descriptorIndex := 141, attributes := #[] }, { accessFlags := 1, nameIndex := 88, descriptorIndex := 89, attributes := #[] }, { accessFlags := 1, nameIndex := 142, descriptorIndex := 143, attributes := #[] }, { accessFlags := 2, nameIndex := 80, descriptorIndex := 81, attributes := #[] }] 49 2 #[128] #[{ accessFlags := 18, nameIndex := 11, descriptorIndex := 12, attributes := #[] }])
  fields := #[{ name := "parts", type := (.array .long), accessFlags := 18, slot := 0, constantValue := 0 }]
  methods := #[k3m0, k3m1, k3m2, k3m3, k3m4, k3m5]
  instanceTypes := #[(.array .long)]
  staticTypes := #[]
  resolved := Array.replicate 179 none
  statics := none }

def pool4 : Array CpInfo := pool [(1, .class_ 2), (0, u "java/lang/Cloneable"), (0, .class_ 4), (0, u "java/lang/Object")] 2

/-- java/lang/Cloneable -/
def k4 : Class := { plain "java/lang/Cloneable" (some 0) with
  accessFlags := 1537
  interfaces := #[]
  cf := some (fileOf pool4 1 #[] #[] 1537 3 #[] #[])
  fields := #[]
  methods := #[]
  instanceTypes := #[]
  staticTypes := #[]
  resolved := Array.replicate 7 none
  statics := none }

def pool5 : Array CpInfo := pool [(1, .class_ 2), (0, u "java/lang/Math"), (1, .class_ 6), (1, u "java/lang/Object"), (0, u "<init>"), (0, u "()V"), (89, .class_ 100), (1, u "java/lang/Math$RandomNumberGeneratorHolder"), (71, u "negativeZeroFloatBits"), (0, u "J"), (2, u "negativeZeroDoubleBits"), (21, u "max"), (46, u "$assertionsDisabled"), (0, u "Z"), (88, u "(II)I"), (2, u "twoToTheDoubleScaleDown"), (0, u "D"), (4, u "twoToTheDoubleScaleUp"), (9, u "E"), (3, u "PI"), (2, u "TAU"), (2, u "DEGREES_TO_RADIANS"), (0, u "RADIANS_TO_DEGREES")] 94

def k5m0 : Method := { name := "<init>", desc := "()V", sig := { parameters := [], returnType := none }, accessFlags := 2, code := none }
def k5c1 : Code := { maxStack := 2, maxLocals := 2, code := jdk_29_method_65_code, exceptionTable := #[], attributes := #[] }
def k5m1 : Method := { name := "max", desc := "(II)I", sig := { parameters := [.int, .int], returnType := some .int }, accessFlags := 9, code := some k5c1 }
/-- java/lang/Math -/
def k5 : Class := { plain "java/lang/Math" (some 0) with
  accessFlags := 49
  interfaces := #[]
  cf := some (fileOf pool5 1 #[.nestMembers #[98]] #[{ accessFlags := 2, nameIndex := 7, descriptorIndex := 8, attributes := #[] }, { accessFlags := 9, nameIndex := 198, descriptorIndex := 335, attributes := #[] }] 49 4 #[] #[{ accessFlags := 25, nameIndex := 354, descriptorIndex := 339, attributes := #[] }, { accessFlags := 25, nameIndex := 358, descriptorIndex := 339, attributes := #[] }, { accessFlags := 25, nameIndex := 361, descriptorIndex := 339, attributes := #[] }, { accessFlags := 26, nameIndex := 364, descriptorIndex := 339, attributes := #[] }, { accessFlags := 26, nameIndex := 365, descriptorIndex := 339, attributes := #[] }, { accessFlags := 26, nameIndex := 172, descriptorIndex := 173, attributes := #[] }, { accessFlags := 26, nameIndex := 176, descriptorIndex := 173, attributes := #[] }, { accessFlags := 8, nameIndex := 344, descriptorIndex := 339, attributes := #[] }, { accessFlags := 8, nameIndex := 338, descriptorIndex := 339, attributes := #[] }, { accessFlags := 4120, nameIndex := 245, descriptorIndex := 246, attributes := #[] }])
  fields := #[{ name := "E", type := .double, accessFlags := 25, slot := 0, constantValue := 0 }, { name := "PI", type := .double, accessFlags := 25, slot := 1, constantValue := 0 }, { name := "TAU", type := .double, accessFlags := 25, slot := 2, constantValue := 0 }, { name := "DEGREES_TO_RADIANS", type := .double, accessFlags := 26, slot := 3, constantValue := 0 }, { name := "RADIANS_TO_DEGREES", type := .double, accessFlags := 26, slot := 4, constantValue := 0 }, { name := "negativeZeroFloatBits", type := .long, accessFlags := 26, slot := 5, constantValue := 0 }, { name := "negativeZeroDoubleBits", type := .long, accessFlags := 26, slot := 6, constantValue := 0 }, { name := "twoToTheDoubleScaleUp", type := .double, accessFlags := 8, slot := 7, constantValue := 0 }, { name := "twoToTheDoubleScaleDown", type := .double, accessFlags := 8, slot := 8, constantValue := 0 }, { name := "$assertionsDisabled", type := .boolean, accessFlags := 4120, slot := 9, constantValue := 0 }]
  methods := #[k5m0, k5m1]
  instanceTypes := #[]
  staticTypes := #[.double, .double, .double, .double, .double, .long, .long, .double, .double, .boolean]
  resolved := Array.replicate 460 none
  statics := none }

def pool6 : Array CpInfo := pool [(1, .class_ 2), (0, u "java/io/Serializable"), (0, .class_ 4), (0, u "java/lang/Object")] 2

/-- java/io/Serializable -/
def k6 : Class := { plain "java/io/Serializable" (some 0) with
  accessFlags := 1537
  interfaces := #[]
  cf := some (fileOf pool6 1 #[] #[] 1537 3 #[] #[])
  fields := #[]
  methods := #[]
  instanceTypes := #[]
  staticTypes := #[]
  resolved := Array.replicate 7 none
  statics := none }

def pool7 : Array CpInfo := pool [(2, .class_ 4), (1, u "java/lang/Object"), (0, u "<init>"), (0, u "()V"), (1, .class_ 10), (1, u "java/lang/Number"), (2, .class_ 14), (0, u "java/io/Serializable"), (0, u "serialVersionUID"), (0, u "J")] 20

def k7m0 : Method := { name := "<init>", desc := "()V", sig := { parameters := [], returnType := none }, accessFlags := 1, code := none }
/-- java/lang/Number -/
def k7 : Class := { plain "java/lang/Number" (some 0) with
  accessFlags := 1057
  interfaces := #[6]
  cf := some (fileOf pool7 8 #[] #[{ accessFlags := 1, nameIndex := 5, descriptorIndex := 6, attributes := #[] }] 1057 2 #[13] #[{ accessFlags := 26, nameIndex := 15, descriptorIndex := 16, attributes := #[] }])
  fields := #[{ name := "serialVersionUID", type := .long, accessFlags := 26, slot := 0, constantValue := 0 }]
  methods := #[k7m0]
  instanceTypes := #[]
  staticTypes := #[.long]
  resolved := Array.replicate 37 none
  statics := none }

def pool8 : Array CpInfo := pool [(1, .class_ 2), (0, u "java/lang/constant/Constable"), (0, .class_ 4), (0, u "java/lang/Object")] 6

/-- java/lang/constant/Constable -/
def k8 : Class := { plain "java/lang/constant/Constable" (some 0) with
  accessFlags := 1537
  interfaces := #[]
  cf := some (fileOf pool8 1 #[] #[] 1537 3 #[] #[])
  fields := #[]
  methods := #[]
  instanceTypes := #[]
  staticTypes := #[]
  resolved := Array.replicate 11 none
  statics := none }

def pool9 : Array CpInfo := pool [(1, .class_ 2), (0, u "java/lang/constant/ConstantDesc"), (0, .class_ 4), (0, u "java/lang/Object")] 32

/-- java/lang/constant/ConstantDesc -/
def k9 : Class := { plain "java/lang/constant/ConstantDesc" (some 0) with
  accessFlags := 1537
  interfaces := #[]
  cf := some (fileOf pool9 1 #[] #[] 1537 3 #[] #[])
  fields := #[]
  methods := #[]
  instanceTypes := #[]
  staticTypes := #[]
  resolved := Array.replicate 37 none
  statics := none }

def pool10 : Array CpInfo := pool [(1, .class_ 2), (0, u "java/lang/Long"), (232, .class_ 237), (1, u "java/lang/Long$LongCache"), (33, .class_ 272), (0, u "java/lang/Number"), (2, u "value"), (0, u "J"), (27, u "compare"), (0, u "(JJ)I"), (55, u "TYPE"), (0, u "Ljava/lang/Class;"), (0, .class_ 364), (0, u "java/lang/Comparable"), (0, .class_ 366), (0, u "java/lang/constant/Constable"), (0, .class_ 368), (0, u "java/lang/constant/ConstantDesc"), (0, u "MIN_VALUE"), (1, u "MAX_VALUE"), (4, u "SIZE"), (0, u "I"), (1, u "BYTES"), (1, u "serialVersionUID")] 142

def k10c0 : Code := { maxStack := 4, maxLocals := 4, code := jdk_35_method_42_code, exceptionTable := #[], attributes := #[] }
def k10m0 : Method := { name := "compare", desc := "(JJ)I", sig := { parameters := [.long, .long], returnType := some .int }, accessFlags := 9, code := some k10c0 }
/-- java/lang/Long -/
def k10 : Class := { plain "java/lang/Long" (some 7) with
  accessFlags := 49
  interfaces := #[2, 8, 9]
  cf := some (fileOf pool10 1 #[.nestMembers #[235]] #[{ accessFlags := 9, nameIndex := 304, descriptorIndex := 305, attributes := #[] }] 49 271 #[363, 365, 367] #[{ accessFlags := 25, nameIndex := 369, descriptorIndex := 276, attributes := #[] }, { accessFlags := 25, nameIndex := 371, descriptorIndex := 276, attributes := #[] }, { accessFlags := 25, nameIndex := 361, descriptorIndex := 362, attributes := #[] }, { accessFlags := 18, nameIndex := 275, descriptorIndex := 276, attributes := #[] }, { accessFlags := 25, nameIndex := 376, descriptorIndex := 377, attributes := #[] }, { accessFlags := 25, nameIndex := 379, descriptorIndex := 377, attributes := #[] }, { accessFlags := 26, nameIndex := 381, descriptorIndex := 276, attributes := #[] }])
  fields := #[{ name := "MIN_VALUE", type := .long, accessFlags := 25, slot := 0, constantValue := 0 }, { name := "MAX_VALUE", type := .long, accessFlags := 25, slot := 1, constantValue := 0 }, { name := "TYPE", type := (.object "java/lang/Class"), accessFlags := 25, slot := 2, constantValue := 0 }, { name := "value", type := .long, accessFlags := 18, slot := 0, constantValue := 0 }, { name := "SIZE", type := .int, accessFlags := 25, slot := 3, constantValue := 0 }, { name := "BYTES", type := .int, accessFlags := 25, slot := 4, constantValue := 0 }, { name := "serialVersionUID", type := .long, accessFlags := 26, slot := 5, constantValue := 0 }]
  methods := #[k10m0]
  instanceTypes := #[.long]
  staticTypes := #[.long, .long, (.object "java/lang/Class"), .int, .int, .long]
  resolved := Array.replicate 524 none
  statics := none }

/-- the primitive byte -/
def k11 : Class := { plain "byte" none with kind := .primitive 'B', accessFlags := 0x411 }
/-- [B -/
def k12 : Class := { plain "[B" (some 0) with kind := .array 11 .byte, interfaces := #[4, 6], accessFlags := 1041 }

/-- the primitive int -/
def k13 : Class := { plain "int" none with kind := .primitive 'I', accessFlags := 0x411 }
/-- [I -/
def k14 : Class := { plain "[I" (some 0) with kind := .array 13 .int, interfaces := #[4, 6], accessFlags := 1041 }

/-- the primitive long -/
def k15 : Class := { plain "long" none with kind := .primitive 'J', accessFlags := 0x411 }
/-- [J -/
def k16 : Class := { plain "[J" (some 0) with kind := .array 15 .long, interfaces := #[4, 6], accessFlags := 1041 }

def heap : Heap := #[]
def classes : Array Class := #[k0, k1, k2, k3, k4, k5, k6, k7, k8, k9, k10, k11, k12, k13, k14, k15, k16]
def interned : List (Array UInt16 × Addr) := []
def slotsUsed : Nat := 0
def theMethod : MethodId := ⟨1, 4⟩
def args0 : Array Value := #[.long 5, .long 3, .long 4, .long 6, .int 2, .int 7]
def aboutOver (below : List Frame) : State where
  vm := { classes := classes, interned := interned.toArray }
  heap := heap
  slotsUsed := slotsUsed
  threads := #[{ frames := .invoking theMethod args0 :: below }]
def below0 : List Frame := [.native { method := ⟨0, 0⟩, args := #[] }]
def about1 : State := aboutOver below0
def p0 : Program := .bare "" "" ""
def e0 : Env := launch0.env 0 0 0
theorem w_frames : about1.frames = Frame.invoking theMethod args0 :: below0 := rfl
set_option maxRecDepth 65536 in
theorem w_args : argsFit about1.vm theMethod args0 = true := by decide +kernel
set_option maxRecDepth 65536 in
theorem w_heap : heapFits about1 = true := by decide +kernel
set_option maxRecDepth 65536 in
theorem w_runnable : about1.curStatus? = some .runnable := by decide +kernel
set_option maxRecDepth 65536 in
theorem w_alone : about1.alone = true := by decide +kernel
set_option maxRecDepth 65536 in
theorem w_named : about1.methodNamed? x = some theMethod := by decide +kernel
set_option maxRecDepth 65536 in
theorem w_hears : about1.hears theMethod below0 = true := by decide +kernel
set_option maxRecDepth 65536 in
theorem w_ripe : about1.ripe theMethod args0 below0 = true := by decide +kernel
theorem w_running : about1.status = .running := rfl
set_option maxRecDepth 65536 in
theorem w_room : about1.hasRoom e0.platform room_1 = true :=
  launch0.hasRoom_least _ room_1 (by decide +kernel) (by decide +kernel) (by decide +kernel) (by decide +kernel) (by decide +kernel) (by decide +kernel)
theorem allAtoms_all (ts : List Jvm.Cond) (a : Array Jvm.Value) (st : Jvm.State) : (allAtoms ts).before a st = ts.all (fun c => c.before a st) := by
  induction ts with
  | nil => rfl
  | cons c t ih =>
    show (Jvm.Cond.and c (allAtoms t)).before a st = _
    rw [Jvm.Cond.before_and, ih, List.all_cons]
def words1 : List Jvm.Cond := Jvm.Cond.code x code maxLocals ret :: tables_1
/-- a 'code' word, met by the world's own term for the bytes: nothing is compared byte by byte -/
theorem code_word {y : MethodName} {bytes : ByteArray} {mx : Nat} {rt : Option FieldType} {a : Array Value} {s : State} {m : MethodId} {meth : Method} {c : Code} (h1 : s.methodNamed? y = some m) (h2 : s.vm.method? m = some meth) (h3 : meth.code = some c) (h4 : c.code = bytes)
    (h5 : (c.maxLocals == mx && c.exceptionTable.isEmpty && decide (c.maxStack ≤ mostOperands) && decide (meth.sig.returnType = rt) && !meth.locks && decide (parseMethodDescriptor y.desc = some meth.sig)) = true) : (Jvm.Cond.code y bytes mx rt).before a s = true := by
  simp only [Bool.and_eq_true, beq_iff_eq, Bool.not_eq_true', decide_eq_true_eq] at h5
  obtain ⟨⟨⟨⟨⟨g1, g2⟩, g3⟩, g4⟩, g5⟩, g6⟩ := h5
  simp [Cond.before, Cond.holds, Cond.value, h1, h2, h3, h4, g1, g2, g3, g4, g5, g6]
def isCode : Jvm.Cond → Bool
  | .code _ _ _ _ => true
  | _ => false
theorem all_split {L : List Jvm.Cond} {P : Jvm.Cond → Bool} (h1 : L.all (fun c => isCode c || P c) = true) (h2 : ∀ c ∈ L.filter isCode, P c = true) : L.all P = true := by
  refine List.all_eq_true.mpr fun c hc => ?_
  have h := List.all_eq_true.mp h1 c hc
  rcases Bool.eq_false_or_eq_true (isCode c) with hi | hi
  · exact h2 c (List.mem_filter.mpr ⟨hc, hi⟩)
  · simpa [hi] using h
set_option maxRecDepth 65536 in
theorem w_c0 : (Jvm.Cond.code x code maxLocals ret).before args0 about1 = true := code_word (m := ⟨1, 4⟩) (meth := k1m4) (c := k1c4) (by decide +kernel) rfl rfl rfl (by decide +kernel)
set_option maxRecDepth 65536 in
theorem w_c1 : (Jvm.Cond.code ({ cls := "com/example/updrift/updrift/model/ReleaseNumberOfPinLaw", name := "pick", desc := "(IJJ)J" } : Jvm.MethodName) method_2_code (5 : Nat) (Option.some Jvm.ClassFile.FieldType.long)).before args0 about1 = true := code_word (m := ⟨1, 1⟩) (meth := k1m1) (c := k1c1) (by decide +kernel) rfl rfl rfl (by decide +kernel)
set_option maxRecDepth 65536 in
theorem w_c2 : (Jvm.Cond.code ({ cls := "com/example/updrift/updrift/model/ReleaseNumber", name := "of", desc := "([J)Lcom/example/updrift/updrift/model/ReleaseNumber;" } : Jvm.MethodName) prog_87_method_2_code (6 : Nat) (Option.some (Jvm.ClassFile.FieldType.object "com/example/updrift/updrift/model/ReleaseNumber"))).before args0 about1 = true := code_word (m := ⟨3, 1⟩) (meth := k3m1) (c := k3c1) (by decide +kernel) rfl rfl rfl (by decide +kernel)
set_option maxRecDepth 65536 in
theorem w_c3 : (Jvm.Cond.code ({ cls := "com/example/updrift/updrift/model/ReleaseNumber", name := "<init>", desc := "([J)V" } : Jvm.MethodName) prog_87_method_1_code (2 : Nat) (Option.none : Option Jvm.ClassFile.FieldType)).before args0 about1 = true := code_word (m := ⟨3, 0⟩) (meth := k3m0) (c := k3c0) (by decide +kernel) rfl rfl rfl (by decide +kernel)
set_option maxRecDepth 65536 in
theorem w_c4 : (Jvm.Cond.code ({ cls := "java/lang/Object", name := "<init>", desc := "()V" } : Jvm.MethodName) object_method_1_code (1 : Nat) (Option.none : Option Jvm.ClassFile.FieldType)).before args0 about1 = true := code_word (m := ⟨0, 0⟩) (meth := k0m0) (c := k0c0) (by decide +kernel) rfl rfl rfl (by decide +kernel)
set_option maxRecDepth 65536 in
theorem w_c5 : (Jvm.Cond.code ({ cls := "com/example/updrift/updrift/model/ReleaseNumberOfPinLaw", name := "cmp", desc := "(JJ)I" } : Jvm.MethodName) method_3_code (4 : Nat) (Option.some Jvm.ClassFile.FieldType.int)).before args0 about1 = true := code_word (m := ⟨1, 2⟩) (meth := k1m2) (c := k1c2) (by decide +kernel) rfl rfl rfl (by decide +kernel)
set_option maxRecDepth 65536 in
theorem w_c6 : (Jvm.Cond.code ({ cls := "com/example/updrift/updrift/model/ReleaseNumber", name := "partCount", desc := "()I" } : Jvm.MethodName) prog_87_method_4_code (1 : Nat) (Option.some Jvm.ClassFile.FieldType.int)).before args0 about1 = true := code_word (m := ⟨3, 2⟩) (meth := k3m2) (c := k3c2) (by decide +kernel) rfl rfl rfl (by decide +kernel)
set_option maxRecDepth 65536 in
theorem w_c7 : (Jvm.Cond.code ({ cls := "com/example/updrift/updrift/model/ReleaseNumber", name := "compareTo", desc := "(Lcom/example/updrift/updrift/model/ReleaseNumber;)I" } : Jvm.MethodName) prog_87_method_5_code (4 : Nat) (Option.some Jvm.ClassFile.FieldType.int)).before args0 about1 = true := code_word (m := ⟨3, 3⟩) (meth := k3m3) (c := k3c3) (by decide +kernel) rfl rfl rfl (by decide +kernel)
set_option maxRecDepth 65536 in
theorem w_c8 : (Jvm.Cond.code ({ cls := "java/lang/Math", name := "max", desc := "(II)I" } : Jvm.MethodName) jdk_29_method_65_code (2 : Nat) (Option.some Jvm.ClassFile.FieldType.int)).before args0 about1 = true := code_word (m := ⟨5, 1⟩) (meth := k5m1) (c := k5c1) (by decide +kernel) rfl rfl rfl (by decide +kernel)
set_option maxRecDepth 65536 in
theorem w_c9 : (Jvm.Cond.code ({ cls := "com/example/updrift/updrift/model/ReleaseNumber", name := "part", desc := "(I)J" } : Jvm.MethodName) prog_87_method_9_code (2 : Nat) (Option.some Jvm.ClassFile.FieldType.long)).before args0 about1 = true := code_word (m := ⟨3, 5⟩) (meth := k3m5) (c := k3c5) (by decide +kernel) rfl rfl rfl (by decide +kernel)
set_option maxRecDepth 65536 in
theorem w_c10 : (Jvm.Cond.code ({ cls := "java/lang/Long", name := "compare", desc := "(JJ)I" } : Jvm.MethodName) jdk_35_method_42_code (4 : Nat) (Option.some Jvm.ClassFile.FieldType.int)).before args0 about1 = true := code_word (m := ⟨10, 0⟩) (meth := k10m0) (c := k10c0) (by decide +kernel) rfl rfl rfl (by decide +kernel)
set_option maxRecDepth 65536 in
theorem w_c11 : (Jvm.Cond.code ({ cls := "com/example/updrift/updrift/model/ReleaseNumberOfPinLaw", name := "sgn", desc := "(I)I" } : Jvm.MethodName) method_4_code (1 : Nat) (Option.some Jvm.ClassFile.FieldType.int)).before args0 about1 = true := code_word (m := ⟨1, 3⟩) (meth := k1m3) (c := k1c3) (by decide +kernel) rfl rfl rfl (by decide +kernel)
set_option maxRecDepth 65536 in
theorem w_c12 : (Jvm.Cond.code ({ cls := "com/example/updrift/updrift/model/ReleaseNumber", name := "equals", desc := "(Ljava/lang/Object;)Z" } : Jvm.MethodName) prog_87_method_6_code (3 : Nat) (Option.some Jvm.ClassFile.FieldType.boolean)).before args0 about1 = true := code_word (m := ⟨3, 4⟩) (meth := k3m4) (c := k3c4) (by decide +kernel) rfl rfl rfl (by decide +kernel)
def codes1 : List Jvm.Cond := [Jvm.Cond.code x code maxLocals ret, Jvm.Cond.code ({ cls := "com/example/updrift/updrift/model/ReleaseNumberOfPinLaw", name := "pick", desc := "(IJJ)J" } : Jvm.MethodName) method_2_code (5 : Nat) (Option.some Jvm.ClassFile.FieldType.long), Jvm.Cond.code ({ cls := "com/example/updrift/updrift/model/ReleaseNumber", name := "of", desc := "([J)Lcom/example/updrift/updrift/model/ReleaseNumber;" } : Jvm.MethodName) prog_87_method_2_code (6 : Nat) (Option.some (Jvm.ClassFile.FieldType.object "com/example/updrift/updrift/model/ReleaseNumber")), Jvm.Cond.code ({ cls := "com/example/updrift/updrift/model/ReleaseNumber", name := "<init>", desc := "([J)V" } : Jvm.MethodName) prog_87_method_1_code (2 : Nat) (Option.none : Option Jvm.ClassFile.FieldType), Jvm.Cond.code ({ cls := "java/lang/Object", name := "<init>", desc := "()V" } : Jvm.MethodName) object_method_1_code (1 : Nat) (Option.none : Option Jvm.ClassFile.FieldType), Jvm.Cond.code ({ cls := "com/example/updrift/updrift/model/ReleaseNumberOfPinLaw", name := "cmp", desc := "(JJ)I" } : Jvm.MethodName) method_3_code (4 : Nat) (Option.some Jvm.ClassFile.FieldType.int), Jvm.Cond.code ({ cls := "com/example/updrift/updrift/model/ReleaseNumber", name := "partCount", desc := "()I" } : Jvm.MethodName) prog_87_method_4_code (1 : Nat) (Option.some Jvm.ClassFile.FieldType.int), Jvm.Cond.code ({ cls := "com/example/updrift/updrift/model/ReleaseNumber", name := "compareTo", desc := "(Lcom/example/updrift/updrift/model/ReleaseNumber;)I" } : Jvm.MethodName) prog_87_method_5_code (4 : Nat) (Option.some Jvm.ClassFile.FieldType.int), Jvm.Cond.code ({ cls := "java/lang/Math", name := "max", desc := "(II)I" } : Jvm.MethodName) jdk_29_method_65_code (2 : Nat) (Option.some Jvm.ClassFile.FieldType.int), Jvm.Cond.code ({ cls := "com/example/updrift/updrift/model/ReleaseNumber", name := "part", desc := "(I)J" } : Jvm.MethodName) prog_87_method_9_code (2 : Nat) (Option.some Jvm.ClassFile.FieldType.long), Jvm.Cond.code ({ cls := "java/lang/Long", name := "compare", desc := "(JJ)I" } : Jvm.MethodName) jdk_35_method_42_code (4 : Nat) (Option.some Jvm.ClassFile.FieldType.int), Jvm.Cond.code ({ cls := "com/example/updrift/updrift/model/ReleaseNumberOfPinLaw", name := "sgn", desc := "(I)I" } : Jvm.MethodName) method_4_code (1 : Nat) (Option.some Jvm.ClassFile.FieldType.int), Jvm.Cond.code ({ cls := "com/example/updrift/updrift/model/ReleaseNumber", name := "equals", desc := "(Ljava/lang/Object;)Z" } : Jvm.MethodName) prog_87_method_6_code (3 : Nat) (Option.some Jvm.ClassFile.FieldType.boolean)]
set_option maxRecDepth 65536 in
theorem codes_eq : words1.filter isCode = codes1 := rfl
theorem w_codes : ∀ c ∈ words1.filter isCode, c.before args0 about1 = true := by
  rw [codes_eq]
  intro c hc
  simp only [codes1, List.mem_cons, List.not_mem_nil, or_false] at hc
  rcases hc with rfl | rfl | rfl | rfl | rfl | rfl | rfl | rfl | rfl | rfl | rfl | rfl | rfl
  · exact w_c0
  · exact w_c1
  · exact w_c2
  · exact w_c3
  · exact w_c4
  · exact w_c5
  · exact w_c6
  · exact w_c7
  · exact w_c8
  · exact w_c9
  · exact w_c10
  · exact w_c11
  · exact w_c12
set_option maxRecDepth 65536 in
theorem w_t1 : (words1.take 24).all (fun c => isCode c || c.before args0 about1) = true := by decide +kernel
set_option maxRecDepth 65536 in
theorem w_t2 : ((words1.drop 24).take 24).all (fun c => isCode c || c.before args0 about1) = true := by decide +kernel
set_option maxRecDepth 65536 in
theorem w_t3 : ((words1.drop 24).drop 24).all (fun c => isCode c || c.before args0 about1) = true := by decide +kernel
theorem w_tables : (allAtoms (Jvm.Cond.code x code maxLocals ret :: tables_1)).before args0 about1 = true := by
  rw [allAtoms_all]
  show words1.all (fun c => c.before args0 about1) = true
  refine all_split ?_ w_codes
  rw [← List.take_append_drop 24 words1, List.all_append, w_t1, ← List.take_append_drop 24 (words1.drop 24), List.all_append, w_t2, w_t3]
  rfl
set_option maxRecDepth 65536 in
theorem w_case : (Jvm.Cond.and given_1 narrow_1).before args0 about1 = true := by decide +kernel
theorem w_applies : (headSpec (Jvm.Cond.code x code maxLocals ret :: tables_1) room_1).applies x e0.platform about1 = true :=
  (Spec.applies_iff w_frames).mpr ⟨w_running, w_runnable, w_alone, w_named, w_hears, w_ripe, w_room, w_tables⟩
theorem atStart : AtStart classFile x code maxLocals ret World_1 tables_1 room_1 Calls_1 rest_1 Pre_1 launch0 p0 e0 about1 theMethod args0 below0 :=
  ⟨lists_1, trivial, launch0.admits_env _ _ _, launch0.least_env, fairChoices_fair.cas, fairChoices_fair.clock, w_frames, w_args, w_heap, w_applies, trivial, trivial, w_case⟩
end start1
theorem witness_1 : WitnessClaimed_1 := ⟨start1.p0, start1.e0, start1.about1, start1.theMethod, start1.args0, start1.below0, start1.atStart⟩
end Jvm.Pilot.@@N@@
