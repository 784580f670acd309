import JvmDerived
import JvmDerived.Pilot.@@N@@Statement
import JvmDerived.Pilot.@@N@@Code
set_option linter.unusedVariables false
set_option linter.unusedSimpArgs false
@@BLOCK:NumsL.lean.txt@@
namespace Jvm.RoadKit
open Sem ClassFile Op Lib Jvm.Stand Jvm.Free Jvm.LawKit
section New
variable {p : Program} {l : Launch} {e : Env} {R : Room} {s : State} {m : MethodId} {args : Array Value} {below : List Frame} {meth : Method} {c : Code} {T : State} {locs : List Loc} {cells slots : Nat}
theorem retI (X : Stand p l e R s m args below meth c T locs cells slots) (hx : p.tables.exec = Jvm.exec) {pc : Nat} {Ls : Array Slot} {z : Int32} {rest : List Value} (hret : meth.sig.returnType = some .int) (hd : decode c.code pc = .ok (.ireturn, 1)) {fs : List Frame}
    (hl : ∀ (f : JFrame) (acts : List Action), f.method = m → f.locked = none → f.entered = [] → (doReturn e (T.setTop f) acts (some (.int z))).1 = T.setFrames fs) : Steps p.tables e below (T.setTop (mkF m pc Ls (.int z :: rest))) (T.setFrames fs) := by
  have hm' : T.vm.method? m = some meth := X.method'
  have hn : narrow .int (.int z) = .int z := rfl
  show Steps p.tables e below (T.setTop { method := m, pc := pc, locals := Ls, stack := _ :: rest, locked := none }) _
  jvm_step X.here [X.here.top, hx, hd, hm', hret, hn]
  first | (intro acts; rw [hl _ acts rfl rfl rfl]) | rw [hl _ _ rfl rfl rfl]
  exact Steps.refl _
end New
end Jvm.RoadKit
namespace Jvm.Pilot.@@N@@
open Jvm Jvm.ClassFile Sem Op Lib Jvm.Free Jvm.Stand Jvm.LawKit Jvm.RoadKit Bundle Jvm.Pilot.@@N@@.Jvm.D
theorem own_rem {v y : Int32} (hv : 0 ≤ v.toInt) (hy : 0 < y.toInt) : (v - (v / y) * y).toInt = v.toInt % y.toInt := by
  have hlt := v.toInt_lt
  have h1 : (v / y).toInt = v.toInt / y.toInt := by
    rw [Jvm.Kit.i32_div (by omega), Int.tdiv_eq_ediv_of_nonneg hv]
  have hq : 0 ≤ v.toInt / y.toInt := Int.ediv_nonneg hv (by omega)
  have hm := Int.emod_nonneg v.toInt (show y.toInt ≠ 0 by omega)
  have hd := Int.mul_ediv_add_emod v.toInt y.toInt
  have hp : 0 ≤ y.toInt * (v.toInt / y.toInt) := Int.mul_nonneg (by omega) hq
  have h2 : ((v / y) * y).toInt = v.toInt / y.toInt * y.toInt := by
    rw [Jvm.Kit.i32_mul, h1]
    · rw [h1, Int.mul_comm]; omega
    · rw [h1, Int.mul_comm]; omega
  have hc : v.toInt / y.toInt * y.toInt = y.toInt * (v.toInt / y.toInt) := Int.mul_comm _ _
  rw [Jvm.Kit.i32_sub (by rw [h2]; omega) (by rw [h2]; omega), h2]
  omega
theorem own_pos (x : Int32) : (x &&& (2147483647 : Int32)).toInt = x.toInt % 2 ^ 31 := Jvm.Kit.i32_mask x 2147483647 (k := 31) (by decide) (by decide)
theorem own_lt {i n : Nat} (h : i < n) (hn : n ≤ 3) : Int32.ofNat i < Int32.ofNat n := by
  rw [Int32.lt_iff_toInt_lt, Int32.toInt_ofNat_of_lt (by omega), Int32.toInt_ofNat_of_lt (by omega)]
  omega
theorem own_nn {n : Nat} (hn : n ≤ 3) : ¬ Int32.ofNat n < 0 := by
  rw [Int32.lt_iff_toInt_lt, Int32.toInt_ofNat_of_lt (by omega), show (0 : Int32).toInt = 0 from rfl]
  omega
theorem own_n32 {n : Nat} (hn : n ≤ 3) : (Int32.ofNat n).toNatClampNeg = n := by
  rw [Int32.toNatClampNeg, Int32.toInt_ofNat_of_lt (by omega)]; rfl
theorem own_one (i : Nat) : Int32.ofNat i + (1 : Int32) = Int32.ofNat (i + 1) := (Int32.ofNat_add i 1).symm
/-- a long[] of n places, place j holding f j -/
def own_L (Z : State) (h : Heap) (t : Addr) (n : Nat) (f : Nat → Int64) : Prop := ∃ cl : Cell, Arr Z h t cl .long ∧ cl.slots.size = n ∧ ∀ j, j < n → cl.slots[j]? = some (.long (f j))
theorem own_L.keep {Z : State} {h h' : Heap} {t : Addr} {n : Nat} {f : Nat → Int64} {ws : List Addr} (F : own_L Z h t n f) (K : Keep h h' ws) (q : t ∉ ws) : own_L Z h' t n f := by
  obtain ⟨c, A, r⟩ := F; exact ⟨c, ⟨K.2.1 t c A.1 q, A.2⟩, r⟩
theorem own_L.other {Z : State} {h h' : Heap} {t a : Addr} {n sl : Nat} {v : Value} {f : Nat → Int64} (F : own_L Z h t n f) (W : Wr h h' a sl v) (q : t ≠ a) : own_L Z h' t n f := by
  obtain ⟨c, A, r⟩ := F; exact ⟨c, A.other W q, r⟩
theorem own_L.ext {Z : State} {h h' : Heap} {t : Addr} {n : Nat} {f : Nat → Int64} (F : own_L Z h t n f) (E : Ext h h') : own_L Z h' t n f := by
  obtain ⟨c, A, r⟩ := F; exact ⟨c, A.ext E, r⟩
theorem own_L.set {Z : State} {h h' : Heap} {t : Addr} {n i : Nat} {v : Int64} {f : Nat → Int64} {cl : Cell} (A : Arr Z h t cl .long) (S : cl.slots.size = n) (H : ∀ j, j < n → cl.slots[j]? = some (.long (f j))) (W : Wr h h' t i (.long v)) : own_L Z h' t n (fun j => if j = i then v else f j) := by
  refine ⟨_, A.same W, by rw [sz_set]; exact S, fun j hj => ?_⟩
  show (cl.slots.setIfInBounds i (.long v))[j]? = _
  rw [Array.getElem?_setIfInBounds]
  by_cases q : i = j
  · subst q
    rw [if_pos rfl, if_pos (by rw [S]; exact hj)]
    simp
  · rw [if_neg q, H j hj]
    show some (Value.long (f j)) = some (Value.long (if j = i then v else f j))
    rw [if_neg (fun z => q z.symm)]
theorem own_L.of {Z : State} {h : Heap} {t : Addr} {k : ClassId} {z : Int32} {n : Nat} (F : Arv Z h t k .long z [] (.long (0 : Int64))) (hz : z.toNatClampNeg = n) : own_L Z h t n (fun _ => 0) := by
  obtain ⟨c, A, -, S, -, H, -⟩ := F
  refine ⟨c, A, by rw [S, hz], fun j hj => ?_⟩
  rw [H j (by rw [S, hz]; exact hj)]; rfl
def own_mv (x v mk : Int64) (cnt : Int32) : Int32 := if (0 : Int32) < lcmpW x mk then cnt else if (0 : Int32) < lcmpW v mk then cnt - (1 : Int32) else cnt
def own_step (s : Int64 × Int32) (v : Int64) : Int64 × Int32 := if lcmpW v s.1 < (0 : Int32) then (v, 1) else if lcmpW v s.1 = (0 : Int32) then (s.1, s.2 + (1 : Int32)) else s
def own_fs (f : Nat → Int64) : Nat → Nat → Int64 × Int32 → Int64 × Int32
  | 0, _, s => s
  | k + 1, i, s => own_fs f k (i + 1) (own_step s (f i))
def own_mn (x y : Int64) : Int64 := if (0 : Int32) < lcmpW x y then y else x
def own_n (k : Int32) : Int32 := ((1 : Int32) + ((k &&& (2147483647 : Int32)) - ((k &&& (2147483647 : Int32)) / (3 : Int32)) * (3 : Int32)))
def own_bit2 (k : Int32) : Int32 := (((k.toUInt32 >>> ((2 : Int32) &&& 31).toUInt32).toInt32) &&& (1 : Int32))
def own_bit3 (k : Int32) : Int32 := (((k.toUInt32 >>> ((3 : Int32) &&& 31).toUInt32).toInt32) &&& (1 : Int32))
def own_vb (k : Int32) (a b : Int64) : Int64 := if own_bit2 k = (0 : Int32) then b else a
def own_vc (k : Int32) (a b c : Int64) : Int64 := if own_bit3 k = (0 : Int32) then c else own_vb k a b
theorem own_n_cases (k : Int32) : own_n k = 1 ∨ own_n k = 2 ∨ own_n k = 3 := by
  have h1 := own_pos k
  have h2 : ((k &&& (2147483647 : Int32)) - ((k &&& (2147483647 : Int32)) / (3 : Int32)) * (3 : Int32)).toInt = (k &&& (2147483647 : Int32)).toInt % 3 := own_rem (by omega) (by decide)
  have h3 : (1 : Int32).toInt = 1 := rfl
  have h4 : (own_n k).toInt = 1 + (k.toInt % 2 ^ 31) % 3 := by
    unfold own_n
    rw [Jvm.Kit.i32_add (by omega) (by omega), h2, h1, h3]
  have h5 : (own_n k).toInt = 1 ∨ (own_n k).toInt = 2 ∨ (own_n k).toInt = 3 := by omega
  rcases h5 with h | h | h
  · exact Or.inl (Int32.toInt_inj.mp (h.trans rfl))
  · exact Or.inr (Or.inl (Int32.toInt_inj.mp (h.trans rfl)))
  · exact Or.inr (Or.inr (Int32.toInt_inj.mp (h.trans rfl)))
theorem own_le_max (x : Int64) : ¬ ((9223372036854775807 : Int64) < x) := by
  have h := Int64.toInt_lt x
  have h2 : (9223372036854775807 : Int64).toInt = 9223372036854775807 := rfl
  rw [Int64.lt_iff_toInt_lt, h2]; omega
theorem own_lt_max {x : Int64} (h : ¬ x = (9223372036854775807 : Int64)) : x < (9223372036854775807 : Int64) := by
  have h1 := own_le_max x
  rw [Int64.lt_iff_toInt_lt] at h1 ⊢
  have h2 : x.toInt ≠ (9223372036854775807 : Int64).toInt := fun q => h (Int64.toInt_inj.mp q)
  omega
theorem own_mv_dec {x m : Int64} {cnt : Int32} (h : x = m) (hm : ¬ m = (9223372036854775807 : Int64)) : own_mv x (9223372036854775807 : Int64) m cnt = cnt - 1 := by
  unfold own_mv
  rw [if_neg (by rw [lw_gt, h]; exact Int64.lt_irrefl), if_pos ((lw_gt _ _).mpr (own_lt_max hm))]
theorem own_mn_cases (x y : Int64) : (own_mn x y = x ∧ ¬ y < x) ∨ (own_mn x y = y ∧ y < x) := by
  unfold own_mn
  by_cases h : (0 : Int32) < lcmpW x y
  · rw [if_pos h]; exact Or.inr ⟨rfl, (lw_gt _ _).mp h⟩
  · rw [if_neg h]; exact Or.inl ⟨rfl, fun q => h ((lw_gt _ _).mpr q)⟩
theorem own_step_lt {s : Int64 × Int32} {v : Int64} (h : v < s.1) : own_step s v = (v, 1) := by
  unfold own_step; rw [if_pos ((lw_lt _ _).mpr h)]
theorem own_step_eq {s : Int64 × Int32} {v : Int64} (h : v = s.1) : own_step s v = (s.1, s.2 + 1) := by
  unfold own_step
  rw [if_neg (by rw [lw_lt, h]; exact Int64.lt_irrefl), if_pos ((lw_eq _ _).mpr h)]
theorem own_step_gt {s : Int64 × Int32} {v : Int64} (h : s.1 < v) : own_step s v = s := by
  unfold own_step
  rw [if_neg (by rw [lw_lt]; intro q; rw [Int64.lt_iff_toInt_lt] at q h; omega), if_neg (by rw [lw_eq]; intro q; rw [q] at h; exact Int64.lt_irrefl h)]
theorem own_tri (x y : Int64) : x < y ∨ x = y ∨ y < x := by
  rw [Int64.lt_iff_toInt_lt, Int64.lt_iff_toInt_lt, ← Int64.toInt_inj]; omega
def own_is (x m : Int64) : Int32 := if x = m then 1 else 0
/-- one step: the least so far, and how often it was met -/
theorem own_step_spec (s : Int64 × Int32) (v : Int64) : own_step s v = (own_mn s.1 v, (if own_mn s.1 v = s.1 then s.2 else 0) + own_is v (own_mn s.1 v)) := by
  rcases own_tri v s.1 with h | h | h
  · have hm : own_mn s.1 v = v := by unfold own_mn; rw [if_pos ((lw_gt _ _).mpr h)]
    have hne : ¬ v = s.1 := fun q => by rw [q] at h; exact Int64.lt_irrefl h
    rw [own_step_lt h, hm, if_neg hne, own_is, if_pos rfl]; rfl
  · have hm : own_mn s.1 v = s.1 := by unfold own_mn; rw [if_neg (by rw [lw_gt, h]; exact Int64.lt_irrefl)]
    rw [own_step_eq h, hm, if_pos rfl, own_is, if_pos h]
  · have hm : own_mn s.1 v = s.1 := by unfold own_mn; rw [if_neg (by rw [lw_gt]; intro q; rw [Int64.lt_iff_toInt_lt] at q h; omega)]
    have hne : ¬ v = s.1 := fun q => by rw [q] at h; exact Int64.lt_irrefl h
    rw [own_step_gt h, hm, if_pos rfl, own_is, if_neg hne, Int32.add_zero]
theorem own_first (a : Int64) : own_step ((9223372036854775807 : Int64), 0) a = (a, 1) := by
  have hm : own_mn (9223372036854775807 : Int64) a = a := by
    rcases own_mn_cases (9223372036854775807 : Int64) a with ⟨h, q⟩ | ⟨h, -⟩
    · rw [h]
      rcases own_tri a (9223372036854775807 : Int64) with r | r | r
      · exact absurd r q
      · exact r.symm
      · exact absurd r (own_le_max a)
    · exact h
  rw [own_step_spec]
  show (own_mn (9223372036854775807 : Int64) a, (if own_mn (9223372036854775807 : Int64) a = (9223372036854775807 : Int64) then (0 : Int32) else 0) + own_is a (own_mn (9223372036854775807 : Int64) a)) = (a, 1)
  rw [hm, own_is, if_pos rfl]
  split <;> rfl
theorem own_second (a b : Int64) : own_step (a, 1) b = (own_mn a b, own_is a (own_mn a b) + own_is b (own_mn a b)) := by
  rw [own_step_spec]
  show (own_mn a b, (if own_mn a b = a then (1 : Int32) else 0) + own_is b (own_mn a b)) = _
  have h : (if own_mn a b = a then (1 : Int32) else 0) = own_is a (own_mn a b) := by
    unfold own_is
    by_cases q : own_mn a b = a
    · rw [if_pos q, if_pos q.symm]
    · rw [if_neg q, if_neg (fun z => q z.symm)]
  rw [h]
theorem own_third (a b c : Int64) : own_step (own_mn a b, own_is a (own_mn a b) + own_is b (own_mn a b)) c = (own_mn (own_mn a b) c, own_is a (own_mn (own_mn a b) c) + own_is b (own_mn (own_mn a b) c) + own_is c (own_mn (own_mn a b) c)) := by
  rw [own_step_spec]
  show (own_mn (own_mn a b) c, (if own_mn (own_mn a b) c = own_mn a b then own_is a (own_mn a b) + own_is b (own_mn a b) else 0) + own_is c (own_mn (own_mn a b) c)) = _
  rcases own_mn_cases (own_mn a b) c with ⟨h, -⟩ | ⟨h, q⟩
  · rw [h, if_pos rfl]
  · have hne : ¬ c = own_mn a b := fun z => by rw [← z] at q; exact Int64.lt_irrefl q
    have ha : ¬ a = c := by
      rcases own_mn_cases a b with ⟨r, s⟩ | ⟨r, s⟩ <;> rw [r] at q <;> intro z
      · rw [z] at q; exact Int64.lt_irrefl q
      · rw [z, Int64.lt_iff_toInt_lt] at s; rw [Int64.lt_iff_toInt_lt] at q; omega
    have hb : ¬ b = c := by
      rcases own_mn_cases a b with ⟨r, s⟩ | ⟨r, s⟩ <;> rw [r] at q <;> intro z
      · rw [z] at s; exact s q
      · rw [z] at q; exact Int64.lt_irrefl q
    rw [h, if_neg hne, own_is, own_is, own_is, if_neg ha, if_neg hb, if_pos rfl]; rfl
theorem d4_6 : decode jdk_65_method_101_code 6 = .ok (.iload_n 3, 1) := by decide +kernel
theorem d4_7 : decode jdk_65_method_101_code 7 = .ok (.iload 4, 2) := by decide +kernel
theorem d4_9 : decode jdk_65_method_101_code 9 = .ok (.if_icmp .ge 13, 3) := by decide +kernel
theorem d4_12 : decode jdk_65_method_101_code 12 = .ok (.aload_n 0, 1) := by decide +kernel
theorem d4_13 : decode jdk_65_method_101_code 13 = .ok (.iload_n 3, 1) := by decide +kernel
theorem d4_14 : decode jdk_65_method_101_code 14 = .ok (.lload_n 1, 1) := by decide +kernel
theorem d4_15 : decode jdk_65_method_101_code 15 = .ok (.lastore, 1) := by decide +kernel
theorem d4_16 : decode jdk_65_method_101_code 16 = .ok (.iinc 3 1, 3) := by decide +kernel
theorem d4_19 : decode jdk_65_method_101_code 19 = .ok (.goto (-13), 3) := by decide +kernel
set_option maxRecDepth 65536 in
set_option maxHeartbeats 40000000 in
theorem tn4_6_6 {p : Program} {l : Launch} {e : Env} {R : Room} {s : State} {m : MethodId} {args : Array Value} {below : List Frame} {meth : Method} {c : Code} {T0 : State} {locs : List Loc} {cells slots : Nat} {Z : State} {a0 : Array Value} {h0 : Heap} {n0 : Nat} (o0 : Addr) (j1 : Int64) (i3 : Int32) (i4 : Int32) (cl_o0 : Cell)
    (X0 : Stand p l e R s m args below meth c T0 locs cells slots) (hx : p.tables.exec = Jvm.exec) (hZ : Z.Warmed39 s.vm) (hw : ∀ d ∈ tables_1, d.before a0 Z = true) (hby : c.code = jdk_65_method_101_code) (hml : c.maxLocals = 5) (hown : s.vm.findClass "java/util/Arrays" = some m.cls) (e0 : T0.heap = h0) (Ar_o0 : Arr Z h0 o0 cl_o0 .long) (hin15 : ¬ (i3 < 0 ∨ cl_o0.slots.size ≤ (i3).toNatClampNeg)) (g_o0 : n0 ≤ o0) (hc9 : i3 < i4) (N0 : Fr n0 locs) :
    ∃ (T' : State) (h' : Heap) (locs' : List Loc), Stand p l e R s m args below meth c T' locs' cells slots ∧ T'.heap = h' ∧ Fr n0 locs' ∧ Wr h0 h' o0 i3.toNatClampNeg (.long j1) ∧
      ∀ target, Steps p.tables e below (T'.setTop (mkF m 6 #[.val (.ref o0), .val (.long j1), .second, .val (.int (i3 + (1 : Int32))), .val (.int i4)] [])) target → Steps p.tables e below (T0.setTop (mkF m 6 #[.val (.ref o0), .val (.long j1), .second, .val (.int i3), .val (.int i4)] [])) target := by
  obtain ⟨T3, h3, X3, e3, W3, st3⟩ := stJ X0 hx hZ e0 Ar_o0 (j := i3) hin15 (g := (mkF m 15 #[.val (.ref o0), .val (.long j1), .second, .val (.int i3), .val (.int i4)] [(.long j1), (.int i3), (.ref o0)])) rfl rfl (hb hby d4_15)
  have N3 := Fr.snoc X3 N0 g_o0
  have K3 : Keep h0 h3 [o0] := (Keep.refl h0 [o0]).wr W3 (Or.inl (List.mem_of_getElem? (i := 0) rfl))
  refine ⟨T3, _, _, X3, e3, N3, W3, fun target kt => ?_⟩
  show Steps p.tables e below (T0.setTop (mkF m 6 #[.val (.ref o0), .val (.long j1), .second, .val (.int i3), .val (.int i4)] [])) _
  refine XS.iloadN X0.here hx rfl (hb hby d4_6) rfl ?_
  show Steps p.tables e below (T0.setTop (mkF m 7 #[.val (.ref o0), .val (.long j1), .second, .val (.int i3), .val (.int i4)] [(.int i3)])) _
  refine XS.iload X0.here hx rfl (hb hby d4_7) rfl ?_
  show Steps p.tables e below (T0.setTop (mkF m 9 #[.val (.ref o0), .val (.long j1), .second, .val (.int i3), .val (.int i4)] [(.int i4), (.int i3)])) _
  refine XS.icmpNo X0.here hx rfl (hb hby d4_9) rfl (tlt hc9).2.1 ?_
  show Steps p.tables e below (T0.setTop (mkF m 12 #[.val (.ref o0), .val (.long j1), .second, .val (.int i3), .val (.int i4)] [])) _
  refine XS.aloadN X0.here hx rfl (hb hby d4_12) rfl rfl ?_
  show Steps p.tables e below (T0.setTop (mkF m 13 #[.val (.ref o0), .val (.long j1), .second, .val (.int i3), .val (.int i4)] [(.ref o0)])) _
  refine XS.iloadN X0.here hx rfl (hb hby d4_13) rfl ?_
  show Steps p.tables e below (T0.setTop (mkF m 14 #[.val (.ref o0), .val (.long j1), .second, .val (.int i3), .val (.int i4)] [(.int i3), (.ref o0)])) _
  refine XS.lloadN X0.here hx rfl (hb hby d4_14) rfl ?_
  show Steps p.tables e below (T0.setTop (mkF m 15 #[.val (.ref o0), .val (.long j1), .second, .val (.int i3), .val (.int i4)] [(.long j1), (.int i3), (.ref o0)])) _
  refine st3 _ ?_
  show Steps p.tables e below (T3.setTop (mkF m 16 #[.val (.ref o0), .val (.long j1), .second, .val (.int i3), .val (.int i4)] [])) _
  refine XS.iinc X3.here hx rfl (hb hby d4_16) rfl (l' := #[.val (.ref o0), .val (.long j1), .second, .val (.int (i3 + (1 : Int32))), .val (.int i4)]) rfl ?_
  show Steps p.tables e below (T3.setTop (mkF m 19 #[.val (.ref o0), .val (.long j1), .second, .val (.int (i3 + (1 : Int32))), .val (.int i4)] [])) _
  refine XS.goto X3.here hx rfl (pc0 := 19) (pc' := 6) rfl (hb hby d4_19) (by decide) (by decide) ?_
  exact kt
set_option maxRecDepth 65536 in
set_option maxHeartbeats 40000000 in
theorem tn4_6_22 {p : Program} {l : Launch} {e : Env} {R : Room} {s : State} {m : MethodId} {args : Array Value} {below : List Frame} {meth : Method} {c : Code} {T0 : State} {locs : List Loc} {cells slots : Nat} {Z : State} {a0 : Array Value} {h0 : Heap} (s0 : Slot) (s1 : Slot) (s2 : Slot) (i3 : Int32) (i4 : Int32)
    (X0 : Stand p l e R s m args below meth c T0 locs cells slots) (hx : p.tables.exec = Jvm.exec) (hZ : Z.Warmed39 s.vm) (hw : ∀ d ∈ tables_1, d.before a0 Z = true) (hby : c.code = jdk_65_method_101_code) (hml : c.maxLocals = 5) (hown : s.vm.findClass "java/util/Arrays" = some m.cls) (e0 : T0.heap = h0) (hc9 : ¬ (i3 < i4)) :
    ∃ (T' : State), Stand p l e R s m args below meth c T' locs cells slots ∧ T'.heap = h0 ∧
      ∀ target, Steps p.tables e below (T'.setTop (mkF m 22 #[s0, s1, s2, .val (.int i3), .val (.int i4)] [])) target → Steps p.tables e below (T0.setTop (mkF m 6 #[s0, s1, s2, .val (.int i3), .val (.int i4)] [])) target := by

  refine ⟨T0, X0, e0, fun target kt => ?_⟩
  show Steps p.tables e below (T0.setTop (mkF m 6 #[s0, s1, s2, .val (.int i3), .val (.int i4)] [])) _
  refine XS.iloadN X0.here hx rfl (hb hby d4_6) rfl ?_
  show Steps p.tables e below (T0.setTop (mkF m 7 #[s0, s1, s2, .val (.int i3), .val (.int i4)] [(.int i3)])) _
  refine XS.iload X0.here hx rfl (hb hby d4_7) rfl ?_
  show Steps p.tables e below (T0.setTop (mkF m 9 #[s0, s1, s2, .val (.int i3), .val (.int i4)] [(.int i4), (.int i3)])) _
  refine XS.icmpYes X0.here hx rfl (pc0 := 9) (pc' := 22) rfl (hb hby d4_9) rfl (flt hc9).2.1 (by decide) (by decide) ?_
  exact kt
/-- fill's loop, whole -/
theorem loop4 {p : Program} {l : Launch} {e : Env} {R : Room} {s : State} {m : MethodId} {args : Array Value} {below : List Frame} {meth : Method} {c : Code} {cells slots : Nat} {Z : State} {a0 : Array Value} {h0 : Heap} {n0 : Nat} (o0 : Addr) (v : Int64) (f : Nat → Int64) (n : Nat) (hn : n ≤ 3) (g_o0 : n0 ≤ o0) (hx : p.tables.exec = Jvm.exec) (hZ : Z.Warmed39 s.vm) (hw : ∀ d ∈ tables_1, d.before a0 Z = true) (hby : c.code = jdk_65_method_101_code) (hml : c.maxLocals = 5) (hown : s.vm.findClass "java/util/Arrays" = some m.cls) :
    ∀ (k i : Nat) (T0 : State) (h : Heap) (locs : List Loc), i + k = n → Stand p l e R s m args below meth c T0 locs cells slots → T0.heap = h → Fr n0 locs → Keep h0 h [o0] → own_L Z h o0 n (fun j => if j < i then v else f j) →
      ∃ (T' : State) (h' : Heap) (locs' : List Loc), Stand p l e R s m args below meth c T' locs' cells slots ∧ T'.heap = h' ∧ Fr n0 locs' ∧ (Keep h0 h' [o0] ∧ own_L Z h' o0 n (fun _ => v)) ∧
        ∀ target, Steps p.tables e below (T'.setTop (mkF m 22 #[.val (.ref o0), .val (.long v), .second, .val (.int (Int32.ofNat n)), .val (.int (Int32.ofNat n))] [])) target → Steps p.tables e below (T0.setTop (mkF m 6 #[.val (.ref o0), .val (.long v), .second, .val (.int (Int32.ofNat i)), .val (.int (Int32.ofNat n))] [])) target := by
  intro k
  induction k with
  | zero =>
    intro i T0 h locs hi X0 e0 N K V
    have hi' : i = n := by omega
    obtain ⟨T1, X1, e1, st1⟩ := tn4_6_22 (.val (.ref o0)) (.val (.long v)) .second (Int32.ofNat n) (Int32.ofNat n) X0 hx hZ hw hby hml hown e0 Int32.lt_irrefl
    refine ⟨T1, h, locs, X1, e1, N, ⟨K, ?_⟩, fun target q => ?_⟩
    · obtain ⟨cl, A, S, H⟩ := V
      refine ⟨cl, A, S, fun j hj => ?_⟩
      rw [H j hj]
      show some (Value.long (if j < i then v else f j)) = some (Value.long v)
      rw [if_pos (by omega)]
    · rw [hi']; exact st1 target q
  | succ k ih =>
    intro i T0 h locs hi X0 e0 N K V
    obtain ⟨cl, A, S, H⟩ := V
    have h32 : (Int32.ofNat i).toNatClampNeg = i := own_n32 (by omega)
    have hin : ¬ (Int32.ofNat i < 0 ∨ cl.slots.size ≤ (Int32.ofNat i).toNatClampNeg) := by
      rw [S, h32]
      exact fun q => q.elim (own_nn (by omega)) (fun q => by omega)
    obtain ⟨T1, h1, L1, X1, e1, N1, W1, st1⟩ := tn4_6_6 o0 v (Int32.ofNat i) (Int32.ofNat n) cl X0 hx hZ hw hby hml hown e0 A hin g_o0 (own_lt (by omega) hn) N
    rw [h32] at W1
    have V1 : own_L Z h1 o0 n (fun j => if j < i + 1 then v else f j) := by
      obtain ⟨cl1, A1, S1, H1⟩ := own_L.set A S H W1
      refine ⟨cl1, A1, S1, fun j hj => ?_⟩
      rw [H1 j hj]
      show some (Value.long (if j = i then v else if j < i then v else f j)) = some (Value.long (if j < i + 1 then v else f j))
      by_cases q : j = i
      · rw [if_pos q, if_pos (by omega)]
      · rw [if_neg q]
        by_cases r : j < i
        · rw [if_pos r, if_pos (by omega)]
        · rw [if_neg r, if_neg (by omega)]
    obtain ⟨T', h', L', X', e', N', KV, st⟩ := ih (i + 1) T1 h1 L1 (by omega) X1 e1 N1 (K.wr W1 (Or.inl (List.mem_singleton.mpr rfl))) V1
    refine ⟨T', h', L', X', e', N', KV, fun target q => st1 target ?_⟩
    rw [own_one]; exact st target q
theorem d4_0 : decode jdk_65_method_101_code 0 = .ok (.iconst 0, 1) := by decide +kernel
theorem d4_1 : decode jdk_65_method_101_code 1 = .ok (.istore_n 3, 1) := by decide +kernel
theorem d4_2 : decode jdk_65_method_101_code 2 = .ok (.aload_n 0, 1) := by decide +kernel
theorem d4_3 : decode jdk_65_method_101_code 3 = .ok (.arraylength, 1) := by decide +kernel
theorem d4_4 : decode jdk_65_method_101_code 4 = .ok (.istore 4, 2) := by decide +kernel
theorem d4_22 : decode jdk_65_method_101_code 22 = .ok (.return_, 1) := by decide +kernel
theorem pn_4 : plainName "java/util/Arrays" = true := by first | (simp [plainName, overriddenIn]; done) | decide +kernel
theorem ef_4 (m : MethodId) (x0 : Addr) (x1 : Int64) : entryFrame m #[(.ref x0), (.long x1)] 5 = mkF m 0 #[.val (.ref x0), .val (.long x1), .second, .unset, .unset] [] := by first | (simp [entryFrame, mkF, argsToLocals, Value.category]; done) | rfl
def Q4 (Z : State) (a1 : Addr) (q2 : Int64) (n : Nat) (f : Nat → Int64) (h0 : Heap) (n0 : Nat) (v : Option Value) (h : Heap) (L : List Loc) : Prop := v = none ∧ Fr n0 L ∧ Keep h0 h [a1] ∧ own_L Z h a1 n (fun _ => q2)
set_option maxRecDepth 65536 in
set_option maxHeartbeats 40000000 in
theorem rm4 (l : Launch) (Z : State) (a0 : Array Value) (hw : ∀ d ∈ tables_1, d.before a0 Z = true) (ws : List Jvm.Cond) (a1 : Addr) (q2 : Int64) (n : Nat) (f : Nat → Int64) (h0 : Heap) (n0 : Nat) (Z0 : n0 ≤ h0.size) (hn : n ≤ 3) (V : own_L Z h0 a1 n f) (g_a1 : n0 ≤ a1) :
    MetFree l (⟨"java/util/Arrays", "fill", "([JJ)V"⟩ : MethodName) (head1 (Jvm.Cond.code (⟨"java/util/Arrays", "fill", "([JJ)V"⟩ : MethodName) jdk_65_method_101_code 5 none :: ws) ({ frames := 0, cells := 0, slots := 0, locals := 0 } : Room)) (fun a U => a = #[(.ref a1), (.long q2)] ∧ Z.Warmed39 U.vm ∧ U.heap = h0) (fun _ _ _ _ _ => True) (fun _ U o U' => ∃ v L, o = .returned v ∧ Q4 Z a1 q2 n f h0 n0 v U'.heap L ∧ FrameEnd U o U' L ({ frames := 0, cells := 0, slots := 0, locals := 0 } : Room).cells ({ frames := 0, cells := 0, slots := 0, locals := 0 } : Room).slots) := by
  refine MetFree.of_bodySF (plainFor_of_name pn_4) hisR ?_
  intro p e s m args below meth c s₁ Bd hml0 hP hK
  obtain ⟨rfl, hZ, hh⟩ := hP
  have hx := Bd.exec
  have hby := Bd.bytes
  have hml : c.maxLocals = 5 := hml0
  have hown : s.vm.findClass "java/util/Arrays" = some m.cls := findClass_of_methodNamed Bd.named
  have hnm := (name_of_methodNamed Bd.named Bd.method).1
  have X0 : Stand p l e ({ frames := 0, cells := 0, slots := 0, locals := 0 } : Room) s m #[(.ref a1), (.long q2)] below meth c s₁ [] 0 0 := Stand.of_body Bd
  have e0 : s₁.heap = h0 := by rw [← hh, Bd.state]; rfl
  have N0 := Fr.nil n0
  have pre0 : ∀ t, Steps p.tables e below (s₁.setTop (mkF m 0 #[.val (.ref a1), .val (.long q2), .second, .unset, .unset] [])) t → Steps p.tables e below (s₁.setTop (entryFrame m #[(.ref a1), (.long q2)] 5)) t := fun t k => castTop (ef_4 m a1 q2) k
  obtain ⟨cl_a1, Ar_a1, S_q, H_q⟩ := V
  have S_a1 : cl_a1.slots.size = (Int32.ofNat n).toNatClampNeg := by rw [S_q, own_n32 hn]
  have N_a1 : ¬ Int32.ofNat n < 0 := own_nn hn
  have V0 : own_L Z h0 a1 n (fun j => if j < 0 then q2 else f j) := ⟨cl_a1, Ar_a1, S_q, fun j hj => by
    rw [H_q j hj]
    show some (Value.long (f j)) = some (Value.long (if j < 0 then q2 else f j))
    rw [if_neg (Nat.not_lt_zero j)]⟩
  obtain ⟨T3, h3, L3, X3, e3, N3, ⟨K3, V3⟩, st3⟩ := loop4 (h0 := h0) (n0 := n0) a1 q2 f n hn g_a1 hx hZ hw hby hml hown n 0 s₁ h0 [] (by omega) X0 e0 N0 (Keep.refl h0 [a1]) V0
  obtain ⟨fs, hr, hrun, hended, hW, hsame⟩ := X3.leave (v := none) (fun _ => rfl)
  refine ⟨_, _, pre0 _ ?_, hrun, hended, _, _, rfl, ?_, ⟨_, rfl⟩, hW, hsame.mono (by decide) (by decide)⟩
  · show Steps p.tables e below (s₁.setTop (mkF m 0 #[.val (.ref a1), .val (.long q2), .second, .unset, .unset] [])) _
    refine XS.iconst X0.here hx rfl (hb hby d4_0) ?_
    show Steps p.tables e below (s₁.setTop (mkF m 1 #[.val (.ref a1), .val (.long q2), .second, .unset, .unset] [(.int (0 : Int32))])) _
    refine XS.istoreN X0.here hx rfl (hb hby d4_1) rfl (l' := #[.val (.ref a1), .val (.long q2), .second, .val (.int (0 : Int32)), .unset]) rfl ?_
    show Steps p.tables e below (s₁.setTop (mkF m 2 #[.val (.ref a1), .val (.long q2), .second, .val (.int (0 : Int32)), .unset] [])) _
    refine XS.aloadN X0.here hx rfl (hb hby d4_2) rfl rfl ?_
    show Steps p.tables e below (s₁.setTop (mkF m 3 #[.val (.ref a1), .val (.long q2), .second, .val (.int (0 : Int32)), .unset] [(.ref a1)])) _
    refine X0.arraylength hx (by rw [e0]; exact Ar_a1.1) (State.isArrayOf_alike hZ.alike Ar_a1.2.1) (g := (mkF m 3 #[.val (.ref a1), .val (.long q2), .second, .val (.int (0 : Int32)), .unset] [(.ref a1)])) rfl rfl (hb hby d4_3) _ ?_
    rw [len_of S_a1 N_a1]
    show Steps p.tables e below (s₁.setTop (mkF m 4 #[.val (.ref a1), .val (.long q2), .second, .val (.int (0 : Int32)), .unset] [(.int (Int32.ofNat n))])) _
    refine XS.istore X0.here hx rfl (hb hby d4_4) rfl (l' := #[.val (.ref a1), .val (.long q2), .second, .val (.int (0 : Int32)), .val (.int (Int32.ofNat n))]) rfl ?_
    show Steps p.tables e below (s₁.setTop (mkF m 6 #[.val (.ref a1), .val (.long q2), .second, .val (.int (0 : Int32)), .val (.int (Int32.ofNat n))] [])) _
    refine st3 _ ?_
    show Steps p.tables e below (T3.setTop (mkF m 22 #[.val (.ref a1), .val (.long q2), .second, .val (.int (Int32.ofNat n)), .val (.int (Int32.ofNat n))] [])) _
    exact X3.returnOut hx Bd.returns (hb hby d4_22) hr
  · show Q4 Z a1 q2 n f h0 n0 _ T3.heap _
    rw [e3]
    exact ⟨rfl, N3, K3, V3⟩
theorem d3_0 : decode prog_44_method_2_code 0 = .ok (.aload_n 0, 1) := by decide +kernel
theorem d3_1 : decode prog_44_method_2_code 1 = .ok (.getfield 16, 3) := by decide +kernel
theorem d3_4 : decode prog_44_method_2_code 4 = .ok (.lload_n 1, 1) := by decide +kernel
theorem d3_5 : decode prog_44_method_2_code 5 = .ok (.invokestatic 26, 3) := by decide +kernel
theorem d3_8 : decode prog_44_method_2_code 8 = .ok (.aload_n 0, 1) := by decide +kernel
theorem d3_9 : decode prog_44_method_2_code 9 = .ok (.lload_n 1, 1) := by decide +kernel
theorem d3_10 : decode prog_44_method_2_code 10 = .ok (.putfield 32, 3) := by decide +kernel
theorem d3_13 : decode prog_44_method_2_code 13 = .ok (.aload_n 0, 1) := by decide +kernel
theorem d3_14 : decode prog_44_method_2_code 14 = .ok (.aload_n 0, 1) := by decide +kernel
theorem d3_15 : decode prog_44_method_2_code 15 = .ok (.getfield 16, 3) := by decide +kernel
theorem d3_18 : decode prog_44_method_2_code 18 = .ok (.arraylength, 1) := by decide +kernel
theorem d3_19 : decode prog_44_method_2_code 19 = .ok (.putfield 36, 3) := by decide +kernel
theorem d3_22 : decode prog_44_method_2_code 22 = .ok (.return_, 1) := by decide +kernel
theorem pn_3 : plainName "com/example/mullion/mullion/aggregators/FurthestBack" = true := by first | (simp [plainName, overriddenIn]; done) | decide +kernel
theorem pd_3_3 : parseMethodDescriptor "([JJ)V" = some ⟨[(.array .long), .long], none⟩ := by decide +kernel
theorem ef_3 (m : MethodId) (x0 : Addr) (x1 : Int64) : entryFrame m #[(.ref x0), (.long x1)] 3 = mkF m 0 #[.val (.ref x0), .val (.long x1), .second] [] := by first | (simp [entryFrame, mkF, argsToLocals, Value.category]; done) | rfl
def Q3 (Z : State) (a1 : Addr) (q2 : Int64) (t : Addr) (n : Nat) (f : Nat → Int64) (u_mark_a1 : Value) (u_atOrBelowMark_a1 : Value) (h0 : Heap) (n0 : Nat) (v : Option Value) (h : Heap) (L : List Loc) : Prop := v = none ∧ Fr n0 L ∧ Keep h0 h [a1, t] ∧ Exa Z h a1 "com/example/mullion/mullion/aggregators/FurthestBack" ∧ Fld Z h a1 "com/example/mullion/mullion/aggregators/FurthestBack" "values" "[J" (.ref t) ∧ Fld Z h a1 "com/example/mullion/mullion/aggregators/FurthestBack" "mark" "J" (.long q2) ∧ Fld Z h a1 "com/example/mullion/mullion/aggregators/FurthestBack" "atOrBelowMark" "I" (.int (Int32.ofNat n)) ∧ own_L Z h t n (fun _ => q2)
set_option maxRecDepth 65536 in
set_option maxHeartbeats 40000000 in
theorem rm3 (l : Launch) (Z : State) (a0 : Array Value) (hw : ∀ d ∈ tables_1, d.before a0 Z = true) (ws : List Jvm.Cond) (a1 : Addr) (q2 : Int64) (t : Addr) (n : Nat) (f : Nat → Int64) (u_mark_a1 : Value) (u_atOrBelowMark_a1 : Value) (h0 : Heap) (n0 : Nat) (Z0 : n0 ≤ h0.size) (hn : n ≤ 3) (E_a1 : Exa Z h0 a1 "com/example/mullion/mullion/aggregators/FurthestBack") (F_values_a1 : Fld Z h0 a1 "com/example/mullion/mullion/aggregators/FurthestBack" "values" "[J" (.ref t)) (F_mark_a1 : Fld Z h0 a1 "com/example/mullion/mullion/aggregators/FurthestBack" "mark" "J" u_mark_a1) (F_atOrBelowMark_a1 : Fld Z h0 a1 "com/example/mullion/mullion/aggregators/FurthestBack" "atOrBelowMark" "I" u_atOrBelowMark_a1) (V : own_L Z h0 t n f) (hne : a1 ≠ t) (g_a1 : n0 ≤ a1) (g_t : n0 ≤ t) :
    MetFree l (⟨"com/example/mullion/mullion/aggregators/FurthestBack", "reset", "(J)V"⟩ : MethodName) (head1 (Jvm.Cond.code (⟨"com/example/mullion/mullion/aggregators/FurthestBack", "reset", "(J)V"⟩ : MethodName) prog_44_method_2_code 3 none :: ws) ({ frames := 1, cells := 0, slots := 0, locals := 16 } : Room)) (fun a U => a = #[(.ref a1), (.long q2)] ∧ Z.Warmed39 U.vm ∧ U.heap = h0) (fun _ _ _ _ _ => True) (fun _ U o U' => ∃ v L, o = .returned v ∧ Q3 Z a1 q2 t n f u_mark_a1 u_atOrBelowMark_a1 h0 n0 v U'.heap L ∧ FrameEnd U o U' L ({ frames := 1, cells := 0, slots := 0, locals := 16 } : Room).cells ({ frames := 1, cells := 0, slots := 0, locals := 16 } : Room).slots) := by
  refine MetFree.of_bodySF (plainFor_of_name pn_3) hisR ?_
  intro p e s m args below meth c s₁ Bd hml0 hP hK
  obtain ⟨rfl, hZ, hh⟩ := hP
  have hx := Bd.exec
  have hby := Bd.bytes
  have hml : c.maxLocals = 3 := hml0
  have hown : s.vm.findClass "com/example/mullion/mullion/aggregators/FurthestBack" = some m.cls := findClass_of_methodNamed Bd.named
  have hnm := (name_of_methodNamed Bd.named Bd.method).1
  have X0 : Stand p l e ({ frames := 1, cells := 0, slots := 0, locals := 16 } : Room) s m #[(.ref a1), (.long q2)] below meth c s₁ [] 0 0 := Stand.of_body Bd
  have e0 : s₁.heap = h0 := by rw [← hh, Bd.state]; rfl
  have N0 := Fr.nil n0
  have pre0 : ∀ t, Steps p.tables e below (s₁.setTop (mkF m 0 #[.val (.ref a1), .val (.long q2), .second] [])) t → Steps p.tables e below (s₁.setTop (entryFrame m #[(.ref a1), (.long q2)] 3)) t := fun t k => castTop (ef_3 m a1 q2) k
  obtain ⟨T4, X4, e4, st4⟩ := getF X0 hx hZ hown (host := "") (Or.inl (hw _ (List.mem_of_getElem? (i := 12) rfl))) Via.refl e0 F_values_a1 (g := (mkF m 1 #[.val (.ref a1), .val (.long q2), .second] [(.ref a1)])) rfl rfl (hb hby d3_1)
  obtain ⟨_, _, ⟨T5, L5, k5, n5⟩, -, X5, ⟨Lc5, hQ5, l5, y5, z5⟩, st5⟩ := Jvm.LawKit.callS X4 hx (y := (⟨"java/util/Arrays", "fill", "([JJ)V"⟩ : MethodName)) hown (mvT hZ (hw _ (List.mem_of_getElem? (i := 19) rfl))) (mvT hZ (hw _ (List.mem_of_getElem? (i := 20) rfl))) (mvT hZ (hw _ (List.mem_of_getElem? (i := 21) rfl))) (mvT hZ (hw _ (List.mem_of_getElem? (i := 22) rfl))) (by decide) (backOf (W := 0) (rm4 l Z a0 hw [] t q2 n f h0 n0 Z0 hn V g_t) hZ (hw _ (List.mem_of_getElem? (i := 22) rfl)) (hw _ (List.mem_of_getElem? (i := 21) rfl)) (by decide) (by decide)) (g := (mkF m 5 #[.val (.ref a1), .val (.long q2), .second] [(.long q2), (.ref t)])) rfl (by rw [hml]; rfl) (argsL := [(.ref t), (.long q2)]) (rest := []) (lenOf pd_3_3 rfl) rfl (by show 2 * 0 + _ ≤ _; exact Nat.le_of_eq rfl) (hb hby d3_5) (fun _ _ => ⟨rfl, e4, (by decide : 0 + 0 ≤ _), (by decide : 0 + 0 ≤ _)⟩)
  dsimp only [Pt.U, Pt.locs, Pt.cells, Pt.slots] at X5 l5 y5 z5 st5 hQ5
  subst l5 y5 z5
  obtain ⟨rfl, N5q, K5q, V5q⟩ := hQ5
  have N5 := Fr.app N0 N5q
  have KH5 : Keep h0 T5.heap [a1, t] := (Keep.refl h0 [a1, t]).trans K5q (fun x hx => by simp at hx; exact Or.inl (by simp [hx]))
  obtain ⟨T6, h6, X6, e6, W6, st6⟩ := putF X5 hx hZ hown (host := "") (Or.inl (hw _ (List.mem_of_getElem? (i := 23) rfl))) Via.refl rfl (F_mark_a1.keep K5q (by simp [hne])) (E_a1.keep K5q) (Or.inl (hw _ (List.mem_of_getElem? (i := 24) rfl))) (hw _ (List.mem_of_getElem? (i := 2) rfl)) (ty := .long) (by decide) rfl rfl (g := (mkF m 10 #[.val (.ref a1), .val (.long q2), .second] [(.long q2), (.ref a1)])) rfl rfl (hb hby d3_10)
  have Fw6 := (F_mark_a1.keep K5q (by simp [hne])).same W6
  have K6 : Keep h0 h6 [a1, t] := KH5.wr W6 (Or.inl (List.mem_of_getElem? (i := 0) rfl))
  have N6 := Fr.snoc X6 N5 g_a1
  obtain ⟨T8, X8, e8, st8⟩ := getF X6 hx hZ hown (host := "") (Or.inl (hw _ (List.mem_of_getElem? (i := 12) rfl))) Via.refl e6 ((F_values_a1.keep K5q (by simp [hne])).other W6 (Or.inr (slot_ne (Or.inr (hw _ (List.mem_of_getElem? (i := 13) rfl))) (Or.inl (hw _ (List.mem_of_getElem? (i := 24) rfl))) (by decide) (t := (.array .long)) (t' := .long) (by decide) (by decide)))) (g := (mkF m 15 #[.val (.ref a1), .val (.long q2), .second] [(.ref a1), (.ref a1)])) rfl rfl (hb hby d3_15)
  have V6 : own_L Z h6 t n (fun _ => q2) := V5q.other W6 hne.symm
  obtain ⟨cl_t, Ar_t, S_q, H_q⟩ := V6
  have S_t : cl_t.slots.size = (Int32.ofNat n).toNatClampNeg := by rw [S_q, own_n32 hn]
  have N_t : ¬ Int32.ofNat n < 0 := own_nn hn
  obtain ⟨T9, h9, X9, e9, W9, st9⟩ := putF X8 hx hZ hown (host := "") (Or.inl (hw _ (List.mem_of_getElem? (i := 25) rfl))) Via.refl e8 ((F_atOrBelowMark_a1.keep K5q (by simp [hne])).other W6 (Or.inr (slot_ne (Or.inl (hw _ (List.mem_of_getElem? (i := 26) rfl))) (Or.inl (hw _ (List.mem_of_getElem? (i := 24) rfl))) (by decide) (t := .int) (t' := .long) (by decide) (by decide)))) ((E_a1.keep K5q).wr W6) (Or.inl (hw _ (List.mem_of_getElem? (i := 26) rfl))) (hw _ (List.mem_of_getElem? (i := 2) rfl)) (ty := .int) (by decide) rfl rfl (g := (mkF m 19 #[.val (.ref a1), .val (.long q2), .second] [(.int (Int32.ofNat n)), (.ref a1)])) rfl rfl (hb hby d3_19)
  have Fw9 := ((F_atOrBelowMark_a1.keep K5q (by simp [hne])).other W6 (Or.inr (slot_ne (Or.inl (hw _ (List.mem_of_getElem? (i := 26) rfl))) (Or.inl (hw _ (List.mem_of_getElem? (i := 24) rfl))) (by decide) (t := .int) (t' := .long) (by decide) (by decide)))).same W9
  have K9 : Keep h0 h9 [a1, t] := K6.wr W9 (Or.inl (List.mem_of_getElem? (i := 0) rfl))
  have N9 := Fr.snoc X9 N6 g_a1
  obtain ⟨fs, hr, hrun, hended, hW, hsame⟩ := X9.leave (v := none) (fun _ => rfl)
  refine ⟨_, _, pre0 _ ?_, hrun, hended, _, _, rfl, ?_, ⟨_, rfl⟩, hW, hsame.mono (by decide) (by decide)⟩
  · show Steps p.tables e below (s₁.setTop (mkF m 0 #[.val (.ref a1), .val (.long q2), .second] [])) _
    refine XS.aloadN X0.here hx rfl (hb hby d3_0) rfl rfl ?_
    show Steps p.tables e below (s₁.setTop (mkF m 1 #[.val (.ref a1), .val (.long q2), .second] [(.ref a1)])) _
    refine st4 _ ?_
    show Steps p.tables e below (T4.setTop (mkF m 4 #[.val (.ref a1), .val (.long q2), .second] [(.ref t)])) _
    refine XS.lloadN X4.here hx rfl (hb hby d3_4) rfl ?_
    show Steps p.tables e below (T4.setTop (mkF m 5 #[.val (.ref a1), .val (.long q2), .second] [(.long q2), (.ref t)])) _
    refine st5 _ ?_
    show Steps p.tables e below (T5.setTop (mkF m 8 #[.val (.ref a1), .val (.long q2), .second] [])) _
    refine XS.aloadN X5.here hx rfl (hb hby d3_8) rfl rfl ?_
    show Steps p.tables e below (T5.setTop (mkF m 9 #[.val (.ref a1), .val (.long q2), .second] [(.ref a1)])) _
    refine XS.lloadN X5.here hx rfl (hb hby d3_9) rfl ?_
    show Steps p.tables e below (T5.setTop (mkF m 10 #[.val (.ref a1), .val (.long q2), .second] [(.long q2), (.ref a1)])) _
    refine st6 _ ?_
    show Steps p.tables e below (T6.setTop (mkF m 13 #[.val (.ref a1), .val (.long q2), .second] [])) _
    refine XS.aloadN X6.here hx rfl (hb hby d3_13) rfl rfl ?_
    show Steps p.tables e below (T6.setTop (mkF m 14 #[.val (.ref a1), .val (.long q2), .second] [(.ref a1)])) _
    refine XS.aloadN X6.here hx rfl (hb hby d3_14) rfl rfl ?_
    show Steps p.tables e below (T6.setTop (mkF m 15 #[.val (.ref a1), .val (.long q2), .second] [(.ref a1), (.ref a1)])) _
    refine st8 _ ?_
    show Steps p.tables e below (T8.setTop (mkF m 18 #[.val (.ref a1), .val (.long q2), .second] [(.ref t), (.ref a1)])) _
    refine X8.arraylength hx (by rw [e8]; exact Ar_t.1) (State.isArrayOf_alike hZ.alike Ar_t.2.1) (g := (mkF m 18 #[.val (.ref a1), .val (.long q2), .second] [(.ref t), (.ref a1)])) rfl rfl (hb hby d3_18) _ ?_
    rw [len_of S_t N_t]
    show Steps p.tables e below (T8.setTop (mkF m 19 #[.val (.ref a1), .val (.long q2), .second] [(.int (Int32.ofNat n)), (.ref a1)])) _
    refine st9 _ ?_
    show Steps p.tables e below (T9.setTop (mkF m 22 #[.val (.ref a1), .val (.long q2), .second] [])) _
    exact X9.returnOut hx Bd.returns (hb hby d3_22) hr
  · show Q3 Z a1 q2 t n f u_mark_a1 u_atOrBelowMark_a1 h0 n0 _ T9.heap _
    rw [e9]
    exact ⟨rfl, N9, K9, E_a1.keep K9, (((F_values_a1.keep K5q (by simp [hne])).other W6 (Or.inr (slot_ne (Or.inr (hw _ (List.mem_of_getElem? (i := 13) rfl))) (Or.inl (hw _ (List.mem_of_getElem? (i := 24) rfl))) (by decide) (t := (.array .long)) (t' := .long) (by decide) (by decide)))).other W9 (Or.inr (slot_ne (Or.inr (hw _ (List.mem_of_getElem? (i := 13) rfl))) (Or.inl (hw _ (List.mem_of_getElem? (i := 26) rfl))) (by decide) (t := (.array .long)) (t' := .int) (by decide) (by decide)))), (Fw6.other W9 (Or.inr (slot_ne (Or.inl (hw _ (List.mem_of_getElem? (i := 24) rfl))) (Or.inl (hw _ (List.mem_of_getElem? (i := 26) rfl))) (by decide) (t := .long) (t' := .int) (by decide) (by decide)))), Fw9, (V5q.other W6 hne.symm).other W9 hne.symm⟩
theorem d1_0 : decode prog_44_method_1_code 0 = .ok (.aload_n 0, 1) := by decide +kernel
theorem d1_1 : decode prog_44_method_1_code 1 = .ok (.invokespecial 1, 3) := by decide +kernel
theorem d1_4 : decode prog_44_method_1_code 4 = .ok (.iload_n 1, 1) := by decide +kernel
theorem d1_5 : decode prog_44_method_1_code 5 = .ok (.iconst 1, 1) := by decide +kernel
theorem d1_6 : decode prog_44_method_1_code 6 = .ok (.if_icmp .ge 17, 3) := by decide +kernel
theorem d1_23 : decode prog_44_method_1_code 23 = .ok (.aload_n 0, 1) := by decide +kernel
theorem d1_24 : decode prog_44_method_1_code 24 = .ok (.iload_n 1, 1) := by decide +kernel
theorem d1_25 : decode prog_44_method_1_code 25 = .ok (.newarray .long, 2) := by decide +kernel
theorem d1_27 : decode prog_44_method_1_code 27 = .ok (.putfield 16, 3) := by decide +kernel
theorem d1_30 : decode prog_44_method_1_code 30 = .ok (.aload_n 0, 1) := by decide +kernel
theorem d1_31 : decode prog_44_method_1_code 31 = .ok (.lload_n 2, 1) := by decide +kernel
theorem d1_32 : decode prog_44_method_1_code 32 = .ok (.invokevirtual 22, 3) := by decide +kernel
theorem d1_35 : decode prog_44_method_1_code 35 = .ok (.return_, 1) := by decide +kernel
theorem pn_1 : plainName "com/example/mullion/mullion/aggregators/FurthestBack" = true := by first | (simp [plainName, overriddenIn]; done) | decide +kernel
theorem pd_1_2 : parseMethodDescriptor "(J)V" = some ⟨[.long], none⟩ := by decide +kernel
theorem ef_1 (m : MethodId) (x0 : Addr) (x1 : Int32) (x2 : Int64) : entryFrame m #[(.ref x0), (.int x1), (.long x2)] 4 = mkF m 0 #[.val (.ref x0), .val (.int x1), .val (.long x2), .second] [] := by first | (simp [entryFrame, mkF, argsToLocals, Value.category]; done) | rfl
def Q1 (Z : State) (a1 : Addr) (p2 : Int32) (q3 : Int64) (n : Nat) (h0 : Heap) (n0 : Nat) (v : Option Value) (h : Heap) (L : List Loc) : Prop := v = none ∧ Fr n0 L ∧ Keep h0 h [a1] ∧ ∃ t, h0.size ≤ t ∧ Exa Z h a1 "com/example/mullion/mullion/aggregators/FurthestBack" ∧ Fld Z h a1 "com/example/mullion/mullion/aggregators/FurthestBack" "values" "[J" (.ref t) ∧ Fld Z h a1 "com/example/mullion/mullion/aggregators/FurthestBack" "mark" "J" (.long q3) ∧ Fld Z h a1 "com/example/mullion/mullion/aggregators/FurthestBack" "atOrBelowMark" "I" (.int p2) ∧ own_L Z h t n (fun _ => q3)
set_option maxRecDepth 65536 in
set_option maxHeartbeats 40000000 in
theorem rm1 (l : Launch) (Z : State) (a0 : Array Value) (hw : ∀ d ∈ tables_1, d.before a0 Z = true) (ws : List Jvm.Cond) (a1 : Addr) (p2 : Int32) (q3 : Int64) (n : Nat) (h0 : Heap) (n0 : Nat) (Z0 : n0 ≤ h0.size) (hn : n ≤ 3) (hp2 : p2 = Int32.ofNat n) (hc6 : ¬ (p2 < (1 : Int32))) (E_a1 : Exa Z h0 a1 "com/example/mullion/mullion/aggregators/FurthestBack") (F_values_a1 : Fld Z h0 a1 "com/example/mullion/mullion/aggregators/FurthestBack" "values" "[J" .null) (F_mark_a1 : Fld Z h0 a1 "com/example/mullion/mullion/aggregators/FurthestBack" "mark" "J" (.long (0 : Int64))) (F_atOrBelowMark_a1 : Fld Z h0 a1 "com/example/mullion/mullion/aggregators/FurthestBack" "atOrBelowMark" "I" (.int (0 : Int32))) (g_a1 : n0 ≤ a1) :
    MetFree l (⟨"com/example/mullion/mullion/aggregators/FurthestBack", "<init>", "(IJ)V"⟩ : MethodName) (head1 (Jvm.Cond.code (⟨"com/example/mullion/mullion/aggregators/FurthestBack", "<init>", "(IJ)V"⟩ : MethodName) prog_44_method_1_code 4 none :: ws) ({ frames := 2, cells := 1, slots := 3, locals := 30 } : Room)) (fun a U => a = #[(.ref a1), (.int p2), (.long q3)] ∧ Z.Warmed39 U.vm ∧ U.heap = h0) (fun _ _ _ _ _ => True) (fun _ U o U' => ∃ v L, o = .returned v ∧ Q1 Z a1 p2 q3 n h0 n0 v U'.heap L ∧ FrameEnd U o U' L ({ frames := 2, cells := 1, slots := 3, locals := 30 } : Room).cells ({ frames := 2, cells := 1, slots := 3, locals := 30 } : Room).slots) := by
  refine MetFree.of_bodySF (plainFor_of_name pn_1) hisR ?_
  intro p e s m args below meth c s₁ Bd hml0 hP hK
  obtain ⟨rfl, hZ, hh⟩ := hP
  have hx := Bd.exec
  have hby := Bd.bytes
  have hml : c.maxLocals = 4 := hml0
  have hown : s.vm.findClass "com/example/mullion/mullion/aggregators/FurthestBack" = some m.cls := findClass_of_methodNamed Bd.named
  have hnm := (name_of_methodNamed Bd.named Bd.method).1
  have X0 : Stand p l e ({ frames := 2, cells := 1, slots := 3, locals := 30 } : Room) s m #[(.ref a1), (.int p2), (.long q3)] below meth c s₁ [] 0 0 := Stand.of_body Bd
  have e0 : s₁.heap = h0 := by rw [← hh, Bd.state]; rfl
  have N0 := Fr.nil n0
  have pre0 : ∀ t, Steps p.tables e below (s₁.setTop (mkF m 0 #[.val (.ref a1), .val (.int p2), .val (.long q3), .second] [])) t → Steps p.tables e below (s₁.setTop (entryFrame m #[(.ref a1), (.int p2), (.long q3)] 4)) t := fun t k => castTop (ef_1 m a1 p2 q3) k
  have hneg : ¬ p2 < 0 := by rw [hp2]; exact own_nn hn
  have hcap : p2.toNatClampNeg = n := by rw [hp2]; exact own_n32 hn
  obtain ⟨T4, X4, e4, st4⟩ := initO X0 hx hZ hown (hw _ (List.mem_of_getElem? (i := 8) rfl)) (hw _ (List.mem_of_getElem? (i := 9) rfl)) (hw _ (List.mem_of_getElem? (i := 10) rfl)) e0 (g := (mkF m 1 #[.val (.ref a1), .val (.int p2), .val (.long q3), .second] [(.ref a1)])) rfl (by rw [hml]; rfl) rfl (hb hby d1_1) (by decide) (W := 0) (by show 2 * 0 + _ ≤ _; exact Nat.le_of_eq rfl) (by decide)
  obtain ⟨T5, h5, k5, X5, e5, E5, A5, st5⟩ := newP X4 hx hZ (hw _ (List.mem_of_getElem? (i := 11) rfl)) e4 (g := (mkF m 25 #[.val (.ref a1), .val (.int p2), .val (.long q3), .second] [(.int p2), (.ref a1)])) rfl (hb hby d1_25) rfl hneg (cap := 3) (by rw [hcap]; exact hn) (by decide) (by decide) (by decide)
  obtain ⟨b5, g5⟩ : ∃ z, z = h0.size := ⟨_, rfl⟩
  rw [← g5] at A5 st5
  have V_b5 := Arv.new A5 hneg
  have g_b5 : n0 ≤ b5 := Nat.le_trans Z0 (Nat.le_of_eq g5.symm)
  have sz_b5 : h0.size ≤ b5 := (Nat.le_trans (Keep.refl h0 [a1]).1 (Nat.le_of_eq g5.symm))
  have K5 : Keep h0 h5 [a1] := (Keep.refl h0 [a1]).ext E5
  obtain ⟨T6, h6, X6, e6, W6, st6⟩ := putF X5 hx hZ hown (host := "") (Or.inl (hw _ (List.mem_of_getElem? (i := 12) rfl))) Via.refl e5 (F_values_a1.ext E5) (E_a1.ext E5) (Or.inr ⟨(hw _ (List.mem_of_getElem? (i := 13) rfl)), rfl, hnm⟩) (hw _ (List.mem_of_getElem? (i := 2) rfl)) (ty := (.array .long)) (by decide) rfl rfl (g := (mkF m 27 #[.val (.ref a1), .val (.int p2), .val (.long q3), .second] [(.ref b5), (.ref a1)])) rfl rfl (hb hby d1_27)
  have Fw6 := (F_values_a1.ext E5).same W6
  have K6 : Keep h0 h6 [a1] := K5.wr W6 (Or.inl (List.mem_of_getElem? (i := 0) rfl))
  have N6 := Fr.snoc X6 N0 g_a1
  have hne : a1 ≠ b5 := Nat.ne_of_lt (Nat.lt_of_lt_of_le E_a1.lt (Nat.le_of_eq g5.symm))
  obtain ⟨cq7, kq7, q7a, q7b, q7c⟩ := isOf hZ e6 ((E_a1.ext E5).wr W6)
  obtain ⟨_, _, ⟨T7, L7, k7, n7⟩, -, X7, ⟨Lc7, hQ7, l7, y7, z7⟩, st7⟩ := X6.virtualBack hx (y := (⟨"com/example/mullion/mullion/aggregators/FurthestBack", "reset", "(J)V"⟩ : MethodName)) (z := (⟨"com/example/mullion/mullion/aggregators/FurthestBack", "reset", "(J)V"⟩ : MethodName)) hown (mvT hZ (hw _ (List.mem_of_getElem? (i := 14) rfl))) (mvT hZ (hw _ (List.mem_of_getElem? (i := 15) rfl))) (notFace_of_selects (args := #[]) (mvT hZ (hw _ (List.mem_of_getElem? (i := 17) rfl)))) (mvT hZ (hw _ (List.mem_of_getElem? (i := 17) rfl))) (mvT hZ (hw _ (List.mem_of_getElem? (i := 16) rfl))) (by decide) (backOf (W := 0) (rm3 l Z a0 hw [] a1 q3 b5 n (fun _ => 0) (.long (0 : Int64)) (.int (0 : Int32)) h6 n0 (Nat.le_trans Z0 K6.1) hn ((E_a1.ext E5).wr W6) Fw6 ((F_mark_a1.ext E5).other W6 (Or.inr (slot_ne (Or.inl (hw _ (List.mem_of_getElem? (i := 24) rfl))) (Or.inr (hw _ (List.mem_of_getElem? (i := 13) rfl))) (by decide) (t := .long) (t' := (.array .long)) (by decide) (by decide)))) ((F_atOrBelowMark_a1.ext E5).other W6 (Or.inr (slot_ne (Or.inl (hw _ (List.mem_of_getElem? (i := 26) rfl))) (Or.inr (hw _ (List.mem_of_getElem? (i := 13) rfl))) (by decide) (t := .int) (t' := (.array .long)) (by decide) (by decide)))) ((own_L.of V_b5 hcap).other W6 hne.symm) hne g_a1 g_b5) hZ (hw _ (List.mem_of_getElem? (i := 18) rfl)) (hw _ (List.mem_of_getElem? (i := 3) rfl)) (by decide) (by decide)) q7a q7c (g := (mkF m 32 #[.val (.ref a1), .val (.int p2), .val (.long q3), .second] [(.long q3), (.ref a1)])) rfl (by rw [hml]; rfl) (Steps.refl _) (argsL := [(.long q3)]) (rest := []) (lenOf pd_1_2 rfl) rfl (by show 2 * 0 + _ ≤ _; exact Nat.le_of_eq rfl) (hb hby d1_32) (fun _ _ => ⟨rfl, e6, (by decide : 1 + 0 ≤ _), (by decide : 3 + 0 ≤ _)⟩)
  dsimp only [Pt.U, Pt.locs, Pt.cells, Pt.slots] at X7 l7 y7 z7 st7 hQ7
  subst l7 y7 z7
  obtain ⟨rfl, N7q, K7q, E7q, Fv7q, Fm7q, Fa7q, V7q⟩ := hQ7
  have N7 := Fr.app N6 N7q
  have K7 : Keep h0 T7.heap [a1] := K6.trans K7q (fun x hx => by simp at hx; rcases hx with rfl | rfl; exact Or.inl (by simp); exact Or.inr sz_b5)
  obtain ⟨fs, hr, hrun, hended, hW, hsame⟩ := X7.leave (v := none) (fun _ => rfl)
  refine ⟨_, _, pre0 _ ?_, hrun, hended, _, _, rfl, ?_, ⟨_, rfl⟩, hW, hsame.mono (by decide) (by decide)⟩
  · show Steps p.tables e below (s₁.setTop (mkF m 0 #[.val (.ref a1), .val (.int p2), .val (.long q3), .second] [])) _
    refine XS.aloadN X0.here hx rfl (hb hby d1_0) rfl rfl ?_
    show Steps p.tables e below (s₁.setTop (mkF m 1 #[.val (.ref a1), .val (.int p2), .val (.long q3), .second] [(.ref a1)])) _
    refine st4 _ ?_
    show Steps p.tables e below (T4.setTop (mkF m 4 #[.val (.ref a1), .val (.int p2), .val (.long q3), .second] [])) _
    refine XS.iloadN X4.here hx rfl (hb hby d1_4) rfl ?_
    show Steps p.tables e below (T4.setTop (mkF m 5 #[.val (.ref a1), .val (.int p2), .val (.long q3), .second] [(.int p2)])) _
    refine XS.iconst X4.here hx rfl (hb hby d1_5) ?_
    show Steps p.tables e below (T4.setTop (mkF m 6 #[.val (.ref a1), .val (.int p2), .val (.long q3), .second] [(.int (1 : Int32)), (.int p2)])) _
    refine XS.icmpYes X4.here hx rfl (pc0 := 6) (pc' := 23) rfl (hb hby d1_6) rfl (flt hc6).2.1 (by decide) (by decide) ?_
    show Steps p.tables e below (T4.setTop (mkF m 23 #[.val (.ref a1), .val (.int p2), .val (.long q3), .second] [])) _
    refine XS.aloadN X4.here hx rfl (hb hby d1_23) rfl rfl ?_
    show Steps p.tables e below (T4.setTop (mkF m 24 #[.val (.ref a1), .val (.int p2), .val (.long q3), .second] [(.ref a1)])) _
    refine XS.iloadN X4.here hx rfl (hb hby d1_24) rfl ?_
    show Steps p.tables e below (T4.setTop (mkF m 25 #[.val (.ref a1), .val (.int p2), .val (.long q3), .second] [(.int p2), (.ref a1)])) _
    refine st5 _ ?_
    show Steps p.tables e below (T5.setTop (mkF m 27 #[.val (.ref a1), .val (.int p2), .val (.long q3), .second] [(.ref b5), (.ref a1)])) _
    refine st6 _ ?_
    show Steps p.tables e below (T6.setTop (mkF m 30 #[.val (.ref a1), .val (.int p2), .val (.long q3), .second] [])) _
    refine XS.aloadN X6.here hx rfl (hb hby d1_30) rfl rfl ?_
    show Steps p.tables e below (T6.setTop (mkF m 31 #[.val (.ref a1), .val (.int p2), .val (.long q3), .second] [(.ref a1)])) _
    refine XS.lloadN X6.here hx rfl (hb hby d1_31) rfl ?_
    show Steps p.tables e below (T6.setTop (mkF m 32 #[.val (.ref a1), .val (.int p2), .val (.long q3), .second] [(.long q3), (.ref a1)])) _
    refine st7.trans ?_
    show Steps p.tables e below (T7.setTop (mkF m 35 #[.val (.ref a1), .val (.int p2), .val (.long q3), .second] [])) _
    exact X7.returnOut hx Bd.returns (hb hby d1_35) hr
  · show Q1 Z a1 p2 q3 n h0 n0 _ T7.heap _
    exact ⟨rfl, N7, K7, b5, sz_b5, E7q, Fv7q, Fm7q, by rw [hp2]; exact Fa7q, V7q⟩
def Q5 (Z : State) (a1 : Addr) (p2 : Int32) (q3 : Int64) (t : Addr) (n : Nat) (f : Nat → Int64) (i : Nat) (w7 : Int64) (w10 : Int32) (h0 : Heap) (n0 : Nat) (v : Option Value) (h : Heap) (L : List Loc) : Prop := v = none ∧ Fr n0 L ∧ Keep h0 h [a1, t] ∧ Exa Z h a1 "com/example/mullion/mullion/aggregators/FurthestBack" ∧ Fld Z h a1 "com/example/mullion/mullion/aggregators/FurthestBack" "values" "[J" (.ref t) ∧ Fld Z h a1 "com/example/mullion/mullion/aggregators/FurthestBack" "mark" "J" (.long w7) ∧ Fld Z h a1 "com/example/mullion/mullion/aggregators/FurthestBack" "atOrBelowMark" "I" (.int (own_mv (f i) q3 w7 w10)) ∧ own_L Z h t n (fun j => if j = i then q3 else f j)
theorem d5_0 : decode prog_44_method_5_code 0 = .ok (.aload_n 0, 1) := by decide +kernel
theorem d5_1 : decode prog_44_method_5_code 1 = .ok (.getfield 16, 3) := by decide +kernel
theorem d5_4 : decode prog_44_method_5_code 4 = .ok (.iload_n 1, 1) := by decide +kernel
theorem d5_5 : decode prog_44_method_5_code 5 = .ok (.laload, 1) := by decide +kernel
theorem d5_6 : decode prog_44_method_5_code 6 = .ok (.aload_n 0, 1) := by decide +kernel
theorem d5_7 : decode prog_44_method_5_code 7 = .ok (.getfield 32, 3) := by decide +kernel
theorem d5_10 : decode prog_44_method_5_code 10 = .ok (.lcmp, 1) := by decide +kernel
theorem d5_11 : decode prog_44_method_5_code 11 = .ok (.ifCond .gt 22, 3) := by decide +kernel
theorem d5_33 : decode prog_44_method_5_code 33 = .ok (.aload_n 0, 1) := by decide +kernel
theorem d5_34 : decode prog_44_method_5_code 34 = .ok (.getfield 16, 3) := by decide +kernel
theorem d5_37 : decode prog_44_method_5_code 37 = .ok (.iload_n 1, 1) := by decide +kernel
theorem d5_38 : decode prog_44_method_5_code 38 = .ok (.lload_n 2, 1) := by decide +kernel
theorem d5_39 : decode prog_44_method_5_code 39 = .ok (.lastore, 1) := by decide +kernel
theorem d5_40 : decode prog_44_method_5_code 40 = .ok (.return_, 1) := by decide +kernel
theorem pn_5 : plainName "com/example/mullion/mullion/aggregators/FurthestBack" = true := by first | (simp [plainName, overriddenIn]; done) | decide +kernel
theorem ef_5 (m : MethodId) (x0 : Addr) (x1 : Int32) (x2 : Int64) : entryFrame m #[(.ref x0), (.int x1), (.long x2)] 4 = mkF m 0 #[.val (.ref x0), .val (.int x1), .val (.long x2), .second] [] := by first | (simp [entryFrame, mkF, argsToLocals, Value.category]; done) | rfl
set_option maxRecDepth 65536 in
set_option maxHeartbeats 40000000 in
theorem rm5_t (l : Launch) (Z : State) (a0 : Array Value) (hw : ∀ d ∈ tables_1, d.before a0 Z = true) (ws : List Jvm.Cond) (a1 : Addr) (p2 : Int32) (q3 : Int64) (t : Addr) (n : Nat) (f : Nat → Int64) (i : Nat) (w7 : Int64) (w10 : Int32) (h0 : Heap) (n0 : Nat) (Z0 : n0 ≤ h0.size) (hi : p2.toNatClampNeg = i) (hin : i < n) (hp : ¬ p2 < 0) (E_a1 : Exa Z h0 a1 "com/example/mullion/mullion/aggregators/FurthestBack") (F_values_a1 : Fld Z h0 a1 "com/example/mullion/mullion/aggregators/FurthestBack" "values" "[J" (.ref t)) (F_mark_a1 : Fld Z h0 a1 "com/example/mullion/mullion/aggregators/FurthestBack" "mark" "J" (.long w7)) (F_atOrBelowMark_a1 : Fld Z h0 a1 "com/example/mullion/mullion/aggregators/FurthestBack" "atOrBelowMark" "I" (.int w10)) (V : own_L Z h0 t n f) (hne : a1 ≠ t) (g_a1 : n0 ≤ a1) (g_t : n0 ≤ t) (hc11 : (0 : Int32) < (lcmpW (f i) w7)) :
    MetFree l (⟨"com/example/mullion/mullion/aggregators/FurthestBack", "moveOn", "(IJ)V"⟩ : MethodName) (head1 (Jvm.Cond.code (⟨"com/example/mullion/mullion/aggregators/FurthestBack", "moveOn", "(IJ)V"⟩ : MethodName) prog_44_method_5_code 4 none :: ws) ({ frames := 0, cells := 0, slots := 0, locals := 0 } : Room)) (fun a U => a = #[(.ref a1), (.int p2), (.long q3)] ∧ Z.Warmed39 U.vm ∧ U.heap = h0) (fun _ _ _ _ _ => True) (fun _ U o U' => ∃ v L, o = .returned v ∧ Q5 Z a1 p2 q3 t n f i w7 w10 h0 n0 v U'.heap L ∧ FrameEnd U o U' L ({ frames := 0, cells := 0, slots := 0, locals := 0 } : Room).cells ({ frames := 0, cells := 0, slots := 0, locals := 0 } : Room).slots) := by
  refine MetFree.of_bodySF (plainFor_of_name pn_5) hisR ?_
  intro p e s m args below meth c s₁ Bd hml0 hP hK
  obtain ⟨rfl, hZ, hh⟩ := hP
  have hx := Bd.exec
  have hby := Bd.bytes
  have hml : c.maxLocals = 4 := hml0
  have hown : s.vm.findClass "com/example/mullion/mullion/aggregators/FurthestBack" = some m.cls := findClass_of_methodNamed Bd.named
  have hnm := (name_of_methodNamed Bd.named Bd.method).1
  have X0 : Stand p l e ({ frames := 0, cells := 0, slots := 0, locals := 0 } : Room) s m #[(.ref a1), (.int p2), (.long q3)] below meth c s₁ [] 0 0 := Stand.of_body Bd
  have e0 : s₁.heap = h0 := by rw [← hh, Bd.state]; rfl
  have N0 := Fr.nil n0
  have pre0 : ∀ t, Steps p.tables e below (s₁.setTop (mkF m 0 #[.val (.ref a1), .val (.int p2), .val (.long q3), .second] [])) t → Steps p.tables e below (s₁.setTop (entryFrame m #[(.ref a1), (.int p2), (.long q3)] 4)) t := fun t k => castTop (ef_5 m a1 p2 q3) k
  obtain ⟨cl_t, Ar_t, S_q, H_q⟩ := V
  have hin5 : ¬ (p2 < 0 ∨ cl_t.slots.size ≤ p2.toNatClampNeg) := by rw [S_q, hi]; exact fun q => q.elim hp (fun q => by omega)
  have hin39 := hin5
  have hat5 : cl_t.slots[p2.toNatClampNeg]? = some (.long (f i)) := by rw [hi]; exact H_q i hin
  obtain ⟨T5, X5, e5, st5⟩ := getF X0 hx hZ hown (host := "") (Or.inl (hw _ (List.mem_of_getElem? (i := 12) rfl))) Via.refl e0 F_values_a1 (g := (mkF m 1 #[.val (.ref a1), .val (.int p2), .val (.long q3), .second] [(.ref a1)])) rfl rfl (hb hby d5_1)
  obtain ⟨T8, X8, e8, st8⟩ := getF X5 hx hZ hown (host := "") (Or.inl (hw _ (List.mem_of_getElem? (i := 23) rfl))) Via.refl e5 F_mark_a1 (g := (mkF m 7 #[.val (.ref a1), .val (.int p2), .val (.long q3), .second] [(.ref a1), (.long (f i))])) rfl rfl (hb hby d5_7)
  obtain ⟨T9, X9, e9, st9⟩ := getF X8 hx hZ hown (host := "") (Or.inl (hw _ (List.mem_of_getElem? (i := 12) rfl))) Via.refl e8 F_values_a1 (g := (mkF m 34 #[.val (.ref a1), .val (.int p2), .val (.long q3), .second] [(.ref a1)])) rfl rfl (hb hby d5_34)
  obtain ⟨T10, h10, X10, e10, W10, st10⟩ := stJ X9 hx hZ e9 Ar_t (j := p2) hin39 (g := (mkF m 39 #[.val (.ref a1), .val (.int p2), .val (.long q3), .second] [(.long q3), (.int p2), (.ref t)])) rfl rfl (hb hby d5_39)
  have N10 := Fr.snoc X10 N0 g_t
  have W10i := W10
  rw [hi] at W10i
  have K10 : Keep h0 h10 [a1, t] := (Keep.refl h0 [a1, t]).wr W10 (Or.inl (by simp))
  obtain ⟨fs, hr, hrun, hended, hW, hsame⟩ := X10.leave (v := none) (fun _ => rfl)
  refine ⟨_, _, pre0 _ ?_, hrun, hended, _, _, rfl, ?_, ⟨_, rfl⟩, hW, hsame.mono (by decide) (by decide)⟩
  · show Steps p.tables e below (s₁.setTop (mkF m 0 #[.val (.ref a1), .val (.int p2), .val (.long q3), .second] [])) _
    refine XS.aloadN X0.here hx rfl (hb hby d5_0) rfl rfl ?_
    show Steps p.tables e below (s₁.setTop (mkF m 1 #[.val (.ref a1), .val (.int p2), .val (.long q3), .second] [(.ref a1)])) _
    refine st5 _ ?_
    show Steps p.tables e below (T5.setTop (mkF m 4 #[.val (.ref a1), .val (.int p2), .val (.long q3), .second] [(.ref t)])) _
    refine XS.iloadN X5.here hx rfl (hb hby d5_4) rfl ?_
    show Steps p.tables e below (T5.setTop (mkF m 5 #[.val (.ref a1), .val (.int p2), .val (.long q3), .second] [(.int p2), (.ref t)])) _
    refine X5.laload hx (j := p2) (v := (.long (f i))) (by rw [e5]; exact Ar_t.1) (State.isArrayOf_alike hZ.alike Ar_t.2.1) Ar_t.2.2 hin5 hat5 (g := (mkF m 5 #[.val (.ref a1), .val (.int p2), .val (.long q3), .second] [(.int p2), (.ref t)])) rfl rfl (hb hby d5_5) _ ?_
    show Steps p.tables e below (T5.setTop (mkF m 6 #[.val (.ref a1), .val (.int p2), .val (.long q3), .second] [(.long (f i))])) _
    refine XS.aloadN X5.here hx rfl (hb hby d5_6) rfl rfl ?_
    show Steps p.tables e below (T5.setTop (mkF m 7 #[.val (.ref a1), .val (.int p2), .val (.long q3), .second] [(.ref a1), (.long (f i))])) _
    refine st8 _ ?_
    show Steps p.tables e below (T8.setTop (mkF m 10 #[.val (.ref a1), .val (.int p2), .val (.long q3), .second] [(.long w7), (.long (f i))])) _
    refine XS.lcmp X8.here hx rfl (hb hby d5_10) rfl ?_
    show Steps p.tables e below (T8.setTop (mkF m 11 #[.val (.ref a1), .val (.int p2), .val (.long q3), .second] [(.int (lcmpW (f i) w7))])) _
    refine XS.ifYes X8.here hx rfl (pc0 := 11) (pc' := 33) rfl (hb hby d5_11) rfl ((if0 _ _).trans (tlt hc11).2.2.1) (by decide) (by decide) ?_
    show Steps p.tables e below (T8.setTop (mkF m 33 #[.val (.ref a1), .val (.int p2), .val (.long q3), .second] [])) _
    refine XS.aloadN X8.here hx rfl (hb hby d5_33) rfl rfl ?_
    show Steps p.tables e below (T8.setTop (mkF m 34 #[.val (.ref a1), .val (.int p2), .val (.long q3), .second] [(.ref a1)])) _
    refine st9 _ ?_
    show Steps p.tables e below (T9.setTop (mkF m 37 #[.val (.ref a1), .val (.int p2), .val (.long q3), .second] [(.ref t)])) _
    refine XS.iloadN X9.here hx rfl (hb hby d5_37) rfl ?_
    show Steps p.tables e below (T9.setTop (mkF m 38 #[.val (.ref a1), .val (.int p2), .val (.long q3), .second] [(.int p2), (.ref t)])) _
    refine XS.lloadN X9.here hx rfl (hb hby d5_38) rfl ?_
    show Steps p.tables e below (T9.setTop (mkF m 39 #[.val (.ref a1), .val (.int p2), .val (.long q3), .second] [(.long q3), (.int p2), (.ref t)])) _
    refine st10 _ ?_
    show Steps p.tables e below (T10.setTop (mkF m 40 #[.val (.ref a1), .val (.int p2), .val (.long q3), .second] [])) _
    exact X10.returnOut hx Bd.returns (hb hby d5_40) hr
  · show Q5 Z a1 p2 q3 t n f i w7 w10 h0 n0 _ T10.heap _
    rw [e10]
    exact ⟨rfl, N10, K10, E_a1.keep K10, (F_values_a1.other W10 (Or.inl hne)), (F_mark_a1.other W10 (Or.inl hne)), (by unfold own_mv; rw [if_pos hc11]; exact (F_atOrBelowMark_a1.other W10 (Or.inl hne))), own_L.set Ar_t S_q H_q W10i⟩
theorem d5_14 : decode prog_44_method_5_code 14 = .ok (.lload_n 2, 1) := by decide +kernel
theorem d5_15 : decode prog_44_method_5_code 15 = .ok (.aload_n 0, 1) := by decide +kernel
theorem d5_16 : decode prog_44_method_5_code 16 = .ok (.getfield 32, 3) := by decide +kernel
theorem d5_19 : decode prog_44_method_5_code 19 = .ok (.lcmp, 1) := by decide +kernel
theorem d5_20 : decode prog_44_method_5_code 20 = .ok (.ifCond .le 13, 3) := by decide +kernel
set_option maxRecDepth 65536 in
set_option maxHeartbeats 40000000 in
theorem rm5_ft (l : Launch) (Z : State) (a0 : Array Value) (hw : ∀ d ∈ tables_1, d.before a0 Z = true) (ws : List Jvm.Cond) (a1 : Addr) (p2 : Int32) (q3 : Int64) (t : Addr) (n : Nat) (f : Nat → Int64) (i : Nat) (w7 : Int64) (w10 : Int32) (h0 : Heap) (n0 : Nat) (Z0 : n0 ≤ h0.size) (hi : p2.toNatClampNeg = i) (hin : i < n) (hp : ¬ p2 < 0) (E_a1 : Exa Z h0 a1 "com/example/mullion/mullion/aggregators/FurthestBack") (F_values_a1 : Fld Z h0 a1 "com/example/mullion/mullion/aggregators/FurthestBack" "values" "[J" (.ref t)) (F_mark_a1 : Fld Z h0 a1 "com/example/mullion/mullion/aggregators/FurthestBack" "mark" "J" (.long w7)) (F_atOrBelowMark_a1 : Fld Z h0 a1 "com/example/mullion/mullion/aggregators/FurthestBack" "atOrBelowMark" "I" (.int w10)) (V : own_L Z h0 t n f) (hne : a1 ≠ t) (g_a1 : n0 ≤ a1) (g_t : n0 ≤ t) (hc11 : ¬ ((0 : Int32) < (lcmpW (f i) w7))) (hc20 : ¬ ((0 : Int32) < (lcmpW q3 w7))) :
    MetFree l (⟨"com/example/mullion/mullion/aggregators/FurthestBack", "moveOn", "(IJ)V"⟩ : MethodName) (head1 (Jvm.Cond.code (⟨"com/example/mullion/mullion/aggregators/FurthestBack", "moveOn", "(IJ)V"⟩ : MethodName) prog_44_method_5_code 4 none :: ws) ({ frames := 0, cells := 0, slots := 0, locals := 0 } : Room)) (fun a U => a = #[(.ref a1), (.int p2), (.long q3)] ∧ Z.Warmed39 U.vm ∧ U.heap = h0) (fun _ _ _ _ _ => True) (fun _ U o U' => ∃ v L, o = .returned v ∧ Q5 Z a1 p2 q3 t n f i w7 w10 h0 n0 v U'.heap L ∧ FrameEnd U o U' L ({ frames := 0, cells := 0, slots := 0, locals := 0 } : Room).cells ({ frames := 0, cells := 0, slots := 0, locals := 0 } : Room).slots) := by
  refine MetFree.of_bodySF (plainFor_of_name pn_5) hisR ?_
  intro p e s m args below meth c s₁ Bd hml0 hP hK
  obtain ⟨rfl, hZ, hh⟩ := hP
  have hx := Bd.exec
  have hby := Bd.bytes
  have hml : c.maxLocals = 4 := hml0
  have hown : s.vm.findClass "com/example/mullion/mullion/aggregators/FurthestBack" = some m.cls := findClass_of_methodNamed Bd.named
  have hnm := (name_of_methodNamed Bd.named Bd.method).1
  have X0 : Stand p l e ({ frames := 0, cells := 0, slots := 0, locals := 0 } : Room) s m #[(.ref a1), (.int p2), (.long q3)] below meth c s₁ [] 0 0 := Stand.of_body Bd
  have e0 : s₁.heap = h0 := by rw [← hh, Bd.state]; rfl
  have N0 := Fr.nil n0
  have pre0 : ∀ t, Steps p.tables e below (s₁.setTop (mkF m 0 #[.val (.ref a1), .val (.int p2), .val (.long q3), .second] [])) t → Steps p.tables e below (s₁.setTop (entryFrame m #[(.ref a1), (.int p2), (.long q3)] 4)) t := fun t k => castTop (ef_5 m a1 p2 q3) k
  obtain ⟨cl_t, Ar_t, S_q, H_q⟩ := V
  have hin5 : ¬ (p2 < 0 ∨ cl_t.slots.size ≤ p2.toNatClampNeg) := by rw [S_q, hi]; exact fun q => q.elim hp (fun q => by omega)
  have hin39 := hin5
  have hat5 : cl_t.slots[p2.toNatClampNeg]? = some (.long (f i)) := by rw [hi]; exact H_q i hin
  obtain ⟨T5, X5, e5, st5⟩ := getF X0 hx hZ hown (host := "") (Or.inl (hw _ (List.mem_of_getElem? (i := 12) rfl))) Via.refl e0 F_values_a1 (g := (mkF m 1 #[.val (.ref a1), .val (.int p2), .val (.long q3), .second] [(.ref a1)])) rfl rfl (hb hby d5_1)
  obtain ⟨T8, X8, e8, st8⟩ := getF X5 hx hZ hown (host := "") (Or.inl (hw _ (List.mem_of_getElem? (i := 23) rfl))) Via.refl e5 F_mark_a1 (g := (mkF m 7 #[.val (.ref a1), .val (.int p2), .val (.long q3), .second] [(.ref a1), (.long (f i))])) rfl rfl (hb hby d5_7)
  obtain ⟨T9, X9, e9, st9⟩ := getF X8 hx hZ hown (host := "") (Or.inl (hw _ (List.mem_of_getElem? (i := 23) rfl))) Via.refl e8 F_mark_a1 (g := (mkF m 16 #[.val (.ref a1), .val (.int p2), .val (.long q3), .second] [(.ref a1), (.long q3)])) rfl rfl (hb hby d5_16)
  obtain ⟨T10, X10, e10, st10⟩ := getF X9 hx hZ hown (host := "") (Or.inl (hw _ (List.mem_of_getElem? (i := 12) rfl))) Via.refl e9 F_values_a1 (g := (mkF m 34 #[.val (.ref a1), .val (.int p2), .val (.long q3), .second] [(.ref a1)])) rfl rfl (hb hby d5_34)
  obtain ⟨T11, h11, X11, e11, W11, st11⟩ := stJ X10 hx hZ e10 Ar_t (j := p2) hin39 (g := (mkF m 39 #[.val (.ref a1), .val (.int p2), .val (.long q3), .second] [(.long q3), (.int p2), (.ref t)])) rfl rfl (hb hby d5_39)
  have N11 := Fr.snoc X11 N0 g_t
  have W11i := W11
  rw [hi] at W11i
  have K11 : Keep h0 h11 [a1, t] := (Keep.refl h0 [a1, t]).wr W11 (Or.inl (by simp))
  obtain ⟨fs, hr, hrun, hended, hW, hsame⟩ := X11.leave (v := none) (fun _ => rfl)
  refine ⟨_, _, pre0 _ ?_, hrun, hended, _, _, rfl, ?_, ⟨_, rfl⟩, hW, hsame.mono (by decide) (by decide)⟩
  · show Steps p.tables e below (s₁.setTop (mkF m 0 #[.val (.ref a1), .val (.int p2), .val (.long q3), .second] [])) _
    refine XS.aloadN X0.here hx rfl (hb hby d5_0) rfl rfl ?_
    show Steps p.tables e below (s₁.setTop (mkF m 1 #[.val (.ref a1), .val (.int p2), .val (.long q3), .second] [(.ref a1)])) _
    refine st5 _ ?_
    show Steps p.tables e below (T5.setTop (mkF m 4 #[.val (.ref a1), .val (.int p2), .val (.long q3), .second] [(.ref t)])) _
    refine XS.iloadN X5.here hx rfl (hb hby d5_4) rfl ?_
    show Steps p.tables e below (T5.setTop (mkF m 5 #[.val (.ref a1), .val (.int p2), .val (.long q3), .second] [(.int p2), (.ref t)])) _
    refine X5.laload hx (j := p2) (v := (.long (f i))) (by rw [e5]; exact Ar_t.1) (State.isArrayOf_alike hZ.alike Ar_t.2.1) Ar_t.2.2 hin5 hat5 (g := (mkF m 5 #[.val (.ref a1), .val (.int p2), .val (.long q3), .second] [(.int p2), (.ref t)])) rfl rfl (hb hby d5_5) _ ?_
    show Steps p.tables e below (T5.setTop (mkF m 6 #[.val (.ref a1), .val (.int p2), .val (.long q3), .second] [(.long (f i))])) _
    refine XS.aloadN X5.here hx rfl (hb hby d5_6) rfl rfl ?_
    show Steps p.tables e below (T5.setTop (mkF m 7 #[.val (.ref a1), .val (.int p2), .val (.long q3), .second] [(.ref a1), (.long (f i))])) _
    refine st8 _ ?_
    show Steps p.tables e below (T8.setTop (mkF m 10 #[.val (.ref a1), .val (.int p2), .val (.long q3), .second] [(.long w7), (.long (f i))])) _
    refine XS.lcmp X8.here hx rfl (hb hby d5_10) rfl ?_
    show Steps p.tables e below (T8.setTop (mkF m 11 #[.val (.ref a1), .val (.int p2), .val (.long q3), .second] [(.int (lcmpW (f i) w7))])) _
    refine XS.ifNo X8.here hx rfl (hb hby d5_11) rfl ((if0 _ _).trans (flt hc11).2.2.1) ?_
    show Steps p.tables e below (T8.setTop (mkF m 14 #[.val (.ref a1), .val (.int p2), .val (.long q3), .second] [])) _
    refine XS.lloadN X8.here hx rfl (hb hby d5_14) rfl ?_
    show Steps p.tables e below (T8.setTop (mkF m 15 #[.val (.ref a1), .val (.int p2), .val (.long q3), .second] [(.long q3)])) _
    refine XS.aloadN X8.here hx rfl (hb hby d5_15) rfl rfl ?_
    show Steps p.tables e below (T8.setTop (mkF m 16 #[.val (.ref a1), .val (.int p2), .val (.long q3), .second] [(.ref a1), (.long q3)])) _
    refine st9 _ ?_
    show Steps p.tables e below (T9.setTop (mkF m 19 #[.val (.ref a1), .val (.int p2), .val (.long q3), .second] [(.long w7), (.long q3)])) _
    refine XS.lcmp X9.here hx rfl (hb hby d5_19) rfl ?_
    show Steps p.tables e below (T9.setTop (mkF m 20 #[.val (.ref a1), .val (.int p2), .val (.long q3), .second] [(.int (lcmpW q3 w7))])) _
    refine XS.ifYes X9.here hx rfl (pc0 := 20) (pc' := 33) rfl (hb hby d5_20) rfl ((if0 _ _).trans (flt hc20).2.2.2) (by decide) (by decide) ?_
    show Steps p.tables e below (T9.setTop (mkF m 33 #[.val (.ref a1), .val (.int p2), .val (.long q3), .second] [])) _
    refine XS.aloadN X9.here hx rfl (hb hby d5_33) rfl rfl ?_
    show Steps p.tables e below (T9.setTop (mkF m 34 #[.val (.ref a1), .val (.int p2), .val (.long q3), .second] [(.ref a1)])) _
    refine st10 _ ?_
    show Steps p.tables e below (T10.setTop (mkF m 37 #[.val (.ref a1), .val (.int p2), .val (.long q3), .second] [(.ref t)])) _
    refine XS.iloadN X10.here hx rfl (hb hby d5_37) rfl ?_
    show Steps p.tables e below (T10.setTop (mkF m 38 #[.val (.ref a1), .val (.int p2), .val (.long q3), .second] [(.int p2), (.ref t)])) _
    refine XS.lloadN X10.here hx rfl (hb hby d5_38) rfl ?_
    show Steps p.tables e below (T10.setTop (mkF m 39 #[.val (.ref a1), .val (.int p2), .val (.long q3), .second] [(.long q3), (.int p2), (.ref t)])) _
    refine st11 _ ?_
    show Steps p.tables e below (T11.setTop (mkF m 40 #[.val (.ref a1), .val (.int p2), .val (.long q3), .second] [])) _
    exact X11.returnOut hx Bd.returns (hb hby d5_40) hr
  · show Q5 Z a1 p2 q3 t n f i w7 w10 h0 n0 _ T11.heap _
    rw [e11]
    exact ⟨rfl, N11, K11, E_a1.keep K11, (F_values_a1.other W11 (Or.inl hne)), (F_mark_a1.other W11 (Or.inl hne)), (by unfold own_mv; rw [if_neg hc11, if_neg hc20]; exact (F_atOrBelowMark_a1.other W11 (Or.inl hne))), own_L.set Ar_t S_q H_q W11i⟩
theorem d5_23 : decode prog_44_method_5_code 23 = .ok (.aload_n 0, 1) := by decide +kernel
theorem d5_24 : decode prog_44_method_5_code 24 = .ok (.dup, 1) := by decide +kernel
theorem d5_25 : decode prog_44_method_5_code 25 = .ok (.getfield 36, 3) := by decide +kernel
theorem d5_28 : decode prog_44_method_5_code 28 = .ok (.iconst 1, 1) := by decide +kernel
theorem d5_29 : decode prog_44_method_5_code 29 = .ok (.isub, 1) := by decide +kernel
theorem d5_30 : decode prog_44_method_5_code 30 = .ok (.putfield 36, 3) := by decide +kernel
set_option maxRecDepth 65536 in
set_option maxHeartbeats 40000000 in
theorem rm5_ff (l : Launch) (Z : State) (a0 : Array Value) (hw : ∀ d ∈ tables_1, d.before a0 Z = true) (ws : List Jvm.Cond) (a1 : Addr) (p2 : Int32) (q3 : Int64) (t : Addr) (n : Nat) (f : Nat → Int64) (i : Nat) (w7 : Int64) (w10 : Int32) (h0 : Heap) (n0 : Nat) (Z0 : n0 ≤ h0.size) (hi : p2.toNatClampNeg = i) (hin : i < n) (hp : ¬ p2 < 0) (E_a1 : Exa Z h0 a1 "com/example/mullion/mullion/aggregators/FurthestBack") (F_values_a1 : Fld Z h0 a1 "com/example/mullion/mullion/aggregators/FurthestBack" "values" "[J" (.ref t)) (F_mark_a1 : Fld Z h0 a1 "com/example/mullion/mullion/aggregators/FurthestBack" "mark" "J" (.long w7)) (F_atOrBelowMark_a1 : Fld Z h0 a1 "com/example/mullion/mullion/aggregators/FurthestBack" "atOrBelowMark" "I" (.int w10)) (V : own_L Z h0 t n f) (hne : a1 ≠ t) (g_a1 : n0 ≤ a1) (g_t : n0 ≤ t) (hc11 : ¬ ((0 : Int32) < (lcmpW (f i) w7))) (hc20 : (0 : Int32) < (lcmpW q3 w7)) :
    MetFree l (⟨"com/example/mullion/mullion/aggregators/FurthestBack", "moveOn", "(IJ)V"⟩ : MethodName) (head1 (Jvm.Cond.code (⟨"com/example/mullion/mullion/aggregators/FurthestBack", "moveOn", "(IJ)V"⟩ : MethodName) prog_44_method_5_code 4 none :: ws) ({ frames := 0, cells := 0, slots := 0, locals := 0 } : Room)) (fun a U => a = #[(.ref a1), (.int p2), (.long q3)] ∧ Z.Warmed39 U.vm ∧ U.heap = h0) (fun _ _ _ _ _ => True) (fun _ U o U' => ∃ v L, o = .returned v ∧ Q5 Z a1 p2 q3 t n f i w7 w10 h0 n0 v U'.heap L ∧ FrameEnd U o U' L ({ frames := 0, cells := 0, slots := 0, locals := 0 } : Room).cells ({ frames := 0, cells := 0, slots := 0, locals := 0 } : Room).slots) := by
  refine MetFree.of_bodySF (plainFor_of_name pn_5) hisR ?_
  intro p e s m args below meth c s₁ Bd hml0 hP hK
  obtain ⟨rfl, hZ, hh⟩ := hP
  have hx := Bd.exec
  have hby := Bd.bytes
  have hml : c.maxLocals = 4 := hml0
  have hown : s.vm.findClass "com/example/mullion/mullion/aggregators/FurthestBack" = some m.cls := findClass_of_methodNamed Bd.named
  have hnm := (name_of_methodNamed Bd.named Bd.method).1
  have X0 : Stand p l e ({ frames := 0, cells := 0, slots := 0, locals := 0 } : Room) s m #[(.ref a1), (.int p2), (.long q3)] below meth c s₁ [] 0 0 := Stand.of_body Bd
  have e0 : s₁.heap = h0 := by rw [← hh, Bd.state]; rfl
  have N0 := Fr.nil n0
  have pre0 : ∀ t, Steps p.tables e below (s₁.setTop (mkF m 0 #[.val (.ref a1), .val (.int p2), .val (.long q3), .second] [])) t → Steps p.tables e below (s₁.setTop (entryFrame m #[(.ref a1), (.int p2), (.long q3)] 4)) t := fun t k => castTop (ef_5 m a1 p2 q3) k
  obtain ⟨cl_t, Ar_t, S_q, H_q⟩ := V
  have hin5 : ¬ (p2 < 0 ∨ cl_t.slots.size ≤ p2.toNatClampNeg) := by rw [S_q, hi]; exact fun q => q.elim hp (fun q => by omega)
  have hin39 := hin5
  have hat5 : cl_t.slots[p2.toNatClampNeg]? = some (.long (f i)) := by rw [hi]; exact H_q i hin
  obtain ⟨T5, X5, e5, st5⟩ := getF X0 hx hZ hown (host := "") (Or.inl (hw _ (List.mem_of_getElem? (i := 12) rfl))) Via.refl e0 F_values_a1 (g := (mkF m 1 #[.val (.ref a1), .val (.int p2), .val (.long q3), .second] [(.ref a1)])) rfl rfl (hb hby d5_1)
  obtain ⟨T8, X8, e8, st8⟩ := getF X5 hx hZ hown (host := "") (Or.inl (hw _ (List.mem_of_getElem? (i := 23) rfl))) Via.refl e5 F_mark_a1 (g := (mkF m 7 #[.val (.ref a1), .val (.int p2), .val (.long q3), .second] [(.ref a1), (.long (f i))])) rfl rfl (hb hby d5_7)
  obtain ⟨T9, X9, e9, st9⟩ := getF X8 hx hZ hown (host := "") (Or.inl (hw _ (List.mem_of_getElem? (i := 23) rfl))) Via.refl e8 F_mark_a1 (g := (mkF m 16 #[.val (.ref a1), .val (.int p2), .val (.long q3), .second] [(.ref a1), (.long q3)])) rfl rfl (hb hby d5_16)
  obtain ⟨T11, X11, e11, st11⟩ := getF X9 hx hZ hown (host := "") (Or.inl (hw _ (List.mem_of_getElem? (i := 25) rfl))) Via.refl e9 F_atOrBelowMark_a1 (g := (mkF m 25 #[.val (.ref a1), .val (.int p2), .val (.long q3), .second] [(.ref a1), (.ref a1)])) rfl rfl (hb hby d5_25)
  obtain ⟨T12, h12, X12, e12, W12, st12⟩ := putF X11 hx hZ hown (host := "") (Or.inl (hw _ (List.mem_of_getElem? (i := 25) rfl))) Via.refl e11 F_atOrBelowMark_a1 E_a1 (Or.inl (hw _ (List.mem_of_getElem? (i := 26) rfl))) (hw _ (List.mem_of_getElem? (i := 2) rfl)) (ty := .int) (by decide) rfl rfl (g := (mkF m 30 #[.val (.ref a1), .val (.int p2), .val (.long q3), .second] [(.int (w10 - (1 : Int32))), (.ref a1)])) rfl rfl (hb hby d5_30)
  have Fw12 := F_atOrBelowMark_a1.same W12
  have K12 : Keep h0 h12 [a1, t] := (Keep.refl h0 [a1, t]).wr W12 (Or.inl (by simp))
  have N12 := Fr.snoc X12 N0 g_a1
  obtain ⟨T13, X13, e13, st13⟩ := getF X12 hx hZ hown (host := "") (Or.inl (hw _ (List.mem_of_getElem? (i := 12) rfl))) Via.refl e12 (F_values_a1.other W12 (Or.inr (slot_ne (Or.inr (hw _ (List.mem_of_getElem? (i := 13) rfl))) (Or.inl (hw _ (List.mem_of_getElem? (i := 26) rfl))) (by decide) (t := (.array .long)) (t' := .int) (by decide) (by decide)))) (g := (mkF m 34 #[.val (.ref a1), .val (.int p2), .val (.long q3), .second] [(.ref a1)])) rfl rfl (hb hby d5_34)
  have Ar_u := Ar_t.other W12 hne.symm
  obtain ⟨T14, h14, X14, e14, W14, st14⟩ := stJ X13 hx hZ e13 Ar_u (j := p2) hin39 (g := (mkF m 39 #[.val (.ref a1), .val (.int p2), .val (.long q3), .second] [(.long q3), (.int p2), (.ref t)])) rfl rfl (hb hby d5_39)
  have N14 := Fr.snoc X14 N12 g_t
  have W14i := W14
  rw [hi] at W14i
  have K14 : Keep h0 h14 [a1, t] := K12.wr W14 (Or.inl (by simp))
  obtain ⟨fs, hr, hrun, hended, hW, hsame⟩ := X14.leave (v := none) (fun _ => rfl)
  refine ⟨_, _, pre0 _ ?_, hrun, hended, _, _, rfl, ?_, ⟨_, rfl⟩, hW, hsame.mono (by decide) (by decide)⟩
  · show Steps p.tables e below (s₁.setTop (mkF m 0 #[.val (.ref a1), .val (.int p2), .val (.long q3), .second] [])) _
    refine XS.aloadN X0.here hx rfl (hb hby d5_0) rfl rfl ?_
    show Steps p.tables e below (s₁.setTop (mkF m 1 #[.val (.ref a1), .val (.int p2), .val (.long q3), .second] [(.ref a1)])) _
    refine st5 _ ?_
    show Steps p.tables e below (T5.setTop (mkF m 4 #[.val (.ref a1), .val (.int p2), .val (.long q3), .second] [(.ref t)])) _
    refine XS.iloadN X5.here hx rfl (hb hby d5_4) rfl ?_
    show Steps p.tables e below (T5.setTop (mkF m 5 #[.val (.ref a1), .val (.int p2), .val (.long q3), .second] [(.int p2), (.ref t)])) _
    refine X5.laload hx (j := p2) (v := (.long (f i))) (by rw [e5]; exact Ar_t.1) (State.isArrayOf_alike hZ.alike Ar_t.2.1) Ar_t.2.2 hin5 hat5 (g := (mkF m 5 #[.val (.ref a1), .val (.int p2), .val (.long q3), .second] [(.int p2), (.ref t)])) rfl rfl (hb hby d5_5) _ ?_
    show Steps p.tables e below (T5.setTop (mkF m 6 #[.val (.ref a1), .val (.int p2), .val (.long q3), .second] [(.long (f i))])) _
    refine XS.aloadN X5.here hx rfl (hb hby d5_6) rfl rfl ?_
    show Steps p.tables e below (T5.setTop (mkF m 7 #[.val (.ref a1), .val (.int p2), .val (.long q3), .second] [(.ref a1), (.long (f i))])) _
    refine st8 _ ?_
    show Steps p.tables e below (T8.setTop (mkF m 10 #[.val (.ref a1), .val (.int p2), .val (.long q3), .second] [(.long w7), (.long (f i))])) _
    refine XS.lcmp X8.here hx rfl (hb hby d5_10) rfl ?_
    show Steps p.tables e below (T8.setTop (mkF m 11 #[.val (.ref a1), .val (.int p2), .val (.long q3), .second] [(.int (lcmpW (f i) w7))])) _
    refine XS.ifNo X8.here hx rfl (hb hby d5_11) rfl ((if0 _ _).trans (flt hc11).2.2.1) ?_
    show Steps p.tables e below (T8.setTop (mkF m 14 #[.val (.ref a1), .val (.int p2), .val (.long q3), .second] [])) _
    refine XS.lloadN X8.here hx rfl (hb hby d5_14) rfl ?_
    show Steps p.tables e below (T8.setTop (mkF m 15 #[.val (.ref a1), .val (.int p2), .val (.long q3), .second] [(.long q3)])) _
    refine XS.aloadN X8.here hx rfl (hb hby d5_15) rfl rfl ?_
    show Steps p.tables e below (T8.setTop (mkF m 16 #[.val (.ref a1), .val (.int p2), .val (.long q3), .second] [(.ref a1), (.long q3)])) _
    refine st9 _ ?_
    show Steps p.tables e below (T9.setTop (mkF m 19 #[.val (.ref a1), .val (.int p2), .val (.long q3), .second] [(.long w7), (.long q3)])) _
    refine XS.lcmp X9.here hx rfl (hb hby d5_19) rfl ?_
    show Steps p.tables e below (T9.setTop (mkF m 20 #[.val (.ref a1), .val (.int p2), .val (.long q3), .second] [(.int (lcmpW q3 w7))])) _
    refine XS.ifNo X9.here hx rfl (hb hby d5_20) rfl ((if0 _ _).trans (tlt hc20).2.2.2) ?_
    show Steps p.tables e below (T9.setTop (mkF m 23 #[.val (.ref a1), .val (.int p2), .val (.long q3), .second] [])) _
    refine XS.aloadN X9.here hx rfl (hb hby d5_23) rfl rfl ?_
    show Steps p.tables e below (T9.setTop (mkF m 24 #[.val (.ref a1), .val (.int p2), .val (.long q3), .second] [(.ref a1)])) _
    refine XS.dup X9.here hx rfl (hb hby d5_24) rfl rfl ?_
    show Steps p.tables e below (T9.setTop (mkF m 25 #[.val (.ref a1), .val (.int p2), .val (.long q3), .second] [(.ref a1), (.ref a1)])) _
    refine st11 _ ?_
    show Steps p.tables e below (T11.setTop (mkF m 28 #[.val (.ref a1), .val (.int p2), .val (.long q3), .second] [(.int w10), (.ref a1)])) _
    refine XS.iconst X11.here hx rfl (hb hby d5_28) ?_
    show Steps p.tables e below (T11.setTop (mkF m 29 #[.val (.ref a1), .val (.int p2), .val (.long q3), .second] [(.int (1 : Int32)), (.int w10), (.ref a1)])) _
    refine XS.isub X11.here hx rfl (hb hby d5_29) rfl ?_
    show Steps p.tables e below (T11.setTop (mkF m 30 #[.val (.ref a1), .val (.int p2), .val (.long q3), .second] [(.int (w10 - (1 : Int32))), (.ref a1)])) _
    refine st12 _ ?_
    show Steps p.tables e below (T12.setTop (mkF m 33 #[.val (.ref a1), .val (.int p2), .val (.long q3), .second] [])) _
    refine XS.aloadN X12.here hx rfl (hb hby d5_33) rfl rfl ?_
    show Steps p.tables e below (T12.setTop (mkF m 34 #[.val (.ref a1), .val (.int p2), .val (.long q3), .second] [(.ref a1)])) _
    refine st13 _ ?_
    show Steps p.tables e below (T13.setTop (mkF m 37 #[.val (.ref a1), .val (.int p2), .val (.long q3), .second] [(.ref t)])) _
    refine XS.iloadN X13.here hx rfl (hb hby d5_37) rfl ?_
    show Steps p.tables e below (T13.setTop (mkF m 38 #[.val (.ref a1), .val (.int p2), .val (.long q3), .second] [(.int p2), (.ref t)])) _
    refine XS.lloadN X13.here hx rfl (hb hby d5_38) rfl ?_
    show Steps p.tables e below (T13.setTop (mkF m 39 #[.val (.ref a1), .val (.int p2), .val (.long q3), .second] [(.long q3), (.int p2), (.ref t)])) _
    refine st14 _ ?_
    show Steps p.tables e below (T14.setTop (mkF m 40 #[.val (.ref a1), .val (.int p2), .val (.long q3), .second] [])) _
    exact X14.returnOut hx Bd.returns (hb hby d5_40) hr
  · show Q5 Z a1 p2 q3 t n f i w7 w10 h0 n0 _ T14.heap _
    rw [e14]
    exact ⟨rfl, N14, K14, E_a1.keep K14, ((F_values_a1.other W12 (Or.inr (slot_ne (Or.inr (hw _ (List.mem_of_getElem? (i := 13) rfl))) (Or.inl (hw _ (List.mem_of_getElem? (i := 26) rfl))) (by decide) (t := (.array .long)) (t' := .int) (by decide) (by decide)))).other W14 (Or.inl hne)), ((F_mark_a1.other W12 (Or.inr (slot_ne (Or.inl (hw _ (List.mem_of_getElem? (i := 24) rfl))) (Or.inl (hw _ (List.mem_of_getElem? (i := 26) rfl))) (by decide) (t := .long) (t' := .int) (by decide) (by decide)))).other W14 (Or.inl hne)), (by unfold own_mv; rw [if_neg hc11, if_pos hc20]; exact (Fw12.other W14 (Or.inl hne))), own_L.set Ar_u S_q H_q W14i⟩
theorem rm5 (l : Launch) (Z : State) (a0 : Array Value) (hw : ∀ d ∈ tables_1, d.before a0 Z = true) (ws : List Jvm.Cond) (a1 : Addr) (p2 : Int32) (q3 : Int64) (t : Addr) (n : Nat) (f : Nat → Int64) (i : Nat) (w7 : Int64) (w10 : Int32) (h0 : Heap) (n0 : Nat) (Z0 : n0 ≤ h0.size) (hi : p2.toNatClampNeg = i) (hin : i < n) (hp : ¬ p2 < 0) (E_a1 : Exa Z h0 a1 "com/example/mullion/mullion/aggregators/FurthestBack") (F_values_a1 : Fld Z h0 a1 "com/example/mullion/mullion/aggregators/FurthestBack" "values" "[J" (.ref t)) (F_mark_a1 : Fld Z h0 a1 "com/example/mullion/mullion/aggregators/FurthestBack" "mark" "J" (.long w7)) (F_atOrBelowMark_a1 : Fld Z h0 a1 "com/example/mullion/mullion/aggregators/FurthestBack" "atOrBelowMark" "I" (.int w10)) (V : own_L Z h0 t n f) (hne : a1 ≠ t) (g_a1 : n0 ≤ a1) (g_t : n0 ≤ t) :
    MetFree l (⟨"com/example/mullion/mullion/aggregators/FurthestBack", "moveOn", "(IJ)V"⟩ : MethodName) (head1 (Jvm.Cond.code (⟨"com/example/mullion/mullion/aggregators/FurthestBack", "moveOn", "(IJ)V"⟩ : MethodName) prog_44_method_5_code 4 none :: ws) ({ frames := 0, cells := 0, slots := 0, locals := 0 } : Room)) (fun a U => a = #[(.ref a1), (.int p2), (.long q3)] ∧ Z.Warmed39 U.vm ∧ U.heap = h0) (fun _ _ _ _ _ => True) (fun _ U o U' => ∃ v L, o = .returned v ∧ Q5 Z a1 p2 q3 t n f i w7 w10 h0 n0 v U'.heap L ∧ FrameEnd U o U' L ({ frames := 0, cells := 0, slots := 0, locals := 0 } : Room).cells ({ frames := 0, cells := 0, slots := 0, locals := 0 } : Room).slots) := by
  by_cases hc11 : (0 : Int32) < (lcmpW (f i) w7)
  · exact rm5_t l Z a0 hw ws a1 p2 q3 t n f i w7 w10 h0 n0 Z0 hi hin hp E_a1 F_values_a1 F_mark_a1 F_atOrBelowMark_a1 V hne g_a1 g_t hc11
  · by_cases hc20 : (0 : Int32) < (lcmpW q3 w7)
    · exact rm5_ff l Z a0 hw ws a1 p2 q3 t n f i w7 w10 h0 n0 Z0 hi hin hp E_a1 F_values_a1 F_mark_a1 F_atOrBelowMark_a1 V hne g_a1 g_t hc11 hc20
    · exact rm5_ft l Z a0 hw ws a1 p2 q3 t n f i w7 w10 h0 n0 Z0 hi hin hp E_a1 F_values_a1 F_mark_a1 F_atOrBelowMark_a1 V hne g_a1 g_t hc11 hc20

def own_Two (s7 s8 : Slot) : Prop := (s7 = .unset ∧ s8 = .unset) ∨ ∃ w : Int64, s7 = .val (.long w) ∧ s8 = .second
theorem own_two {o0 o4 : Addr} {j1 v : Int64} {i3 i5 i6 : Int32} {s7 s8 : Slot} (h : own_Two s7 s8) : storeLocals #[.val (.ref o0), .val (.long j1), .second, .val (.int i3), .val (.ref o4), .val (.int i5), .val (.int i6), s7, s8] 7 (.long v) = some #[.val (.ref o0), .val (.long j1), .second, .val (.int i3), .val (.ref o4), .val (.int i5), .val (.int i6), .val (.long v), .second] := by
  rcases h with ⟨rfl, rfl⟩ | ⟨w, rfl, rfl⟩ <;> rfl
theorem d6_20 : decode prog_44_method_9_code 20 = .ok (.iload 6, 2) := by decide +kernel
theorem d6_22 : decode prog_44_method_9_code 22 = .ok (.iload 5, 2) := by decide +kernel
theorem d6_24 : decode prog_44_method_9_code 24 = .ok (.if_icmp .ge 41, 3) := by decide +kernel
theorem d6_27 : decode prog_44_method_9_code 27 = .ok (.aload 4, 2) := by decide +kernel
theorem d6_29 : decode prog_44_method_9_code 29 = .ok (.iload 6, 2) := by decide +kernel
theorem d6_31 : decode prog_44_method_9_code 31 = .ok (.laload, 1) := by decide +kernel
theorem d6_32 : decode prog_44_method_9_code 32 = .ok (.lstore 7, 2) := by decide +kernel
theorem d6_34 : decode prog_44_method_9_code 34 = .ok (.lload 7, 2) := by decide +kernel
theorem d6_36 : decode prog_44_method_9_code 36 = .ok (.lload_n 1, 1) := by decide +kernel
theorem d6_37 : decode prog_44_method_9_code 37 = .ok (.lcmp, 1) := by decide +kernel
theorem d6_38 : decode prog_44_method_9_code 38 = .ok (.ifCond .ge 11, 3) := by decide +kernel
theorem d6_41 : decode prog_44_method_9_code 41 = .ok (.lload 7, 2) := by decide +kernel
theorem d6_43 : decode prog_44_method_9_code 43 = .ok (.lstore_n 1, 1) := by decide +kernel
theorem d6_44 : decode prog_44_method_9_code 44 = .ok (.iconst 1, 1) := by decide +kernel
theorem d6_45 : decode prog_44_method_9_code 45 = .ok (.istore_n 3, 1) := by decide +kernel
theorem d6_46 : decode prog_44_method_9_code 46 = .ok (.goto 13, 3) := by decide +kernel
theorem d6_59 : decode prog_44_method_9_code 59 = .ok (.iinc 6 1, 3) := by decide +kernel
theorem d6_62 : decode prog_44_method_9_code 62 = .ok (.goto (-42), 3) := by decide +kernel
set_option maxRecDepth 65536 in
set_option maxHeartbeats 40000000 in
theorem tn6_20_20_ff {p : Program} {l : Launch} {e : Env} {R : Room} {s : State} {m : MethodId} {args : Array Value} {below : List Frame} {meth : Method} {c : Code} {T0 : State} {locs : List Loc} {cells slots : Nat} {Z : State} {a0 : Array Value} {h0 : Heap} (o0 : Addr) (j1 : Int64) (i3 : Int32) (o4 : Addr) (i5 : Int32) (i6 : Int32) (s7 : Slot) (s8 : Slot) (w2 : Int64) (cl_o4 : Cell)
    (X0 : Stand p l e R s m args below meth c T0 locs cells slots) (hx : p.tables.exec = Jvm.exec) (hZ : Z.Warmed39 s.vm) (hw : ∀ d ∈ tables_1, d.before a0 Z = true) (hby : c.code = prog_44_method_9_code) (hml : c.maxLocals = 9) (hown : s.vm.findClass "com/example/mullion/mullion/aggregators/FurthestBack" = some m.cls) (e0 : T0.heap = h0) (h78 : own_Two s7 s8) (Ar_o4 : Arr Z h0 o4 cl_o4 .long) (hin31 : ¬ (i6 < 0 ∨ cl_o4.slots.size ≤ (i6).toNatClampNeg)) (hat31 : cl_o4.slots[(i6).toNatClampNeg]? = some (.long w2)) (hc24 : i6 < i5) (hc38 : (lcmpW w2 j1) < (0 : Int32)) :
    ∃ (T' : State), Stand p l e R s m args below meth c T' locs cells slots ∧ T'.heap = h0 ∧
      ∀ target, Steps p.tables e below (T'.setTop (mkF m 20 #[.val (.ref o0), .val (.long w2), .second, .val (.int (1 : Int32)), .val (.ref o4), .val (.int i5), .val (.int (i6 + (1 : Int32))), .val (.long w2), .second] [])) target → Steps p.tables e below (T0.setTop (mkF m 20 #[.val (.ref o0), .val (.long j1), .second, .val (.int i3), .val (.ref o4), .val (.int i5), .val (.int i6), s7, s8] [])) target := by

  refine ⟨T0, X0, e0, fun target kt => ?_⟩
  show Steps p.tables e below (T0.setTop (mkF m 20 #[.val (.ref o0), .val (.long j1), .second, .val (.int i3), .val (.ref o4), .val (.int i5), .val (.int i6), s7, s8] [])) _
  refine XS.iload X0.here hx rfl (hb hby d6_20) rfl ?_
  show Steps p.tables e below (T0.setTop (mkF m 22 #[.val (.ref o0), .val (.long j1), .second, .val (.int i3), .val (.ref o4), .val (.int i5), .val (.int i6), s7, s8] [(.int i6)])) _
  refine XS.iload X0.here hx rfl (hb hby d6_22) rfl ?_
  show Steps p.tables e below (T0.setTop (mkF m 24 #[.val (.ref o0), .val (.long j1), .second, .val (.int i3), .val (.ref o4), .val (.int i5), .val (.int i6), s7, s8] [(.int i5), (.int i6)])) _
  refine XS.icmpNo X0.here hx rfl (hb hby d6_24) rfl (tlt hc24).2.1 ?_
  show Steps p.tables e below (T0.setTop (mkF m 27 #[.val (.ref o0), .val (.long j1), .second, .val (.int i3), .val (.ref o4), .val (.int i5), .val (.int i6), s7, s8] [])) _
  refine XS.aload X0.here hx rfl (hb hby d6_27) rfl rfl ?_
  show Steps p.tables e below (T0.setTop (mkF m 29 #[.val (.ref o0), .val (.long j1), .second, .val (.int i3), .val (.ref o4), .val (.int i5), .val (.int i6), s7, s8] [(.ref o4)])) _
  refine XS.iload X0.here hx rfl (hb hby d6_29) rfl ?_
  show Steps p.tables e below (T0.setTop (mkF m 31 #[.val (.ref o0), .val (.long j1), .second, .val (.int i3), .val (.ref o4), .val (.int i5), .val (.int i6), s7, s8] [(.int i6), (.ref o4)])) _
  refine X0.laload hx (j := i6) (v := (.long w2)) (by rw [e0]; exact Ar_o4.1) (State.isArrayOf_alike hZ.alike Ar_o4.2.1) Ar_o4.2.2 hin31 hat31 (g := (mkF m 31 #[.val (.ref o0), .val (.long j1), .second, .val (.int i3), .val (.ref o4), .val (.int i5), .val (.int i6), s7, s8] [(.int i6), (.ref o4)])) rfl rfl (hb hby d6_31) _ ?_
  show Steps p.tables e below (T0.setTop (mkF m 32 #[.val (.ref o0), .val (.long j1), .second, .val (.int i3), .val (.ref o4), .val (.int i5), .val (.int i6), s7, s8] [(.long w2)])) _
  refine XS.lstore X0.here hx rfl (hb hby d6_32) rfl (l' := #[.val (.ref o0), .val (.long j1), .second, .val (.int i3), .val (.ref o4), .val (.int i5), .val (.int i6), .val (.long w2), .second]) (own_two h78) ?_
  show Steps p.tables e below (T0.setTop (mkF m 34 #[.val (.ref o0), .val (.long j1), .second, .val (.int i3), .val (.ref o4), .val (.int i5), .val (.int i6), .val (.long w2), .second] [])) _
  refine XS.lload X0.here hx rfl (hb hby d6_34) rfl ?_
  show Steps p.tables e below (T0.setTop (mkF m 36 #[.val (.ref o0), .val (.long j1), .second, .val (.int i3), .val (.ref o4), .val (.int i5), .val (.int i6), .val (.long w2), .second] [(.long w2)])) _
  refine XS.lloadN X0.here hx rfl (hb hby d6_36) rfl ?_
  show Steps p.tables e below (T0.setTop (mkF m 37 #[.val (.ref o0), .val (.long j1), .second, .val (.int i3), .val (.ref o4), .val (.int i5), .val (.int i6), .val (.long w2), .second] [(.long j1), (.long w2)])) _
  refine XS.lcmp X0.here hx rfl (hb hby d6_37) rfl ?_
  show Steps p.tables e below (T0.setTop (mkF m 38 #[.val (.ref o0), .val (.long j1), .second, .val (.int i3), .val (.ref o4), .val (.int i5), .val (.int i6), .val (.long w2), .second] [(.int (lcmpW w2 j1))])) _
  refine XS.ifNo X0.here hx rfl (hb hby d6_38) rfl ((if0 _ _).trans (tlt hc38).2.1) ?_
  show Steps p.tables e below (T0.setTop (mkF m 41 #[.val (.ref o0), .val (.long j1), .second, .val (.int i3), .val (.ref o4), .val (.int i5), .val (.int i6), .val (.long w2), .second] [])) _
  refine XS.lload X0.here hx rfl (hb hby d6_41) rfl ?_
  show Steps p.tables e below (T0.setTop (mkF m 43 #[.val (.ref o0), .val (.long j1), .second, .val (.int i3), .val (.ref o4), .val (.int i5), .val (.int i6), .val (.long w2), .second] [(.long w2)])) _
  refine XS.lstoreN X0.here hx rfl (hb hby d6_43) rfl (l' := #[.val (.ref o0), .val (.long w2), .second, .val (.int i3), .val (.ref o4), .val (.int i5), .val (.int i6), .val (.long w2), .second]) rfl ?_
  show Steps p.tables e below (T0.setTop (mkF m 44 #[.val (.ref o0), .val (.long w2), .second, .val (.int i3), .val (.ref o4), .val (.int i5), .val (.int i6), .val (.long w2), .second] [])) _
  refine XS.iconst X0.here hx rfl (hb hby d6_44) ?_
  show Steps p.tables e below (T0.setTop (mkF m 45 #[.val (.ref o0), .val (.long w2), .second, .val (.int i3), .val (.ref o4), .val (.int i5), .val (.int i6), .val (.long w2), .second] [(.int (1 : Int32))])) _
  refine XS.istoreN X0.here hx rfl (hb hby d6_45) rfl (l' := #[.val (.ref o0), .val (.long w2), .second, .val (.int (1 : Int32)), .val (.ref o4), .val (.int i5), .val (.int i6), .val (.long w2), .second]) rfl ?_
  show Steps p.tables e below (T0.setTop (mkF m 46 #[.val (.ref o0), .val (.long w2), .second, .val (.int (1 : Int32)), .val (.ref o4), .val (.int i5), .val (.int i6), .val (.long w2), .second] [])) _
  refine XS.goto X0.here hx rfl (pc0 := 46) (pc' := 59) rfl (hb hby d6_46) (by decide) (by decide) ?_
  show Steps p.tables e below (T0.setTop (mkF m 59 #[.val (.ref o0), .val (.long w2), .second, .val (.int (1 : Int32)), .val (.ref o4), .val (.int i5), .val (.int i6), .val (.long w2), .second] [])) _
  refine XS.iinc X0.here hx rfl (hb hby d6_59) rfl (l' := #[.val (.ref o0), .val (.long w2), .second, .val (.int (1 : Int32)), .val (.ref o4), .val (.int i5), .val (.int (i6 + (1 : Int32))), .val (.long w2), .second]) rfl ?_
  show Steps p.tables e below (T0.setTop (mkF m 62 #[.val (.ref o0), .val (.long w2), .second, .val (.int (1 : Int32)), .val (.ref o4), .val (.int i5), .val (.int (i6 + (1 : Int32))), .val (.long w2), .second] [])) _
  refine XS.goto X0.here hx rfl (pc0 := 62) (pc' := 20) rfl (hb hby d6_62) (by decide) (by decide) ?_
  exact kt
theorem d6_49 : decode prog_44_method_9_code 49 = .ok (.lload 7, 2) := by decide +kernel
theorem d6_51 : decode prog_44_method_9_code 51 = .ok (.lload_n 1, 1) := by decide +kernel
theorem d6_52 : decode prog_44_method_9_code 52 = .ok (.lcmp, 1) := by decide +kernel
theorem d6_53 : decode prog_44_method_9_code 53 = .ok (.ifCond .ne 6, 3) := by decide +kernel
theorem d6_56 : decode prog_44_method_9_code 56 = .ok (.iinc 3 1, 3) := by decide +kernel
set_option maxRecDepth 65536 in
set_option maxHeartbeats 40000000 in
theorem tn6_20_20_ftf {p : Program} {l : Launch} {e : Env} {R : Room} {s : State} {m : MethodId} {args : Array Value} {below : List Frame} {meth : Method} {c : Code} {T0 : State} {locs : List Loc} {cells slots : Nat} {Z : State} {a0 : Array Value} {h0 : Heap} (o0 : Addr) (j1 : Int64) (i3 : Int32) (o4 : Addr) (i5 : Int32) (i6 : Int32) (s7 : Slot) (s8 : Slot) (w2 : Int64) (cl_o4 : Cell)
    (X0 : Stand p l e R s m args below meth c T0 locs cells slots) (hx : p.tables.exec = Jvm.exec) (hZ : Z.Warmed39 s.vm) (hw : ∀ d ∈ tables_1, d.before a0 Z = true) (hby : c.code = prog_44_method_9_code) (hml : c.maxLocals = 9) (hown : s.vm.findClass "com/example/mullion/mullion/aggregators/FurthestBack" = some m.cls) (e0 : T0.heap = h0) (h78 : own_Two s7 s8) (Ar_o4 : Arr Z h0 o4 cl_o4 .long) (hin31 : ¬ (i6 < 0 ∨ cl_o4.slots.size ≤ (i6).toNatClampNeg)) (hat31 : cl_o4.slots[(i6).toNatClampNeg]? = some (.long w2)) (hc24 : i6 < i5) (hc38 : ¬ ((lcmpW w2 j1) < (0 : Int32))) (hc53 : (lcmpW w2 j1) = (0 : Int32)) :
    ∃ (T' : State), Stand p l e R s m args below meth c T' locs cells slots ∧ T'.heap = h0 ∧
      ∀ target, Steps p.tables e below (T'.setTop (mkF m 20 #[.val (.ref o0), .val (.long j1), .second, .val (.int (i3 + (1 : Int32))), .val (.ref o4), .val (.int i5), .val (.int (i6 + (1 : Int32))), .val (.long w2), .second] [])) target → Steps p.tables e below (T0.setTop (mkF m 20 #[.val (.ref o0), .val (.long j1), .second, .val (.int i3), .val (.ref o4), .val (.int i5), .val (.int i6), s7, s8] [])) target := by

  refine ⟨T0, X0, e0, fun target kt => ?_⟩
  show Steps p.tables e below (T0.setTop (mkF m 20 #[.val (.ref o0), .val (.long j1), .second, .val (.int i3), .val (.ref o4), .val (.int i5), .val (.int i6), s7, s8] [])) _
  refine XS.iload X0.here hx rfl (hb hby d6_20) rfl ?_
  show Steps p.tables e below (T0.setTop (mkF m 22 #[.val (.ref o0), .val (.long j1), .second, .val (.int i3), .val (.ref o4), .val (.int i5), .val (.int i6), s7, s8] [(.int i6)])) _
  refine XS.iload X0.here hx rfl (hb hby d6_22) rfl ?_
  show Steps p.tables e below (T0.setTop (mkF m 24 #[.val (.ref o0), .val (.long j1), .second, .val (.int i3), .val (.ref o4), .val (.int i5), .val (.int i6), s7, s8] [(.int i5), (.int i6)])) _
  refine XS.icmpNo X0.here hx rfl (hb hby d6_24) rfl (tlt hc24).2.1 ?_
  show Steps p.tables e below (T0.setTop (mkF m 27 #[.val (.ref o0), .val (.long j1), .second, .val (.int i3), .val (.ref o4), .val (.int i5), .val (.int i6), s7, s8] [])) _
  refine XS.aload X0.here hx rfl (hb hby d6_27) rfl rfl ?_
  show Steps p.tables e below (T0.setTop (mkF m 29 #[.val (.ref o0), .val (.long j1), .second, .val (.int i3), .val (.ref o4), .val (.int i5), .val (.int i6), s7, s8] [(.ref o4)])) _
  refine XS.iload X0.here hx rfl (hb hby d6_29) rfl ?_
  show Steps p.tables e below (T0.setTop (mkF m 31 #[.val (.ref o0), .val (.long j1), .second, .val (.int i3), .val (.ref o4), .val (.int i5), .val (.int i6), s7, s8] [(.int i6), (.ref o4)])) _
  refine X0.laload hx (j := i6) (v := (.long w2)) (by rw [e0]; exact Ar_o4.1) (State.isArrayOf_alike hZ.alike Ar_o4.2.1) Ar_o4.2.2 hin31 hat31 (g := (mkF m 31 #[.val (.ref o0), .val (.long j1), .second, .val (.int i3), .val (.ref o4), .val (.int i5), .val (.int i6), s7, s8] [(.int i6), (.ref o4)])) rfl rfl (hb hby d6_31) _ ?_
  show Steps p.tables e below (T0.setTop (mkF m 32 #[.val (.ref o0), .val (.long j1), .second, .val (.int i3), .val (.ref o4), .val (.int i5), .val (.int i6), s7, s8] [(.long w2)])) _
  refine XS.lstore X0.here hx rfl (hb hby d6_32) rfl (l' := #[.val (.ref o0), .val (.long j1), .second, .val (.int i3), .val (.ref o4), .val (.int i5), .val (.int i6), .val (.long w2), .second]) (own_two h78) ?_
  show Steps p.tables e below (T0.setTop (mkF m 34 #[.val (.ref o0), .val (.long j1), .second, .val (.int i3), .val (.ref o4), .val (.int i5), .val (.int i6), .val (.long w2), .second] [])) _
  refine XS.lload X0.here hx rfl (hb hby d6_34) rfl ?_
  show Steps p.tables e below (T0.setTop (mkF m 36 #[.val (.ref o0), .val (.long j1), .second, .val (.int i3), .val (.ref o4), .val (.int i5), .val (.int i6), .val (.long w2), .second] [(.long w2)])) _
  refine XS.lloadN X0.here hx rfl (hb hby d6_36) rfl ?_
  show Steps p.tables e below (T0.setTop (mkF m 37 #[.val (.ref o0), .val (.long j1), .second, .val (.int i3), .val (.ref o4), .val (.int i5), .val (.int i6), .val (.long w2), .second] [(.long j1), (.long w2)])) _
  refine XS.lcmp X0.here hx rfl (hb hby d6_37) rfl ?_
  show Steps p.tables e below (T0.setTop (mkF m 38 #[.val (.ref o0), .val (.long j1), .second, .val (.int i3), .val (.ref o4), .val (.int i5), .val (.int i6), .val (.long w2), .second] [(.int (lcmpW w2 j1))])) _
  refine XS.ifYes X0.here hx rfl (pc0 := 38) (pc' := 49) rfl (hb hby d6_38) rfl ((if0 _ _).trans (flt hc38).2.1) (by decide) (by decide) ?_
  show Steps p.tables e below (T0.setTop (mkF m 49 #[.val (.ref o0), .val (.long j1), .second, .val (.int i3), .val (.ref o4), .val (.int i5), .val (.int i6), .val (.long w2), .second] [])) _
  refine XS.lload X0.here hx rfl (hb hby d6_49) rfl ?_
  show Steps p.tables e below (T0.setTop (mkF m 51 #[.val (.ref o0), .val (.long j1), .second, .val (.int i3), .val (.ref o4), .val (.int i5), .val (.int i6), .val (.long w2), .second] [(.long w2)])) _
  refine XS.lloadN X0.here hx rfl (hb hby d6_51) rfl ?_
  show Steps p.tables e below (T0.setTop (mkF m 52 #[.val (.ref o0), .val (.long j1), .second, .val (.int i3), .val (.ref o4), .val (.int i5), .val (.int i6), .val (.long w2), .second] [(.long j1), (.long w2)])) _
  refine XS.lcmp X0.here hx rfl (hb hby d6_52) rfl ?_
  show Steps p.tables e below (T0.setTop (mkF m 53 #[.val (.ref o0), .val (.long j1), .second, .val (.int i3), .val (.ref o4), .val (.int i5), .val (.int i6), .val (.long w2), .second] [(.int (lcmpW w2 j1))])) _
  refine XS.ifNo X0.here hx rfl (hb hby d6_53) rfl ((if0 _ _).trans (teq hc53).2) ?_
  show Steps p.tables e below (T0.setTop (mkF m 56 #[.val (.ref o0), .val (.long j1), .second, .val (.int i3), .val (.ref o4), .val (.int i5), .val (.int i6), .val (.long w2), .second] [])) _
  refine XS.iinc X0.here hx rfl (hb hby d6_56) rfl (l' := #[.val (.ref o0), .val (.long j1), .second, .val (.int (i3 + (1 : Int32))), .val (.ref o4), .val (.int i5), .val (.int i6), .val (.long w2), .second]) rfl ?_
  show Steps p.tables e below (T0.setTop (mkF m 59 #[.val (.ref o0), .val (.long j1), .second, .val (.int (i3 + (1 : Int32))), .val (.ref o4), .val (.int i5), .val (.int i6), .val (.long w2), .second] [])) _
  refine XS.iinc X0.here hx rfl (hb hby d6_59) rfl (l' := #[.val (.ref o0), .val (.long j1), .second, .val (.int (i3 + (1 : Int32))), .val (.ref o4), .val (.int i5), .val (.int (i6 + (1 : Int32))), .val (.long w2), .second]) rfl ?_
  show Steps p.tables e below (T0.setTop (mkF m 62 #[.val (.ref o0), .val (.long j1), .second, .val (.int (i3 + (1 : Int32))), .val (.ref o4), .val (.int i5), .val (.int (i6 + (1 : Int32))), .val (.long w2), .second] [])) _
  refine XS.goto X0.here hx rfl (pc0 := 62) (pc' := 20) rfl (hb hby d6_62) (by decide) (by decide) ?_
  exact kt
set_option maxRecDepth 65536 in
set_option maxHeartbeats 40000000 in
theorem tn6_20_20_ftt {p : Program} {l : Launch} {e : Env} {R : Room} {s : State} {m : MethodId} {args : Array Value} {below : List Frame} {meth : Method} {c : Code} {T0 : State} {locs : List Loc} {cells slots : Nat} {Z : State} {a0 : Array Value} {h0 : Heap} (o0 : Addr) (j1 : Int64) (i3 : Int32) (o4 : Addr) (i5 : Int32) (i6 : Int32) (s7 : Slot) (s8 : Slot) (w2 : Int64) (cl_o4 : Cell)
    (X0 : Stand p l e R s m args below meth c T0 locs cells slots) (hx : p.tables.exec = Jvm.exec) (hZ : Z.Warmed39 s.vm) (hw : ∀ d ∈ tables_1, d.before a0 Z = true) (hby : c.code = prog_44_method_9_code) (hml : c.maxLocals = 9) (hown : s.vm.findClass "com/example/mullion/mullion/aggregators/FurthestBack" = some m.cls) (e0 : T0.heap = h0) (h78 : own_Two s7 s8) (Ar_o4 : Arr Z h0 o4 cl_o4 .long) (hin31 : ¬ (i6 < 0 ∨ cl_o4.slots.size ≤ (i6).toNatClampNeg)) (hat31 : cl_o4.slots[(i6).toNatClampNeg]? = some (.long w2)) (hc24 : i6 < i5) (hc38 : ¬ ((lcmpW w2 j1) < (0 : Int32))) (hc53 : ¬ ((lcmpW w2 j1) = (0 : Int32))) :
    ∃ (T' : State), Stand p l e R s m args below meth c T' locs cells slots ∧ T'.heap = h0 ∧
      ∀ target, Steps p.tables e below (T'.setTop (mkF m 20 #[.val (.ref o0), .val (.long j1), .second, .val (.int i3), .val (.ref o4), .val (.int i5), .val (.int (i6 + (1 : Int32))), .val (.long w2), .second] [])) target → Steps p.tables e below (T0.setTop (mkF m 20 #[.val (.ref o0), .val (.long j1), .second, .val (.int i3), .val (.ref o4), .val (.int i5), .val (.int i6), s7, s8] [])) target := by

  refine ⟨T0, X0, e0, fun target kt => ?_⟩
  show Steps p.tables e below (T0.setTop (mkF m 20 #[.val (.ref o0), .val (.long j1), .second, .val (.int i3), .val (.ref o4), .val (.int i5), .val (.int i6), s7, s8] [])) _
  refine XS.iload X0.here hx rfl (hb hby d6_20) rfl ?_
  show Steps p.tables e below (T0.setTop (mkF m 22 #[.val (.ref o0), .val (.long j1), .second, .val (.int i3), .val (.ref o4), .val (.int i5), .val (.int i6), s7, s8] [(.int i6)])) _
  refine XS.iload X0.here hx rfl (hb hby d6_22) rfl ?_
  show Steps p.tables e below (T0.setTop (mkF m 24 #[.val (.ref o0), .val (.long j1), .second, .val (.int i3), .val (.ref o4), .val (.int i5), .val (.int i6), s7, s8] [(.int i5), (.int i6)])) _
  refine XS.icmpNo X0.here hx rfl (hb hby d6_24) rfl (tlt hc24).2.1 ?_
  show Steps p.tables e below (T0.setTop (mkF m 27 #[.val (.ref o0), .val (.long j1), .second, .val (.int i3), .val (.ref o4), .val (.int i5), .val (.int i6), s7, s8] [])) _
  refine XS.aload X0.here hx rfl (hb hby d6_27) rfl rfl ?_
  show Steps p.tables e below (T0.setTop (mkF m 29 #[.val (.ref o0), .val (.long j1), .second, .val (.int i3), .val (.ref o4), .val (.int i5), .val (.int i6), s7, s8] [(.ref o4)])) _
  refine XS.iload X0.here hx rfl (hb hby d6_29) rfl ?_
  show Steps p.tables e below (T0.setTop (mkF m 31 #[.val (.ref o0), .val (.long j1), .second, .val (.int i3), .val (.ref o4), .val (.int i5), .val (.int i6), s7, s8] [(.int i6), (.ref o4)])) _
  refine X0.laload hx (j := i6) (v := (.long w2)) (by rw [e0]; exact Ar_o4.1) (State.isArrayOf_alike hZ.alike Ar_o4.2.1) Ar_o4.2.2 hin31 hat31 (g := (mkF m 31 #[.val (.ref o0), .val (.long j1), .second, .val (.int i3), .val (.ref o4), .val (.int i5), .val (.int i6), s7, s8] [(.int i6), (.ref o4)])) rfl rfl (hb hby d6_31) _ ?_
  show Steps p.tables e below (T0.setTop (mkF m 32 #[.val (.ref o0), .val (.long j1), .second, .val (.int i3), .val (.ref o4), .val (.int i5), .val (.int i6), s7, s8] [(.long w2)])) _
  refine XS.lstore X0.here hx rfl (hb hby d6_32) rfl (l' := #[.val (.ref o0), .val (.long j1), .second, .val (.int i3), .val (.ref o4), .val (.int i5), .val (.int i6), .val (.long w2), .second]) (own_two h78) ?_
  show Steps p.tables e below (T0.setTop (mkF m 34 #[.val (.ref o0), .val (.long j1), .second, .val (.int i3), .val (.ref o4), .val (.int i5), .val (.int i6), .val (.long w2), .second] [])) _
  refine XS.lload X0.here hx rfl (hb hby d6_34) rfl ?_
  show Steps p.tables e below (T0.setTop (mkF m 36 #[.val (.ref o0), .val (.long j1), .second, .val (.int i3), .val (.ref o4), .val (.int i5), .val (.int i6), .val (.long w2), .second] [(.long w2)])) _
  refine XS.lloadN X0.here hx rfl (hb hby d6_36) rfl ?_
  show Steps p.tables e below (T0.setTop (mkF m 37 #[.val (.ref o0), .val (.long j1), .second, .val (.int i3), .val (.ref o4), .val (.int i5), .val (.int i6), .val (.long w2), .second] [(.long j1), (.long w2)])) _
  refine XS.lcmp X0.here hx rfl (hb hby d6_37) rfl ?_
  show Steps p.tables e below (T0.setTop (mkF m 38 #[.val (.ref o0), .val (.long j1), .second, .val (.int i3), .val (.ref o4), .val (.int i5), .val (.int i6), .val (.long w2), .second] [(.int (lcmpW w2 j1))])) _
  refine XS.ifYes X0.here hx rfl (pc0 := 38) (pc' := 49) rfl (hb hby d6_38) rfl ((if0 _ _).trans (flt hc38).2.1) (by decide) (by decide) ?_
  show Steps p.tables e below (T0.setTop (mkF m 49 #[.val (.ref o0), .val (.long j1), .second, .val (.int i3), .val (.ref o4), .val (.int i5), .val (.int i6), .val (.long w2), .second] [])) _
  refine XS.lload X0.here hx rfl (hb hby d6_49) rfl ?_
  show Steps p.tables e below (T0.setTop (mkF m 51 #[.val (.ref o0), .val (.long j1), .second, .val (.int i3), .val (.ref o4), .val (.int i5), .val (.int i6), .val (.long w2), .second] [(.long w2)])) _
  refine XS.lloadN X0.here hx rfl (hb hby d6_51) rfl ?_
  show Steps p.tables e below (T0.setTop (mkF m 52 #[.val (.ref o0), .val (.long j1), .second, .val (.int i3), .val (.ref o4), .val (.int i5), .val (.int i6), .val (.long w2), .second] [(.long j1), (.long w2)])) _
  refine XS.lcmp X0.here hx rfl (hb hby d6_52) rfl ?_
  show Steps p.tables e below (T0.setTop (mkF m 53 #[.val (.ref o0), .val (.long j1), .second, .val (.int i3), .val (.ref o4), .val (.int i5), .val (.int i6), .val (.long w2), .second] [(.int (lcmpW w2 j1))])) _
  refine XS.ifYes X0.here hx rfl (pc0 := 53) (pc' := 59) rfl (hb hby d6_53) rfl ((if0 _ _).trans (feq hc53).2) (by decide) (by decide) ?_
  show Steps p.tables e below (T0.setTop (mkF m 59 #[.val (.ref o0), .val (.long j1), .second, .val (.int i3), .val (.ref o4), .val (.int i5), .val (.int i6), .val (.long w2), .second] [])) _
  refine XS.iinc X0.here hx rfl (hb hby d6_59) rfl (l' := #[.val (.ref o0), .val (.long j1), .second, .val (.int i3), .val (.ref o4), .val (.int i5), .val (.int (i6 + (1 : Int32))), .val (.long w2), .second]) rfl ?_
  show Steps p.tables e below (T0.setTop (mkF m 62 #[.val (.ref o0), .val (.long j1), .second, .val (.int i3), .val (.ref o4), .val (.int i5), .val (.int (i6 + (1 : Int32))), .val (.long w2), .second] [])) _
  refine XS.goto X0.here hx rfl (pc0 := 62) (pc' := 20) rfl (hb hby d6_62) (by decide) (by decide) ?_
  exact kt
set_option maxRecDepth 65536 in
set_option maxHeartbeats 40000000 in
theorem tn6_20_65 {p : Program} {l : Launch} {e : Env} {R : Room} {s : State} {m : MethodId} {args : Array Value} {below : List Frame} {meth : Method} {c : Code} {T0 : State} {locs : List Loc} {cells slots : Nat} {Z : State} {a0 : Array Value} {h0 : Heap} (o0 : Addr) (j1 : Int64) (i3 : Int32) (o4 : Addr) (i5 : Int32) (i6 : Int32) (s7 : Slot) (s8 : Slot)
    (X0 : Stand p l e R s m args below meth c T0 locs cells slots) (hx : p.tables.exec = Jvm.exec) (hZ : Z.Warmed39 s.vm) (hw : ∀ d ∈ tables_1, d.before a0 Z = true) (hby : c.code = prog_44_method_9_code) (hml : c.maxLocals = 9) (hown : s.vm.findClass "com/example/mullion/mullion/aggregators/FurthestBack" = some m.cls) (e0 : T0.heap = h0) (hc24 : ¬ (i6 < i5)) :
    ∃ (T' : State), Stand p l e R s m args below meth c T' locs cells slots ∧ T'.heap = h0 ∧
      ∀ target, Steps p.tables e below (T'.setTop (mkF m 65 #[.val (.ref o0), .val (.long j1), .second, .val (.int i3), .val (.ref o4), .val (.int i5), .val (.int i6), s7, s8] [])) target → Steps p.tables e below (T0.setTop (mkF m 20 #[.val (.ref o0), .val (.long j1), .second, .val (.int i3), .val (.ref o4), .val (.int i5), .val (.int i6), s7, s8] [])) target := by

  refine ⟨T0, X0, e0, fun target kt => ?_⟩
  show Steps p.tables e below (T0.setTop (mkF m 20 #[.val (.ref o0), .val (.long j1), .second, .val (.int i3), .val (.ref o4), .val (.int i5), .val (.int i6), s7, s8] [])) _
  refine XS.iload X0.here hx rfl (hb hby d6_20) rfl ?_
  show Steps p.tables e below (T0.setTop (mkF m 22 #[.val (.ref o0), .val (.long j1), .second, .val (.int i3), .val (.ref o4), .val (.int i5), .val (.int i6), s7, s8] [(.int i6)])) _
  refine XS.iload X0.here hx rfl (hb hby d6_22) rfl ?_
  show Steps p.tables e below (T0.setTop (mkF m 24 #[.val (.ref o0), .val (.long j1), .second, .val (.int i3), .val (.ref o4), .val (.int i5), .val (.int i6), s7, s8] [(.int i5), (.int i6)])) _
  refine XS.icmpYes X0.here hx rfl (pc0 := 24) (pc' := 65) rfl (hb hby d6_24) rfl (flt hc24).2.1 (by decide) (by decide) ?_
  exact kt
/-- findSmallest's loop, whole -/
theorem loop6 {p : Program} {l : Launch} {e : Env} {R : Room} {s : State} {m : MethodId} {args : Array Value} {below : List Frame} {meth : Method} {c : Code} {locs : List Loc} {cells slots : Nat} {Z : State} {a0 : Array Value} {h0 : Heap} (o0 o4 : Addr) (f : Nat → Int64) (n : Nat) (hn : n ≤ 3) (cl : Cell) (A : Arr Z h0 o4 cl .long) (S : cl.slots.size = n) (H : ∀ j, j < n → cl.slots[j]? = some (.long (f j))) (hx : p.tables.exec = Jvm.exec) (hZ : Z.Warmed39 s.vm) (hw : ∀ d ∈ tables_1, d.before a0 Z = true) (hby : c.code = prog_44_method_9_code) (hml : c.maxLocals = 9) (hown : s.vm.findClass "com/example/mullion/mullion/aggregators/FurthestBack" = some m.cls) :
    ∀ (k i : Nat) (sm : Int64) (ct : Int32) (T0 : State) (s7 s8 : Slot), i + k = n → own_Two s7 s8 → Stand p l e R s m args below meth c T0 locs cells slots → T0.heap = h0 →
      ∃ (T' : State) (s7' s8' : Slot), Stand p l e R s m args below meth c T' locs cells slots ∧ T'.heap = h0 ∧
        ∀ target, Steps p.tables e below (T'.setTop (mkF m 65 #[.val (.ref o0), .val (.long (own_fs f k i (sm, ct)).1), .second, .val (.int (own_fs f k i (sm, ct)).2), .val (.ref o4), .val (.int (Int32.ofNat n)), .val (.int (Int32.ofNat n)), s7', s8'] [])) target → Steps p.tables e below (T0.setTop (mkF m 20 #[.val (.ref o0), .val (.long sm), .second, .val (.int ct), .val (.ref o4), .val (.int (Int32.ofNat n)), .val (.int (Int32.ofNat i)), s7, s8] [])) target := by
  intro k
  induction k with
  | zero =>
    intro i sm ct T0 s7 s8 hi h78 X0 e0
    have hi' : i = n := by omega
    obtain ⟨T1, X1, e1, st1⟩ := tn6_20_65 o0 sm ct o4 (Int32.ofNat n) (Int32.ofNat n) s7 s8 X0 hx hZ hw hby hml hown e0 Int32.lt_irrefl
    refine ⟨T1, s7, s8, X1, e1, fun target q => ?_⟩
    rw [hi']; exact st1 target q
  | succ k ih =>
    intro i sm ct T0 s7 s8 hi h78 X0 e0
    have h32 : (Int32.ofNat i).toNatClampNeg = i := own_n32 (by omega)
    have hin : ¬ (Int32.ofNat i < 0 ∨ cl.slots.size ≤ (Int32.ofNat i).toNatClampNeg) := by
      rw [S, h32]
      exact fun q => q.elim (own_nn (by omega)) (fun q => by omega)
    have hat : cl.slots[(Int32.ofNat i).toNatClampNeg]? = some (.long (f i)) := by rw [h32]; exact H i (by omega)
    have hlt := own_lt (show i < n by omega) hn
    by_cases c1 : lcmpW (f i) sm < (0 : Int32)
    · obtain ⟨T1, X1, e1, st1⟩ := tn6_20_20_ff o0 sm ct o4 (Int32.ofNat n) (Int32.ofNat i) s7 s8 (f i) cl X0 hx hZ hw hby hml hown e0 h78 A hin hat hlt c1
      obtain ⟨T', s7', s8', X', e', st⟩ := ih (i + 1) (f i) 1 T1 _ _ (by omega) (Or.inr ⟨f i, rfl, rfl⟩) X1 e1
      refine ⟨T', s7', s8', X', e', fun target q => st1 target ?_⟩
      rw [own_one]
      refine st target ?_
      rw [own_fs, own_step, if_pos c1] at q
      exact q
    · by_cases c2 : lcmpW (f i) sm = (0 : Int32)
      · obtain ⟨T1, X1, e1, st1⟩ := tn6_20_20_ftf o0 sm ct o4 (Int32.ofNat n) (Int32.ofNat i) s7 s8 (f i) cl X0 hx hZ hw hby hml hown e0 h78 A hin hat hlt c1 c2
        obtain ⟨T', s7', s8', X', e', st⟩ := ih (i + 1) sm (ct + 1) T1 _ _ (by omega) (Or.inr ⟨f i, rfl, rfl⟩) X1 e1
        refine ⟨T', s7', s8', X', e', fun target q => st1 target ?_⟩
        rw [own_one]
        refine st target ?_
        rw [own_fs, own_step, if_neg c1, if_pos c2] at q
        exact q
      · obtain ⟨T1, X1, e1, st1⟩ := tn6_20_20_ftt o0 sm ct o4 (Int32.ofNat n) (Int32.ofNat i) s7 s8 (f i) cl X0 hx hZ hw hby hml hown e0 h78 A hin hat hlt c1 c2
        obtain ⟨T', s7', s8', X', e', st⟩ := ih (i + 1) sm ct T1 _ _ (by omega) (Or.inr ⟨f i, rfl, rfl⟩) X1 e1
        refine ⟨T', s7', s8', X', e', fun target q => st1 target ?_⟩
        rw [own_one]
        refine st target ?_
        rw [own_fs, own_step, if_neg c1, if_neg c2] at q
        exact q
theorem d6_0 : decode prog_44_method_9_code 0 = .ok (.ldc2_w 42, 3) := by decide +kernel
theorem d6_3 : decode prog_44_method_9_code 3 = .ok (.lstore_n 1, 1) := by decide +kernel
theorem d6_4 : decode prog_44_method_9_code 4 = .ok (.iconst 0, 1) := by decide +kernel
theorem d6_5 : decode prog_44_method_9_code 5 = .ok (.istore_n 3, 1) := by decide +kernel
theorem d6_6 : decode prog_44_method_9_code 6 = .ok (.aload_n 0, 1) := by decide +kernel
theorem d6_7 : decode prog_44_method_9_code 7 = .ok (.getfield 16, 3) := by decide +kernel
theorem d6_10 : decode prog_44_method_9_code 10 = .ok (.astore 4, 2) := by decide +kernel
theorem d6_12 : decode prog_44_method_9_code 12 = .ok (.aload 4, 2) := by decide +kernel
theorem d6_14 : decode prog_44_method_9_code 14 = .ok (.arraylength, 1) := by decide +kernel
theorem d6_15 : decode prog_44_method_9_code 15 = .ok (.istore 5, 2) := by decide +kernel
theorem d6_17 : decode prog_44_method_9_code 17 = .ok (.iconst 0, 1) := by decide +kernel
theorem d6_18 : decode prog_44_method_9_code 18 = .ok (.istore 6, 2) := by decide +kernel
theorem d6_65 : decode prog_44_method_9_code 65 = .ok (.aload_n 0, 1) := by decide +kernel
theorem d6_66 : decode prog_44_method_9_code 66 = .ok (.lload_n 1, 1) := by decide +kernel
theorem d6_67 : decode prog_44_method_9_code 67 = .ok (.putfield 32, 3) := by decide +kernel
theorem d6_70 : decode prog_44_method_9_code 70 = .ok (.aload_n 0, 1) := by decide +kernel
theorem d6_71 : decode prog_44_method_9_code 71 = .ok (.iload_n 3, 1) := by decide +kernel
theorem d6_72 : decode prog_44_method_9_code 72 = .ok (.putfield 36, 3) := by decide +kernel
theorem d6_75 : decode prog_44_method_9_code 75 = .ok (.lload_n 1, 1) := by decide +kernel
theorem d6_76 : decode prog_44_method_9_code 76 = .ok (.lreturn, 1) := by decide +kernel
theorem pn_6 : plainName "com/example/mullion/mullion/aggregators/FurthestBack" = true := by first | (simp [plainName, overriddenIn]; done) | decide +kernel
theorem ef_6 (m : MethodId) (x0 : Addr) : entryFrame m #[(.ref x0)] 9 = mkF m 0 #[.val (.ref x0), .unset, .unset, .unset, .unset, .unset, .unset, .unset, .unset] [] := by first | (simp [entryFrame, mkF, argsToLocals, Value.category]; done) | rfl
def Q6 (Z : State) (a1 : Addr) (t : Addr) (n : Nat) (f : Nat → Int64) (u_mark_a1 : Value) (u_atOrBelowMark_a1 : Value) (h0 : Heap) (n0 : Nat) (v : Option Value) (h : Heap) (L : List Loc) : Prop := v = some (.long (own_fs f n 0 ((9223372036854775807 : Int64), (0 : Int32))).1) ∧ Fr n0 L ∧ Keep h0 h [a1] ∧ Exa Z h a1 "com/example/mullion/mullion/aggregators/FurthestBack" ∧ Fld Z h a1 "com/example/mullion/mullion/aggregators/FurthestBack" "values" "[J" (.ref t) ∧ Fld Z h a1 "com/example/mullion/mullion/aggregators/FurthestBack" "mark" "J" (.long (own_fs f n 0 ((9223372036854775807 : Int64), (0 : Int32))).1) ∧ Fld Z h a1 "com/example/mullion/mullion/aggregators/FurthestBack" "atOrBelowMark" "I" (.int (own_fs f n 0 ((9223372036854775807 : Int64), (0 : Int32))).2) ∧ own_L Z h t n f
set_option maxRecDepth 65536 in
set_option maxHeartbeats 40000000 in
theorem rm6 (l : Launch) (Z : State) (a0 : Array Value) (hw : ∀ d ∈ tables_1, d.before a0 Z = true) (ws : List Jvm.Cond) (a1 : Addr) (t : Addr) (n : Nat) (f : Nat → Int64) (u_mark_a1 : Value) (u_atOrBelowMark_a1 : Value) (h0 : Heap) (n0 : Nat) (Z0 : n0 ≤ h0.size) (hn : n ≤ 3) (E_a1 : Exa Z h0 a1 "com/example/mullion/mullion/aggregators/FurthestBack") (F_values_a1 : Fld Z h0 a1 "com/example/mullion/mullion/aggregators/FurthestBack" "values" "[J" (.ref t)) (F_mark_a1 : Fld Z h0 a1 "com/example/mullion/mullion/aggregators/FurthestBack" "mark" "J" u_mark_a1) (F_atOrBelowMark_a1 : Fld Z h0 a1 "com/example/mullion/mullion/aggregators/FurthestBack" "atOrBelowMark" "I" u_atOrBelowMark_a1) (V : own_L Z h0 t n f) (hne : a1 ≠ t) (g_a1 : n0 ≤ a1) :
    MetFree l (⟨"com/example/mullion/mullion/aggregators/FurthestBack", "findSmallest", "()J"⟩ : MethodName) (head1 (Jvm.Cond.code (⟨"com/example/mullion/mullion/aggregators/FurthestBack", "findSmallest", "()J"⟩ : MethodName) prog_44_method_9_code 9 (some .long) :: ws) ({ frames := 0, cells := 0, slots := 0, locals := 0 } : Room)) (fun a U => a = #[(.ref a1)] ∧ Z.Warmed39 U.vm ∧ U.heap = h0) (fun _ _ _ _ _ => True) (fun _ U o U' => ∃ v L, o = .returned v ∧ Q6 Z a1 t n f u_mark_a1 u_atOrBelowMark_a1 h0 n0 v U'.heap L ∧ FrameEnd U o U' L ({ frames := 0, cells := 0, slots := 0, locals := 0 } : Room).cells ({ frames := 0, cells := 0, slots := 0, locals := 0 } : Room).slots) := by
  refine MetFree.of_bodySF (plainFor_of_name pn_6) hisR ?_
  intro p e s m args below meth c s₁ Bd hml0 hP hK
  obtain ⟨rfl, hZ, hh⟩ := hP
  have hx := Bd.exec
  have hby := Bd.bytes
  have hml : c.maxLocals = 9 := hml0
  have hown : s.vm.findClass "com/example/mullion/mullion/aggregators/FurthestBack" = some m.cls := findClass_of_methodNamed Bd.named
  have hnm := (name_of_methodNamed Bd.named Bd.method).1
  have X0 : Stand p l e ({ frames := 0, cells := 0, slots := 0, locals := 0 } : Room) s m #[(.ref a1)] below meth c s₁ [] 0 0 := Stand.of_body Bd
  have e0 : s₁.heap = h0 := by rw [← hh, Bd.state]; rfl
  have N0 := Fr.nil n0
  have pre0 : ∀ t, Steps p.tables e below (s₁.setTop (mkF m 0 #[.val (.ref a1), .unset, .unset, .unset, .unset, .unset, .unset, .unset, .unset] [])) t → Steps p.tables e below (s₁.setTop (entryFrame m #[(.ref a1)] 9)) t := fun t k => castTop (ef_6 m a1) k
  have V0 := V
  obtain ⟨cl_t, Ar_t, S_q, H_q⟩ := V
  have S_t : cl_t.slots.size = (Int32.ofNat n).toNatClampNeg := by rw [S_q, own_n32 hn]
  have N_t : ¬ Int32.ofNat n < 0 := own_nn hn
  obtain ⟨T3, X3, e3, st3⟩ := getF X0 hx hZ hown (host := "") (Or.inl (hw _ (List.mem_of_getElem? (i := 12) rfl))) Via.refl e0 F_values_a1 (g := (mkF m 7 #[.val (.ref a1), .val (.long (9223372036854775807 : Int64)), .second, .val (.int (0 : Int32)), .unset, .unset, .unset, .unset, .unset] [(.ref a1)])) rfl rfl (hb hby d6_7)
  obtain ⟨T4, s7_4, s8_4, X4, e4, st4⟩ := loop6 a1 t f n hn cl_t Ar_t S_q H_q hx hZ hw hby hml hown n 0 (9223372036854775807 : Int64) (0 : Int32) T3 .unset .unset (by omega) (Or.inl ⟨rfl, rfl⟩) X3 e3
  obtain ⟨T5, h5, X5, e5, W5, st5⟩ := putF X4 hx hZ hown (host := "") (Or.inl (hw _ (List.mem_of_getElem? (i := 23) rfl))) Via.refl e4 F_mark_a1 E_a1 (Or.inl (hw _ (List.mem_of_getElem? (i := 24) rfl))) (hw _ (List.mem_of_getElem? (i := 2) rfl)) (ty := .long) (by decide) rfl rfl (g := (mkF m 67 #[.val (.ref a1), .val (.long (own_fs f n 0 ((9223372036854775807 : Int64), (0 : Int32))).1), .second, .val (.int (own_fs f n 0 ((9223372036854775807 : Int64), (0 : Int32))).2), .val (.ref t), .val (.int (Int32.ofNat n)), .val (.int (Int32.ofNat n)), s7_4, s8_4] [(.long (own_fs f n 0 ((9223372036854775807 : Int64), (0 : Int32))).1), (.ref a1)])) rfl rfl (hb hby d6_67)
  have Fw5 := F_mark_a1.same W5
  have K5 : Keep h0 h5 [a1] := (Keep.refl h0 [a1]).wr W5 (Or.inl (List.mem_of_getElem? (i := 0) rfl))
  have N5 := Fr.snoc X5 N0 g_a1
  obtain ⟨T6, h6, X6, e6, W6, st6⟩ := putF X5 hx hZ hown (host := "") (Or.inl (hw _ (List.mem_of_getElem? (i := 25) rfl))) Via.refl e5 (F_atOrBelowMark_a1.other W5 (Or.inr (slot_ne (Or.inl (hw _ (List.mem_of_getElem? (i := 26) rfl))) (Or.inl (hw _ (List.mem_of_getElem? (i := 24) rfl))) (by decide) (t := .int) (t' := .long) (by decide) (by decide)))) (E_a1.wr W5) (Or.inl (hw _ (List.mem_of_getElem? (i := 26) rfl))) (hw _ (List.mem_of_getElem? (i := 2) rfl)) (ty := .int) (by decide) rfl rfl (g := (mkF m 72 #[.val (.ref a1), .val (.long (own_fs f n 0 ((9223372036854775807 : Int64), (0 : Int32))).1), .second, .val (.int (own_fs f n 0 ((9223372036854775807 : Int64), (0 : Int32))).2), .val (.ref t), .val (.int (Int32.ofNat n)), .val (.int (Int32.ofNat n)), s7_4, s8_4] [(.int (own_fs f n 0 ((9223372036854775807 : Int64), (0 : Int32))).2), (.ref a1)])) rfl rfl (hb hby d6_72)
  have Fw6 := (F_atOrBelowMark_a1.other W5 (Or.inr (slot_ne (Or.inl (hw _ (List.mem_of_getElem? (i := 26) rfl))) (Or.inl (hw _ (List.mem_of_getElem? (i := 24) rfl))) (by decide) (t := .int) (t' := .long) (by decide) (by decide)))).same W6
  have K6 : Keep h0 h6 [a1] := K5.wr W6 (Or.inl (List.mem_of_getElem? (i := 0) rfl))
  have N6 := Fr.snoc X6 N5 g_a1
  obtain ⟨fs, hr, hrun, hended, hW, hsame⟩ := X6.leave (v := some (.long (own_fs f n 0 ((9223372036854775807 : Int64), (0 : Int32))).1)) (fun h => by rw [Bd.returns] at h; cases h)
  refine ⟨_, _, pre0 _ ?_, hrun, hended, _, _, rfl, ?_, ⟨_, rfl⟩, hW, hsame.mono (by decide) (by decide)⟩
  · show Steps p.tables e below (s₁.setTop (mkF m 0 #[.val (.ref a1), .unset, .unset, .unset, .unset, .unset, .unset, .unset, .unset] [])) _
    refine X0.ldc2Long hx hown (mvT hZ (hw _ (List.mem_of_getElem? (i := 37) rfl))) (g := (mkF m 0 #[.val (.ref a1), .unset, .unset, .unset, .unset, .unset, .unset, .unset, .unset] [])) rfl (hb hby d6_0) _ ?_
    show Steps p.tables e below (s₁.setTop (mkF m 3 #[.val (.ref a1), .unset, .unset, .unset, .unset, .unset, .unset, .unset, .unset] [(.long (9223372036854775807 : Int64))])) _
    refine XS.lstoreN X0.here hx rfl (hb hby d6_3) rfl (l' := #[.val (.ref a1), .val (.long (9223372036854775807 : Int64)), .second, .unset, .unset, .unset, .unset, .unset, .unset]) rfl ?_
    show Steps p.tables e below (s₁.setTop (mkF m 4 #[.val (.ref a1), .val (.long (9223372036854775807 : Int64)), .second, .unset, .unset, .unset, .unset, .unset, .unset] [])) _
    refine XS.iconst X0.here hx rfl (hb hby d6_4) ?_
    show Steps p.tables e below (s₁.setTop (mkF m 5 #[.val (.ref a1), .val (.long (9223372036854775807 : Int64)), .second, .unset, .unset, .unset, .unset, .unset, .unset] [(.int (0 : Int32))])) _
    refine XS.istoreN X0.here hx rfl (hb hby d6_5) rfl (l' := #[.val (.ref a1), .val (.long (9223372036854775807 : Int64)), .second, .val (.int (0 : Int32)), .unset, .unset, .unset, .unset, .unset]) rfl ?_
    show Steps p.tables e below (s₁.setTop (mkF m 6 #[.val (.ref a1), .val (.long (9223372036854775807 : Int64)), .second, .val (.int (0 : Int32)), .unset, .unset, .unset, .unset, .unset] [])) _
    refine XS.aloadN X0.here hx rfl (hb hby d6_6) rfl rfl ?_
    show Steps p.tables e below (s₁.setTop (mkF m 7 #[.val (.ref a1), .val (.long (9223372036854775807 : Int64)), .second, .val (.int (0 : Int32)), .unset, .unset, .unset, .unset, .unset] [(.ref a1)])) _
    refine st3 _ ?_
    show Steps p.tables e below (T3.setTop (mkF m 10 #[.val (.ref a1), .val (.long (9223372036854775807 : Int64)), .second, .val (.int (0 : Int32)), .unset, .unset, .unset, .unset, .unset] [(.ref t)])) _
    refine XS.astore X3.here hx rfl (hb hby d6_10) rfl rfl (l' := #[.val (.ref a1), .val (.long (9223372036854775807 : Int64)), .second, .val (.int (0 : Int32)), .val (.ref t), .unset, .unset, .unset, .unset]) rfl ?_
    show Steps p.tables e below (T3.setTop (mkF m 12 #[.val (.ref a1), .val (.long (9223372036854775807 : Int64)), .second, .val (.int (0 : Int32)), .val (.ref t), .unset, .unset, .unset, .unset] [])) _
    refine XS.aload X3.here hx rfl (hb hby d6_12) rfl rfl ?_
    show Steps p.tables e below (T3.setTop (mkF m 14 #[.val (.ref a1), .val (.long (9223372036854775807 : Int64)), .second, .val (.int (0 : Int32)), .val (.ref t), .unset, .unset, .unset, .unset] [(.ref t)])) _
    refine X3.arraylength hx (by rw [e3]; exact Ar_t.1) (State.isArrayOf_alike hZ.alike Ar_t.2.1) (g := (mkF m 14 #[.val (.ref a1), .val (.long (9223372036854775807 : Int64)), .second, .val (.int (0 : Int32)), .val (.ref t), .unset, .unset, .unset, .unset] [(.ref t)])) rfl rfl (hb hby d6_14) _ ?_
    rw [len_of S_t N_t]
    show Steps p.tables e below (T3.setTop (mkF m 15 #[.val (.ref a1), .val (.long (9223372036854775807 : Int64)), .second, .val (.int (0 : Int32)), .val (.ref t), .unset, .unset, .unset, .unset] [(.int (Int32.ofNat n))])) _
    refine XS.istore X3.here hx rfl (hb hby d6_15) rfl (l' := #[.val (.ref a1), .val (.long (9223372036854775807 : Int64)), .second, .val (.int (0 : Int32)), .val (.ref t), .val (.int (Int32.ofNat n)), .unset, .unset, .unset]) rfl ?_
    show Steps p.tables e below (T3.setTop (mkF m 17 #[.val (.ref a1), .val (.long (9223372036854775807 : Int64)), .second, .val (.int (0 : Int32)), .val (.ref t), .val (.int (Int32.ofNat n)), .unset, .unset, .unset] [])) _
    refine XS.iconst X3.here hx rfl (hb hby d6_17) ?_
    show Steps p.tables e below (T3.setTop (mkF m 18 #[.val (.ref a1), .val (.long (9223372036854775807 : Int64)), .second, .val (.int (0 : Int32)), .val (.ref t), .val (.int (Int32.ofNat n)), .unset, .unset, .unset] [(.int (0 : Int32))])) _
    refine XS.istore X3.here hx rfl (hb hby d6_18) rfl (l' := #[.val (.ref a1), .val (.long (9223372036854775807 : Int64)), .second, .val (.int (0 : Int32)), .val (.ref t), .val (.int (Int32.ofNat n)), .val (.int (0 : Int32)), .unset, .unset]) rfl ?_
    show Steps p.tables e below (T3.setTop (mkF m 20 #[.val (.ref a1), .val (.long (9223372036854775807 : Int64)), .second, .val (.int (0 : Int32)), .val (.ref t), .val (.int (Int32.ofNat n)), .val (.int (0 : Int32)), .unset, .unset] [])) _
    refine st4 _ ?_
    show Steps p.tables e below (T4.setTop (mkF m 65 #[.val (.ref a1), .val (.long (own_fs f n 0 ((9223372036854775807 : Int64), (0 : Int32))).1), .second, .val (.int (own_fs f n 0 ((9223372036854775807 : Int64), (0 : Int32))).2), .val (.ref t), .val (.int (Int32.ofNat n)), .val (.int (Int32.ofNat n)), s7_4, s8_4] [])) _
    refine XS.aloadN X4.here hx rfl (hb hby d6_65) rfl rfl ?_
    show Steps p.tables e below (T4.setTop (mkF m 66 #[.val (.ref a1), .val (.long (own_fs f n 0 ((9223372036854775807 : Int64), (0 : Int32))).1), .second, .val (.int (own_fs f n 0 ((9223372036854775807 : Int64), (0 : Int32))).2), .val (.ref t), .val (.int (Int32.ofNat n)), .val (.int (Int32.ofNat n)), s7_4, s8_4] [(.ref a1)])) _
    refine XS.lloadN X4.here hx rfl (hb hby d6_66) rfl ?_
    show Steps p.tables e below (T4.setTop (mkF m 67 #[.val (.ref a1), .val (.long (own_fs f n 0 ((9223372036854775807 : Int64), (0 : Int32))).1), .second, .val (.int (own_fs f n 0 ((9223372036854775807 : Int64), (0 : Int32))).2), .val (.ref t), .val (.int (Int32.ofNat n)), .val (.int (Int32.ofNat n)), s7_4, s8_4] [(.long (own_fs f n 0 ((9223372036854775807 : Int64), (0 : Int32))).1), (.ref a1)])) _
    refine st5 _ ?_
    show Steps p.tables e below (T5.setTop (mkF m 70 #[.val (.ref a1), .val (.long (own_fs f n 0 ((9223372036854775807 : Int64), (0 : Int32))).1), .second, .val (.int (own_fs f n 0 ((9223372036854775807 : Int64), (0 : Int32))).2), .val (.ref t), .val (.int (Int32.ofNat n)), .val (.int (Int32.ofNat n)), s7_4, s8_4] [])) _
    refine XS.aloadN X5.here hx rfl (hb hby d6_70) rfl rfl ?_
    show Steps p.tables e below (T5.setTop (mkF m 71 #[.val (.ref a1), .val (.long (own_fs f n 0 ((9223372036854775807 : Int64), (0 : Int32))).1), .second, .val (.int (own_fs f n 0 ((9223372036854775807 : Int64), (0 : Int32))).2), .val (.ref t), .val (.int (Int32.ofNat n)), .val (.int (Int32.ofNat n)), s7_4, s8_4] [(.ref a1)])) _
    refine XS.iloadN X5.here hx rfl (hb hby d6_71) rfl ?_
    show Steps p.tables e below (T5.setTop (mkF m 72 #[.val (.ref a1), .val (.long (own_fs f n 0 ((9223372036854775807 : Int64), (0 : Int32))).1), .second, .val (.int (own_fs f n 0 ((9223372036854775807 : Int64), (0 : Int32))).2), .val (.ref t), .val (.int (Int32.ofNat n)), .val (.int (Int32.ofNat n)), s7_4, s8_4] [(.int (own_fs f n 0 ((9223372036854775807 : Int64), (0 : Int32))).2), (.ref a1)])) _
    refine st6 _ ?_
    show Steps p.tables e below (T6.setTop (mkF m 75 #[.val (.ref a1), .val (.long (own_fs f n 0 ((9223372036854775807 : Int64), (0 : Int32))).1), .second, .val (.int (own_fs f n 0 ((9223372036854775807 : Int64), (0 : Int32))).2), .val (.ref t), .val (.int (Int32.ofNat n)), .val (.int (Int32.ofNat n)), s7_4, s8_4] [])) _
    refine XS.lloadN X6.here hx rfl (hb hby d6_75) rfl ?_
    show Steps p.tables e below (T6.setTop (mkF m 76 #[.val (.ref a1), .val (.long (own_fs f n 0 ((9223372036854775807 : Int64), (0 : Int32))).1), .second, .val (.int (own_fs f n 0 ((9223372036854775807 : Int64), (0 : Int32))).2), .val (.ref t), .val (.int (Int32.ofNat n)), .val (.int (Int32.ofNat n)), s7_4, s8_4] [(.long (own_fs f n 0 ((9223372036854775807 : Int64), (0 : Int32))).1)])) _
    jvm_step X6.here [X6.here.top, hx, (hb hby d6_76), X6.method', Bd.returns, narrow]
    first | (intro acts; rw [hr _ acts rfl rfl rfl]) | rw [hr _ _ rfl rfl rfl]
    exact Steps.refl _
  · show Q6 Z a1 t n f u_mark_a1 u_atOrBelowMark_a1 h0 n0 _ T6.heap _
    rw [e6]
    exact ⟨rfl, N6, K6, E_a1.keep K6, ((F_values_a1.other W5 (Or.inr (slot_ne (Or.inr (hw _ (List.mem_of_getElem? (i := 13) rfl))) (Or.inl (hw _ (List.mem_of_getElem? (i := 24) rfl))) (by decide) (t := (.array .long)) (t' := .long) (by decide) (by decide)))).other W6 (Or.inr (slot_ne (Or.inr (hw _ (List.mem_of_getElem? (i := 13) rfl))) (Or.inl (hw _ (List.mem_of_getElem? (i := 26) rfl))) (by decide) (t := (.array .long)) (t' := .int) (by decide) (by decide)))), (Fw5.other W6 (Or.inr (slot_ne (Or.inl (hw _ (List.mem_of_getElem? (i := 24) rfl))) (Or.inl (hw _ (List.mem_of_getElem? (i := 26) rfl))) (by decide) (t := .long) (t' := .int) (by decide) (by decide)))), Fw6, (V0.other W5 hne.symm).other W6 hne.symm⟩
theorem d7_0 : decode prog_44_method_8_code 0 = .ok (.aload_n 0, 1) := by decide +kernel
theorem d7_1 : decode prog_44_method_8_code 1 = .ok (.getfield 32, 3) := by decide +kernel
theorem d7_4 : decode prog_44_method_8_code 4 = .ok (.lreturn, 1) := by decide +kernel
theorem pn_7 : plainName "com/example/mullion/mullion/aggregators/FurthestBack" = true := by first | (simp [plainName, overriddenIn]; done) | decide +kernel
theorem ef_7 (m : MethodId) (x0 : Addr) : entryFrame m #[(.ref x0)] 1 = mkF m 0 #[.val (.ref x0)] [] := by first | (simp [entryFrame, mkF, argsToLocals, Value.category]; done) | rfl
def Q7 (Z : State) (a1 : Addr) (w2 : Int64) (h0 : Heap) (n0 : Nat) (v : Option Value) (h : Heap) (L : List Loc) : Prop := v = some (.long w2) ∧ Fr n0 L ∧ h = h0
set_option maxRecDepth 65536 in
set_option maxHeartbeats 40000000 in
theorem rm7 (l : Launch) (Z : State) (a0 : Array Value) (hw : ∀ d ∈ tables_1, d.before a0 Z = true) (ws : List Jvm.Cond) (a1 : Addr) (w2 : Int64) (h0 : Heap) (n0 : Nat) (Z0 : n0 ≤ h0.size) (F_mark_a1 : Fld Z h0 a1 "com/example/mullion/mullion/aggregators/FurthestBack" "mark" "J" (.long w2)) :
    MetFree l (⟨"com/example/mullion/mullion/aggregators/FurthestBack", "mark", "()J"⟩ : MethodName) (head1 (Jvm.Cond.code (⟨"com/example/mullion/mullion/aggregators/FurthestBack", "mark", "()J"⟩ : MethodName) prog_44_method_8_code 1 (some .long) :: ws) ({ frames := 0, cells := 0, slots := 0, locals := 0 } : Room)) (fun a U => a = #[(.ref a1)] ∧ Z.Warmed39 U.vm ∧ U.heap = h0) (fun _ _ _ _ _ => True) (fun _ U o U' => ∃ v L, o = .returned v ∧ Q7 Z a1 w2 h0 n0 v U'.heap L ∧ FrameEnd U o U' L ({ frames := 0, cells := 0, slots := 0, locals := 0 } : Room).cells ({ frames := 0, cells := 0, slots := 0, locals := 0 } : Room).slots) := by
  refine MetFree.of_bodySF (plainFor_of_name pn_7) hisR ?_
  intro p e s m args below meth c s₁ Bd hml0 hP hK
  obtain ⟨rfl, hZ, hh⟩ := hP
  have hx := Bd.exec
  have hby := Bd.bytes
  have hml : c.maxLocals = 1 := hml0
  have hown : s.vm.findClass "com/example/mullion/mullion/aggregators/FurthestBack" = some m.cls := findClass_of_methodNamed Bd.named
  have hnm := (name_of_methodNamed Bd.named Bd.method).1
  have X0 : Stand p l e ({ frames := 0, cells := 0, slots := 0, locals := 0 } : Room) s m #[(.ref a1)] below meth c s₁ [] 0 0 := Stand.of_body Bd
  have e0 : s₁.heap = h0 := by rw [← hh, Bd.state]; rfl
  have N0 := Fr.nil n0
  have pre0 : ∀ t, Steps p.tables e below (s₁.setTop (mkF m 0 #[.val (.ref a1)] [])) t → Steps p.tables e below (s₁.setTop (entryFrame m #[(.ref a1)] 1)) t := fun t k => castTop (ef_7 m a1) k
  obtain ⟨T3, X3, e3, st3⟩ := getF X0 hx hZ hown (host := "") (Or.inl (hw _ (List.mem_of_getElem? (i := 23) rfl))) Via.refl e0 F_mark_a1 (g := (mkF m 1 #[.val (.ref a1)] [(.ref a1)])) rfl rfl (hb hby d7_1)
  obtain ⟨fs, hr, hrun, hended, hW, hsame⟩ := X3.leave (v := some (.long w2)) (fun h => by rw [Bd.returns] at h; cases h)
  refine ⟨_, _, pre0 _ ?_, hrun, hended, _, _, rfl, ?_, ⟨_, rfl⟩, hW, hsame.mono (by decide) (by decide)⟩
  · show Steps p.tables e below (s₁.setTop (mkF m 0 #[.val (.ref a1)] [])) _
    refine XS.aloadN X0.here hx rfl (hb hby d7_0) rfl rfl ?_
    show Steps p.tables e below (s₁.setTop (mkF m 1 #[.val (.ref a1)] [(.ref a1)])) _
    refine st3 _ ?_
    show Steps p.tables e below (T3.setTop (mkF m 4 #[.val (.ref a1)] [(.long w2)])) _
    jvm_step X3.here [X3.here.top, hx, (hb hby d7_4), X3.method', Bd.returns, narrow]
    first | (intro acts; rw [hr _ acts rfl rfl rfl]) | rw [hr _ _ rfl rfl rfl]
    exact Steps.refl _
  · show Q7 Z a1 w2 h0 n0 _ T3.heap _
    rw [e3]
    exact ⟨rfl, N0, rfl⟩
theorem d8_0 : decode prog_44_method_7_code 0 = .ok (.aload_n 0, 1) := by decide +kernel
theorem d8_1 : decode prog_44_method_7_code 1 = .ok (.getfield 36, 3) := by decide +kernel
theorem d8_4 : decode prog_44_method_7_code 4 = .ok (.ifCond .ne 7, 3) := by decide +kernel
theorem d8_7 : decode prog_44_method_7_code 7 = .ok (.iconst 1, 1) := by decide +kernel
theorem d8_8 : decode prog_44_method_7_code 8 = .ok (.goto 4, 3) := by decide +kernel
theorem d8_12 : decode prog_44_method_7_code 12 = .ok (.ireturn, 1) := by decide +kernel
theorem pn_8 : plainName "com/example/mullion/mullion/aggregators/FurthestBack" = true := by first | (simp [plainName, overriddenIn]; done) | decide +kernel
theorem ef_8 (m : MethodId) (x0 : Addr) : entryFrame m #[(.ref x0)] 1 = mkF m 0 #[.val (.ref x0)] [] := by first | (simp [entryFrame, mkF, argsToLocals, Value.category]; done) | rfl
def Q8f (Z : State) (a1 : Addr) (w2 : Int32) (h0 : Heap) (n0 : Nat) (v : Option Value) (h : Heap) (L : List Loc) : Prop := v = some (.int (1 : Int32)) ∧ Fr n0 L ∧ h = h0
set_option maxRecDepth 65536 in
set_option maxHeartbeats 40000000 in
theorem rm8_f (l : Launch) (Z : State) (a0 : Array Value) (hw : ∀ d ∈ tables_1, d.before a0 Z = true) (ws : List Jvm.Cond) (a1 : Addr) (w2 : Int32) (h0 : Heap) (n0 : Nat) (Z0 : n0 ≤ h0.size) (F_atOrBelowMark_a1 : Fld Z h0 a1 "com/example/mullion/mullion/aggregators/FurthestBack" "atOrBelowMark" "I" (.int w2)) (hc4 : w2 = (0 : Int32)) :
    MetFree l (⟨"com/example/mullion/mullion/aggregators/FurthestBack", "allMovedOn", "()Z"⟩ : MethodName) (head1 (Jvm.Cond.code (⟨"com/example/mullion/mullion/aggregators/FurthestBack", "allMovedOn", "()Z"⟩ : MethodName) prog_44_method_7_code 1 (some .boolean) :: ws) ({ frames := 0, cells := 0, slots := 0, locals := 0 } : Room)) (fun a U => a = #[(.ref a1)] ∧ Z.Warmed39 U.vm ∧ U.heap = h0) (fun _ _ _ _ _ => True) (fun _ U o U' => ∃ v L, o = .returned v ∧ Q8f Z a1 w2 h0 n0 v U'.heap L ∧ FrameEnd U o U' L ({ frames := 0, cells := 0, slots := 0, locals := 0 } : Room).cells ({ frames := 0, cells := 0, slots := 0, locals := 0 } : Room).slots) := by
  refine MetFree.of_bodySF (plainFor_of_name pn_8) hisR ?_
  intro p e s m args below meth c s₁ Bd hml0 hP hK
  obtain ⟨rfl, hZ, hh⟩ := hP
  have hx := Bd.exec
  have hby := Bd.bytes
  have hml : c.maxLocals = 1 := hml0
  have hown : s.vm.findClass "com/example/mullion/mullion/aggregators/FurthestBack" = some m.cls := findClass_of_methodNamed Bd.named
  have hnm := (name_of_methodNamed Bd.named Bd.method).1
  have X0 : Stand p l e ({ frames := 0, cells := 0, slots := 0, locals := 0 } : Room) s m #[(.ref a1)] below meth c s₁ [] 0 0 := Stand.of_body Bd
  have e0 : s₁.heap = h0 := by rw [← hh, Bd.state]; rfl
  have N0 := Fr.nil n0
  have pre0 : ∀ t, Steps p.tables e below (s₁.setTop (mkF m 0 #[.val (.ref a1)] [])) t → Steps p.tables e below (s₁.setTop (entryFrame m #[(.ref a1)] 1)) t := fun t k => castTop (ef_8 m a1) k
  obtain ⟨T3, X3, e3, st3⟩ := getF X0 hx hZ hown (host := "") (Or.inl (hw _ (List.mem_of_getElem? (i := 25) rfl))) Via.refl e0 F_atOrBelowMark_a1 (g := (mkF m 1 #[.val (.ref a1)] [(.ref a1)])) rfl rfl (hb hby d8_1)
  obtain ⟨fs, hr, hrun, hended, hW, hsame⟩ := X3.leave (v := some (.int (1 : Int32))) (fun h => by rw [Bd.returns] at h; cases h)
  refine ⟨_, _, pre0 _ ?_, hrun, hended, _, _, rfl, ?_, ⟨_, rfl⟩, hW, hsame.mono (by decide) (by decide)⟩
  · show Steps p.tables e below (s₁.setTop (mkF m 0 #[.val (.ref a1)] [])) _
    refine XS.aloadN X0.here hx rfl (hb hby d8_0) rfl rfl ?_
    show Steps p.tables e below (s₁.setTop (mkF m 1 #[.val (.ref a1)] [(.ref a1)])) _
    refine st3 _ ?_
    show Steps p.tables e below (T3.setTop (mkF m 4 #[.val (.ref a1)] [(.int w2)])) _
    refine XS.ifNo X3.here hx rfl (hb hby d8_4) rfl ((if0 _ _).trans (teq hc4).2) ?_
    show Steps p.tables e below (T3.setTop (mkF m 7 #[.val (.ref a1)] [])) _
    refine XS.iconst X3.here hx rfl (hb hby d8_7) ?_
    show Steps p.tables e below (T3.setTop (mkF m 8 #[.val (.ref a1)] [(.int (1 : Int32))])) _
    refine XS.goto X3.here hx rfl (pc0 := 8) (pc' := 12) rfl (hb hby d8_8) (by decide) (by decide) ?_
    show Steps p.tables e below (T3.setTop (mkF m 12 #[.val (.ref a1)] [(.int (1 : Int32))])) _
    exact retN X3 hx (t := .boolean) Bd.returns (by simp) (hb hby d8_12) hr
  · show Q8f Z a1 w2 h0 n0 _ T3.heap _
    rw [e3]
    exact ⟨rfl, N0, rfl⟩
theorem d8_11 : decode prog_44_method_7_code 11 = .ok (.iconst 0, 1) := by decide +kernel
def Q8t (Z : State) (a1 : Addr) (w2 : Int32) (h0 : Heap) (n0 : Nat) (v : Option Value) (h : Heap) (L : List Loc) : Prop := v = some (.int (0 : Int32)) ∧ Fr n0 L ∧ h = h0
set_option maxRecDepth 65536 in
set_option maxHeartbeats 40000000 in
theorem rm8_t (l : Launch) (Z : State) (a0 : Array Value) (hw : ∀ d ∈ tables_1, d.before a0 Z = true) (ws : List Jvm.Cond) (a1 : Addr) (w2 : Int32) (h0 : Heap) (n0 : Nat) (Z0 : n0 ≤ h0.size) (F_atOrBelowMark_a1 : Fld Z h0 a1 "com/example/mullion/mullion/aggregators/FurthestBack" "atOrBelowMark" "I" (.int w2)) (hc4 : ¬ (w2 = (0 : Int32))) :
    MetFree l (⟨"com/example/mullion/mullion/aggregators/FurthestBack", "allMovedOn", "()Z"⟩ : MethodName) (head1 (Jvm.Cond.code (⟨"com/example/mullion/mullion/aggregators/FurthestBack", "allMovedOn", "()Z"⟩ : MethodName) prog_44_method_7_code 1 (some .boolean) :: ws) ({ frames := 0, cells := 0, slots := 0, locals := 0 } : Room)) (fun a U => a = #[(.ref a1)] ∧ Z.Warmed39 U.vm ∧ U.heap = h0) (fun _ _ _ _ _ => True) (fun _ U o U' => ∃ v L, o = .returned v ∧ Q8t Z a1 w2 h0 n0 v U'.heap L ∧ FrameEnd U o U' L ({ frames := 0, cells := 0, slots := 0, locals := 0 } : Room).cells ({ frames := 0, cells := 0, slots := 0, locals := 0 } : Room).slots) := by
  refine MetFree.of_bodySF (plainFor_of_name pn_8) hisR ?_
  intro p e s m args below meth c s₁ Bd hml0 hP hK
  obtain ⟨rfl, hZ, hh⟩ := hP
  have hx := Bd.exec
  have hby := Bd.bytes
  have hml : c.maxLocals = 1 := hml0
  have hown : s.vm.findClass "com/example/mullion/mullion/aggregators/FurthestBack" = some m.cls := findClass_of_methodNamed Bd.named
  have hnm := (name_of_methodNamed Bd.named Bd.method).1
  have X0 : Stand p l e ({ frames := 0, cells := 0, slots := 0, locals := 0 } : Room) s m #[(.ref a1)] below meth c s₁ [] 0 0 := Stand.of_body Bd
  have e0 : s₁.heap = h0 := by rw [← hh, Bd.state]; rfl
  have N0 := Fr.nil n0
  have pre0 : ∀ t, Steps p.tables e below (s₁.setTop (mkF m 0 #[.val (.ref a1)] [])) t → Steps p.tables e below (s₁.setTop (entryFrame m #[(.ref a1)] 1)) t := fun t k => castTop (ef_8 m a1) k
  obtain ⟨T3, X3, e3, st3⟩ := getF X0 hx hZ hown (host := "") (Or.inl (hw _ (List.mem_of_getElem? (i := 25) rfl))) Via.refl e0 F_atOrBelowMark_a1 (g := (mkF m 1 #[.val (.ref a1)] [(.ref a1)])) rfl rfl (hb hby d8_1)
  obtain ⟨fs, hr, hrun, hended, hW, hsame⟩ := X3.leave (v := some (.int (0 : Int32))) (fun h => by rw [Bd.returns] at h; cases h)
  refine ⟨_, _, pre0 _ ?_, hrun, hended, _, _, rfl, ?_, ⟨_, rfl⟩, hW, hsame.mono (by decide) (by decide)⟩
  · show Steps p.tables e below (s₁.setTop (mkF m 0 #[.val (.ref a1)] [])) _
    refine XS.aloadN X0.here hx rfl (hb hby d8_0) rfl rfl ?_
    show Steps p.tables e below (s₁.setTop (mkF m 1 #[.val (.ref a1)] [(.ref a1)])) _
    refine st3 _ ?_
    show Steps p.tables e below (T3.setTop (mkF m 4 #[.val (.ref a1)] [(.int w2)])) _
    refine XS.ifYes X3.here hx rfl (pc0 := 4) (pc' := 11) rfl (hb hby d8_4) rfl ((if0 _ _).trans (feq hc4).2) (by decide) (by decide) ?_
    show Steps p.tables e below (T3.setTop (mkF m 11 #[.val (.ref a1)] [])) _
    refine XS.iconst X3.here hx rfl (hb hby d8_11) ?_
    show Steps p.tables e below (T3.setTop (mkF m 12 #[.val (.ref a1)] [(.int (0 : Int32))])) _
    exact retN X3 hx (t := .boolean) Bd.returns (by simp) (hb hby d8_12) hr
  · show Q8t Z a1 w2 h0 n0 _ T3.heap _
    rw [e3]
    exact ⟨rfl, N0, rfl⟩
theorem d9_0 : decode jdk_29_method_70_code 0 = .ok (.lload_n 0, 1) := by decide +kernel
theorem d9_1 : decode jdk_29_method_70_code 1 = .ok (.lload_n 2, 1) := by decide +kernel
theorem d9_2 : decode jdk_29_method_70_code 2 = .ok (.lcmp, 1) := by decide +kernel
theorem d9_3 : decode jdk_29_method_70_code 3 = .ok (.ifCond .gt 7, 3) := by decide +kernel
theorem d9_6 : decode jdk_29_method_70_code 6 = .ok (.lload_n 0, 1) := by decide +kernel
theorem d9_7 : decode jdk_29_method_70_code 7 = .ok (.goto 4, 3) := by decide +kernel
theorem d9_11 : decode jdk_29_method_70_code 11 = .ok (.lreturn, 1) := by decide +kernel
theorem ef_9 (m : MethodId) (x0 : Int64) (x1 : Int64) : entryFrame m #[(.long x0), (.long x1)] 4 = mkF m 0 #[.val (.long x0), .second, .val (.long x1), .second] [] := by first | (simp [entryFrame, mkF, argsToLocals, Value.category]; done) | rfl
theorem d9_10 : decode jdk_29_method_70_code 10 = .ok (.lload_n 2, 1) := by decide +kernel
def Q9 (Z : State) (q1 : Int64) (q2 : Int64) (h0 : Heap) (n0 : Nat) (v : Option Value) (h : Heap) (L : List Loc) : Prop := v = some (.long (own_mn q1 q2)) ∧ Fr n0 L ∧ h = h0
set_option maxRecDepth 65536 in
set_option maxHeartbeats 40000000 in
theorem rm9_f (l : Launch) (Z : State) (a0 : Array Value) (hw : ∀ d ∈ tables_1, d.before a0 Z = true) (ws : List Jvm.Cond) (q1 : Int64) (q2 : Int64) (h0 : Heap) (n0 : Nat) (Z0 : n0 ≤ h0.size) (hc3 : ¬ ((0 : Int32) < (lcmpW q1 q2))) :
    MetFree l (⟨"java/lang/Math", "min", "(JJ)J"⟩ : MethodName) (head1 (Jvm.Cond.code (⟨"java/lang/Math", "min", "(JJ)J"⟩ : MethodName) jdk_29_method_70_code 4 (some .long) :: ws) ({ frames := 0, cells := 0, slots := 0, locals := 0 } : Room)) (fun a U => a = #[(.long q1), (.long q2)] ∧ Z.Warmed39 U.vm ∧ U.heap = h0) (fun _ _ _ _ _ => True) (fun _ U o U' => ∃ v L, o = .returned v ∧ Q9 Z q1 q2 h0 n0 v U'.heap L ∧ FrameEnd U o U' L ({ frames := 0, cells := 0, slots := 0, locals := 0 } : Room).cells ({ frames := 0, cells := 0, slots := 0, locals := 0 } : Room).slots) := by
  refine MetFree.of_bodySF (Jvm.Free.JP.mathPlain rfl (by decide +kernel)) hisR ?_
  intro p e s m args below meth c s₁ Bd hml0 hP hK
  obtain ⟨rfl, hZ, hh⟩ := hP
  have hx := Bd.exec
  have hby := Bd.bytes
  have hml : c.maxLocals = 4 := hml0
  have hown : s.vm.findClass "java/lang/Math" = some m.cls := findClass_of_methodNamed Bd.named
  have hnm := (name_of_methodNamed Bd.named Bd.method).1
  have X0 : Stand p l e ({ frames := 0, cells := 0, slots := 0, locals := 0 } : Room) s m #[(.long q1), (.long q2)] below meth c s₁ [] 0 0 := Stand.of_body Bd
  have e0 : s₁.heap = h0 := by rw [← hh, Bd.state]; rfl
  have N0 := Fr.nil n0
  have pre0 : ∀ t, Steps p.tables e below (s₁.setTop (mkF m 0 #[.val (.long q1), .second, .val (.long q2), .second] [])) t → Steps p.tables e below (s₁.setTop (entryFrame m #[(.long q1), (.long q2)] 4)) t := fun t k => castTop (ef_9 m q1 q2) k

  obtain ⟨fs, hr, hrun, hended, hW, hsame⟩ := X0.leave (v := some (.long q1)) (fun h => by rw [Bd.returns] at h; cases h)
  refine ⟨_, _, pre0 _ ?_, hrun, hended, _, _, rfl, ?_, ⟨_, rfl⟩, hW, hsame.mono (by decide) (by decide)⟩
  · show Steps p.tables e below (s₁.setTop (mkF m 0 #[.val (.long q1), .second, .val (.long q2), .second] [])) _
    refine XS.lloadN X0.here hx rfl (hb hby d9_0) rfl ?_
    show Steps p.tables e below (s₁.setTop (mkF m 1 #[.val (.long q1), .second, .val (.long q2), .second] [(.long q1)])) _
    refine XS.lloadN X0.here hx rfl (hb hby d9_1) rfl ?_
    show Steps p.tables e below (s₁.setTop (mkF m 2 #[.val (.long q1), .second, .val (.long q2), .second] [(.long q2), (.long q1)])) _
    refine XS.lcmp X0.here hx rfl (hb hby d9_2) rfl ?_
    show Steps p.tables e below (s₁.setTop (mkF m 3 #[.val (.long q1), .second, .val (.long q2), .second] [(.int (lcmpW q1 q2))])) _
    refine XS.ifNo X0.here hx rfl (hb hby d9_3) rfl ((if0 _ _).trans (flt hc3).2.2.1) ?_
    show Steps p.tables e below (s₁.setTop (mkF m 6 #[.val (.long q1), .second, .val (.long q2), .second] [])) _
    refine XS.lloadN X0.here hx rfl (hb hby d9_6) rfl ?_
    show Steps p.tables e below (s₁.setTop (mkF m 7 #[.val (.long q1), .second, .val (.long q2), .second] [(.long q1)])) _
    refine XS.goto X0.here hx rfl (pc0 := 7) (pc' := 11) rfl (hb hby d9_7) (by decide) (by decide) ?_
    show Steps p.tables e below (s₁.setTop (mkF m 11 #[.val (.long q1), .second, .val (.long q2), .second] [(.long q1)])) _
    jvm_step X0.here [X0.here.top, hx, (hb hby d9_11), X0.method', Bd.returns, narrow]
    first | (intro acts; rw [hr _ acts rfl rfl rfl]) | rw [hr _ _ rfl rfl rfl]
    exact Steps.refl _
  · show Q9 Z q1 q2 h0 n0 _ s₁.heap _
    rw [e0]
    exact ⟨by rw [own_mn, if_neg hc3], N0, rfl⟩
set_option maxRecDepth 65536 in
set_option maxHeartbeats 40000000 in
theorem rm9_t (l : Launch) (Z : State) (a0 : Array Value) (hw : ∀ d ∈ tables_1, d.before a0 Z = true) (ws : List Jvm.Cond) (q1 : Int64) (q2 : Int64) (h0 : Heap) (n0 : Nat) (Z0 : n0 ≤ h0.size) (hc3 : (0 : Int32) < (lcmpW q1 q2)) :
    MetFree l (⟨"java/lang/Math", "min", "(JJ)J"⟩ : MethodName) (head1 (Jvm.Cond.code (⟨"java/lang/Math", "min", "(JJ)J"⟩ : MethodName) jdk_29_method_70_code 4 (some .long) :: ws) ({ frames := 0, cells := 0, slots := 0, locals := 0 } : Room)) (fun a U => a = #[(.long q1), (.long q2)] ∧ Z.Warmed39 U.vm ∧ U.heap = h0) (fun _ _ _ _ _ => True) (fun _ U o U' => ∃ v L, o = .returned v ∧ Q9 Z q1 q2 h0 n0 v U'.heap L ∧ FrameEnd U o U' L ({ frames := 0, cells := 0, slots := 0, locals := 0 } : Room).cells ({ frames := 0, cells := 0, slots := 0, locals := 0 } : Room).slots) := by
  refine MetFree.of_bodySF (Jvm.Free.JP.mathPlain rfl (by decide +kernel)) hisR ?_
  intro p e s m args below meth c s₁ Bd hml0 hP hK
  obtain ⟨rfl, hZ, hh⟩ := hP
  have hx := Bd.exec
  have hby := Bd.bytes
  have hml : c.maxLocals = 4 := hml0
  have hown : s.vm.findClass "java/lang/Math" = some m.cls := findClass_of_methodNamed Bd.named
  have hnm := (name_of_methodNamed Bd.named Bd.method).1
  have X0 : Stand p l e ({ frames := 0, cells := 0, slots := 0, locals := 0 } : Room) s m #[(.long q1), (.long q2)] below meth c s₁ [] 0 0 := Stand.of_body Bd
  have e0 : s₁.heap = h0 := by rw [← hh, Bd.state]; rfl
  have N0 := Fr.nil n0
  have pre0 : ∀ t, Steps p.tables e below (s₁.setTop (mkF m 0 #[.val (.long q1), .second, .val (.long q2), .second] [])) t → Steps p.tables e below (s₁.setTop (entryFrame m #[(.long q1), (.long q2)] 4)) t := fun t k => castTop (ef_9 m q1 q2) k

  obtain ⟨fs, hr, hrun, hended, hW, hsame⟩ := X0.leave (v := some (.long q2)) (fun h => by rw [Bd.returns] at h; cases h)
  refine ⟨_, _, pre0 _ ?_, hrun, hended, _, _, rfl, ?_, ⟨_, rfl⟩, hW, hsame.mono (by decide) (by decide)⟩
  · show Steps p.tables e below (s₁.setTop (mkF m 0 #[.val (.long q1), .second, .val (.long q2), .second] [])) _
    refine XS.lloadN X0.here hx rfl (hb hby d9_0) rfl ?_
    show Steps p.tables e below (s₁.setTop (mkF m 1 #[.val (.long q1), .second, .val (.long q2), .second] [(.long q1)])) _
    refine XS.lloadN X0.here hx rfl (hb hby d9_1) rfl ?_
    show Steps p.tables e below (s₁.setTop (mkF m 2 #[.val (.long q1), .second, .val (.long q2), .second] [(.long q2), (.long q1)])) _
    refine XS.lcmp X0.here hx rfl (hb hby d9_2) rfl ?_
    show Steps p.tables e below (s₁.setTop (mkF m 3 #[.val (.long q1), .second, .val (.long q2), .second] [(.int (lcmpW q1 q2))])) _
    refine XS.ifYes X0.here hx rfl (pc0 := 3) (pc' := 10) rfl (hb hby d9_3) rfl ((if0 _ _).trans (tlt hc3).2.2.1) (by decide) (by decide) ?_
    show Steps p.tables e below (s₁.setTop (mkF m 10 #[.val (.long q1), .second, .val (.long q2), .second] [])) _
    refine XS.lloadN X0.here hx rfl (hb hby d9_10) rfl ?_
    show Steps p.tables e below (s₁.setTop (mkF m 11 #[.val (.long q1), .second, .val (.long q2), .second] [(.long q2)])) _
    jvm_step X0.here [X0.here.top, hx, (hb hby d9_11), X0.method', Bd.returns, narrow]
    first | (intro acts; rw [hr _ acts rfl rfl rfl]) | rw [hr _ _ rfl rfl rfl]
    exact Steps.refl _
  · show Q9 Z q1 q2 h0 n0 _ s₁.heap _
    rw [e0]
    exact ⟨by rw [own_mn, if_pos hc3], N0, rfl⟩
theorem rm9 (l : Launch) (Z : State) (a0 : Array Value) (hw : ∀ d ∈ tables_1, d.before a0 Z = true) (ws : List Jvm.Cond) (q1 : Int64) (q2 : Int64) (h0 : Heap) (n0 : Nat) (Z0 : n0 ≤ h0.size) :
    MetFree l (⟨"java/lang/Math", "min", "(JJ)J"⟩ : MethodName) (head1 (Jvm.Cond.code (⟨"java/lang/Math", "min", "(JJ)J"⟩ : MethodName) jdk_29_method_70_code 4 (some .long) :: ws) ({ frames := 0, cells := 0, slots := 0, locals := 0 } : Room)) (fun a U => a = #[(.long q1), (.long q2)] ∧ Z.Warmed39 U.vm ∧ U.heap = h0) (fun _ _ _ _ _ => True) (fun _ U o U' => ∃ v L, o = .returned v ∧ Q9 Z q1 q2 h0 n0 v U'.heap L ∧ FrameEnd U o U' L ({ frames := 0, cells := 0, slots := 0, locals := 0 } : Room).cells ({ frames := 0, cells := 0, slots := 0, locals := 0 } : Room).slots) := by
  by_cases hc3 : (0 : Int32) < (lcmpW q1 q2)
  · exact rm9_t l Z a0 hw ws q1 q2 h0 n0 Z0 hc3
  · exact rm9_f l Z a0 hw ws q1 q2 h0 n0 Z0 hc3

set_option maxRecDepth 65536 in
set_option maxHeartbeats 40000000 in
theorem tn0_0_42_ff {p : Program} {l : Launch} {e : Env} {R : Room} {s : State} {m : MethodId} {args : Array Value} {below : List Frame} {meth : Method} {c : Code} {T0 : State} {locs : List Loc} {cells slots : Nat} {Z : State} {a0 : Array Value} {h0 : Heap} (p1 : Int32) (q2 : Int64) (q3 : Int64) (q4 : Int64)
    (X0 : Stand p l e R s m args below meth c T0 locs cells slots) (hx : p.tables.exec = Jvm.exec) (hZ : Z.Warmed39 s.vm) (hw : ∀ d ∈ tables_1, d.before a0 Z = true) (hby : c.code = code) (hml : c.maxLocals = 17) (hown : s.vm.findClass "com/example/mullion/mullion/aggregators/FurthestBackFindSmallestPinLaw" = some m.cls) (e0 : T0.heap = h0) (hc15 : ¬ ((((p1.toUInt32 >>> ((2 : Int32) &&& 31).toUInt32).toInt32) &&& (1 : Int32)) = (0 : Int32))) (hc30 : ¬ ((((p1.toUInt32 >>> ((3 : Int32) &&& 31).toUInt32).toInt32) &&& (1 : Int32)) = (0 : Int32))) :
    ∃ (T' : State), Stand p l e R s m args below meth c T' locs cells slots ∧ T'.heap = h0 ∧
      ∀ target, Steps p.tables e below (T'.setTop (mkF m 42 #[.val (.int p1), .val (.long q2), .second, .val (.long q3), .second, .val (.long q4), .second, .val (.int (own_n p1)), .val (.long q2), .second, .val (.long q2), .second, .unset, .unset, .unset, .unset, .unset] [])) target → Steps p.tables e below (T0.setTop (mkF m 0 #[.val (.int p1), .val (.long q2), .second, .val (.long q3), .second, .val (.long q4), .second, .unset, .unset, .unset, .unset, .unset, .unset, .unset, .unset, .unset, .unset] [])) target := by

  refine ⟨T0, X0, e0, fun target kt => ?_⟩
  show Steps p.tables e below (T0.setTop (mkF m 0 #[.val (.int p1), .val (.long q2), .second, .val (.long q3), .second, .val (.long q4), .second, .unset, .unset, .unset, .unset, .unset, .unset, .unset, .unset, .unset, .unset] [])) _
  refine XS.iconst X0.here hx rfl (hb hby at_0) ?_
  show Steps p.tables e below (T0.setTop (mkF m 1 #[.val (.int p1), .val (.long q2), .second, .val (.long q3), .second, .val (.long q4), .second, .unset, .unset, .unset, .unset, .unset, .unset, .unset, .unset, .unset, .unset] [(.int (1 : Int32))])) _
  refine XS.iloadN X0.here hx rfl (hb hby at_1) rfl ?_
  show Steps p.tables e below (T0.setTop (mkF m 2 #[.val (.int p1), .val (.long q2), .second, .val (.long q3), .second, .val (.long q4), .second, .unset, .unset, .unset, .unset, .unset, .unset, .unset, .unset, .unset, .unset] [(.int p1), (.int (1 : Int32))])) _
  refine X0.ldcInt hx hown (mvT hZ (hw _ (List.mem_of_getElem? (i := 0) rfl))) (g := (mkF m 2 #[.val (.int p1), .val (.long q2), .second, .val (.long q3), .second, .val (.long q4), .second, .unset, .unset, .unset, .unset, .unset, .unset, .unset, .unset, .unset, .unset] [(.int p1), (.int (1 : Int32))])) rfl (hb hby at_2) _ ?_
  show Steps p.tables e below (T0.setTop (mkF m 4 #[.val (.int p1), .val (.long q2), .second, .val (.long q3), .second, .val (.long q4), .second, .unset, .unset, .unset, .unset, .unset, .unset, .unset, .unset, .unset, .unset] [(.int (2147483647 : Int32)), (.int p1), (.int (1 : Int32))])) _
  refine XS.iand X0.here hx rfl (hb hby at_4) rfl ?_
  show Steps p.tables e below (T0.setTop (mkF m 5 #[.val (.int p1), .val (.long q2), .second, .val (.long q3), .second, .val (.long q4), .second, .unset, .unset, .unset, .unset, .unset, .unset, .unset, .unset, .unset, .unset] [(.int (p1 &&& (2147483647 : Int32))), (.int (1 : Int32))])) _
  refine XS.iconst X0.here hx rfl (hb hby at_5) ?_
  show Steps p.tables e below (T0.setTop (mkF m 6 #[.val (.int p1), .val (.long q2), .second, .val (.long q3), .second, .val (.long q4), .second, .unset, .unset, .unset, .unset, .unset, .unset, .unset, .unset, .unset, .unset] [(.int (3 : Int32)), (.int (p1 &&& (2147483647 : Int32))), (.int (1 : Int32))])) _
  refine XS.irem X0.here hx rfl (hb hby at_6) rfl (by decide) ?_
  show Steps p.tables e below (T0.setTop (mkF m 7 #[.val (.int p1), .val (.long q2), .second, .val (.long q3), .second, .val (.long q4), .second, .unset, .unset, .unset, .unset, .unset, .unset, .unset, .unset, .unset, .unset] [(.int ((p1 &&& (2147483647 : Int32)) - ((p1 &&& (2147483647 : Int32)) / (3 : Int32)) * (3 : Int32))), (.int (1 : Int32))])) _
  refine XS.iadd X0.here hx rfl (hb hby at_7) rfl ?_
  show Steps p.tables e below (T0.setTop (mkF m 8 #[.val (.int p1), .val (.long q2), .second, .val (.long q3), .second, .val (.long q4), .second, .unset, .unset, .unset, .unset, .unset, .unset, .unset, .unset, .unset, .unset] [(.int (own_n p1))])) _
  refine XS.istore X0.here hx rfl (hb hby at_8) rfl (l' := #[.val (.int p1), .val (.long q2), .second, .val (.long q3), .second, .val (.long q4), .second, .val (.int (own_n p1)), .unset, .unset, .unset, .unset, .unset, .unset, .unset, .unset, .unset]) rfl ?_
  show Steps p.tables e below (T0.setTop (mkF m 10 #[.val (.int p1), .val (.long q2), .second, .val (.long q3), .second, .val (.long q4), .second, .val (.int (own_n p1)), .unset, .unset, .unset, .unset, .unset, .unset, .unset, .unset, .unset] [])) _
  refine XS.iloadN X0.here hx rfl (hb hby at_10) rfl ?_
  show Steps p.tables e below (T0.setTop (mkF m 11 #[.val (.int p1), .val (.long q2), .second, .val (.long q3), .second, .val (.long q4), .second, .val (.int (own_n p1)), .unset, .unset, .unset, .unset, .unset, .unset, .unset, .unset, .unset] [(.int p1)])) _
  refine XS.iconst X0.here hx rfl (hb hby at_11) ?_
  show Steps p.tables e below (T0.setTop (mkF m 12 #[.val (.int p1), .val (.long q2), .second, .val (.long q3), .second, .val (.long q4), .second, .val (.int (own_n p1)), .unset, .unset, .unset, .unset, .unset, .unset, .unset, .unset, .unset] [(.int (2 : Int32)), (.int p1)])) _
  refine XS.iushr X0.here hx rfl (hb hby at_12) rfl ?_
  show Steps p.tables e below (T0.setTop (mkF m 13 #[.val (.int p1), .val (.long q2), .second, .val (.long q3), .second, .val (.long q4), .second, .val (.int (own_n p1)), .unset, .unset, .unset, .unset, .unset, .unset, .unset, .unset, .unset] [(.int ((p1.toUInt32 >>> ((2 : Int32) &&& 31).toUInt32).toInt32))])) _
  refine XS.iconst X0.here hx rfl (hb hby at_13) ?_
  show Steps p.tables e below (T0.setTop (mkF m 14 #[.val (.int p1), .val (.long q2), .second, .val (.long q3), .second, .val (.long q4), .second, .val (.int (own_n p1)), .unset, .unset, .unset, .unset, .unset, .unset, .unset, .unset, .unset] [(.int (1 : Int32)), (.int ((p1.toUInt32 >>> ((2 : Int32) &&& 31).toUInt32).toInt32))])) _
  refine XS.iand X0.here hx rfl (hb hby at_14) rfl ?_
  show Steps p.tables e below (T0.setTop (mkF m 15 #[.val (.int p1), .val (.long q2), .second, .val (.long q3), .second, .val (.long q4), .second, .val (.int (own_n p1)), .unset, .unset, .unset, .unset, .unset, .unset, .unset, .unset, .unset] [(.int (((p1.toUInt32 >>> ((2 : Int32) &&& 31).toUInt32).toInt32) &&& (1 : Int32)))])) _
  refine XS.ifNo X0.here hx rfl (hb hby at_15) rfl ((if0 _ _).trans (feq hc15).1) ?_
  show Steps p.tables e below (T0.setTop (mkF m 18 #[.val (.int p1), .val (.long q2), .second, .val (.long q3), .second, .val (.long q4), .second, .val (.int (own_n p1)), .unset, .unset, .unset, .unset, .unset, .unset, .unset, .unset, .unset] [])) _
  refine XS.lloadN X0.here hx rfl (hb hby at_18) rfl ?_
  show Steps p.tables e below (T0.setTop (mkF m 19 #[.val (.int p1), .val (.long q2), .second, .val (.long q3), .second, .val (.long q4), .second, .val (.int (own_n p1)), .unset, .unset, .unset, .unset, .unset, .unset, .unset, .unset, .unset] [(.long q2)])) _
  refine XS.goto X0.here hx rfl (pc0 := 19) (pc' := 23) rfl (hb hby at_19) (by decide) (by decide) ?_
  show Steps p.tables e below (T0.setTop (mkF m 23 #[.val (.int p1), .val (.long q2), .second, .val (.long q3), .second, .val (.long q4), .second, .val (.int (own_n p1)), .unset, .unset, .unset, .unset, .unset, .unset, .unset, .unset, .unset] [(.long q2)])) _
  refine XS.lstore X0.here hx rfl (hb hby at_23) rfl (l' := #[.val (.int p1), .val (.long q2), .second, .val (.long q3), .second, .val (.long q4), .second, .val (.int (own_n p1)), .val (.long q2), .second, .unset, .unset, .unset, .unset, .unset, .unset, .unset]) rfl ?_
  show Steps p.tables e below (T0.setTop (mkF m 25 #[.val (.int p1), .val (.long q2), .second, .val (.long q3), .second, .val (.long q4), .second, .val (.int (own_n p1)), .val (.long q2), .second, .unset, .unset, .unset, .unset, .unset, .unset, .unset] [])) _
  refine XS.iloadN X0.here hx rfl (hb hby at_25) rfl ?_
  show Steps p.tables e below (T0.setTop (mkF m 26 #[.val (.int p1), .val (.long q2), .second, .val (.long q3), .second, .val (.long q4), .second, .val (.int (own_n p1)), .val (.long q2), .second, .unset, .unset, .unset, .unset, .unset, .unset, .unset] [(.int p1)])) _
  refine XS.iconst X0.here hx rfl (hb hby at_26) ?_
  show Steps p.tables e below (T0.setTop (mkF m 27 #[.val (.int p1), .val (.long q2), .second, .val (.long q3), .second, .val (.long q4), .second, .val (.int (own_n p1)), .val (.long q2), .second, .unset, .unset, .unset, .unset, .unset, .unset, .unset] [(.int (3 : Int32)), (.int p1)])) _
  refine XS.iushr X0.here hx rfl (hb hby at_27) rfl ?_
  show Steps p.tables e below (T0.setTop (mkF m 28 #[.val (.int p1), .val (.long q2), .second, .val (.long q3), .second, .val (.long q4), .second, .val (.int (own_n p1)), .val (.long q2), .second, .unset, .unset, .unset, .unset, .unset, .unset, .unset] [(.int ((p1.toUInt32 >>> ((3 : Int32) &&& 31).toUInt32).toInt32))])) _
  refine XS.iconst X0.here hx rfl (hb hby at_28) ?_
  show Steps p.tables e below (T0.setTop (mkF m 29 #[.val (.int p1), .val (.long q2), .second, .val (.long q3), .second, .val (.long q4), .second, .val (.int (own_n p1)), .val (.long q2), .second, .unset, .unset, .unset, .unset, .unset, .unset, .unset] [(.int (1 : Int32)), (.int ((p1.toUInt32 >>> ((3 : Int32) &&& 31).toUInt32).toInt32))])) _
  refine XS.iand X0.here hx rfl (hb hby at_29) rfl ?_
  show Steps p.tables e below (T0.setTop (mkF m 30 #[.val (.int p1), .val (.long q2), .second, .val (.long q3), .second, .val (.long q4), .second, .val (.int (own_n p1)), .val (.long q2), .second, .unset, .unset, .unset, .unset, .unset, .unset, .unset] [(.int (((p1.toUInt32 >>> ((3 : Int32) &&& 31).toUInt32).toInt32) &&& (1 : Int32)))])) _
  refine XS.ifNo X0.here hx rfl (hb hby at_30) rfl ((if0 _ _).trans (feq hc30).1) ?_
  show Steps p.tables e below (T0.setTop (mkF m 33 #[.val (.int p1), .val (.long q2), .second, .val (.long q3), .second, .val (.long q4), .second, .val (.int (own_n p1)), .val (.long q2), .second, .unset, .unset, .unset, .unset, .unset, .unset, .unset] [])) _
  refine XS.lload X0.here hx rfl (hb hby at_33) rfl ?_
  show Steps p.tables e below (T0.setTop (mkF m 35 #[.val (.int p1), .val (.long q2), .second, .val (.long q3), .second, .val (.long q4), .second, .val (.int (own_n p1)), .val (.long q2), .second, .unset, .unset, .unset, .unset, .unset, .unset, .unset] [(.long q2)])) _
  refine XS.goto X0.here hx rfl (pc0 := 35) (pc' := 40) rfl (hb hby at_35) (by decide) (by decide) ?_
  show Steps p.tables e below (T0.setTop (mkF m 40 #[.val (.int p1), .val (.long q2), .second, .val (.long q3), .second, .val (.long q4), .second, .val (.int (own_n p1)), .val (.long q2), .second, .unset, .unset, .unset, .unset, .unset, .unset, .unset] [(.long q2)])) _
  refine XS.lstore X0.here hx rfl (hb hby at_40) rfl (l' := #[.val (.int p1), .val (.long q2), .second, .val (.long q3), .second, .val (.long q4), .second, .val (.int (own_n p1)), .val (.long q2), .second, .val (.long q2), .second, .unset, .unset, .unset, .unset, .unset]) rfl ?_
  exact kt
set_option maxRecDepth 65536 in
set_option maxHeartbeats 40000000 in
theorem tn0_0_42_ft {p : Program} {l : Launch} {e : Env} {R : Room} {s : State} {m : MethodId} {args : Array Value} {below : List Frame} {meth : Method} {c : Code} {T0 : State} {locs : List Loc} {cells slots : Nat} {Z : State} {a0 : Array Value} {h0 : Heap} (p1 : Int32) (q2 : Int64) (q3 : Int64) (q4 : Int64)
    (X0 : Stand p l e R s m args below meth c T0 locs cells slots) (hx : p.tables.exec = Jvm.exec) (hZ : Z.Warmed39 s.vm) (hw : ∀ d ∈ tables_1, d.before a0 Z = true) (hby : c.code = code) (hml : c.maxLocals = 17) (hown : s.vm.findClass "com/example/mullion/mullion/aggregators/FurthestBackFindSmallestPinLaw" = some m.cls) (e0 : T0.heap = h0) (hc15 : ¬ ((((p1.toUInt32 >>> ((2 : Int32) &&& 31).toUInt32).toInt32) &&& (1 : Int32)) = (0 : Int32))) (hc30 : (((p1.toUInt32 >>> ((3 : Int32) &&& 31).toUInt32).toInt32) &&& (1 : Int32)) = (0 : Int32)) :
    ∃ (T' : State), Stand p l e R s m args below meth c T' locs cells slots ∧ T'.heap = h0 ∧
      ∀ target, Steps p.tables e below (T'.setTop (mkF m 42 #[.val (.int p1), .val (.long q2), .second, .val (.long q3), .second, .val (.long q4), .second, .val (.int (own_n p1)), .val (.long q2), .second, .val (.long q4), .second, .unset, .unset, .unset, .unset, .unset] [])) target → Steps p.tables e below (T0.setTop (mkF m 0 #[.val (.int p1), .val (.long q2), .second, .val (.long q3), .second, .val (.long q4), .second, .unset, .unset, .unset, .unset, .unset, .unset, .unset, .unset, .unset, .unset] [])) target := by

  refine ⟨T0, X0, e0, fun target kt => ?_⟩
  show Steps p.tables e below (T0.setTop (mkF m 0 #[.val (.int p1), .val (.long q2), .second, .val (.long q3), .second, .val (.long q4), .second, .unset, .unset, .unset, .unset, .unset, .unset, .unset, .unset, .unset, .unset] [])) _
  refine XS.iconst X0.here hx rfl (hb hby at_0) ?_
  show Steps p.tables e below (T0.setTop (mkF m 1 #[.val (.int p1), .val (.long q2), .second, .val (.long q3), .second, .val (.long q4), .second, .unset, .unset, .unset, .unset, .unset, .unset, .unset, .unset, .unset, .unset] [(.int (1 : Int32))])) _
  refine XS.iloadN X0.here hx rfl (hb hby at_1) rfl ?_
  show Steps p.tables e below (T0.setTop (mkF m 2 #[.val (.int p1), .val (.long q2), .second, .val (.long q3), .second, .val (.long q4), .second, .unset, .unset, .unset, .unset, .unset, .unset, .unset, .unset, .unset, .unset] [(.int p1), (.int (1 : Int32))])) _
  refine X0.ldcInt hx hown (mvT hZ (hw _ (List.mem_of_getElem? (i := 0) rfl))) (g := (mkF m 2 #[.val (.int p1), .val (.long q2), .second, .val (.long q3), .second, .val (.long q4), .second, .unset, .unset, .unset, .unset, .unset, .unset, .unset, .unset, .unset, .unset] [(.int p1), (.int (1 : Int32))])) rfl (hb hby at_2) _ ?_
  show Steps p.tables e below (T0.setTop (mkF m 4 #[.val (.int p1), .val (.long q2), .second, .val (.long q3), .second, .val (.long q4), .second, .unset, .unset, .unset, .unset, .unset, .unset, .unset, .unset, .unset, .unset] [(.int (2147483647 : Int32)), (.int p1), (.int (1 : Int32))])) _
  refine XS.iand X0.here hx rfl (hb hby at_4) rfl ?_
  show Steps p.tables e below (T0.setTop (mkF m 5 #[.val (.int p1), .val (.long q2), .second, .val (.long q3), .second, .val (.long q4), .second, .unset, .unset, .unset, .unset, .unset, .unset, .unset, .unset, .unset, .unset] [(.int (p1 &&& (2147483647 : Int32))), (.int (1 : Int32))])) _
  refine XS.iconst X0.here hx rfl (hb hby at_5) ?_
  show Steps p.tables e below (T0.setTop (mkF m 6 #[.val (.int p1), .val (.long q2), .second, .val (.long q3), .second, .val (.long q4), .second, .unset, .unset, .unset, .unset, .unset, .unset, .unset, .unset, .unset, .unset] [(.int (3 : Int32)), (.int (p1 &&& (2147483647 : Int32))), (.int (1 : Int32))])) _
  refine XS.irem X0.here hx rfl (hb hby at_6) rfl (by decide) ?_
  show Steps p.tables e below (T0.setTop (mkF m 7 #[.val (.int p1), .val (.long q2), .second, .val (.long q3), .second, .val (.long q4), .second, .unset, .unset, .unset, .unset, .unset, .unset, .unset, .unset, .unset, .unset] [(.int ((p1 &&& (2147483647 : Int32)) - ((p1 &&& (2147483647 : Int32)) / (3 : Int32)) * (3 : Int32))), (.int (1 : Int32))])) _
  refine XS.iadd X0.here hx rfl (hb hby at_7) rfl ?_
  show Steps p.tables e below (T0.setTop (mkF m 8 #[.val (.int p1), .val (.long q2), .second, .val (.long q3), .second, .val (.long q4), .second, .unset, .unset, .unset, .unset, .unset, .unset, .unset, .unset, .unset, .unset] [(.int (own_n p1))])) _
  refine XS.istore X0.here hx rfl (hb hby at_8) rfl (l' := #[.val (.int p1), .val (.long q2), .second, .val (.long q3), .second, .val (.long q4), .second, .val (.int (own_n p1)), .unset, .unset, .unset, .unset, .unset, .unset, .unset, .unset, .unset]) rfl ?_
  show Steps p.tables e below (T0.setTop (mkF m 10 #[.val (.int p1), .val (.long q2), .second, .val (.long q3), .second, .val (.long q4), .second, .val (.int (own_n p1)), .unset, .unset, .unset, .unset, .unset, .unset, .unset, .unset, .unset] [])) _
  refine XS.iloadN X0.here hx rfl (hb hby at_10) rfl ?_
  show Steps p.tables e below (T0.setTop (mkF m 11 #[.val (.int p1), .val (.long q2), .second, .val (.long q3), .second, .val (.long q4), .second, .val (.int (own_n p1)), .unset, .unset, .unset, .unset, .unset, .unset, .unset, .unset, .unset] [(.int p1)])) _
  refine XS.iconst X0.here hx rfl (hb hby at_11) ?_
  show Steps p.tables e below (T0.setTop (mkF m 12 #[.val (.int p1), .val (.long q2), .second, .val (.long q3), .second, .val (.long q4), .second, .val (.int (own_n p1)), .unset, .unset, .unset, .unset, .unset, .unset, .unset, .unset, .unset] [(.int (2 : Int32)), (.int p1)])) _
  refine XS.iushr X0.here hx rfl (hb hby at_12) rfl ?_
  show Steps p.tables e below (T0.setTop (mkF m 13 #[.val (.int p1), .val (.long q2), .second, .val (.long q3), .second, .val (.long q4), .second, .val (.int (own_n p1)), .unset, .unset, .unset, .unset, .unset, .unset, .unset, .unset, .unset] [(.int ((p1.toUInt32 >>> ((2 : Int32) &&& 31).toUInt32).toInt32))])) _
  refine XS.iconst X0.here hx rfl (hb hby at_13) ?_
  show Steps p.tables e below (T0.setTop (mkF m 14 #[.val (.int p1), .val (.long q2), .second, .val (.long q3), .second, .val (.long q4), .second, .val (.int (own_n p1)), .unset, .unset, .unset, .unset, .unset, .unset, .unset, .unset, .unset] [(.int (1 : Int32)), (.int ((p1.toUInt32 >>> ((2 : Int32) &&& 31).toUInt32).toInt32))])) _
  refine XS.iand X0.here hx rfl (hb hby at_14) rfl ?_
  show Steps p.tables e below (T0.setTop (mkF m 15 #[.val (.int p1), .val (.long q2), .second, .val (.long q3), .second, .val (.long q4), .second, .val (.int (own_n p1)), .unset, .unset, .unset, .unset, .unset, .unset, .unset, .unset, .unset] [(.int (((p1.toUInt32 >>> ((2 : Int32) &&& 31).toUInt32).toInt32) &&& (1 : Int32)))])) _
  refine XS.ifNo X0.here hx rfl (hb hby at_15) rfl ((if0 _ _).trans (feq hc15).1) ?_
  show Steps p.tables e below (T0.setTop (mkF m 18 #[.val (.int p1), .val (.long q2), .second, .val (.long q3), .second, .val (.long q4), .second, .val (.int (own_n p1)), .unset, .unset, .unset, .unset, .unset, .unset, .unset, .unset, .unset] [])) _
  refine XS.lloadN X0.here hx rfl (hb hby at_18) rfl ?_
  show Steps p.tables e below (T0.setTop (mkF m 19 #[.val (.int p1), .val (.long q2), .second, .val (.long q3), .second, .val (.long q4), .second, .val (.int (own_n p1)), .unset, .unset, .unset, .unset, .unset, .unset, .unset, .unset, .unset] [(.long q2)])) _
  refine XS.goto X0.here hx rfl (pc0 := 19) (pc' := 23) rfl (hb hby at_19) (by decide) (by decide) ?_
  show Steps p.tables e below (T0.setTop (mkF m 23 #[.val (.int p1), .val (.long q2), .second, .val (.long q3), .second, .val (.long q4), .second, .val (.int (own_n p1)), .unset, .unset, .unset, .unset, .unset, .unset, .unset, .unset, .unset] [(.long q2)])) _
  refine XS.lstore X0.here hx rfl (hb hby at_23) rfl (l' := #[.val (.int p1), .val (.long q2), .second, .val (.long q3), .second, .val (.long q4), .second, .val (.int (own_n p1)), .val (.long q2), .second, .unset, .unset, .unset, .unset, .unset, .unset, .unset]) rfl ?_
  show Steps p.tables e below (T0.setTop (mkF m 25 #[.val (.int p1), .val (.long q2), .second, .val (.long q3), .second, .val (.long q4), .second, .val (.int (own_n p1)), .val (.long q2), .second, .unset, .unset, .unset, .unset, .unset, .unset, .unset] [])) _
  refine XS.iloadN X0.here hx rfl (hb hby at_25) rfl ?_
  show Steps p.tables e below (T0.setTop (mkF m 26 #[.val (.int p1), .val (.long q2), .second, .val (.long q3), .second, .val (.long q4), .second, .val (.int (own_n p1)), .val (.long q2), .second, .unset, .unset, .unset, .unset, .unset, .unset, .unset] [(.int p1)])) _
  refine XS.iconst X0.here hx rfl (hb hby at_26) ?_
  show Steps p.tables e below (T0.setTop (mkF m 27 #[.val (.int p1), .val (.long q2), .second, .val (.long q3), .second, .val (.long q4), .second, .val (.int (own_n p1)), .val (.long q2), .second, .unset, .unset, .unset, .unset, .unset, .unset, .unset] [(.int (3 : Int32)), (.int p1)])) _
  refine XS.iushr X0.here hx rfl (hb hby at_27) rfl ?_
  show Steps p.tables e below (T0.setTop (mkF m 28 #[.val (.int p1), .val (.long q2), .second, .val (.long q3), .second, .val (.long q4), .second, .val (.int (own_n p1)), .val (.long q2), .second, .unset, .unset, .unset, .unset, .unset, .unset, .unset] [(.int ((p1.toUInt32 >>> ((3 : Int32) &&& 31).toUInt32).toInt32))])) _
  refine XS.iconst X0.here hx rfl (hb hby at_28) ?_
  show Steps p.tables e below (T0.setTop (mkF m 29 #[.val (.int p1), .val (.long q2), .second, .val (.long q3), .second, .val (.long q4), .second, .val (.int (own_n p1)), .val (.long q2), .second, .unset, .unset, .unset, .unset, .unset, .unset, .unset] [(.int (1 : Int32)), (.int ((p1.toUInt32 >>> ((3 : Int32) &&& 31).toUInt32).toInt32))])) _
  refine XS.iand X0.here hx rfl (hb hby at_29) rfl ?_
  show Steps p.tables e below (T0.setTop (mkF m 30 #[.val (.int p1), .val (.long q2), .second, .val (.long q3), .second, .val (.long q4), .second, .val (.int (own_n p1)), .val (.long q2), .second, .unset, .unset, .unset, .unset, .unset, .unset, .unset] [(.int (((p1.toUInt32 >>> ((3 : Int32) &&& 31).toUInt32).toInt32) &&& (1 : Int32)))])) _
  refine XS.ifYes X0.here hx rfl (pc0 := 30) (pc' := 38) rfl (hb hby at_30) rfl ((if0 _ _).trans (teq hc30).1) (by decide) (by decide) ?_
  show Steps p.tables e below (T0.setTop (mkF m 38 #[.val (.int p1), .val (.long q2), .second, .val (.long q3), .second, .val (.long q4), .second, .val (.int (own_n p1)), .val (.long q2), .second, .unset, .unset, .unset, .unset, .unset, .unset, .unset] [])) _
  refine XS.lload X0.here hx rfl (hb hby at_38) rfl ?_
  show Steps p.tables e below (T0.setTop (mkF m 40 #[.val (.int p1), .val (.long q2), .second, .val (.long q3), .second, .val (.long q4), .second, .val (.int (own_n p1)), .val (.long q2), .second, .unset, .unset, .unset, .unset, .unset, .unset, .unset] [(.long q4)])) _
  refine XS.lstore X0.here hx rfl (hb hby at_40) rfl (l' := #[.val (.int p1), .val (.long q2), .second, .val (.long q3), .second, .val (.long q4), .second, .val (.int (own_n p1)), .val (.long q2), .second, .val (.long q4), .second, .unset, .unset, .unset, .unset, .unset]) rfl ?_
  exact kt
set_option maxRecDepth 65536 in
set_option maxHeartbeats 40000000 in
theorem tn0_0_42_tf {p : Program} {l : Launch} {e : Env} {R : Room} {s : State} {m : MethodId} {args : Array Value} {below : List Frame} {meth : Method} {c : Code} {T0 : State} {locs : List Loc} {cells slots : Nat} {Z : State} {a0 : Array Value} {h0 : Heap} (p1 : Int32) (q2 : Int64) (q3 : Int64) (q4 : Int64)
    (X0 : Stand p l e R s m args below meth c T0 locs cells slots) (hx : p.tables.exec = Jvm.exec) (hZ : Z.Warmed39 s.vm) (hw : ∀ d ∈ tables_1, d.before a0 Z = true) (hby : c.code = code) (hml : c.maxLocals = 17) (hown : s.vm.findClass "com/example/mullion/mullion/aggregators/FurthestBackFindSmallestPinLaw" = some m.cls) (e0 : T0.heap = h0) (hc15 : (((p1.toUInt32 >>> ((2 : Int32) &&& 31).toUInt32).toInt32) &&& (1 : Int32)) = (0 : Int32)) (hc30 : ¬ ((((p1.toUInt32 >>> ((3 : Int32) &&& 31).toUInt32).toInt32) &&& (1 : Int32)) = (0 : Int32))) :
    ∃ (T' : State), Stand p l e R s m args below meth c T' locs cells slots ∧ T'.heap = h0 ∧
      ∀ target, Steps p.tables e below (T'.setTop (mkF m 42 #[.val (.int p1), .val (.long q2), .second, .val (.long q3), .second, .val (.long q4), .second, .val (.int (own_n p1)), .val (.long q3), .second, .val (.long q3), .second, .unset, .unset, .unset, .unset, .unset] [])) target → Steps p.tables e below (T0.setTop (mkF m 0 #[.val (.int p1), .val (.long q2), .second, .val (.long q3), .second, .val (.long q4), .second, .unset, .unset, .unset, .unset, .unset, .unset, .unset, .unset, .unset, .unset] [])) target := by

  refine ⟨T0, X0, e0, fun target kt => ?_⟩
  show Steps p.tables e below (T0.setTop (mkF m 0 #[.val (.int p1), .val (.long q2), .second, .val (.long q3), .second, .val (.long q4), .second, .unset, .unset, .unset, .unset, .unset, .unset, .unset, .unset, .unset, .unset] [])) _
  refine XS.iconst X0.here hx rfl (hb hby at_0) ?_
  show Steps p.tables e below (T0.setTop (mkF m 1 #[.val (.int p1), .val (.long q2), .second, .val (.long q3), .second, .val (.long q4), .second, .unset, .unset, .unset, .unset, .unset, .unset, .unset, .unset, .unset, .unset] [(.int (1 : Int32))])) _
  refine XS.iloadN X0.here hx rfl (hb hby at_1) rfl ?_
  show Steps p.tables e below (T0.setTop (mkF m 2 #[.val (.int p1), .val (.long q2), .second, .val (.long q3), .second, .val (.long q4), .second, .unset, .unset, .unset, .unset, .unset, .unset, .unset, .unset, .unset, .unset] [(.int p1), (.int (1 : Int32))])) _
  refine X0.ldcInt hx hown (mvT hZ (hw _ (List.mem_of_getElem? (i := 0) rfl))) (g := (mkF m 2 #[.val (.int p1), .val (.long q2), .second, .val (.long q3), .second, .val (.long q4), .second, .unset, .unset, .unset, .unset, .unset, .unset, .unset, .unset, .unset, .unset] [(.int p1), (.int (1 : Int32))])) rfl (hb hby at_2) _ ?_
  show Steps p.tables e below (T0.setTop (mkF m 4 #[.val (.int p1), .val (.long q2), .second, .val (.long q3), .second, .val (.long q4), .second, .unset, .unset, .unset, .unset, .unset, .unset, .unset, .unset, .unset, .unset] [(.int (2147483647 : Int32)), (.int p1), (.int (1 : Int32))])) _
  refine XS.iand X0.here hx rfl (hb hby at_4) rfl ?_
  show Steps p.tables e below (T0.setTop (mkF m 5 #[.val (.int p1), .val (.long q2), .second, .val (.long q3), .second, .val (.long q4), .second, .unset, .unset, .unset, .unset, .unset, .unset, .unset, .unset, .unset, .unset] [(.int (p1 &&& (2147483647 : Int32))), (.int (1 : Int32))])) _
  refine XS.iconst X0.here hx rfl (hb hby at_5) ?_
  show Steps p.tables e below (T0.setTop (mkF m 6 #[.val (.int p1), .val (.long q2), .second, .val (.long q3), .second, .val (.long q4), .second, .unset, .unset, .unset, .unset, .unset, .unset, .unset, .unset, .unset, .unset] [(.int (3 : Int32)), (.int (p1 &&& (2147483647 : Int32))), (.int (1 : Int32))])) _
  refine XS.irem X0.here hx rfl (hb hby at_6) rfl (by decide) ?_
  show Steps p.tables e below (T0.setTop (mkF m 7 #[.val (.int p1), .val (.long q2), .second, .val (.long q3), .second, .val (.long q4), .second, .unset, .unset, .unset, .unset, .unset, .unset, .unset, .unset, .unset, .unset] [(.int ((p1 &&& (2147483647 : Int32)) - ((p1 &&& (2147483647 : Int32)) / (3 : Int32)) * (3 : Int32))), (.int (1 : Int32))])) _
  refine XS.iadd X0.here hx rfl (hb hby at_7) rfl ?_
  show Steps p.tables e below (T0.setTop (mkF m 8 #[.val (.int p1), .val (.long q2), .second, .val (.long q3), .second, .val (.long q4), .second, .unset, .unset, .unset, .unset, .unset, .unset, .unset, .unset, .unset, .unset] [(.int (own_n p1))])) _
  refine XS.istore X0.here hx rfl (hb hby at_8) rfl (l' := #[.val (.int p1), .val (.long q2), .second, .val (.long q3), .second, .val (.long q4), .second, .val (.int (own_n p1)), .unset, .unset, .unset, .unset, .unset, .unset, .unset, .unset, .unset]) rfl ?_
  show Steps p.tables e below (T0.setTop (mkF m 10 #[.val (.int p1), .val (.long q2), .second, .val (.long q3), .second, .val (.long q4), .second, .val (.int (own_n p1)), .unset, .unset, .unset, .unset, .unset, .unset, .unset, .unset, .unset] [])) _
  refine XS.iloadN X0.here hx rfl (hb hby at_10) rfl ?_
  show Steps p.tables e below (T0.setTop (mkF m 11 #[.val (.int p1), .val (.long q2), .second, .val (.long q3), .second, .val (.long q4), .second, .val (.int (own_n p1)), .unset, .unset, .unset, .unset, .unset, .unset, .unset, .unset, .unset] [(.int p1)])) _
  refine XS.iconst X0.here hx rfl (hb hby at_11) ?_
  show Steps p.tables e below (T0.setTop (mkF m 12 #[.val (.int p1), .val (.long q2), .second, .val (.long q3), .second, .val (.long q4), .second, .val (.int (own_n p1)), .unset, .unset, .unset, .unset, .unset, .unset, .unset, .unset, .unset] [(.int (2 : Int32)), (.int p1)])) _
  refine XS.iushr X0.here hx rfl (hb hby at_12) rfl ?_
  show Steps p.tables e below (T0.setTop (mkF m 13 #[.val (.int p1), .val (.long q2), .second, .val (.long q3), .second, .val (.long q4), .second, .val (.int (own_n p1)), .unset, .unset, .unset, .unset, .unset, .unset, .unset, .unset, .unset] [(.int ((p1.toUInt32 >>> ((2 : Int32) &&& 31).toUInt32).toInt32))])) _
  refine XS.iconst X0.here hx rfl (hb hby at_13) ?_
  show Steps p.tables e below (T0.setTop (mkF m 14 #[.val (.int p1), .val (.long q2), .second, .val (.long q3), .second, .val (.long q4), .second, .val (.int (own_n p1)), .unset, .unset, .unset, .unset, .unset, .unset, .unset, .unset, .unset] [(.int (1 : Int32)), (.int ((p1.toUInt32 >>> ((2 : Int32) &&& 31).toUInt32).toInt32))])) _
  refine XS.iand X0.here hx rfl (hb hby at_14) rfl ?_
  show Steps p.tables e below (T0.setTop (mkF m 15 #[.val (.int p1), .val (.long q2), .second, .val (.long q3), .second, .val (.long q4), .second, .val (.int (own_n p1)), .unset, .unset, .unset, .unset, .unset, .unset, .unset, .unset, .unset] [(.int (((p1.toUInt32 >>> ((2 : Int32) &&& 31).toUInt32).toInt32) &&& (1 : Int32)))])) _
  refine XS.ifYes X0.here hx rfl (pc0 := 15) (pc' := 22) rfl (hb hby at_15) rfl ((if0 _ _).trans (teq hc15).1) (by decide) (by decide) ?_
  show Steps p.tables e below (T0.setTop (mkF m 22 #[.val (.int p1), .val (.long q2), .second, .val (.long q3), .second, .val (.long q4), .second, .val (.int (own_n p1)), .unset, .unset, .unset, .unset, .unset, .unset, .unset, .unset, .unset] [])) _
  refine XS.lloadN X0.here hx rfl (hb hby at_22) rfl ?_
  show Steps p.tables e below (T0.setTop (mkF m 23 #[.val (.int p1), .val (.long q2), .second, .val (.long q3), .second, .val (.long q4), .second, .val (.int (own_n p1)), .unset, .unset, .unset, .unset, .unset, .unset, .unset, .unset, .unset] [(.long q3)])) _
  refine XS.lstore X0.here hx rfl (hb hby at_23) rfl (l' := #[.val (.int p1), .val (.long q2), .second, .val (.long q3), .second, .val (.long q4), .second, .val (.int (own_n p1)), .val (.long q3), .second, .unset, .unset, .unset, .unset, .unset, .unset, .unset]) rfl ?_
  show Steps p.tables e below (T0.setTop (mkF m 25 #[.val (.int p1), .val (.long q2), .second, .val (.long q3), .second, .val (.long q4), .second, .val (.int (own_n p1)), .val (.long q3), .second, .unset, .unset, .unset, .unset, .unset, .unset, .unset] [])) _
  refine XS.iloadN X0.here hx rfl (hb hby at_25) rfl ?_
  show Steps p.tables e below (T0.setTop (mkF m 26 #[.val (.int p1), .val (.long q2), .second, .val (.long q3), .second, .val (.long q4), .second, .val (.int (own_n p1)), .val (.long q3), .second, .unset, .unset, .unset, .unset, .unset, .unset, .unset] [(.int p1)])) _
  refine XS.iconst X0.here hx rfl (hb hby at_26) ?_
  show Steps p.tables e below (T0.setTop (mkF m 27 #[.val (.int p1), .val (.long q2), .second, .val (.long q3), .second, .val (.long q4), .second, .val (.int (own_n p1)), .val (.long q3), .second, .unset, .unset, .unset, .unset, .unset, .unset, .unset] [(.int (3 : Int32)), (.int p1)])) _
  refine XS.iushr X0.here hx rfl (hb hby at_27) rfl ?_
  show Steps p.tables e below (T0.setTop (mkF m 28 #[.val (.int p1), .val (.long q2), .second, .val (.long q3), .second, .val (.long q4), .second, .val (.int (own_n p1)), .val (.long q3), .second, .unset, .unset, .unset, .unset, .unset, .unset, .unset] [(.int ((p1.toUInt32 >>> ((3 : Int32) &&& 31).toUInt32).toInt32))])) _
  refine XS.iconst X0.here hx rfl (hb hby at_28) ?_
  show Steps p.tables e below (T0.setTop (mkF m 29 #[.val (.int p1), .val (.long q2), .second, .val (.long q3), .second, .val (.long q4), .second, .val (.int (own_n p1)), .val (.long q3), .second, .unset, .unset, .unset, .unset, .unset, .unset, .unset] [(.int (1 : Int32)), (.int ((p1.toUInt32 >>> ((3 : Int32) &&& 31).toUInt32).toInt32))])) _
  refine XS.iand X0.here hx rfl (hb hby at_29) rfl ?_
  show Steps p.tables e below (T0.setTop (mkF m 30 #[.val (.int p1), .val (.long q2), .second, .val (.long q3), .second, .val (.long q4), .second, .val (.int (own_n p1)), .val (.long q3), .second, .unset, .unset, .unset, .unset, .unset, .unset, .unset] [(.int (((p1.toUInt32 >>> ((3 : Int32) &&& 31).toUInt32).toInt32) &&& (1 : Int32)))])) _
  refine XS.ifNo X0.here hx rfl (hb hby at_30) rfl ((if0 _ _).trans (feq hc30).1) ?_
  show Steps p.tables e below (T0.setTop (mkF m 33 #[.val (.int p1), .val (.long q2), .second, .val (.long q3), .second, .val (.long q4), .second, .val (.int (own_n p1)), .val (.long q3), .second, .unset, .unset, .unset, .unset, .unset, .unset, .unset] [])) _
  refine XS.lload X0.here hx rfl (hb hby at_33) rfl ?_
  show Steps p.tables e below (T0.setTop (mkF m 35 #[.val (.int p1), .val (.long q2), .second, .val (.long q3), .second, .val (.long q4), .second, .val (.int (own_n p1)), .val (.long q3), .second, .unset, .unset, .unset, .unset, .unset, .unset, .unset] [(.long q3)])) _
  refine XS.goto X0.here hx rfl (pc0 := 35) (pc' := 40) rfl (hb hby at_35) (by decide) (by decide) ?_
  show Steps p.tables e below (T0.setTop (mkF m 40 #[.val (.int p1), .val (.long q2), .second, .val (.long q3), .second, .val (.long q4), .second, .val (.int (own_n p1)), .val (.long q3), .second, .unset, .unset, .unset, .unset, .unset, .unset, .unset] [(.long q3)])) _
  refine XS.lstore X0.here hx rfl (hb hby at_40) rfl (l' := #[.val (.int p1), .val (.long q2), .second, .val (.long q3), .second, .val (.long q4), .second, .val (.int (own_n p1)), .val (.long q3), .second, .val (.long q3), .second, .unset, .unset, .unset, .unset, .unset]) rfl ?_
  exact kt
set_option maxRecDepth 65536 in
set_option maxHeartbeats 40000000 in
theorem tn0_0_42_tt {p : Program} {l : Launch} {e : Env} {R : Room} {s : State} {m : MethodId} {args : Array Value} {below : List Frame} {meth : Method} {c : Code} {T0 : State} {locs : List Loc} {cells slots : Nat} {Z : State} {a0 : Array Value} {h0 : Heap} (p1 : Int32) (q2 : Int64) (q3 : Int64) (q4 : Int64)
    (X0 : Stand p l e R s m args below meth c T0 locs cells slots) (hx : p.tables.exec = Jvm.exec) (hZ : Z.Warmed39 s.vm) (hw : ∀ d ∈ tables_1, d.before a0 Z = true) (hby : c.code = code) (hml : c.maxLocals = 17) (hown : s.vm.findClass "com/example/mullion/mullion/aggregators/FurthestBackFindSmallestPinLaw" = some m.cls) (e0 : T0.heap = h0) (hc15 : (((p1.toUInt32 >>> ((2 : Int32) &&& 31).toUInt32).toInt32) &&& (1 : Int32)) = (0 : Int32)) (hc30 : (((p1.toUInt32 >>> ((3 : Int32) &&& 31).toUInt32).toInt32) &&& (1 : Int32)) = (0 : Int32)) :
    ∃ (T' : State), Stand p l e R s m args below meth c T' locs cells slots ∧ T'.heap = h0 ∧
      ∀ target, Steps p.tables e below (T'.setTop (mkF m 42 #[.val (.int p1), .val (.long q2), .second, .val (.long q3), .second, .val (.long q4), .second, .val (.int (own_n p1)), .val (.long q3), .second, .val (.long q4), .second, .unset, .unset, .unset, .unset, .unset] [])) target → Steps p.tables e below (T0.setTop (mkF m 0 #[.val (.int p1), .val (.long q2), .second, .val (.long q3), .second, .val (.long q4), .second, .unset, .unset, .unset, .unset, .unset, .unset, .unset, .unset, .unset, .unset] [])) target := by

  refine ⟨T0, X0, e0, fun target kt => ?_⟩
  show Steps p.tables e below (T0.setTop (mkF m 0 #[.val (.int p1), .val (.long q2), .second, .val (.long q3), .second, .val (.long q4), .second, .unset, .unset, .unset, .unset, .unset, .unset, .unset, .unset, .unset, .unset] [])) _
  refine XS.iconst X0.here hx rfl (hb hby at_0) ?_
  show Steps p.tables e below (T0.setTop (mkF m 1 #[.val (.int p1), .val (.long q2), .second, .val (.long q3), .second, .val (.long q4), .second, .unset, .unset, .unset, .unset, .unset, .unset, .unset, .unset, .unset, .unset] [(.int (1 : Int32))])) _
  refine XS.iloadN X0.here hx rfl (hb hby at_1) rfl ?_
  show Steps p.tables e below (T0.setTop (mkF m 2 #[.val (.int p1), .val (.long q2), .second, .val (.long q3), .second, .val (.long q4), .second, .unset, .unset, .unset, .unset, .unset, .unset, .unset, .unset, .unset, .unset] [(.int p1), (.int (1 : Int32))])) _
  refine X0.ldcInt hx hown (mvT hZ (hw _ (List.mem_of_getElem? (i := 0) rfl))) (g := (mkF m 2 #[.val (.int p1), .val (.long q2), .second, .val (.long q3), .second, .val (.long q4), .second, .unset, .unset, .unset, .unset, .unset, .unset, .unset, .unset, .unset, .unset] [(.int p1), (.int (1 : Int32))])) rfl (hb hby at_2) _ ?_
  show Steps p.tables e below (T0.setTop (mkF m 4 #[.val (.int p1), .val (.long q2), .second, .val (.long q3), .second, .val (.long q4), .second, .unset, .unset, .unset, .unset, .unset, .unset, .unset, .unset, .unset, .unset] [(.int (2147483647 : Int32)), (.int p1), (.int (1 : Int32))])) _
  refine XS.iand X0.here hx rfl (hb hby at_4) rfl ?_
  show Steps p.tables e below (T0.setTop (mkF m 5 #[.val (.int p1), .val (.long q2), .second, .val (.long q3), .second, .val (.long q4), .second, .unset, .unset, .unset, .unset, .unset, .unset, .unset, .unset, .unset, .unset] [(.int (p1 &&& (2147483647 : Int32))), (.int (1 : Int32))])) _
  refine XS.iconst X0.here hx rfl (hb hby at_5) ?_
  show Steps p.tables e below (T0.setTop (mkF m 6 #[.val (.int p1), .val (.long q2), .second, .val (.long q3), .second, .val (.long q4), .second, .unset, .unset, .unset, .unset, .unset, .unset, .unset, .unset, .unset, .unset] [(.int (3 : Int32)), (.int (p1 &&& (2147483647 : Int32))), (.int (1 : Int32))])) _
  refine XS.irem X0.here hx rfl (hb hby at_6) rfl (by decide) ?_
  show Steps p.tables e below (T0.setTop (mkF m 7 #[.val (.int p1), .val (.long q2), .second, .val (.long q3), .second, .val (.long q4), .second, .unset, .unset, .unset, .unset, .unset, .unset, .unset, .unset, .unset, .unset] [(.int ((p1 &&& (2147483647 : Int32)) - ((p1 &&& (2147483647 : Int32)) / (3 : Int32)) * (3 : Int32))), (.int (1 : Int32))])) _
  refine XS.iadd X0.here hx rfl (hb hby at_7) rfl ?_
  show Steps p.tables e below (T0.setTop (mkF m 8 #[.val (.int p1), .val (.long q2), .second, .val (.long q3), .second, .val (.long q4), .second, .unset, .unset, .unset, .unset, .unset, .unset, .unset, .unset, .unset, .unset] [(.int (own_n p1))])) _
  refine XS.istore X0.here hx rfl (hb hby at_8) rfl (l' := #[.val (.int p1), .val (.long q2), .second, .val (.long q3), .second, .val (.long q4), .second, .val (.int (own_n p1)), .unset, .unset, .unset, .unset, .unset, .unset, .unset, .unset, .unset]) rfl ?_
  show Steps p.tables e below (T0.setTop (mkF m 10 #[.val (.int p1), .val (.long q2), .second, .val (.long q3), .second, .val (.long q4), .second, .val (.int (own_n p1)), .unset, .unset, .unset, .unset, .unset, .unset, .unset, .unset, .unset] [])) _
  refine XS.iloadN X0.here hx rfl (hb hby at_10) rfl ?_
  show Steps p.tables e below (T0.setTop (mkF m 11 #[.val (.int p1), .val (.long q2), .second, .val (.long q3), .second, .val (.long q4), .second, .val (.int (own_n p1)), .unset, .unset, .unset, .unset, .unset, .unset, .unset, .unset, .unset] [(.int p1)])) _
  refine XS.iconst X0.here hx rfl (hb hby at_11) ?_
  show Steps p.tables e below (T0.setTop (mkF m 12 #[.val (.int p1), .val (.long q2), .second, .val (.long q3), .second, .val (.long q4), .second, .val (.int (own_n p1)), .unset, .unset, .unset, .unset, .unset, .unset, .unset, .unset, .unset] [(.int (2 : Int32)), (.int p1)])) _
  refine XS.iushr X0.here hx rfl (hb hby at_12) rfl ?_
  show Steps p.tables e below (T0.setTop (mkF m 13 #[.val (.int p1), .val (.long q2), .second, .val (.long q3), .second, .val (.long q4), .second, .val (.int (own_n p1)), .unset, .unset, .unset, .unset, .unset, .unset, .unset, .unset, .unset] [(.int ((p1.toUInt32 >>> ((2 : Int32) &&& 31).toUInt32).toInt32))])) _
  refine XS.iconst X0.here hx rfl (hb hby at_13) ?_
  show Steps p.tables e below (T0.setTop (mkF m 14 #[.val (.int p1), .val (.long q2), .second, .val (.long q3), .second, .val (.long q4), .second, .val (.int (own_n p1)), .unset, .unset, .unset, .unset, .unset, .unset, .unset, .unset, .unset] [(.int (1 : Int32)), (.int ((p1.toUInt32 >>> ((2 : Int32) &&& 31).toUInt32).toInt32))])) _
  refine XS.iand X0.here hx rfl (hb hby at_14) rfl ?_
  show Steps p.tables e below (T0.setTop (mkF m 15 #[.val (.int p1), .val (.long q2), .second, .val (.long q3), .second, .val (.long q4), .second, .val (.int (own_n p1)), .unset, .unset, .unset, .unset, .unset, .unset, .unset, .unset, .unset] [(.int (((p1.toUInt32 >>> ((2 : Int32) &&& 31).toUInt32).toInt32) &&& (1 : Int32)))])) _
  refine XS.ifYes X0.here hx rfl (pc0 := 15) (pc' := 22) rfl (hb hby at_15) rfl ((if0 _ _).trans (teq hc15).1) (by decide) (by decide) ?_
  show Steps p.tables e below (T0.setTop (mkF m 22 #[.val (.int p1), .val (.long q2), .second, .val (.long q3), .second, .val (.long q4), .second, .val (.int (own_n p1)), .unset, .unset, .unset, .unset, .unset, .unset, .unset, .unset, .unset] [])) _
  refine XS.lloadN X0.here hx rfl (hb hby at_22) rfl ?_
  show Steps p.tables e below (T0.setTop (mkF m 23 #[.val (.int p1), .val (.long q2), .second, .val (.long q3), .second, .val (.long q4), .second, .val (.int (own_n p1)), .unset, .unset, .unset, .unset, .unset, .unset, .unset, .unset, .unset] [(.long q3)])) _
  refine XS.lstore X0.here hx rfl (hb hby at_23) rfl (l' := #[.val (.int p1), .val (.long q2), .second, .val (.long q3), .second, .val (.long q4), .second, .val (.int (own_n p1)), .val (.long q3), .second, .unset, .unset, .unset, .unset, .unset, .unset, .unset]) rfl ?_
  show Steps p.tables e below (T0.setTop (mkF m 25 #[.val (.int p1), .val (.long q2), .second, .val (.long q3), .second, .val (.long q4), .second, .val (.int (own_n p1)), .val (.long q3), .second, .unset, .unset, .unset, .unset, .unset, .unset, .unset] [])) _
  refine XS.iloadN X0.here hx rfl (hb hby at_25) rfl ?_
  show Steps p.tables e below (T0.setTop (mkF m 26 #[.val (.int p1), .val (.long q2), .second, .val (.long q3), .second, .val (.long q4), .second, .val (.int (own_n p1)), .val (.long q3), .second, .unset, .unset, .unset, .unset, .unset, .unset, .unset] [(.int p1)])) _
  refine XS.iconst X0.here hx rfl (hb hby at_26) ?_
  show Steps p.tables e below (T0.setTop (mkF m 27 #[.val (.int p1), .val (.long q2), .second, .val (.long q3), .second, .val (.long q4), .second, .val (.int (own_n p1)), .val (.long q3), .second, .unset, .unset, .unset, .unset, .unset, .unset, .unset] [(.int (3 : Int32)), (.int p1)])) _
  refine XS.iushr X0.here hx rfl (hb hby at_27) rfl ?_
  show Steps p.tables e below (T0.setTop (mkF m 28 #[.val (.int p1), .val (.long q2), .second, .val (.long q3), .second, .val (.long q4), .second, .val (.int (own_n p1)), .val (.long q3), .second, .unset, .unset, .unset, .unset, .unset, .unset, .unset] [(.int ((p1.toUInt32 >>> ((3 : Int32) &&& 31).toUInt32).toInt32))])) _
  refine XS.iconst X0.here hx rfl (hb hby at_28) ?_
  show Steps p.tables e below (T0.setTop (mkF m 29 #[.val (.int p1), .val (.long q2), .second, .val (.long q3), .second, .val (.long q4), .second, .val (.int (own_n p1)), .val (.long q3), .second, .unset, .unset, .unset, .unset, .unset, .unset, .unset] [(.int (1 : Int32)), (.int ((p1.toUInt32 >>> ((3 : Int32) &&& 31).toUInt32).toInt32))])) _
  refine XS.iand X0.here hx rfl (hb hby at_29) rfl ?_
  show Steps p.tables e below (T0.setTop (mkF m 30 #[.val (.int p1), .val (.long q2), .second, .val (.long q3), .second, .val (.long q4), .second, .val (.int (own_n p1)), .val (.long q3), .second, .unset, .unset, .unset, .unset, .unset, .unset, .unset] [(.int (((p1.toUInt32 >>> ((3 : Int32) &&& 31).toUInt32).toInt32) &&& (1 : Int32)))])) _
  refine XS.ifYes X0.here hx rfl (pc0 := 30) (pc' := 38) rfl (hb hby at_30) rfl ((if0 _ _).trans (teq hc30).1) (by decide) (by decide) ?_
  show Steps p.tables e below (T0.setTop (mkF m 38 #[.val (.int p1), .val (.long q2), .second, .val (.long q3), .second, .val (.long q4), .second, .val (.int (own_n p1)), .val (.long q3), .second, .unset, .unset, .unset, .unset, .unset, .unset, .unset] [])) _
  refine XS.lload X0.here hx rfl (hb hby at_38) rfl ?_
  show Steps p.tables e below (T0.setTop (mkF m 40 #[.val (.int p1), .val (.long q2), .second, .val (.long q3), .second, .val (.long q4), .second, .val (.int (own_n p1)), .val (.long q3), .second, .unset, .unset, .unset, .unset, .unset, .unset, .unset] [(.long q4)])) _
  refine XS.lstore X0.here hx rfl (hb hby at_40) rfl (l' := #[.val (.int p1), .val (.long q2), .second, .val (.long q3), .second, .val (.long q4), .second, .val (.int (own_n p1)), .val (.long q3), .second, .val (.long q4), .second, .unset, .unset, .unset, .unset, .unset]) rfl ?_
  exact kt
theorem own_j0 {p : Program} {l : Launch} {e : Env} {R : Room} {s : State} {m : MethodId} {args : Array Value} {below : List Frame} {meth : Method} {c : Code} {T0 : State} {locs : List Loc} {cells slots : Nat} {Z : State} {a0 : Array Value} {h0 : Heap} (p1 : Int32) (q2 q3 q4 : Int64) (vn : Int32) (vb vc : Int64) (hn : own_n p1 = vn) (hvb : own_vb p1 q2 q3 = vb) (hvc : own_vc p1 q2 q3 q4 = vc)
    (X0 : Stand p l e R s m args below meth c T0 locs cells slots) (hx : p.tables.exec = Jvm.exec) (hZ : Z.Warmed39 s.vm) (hw : ∀ d ∈ tables_1, d.before a0 Z = true) (hby : c.code = code) (hml : c.maxLocals = 17) (hown : s.vm.findClass "com/example/mullion/mullion/aggregators/FurthestBackFindSmallestPinLaw" = some m.cls) (e0 : T0.heap = h0) :
    ∃ (T' : State), Stand p l e R s m args below meth c T' locs cells slots ∧ T'.heap = h0 ∧
      ∀ target, Steps p.tables e below (T'.setTop (mkF m 42 #[.val (.int p1), .val (.long q2), .second, .val (.long q3), .second, .val (.long q4), .second, .val (.int vn), .val (.long vb), .second, .val (.long vc), .second, .unset, .unset, .unset, .unset, .unset] [])) target → Steps p.tables e below (T0.setTop (mkF m 0 #[.val (.int p1), .val (.long q2), .second, .val (.long q3), .second, .val (.long q4), .second, .unset, .unset, .unset, .unset, .unset, .unset, .unset, .unset, .unset, .unset] [])) target := by
  subst hn hvb hvc
  by_cases c1 : own_bit2 p1 = (0 : Int32)
  · have hb : own_vb p1 q2 q3 = q3 := if_pos c1
    by_cases c2 : own_bit3 p1 = (0 : Int32)
    · have hc : own_vc p1 q2 q3 q4 = q4 := if_pos c2
      rw [hb, hc]; exact tn0_0_42_tt p1 q2 q3 q4 X0 hx hZ hw hby hml hown e0 c1 c2
    · have hc : own_vc p1 q2 q3 q4 = q3 := (if_neg c2).trans hb
      rw [hb, hc]; exact tn0_0_42_tf p1 q2 q3 q4 X0 hx hZ hw hby hml hown e0 c1 c2
  · have hb : own_vb p1 q2 q3 = q2 := if_neg c1
    by_cases c2 : own_bit3 p1 = (0 : Int32)
    · have hc : own_vc p1 q2 q3 q4 = q4 := if_pos c2
      rw [hb, hc]; exact tn0_0_42_ft p1 q2 q3 q4 X0 hx hZ hw hby hml hown e0 c1 c2
    · have hc : own_vc p1 q2 q3 q4 = q2 := (if_neg c2).trans hb
      rw [hb, hc]; exact tn0_0_42_ff p1 q2 q3 q4 X0 hx hZ hw hby hml hown e0 c1 c2
theorem own_pos2 (a b : Int64) : ¬ (own_is a (own_mn a b) + own_is b (own_mn a b) = 0) := by
  unfold own_is
  rcases own_mn_cases a b with ⟨h, -⟩ | ⟨h, -⟩ <;> rw [h]
  · rw [if_pos rfl]; split <;> decide
  · rw [if_pos (rfl : b = b)]; split <;> decide
theorem own_pos3 (a b c : Int64) : ¬ (own_is a (own_mn (own_mn a b) c) + own_is b (own_mn (own_mn a b) c) + own_is c (own_mn (own_mn a b) c) = 0) := by
  unfold own_is
  rcases own_mn_cases (own_mn a b) c with ⟨h, -⟩ | ⟨h, -⟩ <;> rw [h]
  · rcases own_mn_cases a b with ⟨r, -⟩ | ⟨r, -⟩ <;> rw [r]
    · rw [if_pos rfl]; split <;> split <;> decide
    · rw [if_pos (rfl : b = b)]; split <;> split <;> decide
  · rw [if_pos (rfl : c = c)]; split <;> split <;> decide
def Q0 (Z : State) (p1 : Int32) (q2 : Int64) (q3 : Int64) (q4 : Int64) (h0 : Heap) (n0 : Nat) (v : Option Value) (h : Heap) (L : List Loc) : Prop := v = some (.int (1 : Int32)) ∧ Fr n0 L
theorem pn_0 : plainName "com/example/mullion/mullion/aggregators/FurthestBackFindSmallestPinLaw" = true := by first | (simp [plainName, overriddenIn]; done) | decide +kernel
theorem pd_0_0 : parseMethodDescriptor "(IJ)V" = some ⟨[.int, .long], none⟩ := by decide +kernel
theorem pd_0_4 : parseMethodDescriptor "()J" = some ⟨[], some .long⟩ := by decide +kernel
theorem pd_0_5 : parseMethodDescriptor "()Z" = some ⟨[], some .boolean⟩ := by decide +kernel
theorem ef_0 (m : MethodId) (x0 : Int32) (x1 : Int64) (x2 : Int64) (x3 : Int64) : entryFrame m #[(.int x0), (.long x1), (.long x2), (.long x3)] maxLocals = mkF m 0 #[.val (.int x0), .val (.long x1), .second, .val (.long x2), .second, .val (.long x3), .second, .unset, .unset, .unset, .unset, .unset, .unset, .unset, .unset, .unset, .unset] [] := by first | (simp [entryFrame, mkF, argsToLocals, Value.category, maxLocals]; done) | rfl
theorem pd_0_6 : parseMethodDescriptor "(JJ)J" = some ⟨[.long, .long], some .long⟩ := by decide +kernel
set_option maxRecDepth 65536 in
set_option maxHeartbeats 40000000 in
theorem rm0_1m (l : Launch) (Z : State) (a0 : Array Value) (hw : ∀ d ∈ tables_1, d.before a0 Z = true) (ws : List Jvm.Cond) (p1 : Int32) (q2 : Int64) (q3 : Int64) (q4 : Int64) (h0 : Heap) (n0 : Nat) (Z0 : n0 ≤ h0.size) (vb vc mm : Int64) (hn : own_n p1 = 1) (hvb : own_vb p1 q2 q3 = vb) (hvc : own_vc p1 q2 q3 q4 = vc) (hm : mm = q2) (h160 : q2 = (9223372036854775807 : Int64)) :
    MetFree l x (head1 (Jvm.Cond.code x code maxLocals ret :: ws) room_1) (fun a U => a = #[(.int p1), (.long q2), (.long q3), (.long q4)] ∧ Z.Warmed39 U.vm ∧ U.heap = h0) (fun _ _ _ _ _ => True) (fun _ U o U' => ∃ v L, o = .returned v ∧ Q0 Z p1 q2 q3 q4 h0 n0 v U'.heap L ∧ FrameEnd U o U' L room_1.cells room_1.slots) := by
  refine MetFree.of_bodySF (plainFor_of_name pn_0) hisR ?_
  intro p e s m args below meth c s₁ Bd hml0 hP hK
  obtain ⟨rfl, hZ, hh⟩ := hP
  have hx := Bd.exec
  have hby := Bd.bytes
  have hml : c.maxLocals = 17 := hml0
  have hown : s.vm.findClass "com/example/mullion/mullion/aggregators/FurthestBackFindSmallestPinLaw" = some m.cls := findClass_of_methodNamed Bd.named
  have hnm := (name_of_methodNamed Bd.named Bd.method).1
  have X0 : Stand p l e room_1 s m #[(.int p1), (.long q2), (.long q3), (.long q4)] below meth c s₁ [] 0 0 := Stand.of_body Bd
  have e0 : s₁.heap = h0 := by rw [← hh, Bd.state]; rfl
  have N0 := Fr.nil n0
  have pre0 : ∀ t, Steps p.tables e below (s₁.setTop (mkF m 0 #[.val (.int p1), .val (.long q2), .second, .val (.long q3), .second, .val (.long q4), .second, .unset, .unset, .unset, .unset, .unset, .unset, .unset, .unset, .unset, .unset] [])) t → Steps p.tables e below (s₁.setTop (entryFrame m #[(.int p1), (.long q2), (.long q3), (.long q4)] maxLocals)) t := fun t k => castTop (ef_0 m p1 q2 q3 q4) k
  have hc66 : (1 : Int32) < (2 : Int32) := (by decide)
  have hc80 : (1 : Int32) < (3 : Int32) := (by decide)
  have hc97 : (1 : Int32) < (2 : Int32) := (by decide)
  have hc112 : (1 : Int32) < (3 : Int32) := (by decide)
  have hc160 : (lcmpW q2 (9223372036854775807 : Int64)) = (0 : Int32) := ((lw_eq _ _).mpr h160)
  obtain ⟨T5, X5, e5, st5⟩ := own_j0 p1 q2 q3 q4 (1 : Int32) vb vc hn hvb hvc X0 hx hZ hw hby hml hown e0
  obtain ⟨T6, h6, X6, e6, E6, A6, D6, -, st6⟩ := newO X5 hx hZ hown (hw _ (List.mem_of_getElem? (i := 1) rfl)) (hw _ (List.mem_of_getElem? (i := 2) rfl)) (hw _ (List.mem_of_getElem? (i := 3) rfl)) e5 (g := (mkF m 42 #[.val (.int p1), .val (.long q2), .second, .val (.long q3), .second, .val (.long q4), .second, .val (.int (1 : Int32)), .val (.long vb), .second, .val (.long vc), .second, .unset, .unset, .unset, .unset, .unset] [])) rfl (hb hby at_42) (by decide) (by decide)
  obtain ⟨b6, g6⟩ : ∃ z, z = h0.size := ⟨_, rfl⟩
  rw [← g6] at A6 D6 st6
  have F_values_b6 : Fld Z h6 b6 "com/example/mullion/mullion/aggregators/FurthestBack" "values" "[J" .null := D6 (Or.inr (hw _ (List.mem_of_getElem? (i := 13) rfl))) (ty := (.array .long)) (by decide)
  have F_mark_b6 : Fld Z h6 b6 "com/example/mullion/mullion/aggregators/FurthestBack" "mark" "J" (.long (0 : Int64)) := D6 (Or.inl (hw _ (List.mem_of_getElem? (i := 24) rfl))) (ty := .long) (by decide)
  have F_atOrBelowMark_b6 : Fld Z h6 b6 "com/example/mullion/mullion/aggregators/FurthestBack" "atOrBelowMark" "I" (.int (0 : Int32)) := D6 (Or.inl (hw _ (List.mem_of_getElem? (i := 26) rfl))) (ty := .int) (by decide)
  have E_b6 := A6
  have g_b6 : n0 ≤ b6 := Nat.le_trans Z0 (Nat.le_of_eq g6.symm)
  have sz_b6 : h0.size ≤ b6 := (Nat.le_trans (Keep.refl h0 []).1 (Nat.le_of_eq g6.symm))
  have K6 : Keep h0 h6 [] := (Keep.refl h0 []).ext E6
  obtain ⟨_, _, ⟨T7, L7, k7, n7⟩, -, X7, ⟨Lc7, hQ7, l7, y7, z7⟩, st7⟩ := X6.specialBack hx (y := (⟨"com/example/mullion/mullion/aggregators/FurthestBack", "<init>", "(IJ)V"⟩ : MethodName)) rfl hown (mvT hZ (hw _ (List.mem_of_getElem? (i := 5) rfl))) (mvT hZ (hw _ (List.mem_of_getElem? (i := 6) rfl))) (mvT hZ (hw _ (List.mem_of_getElem? (i := 7) rfl))) (by decide) (backOf (W := 1) (rm1 l Z a0 hw [] b6 (1 : Int32) (-9223372036854775808 : Int64) 1 h6 n0 (Nat.le_trans Z0 E6.1) (by decide) rfl (by decide) E_b6 F_values_b6 F_mark_b6 F_atOrBelowMark_b6 g_b6) hZ (hw _ (List.mem_of_getElem? (i := 7) rfl)) (hw _ (List.mem_of_getElem? (i := 3) rfl)) (by decide) (by decide)) (g := (mkF m 51 #[.val (.int p1), .val (.long q2), .second, .val (.long q3), .second, .val (.long q4), .second, .val (.int (1 : Int32)), .val (.long vb), .second, .val (.long vc), .second, .unset, .unset, .unset, .unset, .unset] [(.long (-9223372036854775808 : Int64)), (.int (1 : Int32)), (.ref b6), (.ref b6)])) rfl (by rw [hml]; rfl) (Steps.refl _) (a := b6) (argsL := [(.int (1 : Int32)), (.long (-9223372036854775808 : Int64))]) (rest := [(.ref b6)]) (lenOf pd_0_0 rfl) rfl (by show 2 * 0 + _ ≤ _; exact Nat.le_of_eq rfl) (hb hby at_51) (fun _ _ => ⟨rfl, e6, (by decide : 1 + 1 ≤ _), (by decide : 3 + 3 ≤ _)⟩)
  dsimp only [Pt.U, Pt.locs, Pt.cells, Pt.slots] at X7 l7 y7 z7 st7 hQ7
  subst l7 y7 z7
  obtain ⟨rfl, N7q, K7q, t, st, E7q, Fv7q, Fm7q, Fa7q, V7q⟩ := hQ7
  have N7 := Fr.app N0 N7q
  have z7q : n0 ≤ T7.heap.size := Nat.le_trans (Nat.le_trans Z0 E6.1) K7q.1
  have hne : b6 ≠ t := Nat.ne_of_lt (Nat.lt_of_lt_of_le E_b6.lt st)
  have g_t : n0 ≤ t := Nat.le_trans (Nat.le_trans Z0 E6.1) st
  obtain ⟨cq8, kq8, q8a, q8b, q8c⟩ := isOf hZ rfl E7q
  obtain ⟨_, _, ⟨T8, L8, k8, n8⟩, -, X8, ⟨Lc8, hQ8, l8, y8, z8⟩, st8⟩ := X7.virtualBack hx (y := (⟨"com/example/mullion/mullion/aggregators/FurthestBack", "moveOn", "(IJ)V"⟩ : MethodName)) (z := (⟨"com/example/mullion/mullion/aggregators/FurthestBack", "moveOn", "(IJ)V"⟩ : MethodName)) hown (mvT hZ (hw _ (List.mem_of_getElem? (i := 27) rfl))) (mvT hZ (hw _ (List.mem_of_getElem? (i := 28) rfl))) (notFace_of_selects (args := #[]) (mvT hZ (hw _ (List.mem_of_getElem? (i := 30) rfl)))) (mvT hZ (hw _ (List.mem_of_getElem? (i := 30) rfl))) (mvT hZ (hw _ (List.mem_of_getElem? (i := 29) rfl))) (by decide) (backOf (W := 0) (rm5 l Z a0 hw [] b6 (0 : Int32) q2 t 1 _ 0 _ _ T7.heap n0 z7q rfl (by decide) (by decide) E7q Fv7q Fm7q Fa7q V7q hne g_b6 g_t) hZ (hw _ (List.mem_of_getElem? (i := 31) rfl)) (hw _ (List.mem_of_getElem? (i := 3) rfl)) (by decide) (by decide)) q8a q8c (g := (mkF m 60 #[.val (.int p1), .val (.long q2), .second, .val (.long q3), .second, .val (.long q4), .second, .val (.int (1 : Int32)), .val (.long vb), .second, .val (.long vc), .second, .val (.ref b6), .unset, .unset, .unset, .unset] [(.long q2), (.int (0 : Int32)), (.ref b6)])) rfl (by rw [hml]; rfl) (Steps.refl _) (argsL := [(.int (0 : Int32)), (.long q2)]) (rest := []) (lenOf pd_0_0 rfl) rfl (by show 2 * 0 + _ ≤ _; exact Nat.le_of_eq rfl) (hb hby at_60) (fun _ _ => ⟨rfl, rfl, (by decide : 2 + 0 ≤ _), (by decide : 6 + 0 ≤ _)⟩)
  dsimp only [Pt.U, Pt.locs, Pt.cells, Pt.slots] at X8 l8 y8 z8 st8 hQ8
  subst l8 y8 z8
  obtain ⟨rfl, N8q, K8q, E8q, Fv8q, Fm8q, Fa8q, V8q⟩ := hQ8
  have N8 := Fr.app N7 N8q
  have z8q : n0 ≤ T8.heap.size := Nat.le_trans z7q K8q.1
  obtain ⟨cq9, kq9, q9a, q9b, q9c⟩ := isOf hZ rfl E8q
  obtain ⟨_, _, ⟨T9, L9, k9, n9⟩, -, X9, ⟨Lc9, hQ9, l9, y9, z9⟩, st9⟩ := X8.virtualBack hx (y := (⟨"com/example/mullion/mullion/aggregators/FurthestBack", "findSmallest", "()J"⟩ : MethodName)) (z := (⟨"com/example/mullion/mullion/aggregators/FurthestBack", "findSmallest", "()J"⟩ : MethodName)) hown (mvT hZ (hw _ (List.mem_of_getElem? (i := 32) rfl))) (mvT hZ (hw _ (List.mem_of_getElem? (i := 33) rfl))) (notFace_of_selects (args := #[]) (mvT hZ (hw _ (List.mem_of_getElem? (i := 35) rfl)))) (mvT hZ (hw _ (List.mem_of_getElem? (i := 35) rfl))) (mvT hZ (hw _ (List.mem_of_getElem? (i := 34) rfl))) (by decide) (backOf (W := 0) (rm6 l Z a0 hw [] b6 t 1 (fun j => if j = 0 then q2 else (-9223372036854775808 : Int64)) _ _ T8.heap n0 z8q (by decide) E8q Fv8q Fm8q Fa8q V8q hne g_b6) hZ (hw _ (List.mem_of_getElem? (i := 36) rfl)) (hw _ (List.mem_of_getElem? (i := 3) rfl)) (by decide) (by decide)) q9a q9c (g := (mkF m 126 #[.val (.int p1), .val (.long q2), .second, .val (.long q3), .second, .val (.long q4), .second, .val (.int (1 : Int32)), .val (.long vb), .second, .val (.long vc), .second, .val (.ref b6), .val (.long q2), .second, .unset, .unset] [(.ref b6)])) rfl (by rw [hml]; rfl) (Steps.refl _) (argsL := []) (rest := []) (lenOf pd_0_4 rfl) rfl (by show 2 * 0 + _ ≤ _; exact Nat.le_of_eq rfl) (hb hby at_126) (fun _ _ => ⟨rfl, rfl, (by decide : 2 + 0 ≤ _), (by decide : 6 + 0 ≤ _)⟩)
  dsimp only [Pt.U, Pt.locs, Pt.cells, Pt.slots] at X9 l9 y9 z9 st9 hQ9
  subst l9 y9 z9
  obtain ⟨hv9, N9q, K9q, E9q, Fv9q, Fm9q, Fa9q, V9q⟩ := hQ9
  have N9 := Fr.app N8 N9q
  have z9q : n0 ≤ T9.heap.size := Nat.le_trans z8q K9q.1
  have hfs : own_fs (fun j => if j = 0 then q2 else (-9223372036854775808 : Int64)) 1 0 ((9223372036854775807 : Int64), (0 : Int32)) = (q2, (1 : Int32)) := by show own_step ((9223372036854775807 : Int64), 0) q2 = _; exact own_first q2
  rw [hfs] at hv9
  replace hv9 : _ = some (Value.long q2) := hv9
  subst hv9
  have Gm9q : Fld Z T9.heap b6 "com/example/mullion/mullion/aggregators/FurthestBack" "mark" "J" (.long q2) := by have q := Fm9q; rw [hfs] at q; exact q
  have Ga9q : Fld Z T9.heap b6 "com/example/mullion/mullion/aggregators/FurthestBack" "atOrBelowMark" "I" (.int (1 : Int32)) := by have q := Fa9q; rw [hfs] at q; exact q
  obtain ⟨cq10, kq10, q10a, q10b, q10c⟩ := isOf hZ rfl E9q
  obtain ⟨_, _, ⟨T10, L10, k10, n10⟩, -, X10, ⟨Lc10, hQ10, l10, y10, z10⟩, st10⟩ := X9.virtualBack hx (y := (⟨"com/example/mullion/mullion/aggregators/FurthestBack", "mark", "()J"⟩ : MethodName)) (z := (⟨"com/example/mullion/mullion/aggregators/FurthestBack", "mark", "()J"⟩ : MethodName)) hown (mvT hZ (hw _ (List.mem_of_getElem? (i := 38) rfl))) (mvT hZ (hw _ (List.mem_of_getElem? (i := 39) rfl))) (notFace_of_selects (args := #[]) (mvT hZ (hw _ (List.mem_of_getElem? (i := 41) rfl)))) (mvT hZ (hw _ (List.mem_of_getElem? (i := 41) rfl))) (mvT hZ (hw _ (List.mem_of_getElem? (i := 40) rfl))) (by decide) (backOf (W := 0) (rm7 l Z a0 hw [] b6 q2 T9.heap n0 z9q Gm9q) hZ (hw _ (List.mem_of_getElem? (i := 42) rfl)) (hw _ (List.mem_of_getElem? (i := 3) rfl)) (by decide) (by decide)) q10a q10c (g := (mkF m 143 #[.val (.int p1), .val (.long q2), .second, .val (.long q3), .second, .val (.long q4), .second, .val (.int (1 : Int32)), .val (.long vb), .second, .val (.long vc), .second, .val (.ref b6), .val (.long q2), .second, .val (.long q2), .second] [(.ref b6)])) rfl (by rw [hml]; rfl) (Steps.refl _) (argsL := []) (rest := []) (lenOf pd_0_4 rfl) rfl (by show 2 * 0 + _ ≤ _; exact Nat.le_of_eq rfl) (hb hby at_143) (fun _ _ => ⟨rfl, rfl, (by decide : 2 + 0 ≤ _), (by decide : 6 + 0 ≤ _)⟩)
  dsimp only [Pt.U, Pt.locs, Pt.cells, Pt.slots] at X10 l10 y10 z10 st10 hQ10
  subst l10 y10 z10
  obtain ⟨rfl, N10q, e10q⟩ := hQ10
  have N10 := Fr.app N9 N10q
  have z10q : n0 ≤ T10.heap.size := by rw [e10q]; exact z9q
  have E10q := E9q
  rw [← e10q] at E10q
  have Fv10q := Fv9q
  rw [← e10q] at Fv10q
  have Fm10q := Gm9q
  rw [← e10q] at Fm10q
  have Fa10q := Ga9q
  rw [← e10q] at Fa10q
  have V10q := V9q
  rw [← e10q] at V10q
  obtain ⟨cq11, kq11, q11a, q11b, q11c⟩ := isOf hZ rfl E10q
  obtain ⟨_, _, ⟨T11, L11, k11, n11⟩, -, X11, ⟨Lc11, hQ11, l11, y11, z11⟩, st11⟩ := X10.virtualBack hx (y := (⟨"com/example/mullion/mullion/aggregators/FurthestBack", "allMovedOn", "()Z"⟩ : MethodName)) (z := (⟨"com/example/mullion/mullion/aggregators/FurthestBack", "allMovedOn", "()Z"⟩ : MethodName)) hown (mvT hZ (hw _ (List.mem_of_getElem? (i := 44) rfl))) (mvT hZ (hw _ (List.mem_of_getElem? (i := 45) rfl))) (notFace_of_selects (args := #[]) (mvT hZ (hw _ (List.mem_of_getElem? (i := 47) rfl)))) (mvT hZ (hw _ (List.mem_of_getElem? (i := 47) rfl))) (mvT hZ (hw _ (List.mem_of_getElem? (i := 46) rfl))) (by decide) (backOf (W := 0) (rm8_t l Z a0 hw [] b6 (1 : Int32) T10.heap n0 z10q Fa10q (by decide)) hZ (hw _ (List.mem_of_getElem? (i := 48) rfl)) (hw _ (List.mem_of_getElem? (i := 3) rfl)) (by decide) (by decide)) q11a q11c (g := (mkF m 165 #[.val (.int p1), .val (.long q2), .second, .val (.long q3), .second, .val (.long q4), .second, .val (.int (1 : Int32)), .val (.long vb), .second, .val (.long vc), .second, .val (.ref b6), .val (.long q2), .second, .val (.long q2), .second] [(.ref b6)])) rfl (by rw [hml]; rfl) (Steps.refl _) (argsL := []) (rest := []) (lenOf pd_0_5 rfl) rfl (by show 2 * 0 + _ ≤ _; exact Nat.le_of_eq rfl) (hb hby at_165) (fun _ _ => ⟨rfl, rfl, (by decide : 2 + 0 ≤ _), (by decide : 6 + 0 ≤ _)⟩)
  dsimp only [Pt.U, Pt.locs, Pt.cells, Pt.slots] at X11 l11 y11 z11 st11 hQ11
  subst l11 y11 z11
  obtain ⟨rfl, N11q, e11q⟩ := hQ11
  have N11 := Fr.app N10 N11q
  have z11q : n0 ≤ T11.heap.size := by rw [e11q]; exact z10q
  have E11q := E10q
  rw [← e11q] at E11q
  have Fv11q := Fv10q
  rw [← e11q] at Fv11q
  have Fm11q := Fm10q
  rw [← e11q] at Fm11q
  have Fa11q := Fa10q
  rw [← e11q] at Fa11q
  have V11q := V10q
  rw [← e11q] at V11q
  obtain ⟨fs, hr, hrun, hended, hW, hsame⟩ := X11.leave (v := some (.int (1 : Int32))) (fun h => by rw [Bd.returns] at h; cases h)
  refine ⟨_, _, pre0 _ ?_, hrun, hended, _, _, rfl, ?_, ⟨_, rfl⟩, hW, hsame.mono (by decide) (by decide)⟩
  · show Steps p.tables e below (s₁.setTop (mkF m 0 #[.val (.int p1), .val (.long q2), .second, .val (.long q3), .second, .val (.long q4), .second, .unset, .unset, .unset, .unset, .unset, .unset, .unset, .unset, .unset, .unset] [])) _
    refine st5 _ ?_
    show Steps p.tables e below (T5.setTop (mkF m 42 #[.val (.int p1), .val (.long q2), .second, .val (.long q3), .second, .val (.long q4), .second, .val (.int (1 : Int32)), .val (.long vb), .second, .val (.long vc), .second, .unset, .unset, .unset, .unset, .unset] [])) _
    refine st6 _ ?_
    show Steps p.tables e below (T6.setTop (mkF m 45 #[.val (.int p1), .val (.long q2), .second, .val (.long q3), .second, .val (.long q4), .second, .val (.int (1 : Int32)), .val (.long vb), .second, .val (.long vc), .second, .unset, .unset, .unset, .unset, .unset] [(.ref b6)])) _
    refine XS.dup X6.here hx rfl (hb hby at_45) rfl rfl ?_
    show Steps p.tables e below (T6.setTop (mkF m 46 #[.val (.int p1), .val (.long q2), .second, .val (.long q3), .second, .val (.long q4), .second, .val (.int (1 : Int32)), .val (.long vb), .second, .val (.long vc), .second, .unset, .unset, .unset, .unset, .unset] [(.ref b6), (.ref b6)])) _
    refine XS.iload X6.here hx rfl (hb hby at_46) rfl ?_
    show Steps p.tables e below (T6.setTop (mkF m 48 #[.val (.int p1), .val (.long q2), .second, .val (.long q3), .second, .val (.long q4), .second, .val (.int (1 : Int32)), .val (.long vb), .second, .val (.long vc), .second, .unset, .unset, .unset, .unset, .unset] [(.int (1 : Int32)), (.ref b6), (.ref b6)])) _
    refine X6.ldc2Long hx hown (mvT hZ (hw _ (List.mem_of_getElem? (i := 4) rfl))) (g := (mkF m 48 #[.val (.int p1), .val (.long q2), .second, .val (.long q3), .second, .val (.long q4), .second, .val (.int (1 : Int32)), .val (.long vb), .second, .val (.long vc), .second, .unset, .unset, .unset, .unset, .unset] [(.int (1 : Int32)), (.ref b6), (.ref b6)])) rfl (hb hby at_48) _ ?_
    show Steps p.tables e below (T6.setTop (mkF m 51 #[.val (.int p1), .val (.long q2), .second, .val (.long q3), .second, .val (.long q4), .second, .val (.int (1 : Int32)), .val (.long vb), .second, .val (.long vc), .second, .unset, .unset, .unset, .unset, .unset] [(.long (-9223372036854775808 : Int64)), (.int (1 : Int32)), (.ref b6), (.ref b6)])) _
    refine st7.trans ?_
    show Steps p.tables e below (T7.setTop (mkF m 54 #[.val (.int p1), .val (.long q2), .second, .val (.long q3), .second, .val (.long q4), .second, .val (.int (1 : Int32)), .val (.long vb), .second, .val (.long vc), .second, .unset, .unset, .unset, .unset, .unset] [(.ref b6)])) _
    refine XS.astore X7.here hx rfl (hb hby at_54) rfl rfl (l' := #[.val (.int p1), .val (.long q2), .second, .val (.long q3), .second, .val (.long q4), .second, .val (.int (1 : Int32)), .val (.long vb), .second, .val (.long vc), .second, .val (.ref b6), .unset, .unset, .unset, .unset]) rfl ?_
    show Steps p.tables e below (T7.setTop (mkF m 56 #[.val (.int p1), .val (.long q2), .second, .val (.long q3), .second, .val (.long q4), .second, .val (.int (1 : Int32)), .val (.long vb), .second, .val (.long vc), .second, .val (.ref b6), .unset, .unset, .unset, .unset] [])) _
    refine XS.aload X7.here hx rfl (hb hby at_56) rfl rfl ?_
    show Steps p.tables e below (T7.setTop (mkF m 58 #[.val (.int p1), .val (.long q2), .second, .val (.long q3), .second, .val (.long q4), .second, .val (.int (1 : Int32)), .val (.long vb), .second, .val (.long vc), .second, .val (.ref b6), .unset, .unset, .unset, .unset] [(.ref b6)])) _
    refine XS.iconst X7.here hx rfl (hb hby at_58) ?_
    show Steps p.tables e below (T7.setTop (mkF m 59 #[.val (.int p1), .val (.long q2), .second, .val (.long q3), .second, .val (.long q4), .second, .val (.int (1 : Int32)), .val (.long vb), .second, .val (.long vc), .second, .val (.ref b6), .unset, .unset, .unset, .unset] [(.int (0 : Int32)), (.ref b6)])) _
    refine XS.lloadN X7.here hx rfl (hb hby at_59) rfl ?_
    show Steps p.tables e below (T7.setTop (mkF m 60 #[.val (.int p1), .val (.long q2), .second, .val (.long q3), .second, .val (.long q4), .second, .val (.int (1 : Int32)), .val (.long vb), .second, .val (.long vc), .second, .val (.ref b6), .unset, .unset, .unset, .unset] [(.long q2), (.int (0 : Int32)), (.ref b6)])) _
    refine st8.trans ?_
    show Steps p.tables e below (T8.setTop (mkF m 63 #[.val (.int p1), .val (.long q2), .second, .val (.long q3), .second, .val (.long q4), .second, .val (.int (1 : Int32)), .val (.long vb), .second, .val (.long vc), .second, .val (.ref b6), .unset, .unset, .unset, .unset] [])) _
    refine XS.iload X8.here hx rfl (hb hby at_63) rfl ?_
    show Steps p.tables e below (T8.setTop (mkF m 65 #[.val (.int p1), .val (.long q2), .second, .val (.long q3), .second, .val (.long q4), .second, .val (.int (1 : Int32)), .val (.long vb), .second, .val (.long vc), .second, .val (.ref b6), .unset, .unset, .unset, .unset] [(.int (1 : Int32))])) _
    refine XS.iconst X8.here hx rfl (hb hby at_65) ?_
    show Steps p.tables e below (T8.setTop (mkF m 66 #[.val (.int p1), .val (.long q2), .second, .val (.long q3), .second, .val (.long q4), .second, .val (.int (1 : Int32)), .val (.long vb), .second, .val (.long vc), .second, .val (.ref b6), .unset, .unset, .unset, .unset] [(.int (2 : Int32)), (.int (1 : Int32))])) _
    refine XS.icmpYes X8.here hx rfl (pc0 := 66) (pc' := 77) rfl (hb hby at_66) rfl (tlt hc66).1 (by decide) (by decide) ?_
    show Steps p.tables e below (T8.setTop (mkF m 77 #[.val (.int p1), .val (.long q2), .second, .val (.long q3), .second, .val (.long q4), .second, .val (.int (1 : Int32)), .val (.long vb), .second, .val (.long vc), .second, .val (.ref b6), .unset, .unset, .unset, .unset] [])) _
    refine XS.iload X8.here hx rfl (hb hby at_77) rfl ?_
    show Steps p.tables e below (T8.setTop (mkF m 79 #[.val (.int p1), .val (.long q2), .second, .val (.long q3), .second, .val (.long q4), .second, .val (.int (1 : Int32)), .val (.long vb), .second, .val (.long vc), .second, .val (.ref b6), .unset, .unset, .unset, .unset] [(.int (1 : Int32))])) _
    refine XS.iconst X8.here hx rfl (hb hby at_79) ?_
    show Steps p.tables e below (T8.setTop (mkF m 80 #[.val (.int p1), .val (.long q2), .second, .val (.long q3), .second, .val (.long q4), .second, .val (.int (1 : Int32)), .val (.long vb), .second, .val (.long vc), .second, .val (.ref b6), .unset, .unset, .unset, .unset] [(.int (3 : Int32)), (.int (1 : Int32))])) _
    refine XS.icmpYes X8.here hx rfl (pc0 := 80) (pc' := 91) rfl (hb hby at_80) rfl (tlt hc80).1 (by decide) (by decide) ?_
    show Steps p.tables e below (T8.setTop (mkF m 91 #[.val (.int p1), .val (.long q2), .second, .val (.long q3), .second, .val (.long q4), .second, .val (.int (1 : Int32)), .val (.long vb), .second, .val (.long vc), .second, .val (.ref b6), .unset, .unset, .unset, .unset] [])) _
    refine XS.lloadN X8.here hx rfl (hb hby at_91) rfl ?_
    show Steps p.tables e below (T8.setTop (mkF m 92 #[.val (.int p1), .val (.long q2), .second, .val (.long q3), .second, .val (.long q4), .second, .val (.int (1 : Int32)), .val (.long vb), .second, .val (.long vc), .second, .val (.ref b6), .unset, .unset, .unset, .unset] [(.long q2)])) _
    refine XS.lstore X8.here hx rfl (hb hby at_92) rfl (l' := #[.val (.int p1), .val (.long q2), .second, .val (.long q3), .second, .val (.long q4), .second, .val (.int (1 : Int32)), .val (.long vb), .second, .val (.long vc), .second, .val (.ref b6), .val (.long q2), .second, .unset, .unset]) rfl ?_
    show Steps p.tables e below (T8.setTop (mkF m 94 #[.val (.int p1), .val (.long q2), .second, .val (.long q3), .second, .val (.long q4), .second, .val (.int (1 : Int32)), .val (.long vb), .second, .val (.long vc), .second, .val (.ref b6), .val (.long q2), .second, .unset, .unset] [])) _
    refine XS.iload X8.here hx rfl (hb hby at_94) rfl ?_
    show Steps p.tables e below (T8.setTop (mkF m 96 #[.val (.int p1), .val (.long q2), .second, .val (.long q3), .second, .val (.long q4), .second, .val (.int (1 : Int32)), .val (.long vb), .second, .val (.long vc), .second, .val (.ref b6), .val (.long q2), .second, .unset, .unset] [(.int (1 : Int32))])) _
    refine XS.iconst X8.here hx rfl (hb hby at_96) ?_
    show Steps p.tables e below (T8.setTop (mkF m 97 #[.val (.int p1), .val (.long q2), .second, .val (.long q3), .second, .val (.long q4), .second, .val (.int (1 : Int32)), .val (.long vb), .second, .val (.long vc), .second, .val (.ref b6), .val (.long q2), .second, .unset, .unset] [(.int (2 : Int32)), (.int (1 : Int32))])) _
    refine XS.icmpYes X8.here hx rfl (pc0 := 97) (pc' := 109) rfl (hb hby at_97) rfl (tlt hc97).1 (by decide) (by decide) ?_
    show Steps p.tables e below (T8.setTop (mkF m 109 #[.val (.int p1), .val (.long q2), .second, .val (.long q3), .second, .val (.long q4), .second, .val (.int (1 : Int32)), .val (.long vb), .second, .val (.long vc), .second, .val (.ref b6), .val (.long q2), .second, .unset, .unset] [])) _
    refine XS.iload X8.here hx rfl (hb hby at_109) rfl ?_
    show Steps p.tables e below (T8.setTop (mkF m 111 #[.val (.int p1), .val (.long q2), .second, .val (.long q3), .second, .val (.long q4), .second, .val (.int (1 : Int32)), .val (.long vb), .second, .val (.long vc), .second, .val (.ref b6), .val (.long q2), .second, .unset, .unset] [(.int (1 : Int32))])) _
    refine XS.iconst X8.here hx rfl (hb hby at_111) ?_
    show Steps p.tables e below (T8.setTop (mkF m 112 #[.val (.int p1), .val (.long q2), .second, .val (.long q3), .second, .val (.long q4), .second, .val (.int (1 : Int32)), .val (.long vb), .second, .val (.long vc), .second, .val (.ref b6), .val (.long q2), .second, .unset, .unset] [(.int (3 : Int32)), (.int (1 : Int32))])) _
    refine XS.icmpYes X8.here hx rfl (pc0 := 112) (pc' := 124) rfl (hb hby at_112) rfl (tlt hc112).1 (by decide) (by decide) ?_
    show Steps p.tables e below (T8.setTop (mkF m 124 #[.val (.int p1), .val (.long q2), .second, .val (.long q3), .second, .val (.long q4), .second, .val (.int (1 : Int32)), .val (.long vb), .second, .val (.long vc), .second, .val (.ref b6), .val (.long q2), .second, .unset, .unset] [])) _
    refine XS.aload X8.here hx rfl (hb hby at_124) rfl rfl ?_
    show Steps p.tables e below (T8.setTop (mkF m 126 #[.val (.int p1), .val (.long q2), .second, .val (.long q3), .second, .val (.long q4), .second, .val (.int (1 : Int32)), .val (.long vb), .second, .val (.long vc), .second, .val (.ref b6), .val (.long q2), .second, .unset, .unset] [(.ref b6)])) _
    refine st9.trans ?_
    show Steps p.tables e below (T9.setTop (mkF m 129 #[.val (.int p1), .val (.long q2), .second, .val (.long q3), .second, .val (.long q4), .second, .val (.int (1 : Int32)), .val (.long vb), .second, .val (.long vc), .second, .val (.ref b6), .val (.long q2), .second, .unset, .unset] [(.long q2)])) _
    refine XS.lstore X9.here hx rfl (hb hby at_129) rfl (l' := #[.val (.int p1), .val (.long q2), .second, .val (.long q3), .second, .val (.long q4), .second, .val (.int (1 : Int32)), .val (.long vb), .second, .val (.long vc), .second, .val (.ref b6), .val (.long q2), .second, .val (.long q2), .second]) rfl ?_
    show Steps p.tables e below (T9.setTop (mkF m 131 #[.val (.int p1), .val (.long q2), .second, .val (.long q3), .second, .val (.long q4), .second, .val (.int (1 : Int32)), .val (.long vb), .second, .val (.long vc), .second, .val (.ref b6), .val (.long q2), .second, .val (.long q2), .second] [])) _
    refine XS.lload X9.here hx rfl (hb hby at_131) rfl ?_
    show Steps p.tables e below (T9.setTop (mkF m 133 #[.val (.int p1), .val (.long q2), .second, .val (.long q3), .second, .val (.long q4), .second, .val (.int (1 : Int32)), .val (.long vb), .second, .val (.long vc), .second, .val (.ref b6), .val (.long q2), .second, .val (.long q2), .second] [(.long q2)])) _
    refine XS.lload X9.here hx rfl (hb hby at_133) rfl ?_
    show Steps p.tables e below (T9.setTop (mkF m 135 #[.val (.int p1), .val (.long q2), .second, .val (.long q3), .second, .val (.long q4), .second, .val (.int (1 : Int32)), .val (.long vb), .second, .val (.long vc), .second, .val (.ref b6), .val (.long q2), .second, .val (.long q2), .second] [(.long q2), (.long q2)])) _
    refine XS.lcmp X9.here hx rfl (hb hby at_135) rfl ?_
    show Steps p.tables e below (T9.setTop (mkF m 136 #[.val (.int p1), .val (.long q2), .second, .val (.long q3), .second, .val (.long q4), .second, .val (.int (1 : Int32)), .val (.long vb), .second, .val (.long vc), .second, .val (.ref b6), .val (.long q2), .second, .val (.long q2), .second] [(.int (lcmpW q2 q2))])) _
    refine XS.ifYes X9.here hx rfl (pc0 := 136) (pc' := 141) rfl (hb hby at_136) rfl ((if0 _ _).trans (teq (((lw_eq _ _).mpr rfl) : (lcmpW q2 q2) = (0 : Int32))).1) (by decide) (by decide) ?_
    show Steps p.tables e below (T9.setTop (mkF m 141 #[.val (.int p1), .val (.long q2), .second, .val (.long q3), .second, .val (.long q4), .second, .val (.int (1 : Int32)), .val (.long vb), .second, .val (.long vc), .second, .val (.ref b6), .val (.long q2), .second, .val (.long q2), .second] [])) _
    refine XS.aload X9.here hx rfl (hb hby at_141) rfl rfl ?_
    show Steps p.tables e below (T9.setTop (mkF m 143 #[.val (.int p1), .val (.long q2), .second, .val (.long q3), .second, .val (.long q4), .second, .val (.int (1 : Int32)), .val (.long vb), .second, .val (.long vc), .second, .val (.ref b6), .val (.long q2), .second, .val (.long q2), .second] [(.ref b6)])) _
    refine st10.trans ?_
    show Steps p.tables e below (T10.setTop (mkF m 146 #[.val (.int p1), .val (.long q2), .second, .val (.long q3), .second, .val (.long q4), .second, .val (.int (1 : Int32)), .val (.long vb), .second, .val (.long vc), .second, .val (.ref b6), .val (.long q2), .second, .val (.long q2), .second] [(.long q2)])) _
    refine XS.lload X10.here hx rfl (hb hby at_146) rfl ?_
    show Steps p.tables e below (T10.setTop (mkF m 148 #[.val (.int p1), .val (.long q2), .second, .val (.long q3), .second, .val (.long q4), .second, .val (.int (1 : Int32)), .val (.long vb), .second, .val (.long vc), .second, .val (.ref b6), .val (.long q2), .second, .val (.long q2), .second] [(.long q2), (.long q2)])) _
    refine XS.lcmp X10.here hx rfl (hb hby at_148) rfl ?_
    show Steps p.tables e below (T10.setTop (mkF m 149 #[.val (.int p1), .val (.long q2), .second, .val (.long q3), .second, .val (.long q4), .second, .val (.int (1 : Int32)), .val (.long vb), .second, .val (.long vc), .second, .val (.ref b6), .val (.long q2), .second, .val (.long q2), .second] [(.int (lcmpW q2 q2))])) _
    refine XS.ifYes X10.here hx rfl (pc0 := 149) (pc' := 154) rfl (hb hby at_149) rfl ((if0 _ _).trans (teq (((lw_eq _ _).mpr rfl) : (lcmpW q2 q2) = (0 : Int32))).1) (by decide) (by decide) ?_
    show Steps p.tables e below (T10.setTop (mkF m 154 #[.val (.int p1), .val (.long q2), .second, .val (.long q3), .second, .val (.long q4), .second, .val (.int (1 : Int32)), .val (.long vb), .second, .val (.long vc), .second, .val (.ref b6), .val (.long q2), .second, .val (.long q2), .second] [])) _
    refine XS.lload X10.here hx rfl (hb hby at_154) rfl ?_
    show Steps p.tables e below (T10.setTop (mkF m 156 #[.val (.int p1), .val (.long q2), .second, .val (.long q3), .second, .val (.long q4), .second, .val (.int (1 : Int32)), .val (.long vb), .second, .val (.long vc), .second, .val (.ref b6), .val (.long q2), .second, .val (.long q2), .second] [(.long q2)])) _
    refine X10.ldc2Long hx hown (mvT hZ (hw _ (List.mem_of_getElem? (i := 43) rfl))) (g := (mkF m 156 #[.val (.int p1), .val (.long q2), .second, .val (.long q3), .second, .val (.long q4), .second, .val (.int (1 : Int32)), .val (.long vb), .second, .val (.long vc), .second, .val (.ref b6), .val (.long q2), .second, .val (.long q2), .second] [(.long q2)])) rfl (hb hby at_156) _ ?_
    show Steps p.tables e below (T10.setTop (mkF m 159 #[.val (.int p1), .val (.long q2), .second, .val (.long q3), .second, .val (.long q4), .second, .val (.int (1 : Int32)), .val (.long vb), .second, .val (.long vc), .second, .val (.ref b6), .val (.long q2), .second, .val (.long q2), .second] [(.long (9223372036854775807 : Int64)), (.long q2)])) _
    refine XS.lcmp X10.here hx rfl (hb hby at_159) rfl ?_
    show Steps p.tables e below (T10.setTop (mkF m 160 #[.val (.int p1), .val (.long q2), .second, .val (.long q3), .second, .val (.long q4), .second, .val (.int (1 : Int32)), .val (.long vb), .second, .val (.long vc), .second, .val (.ref b6), .val (.long q2), .second, .val (.long q2), .second] [(.int (lcmpW q2 (9223372036854775807 : Int64)))])) _
    refine XS.ifNo X10.here hx rfl (hb hby at_160) rfl ((if0 _ _).trans (teq hc160).2) ?_
    show Steps p.tables e below (T10.setTop (mkF m 163 #[.val (.int p1), .val (.long q2), .second, .val (.long q3), .second, .val (.long q4), .second, .val (.int (1 : Int32)), .val (.long vb), .second, .val (.long vc), .second, .val (.ref b6), .val (.long q2), .second, .val (.long q2), .second] [])) _
    refine XS.aload X10.here hx rfl (hb hby at_163) rfl rfl ?_
    show Steps p.tables e below (T10.setTop (mkF m 165 #[.val (.int p1), .val (.long q2), .second, .val (.long q3), .second, .val (.long q4), .second, .val (.int (1 : Int32)), .val (.long vb), .second, .val (.long vc), .second, .val (.ref b6), .val (.long q2), .second, .val (.long q2), .second] [(.ref b6)])) _
    refine st11.trans ?_
    show Steps p.tables e below (T11.setTop (mkF m 168 #[.val (.int p1), .val (.long q2), .second, .val (.long q3), .second, .val (.long q4), .second, .val (.int (1 : Int32)), .val (.long vb), .second, .val (.long vc), .second, .val (.ref b6), .val (.long q2), .second, .val (.long q2), .second] [(.int (0 : Int32))])) _
    refine XS.ifNo X11.here hx rfl (hb hby at_168) rfl ((if0 _ _).trans (teq (rfl : (0 : Int32) = (0 : Int32))).2) ?_
    show Steps p.tables e below (T11.setTop (mkF m 171 #[.val (.int p1), .val (.long q2), .second, .val (.long q3), .second, .val (.long q4), .second, .val (.int (1 : Int32)), .val (.long vb), .second, .val (.long vc), .second, .val (.ref b6), .val (.long q2), .second, .val (.long q2), .second] [])) _
    refine XS.iconst X11.here hx rfl (hb hby at_171) ?_
    show Steps p.tables e below (T11.setTop (mkF m 172 #[.val (.int p1), .val (.long q2), .second, .val (.long q3), .second, .val (.long q4), .second, .val (.int (1 : Int32)), .val (.long vb), .second, .val (.long vc), .second, .val (.ref b6), .val (.long q2), .second, .val (.long q2), .second] [(.int (1 : Int32))])) _
    refine XS.goto X11.here hx rfl (pc0 := 172) (pc' := 176) rfl (hb hby at_172) (by decide) (by decide) ?_
    show Steps p.tables e below (T11.setTop (mkF m 176 #[.val (.int p1), .val (.long q2), .second, .val (.long q3), .second, .val (.long q4), .second, .val (.int (1 : Int32)), .val (.long vb), .second, .val (.long vc), .second, .val (.ref b6), .val (.long q2), .second, .val (.long q2), .second] [(.int (1 : Int32))])) _
    exact retN X11 hx (t := .boolean) Bd.returns (by simp) (hb hby at_176) hr
  · show Q0 Z p1 q2 q3 q4 h0 n0 _ T11.heap _
    exact ⟨rfl, N11⟩
set_option maxRecDepth 65536 in
set_option maxHeartbeats 40000000 in
theorem rm0_1y (l : Launch) (Z : State) (a0 : Array Value) (hw : ∀ d ∈ tables_1, d.before a0 Z = true) (ws : List Jvm.Cond) (p1 : Int32) (q2 : Int64) (q3 : Int64) (q4 : Int64) (h0 : Heap) (n0 : Nat) (Z0 : n0 ≤ h0.size) (vb vc mm : Int64) (hn : own_n p1 = 1) (hvb : own_vb p1 q2 q3 = vb) (hvc : own_vc p1 q2 q3 q4 = vc) (hm : mm = q2) (h160 : ¬ (q2 = (9223372036854775807 : Int64))) :
    MetFree l x (head1 (Jvm.Cond.code x code maxLocals ret :: ws) room_1) (fun a U => a = #[(.int p1), (.long q2), (.long q3), (.long q4)] ∧ Z.Warmed39 U.vm ∧ U.heap = h0) (fun _ _ _ _ _ => True) (fun _ U o U' => ∃ v L, o = .returned v ∧ Q0 Z p1 q2 q3 q4 h0 n0 v U'.heap L ∧ FrameEnd U o U' L room_1.cells room_1.slots) := by
  refine MetFree.of_bodySF (plainFor_of_name pn_0) hisR ?_
  intro p e s m args below meth c s₁ Bd hml0 hP hK
  obtain ⟨rfl, hZ, hh⟩ := hP
  have hx := Bd.exec
  have hby := Bd.bytes
  have hml : c.maxLocals = 17 := hml0
  have hown : s.vm.findClass "com/example/mullion/mullion/aggregators/FurthestBackFindSmallestPinLaw" = some m.cls := findClass_of_methodNamed Bd.named
  have hnm := (name_of_methodNamed Bd.named Bd.method).1
  have X0 : Stand p l e room_1 s m #[(.int p1), (.long q2), (.long q3), (.long q4)] below meth c s₁ [] 0 0 := Stand.of_body Bd
  have e0 : s₁.heap = h0 := by rw [← hh, Bd.state]; rfl
  have N0 := Fr.nil n0
  have pre0 : ∀ t, Steps p.tables e below (s₁.setTop (mkF m 0 #[.val (.int p1), .val (.long q2), .second, .val (.long q3), .second, .val (.long q4), .second, .unset, .unset, .unset, .unset, .unset, .unset, .unset, .unset, .unset, .unset] [])) t → Steps p.tables e below (s₁.setTop (entryFrame m #[(.int p1), (.long q2), (.long q3), (.long q4)] maxLocals)) t := fun t k => castTop (ef_0 m p1 q2 q3 q4) k
  have hc66 : (1 : Int32) < (2 : Int32) := (by decide)
  have hc80 : (1 : Int32) < (3 : Int32) := (by decide)
  have hc97 : (1 : Int32) < (2 : Int32) := (by decide)
  have hc112 : (1 : Int32) < (3 : Int32) := (by decide)
  have hc160 : ¬ ((lcmpW q2 (9223372036854775807 : Int64)) = (0 : Int32)) := (fun q => h160 ((lw_eq _ _).mp q))
  have hc181 : (lcmpW q2 q2) = (0 : Int32) := ((lw_eq _ _).mpr rfl)
  have hc196 : (1 : Int32) < (2 : Int32) := (by decide)
  have hc219 : (1 : Int32) < (3 : Int32) := (by decide)
  obtain ⟨T5, X5, e5, st5⟩ := own_j0 p1 q2 q3 q4 (1 : Int32) vb vc hn hvb hvc X0 hx hZ hw hby hml hown e0
  obtain ⟨T6, h6, X6, e6, E6, A6, D6, -, st6⟩ := newO X5 hx hZ hown (hw _ (List.mem_of_getElem? (i := 1) rfl)) (hw _ (List.mem_of_getElem? (i := 2) rfl)) (hw _ (List.mem_of_getElem? (i := 3) rfl)) e5 (g := (mkF m 42 #[.val (.int p1), .val (.long q2), .second, .val (.long q3), .second, .val (.long q4), .second, .val (.int (1 : Int32)), .val (.long vb), .second, .val (.long vc), .second, .unset, .unset, .unset, .unset, .unset] [])) rfl (hb hby at_42) (by decide) (by decide)
  obtain ⟨b6, g6⟩ : ∃ z, z = h0.size := ⟨_, rfl⟩
  rw [← g6] at A6 D6 st6
  have F_values_b6 : Fld Z h6 b6 "com/example/mullion/mullion/aggregators/FurthestBack" "values" "[J" .null := D6 (Or.inr (hw _ (List.mem_of_getElem? (i := 13) rfl))) (ty := (.array .long)) (by decide)
  have F_mark_b6 : Fld Z h6 b6 "com/example/mullion/mullion/aggregators/FurthestBack" "mark" "J" (.long (0 : Int64)) := D6 (Or.inl (hw _ (List.mem_of_getElem? (i := 24) rfl))) (ty := .long) (by decide)
  have F_atOrBelowMark_b6 : Fld Z h6 b6 "com/example/mullion/mullion/aggregators/FurthestBack" "atOrBelowMark" "I" (.int (0 : Int32)) := D6 (Or.inl (hw _ (List.mem_of_getElem? (i := 26) rfl))) (ty := .int) (by decide)
  have E_b6 := A6
  have g_b6 : n0 ≤ b6 := Nat.le_trans Z0 (Nat.le_of_eq g6.symm)
  have sz_b6 : h0.size ≤ b6 := (Nat.le_trans (Keep.refl h0 []).1 (Nat.le_of_eq g6.symm))
  have K6 : Keep h0 h6 [] := (Keep.refl h0 []).ext E6
  obtain ⟨_, _, ⟨T7, L7, k7, n7⟩, -, X7, ⟨Lc7, hQ7, l7, y7, z7⟩, st7⟩ := X6.specialBack hx (y := (⟨"com/example/mullion/mullion/aggregators/FurthestBack", "<init>", "(IJ)V"⟩ : MethodName)) rfl hown (mvT hZ (hw _ (List.mem_of_getElem? (i := 5) rfl))) (mvT hZ (hw _ (List.mem_of_getElem? (i := 6) rfl))) (mvT hZ (hw _ (List.mem_of_getElem? (i := 7) rfl))) (by decide) (backOf (W := 1) (rm1 l Z a0 hw [] b6 (1 : Int32) (-9223372036854775808 : Int64) 1 h6 n0 (Nat.le_trans Z0 E6.1) (by decide) rfl (by decide) E_b6 F_values_b6 F_mark_b6 F_atOrBelowMark_b6 g_b6) hZ (hw _ (List.mem_of_getElem? (i := 7) rfl)) (hw _ (List.mem_of_getElem? (i := 3) rfl)) (by decide) (by decide)) (g := (mkF m 51 #[.val (.int p1), .val (.long q2), .second, .val (.long q3), .second, .val (.long q4), .second, .val (.int (1 : Int32)), .val (.long vb), .second, .val (.long vc), .second, .unset, .unset, .unset, .unset, .unset] [(.long (-9223372036854775808 : Int64)), (.int (1 : Int32)), (.ref b6), (.ref b6)])) rfl (by rw [hml]; rfl) (Steps.refl _) (a := b6) (argsL := [(.int (1 : Int32)), (.long (-9223372036854775808 : Int64))]) (rest := [(.ref b6)]) (lenOf pd_0_0 rfl) rfl (by show 2 * 0 + _ ≤ _; exact Nat.le_of_eq rfl) (hb hby at_51) (fun _ _ => ⟨rfl, e6, (by decide : 1 + 1 ≤ _), (by decide : 3 + 3 ≤ _)⟩)
  dsimp only [Pt.U, Pt.locs, Pt.cells, Pt.slots] at X7 l7 y7 z7 st7 hQ7
  subst l7 y7 z7
  obtain ⟨rfl, N7q, K7q, t, st, E7q, Fv7q, Fm7q, Fa7q, V7q⟩ := hQ7
  have N7 := Fr.app N0 N7q
  have z7q : n0 ≤ T7.heap.size := Nat.le_trans (Nat.le_trans Z0 E6.1) K7q.1
  have hne : b6 ≠ t := Nat.ne_of_lt (Nat.lt_of_lt_of_le E_b6.lt st)
  have g_t : n0 ≤ t := Nat.le_trans (Nat.le_trans Z0 E6.1) st
  obtain ⟨cq8, kq8, q8a, q8b, q8c⟩ := isOf hZ rfl E7q
  obtain ⟨_, _, ⟨T8, L8, k8, n8⟩, -, X8, ⟨Lc8, hQ8, l8, y8, z8⟩, st8⟩ := X7.virtualBack hx (y := (⟨"com/example/mullion/mullion/aggregators/FurthestBack", "moveOn", "(IJ)V"⟩ : MethodName)) (z := (⟨"com/example/mullion/mullion/aggregators/FurthestBack", "moveOn", "(IJ)V"⟩ : MethodName)) hown (mvT hZ (hw _ (List.mem_of_getElem? (i := 27) rfl))) (mvT hZ (hw _ (List.mem_of_getElem? (i := 28) rfl))) (notFace_of_selects (args := #[]) (mvT hZ (hw _ (List.mem_of_getElem? (i := 30) rfl)))) (mvT hZ (hw _ (List.mem_of_getElem? (i := 30) rfl))) (mvT hZ (hw _ (List.mem_of_getElem? (i := 29) rfl))) (by decide) (backOf (W := 0) (rm5 l Z a0 hw [] b6 (0 : Int32) q2 t 1 _ 0 _ _ T7.heap n0 z7q rfl (by decide) (by decide) E7q Fv7q Fm7q Fa7q V7q hne g_b6 g_t) hZ (hw _ (List.mem_of_getElem? (i := 31) rfl)) (hw _ (List.mem_of_getElem? (i := 3) rfl)) (by decide) (by decide)) q8a q8c (g := (mkF m 60 #[.val (.int p1), .val (.long q2), .second, .val (.long q3), .second, .val (.long q4), .second, .val (.int (1 : Int32)), .val (.long vb), .second, .val (.long vc), .second, .val (.ref b6), .unset, .unset, .unset, .unset] [(.long q2), (.int (0 : Int32)), (.ref b6)])) rfl (by rw [hml]; rfl) (Steps.refl _) (argsL := [(.int (0 : Int32)), (.long q2)]) (rest := []) (lenOf pd_0_0 rfl) rfl (by show 2 * 0 + _ ≤ _; exact Nat.le_of_eq rfl) (hb hby at_60) (fun _ _ => ⟨rfl, rfl, (by decide : 2 + 0 ≤ _), (by decide : 6 + 0 ≤ _)⟩)
  dsimp only [Pt.U, Pt.locs, Pt.cells, Pt.slots] at X8 l8 y8 z8 st8 hQ8
  subst l8 y8 z8
  obtain ⟨rfl, N8q, K8q, E8q, Fv8q, Fm8q, Fa8q, V8q⟩ := hQ8
  have N8 := Fr.app N7 N8q
  have z8q : n0 ≤ T8.heap.size := Nat.le_trans z7q K8q.1
  obtain ⟨cq9, kq9, q9a, q9b, q9c⟩ := isOf hZ rfl E8q
  obtain ⟨_, _, ⟨T9, L9, k9, n9⟩, -, X9, ⟨Lc9, hQ9, l9, y9, z9⟩, st9⟩ := X8.virtualBack hx (y := (⟨"com/example/mullion/mullion/aggregators/FurthestBack", "findSmallest", "()J"⟩ : MethodName)) (z := (⟨"com/example/mullion/mullion/aggregators/FurthestBack", "findSmallest", "()J"⟩ : MethodName)) hown (mvT hZ (hw _ (List.mem_of_getElem? (i := 32) rfl))) (mvT hZ (hw _ (List.mem_of_getElem? (i := 33) rfl))) (notFace_of_selects (args := #[]) (mvT hZ (hw _ (List.mem_of_getElem? (i := 35) rfl)))) (mvT hZ (hw _ (List.mem_of_getElem? (i := 35) rfl))) (mvT hZ (hw _ (List.mem_of_getElem? (i := 34) rfl))) (by decide) (backOf (W := 0) (rm6 l Z a0 hw [] b6 t 1 (fun j => if j = 0 then q2 else (-9223372036854775808 : Int64)) _ _ T8.heap n0 z8q (by decide) E8q Fv8q Fm8q Fa8q V8q hne g_b6) hZ (hw _ (List.mem_of_getElem? (i := 36) rfl)) (hw _ (List.mem_of_getElem? (i := 3) rfl)) (by decide) (by decide)) q9a q9c (g := (mkF m 126 #[.val (.int p1), .val (.long q2), .second, .val (.long q3), .second, .val (.long q4), .second, .val (.int (1 : Int32)), .val (.long vb), .second, .val (.long vc), .second, .val (.ref b6), .val (.long q2), .second, .unset, .unset] [(.ref b6)])) rfl (by rw [hml]; rfl) (Steps.refl _) (argsL := []) (rest := []) (lenOf pd_0_4 rfl) rfl (by show 2 * 0 + _ ≤ _; exact Nat.le_of_eq rfl) (hb hby at_126) (fun _ _ => ⟨rfl, rfl, (by decide : 2 + 0 ≤ _), (by decide : 6 + 0 ≤ _)⟩)
  dsimp only [Pt.U, Pt.locs, Pt.cells, Pt.slots] at X9 l9 y9 z9 st9 hQ9
  subst l9 y9 z9
  obtain ⟨hv9, N9q, K9q, E9q, Fv9q, Fm9q, Fa9q, V9q⟩ := hQ9
  have N9 := Fr.app N8 N9q
  have z9q : n0 ≤ T9.heap.size := Nat.le_trans z8q K9q.1
  have hfs : own_fs (fun j => if j = 0 then q2 else (-9223372036854775808 : Int64)) 1 0 ((9223372036854775807 : Int64), (0 : Int32)) = (q2, (1 : Int32)) := by show own_step ((9223372036854775807 : Int64), 0) q2 = _; exact own_first q2
  rw [hfs] at hv9
  replace hv9 : _ = some (Value.long q2) := hv9
  subst hv9
  have Gm9q : Fld Z T9.heap b6 "com/example/mullion/mullion/aggregators/FurthestBack" "mark" "J" (.long q2) := by have q := Fm9q; rw [hfs] at q; exact q
  have Ga9q : Fld Z T9.heap b6 "com/example/mullion/mullion/aggregators/FurthestBack" "atOrBelowMark" "I" (.int (1 : Int32)) := by have q := Fa9q; rw [hfs] at q; exact q
  obtain ⟨cq10, kq10, q10a, q10b, q10c⟩ := isOf hZ rfl E9q
  obtain ⟨_, _, ⟨T10, L10, k10, n10⟩, -, X10, ⟨Lc10, hQ10, l10, y10, z10⟩, st10⟩ := X9.virtualBack hx (y := (⟨"com/example/mullion/mullion/aggregators/FurthestBack", "mark", "()J"⟩ : MethodName)) (z := (⟨"com/example/mullion/mullion/aggregators/FurthestBack", "mark", "()J"⟩ : MethodName)) hown (mvT hZ (hw _ (List.mem_of_getElem? (i := 38) rfl))) (mvT hZ (hw _ (List.mem_of_getElem? (i := 39) rfl))) (notFace_of_selects (args := #[]) (mvT hZ (hw _ (List.mem_of_getElem? (i := 41) rfl)))) (mvT hZ (hw _ (List.mem_of_getElem? (i := 41) rfl))) (mvT hZ (hw _ (List.mem_of_getElem? (i := 40) rfl))) (by decide) (backOf (W := 0) (rm7 l Z a0 hw [] b6 q2 T9.heap n0 z9q Gm9q) hZ (hw _ (List.mem_of_getElem? (i := 42) rfl)) (hw _ (List.mem_of_getElem? (i := 3) rfl)) (by decide) (by decide)) q10a q10c (g := (mkF m 143 #[.val (.int p1), .val (.long q2), .second, .val (.long q3), .second, .val (.long q4), .second, .val (.int (1 : Int32)), .val (.long vb), .second, .val (.long vc), .second, .val (.ref b6), .val (.long q2), .second, .val (.long q2), .second] [(.ref b6)])) rfl (by rw [hml]; rfl) (Steps.refl _) (argsL := []) (rest := []) (lenOf pd_0_4 rfl) rfl (by show 2 * 0 + _ ≤ _; exact Nat.le_of_eq rfl) (hb hby at_143) (fun _ _ => ⟨rfl, rfl, (by decide : 2 + 0 ≤ _), (by decide : 6 + 0 ≤ _)⟩)
  dsimp only [Pt.U, Pt.locs, Pt.cells, Pt.slots] at X10 l10 y10 z10 st10 hQ10
  subst l10 y10 z10
  obtain ⟨rfl, N10q, e10q⟩ := hQ10
  have N10 := Fr.app N9 N10q
  have z10q : n0 ≤ T10.heap.size := by rw [e10q]; exact z9q
  have E10q := E9q
  rw [← e10q] at E10q
  have Fv10q := Fv9q
  rw [← e10q] at Fv10q
  have Fm10q := Gm9q
  rw [← e10q] at Fm10q
  have Fa10q := Ga9q
  rw [← e10q] at Fa10q
  have V10q := V9q
  rw [← e10q] at V10q
  obtain ⟨cq11, kq11, q11a, q11b, q11c⟩ := isOf hZ rfl E10q
  obtain ⟨_, _, ⟨T11, L11, k11, n11⟩, -, X11, ⟨Lc11, hQ11, l11, y11, z11⟩, st11⟩ := X10.virtualBack hx (y := (⟨"com/example/mullion/mullion/aggregators/FurthestBack", "moveOn", "(IJ)V"⟩ : MethodName)) (z := (⟨"com/example/mullion/mullion/aggregators/FurthestBack", "moveOn", "(IJ)V"⟩ : MethodName)) hown (mvT hZ (hw _ (List.mem_of_getElem? (i := 27) rfl))) (mvT hZ (hw _ (List.mem_of_getElem? (i := 28) rfl))) (notFace_of_selects (args := #[]) (mvT hZ (hw _ (List.mem_of_getElem? (i := 30) rfl)))) (mvT hZ (hw _ (List.mem_of_getElem? (i := 30) rfl))) (mvT hZ (hw _ (List.mem_of_getElem? (i := 29) rfl))) (by decide) (backOf (W := 0) (rm5 l Z a0 hw [] b6 (0 : Int32) (9223372036854775807 : Int64) t 1 _ 0 _ _ T10.heap n0 z10q rfl (by decide) (by decide) E10q Fv10q Fm10q Fa10q V10q hne g_b6 g_t) hZ (hw _ (List.mem_of_getElem? (i := 31) rfl)) (hw _ (List.mem_of_getElem? (i := 3) rfl)) (by decide) (by decide)) q11a q11c (g := (mkF m 190 #[.val (.int p1), .val (.long q2), .second, .val (.long q3), .second, .val (.long q4), .second, .val (.int (1 : Int32)), .val (.long vb), .second, .val (.long vc), .second, .val (.ref b6), .val (.long q2), .second, .val (.long q2), .second] [(.long (9223372036854775807 : Int64)), (.int (0 : Int32)), (.ref b6)])) rfl (by rw [hml]; rfl) (Steps.refl _) (argsL := [(.int (0 : Int32)), (.long (9223372036854775807 : Int64))]) (rest := []) (lenOf pd_0_0 rfl) rfl (by show 2 * 0 + _ ≤ _; exact Nat.le_of_eq rfl) (hb hby at_190) (fun _ _ => ⟨rfl, rfl, (by decide : 2 + 0 ≤ _), (by decide : 6 + 0 ≤ _)⟩)
  dsimp only [Pt.U, Pt.locs, Pt.cells, Pt.slots] at X11 l11 y11 z11 st11 hQ11
  subst l11 y11 z11
  obtain ⟨rfl, N11q, K11q, E11q, Fv11q, Fm11q, Fa11q, V11q⟩ := hQ11
  have N11 := Fr.app N10 N11q
  have z11q : n0 ≤ T11.heap.size := Nat.le_trans z10q K11q.1
  have Fb11q : Fld Z T11.heap b6 "com/example/mullion/mullion/aggregators/FurthestBack" "atOrBelowMark" "I" (.int ((1 : Int32) - (1 : Int32))) := by
    have q : Fld Z T11.heap b6 "com/example/mullion/mullion/aggregators/FurthestBack" "atOrBelowMark" "I" (.int (own_mv q2 (9223372036854775807 : Int64) q2 (1 : Int32))) := Fa11q
    rw [own_mv_dec (x := q2) (m := q2) rfl h160] at q
    exact q
  obtain ⟨cq12, kq12, q12a, q12b, q12c⟩ := isOf hZ rfl E11q
  obtain ⟨_, _, ⟨T12, L12, k12, n12⟩, -, X12, ⟨Lc12, hQ12, l12, y12, z12⟩, st12⟩ := X11.virtualBack hx (y := (⟨"com/example/mullion/mullion/aggregators/FurthestBack", "allMovedOn", "()Z"⟩ : MethodName)) (z := (⟨"com/example/mullion/mullion/aggregators/FurthestBack", "allMovedOn", "()Z"⟩ : MethodName)) hown (mvT hZ (hw _ (List.mem_of_getElem? (i := 44) rfl))) (mvT hZ (hw _ (List.mem_of_getElem? (i := 45) rfl))) (notFace_of_selects (args := #[]) (mvT hZ (hw _ (List.mem_of_getElem? (i := 47) rfl)))) (mvT hZ (hw _ (List.mem_of_getElem? (i := 47) rfl))) (mvT hZ (hw _ (List.mem_of_getElem? (i := 46) rfl))) (by decide) (backOf (W := 0) (rm8_f l Z a0 hw [] b6 ((1 : Int32) - (1 : Int32)) T11.heap n0 z11q Fb11q (by decide)) hZ (hw _ (List.mem_of_getElem? (i := 48) rfl)) (hw _ (List.mem_of_getElem? (i := 3) rfl)) (by decide) (by decide)) q12a q12c (g := (mkF m 241 #[.val (.int p1), .val (.long q2), .second, .val (.long q3), .second, .val (.long q4), .second, .val (.int (1 : Int32)), .val (.long vb), .second, .val (.long vc), .second, .val (.ref b6), .val (.long q2), .second, .val (.long q2), .second] [(.ref b6)])) rfl (by rw [hml]; rfl) (Steps.refl _) (argsL := []) (rest := []) (lenOf pd_0_5 rfl) rfl (by show 2 * 0 + _ ≤ _; exact Nat.le_of_eq rfl) (hb hby at_241) (fun _ _ => ⟨rfl, rfl, (by decide : 2 + 0 ≤ _), (by decide : 6 + 0 ≤ _)⟩)
  dsimp only [Pt.U, Pt.locs, Pt.cells, Pt.slots] at X12 l12 y12 z12 st12 hQ12
  subst l12 y12 z12
  obtain ⟨rfl, N12q, e12q⟩ := hQ12
  have N12 := Fr.app N11 N12q
  have z12q : n0 ≤ T12.heap.size := by rw [e12q]; exact z11q
  have E12q := E11q
  rw [← e12q] at E12q
  have Fv12q := Fv11q
  rw [← e12q] at Fv12q
  have Fm12q := Fm11q
  rw [← e12q] at Fm12q
  have Fa12q := Fb11q
  rw [← e12q] at Fa12q
  have V12q := V11q
  rw [← e12q] at V12q
  obtain ⟨fs, hr, hrun, hended, hW, hsame⟩ := X12.leave (v := some (.int (1 : Int32))) (fun h => by rw [Bd.returns] at h; cases h)
  refine ⟨_, _, pre0 _ ?_, hrun, hended, _, _, rfl, ?_, ⟨_, rfl⟩, hW, hsame.mono (by decide) (by decide)⟩
  · show Steps p.tables e below (s₁.setTop (mkF m 0 #[.val (.int p1), .val (.long q2), .second, .val (.long q3), .second, .val (.long q4), .second, .unset, .unset, .unset, .unset, .unset, .unset, .unset, .unset, .unset, .unset] [])) _
    refine st5 _ ?_
    show Steps p.tables e below (T5.setTop (mkF m 42 #[.val (.int p1), .val (.long q2), .second, .val (.long q3), .second, .val (.long q4), .second, .val (.int (1 : Int32)), .val (.long vb), .second, .val (.long vc), .second, .unset, .unset, .unset, .unset, .unset] [])) _
    refine st6 _ ?_
    show Steps p.tables e below (T6.setTop (mkF m 45 #[.val (.int p1), .val (.long q2), .second, .val (.long q3), .second, .val (.long q4), .second, .val (.int (1 : Int32)), .val (.long vb), .second, .val (.long vc), .second, .unset, .unset, .unset, .unset, .unset] [(.ref b6)])) _
    refine XS.dup X6.here hx rfl (hb hby at_45) rfl rfl ?_
    show Steps p.tables e below (T6.setTop (mkF m 46 #[.val (.int p1), .val (.long q2), .second, .val (.long q3), .second, .val (.long q4), .second, .val (.int (1 : Int32)), .val (.long vb), .second, .val (.long vc), .second, .unset, .unset, .unset, .unset, .unset] [(.ref b6), (.ref b6)])) _
    refine XS.iload X6.here hx rfl (hb hby at_46) rfl ?_
    show Steps p.tables e below (T6.setTop (mkF m 48 #[.val (.int p1), .val (.long q2), .second, .val (.long q3), .second, .val (.long q4), .second, .val (.int (1 : Int32)), .val (.long vb), .second, .val (.long vc), .second, .unset, .unset, .unset, .unset, .unset] [(.int (1 : Int32)), (.ref b6), (.ref b6)])) _
    refine X6.ldc2Long hx hown (mvT hZ (hw _ (List.mem_of_getElem? (i := 4) rfl))) (g := (mkF m 48 #[.val (.int p1), .val (.long q2), .second, .val (.long q3), .second, .val (.long q4), .second, .val (.int (1 : Int32)), .val (.long vb), .second, .val (.long vc), .second, .unset, .unset, .unset, .unset, .unset] [(.int (1 : Int32)), (.ref b6), (.ref b6)])) rfl (hb hby at_48) _ ?_
    show Steps p.tables e below (T6.setTop (mkF m 51 #[.val (.int p1), .val (.long q2), .second, .val (.long q3), .second, .val (.long q4), .second, .val (.int (1 : Int32)), .val (.long vb), .second, .val (.long vc), .second, .unset, .unset, .unset, .unset, .unset] [(.long (-9223372036854775808 : Int64)), (.int (1 : Int32)), (.ref b6), (.ref b6)])) _
    refine st7.trans ?_
    show Steps p.tables e below (T7.setTop (mkF m 54 #[.val (.int p1), .val (.long q2), .second, .val (.long q3), .second, .val (.long q4), .second, .val (.int (1 : Int32)), .val (.long vb), .second, .val (.long vc), .second, .unset, .unset, .unset, .unset, .unset] [(.ref b6)])) _
    refine XS.astore X7.here hx rfl (hb hby at_54) rfl rfl (l' := #[.val (.int p1), .val (.long q2), .second, .val (.long q3), .second, .val (.long q4), .second, .val (.int (1 : Int32)), .val (.long vb), .second, .val (.long vc), .second, .val (.ref b6), .unset, .unset, .unset, .unset]) rfl ?_
    show Steps p.tables e below (T7.setTop (mkF m 56 #[.val (.int p1), .val (.long q2), .second, .val (.long q3), .second, .val (.long q4), .second, .val (.int (1 : Int32)), .val (.long vb), .second, .val (.long vc), .second, .val (.ref b6), .unset, .unset, .unset, .unset] [])) _
    refine XS.aload X7.here hx rfl (hb hby at_56) rfl rfl ?_
    show Steps p.tables e below (T7.setTop (mkF m 58 #[.val (.int p1), .val (.long q2), .second, .val (.long q3), .second, .val (.long q4), .second, .val (.int (1 : Int32)), .val (.long vb), .second, .val (.long vc), .second, .val (.ref b6), .unset, .unset, .unset, .unset] [(.ref b6)])) _
    refine XS.iconst X7.here hx rfl (hb hby at_58) ?_
    show Steps p.tables e below (T7.setTop (mkF m 59 #[.val (.int p1), .val (.long q2), .second, .val (.long q3), .second, .val (.long q4), .second, .val (.int (1 : Int32)), .val (.long vb), .second, .val (.long vc), .second, .val (.ref b6), .unset, .unset, .unset, .unset] [(.int (0 : Int32)), (.ref b6)])) _
    refine XS.lloadN X7.here hx rfl (hb hby at_59) rfl ?_
    show Steps p.tables e below (T7.setTop (mkF m 60 #[.val (.int p1), .val (.long q2), .second, .val (.long q3), .second, .val (.long q4), .second, .val (.int (1 : Int32)), .val (.long vb), .second, .val (.long vc), .second, .val (.ref b6), .unset, .unset, .unset, .unset] [(.long q2), (.int (0 : Int32)), (.ref b6)])) _
    refine st8.trans ?_
    show Steps p.tables e below (T8.setTop (mkF m 63 #[.val (.int p1), .val (.long q2), .second, .val (.long q3), .second, .val (.long q4), .second, .val (.int (1 : Int32)), .val (.long vb), .second, .val (.long vc), .second, .val (.ref b6), .unset, .unset, .unset, .unset] [])) _
    refine XS.iload X8.here hx rfl (hb hby at_63) rfl ?_
    show Steps p.tables e below (T8.setTop (mkF m 65 #[.val (.int p1), .val (.long q2), .second, .val (.long q3), .second, .val (.long q4), .second, .val (.int (1 : Int32)), .val (.long vb), .second, .val (.long vc), .second, .val (.ref b6), .unset, .unset, .unset, .unset] [(.int (1 : Int32))])) _
    refine XS.iconst X8.here hx rfl (hb hby at_65) ?_
    show Steps p.tables e below (T8.setTop (mkF m 66 #[.val (.int p1), .val (.long q2), .second, .val (.long q3), .second, .val (.long q4), .second, .val (.int (1 : Int32)), .val (.long vb), .second, .val (.long vc), .second, .val (.ref b6), .unset, .unset, .unset, .unset] [(.int (2 : Int32)), (.int (1 : Int32))])) _
    refine XS.icmpYes X8.here hx rfl (pc0 := 66) (pc' := 77) rfl (hb hby at_66) rfl (tlt hc66).1 (by decide) (by decide) ?_
    show Steps p.tables e below (T8.setTop (mkF m 77 #[.val (.int p1), .val (.long q2), .second, .val (.long q3), .second, .val (.long q4), .second, .val (.int (1 : Int32)), .val (.long vb), .second, .val (.long vc), .second, .val (.ref b6), .unset, .unset, .unset, .unset] [])) _
    refine XS.iload X8.here hx rfl (hb hby at_77) rfl ?_
    show Steps p.tables e below (T8.setTop (mkF m 79 #[.val (.int p1), .val (.long q2), .second, .val (.long q3), .second, .val (.long q4), .second, .val (.int (1 : Int32)), .val (.long vb), .second, .val (.long vc), .second, .val (.ref b6), .unset, .unset, .unset, .unset] [(.int (1 : Int32))])) _
    refine XS.iconst X8.here hx rfl (hb hby at_79) ?_
    show Steps p.tables e below (T8.setTop (mkF m 80 #[.val (.int p1), .val (.long q2), .second, .val (.long q3), .second, .val (.long q4), .second, .val (.int (1 : Int32)), .val (.long vb), .second, .val (.long vc), .second, .val (.ref b6), .unset, .unset, .unset, .unset] [(.int (3 : Int32)), (.int (1 : Int32))])) _
    refine XS.icmpYes X8.here hx rfl (pc0 := 80) (pc' := 91) rfl (hb hby at_80) rfl (tlt hc80).1 (by decide) (by decide) ?_
    show Steps p.tables e below (T8.setTop (mkF m 91 #[.val (.int p1), .val (.long q2), .second, .val (.long q3), .second, .val (.long q4), .second, .val (.int (1 : Int32)), .val (.long vb), .second, .val (.long vc), .second, .val (.ref b6), .unset, .unset, .unset, .unset] [])) _
    refine XS.lloadN X8.here hx rfl (hb hby at_91) rfl ?_
    show Steps p.tables e below (T8.setTop (mkF m 92 #[.val (.int p1), .val (.long q2), .second, .val (.long q3), .second, .val (.long q4), .second, .val (.int (1 : Int32)), .val (.long vb), .second, .val (.long vc), .second, .val (.ref b6), .unset, .unset, .unset, .unset] [(.long q2)])) _
    refine XS.lstore X8.here hx rfl (hb hby at_92) rfl (l' := #[.val (.int p1), .val (.long q2), .second, .val (.long q3), .second, .val (.long q4), .second, .val (.int (1 : Int32)), .val (.long vb), .second, .val (.long vc), .second, .val (.ref b6), .val (.long q2), .second, .unset, .unset]) rfl ?_
    show Steps p.tables e below (T8.setTop (mkF m 94 #[.val (.int p1), .val (.long q2), .second, .val (.long q3), .second, .val (.long q4), .second, .val (.int (1 : Int32)), .val (.long vb), .second, .val (.long vc), .second, .val (.ref b6), .val (.long q2), .second, .unset, .unset] [])) _
    refine XS.iload X8.here hx rfl (hb hby at_94) rfl ?_
    show Steps p.tables e below (T8.setTop (mkF m 96 #[.val (.int p1), .val (.long q2), .second, .val (.long q3), .second, .val (.long q4), .second, .val (.int (1 : Int32)), .val (.long vb), .second, .val (.long vc), .second, .val (.ref b6), .val (.long q2), .second, .unset, .unset] [(.int (1 : Int32))])) _
    refine XS.iconst X8.here hx rfl (hb hby at_96) ?_
    show Steps p.tables e below (T8.setTop (mkF m 97 #[.val (.int p1), .val (.long q2), .second, .val (.long q3), .second, .val (.long q4), .second, .val (.int (1 : Int32)), .val (.long vb), .second, .val (.long vc), .second, .val (.ref b6), .val (.long q2), .second, .unset, .unset] [(.int (2 : Int32)), (.int (1 : Int32))])) _
    refine XS.icmpYes X8.here hx rfl (pc0 := 97) (pc' := 109) rfl (hb hby at_97) rfl (tlt hc97).1 (by decide) (by decide) ?_
    show Steps p.tables e below (T8.setTop (mkF m 109 #[.val (.int p1), .val (.long q2), .second, .val (.long q3), .second, .val (.long q4), .second, .val (.int (1 : Int32)), .val (.long vb), .second, .val (.long vc), .second, .val (.ref b6), .val (.long q2), .second, .unset, .unset] [])) _
    refine XS.iload X8.here hx rfl (hb hby at_109) rfl ?_
    show Steps p.tables e below (T8.setTop (mkF m 111 #[.val (.int p1), .val (.long q2), .second, .val (.long q3), .second, .val (.long q4), .second, .val (.int (1 : Int32)), .val (.long vb), .second, .val (.long vc), .second, .val (.ref b6), .val (.long q2), .second, .unset, .unset] [(.int (1 : Int32))])) _
    refine XS.iconst X8.here hx rfl (hb hby at_111) ?_
    show Steps p.tables e below (T8.setTop (mkF m 112 #[.val (.int p1), .val (.long q2), .second, .val (.long q3), .second, .val (.long q4), .second, .val (.int (1 : Int32)), .val (.long vb), .second, .val (.long vc), .second, .val (.ref b6), .val (.long q2), .second, .unset, .unset] [(.int (3 : Int32)), (.int (1 : Int32))])) _
    refine XS.icmpYes X8.here hx rfl (pc0 := 112) (pc' := 124) rfl (hb hby at_112) rfl (tlt hc112).1 (by decide) (by decide) ?_
    show Steps p.tables e below (T8.setTop (mkF m 124 #[.val (.int p1), .val (.long q2), .second, .val (.long q3), .second, .val (.long q4), .second, .val (.int (1 : Int32)), .val (.long vb), .second, .val (.long vc), .second, .val (.ref b6), .val (.long q2), .second, .unset, .unset] [])) _
    refine XS.aload X8.here hx rfl (hb hby at_124) rfl rfl ?_
    show Steps p.tables e below (T8.setTop (mkF m 126 #[.val (.int p1), .val (.long q2), .second, .val (.long q3), .second, .val (.long q4), .second, .val (.int (1 : Int32)), .val (.long vb), .second, .val (.long vc), .second, .val (.ref b6), .val (.long q2), .second, .unset, .unset] [(.ref b6)])) _
    refine st9.trans ?_
    show Steps p.tables e below (T9.setTop (mkF m 129 #[.val (.int p1), .val (.long q2), .second, .val (.long q3), .second, .val (.long q4), .second, .val (.int (1 : Int32)), .val (.long vb), .second, .val (.long vc), .second, .val (.ref b6), .val (.long q2), .second, .unset, .unset] [(.long q2)])) _
    refine XS.lstore X9.here hx rfl (hb hby at_129) rfl (l' := #[.val (.int p1), .val (.long q2), .second, .val (.long q3), .second, .val (.long q4), .second, .val (.int (1 : Int32)), .val (.long vb), .second, .val (.long vc), .second, .val (.ref b6), .val (.long q2), .second, .val (.long q2), .second]) rfl ?_
    show Steps p.tables e below (T9.setTop (mkF m 131 #[.val (.int p1), .val (.long q2), .second, .val (.long q3), .second, .val (.long q4), .second, .val (.int (1 : Int32)), .val (.long vb), .second, .val (.long vc), .second, .val (.ref b6), .val (.long q2), .second, .val (.long q2), .second] [])) _
    refine XS.lload X9.here hx rfl (hb hby at_131) rfl ?_
    show Steps p.tables e below (T9.setTop (mkF m 133 #[.val (.int p1), .val (.long q2), .second, .val (.long q3), .second, .val (.long q4), .second, .val (.int (1 : Int32)), .val (.long vb), .second, .val (.long vc), .second, .val (.ref b6), .val (.long q2), .second, .val (.long q2), .second] [(.long q2)])) _
    refine XS.lload X9.here hx rfl (hb hby at_133) rfl ?_
    show Steps p.tables e below (T9.setTop (mkF m 135 #[.val (.int p1), .val (.long q2), .second, .val (.long q3), .second, .val (.long q4), .second, .val (.int (1 : Int32)), .val (.long vb), .second, .val (.long vc), .second, .val (.ref b6), .val (.long q2), .second, .val (.long q2), .second] [(.long q2), (.long q2)])) _
    refine XS.lcmp X9.here hx rfl (hb hby at_135) rfl ?_
    show Steps p.tables e below (T9.setTop (mkF m 136 #[.val (.int p1), .val (.long q2), .second, .val (.long q3), .second, .val (.long q4), .second, .val (.int (1 : Int32)), .val (.long vb), .second, .val (.long vc), .second, .val (.ref b6), .val (.long q2), .second, .val (.long q2), .second] [(.int (lcmpW q2 q2))])) _
    refine XS.ifYes X9.here hx rfl (pc0 := 136) (pc' := 141) rfl (hb hby at_136) rfl ((if0 _ _).trans (teq (((lw_eq _ _).mpr rfl) : (lcmpW q2 q2) = (0 : Int32))).1) (by decide) (by decide) ?_
    show Steps p.tables e below (T9.setTop (mkF m 141 #[.val (.int p1), .val (.long q2), .second, .val (.long q3), .second, .val (.long q4), .second, .val (.int (1 : Int32)), .val (.long vb), .second, .val (.long vc), .second, .val (.ref b6), .val (.long q2), .second, .val (.long q2), .second] [])) _
    refine XS.aload X9.here hx rfl (hb hby at_141) rfl rfl ?_
    show Steps p.tables e below (T9.setTop (mkF m 143 #[.val (.int p1), .val (.long q2), .second, .val (.long q3), .second, .val (.long q4), .second, .val (.int (1 : Int32)), .val (.long vb), .second, .val (.long vc), .second, .val (.ref b6), .val (.long q2), .second, .val (.long q2), .second] [(.ref b6)])) _
    refine st10.trans ?_
    show Steps p.tables e below (T10.setTop (mkF m 146 #[.val (.int p1), .val (.long q2), .second, .val (.long q3), .second, .val (.long q4), .second, .val (.int (1 : Int32)), .val (.long vb), .second, .val (.long vc), .second, .val (.ref b6), .val (.long q2), .second, .val (.long q2), .second] [(.long q2)])) _
    refine XS.lload X10.here hx rfl (hb hby at_146) rfl ?_
    show Steps p.tables e below (T10.setTop (mkF m 148 #[.val (.int p1), .val (.long q2), .second, .val (.long q3), .second, .val (.long q4), .second, .val (.int (1 : Int32)), .val (.long vb), .second, .val (.long vc), .second, .val (.ref b6), .val (.long q2), .second, .val (.long q2), .second] [(.long q2), (.long q2)])) _
    refine XS.lcmp X10.here hx rfl (hb hby at_148) rfl ?_
    show Steps p.tables e below (T10.setTop (mkF m 149 #[.val (.int p1), .val (.long q2), .second, .val (.long q3), .second, .val (.long q4), .second, .val (.int (1 : Int32)), .val (.long vb), .second, .val (.long vc), .second, .val (.ref b6), .val (.long q2), .second, .val (.long q2), .second] [(.int (lcmpW q2 q2))])) _
    refine XS.ifYes X10.here hx rfl (pc0 := 149) (pc' := 154) rfl (hb hby at_149) rfl ((if0 _ _).trans (teq (((lw_eq _ _).mpr rfl) : (lcmpW q2 q2) = (0 : Int32))).1) (by decide) (by decide) ?_
    show Steps p.tables e below (T10.setTop (mkF m 154 #[.val (.int p1), .val (.long q2), .second, .val (.long q3), .second, .val (.long q4), .second, .val (.int (1 : Int32)), .val (.long vb), .second, .val (.long vc), .second, .val (.ref b6), .val (.long q2), .second, .val (.long q2), .second] [])) _
    refine XS.lload X10.here hx rfl (hb hby at_154) rfl ?_
    show Steps p.tables e below (T10.setTop (mkF m 156 #[.val (.int p1), .val (.long q2), .second, .val (.long q3), .second, .val (.long q4), .second, .val (.int (1 : Int32)), .val (.long vb), .second, .val (.long vc), .second, .val (.ref b6), .val (.long q2), .second, .val (.long q2), .second] [(.long q2)])) _
    refine X10.ldc2Long hx hown (mvT hZ (hw _ (List.mem_of_getElem? (i := 43) rfl))) (g := (mkF m 156 #[.val (.int p1), .val (.long q2), .second, .val (.long q3), .second, .val (.long q4), .second, .val (.int (1 : Int32)), .val (.long vb), .second, .val (.long vc), .second, .val (.ref b6), .val (.long q2), .second, .val (.long q2), .second] [(.long q2)])) rfl (hb hby at_156) _ ?_
    show Steps p.tables e below (T10.setTop (mkF m 159 #[.val (.int p1), .val (.long q2), .second, .val (.long q3), .second, .val (.long q4), .second, .val (.int (1 : Int32)), .val (.long vb), .second, .val (.long vc), .second, .val (.ref b6), .val (.long q2), .second, .val (.long q2), .second] [(.long (9223372036854775807 : Int64)), (.long q2)])) _
    refine XS.lcmp X10.here hx rfl (hb hby at_159) rfl ?_
    show Steps p.tables e below (T10.setTop (mkF m 160 #[.val (.int p1), .val (.long q2), .second, .val (.long q3), .second, .val (.long q4), .second, .val (.int (1 : Int32)), .val (.long vb), .second, .val (.long vc), .second, .val (.ref b6), .val (.long q2), .second, .val (.long q2), .second] [(.int (lcmpW q2 (9223372036854775807 : Int64)))])) _
    refine XS.ifYes X10.here hx rfl (pc0 := 160) (pc' := 177) rfl (hb hby at_160) rfl ((if0 _ _).trans (feq hc160).2) (by decide) (by decide) ?_
    show Steps p.tables e below (T10.setTop (mkF m 177 #[.val (.int p1), .val (.long q2), .second, .val (.long q3), .second, .val (.long q4), .second, .val (.int (1 : Int32)), .val (.long vb), .second, .val (.long vc), .second, .val (.ref b6), .val (.long q2), .second, .val (.long q2), .second] [])) _
    refine XS.lloadN X10.here hx rfl (hb hby at_177) rfl ?_
    show Steps p.tables e below (T10.setTop (mkF m 178 #[.val (.int p1), .val (.long q2), .second, .val (.long q3), .second, .val (.long q4), .second, .val (.int (1 : Int32)), .val (.long vb), .second, .val (.long vc), .second, .val (.ref b6), .val (.long q2), .second, .val (.long q2), .second] [(.long q2)])) _
    refine XS.lload X10.here hx rfl (hb hby at_178) rfl ?_
    show Steps p.tables e below (T10.setTop (mkF m 180 #[.val (.int p1), .val (.long q2), .second, .val (.long q3), .second, .val (.long q4), .second, .val (.int (1 : Int32)), .val (.long vb), .second, .val (.long vc), .second, .val (.ref b6), .val (.long q2), .second, .val (.long q2), .second] [(.long q2), (.long q2)])) _
    refine XS.lcmp X10.here hx rfl (hb hby at_180) rfl ?_
    show Steps p.tables e below (T10.setTop (mkF m 181 #[.val (.int p1), .val (.long q2), .second, .val (.long q3), .second, .val (.long q4), .second, .val (.int (1 : Int32)), .val (.long vb), .second, .val (.long vc), .second, .val (.ref b6), .val (.long q2), .second, .val (.long q2), .second] [(.int (lcmpW q2 q2))])) _
    refine XS.ifNo X10.here hx rfl (hb hby at_181) rfl ((if0 _ _).trans (teq hc181).2) ?_
    show Steps p.tables e below (T10.setTop (mkF m 184 #[.val (.int p1), .val (.long q2), .second, .val (.long q3), .second, .val (.long q4), .second, .val (.int (1 : Int32)), .val (.long vb), .second, .val (.long vc), .second, .val (.ref b6), .val (.long q2), .second, .val (.long q2), .second] [])) _
    refine XS.aload X10.here hx rfl (hb hby at_184) rfl rfl ?_
    show Steps p.tables e below (T10.setTop (mkF m 186 #[.val (.int p1), .val (.long q2), .second, .val (.long q3), .second, .val (.long q4), .second, .val (.int (1 : Int32)), .val (.long vb), .second, .val (.long vc), .second, .val (.ref b6), .val (.long q2), .second, .val (.long q2), .second] [(.ref b6)])) _
    refine XS.iconst X10.here hx rfl (hb hby at_186) ?_
    show Steps p.tables e below (T10.setTop (mkF m 187 #[.val (.int p1), .val (.long q2), .second, .val (.long q3), .second, .val (.long q4), .second, .val (.int (1 : Int32)), .val (.long vb), .second, .val (.long vc), .second, .val (.ref b6), .val (.long q2), .second, .val (.long q2), .second] [(.int (0 : Int32)), (.ref b6)])) _
    refine X10.ldc2Long hx hown (mvT hZ (hw _ (List.mem_of_getElem? (i := 43) rfl))) (g := (mkF m 187 #[.val (.int p1), .val (.long q2), .second, .val (.long q3), .second, .val (.long q4), .second, .val (.int (1 : Int32)), .val (.long vb), .second, .val (.long vc), .second, .val (.ref b6), .val (.long q2), .second, .val (.long q2), .second] [(.int (0 : Int32)), (.ref b6)])) rfl (hb hby at_187) _ ?_
    show Steps p.tables e below (T10.setTop (mkF m 190 #[.val (.int p1), .val (.long q2), .second, .val (.long q3), .second, .val (.long q4), .second, .val (.int (1 : Int32)), .val (.long vb), .second, .val (.long vc), .second, .val (.ref b6), .val (.long q2), .second, .val (.long q2), .second] [(.long (9223372036854775807 : Int64)), (.int (0 : Int32)), (.ref b6)])) _
    refine st11.trans ?_
    show Steps p.tables e below (T11.setTop (mkF m 193 #[.val (.int p1), .val (.long q2), .second, .val (.long q3), .second, .val (.long q4), .second, .val (.int (1 : Int32)), .val (.long vb), .second, .val (.long vc), .second, .val (.ref b6), .val (.long q2), .second, .val (.long q2), .second] [])) _
    refine XS.iload X11.here hx rfl (hb hby at_193) rfl ?_
    show Steps p.tables e below (T11.setTop (mkF m 195 #[.val (.int p1), .val (.long q2), .second, .val (.long q3), .second, .val (.long q4), .second, .val (.int (1 : Int32)), .val (.long vb), .second, .val (.long vc), .second, .val (.ref b6), .val (.long q2), .second, .val (.long q2), .second] [(.int (1 : Int32))])) _
    refine XS.iconst X11.here hx rfl (hb hby at_195) ?_
    show Steps p.tables e below (T11.setTop (mkF m 196 #[.val (.int p1), .val (.long q2), .second, .val (.long q3), .second, .val (.long q4), .second, .val (.int (1 : Int32)), .val (.long vb), .second, .val (.long vc), .second, .val (.ref b6), .val (.long q2), .second, .val (.long q2), .second] [(.int (2 : Int32)), (.int (1 : Int32))])) _
    refine XS.icmpYes X11.here hx rfl (pc0 := 196) (pc' := 216) rfl (hb hby at_196) rfl (tlt hc196).1 (by decide) (by decide) ?_
    show Steps p.tables e below (T11.setTop (mkF m 216 #[.val (.int p1), .val (.long q2), .second, .val (.long q3), .second, .val (.long q4), .second, .val (.int (1 : Int32)), .val (.long vb), .second, .val (.long vc), .second, .val (.ref b6), .val (.long q2), .second, .val (.long q2), .second] [])) _
    refine XS.iload X11.here hx rfl (hb hby at_216) rfl ?_
    show Steps p.tables e below (T11.setTop (mkF m 218 #[.val (.int p1), .val (.long q2), .second, .val (.long q3), .second, .val (.long q4), .second, .val (.int (1 : Int32)), .val (.long vb), .second, .val (.long vc), .second, .val (.ref b6), .val (.long q2), .second, .val (.long q2), .second] [(.int (1 : Int32))])) _
    refine XS.iconst X11.here hx rfl (hb hby at_218) ?_
    show Steps p.tables e below (T11.setTop (mkF m 219 #[.val (.int p1), .val (.long q2), .second, .val (.long q3), .second, .val (.long q4), .second, .val (.int (1 : Int32)), .val (.long vb), .second, .val (.long vc), .second, .val (.ref b6), .val (.long q2), .second, .val (.long q2), .second] [(.int (3 : Int32)), (.int (1 : Int32))])) _
    refine XS.icmpYes X11.here hx rfl (pc0 := 219) (pc' := 239) rfl (hb hby at_219) rfl (tlt hc219).1 (by decide) (by decide) ?_
    show Steps p.tables e below (T11.setTop (mkF m 239 #[.val (.int p1), .val (.long q2), .second, .val (.long q3), .second, .val (.long q4), .second, .val (.int (1 : Int32)), .val (.long vb), .second, .val (.long vc), .second, .val (.ref b6), .val (.long q2), .second, .val (.long q2), .second] [])) _
    refine XS.aload X11.here hx rfl (hb hby at_239) rfl rfl ?_
    show Steps p.tables e below (T11.setTop (mkF m 241 #[.val (.int p1), .val (.long q2), .second, .val (.long q3), .second, .val (.long q4), .second, .val (.int (1 : Int32)), .val (.long vb), .second, .val (.long vc), .second, .val (.ref b6), .val (.long q2), .second, .val (.long q2), .second] [(.ref b6)])) _
    refine st12.trans ?_
    show Steps p.tables e below (T12.setTop (mkF m 244 #[.val (.int p1), .val (.long q2), .second, .val (.long q3), .second, .val (.long q4), .second, .val (.int (1 : Int32)), .val (.long vb), .second, .val (.long vc), .second, .val (.ref b6), .val (.long q2), .second, .val (.long q2), .second] [(.int (1 : Int32))])) _
    exact retN X12 hx (t := .boolean) Bd.returns (by simp) (hb hby at_244) hr
  · show Q0 Z p1 q2 q3 q4 h0 n0 _ T12.heap _
    exact ⟨rfl, N12⟩
set_option maxRecDepth 65536 in
set_option maxHeartbeats 40000000 in
theorem rm0_2m (l : Launch) (Z : State) (a0 : Array Value) (hw : ∀ d ∈ tables_1, d.before a0 Z = true) (ws : List Jvm.Cond) (p1 : Int32) (q2 : Int64) (q3 : Int64) (q4 : Int64) (h0 : Heap) (n0 : Nat) (Z0 : n0 ≤ h0.size) (vb vc mm : Int64) (hn : own_n p1 = 2) (hvb : own_vb p1 q2 q3 = vb) (hvc : own_vc p1 q2 q3 q4 = vc) (hm : mm = (own_mn q2 vb)) (h160 : mm = (9223372036854775807 : Int64)) :
    MetFree l x (head1 (Jvm.Cond.code x code maxLocals ret :: ws) room_1) (fun a U => a = #[(.int p1), (.long q2), (.long q3), (.long q4)] ∧ Z.Warmed39 U.vm ∧ U.heap = h0) (fun _ _ _ _ _ => True) (fun _ U o U' => ∃ v L, o = .returned v ∧ Q0 Z p1 q2 q3 q4 h0 n0 v U'.heap L ∧ FrameEnd U o U' L room_1.cells room_1.slots) := by
  refine MetFree.of_bodySF (plainFor_of_name pn_0) hisR ?_
  intro p e s m args below meth c s₁ Bd hml0 hP hK
  obtain ⟨rfl, hZ, hh⟩ := hP
  have hx := Bd.exec
  have hby := Bd.bytes
  have hml : c.maxLocals = 17 := hml0
  have hown : s.vm.findClass "com/example/mullion/mullion/aggregators/FurthestBackFindSmallestPinLaw" = some m.cls := findClass_of_methodNamed Bd.named
  have hnm := (name_of_methodNamed Bd.named Bd.method).1
  have X0 : Stand p l e room_1 s m #[(.int p1), (.long q2), (.long q3), (.long q4)] below meth c s₁ [] 0 0 := Stand.of_body Bd
  have e0 : s₁.heap = h0 := by rw [← hh, Bd.state]; rfl
  have N0 := Fr.nil n0
  have pre0 : ∀ t, Steps p.tables e below (s₁.setTop (mkF m 0 #[.val (.int p1), .val (.long q2), .second, .val (.long q3), .second, .val (.long q4), .second, .unset, .unset, .unset, .unset, .unset, .unset, .unset, .unset, .unset, .unset] [])) t → Steps p.tables e below (s₁.setTop (entryFrame m #[(.int p1), (.long q2), (.long q3), (.long q4)] maxLocals)) t := fun t k => castTop (ef_0 m p1 q2 q3 q4) k
  have hc66 : ¬ ((2 : Int32) < (2 : Int32)) := (by decide)
  have hc80 : (2 : Int32) < (3 : Int32) := (by decide)
  have hc97 : ¬ ((2 : Int32) < (2 : Int32)) := (by decide)
  have hc112 : (2 : Int32) < (3 : Int32) := (by decide)
  obtain ⟨T5, X5, e5, st5⟩ := own_j0 p1 q2 q3 q4 (2 : Int32) vb vc hn hvb hvc X0 hx hZ hw hby hml hown e0
  obtain ⟨T6, h6, X6, e6, E6, A6, D6, -, st6⟩ := newO X5 hx hZ hown (hw _ (List.mem_of_getElem? (i := 1) rfl)) (hw _ (List.mem_of_getElem? (i := 2) rfl)) (hw _ (List.mem_of_getElem? (i := 3) rfl)) e5 (g := (mkF m 42 #[.val (.int p1), .val (.long q2), .second, .val (.long q3), .second, .val (.long q4), .second, .val (.int (2 : Int32)), .val (.long vb), .second, .val (.long vc), .second, .unset, .unset, .unset, .unset, .unset] [])) rfl (hb hby at_42) (by decide) (by decide)
  obtain ⟨b6, g6⟩ : ∃ z, z = h0.size := ⟨_, rfl⟩
  rw [← g6] at A6 D6 st6
  have F_values_b6 : Fld Z h6 b6 "com/example/mullion/mullion/aggregators/FurthestBack" "values" "[J" .null := D6 (Or.inr (hw _ (List.mem_of_getElem? (i := 13) rfl))) (ty := (.array .long)) (by decide)
  have F_mark_b6 : Fld Z h6 b6 "com/example/mullion/mullion/aggregators/FurthestBack" "mark" "J" (.long (0 : Int64)) := D6 (Or.inl (hw _ (List.mem_of_getElem? (i := 24) rfl))) (ty := .long) (by decide)
  have F_atOrBelowMark_b6 : Fld Z h6 b6 "com/example/mullion/mullion/aggregators/FurthestBack" "atOrBelowMark" "I" (.int (0 : Int32)) := D6 (Or.inl (hw _ (List.mem_of_getElem? (i := 26) rfl))) (ty := .int) (by decide)
  have E_b6 := A6
  have g_b6 : n0 ≤ b6 := Nat.le_trans Z0 (Nat.le_of_eq g6.symm)
  have sz_b6 : h0.size ≤ b6 := (Nat.le_trans (Keep.refl h0 []).1 (Nat.le_of_eq g6.symm))
  have K6 : Keep h0 h6 [] := (Keep.refl h0 []).ext E6
  obtain ⟨_, _, ⟨T7, L7, k7, n7⟩, -, X7, ⟨Lc7, hQ7, l7, y7, z7⟩, st7⟩ := X6.specialBack hx (y := (⟨"com/example/mullion/mullion/aggregators/FurthestBack", "<init>", "(IJ)V"⟩ : MethodName)) rfl hown (mvT hZ (hw _ (List.mem_of_getElem? (i := 5) rfl))) (mvT hZ (hw _ (List.mem_of_getElem? (i := 6) rfl))) (mvT hZ (hw _ (List.mem_of_getElem? (i := 7) rfl))) (by decide) (backOf (W := 1) (rm1 l Z a0 hw [] b6 (2 : Int32) (-9223372036854775808 : Int64) 2 h6 n0 (Nat.le_trans Z0 E6.1) (by decide) rfl (by decide) E_b6 F_values_b6 F_mark_b6 F_atOrBelowMark_b6 g_b6) hZ (hw _ (List.mem_of_getElem? (i := 7) rfl)) (hw _ (List.mem_of_getElem? (i := 3) rfl)) (by decide) (by decide)) (g := (mkF m 51 #[.val (.int p1), .val (.long q2), .second, .val (.long q3), .second, .val (.long q4), .second, .val (.int (2 : Int32)), .val (.long vb), .second, .val (.long vc), .second, .unset, .unset, .unset, .unset, .unset] [(.long (-9223372036854775808 : Int64)), (.int (2 : Int32)), (.ref b6), (.ref b6)])) rfl (by rw [hml]; rfl) (Steps.refl _) (a := b6) (argsL := [(.int (2 : Int32)), (.long (-9223372036854775808 : Int64))]) (rest := [(.ref b6)]) (lenOf pd_0_0 rfl) rfl (by show 2 * 0 + _ ≤ _; exact Nat.le_of_eq rfl) (hb hby at_51) (fun _ _ => ⟨rfl, e6, (by decide : 1 + 1 ≤ _), (by decide : 3 + 3 ≤ _)⟩)
  dsimp only [Pt.U, Pt.locs, Pt.cells, Pt.slots] at X7 l7 y7 z7 st7 hQ7
  subst l7 y7 z7
  obtain ⟨rfl, N7q, K7q, t, st, E7q, Fv7q, Fm7q, Fa7q, V7q⟩ := hQ7
  have N7 := Fr.app N0 N7q
  have z7q : n0 ≤ T7.heap.size := Nat.le_trans (Nat.le_trans Z0 E6.1) K7q.1
  have hne : b6 ≠ t := Nat.ne_of_lt (Nat.lt_of_lt_of_le E_b6.lt st)
  have g_t : n0 ≤ t := Nat.le_trans (Nat.le_trans Z0 E6.1) st
  obtain ⟨cq8, kq8, q8a, q8b, q8c⟩ := isOf hZ rfl E7q
  obtain ⟨_, _, ⟨T8, L8, k8, n8⟩, -, X8, ⟨Lc8, hQ8, l8, y8, z8⟩, st8⟩ := X7.virtualBack hx (y := (⟨"com/example/mullion/mullion/aggregators/FurthestBack", "moveOn", "(IJ)V"⟩ : MethodName)) (z := (⟨"com/example/mullion/mullion/aggregators/FurthestBack", "moveOn", "(IJ)V"⟩ : MethodName)) hown (mvT hZ (hw _ (List.mem_of_getElem? (i := 27) rfl))) (mvT hZ (hw _ (List.mem_of_getElem? (i := 28) rfl))) (notFace_of_selects (args := #[]) (mvT hZ (hw _ (List.mem_of_getElem? (i := 30) rfl)))) (mvT hZ (hw _ (List.mem_of_getElem? (i := 30) rfl))) (mvT hZ (hw _ (List.mem_of_getElem? (i := 29) rfl))) (by decide) (backOf (W := 0) (rm5 l Z a0 hw [] b6 (0 : Int32) q2 t 2 _ 0 _ _ T7.heap n0 z7q rfl (by decide) (by decide) E7q Fv7q Fm7q Fa7q V7q hne g_b6 g_t) hZ (hw _ (List.mem_of_getElem? (i := 31) rfl)) (hw _ (List.mem_of_getElem? (i := 3) rfl)) (by decide) (by decide)) q8a q8c (g := (mkF m 60 #[.val (.int p1), .val (.long q2), .second, .val (.long q3), .second, .val (.long q4), .second, .val (.int (2 : Int32)), .val (.long vb), .second, .val (.long vc), .second, .val (.ref b6), .unset, .unset, .unset, .unset] [(.long q2), (.int (0 : Int32)), (.ref b6)])) rfl (by rw [hml]; rfl) (Steps.refl _) (argsL := [(.int (0 : Int32)), (.long q2)]) (rest := []) (lenOf pd_0_0 rfl) rfl (by show 2 * 0 + _ ≤ _; exact Nat.le_of_eq rfl) (hb hby at_60) (fun _ _ => ⟨rfl, rfl, (by decide : 2 + 0 ≤ _), (by decide : 6 + 0 ≤ _)⟩)
  dsimp only [Pt.U, Pt.locs, Pt.cells, Pt.slots] at X8 l8 y8 z8 st8 hQ8
  subst l8 y8 z8
  obtain ⟨rfl, N8q, K8q, E8q, Fv8q, Fm8q, Fa8q, V8q⟩ := hQ8
  have N8 := Fr.app N7 N8q
  have z8q : n0 ≤ T8.heap.size := Nat.le_trans z7q K8q.1
  obtain ⟨cq9, kq9, q9a, q9b, q9c⟩ := isOf hZ rfl E8q
  obtain ⟨_, _, ⟨T9, L9, k9, n9⟩, -, X9, ⟨Lc9, hQ9, l9, y9, z9⟩, st9⟩ := X8.virtualBack hx (y := (⟨"com/example/mullion/mullion/aggregators/FurthestBack", "moveOn", "(IJ)V"⟩ : MethodName)) (z := (⟨"com/example/mullion/mullion/aggregators/FurthestBack", "moveOn", "(IJ)V"⟩ : MethodName)) hown (mvT hZ (hw _ (List.mem_of_getElem? (i := 27) rfl))) (mvT hZ (hw _ (List.mem_of_getElem? (i := 28) rfl))) (notFace_of_selects (args := #[]) (mvT hZ (hw _ (List.mem_of_getElem? (i := 30) rfl)))) (mvT hZ (hw _ (List.mem_of_getElem? (i := 30) rfl))) (mvT hZ (hw _ (List.mem_of_getElem? (i := 29) rfl))) (by decide) (backOf (W := 0) (rm5 l Z a0 hw [] b6 (1 : Int32) vb t 2 _ 1 _ _ T8.heap n0 z8q rfl (by decide) (by decide) E8q Fv8q Fm8q Fa8q V8q hne g_b6 g_t) hZ (hw _ (List.mem_of_getElem? (i := 31) rfl)) (hw _ (List.mem_of_getElem? (i := 3) rfl)) (by decide) (by decide)) q9a q9c (g := (mkF m 74 #[.val (.int p1), .val (.long q2), .second, .val (.long q3), .second, .val (.long q4), .second, .val (.int (2 : Int32)), .val (.long vb), .second, .val (.long vc), .second, .val (.ref b6), .unset, .unset, .unset, .unset] [(.long vb), (.int (1 : Int32)), (.ref b6)])) rfl (by rw [hml]; rfl) (Steps.refl _) (argsL := [(.int (1 : Int32)), (.long vb)]) (rest := []) (lenOf pd_0_0 rfl) rfl (by show 2 * 0 + _ ≤ _; exact Nat.le_of_eq rfl) (hb hby at_74) (fun _ _ => ⟨rfl, rfl, (by decide : 2 + 0 ≤ _), (by decide : 6 + 0 ≤ _)⟩)
  dsimp only [Pt.U, Pt.locs, Pt.cells, Pt.slots] at X9 l9 y9 z9 st9 hQ9
  subst l9 y9 z9
  obtain ⟨rfl, N9q, K9q, E9q, Fv9q, Fm9q, Fa9q, V9q⟩ := hQ9
  have N9 := Fr.app N8 N9q
  have z9q : n0 ≤ T9.heap.size := Nat.le_trans z8q K9q.1
  obtain ⟨_, _, ⟨T10, L10, k10, n10⟩, -, X10, ⟨Lc10, hQ10, l10, y10, z10⟩, st10⟩ := Jvm.LawKit.callS X9 hx (y := (⟨"java/lang/Math", "min", "(JJ)J"⟩ : MethodName)) hown (mvT hZ (hw _ (List.mem_of_getElem? (i := 49) rfl))) (mvT hZ (hw _ (List.mem_of_getElem? (i := 50) rfl))) (mvT hZ (hw _ (List.mem_of_getElem? (i := 51) rfl))) (mvT hZ (hw _ (List.mem_of_getElem? (i := 52) rfl))) (by decide) (backOf (W := 0) (rm9 l Z a0 hw [] q2 vb  T9.heap n0 z9q) hZ (hw _ (List.mem_of_getElem? (i := 52) rfl)) (hw _ (List.mem_of_getElem? (i := 51) rfl)) (by decide) (by decide)) (g := (mkF m 104 #[.val (.int p1), .val (.long q2), .second, .val (.long q3), .second, .val (.long q4), .second, .val (.int (2 : Int32)), .val (.long vb), .second, .val (.long vc), .second, .val (.ref b6), .val (.long q2), .second, .unset, .unset] [(.long vb), (.long q2)])) rfl (by rw [hml]; rfl) (argsL := [(.long q2), (.long vb)]) (rest := []) (lenOf pd_0_6 rfl) rfl (by show 2 * 0 + _ ≤ _; exact Nat.le_of_eq rfl) (hb hby at_104) (fun _ _ => ⟨rfl, rfl, (by decide : 2 + 0 ≤ _), (by decide : 6 + 0 ≤ _)⟩)
  dsimp only [Pt.U, Pt.locs, Pt.cells, Pt.slots] at X10 l10 y10 z10 st10 hQ10
  subst l10 y10 z10
  obtain ⟨hv10, N10q, e10q⟩ := hQ10
  have N10 := Fr.app N9 N10q
  rw [← hm] at hv10
  subst hv10
  have z10q : n0 ≤ T10.heap.size := by rw [e10q]; exact z9q
  have E10q := E9q
  rw [← e10q] at E10q
  have Fv10q := Fv9q
  rw [← e10q] at Fv10q
  have Fm10q := Fm9q
  rw [← e10q] at Fm10q
  have Fa10q := Fa9q
  rw [← e10q] at Fa10q
  have V10q := V9q
  rw [← e10q] at V10q
  obtain ⟨cq11, kq11, q11a, q11b, q11c⟩ := isOf hZ rfl E10q
  obtain ⟨_, _, ⟨T11, L11, k11, n11⟩, -, X11, ⟨Lc11, hQ11, l11, y11, z11⟩, st11⟩ := X10.virtualBack hx (y := (⟨"com/example/mullion/mullion/aggregators/FurthestBack", "findSmallest", "()J"⟩ : MethodName)) (z := (⟨"com/example/mullion/mullion/aggregators/FurthestBack", "findSmallest", "()J"⟩ : MethodName)) hown (mvT hZ (hw _ (List.mem_of_getElem? (i := 32) rfl))) (mvT hZ (hw _ (List.mem_of_getElem? (i := 33) rfl))) (notFace_of_selects (args := #[]) (mvT hZ (hw _ (List.mem_of_getElem? (i := 35) rfl)))) (mvT hZ (hw _ (List.mem_of_getElem? (i := 35) rfl))) (mvT hZ (hw _ (List.mem_of_getElem? (i := 34) rfl))) (by decide) (backOf (W := 0) (rm6 l Z a0 hw [] b6 t 2 (fun j => if j = 1 then vb else if j = 0 then q2 else (-9223372036854775808 : Int64)) _ _ T10.heap n0 z10q (by decide) E10q Fv10q Fm10q Fa10q V10q hne g_b6) hZ (hw _ (List.mem_of_getElem? (i := 36) rfl)) (hw _ (List.mem_of_getElem? (i := 3) rfl)) (by decide) (by decide)) q11a q11c (g := (mkF m 126 #[.val (.int p1), .val (.long q2), .second, .val (.long q3), .second, .val (.long q4), .second, .val (.int (2 : Int32)), .val (.long vb), .second, .val (.long vc), .second, .val (.ref b6), .val (.long mm), .second, .unset, .unset] [(.ref b6)])) rfl (by rw [hml]; rfl) (Steps.refl _) (argsL := []) (rest := []) (lenOf pd_0_4 rfl) rfl (by show 2 * 0 + _ ≤ _; exact Nat.le_of_eq rfl) (hb hby at_126) (fun _ _ => ⟨rfl, rfl, (by decide : 2 + 0 ≤ _), (by decide : 6 + 0 ≤ _)⟩)
  dsimp only [Pt.U, Pt.locs, Pt.cells, Pt.slots] at X11 l11 y11 z11 st11 hQ11
  subst l11 y11 z11
  obtain ⟨hv11, N11q, K11q, E11q, Fv11q, Fm11q, Fa11q, V11q⟩ := hQ11
  have N11 := Fr.app N10 N11q
  have z11q : n0 ≤ T11.heap.size := Nat.le_trans z10q K11q.1
  have hfs : own_fs (fun j => if j = 1 then vb else if j = 0 then q2 else (-9223372036854775808 : Int64)) 2 0 ((9223372036854775807 : Int64), (0 : Int32)) = (mm, (own_is q2 mm + own_is vb mm)) := by show own_step (own_step ((9223372036854775807 : Int64), 0) q2) vb = _; rw [own_first, hm]; exact own_second q2 vb
  rw [hfs] at hv11
  replace hv11 : _ = some (Value.long mm) := hv11
  subst hv11
  have Gm11q : Fld Z T11.heap b6 "com/example/mullion/mullion/aggregators/FurthestBack" "mark" "J" (.long mm) := by have q := Fm11q; rw [hfs] at q; exact q
  have Ga11q : Fld Z T11.heap b6 "com/example/mullion/mullion/aggregators/FurthestBack" "atOrBelowMark" "I" (.int (own_is q2 mm + own_is vb mm)) := by have q := Fa11q; rw [hfs] at q; exact q
  obtain ⟨cq12, kq12, q12a, q12b, q12c⟩ := isOf hZ rfl E11q
  obtain ⟨_, _, ⟨T12, L12, k12, n12⟩, -, X12, ⟨Lc12, hQ12, l12, y12, z12⟩, st12⟩ := X11.virtualBack hx (y := (⟨"com/example/mullion/mullion/aggregators/FurthestBack", "mark", "()J"⟩ : MethodName)) (z := (⟨"com/example/mullion/mullion/aggregators/FurthestBack", "mark", "()J"⟩ : MethodName)) hown (mvT hZ (hw _ (List.mem_of_getElem? (i := 38) rfl))) (mvT hZ (hw _ (List.mem_of_getElem? (i := 39) rfl))) (notFace_of_selects (args := #[]) (mvT hZ (hw _ (List.mem_of_getElem? (i := 41) rfl)))) (mvT hZ (hw _ (List.mem_of_getElem? (i := 41) rfl))) (mvT hZ (hw _ (List.mem_of_getElem? (i := 40) rfl))) (by decide) (backOf (W := 0) (rm7 l Z a0 hw [] b6 mm T11.heap n0 z11q Gm11q) hZ (hw _ (List.mem_of_getElem? (i := 42) rfl)) (hw _ (List.mem_of_getElem? (i := 3) rfl)) (by decide) (by decide)) q12a q12c (g := (mkF m 143 #[.val (.int p1), .val (.long q2), .second, .val (.long q3), .second, .val (.long q4), .second, .val (.int (2 : Int32)), .val (.long vb), .second, .val (.long vc), .second, .val (.ref b6), .val (.long mm), .second, .val (.long mm), .second] [(.ref b6)])) rfl (by rw [hml]; rfl) (Steps.refl _) (argsL := []) (rest := []) (lenOf pd_0_4 rfl) rfl (by show 2 * 0 + _ ≤ _; exact Nat.le_of_eq rfl) (hb hby at_143) (fun _ _ => ⟨rfl, rfl, (by decide : 2 + 0 ≤ _), (by decide : 6 + 0 ≤ _)⟩)
  dsimp only [Pt.U, Pt.locs, Pt.cells, Pt.slots] at X12 l12 y12 z12 st12 hQ12
  subst l12 y12 z12
  obtain ⟨rfl, N12q, e12q⟩ := hQ12
  have N12 := Fr.app N11 N12q
  have z12q : n0 ≤ T12.heap.size := by rw [e12q]; exact z11q
  have E12q := E11q
  rw [← e12q] at E12q
  have Fv12q := Fv11q
  rw [← e12q] at Fv12q
  have Fm12q := Gm11q
  rw [← e12q] at Fm12q
  have Fa12q := Ga11q
  rw [← e12q] at Fa12q
  have V12q := V11q
  rw [← e12q] at V12q
  obtain ⟨cq13, kq13, q13a, q13b, q13c⟩ := isOf hZ rfl E12q
  obtain ⟨_, _, ⟨T13, L13, k13, n13⟩, -, X13, ⟨Lc13, hQ13, l13, y13, z13⟩, st13⟩ := X12.virtualBack hx (y := (⟨"com/example/mullion/mullion/aggregators/FurthestBack", "allMovedOn", "()Z"⟩ : MethodName)) (z := (⟨"com/example/mullion/mullion/aggregators/FurthestBack", "allMovedOn", "()Z"⟩ : MethodName)) hown (mvT hZ (hw _ (List.mem_of_getElem? (i := 44) rfl))) (mvT hZ (hw _ (List.mem_of_getElem? (i := 45) rfl))) (notFace_of_selects (args := #[]) (mvT hZ (hw _ (List.mem_of_getElem? (i := 47) rfl)))) (mvT hZ (hw _ (List.mem_of_getElem? (i := 47) rfl))) (mvT hZ (hw _ (List.mem_of_getElem? (i := 46) rfl))) (by decide) (backOf (W := 0) (rm8_t l Z a0 hw [] b6 (own_is q2 mm + own_is vb mm) T12.heap n0 z12q Fa12q (by rw [hm]; exact own_pos2 q2 vb)) hZ (hw _ (List.mem_of_getElem? (i := 48) rfl)) (hw _ (List.mem_of_getElem? (i := 3) rfl)) (by decide) (by decide)) q13a q13c (g := (mkF m 165 #[.val (.int p1), .val (.long q2), .second, .val (.long q3), .second, .val (.long q4), .second, .val (.int (2 : Int32)), .val (.long vb), .second, .val (.long vc), .second, .val (.ref b6), .val (.long mm), .second, .val (.long mm), .second] [(.ref b6)])) rfl (by rw [hml]; rfl) (Steps.refl _) (argsL := []) (rest := []) (lenOf pd_0_5 rfl) rfl (by show 2 * 0 + _ ≤ _; exact Nat.le_of_eq rfl) (hb hby at_165) (fun _ _ => ⟨rfl, rfl, (by decide : 2 + 0 ≤ _), (by decide : 6 + 0 ≤ _)⟩)
  dsimp only [Pt.U, Pt.locs, Pt.cells, Pt.slots] at X13 l13 y13 z13 st13 hQ13
  subst l13 y13 z13
  obtain ⟨rfl, N13q, e13q⟩ := hQ13
  have N13 := Fr.app N12 N13q
  have z13q : n0 ≤ T13.heap.size := by rw [e13q]; exact z12q
  have E13q := E12q
  rw [← e13q] at E13q
  have Fv13q := Fv12q
  rw [← e13q] at Fv13q
  have Fm13q := Fm12q
  rw [← e13q] at Fm13q
  have Fa13q := Fa12q
  rw [← e13q] at Fa13q
  have V13q := V12q
  rw [← e13q] at V13q
  obtain ⟨fs, hr, hrun, hended, hW, hsame⟩ := X13.leave (v := some (.int (1 : Int32))) (fun h => by rw [Bd.returns] at h; cases h)
  refine ⟨_, _, pre0 _ ?_, hrun, hended, _, _, rfl, ?_, ⟨_, rfl⟩, hW, hsame.mono (by decide) (by decide)⟩
  · show Steps p.tables e below (s₁.setTop (mkF m 0 #[.val (.int p1), .val (.long q2), .second, .val (.long q3), .second, .val (.long q4), .second, .unset, .unset, .unset, .unset, .unset, .unset, .unset, .unset, .unset, .unset] [])) _
    refine st5 _ ?_
    show Steps p.tables e below (T5.setTop (mkF m 42 #[.val (.int p1), .val (.long q2), .second, .val (.long q3), .second, .val (.long q4), .second, .val (.int (2 : Int32)), .val (.long vb), .second, .val (.long vc), .second, .unset, .unset, .unset, .unset, .unset] [])) _
    refine st6 _ ?_
    show Steps p.tables e below (T6.setTop (mkF m 45 #[.val (.int p1), .val (.long q2), .second, .val (.long q3), .second, .val (.long q4), .second, .val (.int (2 : Int32)), .val (.long vb), .second, .val (.long vc), .second, .unset, .unset, .unset, .unset, .unset] [(.ref b6)])) _
    refine XS.dup X6.here hx rfl (hb hby at_45) rfl rfl ?_
    show Steps p.tables e below (T6.setTop (mkF m 46 #[.val (.int p1), .val (.long q2), .second, .val (.long q3), .second, .val (.long q4), .second, .val (.int (2 : Int32)), .val (.long vb), .second, .val (.long vc), .second, .unset, .unset, .unset, .unset, .unset] [(.ref b6), (.ref b6)])) _
    refine XS.iload X6.here hx rfl (hb hby at_46) rfl ?_
    show Steps p.tables e below (T6.setTop (mkF m 48 #[.val (.int p1), .val (.long q2), .second, .val (.long q3), .second, .val (.long q4), .second, .val (.int (2 : Int32)), .val (.long vb), .second, .val (.long vc), .second, .unset, .unset, .unset, .unset, .unset] [(.int (2 : Int32)), (.ref b6), (.ref b6)])) _
    refine X6.ldc2Long hx hown (mvT hZ (hw _ (List.mem_of_getElem? (i := 4) rfl))) (g := (mkF m 48 #[.val (.int p1), .val (.long q2), .second, .val (.long q3), .second, .val (.long q4), .second, .val (.int (2 : Int32)), .val (.long vb), .second, .val (.long vc), .second, .unset, .unset, .unset, .unset, .unset] [(.int (2 : Int32)), (.ref b6), (.ref b6)])) rfl (hb hby at_48) _ ?_
    show Steps p.tables e below (T6.setTop (mkF m 51 #[.val (.int p1), .val (.long q2), .second, .val (.long q3), .second, .val (.long q4), .second, .val (.int (2 : Int32)), .val (.long vb), .second, .val (.long vc), .second, .unset, .unset, .unset, .unset, .unset] [(.long (-9223372036854775808 : Int64)), (.int (2 : Int32)), (.ref b6), (.ref b6)])) _
    refine st7.trans ?_
    show Steps p.tables e below (T7.setTop (mkF m 54 #[.val (.int p1), .val (.long q2), .second, .val (.long q3), .second, .val (.long q4), .second, .val (.int (2 : Int32)), .val (.long vb), .second, .val (.long vc), .second, .unset, .unset, .unset, .unset, .unset] [(.ref b6)])) _
    refine XS.astore X7.here hx rfl (hb hby at_54) rfl rfl (l' := #[.val (.int p1), .val (.long q2), .second, .val (.long q3), .second, .val (.long q4), .second, .val (.int (2 : Int32)), .val (.long vb), .second, .val (.long vc), .second, .val (.ref b6), .unset, .unset, .unset, .unset]) rfl ?_
    show Steps p.tables e below (T7.setTop (mkF m 56 #[.val (.int p1), .val (.long q2), .second, .val (.long q3), .second, .val (.long q4), .second, .val (.int (2 : Int32)), .val (.long vb), .second, .val (.long vc), .second, .val (.ref b6), .unset, .unset, .unset, .unset] [])) _
    refine XS.aload X7.here hx rfl (hb hby at_56) rfl rfl ?_
    show Steps p.tables e below (T7.setTop (mkF m 58 #[.val (.int p1), .val (.long q2), .second, .val (.long q3), .second, .val (.long q4), .second, .val (.int (2 : Int32)), .val (.long vb), .second, .val (.long vc), .second, .val (.ref b6), .unset, .unset, .unset, .unset] [(.ref b6)])) _
    refine XS.iconst X7.here hx rfl (hb hby at_58) ?_
    show Steps p.tables e below (T7.setTop (mkF m 59 #[.val (.int p1), .val (.long q2), .second, .val (.long q3), .second, .val (.long q4), .second, .val (.int (2 : Int32)), .val (.long vb), .second, .val (.long vc), .second, .val (.ref b6), .unset, .unset, .unset, .unset] [(.int (0 : Int32)), (.ref b6)])) _
    refine XS.lloadN X7.here hx rfl (hb hby at_59) rfl ?_
    show Steps p.tables e below (T7.setTop (mkF m 60 #[.val (.int p1), .val (.long q2), .second, .val (.long q3), .second, .val (.long q4), .second, .val (.int (2 : Int32)), .val (.long vb), .second, .val (.long vc), .second, .val (.ref b6), .unset, .unset, .unset, .unset] [(.long q2), (.int (0 : Int32)), (.ref b6)])) _
    refine st8.trans ?_
    show Steps p.tables e below (T8.setTop (mkF m 63 #[.val (.int p1), .val (.long q2), .second, .val (.long q3), .second, .val (.long q4), .second, .val (.int (2 : Int32)), .val (.long vb), .second, .val (.long vc), .second, .val (.ref b6), .unset, .unset, .unset, .unset] [])) _
    refine XS.iload X8.here hx rfl (hb hby at_63) rfl ?_
    show Steps p.tables e below (T8.setTop (mkF m 65 #[.val (.int p1), .val (.long q2), .second, .val (.long q3), .second, .val (.long q4), .second, .val (.int (2 : Int32)), .val (.long vb), .second, .val (.long vc), .second, .val (.ref b6), .unset, .unset, .unset, .unset] [(.int (2 : Int32))])) _
    refine XS.iconst X8.here hx rfl (hb hby at_65) ?_
    show Steps p.tables e below (T8.setTop (mkF m 66 #[.val (.int p1), .val (.long q2), .second, .val (.long q3), .second, .val (.long q4), .second, .val (.int (2 : Int32)), .val (.long vb), .second, .val (.long vc), .second, .val (.ref b6), .unset, .unset, .unset, .unset] [(.int (2 : Int32)), (.int (2 : Int32))])) _
    refine XS.icmpNo X8.here hx rfl (hb hby at_66) rfl (flt hc66).1 ?_
    show Steps p.tables e below (T8.setTop (mkF m 69 #[.val (.int p1), .val (.long q2), .second, .val (.long q3), .second, .val (.long q4), .second, .val (.int (2 : Int32)), .val (.long vb), .second, .val (.long vc), .second, .val (.ref b6), .unset, .unset, .unset, .unset] [])) _
    refine XS.aload X8.here hx rfl (hb hby at_69) rfl rfl ?_
    show Steps p.tables e below (T8.setTop (mkF m 71 #[.val (.int p1), .val (.long q2), .second, .val (.long q3), .second, .val (.long q4), .second, .val (.int (2 : Int32)), .val (.long vb), .second, .val (.long vc), .second, .val (.ref b6), .unset, .unset, .unset, .unset] [(.ref b6)])) _
    refine XS.iconst X8.here hx rfl (hb hby at_71) ?_
    show Steps p.tables e below (T8.setTop (mkF m 72 #[.val (.int p1), .val (.long q2), .second, .val (.long q3), .second, .val (.long q4), .second, .val (.int (2 : Int32)), .val (.long vb), .second, .val (.long vc), .second, .val (.ref b6), .unset, .unset, .unset, .unset] [(.int (1 : Int32)), (.ref b6)])) _
    refine XS.lload X8.here hx rfl (hb hby at_72) rfl ?_
    show Steps p.tables e below (T8.setTop (mkF m 74 #[.val (.int p1), .val (.long q2), .second, .val (.long q3), .second, .val (.long q4), .second, .val (.int (2 : Int32)), .val (.long vb), .second, .val (.long vc), .second, .val (.ref b6), .unset, .unset, .unset, .unset] [(.long vb), (.int (1 : Int32)), (.ref b6)])) _
    refine st9.trans ?_
    show Steps p.tables e below (T9.setTop (mkF m 77 #[.val (.int p1), .val (.long q2), .second, .val (.long q3), .second, .val (.long q4), .second, .val (.int (2 : Int32)), .val (.long vb), .second, .val (.long vc), .second, .val (.ref b6), .unset, .unset, .unset, .unset] [])) _
    refine XS.iload X9.here hx rfl (hb hby at_77) rfl ?_
    show Steps p.tables e below (T9.setTop (mkF m 79 #[.val (.int p1), .val (.long q2), .second, .val (.long q3), .second, .val (.long q4), .second, .val (.int (2 : Int32)), .val (.long vb), .second, .val (.long vc), .second, .val (.ref b6), .unset, .unset, .unset, .unset] [(.int (2 : Int32))])) _
    refine XS.iconst X9.here hx rfl (hb hby at_79) ?_
    show Steps p.tables e below (T9.setTop (mkF m 80 #[.val (.int p1), .val (.long q2), .second, .val (.long q3), .second, .val (.long q4), .second, .val (.int (2 : Int32)), .val (.long vb), .second, .val (.long vc), .second, .val (.ref b6), .unset, .unset, .unset, .unset] [(.int (3 : Int32)), (.int (2 : Int32))])) _
    refine XS.icmpYes X9.here hx rfl (pc0 := 80) (pc' := 91) rfl (hb hby at_80) rfl (tlt hc80).1 (by decide) (by decide) ?_
    show Steps p.tables e below (T9.setTop (mkF m 91 #[.val (.int p1), .val (.long q2), .second, .val (.long q3), .second, .val (.long q4), .second, .val (.int (2 : Int32)), .val (.long vb), .second, .val (.long vc), .second, .val (.ref b6), .unset, .unset, .unset, .unset] [])) _
    refine XS.lloadN X9.here hx rfl (hb hby at_91) rfl ?_
    show Steps p.tables e below (T9.setTop (mkF m 92 #[.val (.int p1), .val (.long q2), .second, .val (.long q3), .second, .val (.long q4), .second, .val (.int (2 : Int32)), .val (.long vb), .second, .val (.long vc), .second, .val (.ref b6), .unset, .unset, .unset, .unset] [(.long q2)])) _
    refine XS.lstore X9.here hx rfl (hb hby at_92) rfl (l' := #[.val (.int p1), .val (.long q2), .second, .val (.long q3), .second, .val (.long q4), .second, .val (.int (2 : Int32)), .val (.long vb), .second, .val (.long vc), .second, .val (.ref b6), .val (.long q2), .second, .unset, .unset]) rfl ?_
    show Steps p.tables e below (T9.setTop (mkF m 94 #[.val (.int p1), .val (.long q2), .second, .val (.long q3), .second, .val (.long q4), .second, .val (.int (2 : Int32)), .val (.long vb), .second, .val (.long vc), .second, .val (.ref b6), .val (.long q2), .second, .unset, .unset] [])) _
    refine XS.iload X9.here hx rfl (hb hby at_94) rfl ?_
    show Steps p.tables e below (T9.setTop (mkF m 96 #[.val (.int p1), .val (.long q2), .second, .val (.long q3), .second, .val (.long q4), .second, .val (.int (2 : Int32)), .val (.long vb), .second, .val (.long vc), .second, .val (.ref b6), .val (.long q2), .second, .unset, .unset] [(.int (2 : Int32))])) _
    refine XS.iconst X9.here hx rfl (hb hby at_96) ?_
    show Steps p.tables e below (T9.setTop (mkF m 97 #[.val (.int p1), .val (.long q2), .second, .val (.long q3), .second, .val (.long q4), .second, .val (.int (2 : Int32)), .val (.long vb), .second, .val (.long vc), .second, .val (.ref b6), .val (.long q2), .second, .unset, .unset] [(.int (2 : Int32)), (.int (2 : Int32))])) _
    refine XS.icmpNo X9.here hx rfl (hb hby at_97) rfl (flt hc97).1 ?_
    show Steps p.tables e below (T9.setTop (mkF m 100 #[.val (.int p1), .val (.long q2), .second, .val (.long q3), .second, .val (.long q4), .second, .val (.int (2 : Int32)), .val (.long vb), .second, .val (.long vc), .second, .val (.ref b6), .val (.long q2), .second, .unset, .unset] [])) _
    refine XS.lload X9.here hx rfl (hb hby at_100) rfl ?_
    show Steps p.tables e below (T9.setTop (mkF m 102 #[.val (.int p1), .val (.long q2), .second, .val (.long q3), .second, .val (.long q4), .second, .val (.int (2 : Int32)), .val (.long vb), .second, .val (.long vc), .second, .val (.ref b6), .val (.long q2), .second, .unset, .unset] [(.long q2)])) _
    refine XS.lload X9.here hx rfl (hb hby at_102) rfl ?_
    show Steps p.tables e below (T9.setTop (mkF m 104 #[.val (.int p1), .val (.long q2), .second, .val (.long q3), .second, .val (.long q4), .second, .val (.int (2 : Int32)), .val (.long vb), .second, .val (.long vc), .second, .val (.ref b6), .val (.long q2), .second, .unset, .unset] [(.long vb), (.long q2)])) _
    refine st10 _ ?_
    show Steps p.tables e below (T10.setTop (mkF m 107 #[.val (.int p1), .val (.long q2), .second, .val (.long q3), .second, .val (.long q4), .second, .val (.int (2 : Int32)), .val (.long vb), .second, .val (.long vc), .second, .val (.ref b6), .val (.long q2), .second, .unset, .unset] [(.long mm)])) _
    refine XS.lstore X10.here hx rfl (hb hby at_107) rfl (l' := #[.val (.int p1), .val (.long q2), .second, .val (.long q3), .second, .val (.long q4), .second, .val (.int (2 : Int32)), .val (.long vb), .second, .val (.long vc), .second, .val (.ref b6), .val (.long mm), .second, .unset, .unset]) rfl ?_
    show Steps p.tables e below (T10.setTop (mkF m 109 #[.val (.int p1), .val (.long q2), .second, .val (.long q3), .second, .val (.long q4), .second, .val (.int (2 : Int32)), .val (.long vb), .second, .val (.long vc), .second, .val (.ref b6), .val (.long mm), .second, .unset, .unset] [])) _
    refine XS.iload X10.here hx rfl (hb hby at_109) rfl ?_
    show Steps p.tables e below (T10.setTop (mkF m 111 #[.val (.int p1), .val (.long q2), .second, .val (.long q3), .second, .val (.long q4), .second, .val (.int (2 : Int32)), .val (.long vb), .second, .val (.long vc), .second, .val (.ref b6), .val (.long mm), .second, .unset, .unset] [(.int (2 : Int32))])) _
    refine XS.iconst X10.here hx rfl (hb hby at_111) ?_
    show Steps p.tables e below (T10.setTop (mkF m 112 #[.val (.int p1), .val (.long q2), .second, .val (.long q3), .second, .val (.long q4), .second, .val (.int (2 : Int32)), .val (.long vb), .second, .val (.long vc), .second, .val (.ref b6), .val (.long mm), .second, .unset, .unset] [(.int (3 : Int32)), (.int (2 : Int32))])) _
    refine XS.icmpYes X10.here hx rfl (pc0 := 112) (pc' := 124) rfl (hb hby at_112) rfl (tlt hc112).1 (by decide) (by decide) ?_
    show Steps p.tables e below (T10.setTop (mkF m 124 #[.val (.int p1), .val (.long q2), .second, .val (.long q3), .second, .val (.long q4), .second, .val (.int (2 : Int32)), .val (.long vb), .second, .val (.long vc), .second, .val (.ref b6), .val (.long mm), .second, .unset, .unset] [])) _
    refine XS.aload X10.here hx rfl (hb hby at_124) rfl rfl ?_
    show Steps p.tables e below (T10.setTop (mkF m 126 #[.val (.int p1), .val (.long q2), .second, .val (.long q3), .second, .val (.long q4), .second, .val (.int (2 : Int32)), .val (.long vb), .second, .val (.long vc), .second, .val (.ref b6), .val (.long mm), .second, .unset, .unset] [(.ref b6)])) _
    refine st11.trans ?_
    show Steps p.tables e below (T11.setTop (mkF m 129 #[.val (.int p1), .val (.long q2), .second, .val (.long q3), .second, .val (.long q4), .second, .val (.int (2 : Int32)), .val (.long vb), .second, .val (.long vc), .second, .val (.ref b6), .val (.long mm), .second, .unset, .unset] [(.long mm)])) _
    refine XS.lstore X11.here hx rfl (hb hby at_129) rfl (l' := #[.val (.int p1), .val (.long q2), .second, .val (.long q3), .second, .val (.long q4), .second, .val (.int (2 : Int32)), .val (.long vb), .second, .val (.long vc), .second, .val (.ref b6), .val (.long mm), .second, .val (.long mm), .second]) rfl ?_
    show Steps p.tables e below (T11.setTop (mkF m 131 #[.val (.int p1), .val (.long q2), .second, .val (.long q3), .second, .val (.long q4), .second, .val (.int (2 : Int32)), .val (.long vb), .second, .val (.long vc), .second, .val (.ref b6), .val (.long mm), .second, .val (.long mm), .second] [])) _
    refine XS.lload X11.here hx rfl (hb hby at_131) rfl ?_
    show Steps p.tables e below (T11.setTop (mkF m 133 #[.val (.int p1), .val (.long q2), .second, .val (.long q3), .second, .val (.long q4), .second, .val (.int (2 : Int32)), .val (.long vb), .second, .val (.long vc), .second, .val (.ref b6), .val (.long mm), .second, .val (.long mm), .second] [(.long mm)])) _
    refine XS.lload X11.here hx rfl (hb hby at_133) rfl ?_
    show Steps p.tables e below (T11.setTop (mkF m 135 #[.val (.int p1), .val (.long q2), .second, .val (.long q3), .second, .val (.long q4), .second, .val (.int (2 : Int32)), .val (.long vb), .second, .val (.long vc), .second, .val (.ref b6), .val (.long mm), .second, .val (.long mm), .second] [(.long mm), (.long mm)])) _
    refine XS.lcmp X11.here hx rfl (hb hby at_135) rfl ?_
    show Steps p.tables e below (T11.setTop (mkF m 136 #[.val (.int p1), .val (.long q2), .second, .val (.long q3), .second, .val (.long q4), .second, .val (.int (2 : Int32)), .val (.long vb), .second, .val (.long vc), .second, .val (.ref b6), .val (.long mm), .second, .val (.long mm), .second] [(.int (lcmpW mm mm))])) _
    refine XS.ifYes X11.here hx rfl (pc0 := 136) (pc' := 141) rfl (hb hby at_136) rfl ((if0 _ _).trans (teq (((lw_eq _ _).mpr rfl) : (lcmpW mm mm) = (0 : Int32))).1) (by decide) (by decide) ?_
    show Steps p.tables e below (T11.setTop (mkF m 141 #[.val (.int p1), .val (.long q2), .second, .val (.long q3), .second, .val (.long q4), .second, .val (.int (2 : Int32)), .val (.long vb), .second, .val (.long vc), .second, .val (.ref b6), .val (.long mm), .second, .val (.long mm), .second] [])) _
    refine XS.aload X11.here hx rfl (hb hby at_141) rfl rfl ?_
    show Steps p.tables e below (T11.setTop (mkF m 143 #[.val (.int p1), .val (.long q2), .second, .val (.long q3), .second, .val (.long q4), .second, .val (.int (2 : Int32)), .val (.long vb), .second, .val (.long vc), .second, .val (.ref b6), .val (.long mm), .second, .val (.long mm), .second] [(.ref b6)])) _
    refine st12.trans ?_
    show Steps p.tables e below (T12.setTop (mkF m 146 #[.val (.int p1), .val (.long q2), .second, .val (.long q3), .second, .val (.long q4), .second, .val (.int (2 : Int32)), .val (.long vb), .second, .val (.long vc), .second, .val (.ref b6), .val (.long mm), .second, .val (.long mm), .second] [(.long mm)])) _
    refine XS.lload X12.here hx rfl (hb hby at_146) rfl ?_
    show Steps p.tables e below (T12.setTop (mkF m 148 #[.val (.int p1), .val (.long q2), .second, .val (.long q3), .second, .val (.long q4), .second, .val (.int (2 : Int32)), .val (.long vb), .second, .val (.long vc), .second, .val (.ref b6), .val (.long mm), .second, .val (.long mm), .second] [(.long mm), (.long mm)])) _
    refine XS.lcmp X12.here hx rfl (hb hby at_148) rfl ?_
    show Steps p.tables e below (T12.setTop (mkF m 149 #[.val (.int p1), .val (.long q2), .second, .val (.long q3), .second, .val (.long q4), .second, .val (.int (2 : Int32)), .val (.long vb), .second, .val (.long vc), .second, .val (.ref b6), .val (.long mm), .second, .val (.long mm), .second] [(.int (lcmpW mm mm))])) _
    refine XS.ifYes X12.here hx rfl (pc0 := 149) (pc' := 154) rfl (hb hby at_149) rfl ((if0 _ _).trans (teq (((lw_eq _ _).mpr rfl) : (lcmpW mm mm) = (0 : Int32))).1) (by decide) (by decide) ?_
    show Steps p.tables e below (T12.setTop (mkF m 154 #[.val (.int p1), .val (.long q2), .second, .val (.long q3), .second, .val (.long q4), .second, .val (.int (2 : Int32)), .val (.long vb), .second, .val (.long vc), .second, .val (.ref b6), .val (.long mm), .second, .val (.long mm), .second] [])) _
    refine XS.lload X12.here hx rfl (hb hby at_154) rfl ?_
    show Steps p.tables e below (T12.setTop (mkF m 156 #[.val (.int p1), .val (.long q2), .second, .val (.long q3), .second, .val (.long q4), .second, .val (.int (2 : Int32)), .val (.long vb), .second, .val (.long vc), .second, .val (.ref b6), .val (.long mm), .second, .val (.long mm), .second] [(.long mm)])) _
    refine X12.ldc2Long hx hown (mvT hZ (hw _ (List.mem_of_getElem? (i := 43) rfl))) (g := (mkF m 156 #[.val (.int p1), .val (.long q2), .second, .val (.long q3), .second, .val (.long q4), .second, .val (.int (2 : Int32)), .val (.long vb), .second, .val (.long vc), .second, .val (.ref b6), .val (.long mm), .second, .val (.long mm), .second] [(.long mm)])) rfl (hb hby at_156) _ ?_
    show Steps p.tables e below (T12.setTop (mkF m 159 #[.val (.int p1), .val (.long q2), .second, .val (.long q3), .second, .val (.long q4), .second, .val (.int (2 : Int32)), .val (.long vb), .second, .val (.long vc), .second, .val (.ref b6), .val (.long mm), .second, .val (.long mm), .second] [(.long (9223372036854775807 : Int64)), (.long mm)])) _
    refine XS.lcmp X12.here hx rfl (hb hby at_159) rfl ?_
    show Steps p.tables e below (T12.setTop (mkF m 160 #[.val (.int p1), .val (.long q2), .second, .val (.long q3), .second, .val (.long q4), .second, .val (.int (2 : Int32)), .val (.long vb), .second, .val (.long vc), .second, .val (.ref b6), .val (.long mm), .second, .val (.long mm), .second] [(.int (lcmpW mm (9223372036854775807 : Int64)))])) _
    refine XS.ifNo X12.here hx rfl (hb hby at_160) rfl ((if0 _ _).trans (teq (((lw_eq _ _).mpr h160) : (lcmpW mm (9223372036854775807 : Int64)) = (0 : Int32))).2) ?_
    show Steps p.tables e below (T12.setTop (mkF m 163 #[.val (.int p1), .val (.long q2), .second, .val (.long q3), .second, .val (.long q4), .second, .val (.int (2 : Int32)), .val (.long vb), .second, .val (.long vc), .second, .val (.ref b6), .val (.long mm), .second, .val (.long mm), .second] [])) _
    refine XS.aload X12.here hx rfl (hb hby at_163) rfl rfl ?_
    show Steps p.tables e below (T12.setTop (mkF m 165 #[.val (.int p1), .val (.long q2), .second, .val (.long q3), .second, .val (.long q4), .second, .val (.int (2 : Int32)), .val (.long vb), .second, .val (.long vc), .second, .val (.ref b6), .val (.long mm), .second, .val (.long mm), .second] [(.ref b6)])) _
    refine st13.trans ?_
    show Steps p.tables e below (T13.setTop (mkF m 168 #[.val (.int p1), .val (.long q2), .second, .val (.long q3), .second, .val (.long q4), .second, .val (.int (2 : Int32)), .val (.long vb), .second, .val (.long vc), .second, .val (.ref b6), .val (.long mm), .second, .val (.long mm), .second] [(.int (0 : Int32))])) _
    refine XS.ifNo X13.here hx rfl (hb hby at_168) rfl ((if0 _ _).trans (teq (rfl : (0 : Int32) = (0 : Int32))).2) ?_
    show Steps p.tables e below (T13.setTop (mkF m 171 #[.val (.int p1), .val (.long q2), .second, .val (.long q3), .second, .val (.long q4), .second, .val (.int (2 : Int32)), .val (.long vb), .second, .val (.long vc), .second, .val (.ref b6), .val (.long mm), .second, .val (.long mm), .second] [])) _
    refine XS.iconst X13.here hx rfl (hb hby at_171) ?_
    show Steps p.tables e below (T13.setTop (mkF m 172 #[.val (.int p1), .val (.long q2), .second, .val (.long q3), .second, .val (.long q4), .second, .val (.int (2 : Int32)), .val (.long vb), .second, .val (.long vc), .second, .val (.ref b6), .val (.long mm), .second, .val (.long mm), .second] [(.int (1 : Int32))])) _
    refine XS.goto X13.here hx rfl (pc0 := 172) (pc' := 176) rfl (hb hby at_172) (by decide) (by decide) ?_
    show Steps p.tables e below (T13.setTop (mkF m 176 #[.val (.int p1), .val (.long q2), .second, .val (.long q3), .second, .val (.long q4), .second, .val (.int (2 : Int32)), .val (.long vb), .second, .val (.long vc), .second, .val (.ref b6), .val (.long mm), .second, .val (.long mm), .second] [(.int (1 : Int32))])) _
    exact retN X13 hx (t := .boolean) Bd.returns (by simp) (hb hby at_176) hr
  · show Q0 Z p1 q2 q3 q4 h0 n0 _ T13.heap _
    exact ⟨rfl, N13⟩
set_option maxRecDepth 65536 in
set_option maxHeartbeats 40000000 in
theorem rm0_2yy (l : Launch) (Z : State) (a0 : Array Value) (hw : ∀ d ∈ tables_1, d.before a0 Z = true) (ws : List Jvm.Cond) (p1 : Int32) (q2 : Int64) (q3 : Int64) (q4 : Int64) (h0 : Heap) (n0 : Nat) (Z0 : n0 ≤ h0.size) (vb vc mm : Int64) (hn : own_n p1 = 2) (hvb : own_vb p1 q2 q3 = vb) (hvc : own_vc p1 q2 q3 q4 = vc) (hm : mm = (own_mn q2 vb)) (h160 : ¬ (mm = (9223372036854775807 : Int64))) (h181 : q2 = mm) (h204 : vb = mm) :
    MetFree l x (head1 (Jvm.Cond.code x code maxLocals ret :: ws) room_1) (fun a U => a = #[(.int p1), (.long q2), (.long q3), (.long q4)] ∧ Z.Warmed39 U.vm ∧ U.heap = h0) (fun _ _ _ _ _ => True) (fun _ U o U' => ∃ v L, o = .returned v ∧ Q0 Z p1 q2 q3 q4 h0 n0 v U'.heap L ∧ FrameEnd U o U' L room_1.cells room_1.slots) := by
  refine MetFree.of_bodySF (plainFor_of_name pn_0) hisR ?_
  intro p e s m args below meth c s₁ Bd hml0 hP hK
  obtain ⟨rfl, hZ, hh⟩ := hP
  have hx := Bd.exec
  have hby := Bd.bytes
  have hml : c.maxLocals = 17 := hml0
  have hown : s.vm.findClass "com/example/mullion/mullion/aggregators/FurthestBackFindSmallestPinLaw" = some m.cls := findClass_of_methodNamed Bd.named
  have hnm := (name_of_methodNamed Bd.named Bd.method).1
  have X0 : Stand p l e room_1 s m #[(.int p1), (.long q2), (.long q3), (.long q4)] below meth c s₁ [] 0 0 := Stand.of_body Bd
  have e0 : s₁.heap = h0 := by rw [← hh, Bd.state]; rfl
  have N0 := Fr.nil n0
  have pre0 : ∀ t, Steps p.tables e below (s₁.setTop (mkF m 0 #[.val (.int p1), .val (.long q2), .second, .val (.long q3), .second, .val (.long q4), .second, .unset, .unset, .unset, .unset, .unset, .unset, .unset, .unset, .unset, .unset] [])) t → Steps p.tables e below (s₁.setTop (entryFrame m #[(.int p1), (.long q2), (.long q3), (.long q4)] maxLocals)) t := fun t k => castTop (ef_0 m p1 q2 q3 q4) k
  have hc66 : ¬ ((2 : Int32) < (2 : Int32)) := (by decide)
  have hc80 : (2 : Int32) < (3 : Int32) := (by decide)
  have hc97 : ¬ ((2 : Int32) < (2 : Int32)) := (by decide)
  have hc112 : (2 : Int32) < (3 : Int32) := (by decide)
  have hc196 : ¬ ((2 : Int32) < (2 : Int32)) := (by decide)
  have hc219 : (2 : Int32) < (3 : Int32) := (by decide)
  obtain ⟨T5, X5, e5, st5⟩ := own_j0 p1 q2 q3 q4 (2 : Int32) vb vc hn hvb hvc X0 hx hZ hw hby hml hown e0
  obtain ⟨T6, h6, X6, e6, E6, A6, D6, -, st6⟩ := newO X5 hx hZ hown (hw _ (List.mem_of_getElem? (i := 1) rfl)) (hw _ (List.mem_of_getElem? (i := 2) rfl)) (hw _ (List.mem_of_getElem? (i := 3) rfl)) e5 (g := (mkF m 42 #[.val (.int p1), .val (.long q2), .second, .val (.long q3), .second, .val (.long q4), .second, .val (.int (2 : Int32)), .val (.long vb), .second, .val (.long vc), .second, .unset, .unset, .unset, .unset, .unset] [])) rfl (hb hby at_42) (by decide) (by decide)
  obtain ⟨b6, g6⟩ : ∃ z, z = h0.size := ⟨_, rfl⟩
  rw [← g6] at A6 D6 st6
  have F_values_b6 : Fld Z h6 b6 "com/example/mullion/mullion/aggregators/FurthestBack" "values" "[J" .null := D6 (Or.inr (hw _ (List.mem_of_getElem? (i := 13) rfl))) (ty := (.array .long)) (by decide)
  have F_mark_b6 : Fld Z h6 b6 "com/example/mullion/mullion/aggregators/FurthestBack" "mark" "J" (.long (0 : Int64)) := D6 (Or.inl (hw _ (List.mem_of_getElem? (i := 24) rfl))) (ty := .long) (by decide)
  have F_atOrBelowMark_b6 : Fld Z h6 b6 "com/example/mullion/mullion/aggregators/FurthestBack" "atOrBelowMark" "I" (.int (0 : Int32)) := D6 (Or.inl (hw _ (List.mem_of_getElem? (i := 26) rfl))) (ty := .int) (by decide)
  have E_b6 := A6
  have g_b6 : n0 ≤ b6 := Nat.le_trans Z0 (Nat.le_of_eq g6.symm)
  have sz_b6 : h0.size ≤ b6 := (Nat.le_trans (Keep.refl h0 []).1 (Nat.le_of_eq g6.symm))
  have K6 : Keep h0 h6 [] := (Keep.refl h0 []).ext E6
  obtain ⟨_, _, ⟨T7, L7, k7, n7⟩, -, X7, ⟨Lc7, hQ7, l7, y7, z7⟩, st7⟩ := X6.specialBack hx (y := (⟨"com/example/mullion/mullion/aggregators/FurthestBack", "<init>", "(IJ)V"⟩ : MethodName)) rfl hown (mvT hZ (hw _ (List.mem_of_getElem? (i := 5) rfl))) (mvT hZ (hw _ (List.mem_of_getElem? (i := 6) rfl))) (mvT hZ (hw _ (List.mem_of_getElem? (i := 7) rfl))) (by decide) (backOf (W := 1) (rm1 l Z a0 hw [] b6 (2 : Int32) (-9223372036854775808 : Int64) 2 h6 n0 (Nat.le_trans Z0 E6.1) (by decide) rfl (by decide) E_b6 F_values_b6 F_mark_b6 F_atOrBelowMark_b6 g_b6) hZ (hw _ (List.mem_of_getElem? (i := 7) rfl)) (hw _ (List.mem_of_getElem? (i := 3) rfl)) (by decide) (by decide)) (g := (mkF m 51 #[.val (.int p1), .val (.long q2), .second, .val (.long q3), .second, .val (.long q4), .second, .val (.int (2 : Int32)), .val (.long vb), .second, .val (.long vc), .second, .unset, .unset, .unset, .unset, .unset] [(.long (-9223372036854775808 : Int64)), (.int (2 : Int32)), (.ref b6), (.ref b6)])) rfl (by rw [hml]; rfl) (Steps.refl _) (a := b6) (argsL := [(.int (2 : Int32)), (.long (-9223372036854775808 : Int64))]) (rest := [(.ref b6)]) (lenOf pd_0_0 rfl) rfl (by show 2 * 0 + _ ≤ _; exact Nat.le_of_eq rfl) (hb hby at_51) (fun _ _ => ⟨rfl, e6, (by decide : 1 + 1 ≤ _), (by decide : 3 + 3 ≤ _)⟩)
  dsimp only [Pt.U, Pt.locs, Pt.cells, Pt.slots] at X7 l7 y7 z7 st7 hQ7
  subst l7 y7 z7
  obtain ⟨rfl, N7q, K7q, t, st, E7q, Fv7q, Fm7q, Fa7q, V7q⟩ := hQ7
  have N7 := Fr.app N0 N7q
  have z7q : n0 ≤ T7.heap.size := Nat.le_trans (Nat.le_trans Z0 E6.1) K7q.1
  have hne : b6 ≠ t := Nat.ne_of_lt (Nat.lt_of_lt_of_le E_b6.lt st)
  have g_t : n0 ≤ t := Nat.le_trans (Nat.le_trans Z0 E6.1) st
  obtain ⟨cq8, kq8, q8a, q8b, q8c⟩ := isOf hZ rfl E7q
  obtain ⟨_, _, ⟨T8, L8, k8, n8⟩, -, X8, ⟨Lc8, hQ8, l8, y8, z8⟩, st8⟩ := X7.virtualBack hx (y := (⟨"com/example/mullion/mullion/aggregators/FurthestBack", "moveOn", "(IJ)V"⟩ : MethodName)) (z := (⟨"com/example/mullion/mullion/aggregators/FurthestBack", "moveOn", "(IJ)V"⟩ : MethodName)) hown (mvT hZ (hw _ (List.mem_of_getElem? (i := 27) rfl))) (mvT hZ (hw _ (List.mem_of_getElem? (i := 28) rfl))) (notFace_of_selects (args := #[]) (mvT hZ (hw _ (List.mem_of_getElem? (i := 30) rfl)))) (mvT hZ (hw _ (List.mem_of_getElem? (i := 30) rfl))) (mvT hZ (hw _ (List.mem_of_getElem? (i := 29) rfl))) (by decide) (backOf (W := 0) (rm5 l Z a0 hw [] b6 (0 : Int32) q2 t 2 _ 0 _ _ T7.heap n0 z7q rfl (by decide) (by decide) E7q Fv7q Fm7q Fa7q V7q hne g_b6 g_t) hZ (hw _ (List.mem_of_getElem? (i := 31) rfl)) (hw _ (List.mem_of_getElem? (i := 3) rfl)) (by decide) (by decide)) q8a q8c (g := (mkF m 60 #[.val (.int p1), .val (.long q2), .second, .val (.long q3), .second, .val (.long q4), .second, .val (.int (2 : Int32)), .val (.long vb), .second, .val (.long vc), .second, .val (.ref b6), .unset, .unset, .unset, .unset] [(.long q2), (.int (0 : Int32)), (.ref b6)])) rfl (by rw [hml]; rfl) (Steps.refl _) (argsL := [(.int (0 : Int32)), (.long q2)]) (rest := []) (lenOf pd_0_0 rfl) rfl (by show 2 * 0 + _ ≤ _; exact Nat.le_of_eq rfl) (hb hby at_60) (fun _ _ => ⟨rfl, rfl, (by decide : 2 + 0 ≤ _), (by decide : 6 + 0 ≤ _)⟩)
  dsimp only [Pt.U, Pt.locs, Pt.cells, Pt.slots] at X8 l8 y8 z8 st8 hQ8
  subst l8 y8 z8
  obtain ⟨rfl, N8q, K8q, E8q, Fv8q, Fm8q, Fa8q, V8q⟩ := hQ8
  have N8 := Fr.app N7 N8q
  have z8q : n0 ≤ T8.heap.size := Nat.le_trans z7q K8q.1
  obtain ⟨cq9, kq9, q9a, q9b, q9c⟩ := isOf hZ rfl E8q
  obtain ⟨_, _, ⟨T9, L9, k9, n9⟩, -, X9, ⟨Lc9, hQ9, l9, y9, z9⟩, st9⟩ := X8.virtualBack hx (y := (⟨"com/example/mullion/mullion/aggregators/FurthestBack", "moveOn", "(IJ)V"⟩ : MethodName)) (z := (⟨"com/example/mullion/mullion/aggregators/FurthestBack", "moveOn", "(IJ)V"⟩ : MethodName)) hown (mvT hZ (hw _ (List.mem_of_getElem? (i := 27) rfl))) (mvT hZ (hw _ (List.mem_of_getElem? (i := 28) rfl))) (notFace_of_selects (args := #[]) (mvT hZ (hw _ (List.mem_of_getElem? (i := 30) rfl)))) (mvT hZ (hw _ (List.mem_of_getElem? (i := 30) rfl))) (mvT hZ (hw _ (List.mem_of_getElem? (i := 29) rfl))) (by decide) (backOf (W := 0) (rm5 l Z a0 hw [] b6 (1 : Int32) vb t 2 _ 1 _ _ T8.heap n0 z8q rfl (by decide) (by decide) E8q Fv8q Fm8q Fa8q V8q hne g_b6 g_t) hZ (hw _ (List.mem_of_getElem? (i := 31) rfl)) (hw _ (List.mem_of_getElem? (i := 3) rfl)) (by decide) (by decide)) q9a q9c (g := (mkF m 74 #[.val (.int p1), .val (.long q2), .second, .val (.long q3), .second, .val (.long q4), .second, .val (.int (2 : Int32)), .val (.long vb), .second, .val (.long vc), .second, .val (.ref b6), .unset, .unset, .unset, .unset] [(.long vb), (.int (1 : Int32)), (.ref b6)])) rfl (by rw [hml]; rfl) (Steps.refl _) (argsL := [(.int (1 : Int32)), (.long vb)]) (rest := []) (lenOf pd_0_0 rfl) rfl (by show 2 * 0 + _ ≤ _; exact Nat.le_of_eq rfl) (hb hby at_74) (fun _ _ => ⟨rfl, rfl, (by decide : 2 + 0 ≤ _), (by decide : 6 + 0 ≤ _)⟩)
  dsimp only [Pt.U, Pt.locs, Pt.cells, Pt.slots] at X9 l9 y9 z9 st9 hQ9
  subst l9 y9 z9
  obtain ⟨rfl, N9q, K9q, E9q, Fv9q, Fm9q, Fa9q, V9q⟩ := hQ9
  have N9 := Fr.app N8 N9q
  have z9q : n0 ≤ T9.heap.size := Nat.le_trans z8q K9q.1
  obtain ⟨_, _, ⟨T10, L10, k10, n10⟩, -, X10, ⟨Lc10, hQ10, l10, y10, z10⟩, st10⟩ := Jvm.LawKit.callS X9 hx (y := (⟨"java/lang/Math", "min", "(JJ)J"⟩ : MethodName)) hown (mvT hZ (hw _ (List.mem_of_getElem? (i := 49) rfl))) (mvT hZ (hw _ (List.mem_of_getElem? (i := 50) rfl))) (mvT hZ (hw _ (List.mem_of_getElem? (i := 51) rfl))) (mvT hZ (hw _ (List.mem_of_getElem? (i := 52) rfl))) (by decide) (backOf (W := 0) (rm9 l Z a0 hw [] q2 vb  T9.heap n0 z9q) hZ (hw _ (List.mem_of_getElem? (i := 52) rfl)) (hw _ (List.mem_of_getElem? (i := 51) rfl)) (by decide) (by decide)) (g := (mkF m 104 #[.val (.int p1), .val (.long q2), .second, .val (.long q3), .second, .val (.long q4), .second, .val (.int (2 : Int32)), .val (.long vb), .second, .val (.long vc), .second, .val (.ref b6), .val (.long q2), .second, .unset, .unset] [(.long vb), (.long q2)])) rfl (by rw [hml]; rfl) (argsL := [(.long q2), (.long vb)]) (rest := []) (lenOf pd_0_6 rfl) rfl (by show 2 * 0 + _ ≤ _; exact Nat.le_of_eq rfl) (hb hby at_104) (fun _ _ => ⟨rfl, rfl, (by decide : 2 + 0 ≤ _), (by decide : 6 + 0 ≤ _)⟩)
  dsimp only [Pt.U, Pt.locs, Pt.cells, Pt.slots] at X10 l10 y10 z10 st10 hQ10
  subst l10 y10 z10
  obtain ⟨hv10, N10q, e10q⟩ := hQ10
  have N10 := Fr.app N9 N10q
  rw [← hm] at hv10
  subst hv10
  have z10q : n0 ≤ T10.heap.size := by rw [e10q]; exact z9q
  have E10q := E9q
  rw [← e10q] at E10q
  have Fv10q := Fv9q
  rw [← e10q] at Fv10q
  have Fm10q := Fm9q
  rw [← e10q] at Fm10q
  have Fa10q := Fa9q
  rw [← e10q] at Fa10q
  have V10q := V9q
  rw [← e10q] at V10q
  obtain ⟨cq11, kq11, q11a, q11b, q11c⟩ := isOf hZ rfl E10q
  obtain ⟨_, _, ⟨T11, L11, k11, n11⟩, -, X11, ⟨Lc11, hQ11, l11, y11, z11⟩, st11⟩ := X10.virtualBack hx (y := (⟨"com/example/mullion/mullion/aggregators/FurthestBack", "findSmallest", "()J"⟩ : MethodName)) (z := (⟨"com/example/mullion/mullion/aggregators/FurthestBack", "findSmallest", "()J"⟩ : MethodName)) hown (mvT hZ (hw _ (List.mem_of_getElem? (i := 32) rfl))) (mvT hZ (hw _ (List.mem_of_getElem? (i := 33) rfl))) (notFace_of_selects (args := #[]) (mvT hZ (hw _ (List.mem_of_getElem? (i := 35) rfl)))) (mvT hZ (hw _ (List.mem_of_getElem? (i := 35) rfl))) (mvT hZ (hw _ (List.mem_of_getElem? (i := 34) rfl))) (by decide) (backOf (W := 0) (rm6 l Z a0 hw [] b6 t 2 (fun j => if j = 1 then vb else if j = 0 then q2 else (-9223372036854775808 : Int64)) _ _ T10.heap n0 z10q (by decide) E10q Fv10q Fm10q Fa10q V10q hne g_b6) hZ (hw _ (List.mem_of_getElem? (i := 36) rfl)) (hw _ (List.mem_of_getElem? (i := 3) rfl)) (by decide) (by decide)) q11a q11c (g := (mkF m 126 #[.val (.int p1), .val (.long q2), .second, .val (.long q3), .second, .val (.long q4), .second, .val (.int (2 : Int32)), .val (.long vb), .second, .val (.long vc), .second, .val (.ref b6), .val (.long mm), .second, .unset, .unset] [(.ref b6)])) rfl (by rw [hml]; rfl) (Steps.refl _) (argsL := []) (rest := []) (lenOf pd_0_4 rfl) rfl (by show 2 * 0 + _ ≤ _; exact Nat.le_of_eq rfl) (hb hby at_126) (fun _ _ => ⟨rfl, rfl, (by decide : 2 + 0 ≤ _), (by decide : 6 + 0 ≤ _)⟩)
  dsimp only [Pt.U, Pt.locs, Pt.cells, Pt.slots] at X11 l11 y11 z11 st11 hQ11
  subst l11 y11 z11
  obtain ⟨hv11, N11q, K11q, E11q, Fv11q, Fm11q, Fa11q, V11q⟩ := hQ11
  have N11 := Fr.app N10 N11q
  have z11q : n0 ≤ T11.heap.size := Nat.le_trans z10q K11q.1
  have hfs : own_fs (fun j => if j = 1 then vb else if j = 0 then q2 else (-9223372036854775808 : Int64)) 2 0 ((9223372036854775807 : Int64), (0 : Int32)) = (mm, (own_is q2 mm + own_is vb mm)) := by show own_step (own_step ((9223372036854775807 : Int64), 0) q2) vb = _; rw [own_first, hm]; exact own_second q2 vb
  rw [hfs] at hv11
  replace hv11 : _ = some (Value.long mm) := hv11
  subst hv11
  have Gm11q : Fld Z T11.heap b6 "com/example/mullion/mullion/aggregators/FurthestBack" "mark" "J" (.long mm) := by have q := Fm11q; rw [hfs] at q; exact q
  have Ga11q : Fld Z T11.heap b6 "com/example/mullion/mullion/aggregators/FurthestBack" "atOrBelowMark" "I" (.int (own_is q2 mm + own_is vb mm)) := by have q := Fa11q; rw [hfs] at q; exact q
  obtain ⟨cq12, kq12, q12a, q12b, q12c⟩ := isOf hZ rfl E11q
  obtain ⟨_, _, ⟨T12, L12, k12, n12⟩, -, X12, ⟨Lc12, hQ12, l12, y12, z12⟩, st12⟩ := X11.virtualBack hx (y := (⟨"com/example/mullion/mullion/aggregators/FurthestBack", "mark", "()J"⟩ : MethodName)) (z := (⟨"com/example/mullion/mullion/aggregators/FurthestBack", "mark", "()J"⟩ : MethodName)) hown (mvT hZ (hw _ (List.mem_of_getElem? (i := 38) rfl))) (mvT hZ (hw _ (List.mem_of_getElem? (i := 39) rfl))) (notFace_of_selects (args := #[]) (mvT hZ (hw _ (List.mem_of_getElem? (i := 41) rfl)))) (mvT hZ (hw _ (List.mem_of_getElem? (i := 41) rfl))) (mvT hZ (hw _ (List.mem_of_getElem? (i := 40) rfl))) (by decide) (backOf (W := 0) (rm7 l Z a0 hw [] b6 mm T11.heap n0 z11q Gm11q) hZ (hw _ (List.mem_of_getElem? (i := 42) rfl)) (hw _ (List.mem_of_getElem? (i := 3) rfl)) (by decide) (by decide)) q12a q12c (g := (mkF m 143 #[.val (.int p1), .val (.long q2), .second, .val (.long q3), .second, .val (.long q4), .second, .val (.int (2 : Int32)), .val (.long vb), .second, .val (.long vc), .second, .val (.ref b6), .val (.long mm), .second, .val (.long mm), .second] [(.ref b6)])) rfl (by rw [hml]; rfl) (Steps.refl _) (argsL := []) (rest := []) (lenOf pd_0_4 rfl) rfl (by show 2 * 0 + _ ≤ _; exact Nat.le_of_eq rfl) (hb hby at_143) (fun _ _ => ⟨rfl, rfl, (by decide : 2 + 0 ≤ _), (by decide : 6 + 0 ≤ _)⟩)
  dsimp only [Pt.U, Pt.locs, Pt.cells, Pt.slots] at X12 l12 y12 z12 st12 hQ12
  subst l12 y12 z12
  obtain ⟨rfl, N12q, e12q⟩ := hQ12
  have N12 := Fr.app N11 N12q
  have z12q : n0 ≤ T12.heap.size := by rw [e12q]; exact z11q
  have E12q := E11q
  rw [← e12q] at E12q
  have Fv12q := Fv11q
  rw [← e12q] at Fv12q
  have Fm12q := Gm11q
  rw [← e12q] at Fm12q
  have Fa12q := Ga11q
  rw [← e12q] at Fa12q
  have V12q := V11q
  rw [← e12q] at V12q
  obtain ⟨cq13, kq13, q13a, q13b, q13c⟩ := isOf hZ rfl E12q
  obtain ⟨_, _, ⟨T13, L13, k13, n13⟩, -, X13, ⟨Lc13, hQ13, l13, y13, z13⟩, st13⟩ := X12.virtualBack hx (y := (⟨"com/example/mullion/mullion/aggregators/FurthestBack", "moveOn", "(IJ)V"⟩ : MethodName)) (z := (⟨"com/example/mullion/mullion/aggregators/FurthestBack", "moveOn", "(IJ)V"⟩ : MethodName)) hown (mvT hZ (hw _ (List.mem_of_getElem? (i := 27) rfl))) (mvT hZ (hw _ (List.mem_of_getElem? (i := 28) rfl))) (notFace_of_selects (args := #[]) (mvT hZ (hw _ (List.mem_of_getElem? (i := 30) rfl)))) (mvT hZ (hw _ (List.mem_of_getElem? (i := 30) rfl))) (mvT hZ (hw _ (List.mem_of_getElem? (i := 29) rfl))) (by decide) (backOf (W := 0) (rm5 l Z a0 hw [] b6 (0 : Int32) (9223372036854775807 : Int64) t 2 _ 0 _ _ T12.heap n0 z12q rfl (by decide) (by decide) E12q Fv12q Fm12q Fa12q V12q hne g_b6 g_t) hZ (hw _ (List.mem_of_getElem? (i := 31) rfl)) (hw _ (List.mem_of_getElem? (i := 3) rfl)) (by decide) (by decide)) q13a q13c (g := (mkF m 190 #[.val (.int p1), .val (.long q2), .second, .val (.long q3), .second, .val (.long q4), .second, .val (.int (2 : Int32)), .val (.long vb), .second, .val (.long vc), .second, .val (.ref b6), .val (.long mm), .second, .val (.long mm), .second] [(.long (9223372036854775807 : Int64)), (.int (0 : Int32)), (.ref b6)])) rfl (by rw [hml]; rfl) (Steps.refl _) (argsL := [(.int (0 : Int32)), (.long (9223372036854775807 : Int64))]) (rest := []) (lenOf pd_0_0 rfl) rfl (by show 2 * 0 + _ ≤ _; exact Nat.le_of_eq rfl) (hb hby at_190) (fun _ _ => ⟨rfl, rfl, (by decide : 2 + 0 ≤ _), (by decide : 6 + 0 ≤ _)⟩)
  dsimp only [Pt.U, Pt.locs, Pt.cells, Pt.slots] at X13 l13 y13 z13 st13 hQ13
  subst l13 y13 z13
  obtain ⟨rfl, N13q, K13q, E13q, Fv13q, Fm13q, Fa13q, V13q⟩ := hQ13
  have N13 := Fr.app N12 N13q
  have z13q : n0 ≤ T13.heap.size := Nat.le_trans z12q K13q.1
  have Fb13q : Fld Z T13.heap b6 "com/example/mullion/mullion/aggregators/FurthestBack" "atOrBelowMark" "I" (.int ((own_is q2 mm + own_is vb mm) - (1 : Int32))) := by
    have q : Fld Z T13.heap b6 "com/example/mullion/mullion/aggregators/FurthestBack" "atOrBelowMark" "I" (.int (own_mv q2 (9223372036854775807 : Int64) mm (own_is q2 mm + own_is vb mm))) := Fa13q
    rw [own_mv_dec (x := q2) (m := mm) h181 h160] at q
    exact q
  obtain ⟨cq14, kq14, q14a, q14b, q14c⟩ := isOf hZ rfl E13q
  obtain ⟨_, _, ⟨T14, L14, k14, n14⟩, -, X14, ⟨Lc14, hQ14, l14, y14, z14⟩, st14⟩ := X13.virtualBack hx (y := (⟨"com/example/mullion/mullion/aggregators/FurthestBack", "moveOn", "(IJ)V"⟩ : MethodName)) (z := (⟨"com/example/mullion/mullion/aggregators/FurthestBack", "moveOn", "(IJ)V"⟩ : MethodName)) hown (mvT hZ (hw _ (List.mem_of_getElem? (i := 27) rfl))) (mvT hZ (hw _ (List.mem_of_getElem? (i := 28) rfl))) (notFace_of_selects (args := #[]) (mvT hZ (hw _ (List.mem_of_getElem? (i := 30) rfl)))) (mvT hZ (hw _ (List.mem_of_getElem? (i := 30) rfl))) (mvT hZ (hw _ (List.mem_of_getElem? (i := 29) rfl))) (by decide) (backOf (W := 0) (rm5 l Z a0 hw [] b6 (1 : Int32) (9223372036854775807 : Int64) t 2 _ 1 _ _ T13.heap n0 z13q rfl (by decide) (by decide) E13q Fv13q Fm13q Fb13q V13q hne g_b6 g_t) hZ (hw _ (List.mem_of_getElem? (i := 31) rfl)) (hw _ (List.mem_of_getElem? (i := 3) rfl)) (by decide) (by decide)) q14a q14c (g := (mkF m 213 #[.val (.int p1), .val (.long q2), .second, .val (.long q3), .second, .val (.long q4), .second, .val (.int (2 : Int32)), .val (.long vb), .second, .val (.long vc), .second, .val (.ref b6), .val (.long mm), .second, .val (.long mm), .second] [(.long (9223372036854775807 : Int64)), (.int (1 : Int32)), (.ref b6)])) rfl (by rw [hml]; rfl) (Steps.refl _) (argsL := [(.int (1 : Int32)), (.long (9223372036854775807 : Int64))]) (rest := []) (lenOf pd_0_0 rfl) rfl (by show 2 * 0 + _ ≤ _; exact Nat.le_of_eq rfl) (hb hby at_213) (fun _ _ => ⟨rfl, rfl, (by decide : 2 + 0 ≤ _), (by decide : 6 + 0 ≤ _)⟩)
  dsimp only [Pt.U, Pt.locs, Pt.cells, Pt.slots] at X14 l14 y14 z14 st14 hQ14
  subst l14 y14 z14
  obtain ⟨rfl, N14q, K14q, E14q, Fv14q, Fm14q, Fa14q, V14q⟩ := hQ14
  have N14 := Fr.app N13 N14q
  have z14q : n0 ≤ T14.heap.size := Nat.le_trans z13q K14q.1
  have Fb14q : Fld Z T14.heap b6 "com/example/mullion/mullion/aggregators/FurthestBack" "atOrBelowMark" "I" (.int (((own_is q2 mm + own_is vb mm) - (1 : Int32)) - (1 : Int32))) := by
    have q : Fld Z T14.heap b6 "com/example/mullion/mullion/aggregators/FurthestBack" "atOrBelowMark" "I" (.int (own_mv vb (9223372036854775807 : Int64) mm ((own_is q2 mm + own_is vb mm) - (1 : Int32)))) := Fa14q
    rw [own_mv_dec (x := vb) (m := mm) h204 h160] at q
    exact q
  obtain ⟨cq15, kq15, q15a, q15b, q15c⟩ := isOf hZ rfl E14q
  obtain ⟨_, _, ⟨T15, L15, k15, n15⟩, -, X15, ⟨Lc15, hQ15, l15, y15, z15⟩, st15⟩ := X14.virtualBack hx (y := (⟨"com/example/mullion/mullion/aggregators/FurthestBack", "allMovedOn", "()Z"⟩ : MethodName)) (z := (⟨"com/example/mullion/mullion/aggregators/FurthestBack", "allMovedOn", "()Z"⟩ : MethodName)) hown (mvT hZ (hw _ (List.mem_of_getElem? (i := 44) rfl))) (mvT hZ (hw _ (List.mem_of_getElem? (i := 45) rfl))) (notFace_of_selects (args := #[]) (mvT hZ (hw _ (List.mem_of_getElem? (i := 47) rfl)))) (mvT hZ (hw _ (List.mem_of_getElem? (i := 47) rfl))) (mvT hZ (hw _ (List.mem_of_getElem? (i := 46) rfl))) (by decide) (backOf (W := 0) (rm8_f l Z a0 hw [] b6 (((own_is q2 mm + own_is vb mm) - (1 : Int32)) - (1 : Int32)) T14.heap n0 z14q Fb14q (by unfold own_is; rw [if_pos h181, if_pos h204]; decide)) hZ (hw _ (List.mem_of_getElem? (i := 48) rfl)) (hw _ (List.mem_of_getElem? (i := 3) rfl)) (by decide) (by decide)) q15a q15c (g := (mkF m 241 #[.val (.int p1), .val (.long q2), .second, .val (.long q3), .second, .val (.long q4), .second, .val (.int (2 : Int32)), .val (.long vb), .second, .val (.long vc), .second, .val (.ref b6), .val (.long mm), .second, .val (.long mm), .second] [(.ref b6)])) rfl (by rw [hml]; rfl) (Steps.refl _) (argsL := []) (rest := []) (lenOf pd_0_5 rfl) rfl (by show 2 * 0 + _ ≤ _; exact Nat.le_of_eq rfl) (hb hby at_241) (fun _ _ => ⟨rfl, rfl, (by decide : 2 + 0 ≤ _), (by decide : 6 + 0 ≤ _)⟩)
  dsimp only [Pt.U, Pt.locs, Pt.cells, Pt.slots] at X15 l15 y15 z15 st15 hQ15
  subst l15 y15 z15
  obtain ⟨rfl, N15q, e15q⟩ := hQ15
  have N15 := Fr.app N14 N15q
  have z15q : n0 ≤ T15.heap.size := by rw [e15q]; exact z14q
  have E15q := E14q
  rw [← e15q] at E15q
  have Fv15q := Fv14q
  rw [← e15q] at Fv15q
  have Fm15q := Fm14q
  rw [← e15q] at Fm15q
  have Fa15q := Fb14q
  rw [← e15q] at Fa15q
  have V15q := V14q
  rw [← e15q] at V15q
  obtain ⟨fs, hr, hrun, hended, hW, hsame⟩ := X15.leave (v := some (.int (1 : Int32))) (fun h => by rw [Bd.returns] at h; cases h)
  refine ⟨_, _, pre0 _ ?_, hrun, hended, _, _, rfl, ?_, ⟨_, rfl⟩, hW, hsame.mono (by decide) (by decide)⟩
  · show Steps p.tables e below (s₁.setTop (mkF m 0 #[.val (.int p1), .val (.long q2), .second, .val (.long q3), .second, .val (.long q4), .second, .unset, .unset, .unset, .unset, .unset, .unset, .unset, .unset, .unset, .unset] [])) _
    refine st5 _ ?_
    show Steps p.tables e below (T5.setTop (mkF m 42 #[.val (.int p1), .val (.long q2), .second, .val (.long q3), .second, .val (.long q4), .second, .val (.int (2 : Int32)), .val (.long vb), .second, .val (.long vc), .second, .unset, .unset, .unset, .unset, .unset] [])) _
    refine st6 _ ?_
    show Steps p.tables e below (T6.setTop (mkF m 45 #[.val (.int p1), .val (.long q2), .second, .val (.long q3), .second, .val (.long q4), .second, .val (.int (2 : Int32)), .val (.long vb), .second, .val (.long vc), .second, .unset, .unset, .unset, .unset, .unset] [(.ref b6)])) _
    refine XS.dup X6.here hx rfl (hb hby at_45) rfl rfl ?_
    show Steps p.tables e below (T6.setTop (mkF m 46 #[.val (.int p1), .val (.long q2), .second, .val (.long q3), .second, .val (.long q4), .second, .val (.int (2 : Int32)), .val (.long vb), .second, .val (.long vc), .second, .unset, .unset, .unset, .unset, .unset] [(.ref b6), (.ref b6)])) _
    refine XS.iload X6.here hx rfl (hb hby at_46) rfl ?_
    show Steps p.tables e below (T6.setTop (mkF m 48 #[.val (.int p1), .val (.long q2), .second, .val (.long q3), .second, .val (.long q4), .second, .val (.int (2 : Int32)), .val (.long vb), .second, .val (.long vc), .second, .unset, .unset, .unset, .unset, .unset] [(.int (2 : Int32)), (.ref b6), (.ref b6)])) _
    refine X6.ldc2Long hx hown (mvT hZ (hw _ (List.mem_of_getElem? (i := 4) rfl))) (g := (mkF m 48 #[.val (.int p1), .val (.long q2), .second, .val (.long q3), .second, .val (.long q4), .second, .val (.int (2 : Int32)), .val (.long vb), .second, .val (.long vc), .second, .unset, .unset, .unset, .unset, .unset] [(.int (2 : Int32)), (.ref b6), (.ref b6)])) rfl (hb hby at_48) _ ?_
    show Steps p.tables e below (T6.setTop (mkF m 51 #[.val (.int p1), .val (.long q2), .second, .val (.long q3), .second, .val (.long q4), .second, .val (.int (2 : Int32)), .val (.long vb), .second, .val (.long vc), .second, .unset, .unset, .unset, .unset, .unset] [(.long (-9223372036854775808 : Int64)), (.int (2 : Int32)), (.ref b6), (.ref b6)])) _
    refine st7.trans ?_
    show Steps p.tables e below (T7.setTop (mkF m 54 #[.val (.int p1), .val (.long q2), .second, .val (.long q3), .second, .val (.long q4), .second, .val (.int (2 : Int32)), .val (.long vb), .second, .val (.long vc), .second, .unset, .unset, .unset, .unset, .unset] [(.ref b6)])) _
    refine XS.astore X7.here hx rfl (hb hby at_54) rfl rfl (l' := #[.val (.int p1), .val (.long q2), .second, .val (.long q3), .second, .val (.long q4), .second, .val (.int (2 : Int32)), .val (.long vb), .second, .val (.long vc), .second, .val (.ref b6), .unset, .unset, .unset, .unset]) rfl ?_
    show Steps p.tables e below (T7.setTop (mkF m 56 #[.val (.int p1), .val (.long q2), .second, .val (.long q3), .second, .val (.long q4), .second, .val (.int (2 : Int32)), .val (.long vb), .second, .val (.long vc), .second, .val (.ref b6), .unset, .unset, .unset, .unset] [])) _
    refine XS.aload X7.here hx rfl (hb hby at_56) rfl rfl ?_
    show Steps p.tables e below (T7.setTop (mkF m 58 #[.val (.int p1), .val (.long q2), .second, .val (.long q3), .second, .val (.long q4), .second, .val (.int (2 : Int32)), .val (.long vb), .second, .val (.long vc), .second, .val (.ref b6), .unset, .unset, .unset, .unset] [(.ref b6)])) _
    refine XS.iconst X7.here hx rfl (hb hby at_58) ?_
    show Steps p.tables e below (T7.setTop (mkF m 59 #[.val (.int p1), .val (.long q2), .second, .val (.long q3), .second, .val (.long q4), .second, .val (.int (2 : Int32)), .val (.long vb), .second, .val (.long vc), .second, .val (.ref b6), .unset, .unset, .unset, .unset] [(.int (0 : Int32)), (.ref b6)])) _
    refine XS.lloadN X7.here hx rfl (hb hby at_59) rfl ?_
    show Steps p.tables e below (T7.setTop (mkF m 60 #[.val (.int p1), .val (.long q2), .second, .val (.long q3), .second, .val (.long q4), .second, .val (.int (2 : Int32)), .val (.long vb), .second, .val (.long vc), .second, .val (.ref b6), .unset, .unset, .unset, .unset] [(.long q2), (.int (0 : Int32)), (.ref b6)])) _
    refine st8.trans ?_
    show Steps p.tables e below (T8.setTop (mkF m 63 #[.val (.int p1), .val (.long q2), .second, .val (.long q3), .second, .val (.long q4), .second, .val (.int (2 : Int32)), .val (.long vb), .second, .val (.long vc), .second, .val (.ref b6), .unset, .unset, .unset, .unset] [])) _
    refine XS.iload X8.here hx rfl (hb hby at_63) rfl ?_
    show Steps p.tables e below (T8.setTop (mkF m 65 #[.val (.int p1), .val (.long q2), .second, .val (.long q3), .second, .val (.long q4), .second, .val (.int (2 : Int32)), .val (.long vb), .second, .val (.long vc), .second, .val (.ref b6), .unset, .unset, .unset, .unset] [(.int (2 : Int32))])) _
    refine XS.iconst X8.here hx rfl (hb hby at_65) ?_
    show Steps p.tables e below (T8.setTop (mkF m 66 #[.val (.int p1), .val (.long q2), .second, .val (.long q3), .second, .val (.long q4), .second, .val (.int (2 : Int32)), .val (.long vb), .second, .val (.long vc), .second, .val (.ref b6), .unset, .unset, .unset, .unset] [(.int (2 : Int32)), (.int (2 : Int32))])) _
    refine XS.icmpNo X8.here hx rfl (hb hby at_66) rfl (flt hc66).1 ?_
    show Steps p.tables e below (T8.setTop (mkF m 69 #[.val (.int p1), .val (.long q2), .second, .val (.long q3), .second, .val (.long q4), .second, .val (.int (2 : Int32)), .val (.long vb), .second, .val (.long vc), .second, .val (.ref b6), .unset, .unset, .unset, .unset] [])) _
    refine XS.aload X8.here hx rfl (hb hby at_69) rfl rfl ?_
    show Steps p.tables e below (T8.setTop (mkF m 71 #[.val (.int p1), .val (.long q2), .second, .val (.long q3), .second, .val (.long q4), .second, .val (.int (2 : Int32)), .val (.long vb), .second, .val (.long vc), .second, .val (.ref b6), .unset, .unset, .unset, .unset] [(.ref b6)])) _
    refine XS.iconst X8.here hx rfl (hb hby at_71) ?_
    show Steps p.tables e below (T8.setTop (mkF m 72 #[.val (.int p1), .val (.long q2), .second, .val (.long q3), .second, .val (.long q4), .second, .val (.int (2 : Int32)), .val (.long vb), .second, .val (.long vc), .second, .val (.ref b6), .unset, .unset, .unset, .unset] [(.int (1 : Int32)), (.ref b6)])) _
    refine XS.lload X8.here hx rfl (hb hby at_72) rfl ?_
    show Steps p.tables e below (T8.setTop (mkF m 74 #[.val (.int p1), .val (.long q2), .second, .val (.long q3), .second, .val (.long q4), .second, .val (.int (2 : Int32)), .val (.long vb), .second, .val (.long vc), .second, .val (.ref b6), .unset, .unset, .unset, .unset] [(.long vb), (.int (1 : Int32)), (.ref b6)])) _
    refine st9.trans ?_
    show Steps p.tables e below (T9.setTop (mkF m 77 #[.val (.int p1), .val (.long q2), .second, .val (.long q3), .second, .val (.long q4), .second, .val (.int (2 : Int32)), .val (.long vb), .second, .val (.long vc), .second, .val (.ref b6), .unset, .unset, .unset, .unset] [])) _
    refine XS.iload X9.here hx rfl (hb hby at_77) rfl ?_
    show Steps p.tables e below (T9.setTop (mkF m 79 #[.val (.int p1), .val (.long q2), .second, .val (.long q3), .second, .val (.long q4), .second, .val (.int (2 : Int32)), .val (.long vb), .second, .val (.long vc), .second, .val (.ref b6), .unset, .unset, .unset, .unset] [(.int (2 : Int32))])) _
    refine XS.iconst X9.here hx rfl (hb hby at_79) ?_
    show Steps p.tables e below (T9.setTop (mkF m 80 #[.val (.int p1), .val (.long q2), .second, .val (.long q3), .second, .val (.long q4), .second, .val (.int (2 : Int32)), .val (.long vb), .second, .val (.long vc), .second, .val (.ref b6), .unset, .unset, .unset, .unset] [(.int (3 : Int32)), (.int (2 : Int32))])) _
    refine XS.icmpYes X9.here hx rfl (pc0 := 80) (pc' := 91) rfl (hb hby at_80) rfl (tlt hc80).1 (by decide) (by decide) ?_
    show Steps p.tables e below (T9.setTop (mkF m 91 #[.val (.int p1), .val (.long q2), .second, .val (.long q3), .second, .val (.long q4), .second, .val (.int (2 : Int32)), .val (.long vb), .second, .val (.long vc), .second, .val (.ref b6), .unset, .unset, .unset, .unset] [])) _
    refine XS.lloadN X9.here hx rfl (hb hby at_91) rfl ?_
    show Steps p.tables e below (T9.setTop (mkF m 92 #[.val (.int p1), .val (.long q2), .second, .val (.long q3), .second, .val (.long q4), .second, .val (.int (2 : Int32)), .val (.long vb), .second, .val (.long vc), .second, .val (.ref b6), .unset, .unset, .unset, .unset] [(.long q2)])) _
    refine XS.lstore X9.here hx rfl (hb hby at_92) rfl (l' := #[.val (.int p1), .val (.long q2), .second, .val (.long q3), .second, .val (.long q4), .second, .val (.int (2 : Int32)), .val (.long vb), .second, .val (.long vc), .second, .val (.ref b6), .val (.long q2), .second, .unset, .unset]) rfl ?_
    show Steps p.tables e below (T9.setTop (mkF m 94 #[.val (.int p1), .val (.long q2), .second, .val (.long q3), .second, .val (.long q4), .second, .val (.int (2 : Int32)), .val (.long vb), .second, .val (.long vc), .second, .val (.ref b6), .val (.long q2), .second, .unset, .unset] [])) _
    refine XS.iload X9.here hx rfl (hb hby at_94) rfl ?_
    show Steps p.tables e below (T9.setTop (mkF m 96 #[.val (.int p1), .val (.long q2), .second, .val (.long q3), .second, .val (.long q4), .second, .val (.int (2 : Int32)), .val (.long vb), .second, .val (.long vc), .second, .val (.ref b6), .val (.long q2), .second, .unset, .unset] [(.int (2 : Int32))])) _
    refine XS.iconst X9.here hx rfl (hb hby at_96) ?_
    show Steps p.tables e below (T9.setTop (mkF m 97 #[.val (.int p1), .val (.long q2), .second, .val (.long q3), .second, .val (.long q4), .second, .val (.int (2 : Int32)), .val (.long vb), .second, .val (.long vc), .second, .val (.ref b6), .val (.long q2), .second, .unset, .unset] [(.int (2 : Int32)), (.int (2 : Int32))])) _
    refine XS.icmpNo X9.here hx rfl (hb hby at_97) rfl (flt hc97).1 ?_
    show Steps p.tables e below (T9.setTop (mkF m 100 #[.val (.int p1), .val (.long q2), .second, .val (.long q3), .second, .val (.long q4), .second, .val (.int (2 : Int32)), .val (.long vb), .second, .val (.long vc), .second, .val (.ref b6), .val (.long q2), .second, .unset, .unset] [])) _
    refine XS.lload X9.here hx rfl (hb hby at_100) rfl ?_
    show Steps p.tables e below (T9.setTop (mkF m 102 #[.val (.int p1), .val (.long q2), .second, .val (.long q3), .second, .val (.long q4), .second, .val (.int (2 : Int32)), .val (.long vb), .second, .val (.long vc), .second, .val (.ref b6), .val (.long q2), .second, .unset, .unset] [(.long q2)])) _
    refine XS.lload X9.here hx rfl (hb hby at_102) rfl ?_
    show Steps p.tables e below (T9.setTop (mkF m 104 #[.val (.int p1), .val (.long q2), .second, .val (.long q3), .second, .val (.long q4), .second, .val (.int (2 : Int32)), .val (.long vb), .second, .val (.long vc), .second, .val (.ref b6), .val (.long q2), .second, .unset, .unset] [(.long vb), (.long q2)])) _
    refine st10 _ ?_
    show Steps p.tables e below (T10.setTop (mkF m 107 #[.val (.int p1), .val (.long q2), .second, .val (.long q3), .second, .val (.long q4), .second, .val (.int (2 : Int32)), .val (.long vb), .second, .val (.long vc), .second, .val (.ref b6), .val (.long q2), .second, .unset, .unset] [(.long mm)])) _
    refine XS.lstore X10.here hx rfl (hb hby at_107) rfl (l' := #[.val (.int p1), .val (.long q2), .second, .val (.long q3), .second, .val (.long q4), .second, .val (.int (2 : Int32)), .val (.long vb), .second, .val (.long vc), .second, .val (.ref b6), .val (.long mm), .second, .unset, .unset]) rfl ?_
    show Steps p.tables e below (T10.setTop (mkF m 109 #[.val (.int p1), .val (.long q2), .second, .val (.long q3), .second, .val (.long q4), .second, .val (.int (2 : Int32)), .val (.long vb), .second, .val (.long vc), .second, .val (.ref b6), .val (.long mm), .second, .unset, .unset] [])) _
    refine XS.iload X10.here hx rfl (hb hby at_109) rfl ?_
    show Steps p.tables e below (T10.setTop (mkF m 111 #[.val (.int p1), .val (.long q2), .second, .val (.long q3), .second, .val (.long q4), .second, .val (.int (2 : Int32)), .val (.long vb), .second, .val (.long vc), .second, .val (.ref b6), .val (.long mm), .second, .unset, .unset] [(.int (2 : Int32))])) _
    refine XS.iconst X10.here hx rfl (hb hby at_111) ?_
    show Steps p.tables e below (T10.setTop (mkF m 112 #[.val (.int p1), .val (.long q2), .second, .val (.long q3), .second, .val (.long q4), .second, .val (.int (2 : Int32)), .val (.long vb), .second, .val (.long vc), .second, .val (.ref b6), .val (.long mm), .second, .unset, .unset] [(.int (3 : Int32)), (.int (2 : Int32))])) _
    refine XS.icmpYes X10.here hx rfl (pc0 := 112) (pc' := 124) rfl (hb hby at_112) rfl (tlt hc112).1 (by decide) (by decide) ?_
    show Steps p.tables e below (T10.setTop (mkF m 124 #[.val (.int p1), .val (.long q2), .second, .val (.long q3), .second, .val (.long q4), .second, .val (.int (2 : Int32)), .val (.long vb), .second, .val (.long vc), .second, .val (.ref b6), .val (.long mm), .second, .unset, .unset] [])) _
    refine XS.aload X10.here hx rfl (hb hby at_124) rfl rfl ?_
    show Steps p.tables e below (T10.setTop (mkF m 126 #[.val (.int p1), .val (.long q2), .second, .val (.long q3), .second, .val (.long q4), .second, .val (.int (2 : Int32)), .val (.long vb), .second, .val (.long vc), .second, .val (.ref b6), .val (.long mm), .second, .unset, .unset] [(.ref b6)])) _
    refine st11.trans ?_
    show Steps p.tables e below (T11.setTop (mkF m 129 #[.val (.int p1), .val (.long q2), .second, .val (.long q3), .second, .val (.long q4), .second, .val (.int (2 : Int32)), .val (.long vb), .second, .val (.long vc), .second, .val (.ref b6), .val (.long mm), .second, .unset, .unset] [(.long mm)])) _
    refine XS.lstore X11.here hx rfl (hb hby at_129) rfl (l' := #[.val (.int p1), .val (.long q2), .second, .val (.long q3), .second, .val (.long q4), .second, .val (.int (2 : Int32)), .val (.long vb), .second, .val (.long vc), .second, .val (.ref b6), .val (.long mm), .second, .val (.long mm), .second]) rfl ?_
    show Steps p.tables e below (T11.setTop (mkF m 131 #[.val (.int p1), .val (.long q2), .second, .val (.long q3), .second, .val (.long q4), .second, .val (.int (2 : Int32)), .val (.long vb), .second, .val (.long vc), .second, .val (.ref b6), .val (.long mm), .second, .val (.long mm), .second] [])) _
    refine XS.lload X11.here hx rfl (hb hby at_131) rfl ?_
    show Steps p.tables e below (T11.setTop (mkF m 133 #[.val (.int p1), .val (.long q2), .second, .val (.long q3), .second, .val (.long q4), .second, .val (.int (2 : Int32)), .val (.long vb), .second, .val (.long vc), .second, .val (.ref b6), .val (.long mm), .second, .val (.long mm), .second] [(.long mm)])) _
    refine XS.lload X11.here hx rfl (hb hby at_133) rfl ?_
    show Steps p.tables e below (T11.setTop (mkF m 135 #[.val (.int p1), .val (.long q2), .second, .val (.long q3), .second, .val (.long q4), .second, .val (.int (2 : Int32)), .val (.long vb), .second, .val (.long vc), .second, .val (.ref b6), .val (.long mm), .second, .val (.long mm), .second] [(.long mm), (.long mm)])) _
    refine XS.lcmp X11.here hx rfl (hb hby at_135) rfl ?_
    show Steps p.tables e below (T11.setTop (mkF m 136 #[.val (.int p1), .val (.long q2), .second, .val (.long q3), .second, .val (.long q4), .second, .val (.int (2 : Int32)), .val (.long vb), .second, .val (.long vc), .second, .val (.ref b6), .val (.long mm), .second, .val (.long mm), .second] [(.int (lcmpW mm mm))])) _
    refine XS.ifYes X11.here hx rfl (pc0 := 136) (pc' := 141) rfl (hb hby at_136) rfl ((if0 _ _).trans (teq (((lw_eq _ _).mpr rfl) : (lcmpW mm mm) = (0 : Int32))).1) (by decide) (by decide) ?_
    show Steps p.tables e below (T11.setTop (mkF m 141 #[.val (.int p1), .val (.long q2), .second, .val (.long q3), .second, .val (.long q4), .second, .val (.int (2 : Int32)), .val (.long vb), .second, .val (.long vc), .second, .val (.ref b6), .val (.long mm), .second, .val (.long mm), .second] [])) _
    refine XS.aload X11.here hx rfl (hb hby at_141) rfl rfl ?_
    show Steps p.tables e below (T11.setTop (mkF m 143 #[.val (.int p1), .val (.long q2), .second, .val (.long q3), .second, .val (.long q4), .second, .val (.int (2 : Int32)), .val (.long vb), .second, .val (.long vc), .second, .val (.ref b6), .val (.long mm), .second, .val (.long mm), .second] [(.ref b6)])) _
    refine st12.trans ?_
    show Steps p.tables e below (T12.setTop (mkF m 146 #[.val (.int p1), .val (.long q2), .second, .val (.long q3), .second, .val (.long q4), .second, .val (.int (2 : Int32)), .val (.long vb), .second, .val (.long vc), .second, .val (.ref b6), .val (.long mm), .second, .val (.long mm), .second] [(.long mm)])) _
    refine XS.lload X12.here hx rfl (hb hby at_146) rfl ?_
    show Steps p.tables e below (T12.setTop (mkF m 148 #[.val (.int p1), .val (.long q2), .second, .val (.long q3), .second, .val (.long q4), .second, .val (.int (2 : Int32)), .val (.long vb), .second, .val (.long vc), .second, .val (.ref b6), .val (.long mm), .second, .val (.long mm), .second] [(.long mm), (.long mm)])) _
    refine XS.lcmp X12.here hx rfl (hb hby at_148) rfl ?_
    show Steps p.tables e below (T12.setTop (mkF m 149 #[.val (.int p1), .val (.long q2), .second, .val (.long q3), .second, .val (.long q4), .second, .val (.int (2 : Int32)), .val (.long vb), .second, .val (.long vc), .second, .val (.ref b6), .val (.long mm), .second, .val (.long mm), .second] [(.int (lcmpW mm mm))])) _
    refine XS.ifYes X12.here hx rfl (pc0 := 149) (pc' := 154) rfl (hb hby at_149) rfl ((if0 _ _).trans (teq (((lw_eq _ _).mpr rfl) : (lcmpW mm mm) = (0 : Int32))).1) (by decide) (by decide) ?_
    show Steps p.tables e below (T12.setTop (mkF m 154 #[.val (.int p1), .val (.long q2), .second, .val (.long q3), .second, .val (.long q4), .second, .val (.int (2 : Int32)), .val (.long vb), .second, .val (.long vc), .second, .val (.ref b6), .val (.long mm), .second, .val (.long mm), .second] [])) _
    refine XS.lload X12.here hx rfl (hb hby at_154) rfl ?_
    show Steps p.tables e below (T12.setTop (mkF m 156 #[.val (.int p1), .val (.long q2), .second, .val (.long q3), .second, .val (.long q4), .second, .val (.int (2 : Int32)), .val (.long vb), .second, .val (.long vc), .second, .val (.ref b6), .val (.long mm), .second, .val (.long mm), .second] [(.long mm)])) _
    refine X12.ldc2Long hx hown (mvT hZ (hw _ (List.mem_of_getElem? (i := 43) rfl))) (g := (mkF m 156 #[.val (.int p1), .val (.long q2), .second, .val (.long q3), .second, .val (.long q4), .second, .val (.int (2 : Int32)), .val (.long vb), .second, .val (.long vc), .second, .val (.ref b6), .val (.long mm), .second, .val (.long mm), .second] [(.long mm)])) rfl (hb hby at_156) _ ?_
    show Steps p.tables e below (T12.setTop (mkF m 159 #[.val (.int p1), .val (.long q2), .second, .val (.long q3), .second, .val (.long q4), .second, .val (.int (2 : Int32)), .val (.long vb), .second, .val (.long vc), .second, .val (.ref b6), .val (.long mm), .second, .val (.long mm), .second] [(.long (9223372036854775807 : Int64)), (.long mm)])) _
    refine XS.lcmp X12.here hx rfl (hb hby at_159) rfl ?_
    show Steps p.tables e below (T12.setTop (mkF m 160 #[.val (.int p1), .val (.long q2), .second, .val (.long q3), .second, .val (.long q4), .second, .val (.int (2 : Int32)), .val (.long vb), .second, .val (.long vc), .second, .val (.ref b6), .val (.long mm), .second, .val (.long mm), .second] [(.int (lcmpW mm (9223372036854775807 : Int64)))])) _
    refine XS.ifYes X12.here hx rfl (pc0 := 160) (pc' := 177) rfl (hb hby at_160) rfl ((if0 _ _).trans (feq ((fun q => h160 ((lw_eq _ _).mp q)) : ¬ ((lcmpW mm (9223372036854775807 : Int64)) = (0 : Int32)))).2) (by decide) (by decide) ?_
    show Steps p.tables e below (T12.setTop (mkF m 177 #[.val (.int p1), .val (.long q2), .second, .val (.long q3), .second, .val (.long q4), .second, .val (.int (2 : Int32)), .val (.long vb), .second, .val (.long vc), .second, .val (.ref b6), .val (.long mm), .second, .val (.long mm), .second] [])) _
    refine XS.lloadN X12.here hx rfl (hb hby at_177) rfl ?_
    show Steps p.tables e below (T12.setTop (mkF m 178 #[.val (.int p1), .val (.long q2), .second, .val (.long q3), .second, .val (.long q4), .second, .val (.int (2 : Int32)), .val (.long vb), .second, .val (.long vc), .second, .val (.ref b6), .val (.long mm), .second, .val (.long mm), .second] [(.long q2)])) _
    refine XS.lload X12.here hx rfl (hb hby at_178) rfl ?_
    show Steps p.tables e below (T12.setTop (mkF m 180 #[.val (.int p1), .val (.long q2), .second, .val (.long q3), .second, .val (.long q4), .second, .val (.int (2 : Int32)), .val (.long vb), .second, .val (.long vc), .second, .val (.ref b6), .val (.long mm), .second, .val (.long mm), .second] [(.long mm), (.long q2)])) _
    refine XS.lcmp X12.here hx rfl (hb hby at_180) rfl ?_
    show Steps p.tables e below (T12.setTop (mkF m 181 #[.val (.int p1), .val (.long q2), .second, .val (.long q3), .second, .val (.long q4), .second, .val (.int (2 : Int32)), .val (.long vb), .second, .val (.long vc), .second, .val (.ref b6), .val (.long mm), .second, .val (.long mm), .second] [(.int (lcmpW q2 mm))])) _
    refine XS.ifNo X12.here hx rfl (hb hby at_181) rfl ((if0 _ _).trans (teq (((lw_eq _ _).mpr h181) : (lcmpW q2 mm) = (0 : Int32))).2) ?_
    show Steps p.tables e below (T12.setTop (mkF m 184 #[.val (.int p1), .val (.long q2), .second, .val (.long q3), .second, .val (.long q4), .second, .val (.int (2 : Int32)), .val (.long vb), .second, .val (.long vc), .second, .val (.ref b6), .val (.long mm), .second, .val (.long mm), .second] [])) _
    refine XS.aload X12.here hx rfl (hb hby at_184) rfl rfl ?_
    show Steps p.tables e below (T12.setTop (mkF m 186 #[.val (.int p1), .val (.long q2), .second, .val (.long q3), .second, .val (.long q4), .second, .val (.int (2 : Int32)), .val (.long vb), .second, .val (.long vc), .second, .val (.ref b6), .val (.long mm), .second, .val (.long mm), .second] [(.ref b6)])) _
    refine XS.iconst X12.here hx rfl (hb hby at_186) ?_
    show Steps p.tables e below (T12.setTop (mkF m 187 #[.val (.int p1), .val (.long q2), .second, .val (.long q3), .second, .val (.long q4), .second, .val (.int (2 : Int32)), .val (.long vb), .second, .val (.long vc), .second, .val (.ref b6), .val (.long mm), .second, .val (.long mm), .second] [(.int (0 : Int32)), (.ref b6)])) _
    refine X12.ldc2Long hx hown (mvT hZ (hw _ (List.mem_of_getElem? (i := 43) rfl))) (g := (mkF m 187 #[.val (.int p1), .val (.long q2), .second, .val (.long q3), .second, .val (.long q4), .second, .val (.int (2 : Int32)), .val (.long vb), .second, .val (.long vc), .second, .val (.ref b6), .val (.long mm), .second, .val (.long mm), .second] [(.int (0 : Int32)), (.ref b6)])) rfl (hb hby at_187) _ ?_
    show Steps p.tables e below (T12.setTop (mkF m 190 #[.val (.int p1), .val (.long q2), .second, .val (.long q3), .second, .val (.long q4), .second, .val (.int (2 : Int32)), .val (.long vb), .second, .val (.long vc), .second, .val (.ref b6), .val (.long mm), .second, .val (.long mm), .second] [(.long (9223372036854775807 : Int64)), (.int (0 : Int32)), (.ref b6)])) _
    refine st13.trans ?_
    show Steps p.tables e below (T13.setTop (mkF m 193 #[.val (.int p1), .val (.long q2), .second, .val (.long q3), .second, .val (.long q4), .second, .val (.int (2 : Int32)), .val (.long vb), .second, .val (.long vc), .second, .val (.ref b6), .val (.long mm), .second, .val (.long mm), .second] [])) _
    refine XS.iload X13.here hx rfl (hb hby at_193) rfl ?_
    show Steps p.tables e below (T13.setTop (mkF m 195 #[.val (.int p1), .val (.long q2), .second, .val (.long q3), .second, .val (.long q4), .second, .val (.int (2 : Int32)), .val (.long vb), .second, .val (.long vc), .second, .val (.ref b6), .val (.long mm), .second, .val (.long mm), .second] [(.int (2 : Int32))])) _
    refine XS.iconst X13.here hx rfl (hb hby at_195) ?_
    show Steps p.tables e below (T13.setTop (mkF m 196 #[.val (.int p1), .val (.long q2), .second, .val (.long q3), .second, .val (.long q4), .second, .val (.int (2 : Int32)), .val (.long vb), .second, .val (.long vc), .second, .val (.ref b6), .val (.long mm), .second, .val (.long mm), .second] [(.int (2 : Int32)), (.int (2 : Int32))])) _
    refine XS.icmpNo X13.here hx rfl (hb hby at_196) rfl (flt hc196).1 ?_
    show Steps p.tables e below (T13.setTop (mkF m 199 #[.val (.int p1), .val (.long q2), .second, .val (.long q3), .second, .val (.long q4), .second, .val (.int (2 : Int32)), .val (.long vb), .second, .val (.long vc), .second, .val (.ref b6), .val (.long mm), .second, .val (.long mm), .second] [])) _
    refine XS.lload X13.here hx rfl (hb hby at_199) rfl ?_
    show Steps p.tables e below (T13.setTop (mkF m 201 #[.val (.int p1), .val (.long q2), .second, .val (.long q3), .second, .val (.long q4), .second, .val (.int (2 : Int32)), .val (.long vb), .second, .val (.long vc), .second, .val (.ref b6), .val (.long mm), .second, .val (.long mm), .second] [(.long vb)])) _
    refine XS.lload X13.here hx rfl (hb hby at_201) rfl ?_
    show Steps p.tables e below (T13.setTop (mkF m 203 #[.val (.int p1), .val (.long q2), .second, .val (.long q3), .second, .val (.long q4), .second, .val (.int (2 : Int32)), .val (.long vb), .second, .val (.long vc), .second, .val (.ref b6), .val (.long mm), .second, .val (.long mm), .second] [(.long mm), (.long vb)])) _
    refine XS.lcmp X13.here hx rfl (hb hby at_203) rfl ?_
    show Steps p.tables e below (T13.setTop (mkF m 204 #[.val (.int p1), .val (.long q2), .second, .val (.long q3), .second, .val (.long q4), .second, .val (.int (2 : Int32)), .val (.long vb), .second, .val (.long vc), .second, .val (.ref b6), .val (.long mm), .second, .val (.long mm), .second] [(.int (lcmpW vb mm))])) _
    refine XS.ifNo X13.here hx rfl (hb hby at_204) rfl ((if0 _ _).trans (teq (((lw_eq _ _).mpr h204) : (lcmpW vb mm) = (0 : Int32))).2) ?_
    show Steps p.tables e below (T13.setTop (mkF m 207 #[.val (.int p1), .val (.long q2), .second, .val (.long q3), .second, .val (.long q4), .second, .val (.int (2 : Int32)), .val (.long vb), .second, .val (.long vc), .second, .val (.ref b6), .val (.long mm), .second, .val (.long mm), .second] [])) _
    refine XS.aload X13.here hx rfl (hb hby at_207) rfl rfl ?_
    show Steps p.tables e below (T13.setTop (mkF m 209 #[.val (.int p1), .val (.long q2), .second, .val (.long q3), .second, .val (.long q4), .second, .val (.int (2 : Int32)), .val (.long vb), .second, .val (.long vc), .second, .val (.ref b6), .val (.long mm), .second, .val (.long mm), .second] [(.ref b6)])) _
    refine XS.iconst X13.here hx rfl (hb hby at_209) ?_
    show Steps p.tables e below (T13.setTop (mkF m 210 #[.val (.int p1), .val (.long q2), .second, .val (.long q3), .second, .val (.long q4), .second, .val (.int (2 : Int32)), .val (.long vb), .second, .val (.long vc), .second, .val (.ref b6), .val (.long mm), .second, .val (.long mm), .second] [(.int (1 : Int32)), (.ref b6)])) _
    refine X13.ldc2Long hx hown (mvT hZ (hw _ (List.mem_of_getElem? (i := 43) rfl))) (g := (mkF m 210 #[.val (.int p1), .val (.long q2), .second, .val (.long q3), .second, .val (.long q4), .second, .val (.int (2 : Int32)), .val (.long vb), .second, .val (.long vc), .second, .val (.ref b6), .val (.long mm), .second, .val (.long mm), .second] [(.int (1 : Int32)), (.ref b6)])) rfl (hb hby at_210) _ ?_
    show Steps p.tables e below (T13.setTop (mkF m 213 #[.val (.int p1), .val (.long q2), .second, .val (.long q3), .second, .val (.long q4), .second, .val (.int (2 : Int32)), .val (.long vb), .second, .val (.long vc), .second, .val (.ref b6), .val (.long mm), .second, .val (.long mm), .second] [(.long (9223372036854775807 : Int64)), (.int (1 : Int32)), (.ref b6)])) _
    refine st14.trans ?_
    show Steps p.tables e below (T14.setTop (mkF m 216 #[.val (.int p1), .val (.long q2), .second, .val (.long q3), .second, .val (.long q4), .second, .val (.int (2 : Int32)), .val (.long vb), .second, .val (.long vc), .second, .val (.ref b6), .val (.long mm), .second, .val (.long mm), .second] [])) _
    refine XS.iload X14.here hx rfl (hb hby at_216) rfl ?_
    show Steps p.tables e below (T14.setTop (mkF m 218 #[.val (.int p1), .val (.long q2), .second, .val (.long q3), .second, .val (.long q4), .second, .val (.int (2 : Int32)), .val (.long vb), .second, .val (.long vc), .second, .val (.ref b6), .val (.long mm), .second, .val (.long mm), .second] [(.int (2 : Int32))])) _
    refine XS.iconst X14.here hx rfl (hb hby at_218) ?_
    show Steps p.tables e below (T14.setTop (mkF m 219 #[.val (.int p1), .val (.long q2), .second, .val (.long q3), .second, .val (.long q4), .second, .val (.int (2 : Int32)), .val (.long vb), .second, .val (.long vc), .second, .val (.ref b6), .val (.long mm), .second, .val (.long mm), .second] [(.int (3 : Int32)), (.int (2 : Int32))])) _
    refine XS.icmpYes X14.here hx rfl (pc0 := 219) (pc' := 239) rfl (hb hby at_219) rfl (tlt hc219).1 (by decide) (by decide) ?_
    show Steps p.tables e below (T14.setTop (mkF m 239 #[.val (.int p1), .val (.long q2), .second, .val (.long q3), .second, .val (.long q4), .second, .val (.int (2 : Int32)), .val (.long vb), .second, .val (.long vc), .second, .val (.ref b6), .val (.long mm), .second, .val (.long mm), .second] [])) _
    refine XS.aload X14.here hx rfl (hb hby at_239) rfl rfl ?_
    show Steps p.tables e below (T14.setTop (mkF m 241 #[.val (.int p1), .val (.long q2), .second, .val (.long q3), .second, .val (.long q4), .second, .val (.int (2 : Int32)), .val (.long vb), .second, .val (.long vc), .second, .val (.ref b6), .val (.long mm), .second, .val (.long mm), .second] [(.ref b6)])) _
    refine st15.trans ?_
    show Steps p.tables e below (T15.setTop (mkF m 244 #[.val (.int p1), .val (.long q2), .second, .val (.long q3), .second, .val (.long q4), .second, .val (.int (2 : Int32)), .val (.long vb), .second, .val (.long vc), .second, .val (.ref b6), .val (.long mm), .second, .val (.long mm), .second] [(.int (1 : Int32))])) _
    exact retN X15 hx (t := .boolean) Bd.returns (by simp) (hb hby at_244) hr
  · show Q0 Z p1 q2 q3 q4 h0 n0 _ T15.heap _
    exact ⟨rfl, N15⟩
set_option maxRecDepth 65536 in
set_option maxHeartbeats 40000000 in
theorem rm0_2yn (l : Launch) (Z : State) (a0 : Array Value) (hw : ∀ d ∈ tables_1, d.before a0 Z = true) (ws : List Jvm.Cond) (p1 : Int32) (q2 : Int64) (q3 : Int64) (q4 : Int64) (h0 : Heap) (n0 : Nat) (Z0 : n0 ≤ h0.size) (vb vc mm : Int64) (hn : own_n p1 = 2) (hvb : own_vb p1 q2 q3 = vb) (hvc : own_vc p1 q2 q3 q4 = vc) (hm : mm = (own_mn q2 vb)) (h160 : ¬ (mm = (9223372036854775807 : Int64))) (h181 : q2 = mm) (h204 : ¬ (vb = mm)) :
    MetFree l x (head1 (Jvm.Cond.code x code maxLocals ret :: ws) room_1) (fun a U => a = #[(.int p1), (.long q2), (.long q3), (.long q4)] ∧ Z.Warmed39 U.vm ∧ U.heap = h0) (fun _ _ _ _ _ => True) (fun _ U o U' => ∃ v L, o = .returned v ∧ Q0 Z p1 q2 q3 q4 h0 n0 v U'.heap L ∧ FrameEnd U o U' L room_1.cells room_1.slots) := by
  refine MetFree.of_bodySF (plainFor_of_name pn_0) hisR ?_
  intro p e s m args below meth c s₁ Bd hml0 hP hK
  obtain ⟨rfl, hZ, hh⟩ := hP
  have hx := Bd.exec
  have hby := Bd.bytes
  have hml : c.maxLocals = 17 := hml0
  have hown : s.vm.findClass "com/example/mullion/mullion/aggregators/FurthestBackFindSmallestPinLaw" = some m.cls := findClass_of_methodNamed Bd.named
  have hnm := (name_of_methodNamed Bd.named Bd.method).1
  have X0 : Stand p l e room_1 s m #[(.int p1), (.long q2), (.long q3), (.long q4)] below meth c s₁ [] 0 0 := Stand.of_body Bd
  have e0 : s₁.heap = h0 := by rw [← hh, Bd.state]; rfl
  have N0 := Fr.nil n0
  have pre0 : ∀ t, Steps p.tables e below (s₁.setTop (mkF m 0 #[.val (.int p1), .val (.long q2), .second, .val (.long q3), .second, .val (.long q4), .second, .unset, .unset, .unset, .unset, .unset, .unset, .unset, .unset, .unset, .unset] [])) t → Steps p.tables e below (s₁.setTop (entryFrame m #[(.int p1), (.long q2), (.long q3), (.long q4)] maxLocals)) t := fun t k => castTop (ef_0 m p1 q2 q3 q4) k
  have hc66 : ¬ ((2 : Int32) < (2 : Int32)) := (by decide)
  have hc80 : (2 : Int32) < (3 : Int32) := (by decide)
  have hc97 : ¬ ((2 : Int32) < (2 : Int32)) := (by decide)
  have hc112 : (2 : Int32) < (3 : Int32) := (by decide)
  have hc196 : ¬ ((2 : Int32) < (2 : Int32)) := (by decide)
  have hc219 : (2 : Int32) < (3 : Int32) := (by decide)
  obtain ⟨T5, X5, e5, st5⟩ := own_j0 p1 q2 q3 q4 (2 : Int32) vb vc hn hvb hvc X0 hx hZ hw hby hml hown e0
  obtain ⟨T6, h6, X6, e6, E6, A6, D6, -, st6⟩ := newO X5 hx hZ hown (hw _ (List.mem_of_getElem? (i := 1) rfl)) (hw _ (List.mem_of_getElem? (i := 2) rfl)) (hw _ (List.mem_of_getElem? (i := 3) rfl)) e5 (g := (mkF m 42 #[.val (.int p1), .val (.long q2), .second, .val (.long q3), .second, .val (.long q4), .second, .val (.int (2 : Int32)), .val (.long vb), .second, .val (.long vc), .second, .unset, .unset, .unset, .unset, .unset] [])) rfl (hb hby at_42) (by decide) (by decide)
  obtain ⟨b6, g6⟩ : ∃ z, z = h0.size := ⟨_, rfl⟩
  rw [← g6] at A6 D6 st6
  have F_values_b6 : Fld Z h6 b6 "com/example/mullion/mullion/aggregators/FurthestBack" "values" "[J" .null := D6 (Or.inr (hw _ (List.mem_of_getElem? (i := 13) rfl))) (ty := (.array .long)) (by decide)
  have F_mark_b6 : Fld Z h6 b6 "com/example/mullion/mullion/aggregators/FurthestBack" "mark" "J" (.long (0 : Int64)) := D6 (Or.inl (hw _ (List.mem_of_getElem? (i := 24) rfl))) (ty := .long) (by decide)
  have F_atOrBelowMark_b6 : Fld Z h6 b6 "com/example/mullion/mullion/aggregators/FurthestBack" "atOrBelowMark" "I" (.int (0 : Int32)) := D6 (Or.inl (hw _ (List.mem_of_getElem? (i := 26) rfl))) (ty := .int) (by decide)
  have E_b6 := A6
  have g_b6 : n0 ≤ b6 := Nat.le_trans Z0 (Nat.le_of_eq g6.symm)
  have sz_b6 : h0.size ≤ b6 := (Nat.le_trans (Keep.refl h0 []).1 (Nat.le_of_eq g6.symm))
  have K6 : Keep h0 h6 [] := (Keep.refl h0 []).ext E6
  obtain ⟨_, _, ⟨T7, L7, k7, n7⟩, -, X7, ⟨Lc7, hQ7, l7, y7, z7⟩, st7⟩ := X6.specialBack hx (y := (⟨"com/example/mullion/mullion/aggregators/FurthestBack", "<init>", "(IJ)V"⟩ : MethodName)) rfl hown (mvT hZ (hw _ (List.mem_of_getElem? (i := 5) rfl))) (mvT hZ (hw _ (List.mem_of_getElem? (i := 6) rfl))) (mvT hZ (hw _ (List.mem_of_getElem? (i := 7) rfl))) (by decide) (backOf (W := 1) (rm1 l Z a0 hw [] b6 (2 : Int32) (-9223372036854775808 : Int64) 2 h6 n0 (Nat.le_trans Z0 E6.1) (by decide) rfl (by decide) E_b6 F_values_b6 F_mark_b6 F_atOrBelowMark_b6 g_b6) hZ (hw _ (List.mem_of_getElem? (i := 7) rfl)) (hw _ (List.mem_of_getElem? (i := 3) rfl)) (by decide) (by decide)) (g := (mkF m 51 #[.val (.int p1), .val (.long q2), .second, .val (.long q3), .second, .val (.long q4), .second, .val (.int (2 : Int32)), .val (.long vb), .second, .val (.long vc), .second, .unset, .unset, .unset, .unset, .unset] [(.long (-9223372036854775808 : Int64)), (.int (2 : Int32)), (.ref b6), (.ref b6)])) rfl (by rw [hml]; rfl) (Steps.refl _) (a := b6) (argsL := [(.int (2 : Int32)), (.long (-9223372036854775808 : Int64))]) (rest := [(.ref b6)]) (lenOf pd_0_0 rfl) rfl (by show 2 * 0 + _ ≤ _; exact Nat.le_of_eq rfl) (hb hby at_51) (fun _ _ => ⟨rfl, e6, (by decide : 1 + 1 ≤ _), (by decide : 3 + 3 ≤ _)⟩)
  dsimp only [Pt.U, Pt.locs, Pt.cells, Pt.slots] at X7 l7 y7 z7 st7 hQ7
  subst l7 y7 z7
  obtain ⟨rfl, N7q, K7q, t, st, E7q, Fv7q, Fm7q, Fa7q, V7q⟩ := hQ7
  have N7 := Fr.app N0 N7q
  have z7q : n0 ≤ T7.heap.size := Nat.le_trans (Nat.le_trans Z0 E6.1) K7q.1
  have hne : b6 ≠ t := Nat.ne_of_lt (Nat.lt_of_lt_of_le E_b6.lt st)
  have g_t : n0 ≤ t := Nat.le_trans (Nat.le_trans Z0 E6.1) st
  obtain ⟨cq8, kq8, q8a, q8b, q8c⟩ := isOf hZ rfl E7q
  obtain ⟨_, _, ⟨T8, L8, k8, n8⟩, -, X8, ⟨Lc8, hQ8, l8, y8, z8⟩, st8⟩ := X7.virtualBack hx (y := (⟨"com/example/mullion/mullion/aggregators/FurthestBack", "moveOn", "(IJ)V"⟩ : MethodName)) (z := (⟨"com/example/mullion/mullion/aggregators/FurthestBack", "moveOn", "(IJ)V"⟩ : MethodName)) hown (mvT hZ (hw _ (List.mem_of_getElem? (i := 27) rfl))) (mvT hZ (hw _ (List.mem_of_getElem? (i := 28) rfl))) (notFace_of_selects (args := #[]) (mvT hZ (hw _ (List.mem_of_getElem? (i := 30) rfl)))) (mvT hZ (hw _ (List.mem_of_getElem? (i := 30) rfl))) (mvT hZ (hw _ (List.mem_of_getElem? (i := 29) rfl))) (by decide) (backOf (W := 0) (rm5 l Z a0 hw [] b6 (0 : Int32) q2 t 2 _ 0 _ _ T7.heap n0 z7q rfl (by decide) (by decide) E7q Fv7q Fm7q Fa7q V7q hne g_b6 g_t) hZ (hw _ (List.mem_of_getElem? (i := 31) rfl)) (hw _ (List.mem_of_getElem? (i := 3) rfl)) (by decide) (by decide)) q8a q8c (g := (mkF m 60 #[.val (.int p1), .val (.long q2), .second, .val (.long q3), .second, .val (.long q4), .second, .val (.int (2 : Int32)), .val (.long vb), .second, .val (.long vc), .second, .val (.ref b6), .unset, .unset, .unset, .unset] [(.long q2), (.int (0 : Int32)), (.ref b6)])) rfl (by rw [hml]; rfl) (Steps.refl _) (argsL := [(.int (0 : Int32)), (.long q2)]) (rest := []) (lenOf pd_0_0 rfl) rfl (by show 2 * 0 + _ ≤ _; exact Nat.le_of_eq rfl) (hb hby at_60) (fun _ _ => ⟨rfl, rfl, (by decide : 2 + 0 ≤ _), (by decide : 6 + 0 ≤ _)⟩)
  dsimp only [Pt.U, Pt.locs, Pt.cells, Pt.slots] at X8 l8 y8 z8 st8 hQ8
  subst l8 y8 z8
  obtain ⟨rfl, N8q, K8q, E8q, Fv8q, Fm8q, Fa8q, V8q⟩ := hQ8
  have N8 := Fr.app N7 N8q
  have z8q : n0 ≤ T8.heap.size := Nat.le_trans z7q K8q.1
  obtain ⟨cq9, kq9, q9a, q9b, q9c⟩ := isOf hZ rfl E8q
  obtain ⟨_, _, ⟨T9, L9, k9, n9⟩, -, X9, ⟨Lc9, hQ9, l9, y9, z9⟩, st9⟩ := X8.virtualBack hx (y := (⟨"com/example/mullion/mullion/aggregators/FurthestBack", "moveOn", "(IJ)V"⟩ : MethodName)) (z := (⟨"com/example/mullion/mullion/aggregators/FurthestBack", "moveOn", "(IJ)V"⟩ : MethodName)) hown (mvT hZ (hw _ (List.mem_of_getElem? (i := 27) rfl))) (mvT hZ (hw _ (List.mem_of_getElem? (i := 28) rfl))) (notFace_of_selects (args := #[]) (mvT hZ (hw _ (List.mem_of_getElem? (i := 30) rfl)))) (mvT hZ (hw _ (List.mem_of_getElem? (i := 30) rfl))) (mvT hZ (hw _ (List.mem_of_getElem? (i := 29) rfl))) (by decide) (backOf (W := 0) (rm5 l Z a0 hw [] b6 (1 : Int32) vb t 2 _ 1 _ _ T8.heap n0 z8q rfl (by decide) (by decide) E8q Fv8q Fm8q Fa8q V8q hne g_b6 g_t) hZ (hw _ (List.mem_of_getElem? (i := 31) rfl)) (hw _ (List.mem_of_getElem? (i := 3) rfl)) (by decide) (by decide)) q9a q9c (g := (mkF m 74 #[.val (.int p1), .val (.long q2), .second, .val (.long q3), .second, .val (.long q4), .second, .val (.int (2 : Int32)), .val (.long vb), .second, .val (.long vc), .second, .val (.ref b6), .unset, .unset, .unset, .unset] [(.long vb), (.int (1 : Int32)), (.ref b6)])) rfl (by rw [hml]; rfl) (Steps.refl _) (argsL := [(.int (1 : Int32)), (.long vb)]) (rest := []) (lenOf pd_0_0 rfl) rfl (by show 2 * 0 + _ ≤ _; exact Nat.le_of_eq rfl) (hb hby at_74) (fun _ _ => ⟨rfl, rfl, (by decide : 2 + 0 ≤ _), (by decide : 6 + 0 ≤ _)⟩)
  dsimp only [Pt.U, Pt.locs, Pt.cells, Pt.slots] at X9 l9 y9 z9 st9 hQ9
  subst l9 y9 z9
  obtain ⟨rfl, N9q, K9q, E9q, Fv9q, Fm9q, Fa9q, V9q⟩ := hQ9
  have N9 := Fr.app N8 N9q
  have z9q : n0 ≤ T9.heap.size := Nat.le_trans z8q K9q.1
  obtain ⟨_, _, ⟨T10, L10, k10, n10⟩, -, X10, ⟨Lc10, hQ10, l10, y10, z10⟩, st10⟩ := Jvm.LawKit.callS X9 hx (y := (⟨"java/lang/Math", "min", "(JJ)J"⟩ : MethodName)) hown (mvT hZ (hw _ (List.mem_of_getElem? (i := 49) rfl))) (mvT hZ (hw _ (List.mem_of_getElem? (i := 50) rfl))) (mvT hZ (hw _ (List.mem_of_getElem? (i := 51) rfl))) (mvT hZ (hw _ (List.mem_of_getElem? (i := 52) rfl))) (by decide) (backOf (W := 0) (rm9 l Z a0 hw [] q2 vb  T9.heap n0 z9q) hZ (hw _ (List.mem_of_getElem? (i := 52) rfl)) (hw _ (List.mem_of_getElem? (i := 51) rfl)) (by decide) (by decide)) (g := (mkF m 104 #[.val (.int p1), .val (.long q2), .second, .val (.long q3), .second, .val (.long q4), .second, .val (.int (2 : Int32)), .val (.long vb), .second, .val (.long vc), .second, .val (.ref b6), .val (.long q2), .second, .unset, .unset] [(.long vb), (.long q2)])) rfl (by rw [hml]; rfl) (argsL := [(.long q2), (.long vb)]) (rest := []) (lenOf pd_0_6 rfl) rfl (by show 2 * 0 + _ ≤ _; exact Nat.le_of_eq rfl) (hb hby at_104) (fun _ _ => ⟨rfl, rfl, (by decide : 2 + 0 ≤ _), (by decide : 6 + 0 ≤ _)⟩)
  dsimp only [Pt.U, Pt.locs, Pt.cells, Pt.slots] at X10 l10 y10 z10 st10 hQ10
  subst l10 y10 z10
  obtain ⟨hv10, N10q, e10q⟩ := hQ10
  have N10 := Fr.app N9 N10q
  rw [← hm] at hv10
  subst hv10
  have z10q : n0 ≤ T10.heap.size := by rw [e10q]; exact z9q
  have E10q := E9q
  rw [← e10q] at E10q
  have Fv10q := Fv9q
  rw [← e10q] at Fv10q
  have Fm10q := Fm9q
  rw [← e10q] at Fm10q
  have Fa10q := Fa9q
  rw [← e10q] at Fa10q
  have V10q := V9q
  rw [← e10q] at V10q
  obtain ⟨cq11, kq11, q11a, q11b, q11c⟩ := isOf hZ rfl E10q
  obtain ⟨_, _, ⟨T11, L11, k11, n11⟩, -, X11, ⟨Lc11, hQ11, l11, y11, z11⟩, st11⟩ := X10.virtualBack hx (y := (⟨"com/example/mullion/mullion/aggregators/FurthestBack", "findSmallest", "()J"⟩ : MethodName)) (z := (⟨"com/example/mullion/mullion/aggregators/FurthestBack", "findSmallest", "()J"⟩ : MethodName)) hown (mvT hZ (hw _ (List.mem_of_getElem? (i := 32) rfl))) (mvT hZ (hw _ (List.mem_of_getElem? (i := 33) rfl))) (notFace_of_selects (args := #[]) (mvT hZ (hw _ (List.mem_of_getElem? (i := 35) rfl)))) (mvT hZ (hw _ (List.mem_of_getElem? (i := 35) rfl))) (mvT hZ (hw _ (List.mem_of_getElem? (i := 34) rfl))) (by decide) (backOf (W := 0) (rm6 l Z a0 hw [] b6 t 2 (fun j => if j = 1 then vb else if j = 0 then q2 else (-9223372036854775808 : Int64)) _ _ T10.heap n0 z10q (by decide) E10q Fv10q Fm10q Fa10q V10q hne g_b6) hZ (hw _ (List.mem_of_getElem? (i := 36) rfl)) (hw _ (List.mem_of_getElem? (i := 3) rfl)) (by decide) (by decide)) q11a q11c (g := (mkF m 126 #[.val (.int p1), .val (.long q2), .second, .val (.long q3), .second, .val (.long q4), .second, .val (.int (2 : Int32)), .val (.long vb), .second, .val (.long vc), .second, .val (.ref b6), .val (.long mm), .second, .unset, .unset] [(.ref b6)])) rfl (by rw [hml]; rfl) (Steps.refl _) (argsL := []) (rest := []) (lenOf pd_0_4 rfl) rfl (by show 2 * 0 + _ ≤ _; exact Nat.le_of_eq rfl) (hb hby at_126) (fun _ _ => ⟨rfl, rfl, (by decide : 2 + 0 ≤ _), (by decide : 6 + 0 ≤ _)⟩)
  dsimp only [Pt.U, Pt.locs, Pt.cells, Pt.slots] at X11 l11 y11 z11 st11 hQ11
  subst l11 y11 z11
  obtain ⟨hv11, N11q, K11q, E11q, Fv11q, Fm11q, Fa11q, V11q⟩ := hQ11
  have N11 := Fr.app N10 N11q
  have z11q : n0 ≤ T11.heap.size := Nat.le_trans z10q K11q.1
  have hfs : own_fs (fun j => if j = 1 then vb else if j = 0 then q2 else (-9223372036854775808 : Int64)) 2 0 ((9223372036854775807 : Int64), (0 : Int32)) = (mm, (own_is q2 mm + own_is vb mm)) := by show own_step (own_step ((9223372036854775807 : Int64), 0) q2) vb = _; rw [own_first, hm]; exact own_second q2 vb
  rw [hfs] at hv11
  replace hv11 : _ = some (Value.long mm) := hv11
  subst hv11
  have Gm11q : Fld Z T11.heap b6 "com/example/mullion/mullion/aggregators/FurthestBack" "mark" "J" (.long mm) := by have q := Fm11q; rw [hfs] at q; exact q
  have Ga11q : Fld Z T11.heap b6 "com/example/mullion/mullion/aggregators/FurthestBack" "atOrBelowMark" "I" (.int (own_is q2 mm + own_is vb mm)) := by have q := Fa11q; rw [hfs] at q; exact q
  obtain ⟨cq12, kq12, q12a, q12b, q12c⟩ := isOf hZ rfl E11q
  obtain ⟨_, _, ⟨T12, L12, k12, n12⟩, -, X12, ⟨Lc12, hQ12, l12, y12, z12⟩, st12⟩ := X11.virtualBack hx (y := (⟨"com/example/mullion/mullion/aggregators/FurthestBack", "mark", "()J"⟩ : MethodName)) (z := (⟨"com/example/mullion/mullion/aggregators/FurthestBack", "mark", "()J"⟩ : MethodName)) hown (mvT hZ (hw _ (List.mem_of_getElem? (i := 38) rfl))) (mvT hZ (hw _ (List.mem_of_getElem? (i := 39) rfl))) (notFace_of_selects (args := #[]) (mvT hZ (hw _ (List.mem_of_getElem? (i := 41) rfl)))) (mvT hZ (hw _ (List.mem_of_getElem? (i := 41) rfl))) (mvT hZ (hw _ (List.mem_of_getElem? (i := 40) rfl))) (by decide) (backOf (W := 0) (rm7 l Z a0 hw [] b6 mm T11.heap n0 z11q Gm11q) hZ (hw _ (List.mem_of_getElem? (i := 42) rfl)) (hw _ (List.mem_of_getElem? (i := 3) rfl)) (by decide) (by decide)) q12a q12c (g := (mkF m 143 #[.val (.int p1), .val (.long q2), .second, .val (.long q3), .second, .val (.long q4), .second, .val (.int (2 : Int32)), .val (.long vb), .second, .val (.long vc), .second, .val (.ref b6), .val (.long mm), .second, .val (.long mm), .second] [(.ref b6)])) rfl (by rw [hml]; rfl) (Steps.refl _) (argsL := []) (rest := []) (lenOf pd_0_4 rfl) rfl (by show 2 * 0 + _ ≤ _; exact Nat.le_of_eq rfl) (hb hby at_143) (fun _ _ => ⟨rfl, rfl, (by decide : 2 + 0 ≤ _), (by decide : 6 + 0 ≤ _)⟩)
  dsimp only [Pt.U, Pt.locs, Pt.cells, Pt.slots] at X12 l12 y12 z12 st12 hQ12
  subst l12 y12 z12
  obtain ⟨rfl, N12q, e12q⟩ := hQ12
  have N12 := Fr.app N11 N12q
  have z12q : n0 ≤ T12.heap.size := by rw [e12q]; exact z11q
  have E12q := E11q
  rw [← e12q] at E12q
  have Fv12q := Fv11q
  rw [← e12q] at Fv12q
  have Fm12q := Gm11q
  rw [← e12q] at Fm12q
  have Fa12q := Ga11q
  rw [← e12q] at Fa12q
  have V12q := V11q
  rw [← e12q] at V12q
  obtain ⟨cq13, kq13, q13a, q13b, q13c⟩ := isOf hZ rfl E12q
  obtain ⟨_, _, ⟨T13, L13, k13, n13⟩, -, X13, ⟨Lc13, hQ13, l13, y13, z13⟩, st13⟩ := X12.virtualBack hx (y := (⟨"com/example/mullion/mullion/aggregators/FurthestBack", "moveOn", "(IJ)V"⟩ : MethodName)) (z := (⟨"com/example/mullion/mullion/aggregators/FurthestBack", "moveOn", "(IJ)V"⟩ : MethodName)) hown (mvT hZ (hw _ (List.mem_of_getElem? (i := 27) rfl))) (mvT hZ (hw _ (List.mem_of_getElem? (i := 28) rfl))) (notFace_of_selects (args := #[]) (mvT hZ (hw _ (List.mem_of_getElem? (i := 30) rfl)))) (mvT hZ (hw _ (List.mem_of_getElem? (i := 30) rfl))) (mvT hZ (hw _ (List.mem_of_getElem? (i := 29) rfl))) (by decide) (backOf (W := 0) (rm5 l Z a0 hw [] b6 (0 : Int32) (9223372036854775807 : Int64) t 2 _ 0 _ _ T12.heap n0 z12q rfl (by decide) (by decide) E12q Fv12q Fm12q Fa12q V12q hne g_b6 g_t) hZ (hw _ (List.mem_of_getElem? (i := 31) rfl)) (hw _ (List.mem_of_getElem? (i := 3) rfl)) (by decide) (by decide)) q13a q13c (g := (mkF m 190 #[.val (.int p1), .val (.long q2), .second, .val (.long q3), .second, .val (.long q4), .second, .val (.int (2 : Int32)), .val (.long vb), .second, .val (.long vc), .second, .val (.ref b6), .val (.long mm), .second, .val (.long mm), .second] [(.long (9223372036854775807 : Int64)), (.int (0 : Int32)), (.ref b6)])) rfl (by rw [hml]; rfl) (Steps.refl _) (argsL := [(.int (0 : Int32)), (.long (9223372036854775807 : Int64))]) (rest := []) (lenOf pd_0_0 rfl) rfl (by show 2 * 0 + _ ≤ _; exact Nat.le_of_eq rfl) (hb hby at_190) (fun _ _ => ⟨rfl, rfl, (by decide : 2 + 0 ≤ _), (by decide : 6 + 0 ≤ _)⟩)
  dsimp only [Pt.U, Pt.locs, Pt.cells, Pt.slots] at X13 l13 y13 z13 st13 hQ13
  subst l13 y13 z13
  obtain ⟨rfl, N13q, K13q, E13q, Fv13q, Fm13q, Fa13q, V13q⟩ := hQ13
  have N13 := Fr.app N12 N13q
  have z13q : n0 ≤ T13.heap.size := Nat.le_trans z12q K13q.1
  have Fb13q : Fld Z T13.heap b6 "com/example/mullion/mullion/aggregators/FurthestBack" "atOrBelowMark" "I" (.int ((own_is q2 mm + own_is vb mm) - (1 : Int32))) := by
    have q : Fld Z T13.heap b6 "com/example/mullion/mullion/aggregators/FurthestBack" "atOrBelowMark" "I" (.int (own_mv q2 (9223372036854775807 : Int64) mm (own_is q2 mm + own_is vb mm))) := Fa13q
    rw [own_mv_dec (x := q2) (m := mm) h181 h160] at q
    exact q
  obtain ⟨cq14, kq14, q14a, q14b, q14c⟩ := isOf hZ rfl E13q
  obtain ⟨_, _, ⟨T14, L14, k14, n14⟩, -, X14, ⟨Lc14, hQ14, l14, y14, z14⟩, st14⟩ := X13.virtualBack hx (y := (⟨"com/example/mullion/mullion/aggregators/FurthestBack", "allMovedOn", "()Z"⟩ : MethodName)) (z := (⟨"com/example/mullion/mullion/aggregators/FurthestBack", "allMovedOn", "()Z"⟩ : MethodName)) hown (mvT hZ (hw _ (List.mem_of_getElem? (i := 44) rfl))) (mvT hZ (hw _ (List.mem_of_getElem? (i := 45) rfl))) (notFace_of_selects (args := #[]) (mvT hZ (hw _ (List.mem_of_getElem? (i := 47) rfl)))) (mvT hZ (hw _ (List.mem_of_getElem? (i := 47) rfl))) (mvT hZ (hw _ (List.mem_of_getElem? (i := 46) rfl))) (by decide) (backOf (W := 0) (rm8_f l Z a0 hw [] b6 ((own_is q2 mm + own_is vb mm) - (1 : Int32)) T13.heap n0 z13q Fb13q (by unfold own_is; rw [if_pos h181, if_neg h204]; decide)) hZ (hw _ (List.mem_of_getElem? (i := 48) rfl)) (hw _ (List.mem_of_getElem? (i := 3) rfl)) (by decide) (by decide)) q14a q14c (g := (mkF m 241 #[.val (.int p1), .val (.long q2), .second, .val (.long q3), .second, .val (.long q4), .second, .val (.int (2 : Int32)), .val (.long vb), .second, .val (.long vc), .second, .val (.ref b6), .val (.long mm), .second, .val (.long mm), .second] [(.ref b6)])) rfl (by rw [hml]; rfl) (Steps.refl _) (argsL := []) (rest := []) (lenOf pd_0_5 rfl) rfl (by show 2 * 0 + _ ≤ _; exact Nat.le_of_eq rfl) (hb hby at_241) (fun _ _ => ⟨rfl, rfl, (by decide : 2 + 0 ≤ _), (by decide : 6 + 0 ≤ _)⟩)
  dsimp only [Pt.U, Pt.locs, Pt.cells, Pt.slots] at X14 l14 y14 z14 st14 hQ14
  subst l14 y14 z14
  obtain ⟨rfl, N14q, e14q⟩ := hQ14
  have N14 := Fr.app N13 N14q
  have z14q : n0 ≤ T14.heap.size := by rw [e14q]; exact z13q
  have E14q := E13q
  rw [← e14q] at E14q
  have Fv14q := Fv13q
  rw [← e14q] at Fv14q
  have Fm14q := Fm13q
  rw [← e14q] at Fm14q
  have Fa14q := Fb13q
  rw [← e14q] at Fa14q
  have V14q := V13q
  rw [← e14q] at V14q
  obtain ⟨fs, hr, hrun, hended, hW, hsame⟩ := X14.leave (v := some (.int (1 : Int32))) (fun h => by rw [Bd.returns] at h; cases h)
  refine ⟨_, _, pre0 _ ?_, hrun, hended, _, _, rfl, ?_, ⟨_, rfl⟩, hW, hsame.mono (by decide) (by decide)⟩
  · show Steps p.tables e below (s₁.setTop (mkF m 0 #[.val (.int p1), .val (.long q2), .second, .val (.long q3), .second, .val (.long q4), .second, .unset, .unset, .unset, .unset, .unset, .unset, .unset, .unset, .unset, .unset] [])) _
    refine st5 _ ?_
    show Steps p.tables e below (T5.setTop (mkF m 42 #[.val (.int p1), .val (.long q2), .second, .val (.long q3), .second, .val (.long q4), .second, .val (.int (2 : Int32)), .val (.long vb), .second, .val (.long vc), .second, .unset, .unset, .unset, .unset, .unset] [])) _
    refine st6 _ ?_
    show Steps p.tables e below (T6.setTop (mkF m 45 #[.val (.int p1), .val (.long q2), .second, .val (.long q3), .second, .val (.long q4), .second, .val (.int (2 : Int32)), .val (.long vb), .second, .val (.long vc), .second, .unset, .unset, .unset, .unset, .unset] [(.ref b6)])) _
    refine XS.dup X6.here hx rfl (hb hby at_45) rfl rfl ?_
    show Steps p.tables e below (T6.setTop (mkF m 46 #[.val (.int p1), .val (.long q2), .second, .val (.long q3), .second, .val (.long q4), .second, .val (.int (2 : Int32)), .val (.long vb), .second, .val (.long vc), .second, .unset, .unset, .unset, .unset, .unset] [(.ref b6), (.ref b6)])) _
    refine XS.iload X6.here hx rfl (hb hby at_46) rfl ?_
    show Steps p.tables e below (T6.setTop (mkF m 48 #[.val (.int p1), .val (.long q2), .second, .val (.long q3), .second, .val (.long q4), .second, .val (.int (2 : Int32)), .val (.long vb), .second, .val (.long vc), .second, .unset, .unset, .unset, .unset, .unset] [(.int (2 : Int32)), (.ref b6), (.ref b6)])) _
    refine X6.ldc2Long hx hown (mvT hZ (hw _ (List.mem_of_getElem? (i := 4) rfl))) (g := (mkF m 48 #[.val (.int p1), .val (.long q2), .second, .val (.long q3), .second, .val (.long q4), .second, .val (.int (2 : Int32)), .val (.long vb), .second, .val (.long vc), .second, .unset, .unset, .unset, .unset, .unset] [(.int (2 : Int32)), (.ref b6), (.ref b6)])) rfl (hb hby at_48) _ ?_
    show Steps p.tables e below (T6.setTop (mkF m 51 #[.val (.int p1), .val (.long q2), .second, .val (.long q3), .second, .val (.long q4), .second, .val (.int (2 : Int32)), .val (.long vb), .second, .val (.long vc), .second, .unset, .unset, .unset, .unset, .unset] [(.long (-9223372036854775808 : Int64)), (.int (2 : Int32)), (.ref b6), (.ref b6)])) _
    refine st7.trans ?_
    show Steps p.tables e below (T7.setTop (mkF m 54 #[.val (.int p1), .val (.long q2), .second, .val (.long q3), .second, .val (.long q4), .second, .val (.int (2 : Int32)), .val (.long vb), .second, .val (.long vc), .second, .unset, .unset, .unset, .unset, .unset] [(.ref b6)])) _
    refine XS.astore X7.here hx rfl (hb hby at_54) rfl rfl (l' := #[.val (.int p1), .val (.long q2), .second, .val (.long q3), .second, .val (.long q4), .second, .val (.int (2 : Int32)), .val (.long vb), .second, .val (.long vc), .second, .val (.ref b6), .unset, .unset, .unset, .unset]) rfl ?_
    show Steps p.tables e below (T7.setTop (mkF m 56 #[.val (.int p1), .val (.long q2), .second, .val (.long q3), .second, .val (.long q4), .second, .val (.int (2 : Int32)), .val (.long vb), .second, .val (.long vc), .second, .val (.ref b6), .unset, .unset, .unset, .unset] [])) _
    refine XS.aload X7.here hx rfl (hb hby at_56) rfl rfl ?_
    show Steps p.tables e below (T7.setTop (mkF m 58 #[.val (.int p1), .val (.long q2), .second, .val (.long q3), .second, .val (.long q4), .second, .val (.int (2 : Int32)), .val (.long vb), .second, .val (.long vc), .second, .val (.ref b6), .unset, .unset, .unset, .unset] [(.ref b6)])) _
    refine XS.iconst X7.here hx rfl (hb hby at_58) ?_
    show Steps p.tables e below (T7.setTop (mkF m 59 #[.val (.int p1), .val (.long q2), .second, .val (.long q3), .second, .val (.long q4), .second, .val (.int (2 : Int32)), .val (.long vb), .second, .val (.long vc), .second, .val (.ref b6), .unset, .unset, .unset, .unset] [(.int (0 : Int32)), (.ref b6)])) _
    refine XS.lloadN X7.here hx rfl (hb hby at_59) rfl ?_
    show Steps p.tables e below (T7.setTop (mkF m 60 #[.val (.int p1), .val (.long q2), .second, .val (.long q3), .second, .val (.long q4), .second, .val (.int (2 : Int32)), .val (.long vb), .second, .val (.long vc), .second, .val (.ref b6), .unset, .unset, .unset, .unset] [(.long q2), (.int (0 : Int32)), (.ref b6)])) _
    refine st8.trans ?_
    show Steps p.tables e below (T8.setTop (mkF m 63 #[.val (.int p1), .val (.long q2), .second, .val (.long q3), .second, .val (.long q4), .second, .val (.int (2 : Int32)), .val (.long vb), .second, .val (.long vc), .second, .val (.ref b6), .unset, .unset, .unset, .unset] [])) _
    refine XS.iload X8.here hx rfl (hb hby at_63) rfl ?_
    show Steps p.tables e below (T8.setTop (mkF m 65 #[.val (.int p1), .val (.long q2), .second, .val (.long q3), .second, .val (.long q4), .second, .val (.int (2 : Int32)), .val (.long vb), .second, .val (.long vc), .second, .val (.ref b6), .unset, .unset, .unset, .unset] [(.int (2 : Int32))])) _
    refine XS.iconst X8.here hx rfl (hb hby at_65) ?_
    show Steps p.tables e below (T8.setTop (mkF m 66 #[.val (.int p1), .val (.long q2), .second, .val (.long q3), .second, .val (.long q4), .second, .val (.int (2 : Int32)), .val (.long vb), .second, .val (.long vc), .second, .val (.ref b6), .unset, .unset, .unset, .unset] [(.int (2 : Int32)), (.int (2 : Int32))])) _
    refine XS.icmpNo X8.here hx rfl (hb hby at_66) rfl (flt hc66).1 ?_
    show Steps p.tables e below (T8.setTop (mkF m 69 #[.val (.int p1), .val (.long q2), .second, .val (.long q3), .second, .val (.long q4), .second, .val (.int (2 : Int32)), .val (.long vb), .second, .val (.long vc), .second, .val (.ref b6), .unset, .unset, .unset, .unset] [])) _
    refine XS.aload X8.here hx rfl (hb hby at_69) rfl rfl ?_
    show Steps p.tables e below (T8.setTop (mkF m 71 #[.val (.int p1), .val (.long q2), .second, .val (.long q3), .second, .val (.long q4), .second, .val (.int (2 : Int32)), .val (.long vb), .second, .val (.long vc), .second, .val (.ref b6), .unset, .unset, .unset, .unset] [(.ref b6)])) _
    refine XS.iconst X8.here hx rfl (hb hby at_71) ?_
    show Steps p.tables e below (T8.setTop (mkF m 72 #[.val (.int p1), .val (.long q2), .second, .val (.long q3), .second, .val (.long q4), .second, .val (.int (2 : Int32)), .val (.long vb), .second, .val (.long vc), .second, .val (.ref b6), .unset, .unset, .unset, .unset] [(.int (1 : Int32)), (.ref b6)])) _
    refine XS.lload X8.here hx rfl (hb hby at_72) rfl ?_
    show Steps p.tables e below (T8.setTop (mkF m 74 #[.val (.int p1), .val (.long q2), .second, .val (.long q3), .second, .val (.long q4), .second, .val (.int (2 : Int32)), .val (.long vb), .second, .val (.long vc), .second, .val (.ref b6), .unset, .unset, .unset, .unset] [(.long vb), (.int (1 : Int32)), (.ref b6)])) _
    refine st9.trans ?_
    show Steps p.tables e below (T9.setTop (mkF m 77 #[.val (.int p1), .val (.long q2), .second, .val (.long q3), .second, .val (.long q4), .second, .val (.int (2 : Int32)), .val (.long vb), .second, .val (.long vc), .second, .val (.ref b6), .unset, .unset, .unset, .unset] [])) _
    refine XS.iload X9.here hx rfl (hb hby at_77) rfl ?_
    show Steps p.tables e below (T9.setTop (mkF m 79 #[.val (.int p1), .val (.long q2), .second, .val (.long q3), .second, .val (.long q4), .second, .val (.int (2 : Int32)), .val (.long vb), .second, .val (.long vc), .second, .val (.ref b6), .unset, .unset, .unset, .unset] [(.int (2 : Int32))])) _
    refine XS.iconst X9.here hx rfl (hb hby at_79) ?_
    show Steps p.tables e below (T9.setTop (mkF m 80 #[.val (.int p1), .val (.long q2), .second, .val (.long q3), .second, .val (.long q4), .second, .val (.int (2 : Int32)), .val (.long vb), .second, .val (.long vc), .second, .val (.ref b6), .unset, .unset, .unset, .unset] [(.int (3 : Int32)), (.int (2 : Int32))])) _
    refine XS.icmpYes X9.here hx rfl (pc0 := 80) (pc' := 91) rfl (hb hby at_80) rfl (tlt hc80).1 (by decide) (by decide) ?_
    show Steps p.tables e below (T9.setTop (mkF m 91 #[.val (.int p1), .val (.long q2), .second, .val (.long q3), .second, .val (.long q4), .second, .val (.int (2 : Int32)), .val (.long vb), .second, .val (.long vc), .second, .val (.ref b6), .unset, .unset, .unset, .unset] [])) _
    refine XS.lloadN X9.here hx rfl (hb hby at_91) rfl ?_
    show Steps p.tables e below (T9.setTop (mkF m 92 #[.val (.int p1), .val (.long q2), .second, .val (.long q3), .second, .val (.long q4), .second, .val (.int (2 : Int32)), .val (.long vb), .second, .val (.long vc), .second, .val (.ref b6), .unset, .unset, .unset, .unset] [(.long q2)])) _
    refine XS.lstore X9.here hx rfl (hb hby at_92) rfl (l' := #[.val (.int p1), .val (.long q2), .second, .val (.long q3), .second, .val (.long q4), .second, .val (.int (2 : Int32)), .val (.long vb), .second, .val (.long vc), .second, .val (.ref b6), .val (.long q2), .second, .unset, .unset]) rfl ?_
    show Steps p.tables e below (T9.setTop (mkF m 94 #[.val (.int p1), .val (.long q2), .second, .val (.long q3), .second, .val (.long q4), .second, .val (.int (2 : Int32)), .val (.long vb), .second, .val (.long vc), .second, .val (.ref b6), .val (.long q2), .second, .unset, .unset] [])) _
    refine XS.iload X9.here hx rfl (hb hby at_94) rfl ?_
    show Steps p.tables e below (T9.setTop (mkF m 96 #[.val (.int p1), .val (.long q2), .second, .val (.long q3), .second, .val (.long q4), .second, .val (.int (2 : Int32)), .val (.long vb), .second, .val (.long vc), .second, .val (.ref b6), .val (.long q2), .second, .unset, .unset] [(.int (2 : Int32))])) _
    refine XS.iconst X9.here hx rfl (hb hby at_96) ?_
    show Steps p.tables e below (T9.setTop (mkF m 97 #[.val (.int p1), .val (.long q2), .second, .val (.long q3), .second, .val (.long q4), .second, .val (.int (2 : Int32)), .val (.long vb), .second, .val (.long vc), .second, .val (.ref b6), .val (.long q2), .second, .unset, .unset] [(.int (2 : Int32)), (.int (2 : Int32))])) _
    refine XS.icmpNo X9.here hx rfl (hb hby at_97) rfl (flt hc97).1 ?_
    show Steps p.tables e below (T9.setTop (mkF m 100 #[.val (.int p1), .val (.long q2), .second, .val (.long q3), .second, .val (.long q4), .second, .val (.int (2 : Int32)), .val (.long vb), .second, .val (.long vc), .second, .val (.ref b6), .val (.long q2), .second, .unset, .unset] [])) _
    refine XS.lload X9.here hx rfl (hb hby at_100) rfl ?_
    show Steps p.tables e below (T9.setTop (mkF m 102 #[.val (.int p1), .val (.long q2), .second, .val (.long q3), .second, .val (.long q4), .second, .val (.int (2 : Int32)), .val (.long vb), .second, .val (.long vc), .second, .val (.ref b6), .val (.long q2), .second, .unset, .unset] [(.long q2)])) _
    refine XS.lload X9.here hx rfl (hb hby at_102) rfl ?_
    show Steps p.tables e below (T9.setTop (mkF m 104 #[.val (.int p1), .val (.long q2), .second, .val (.long q3), .second, .val (.long q4), .second, .val (.int (2 : Int32)), .val (.long vb), .second, .val (.long vc), .second, .val (.ref b6), .val (.long q2), .second, .unset, .unset] [(.long vb), (.long q2)])) _
    refine st10 _ ?_
    show Steps p.tables e below (T10.setTop (mkF m 107 #[.val (.int p1), .val (.long q2), .second, .val (.long q3), .second, .val (.long q4), .second, .val (.int (2 : Int32)), .val (.long vb), .second, .val (.long vc), .second, .val (.ref b6), .val (.long q2), .second, .unset, .unset] [(.long mm)])) _
    refine XS.lstore X10.here hx rfl (hb hby at_107) rfl (l' := #[.val (.int p1), .val (.long q2), .second, .val (.long q3), .second, .val (.long q4), .second, .val (.int (2 : Int32)), .val (.long vb), .second, .val (.long vc), .second, .val (.ref b6), .val (.long mm), .second, .unset, .unset]) rfl ?_
    show Steps p.tables e below (T10.setTop (mkF m 109 #[.val (.int p1), .val (.long q2), .second, .val (.long q3), .second, .val (.long q4), .second, .val (.int (2 : Int32)), .val (.long vb), .second, .val (.long vc), .second, .val (.ref b6), .val (.long mm), .second, .unset, .unset] [])) _
    refine XS.iload X10.here hx rfl (hb hby at_109) rfl ?_
    show Steps p.tables e below (T10.setTop (mkF m 111 #[.val (.int p1), .val (.long q2), .second, .val (.long q3), .second, .val (.long q4), .second, .val (.int (2 : Int32)), .val (.long vb), .second, .val (.long vc), .second, .val (.ref b6), .val (.long mm), .second, .unset, .unset] [(.int (2 : Int32))])) _
    refine XS.iconst X10.here hx rfl (hb hby at_111) ?_
    show Steps p.tables e below (T10.setTop (mkF m 112 #[.val (.int p1), .val (.long q2), .second, .val (.long q3), .second, .val (.long q4), .second, .val (.int (2 : Int32)), .val (.long vb), .second, .val (.long vc), .second, .val (.ref b6), .val (.long mm), .second, .unset, .unset] [(.int (3 : Int32)), (.int (2 : Int32))])) _
    refine XS.icmpYes X10.here hx rfl (pc0 := 112) (pc' := 124) rfl (hb hby at_112) rfl (tlt hc112).1 (by decide) (by decide) ?_
    show Steps p.tables e below (T10.setTop (mkF m 124 #[.val (.int p1), .val (.long q2), .second, .val (.long q3), .second, .val (.long q4), .second, .val (.int (2 : Int32)), .val (.long vb), .second, .val (.long vc), .second, .val (.ref b6), .val (.long mm), .second, .unset, .unset] [])) _
    refine XS.aload X10.here hx rfl (hb hby at_124) rfl rfl ?_
    show Steps p.tables e below (T10.setTop (mkF m 126 #[.val (.int p1), .val (.long q2), .second, .val (.long q3), .second, .val (.long q4), .second, .val (.int (2 : Int32)), .val (.long vb), .second, .val (.long vc), .second, .val (.ref b6), .val (.long mm), .second, .unset, .unset] [(.ref b6)])) _
    refine st11.trans ?_
    show Steps p.tables e below (T11.setTop (mkF m 129 #[.val (.int p1), .val (.long q2), .second, .val (.long q3), .second, .val (.long q4), .second, .val (.int (2 : Int32)), .val (.long vb), .second, .val (.long vc), .second, .val (.ref b6), .val (.long mm), .second, .unset, .unset] [(.long mm)])) _
    refine XS.lstore X11.here hx rfl (hb hby at_129) rfl (l' := #[.val (.int p1), .val (.long q2), .second, .val (.long q3), .second, .val (.long q4), .second, .val (.int (2 : Int32)), .val (.long vb), .second, .val (.long vc), .second, .val (.ref b6), .val (.long mm), .second, .val (.long mm), .second]) rfl ?_
    show Steps p.tables e below (T11.setTop (mkF m 131 #[.val (.int p1), .val (.long q2), .second, .val (.long q3), .second, .val (.long q4), .second, .val (.int (2 : Int32)), .val (.long vb), .second, .val (.long vc), .second, .val (.ref b6), .val (.long mm), .second, .val (.long mm), .second] [])) _
    refine XS.lload X11.here hx rfl (hb hby at_131) rfl ?_
    show Steps p.tables e below (T11.setTop (mkF m 133 #[.val (.int p1), .val (.long q2), .second, .val (.long q3), .second, .val (.long q4), .second, .val (.int (2 : Int32)), .val (.long vb), .second, .val (.long vc), .second, .val (.ref b6), .val (.long mm), .second, .val (.long mm), .second] [(.long mm)])) _
    refine XS.lload X11.here hx rfl (hb hby at_133) rfl ?_
    show Steps p.tables e below (T11.setTop (mkF m 135 #[.val (.int p1), .val (.long q2), .second, .val (.long q3), .second, .val (.long q4), .second, .val (.int (2 : Int32)), .val (.long vb), .second, .val (.long vc), .second, .val (.ref b6), .val (.long mm), .second, .val (.long mm), .second] [(.long mm), (.long mm)])) _
    refine XS.lcmp X11.here hx rfl (hb hby at_135) rfl ?_
    show Steps p.tables e below (T11.setTop (mkF m 136 #[.val (.int p1), .val (.long q2), .second, .val (.long q3), .second, .val (.long q4), .second, .val (.int (2 : Int32)), .val (.long vb), .second, .val (.long vc), .second, .val (.ref b6), .val (.long mm), .second, .val (.long mm), .second] [(.int (lcmpW mm mm))])) _
    refine XS.ifYes X11.here hx rfl (pc0 := 136) (pc' := 141) rfl (hb hby at_136) rfl ((if0 _ _).trans (teq (((lw_eq _ _).mpr rfl) : (lcmpW mm mm) = (0 : Int32))).1) (by decide) (by decide) ?_
    show Steps p.tables e below (T11.setTop (mkF m 141 #[.val (.int p1), .val (.long q2), .second, .val (.long q3), .second, .val (.long q4), .second, .val (.int (2 : Int32)), .val (.long vb), .second, .val (.long vc), .second, .val (.ref b6), .val (.long mm), .second, .val (.long mm), .second] [])) _
    refine XS.aload X11.here hx rfl (hb hby at_141) rfl rfl ?_
    show Steps p.tables e below (T11.setTop (mkF m 143 #[.val (.int p1), .val (.long q2), .second, .val (.long q3), .second, .val (.long q4), .second, .val (.int (2 : Int32)), .val (.long vb), .second, .val (.long vc), .second, .val (.ref b6), .val (.long mm), .second, .val (.long mm), .second] [(.ref b6)])) _
    refine st12.trans ?_
    show Steps p.tables e below (T12.setTop (mkF m 146 #[.val (.int p1), .val (.long q2), .second, .val (.long q3), .second, .val (.long q4), .second, .val (.int (2 : Int32)), .val (.long vb), .second, .val (.long vc), .second, .val (.ref b6), .val (.long mm), .second, .val (.long mm), .second] [(.long mm)])) _
    refine XS.lload X12.here hx rfl (hb hby at_146) rfl ?_
    show Steps p.tables e below (T12.setTop (mkF m 148 #[.val (.int p1), .val (.long q2), .second, .val (.long q3), .second, .val (.long q4), .second, .val (.int (2 : Int32)), .val (.long vb), .second, .val (.long vc), .second, .val (.ref b6), .val (.long mm), .second, .val (.long mm), .second] [(.long mm), (.long mm)])) _
    refine XS.lcmp X12.here hx rfl (hb hby at_148) rfl ?_
    show Steps p.tables e below (T12.setTop (mkF m 149 #[.val (.int p1), .val (.long q2), .second, .val (.long q3), .second, .val (.long q4), .second, .val (.int (2 : Int32)), .val (.long vb), .second, .val (.long vc), .second, .val (.ref b6), .val (.long mm), .second, .val (.long mm), .second] [(.int (lcmpW mm mm))])) _
    refine XS.ifYes X12.here hx rfl (pc0 := 149) (pc' := 154) rfl (hb hby at_149) rfl ((if0 _ _).trans (teq (((lw_eq _ _).mpr rfl) : (lcmpW mm mm) = (0 : Int32))).1) (by decide) (by decide) ?_
    show Steps p.tables e below (T12.setTop (mkF m 154 #[.val (.int p1), .val (.long q2), .second, .val (.long q3), .second, .val (.long q4), .second, .val (.int (2 : Int32)), .val (.long vb), .second, .val (.long vc), .second, .val (.ref b6), .val (.long mm), .second, .val (.long mm), .second] [])) _
    refine XS.lload X12.here hx rfl (hb hby at_154) rfl ?_
    show Steps p.tables e below (T12.setTop (mkF m 156 #[.val (.int p1), .val (.long q2), .second, .val (.long q3), .second, .val (.long q4), .second, .val (.int (2 : Int32)), .val (.long vb), .second, .val (.long vc), .second, .val (.ref b6), .val (.long mm), .second, .val (.long mm), .second] [(.long mm)])) _
    refine X12.ldc2Long hx hown (mvT hZ (hw _ (List.mem_of_getElem? (i := 43) rfl))) (g := (mkF m 156 #[.val (.int p1), .val (.long q2), .second, .val (.long q3), .second, .val (.long q4), .second, .val (.int (2 : Int32)), .val (.long vb), .second, .val (.long vc), .second, .val (.ref b6), .val (.long mm), .second, .val (.long mm), .second] [(.long mm)])) rfl (hb hby at_156) _ ?_
    show Steps p.tables e below (T12.setTop (mkF m 159 #[.val (.int p1), .val (.long q2), .second, .val (.long q3), .second, .val (.long q4), .second, .val (.int (2 : Int32)), .val (.long vb), .second, .val (.long vc), .second, .val (.ref b6), .val (.long mm), .second, .val (.long mm), .second] [(.long (9223372036854775807 : Int64)), (.long mm)])) _
    refine XS.lcmp X12.here hx rfl (hb hby at_159) rfl ?_
    show Steps p.tables e below (T12.setTop (mkF m 160 #[.val (.int p1), .val (.long q2), .second, .val (.long q3), .second, .val (.long q4), .second, .val (.int (2 : Int32)), .val (.long vb), .second, .val (.long vc), .second, .val (.ref b6), .val (.long mm), .second, .val (.long mm), .second] [(.int (lcmpW mm (9223372036854775807 : Int64)))])) _
    refine XS.ifYes X12.here hx rfl (pc0 := 160) (pc' := 177) rfl (hb hby at_160) rfl ((if0 _ _).trans (feq ((fun q => h160 ((lw_eq _ _).mp q)) : ¬ ((lcmpW mm (9223372036854775807 : Int64)) = (0 : Int32)))).2) (by decide) (by decide) ?_
    show Steps p.tables e below (T12.setTop (mkF m 177 #[.val (.int p1), .val (.long q2), .second, .val (.long q3), .second, .val (.long q4), .second, .val (.int (2 : Int32)), .val (.long vb), .second, .val (.long vc), .second, .val (.ref b6), .val (.long mm), .second, .val (.long mm), .second] [])) _
    refine XS.lloadN X12.here hx rfl (hb hby at_177) rfl ?_
    show Steps p.tables e below (T12.setTop (mkF m 178 #[.val (.int p1), .val (.long q2), .second, .val (.long q3), .second, .val (.long q4), .second, .val (.int (2 : Int32)), .val (.long vb), .second, .val (.long vc), .second, .val (.ref b6), .val (.long mm), .second, .val (.long mm), .second] [(.long q2)])) _
    refine XS.lload X12.here hx rfl (hb hby at_178) rfl ?_
    show Steps p.tables e below (T12.setTop (mkF m 180 #[.val (.int p1), .val (.long q2), .second, .val (.long q3), .second, .val (.long q4), .second, .val (.int (2 : Int32)), .val (.long vb), .second, .val (.long vc), .second, .val (.ref b6), .val (.long mm), .second, .val (.long mm), .second] [(.long mm), (.long q2)])) _
    refine XS.lcmp X12.here hx rfl (hb hby at_180) rfl ?_
    show Steps p.tables e below (T12.setTop (mkF m 181 #[.val (.int p1), .val (.long q2), .second, .val (.long q3), .second, .val (.long q4), .second, .val (.int (2 : Int32)), .val (.long vb), .second, .val (.long vc), .second, .val (.ref b6), .val (.long mm), .second, .val (.long mm), .second] [(.int (lcmpW q2 mm))])) _
    refine XS.ifNo X12.here hx rfl (hb hby at_181) rfl ((if0 _ _).trans (teq (((lw_eq _ _).mpr h181) : (lcmpW q2 mm) = (0 : Int32))).2) ?_
    show Steps p.tables e below (T12.setTop (mkF m 184 #[.val (.int p1), .val (.long q2), .second, .val (.long q3), .second, .val (.long q4), .second, .val (.int (2 : Int32)), .val (.long vb), .second, .val (.long vc), .second, .val (.ref b6), .val (.long mm), .second, .val (.long mm), .second] [])) _
    refine XS.aload X12.here hx rfl (hb hby at_184) rfl rfl ?_
    show Steps p.tables e below (T12.setTop (mkF m 186 #[.val (.int p1), .val (.long q2), .second, .val (.long q3), .second, .val (.long q4), .second, .val (.int (2 : Int32)), .val (.long vb), .second, .val (.long vc), .second, .val (.ref b6), .val (.long mm), .second, .val (.long mm), .second] [(.ref b6)])) _
    refine XS.iconst X12.here hx rfl (hb hby at_186) ?_
    show Steps p.tables e below (T12.setTop (mkF m 187 #[.val (.int p1), .val (.long q2), .second, .val (.long q3), .second, .val (.long q4), .second, .val (.int (2 : Int32)), .val (.long vb), .second, .val (.long vc), .second, .val (.ref b6), .val (.long mm), .second, .val (.long mm), .second] [(.int (0 : Int32)), (.ref b6)])) _
    refine X12.ldc2Long hx hown (mvT hZ (hw _ (List.mem_of_getElem? (i := 43) rfl))) (g := (mkF m 187 #[.val (.int p1), .val (.long q2), .second, .val (.long q3), .second, .val (.long q4), .second, .val (.int (2 : Int32)), .val (.long vb), .second, .val (.long vc), .second, .val (.ref b6), .val (.long mm), .second, .val (.long mm), .second] [(.int (0 : Int32)), (.ref b6)])) rfl (hb hby at_187) _ ?_
    show Steps p.tables e below (T12.setTop (mkF m 190 #[.val (.int p1), .val (.long q2), .second, .val (.long q3), .second, .val (.long q4), .second, .val (.int (2 : Int32)), .val (.long vb), .second, .val (.long vc), .second, .val (.ref b6), .val (.long mm), .second, .val (.long mm), .second] [(.long (9223372036854775807 : Int64)), (.int (0 : Int32)), (.ref b6)])) _
    refine st13.trans ?_
    show Steps p.tables e below (T13.setTop (mkF m 193 #[.val (.int p1), .val (.long q2), .second, .val (.long q3), .second, .val (.long q4), .second, .val (.int (2 : Int32)), .val (.long vb), .second, .val (.long vc), .second, .val (.ref b6), .val (.long mm), .second, .val (.long mm), .second] [])) _
    refine XS.iload X13.here hx rfl (hb hby at_193) rfl ?_
    show Steps p.tables e below (T13.setTop (mkF m 195 #[.val (.int p1), .val (.long q2), .second, .val (.long q3), .second, .val (.long q4), .second, .val (.int (2 : Int32)), .val (.long vb), .second, .val (.long vc), .second, .val (.ref b6), .val (.long mm), .second, .val (.long mm), .second] [(.int (2 : Int32))])) _
    refine XS.iconst X13.here hx rfl (hb hby at_195) ?_
    show Steps p.tables e below (T13.setTop (mkF m 196 #[.val (.int p1), .val (.long q2), .second, .val (.long q3), .second, .val (.long q4), .second, .val (.int (2 : Int32)), .val (.long vb), .second, .val (.long vc), .second, .val (.ref b6), .val (.long mm), .second, .val (.long mm), .second] [(.int (2 : Int32)), (.int (2 : Int32))])) _
    refine XS.icmpNo X13.here hx rfl (hb hby at_196) rfl (flt hc196).1 ?_
    show Steps p.tables e below (T13.setTop (mkF m 199 #[.val (.int p1), .val (.long q2), .second, .val (.long q3), .second, .val (.long q4), .second, .val (.int (2 : Int32)), .val (.long vb), .second, .val (.long vc), .second, .val (.ref b6), .val (.long mm), .second, .val (.long mm), .second] [])) _
    refine XS.lload X13.here hx rfl (hb hby at_199) rfl ?_
    show Steps p.tables e below (T13.setTop (mkF m 201 #[.val (.int p1), .val (.long q2), .second, .val (.long q3), .second, .val (.long q4), .second, .val (.int (2 : Int32)), .val (.long vb), .second, .val (.long vc), .second, .val (.ref b6), .val (.long mm), .second, .val (.long mm), .second] [(.long vb)])) _
    refine XS.lload X13.here hx rfl (hb hby at_201) rfl ?_
    show Steps p.tables e below (T13.setTop (mkF m 203 #[.val (.int p1), .val (.long q2), .second, .val (.long q3), .second, .val (.long q4), .second, .val (.int (2 : Int32)), .val (.long vb), .second, .val (.long vc), .second, .val (.ref b6), .val (.long mm), .second, .val (.long mm), .second] [(.long mm), (.long vb)])) _
    refine XS.lcmp X13.here hx rfl (hb hby at_203) rfl ?_
    show Steps p.tables e below (T13.setTop (mkF m 204 #[.val (.int p1), .val (.long q2), .second, .val (.long q3), .second, .val (.long q4), .second, .val (.int (2 : Int32)), .val (.long vb), .second, .val (.long vc), .second, .val (.ref b6), .val (.long mm), .second, .val (.long mm), .second] [(.int (lcmpW vb mm))])) _
    refine XS.ifYes X13.here hx rfl (pc0 := 204) (pc' := 216) rfl (hb hby at_204) rfl ((if0 _ _).trans (feq ((fun q => h204 ((lw_eq _ _).mp q)) : ¬ ((lcmpW vb mm) = (0 : Int32)))).2) (by decide) (by decide) ?_
    show Steps p.tables e below (T13.setTop (mkF m 216 #[.val (.int p1), .val (.long q2), .second, .val (.long q3), .second, .val (.long q4), .second, .val (.int (2 : Int32)), .val (.long vb), .second, .val (.long vc), .second, .val (.ref b6), .val (.long mm), .second, .val (.long mm), .second] [])) _
    refine XS.iload X13.here hx rfl (hb hby at_216) rfl ?_
    show Steps p.tables e below (T13.setTop (mkF m 218 #[.val (.int p1), .val (.long q2), .second, .val (.long q3), .second, .val (.long q4), .second, .val (.int (2 : Int32)), .val (.long vb), .second, .val (.long vc), .second, .val (.ref b6), .val (.long mm), .second, .val (.long mm), .second] [(.int (2 : Int32))])) _
    refine XS.iconst X13.here hx rfl (hb hby at_218) ?_
    show Steps p.tables e below (T13.setTop (mkF m 219 #[.val (.int p1), .val (.long q2), .second, .val (.long q3), .second, .val (.long q4), .second, .val (.int (2 : Int32)), .val (.long vb), .second, .val (.long vc), .second, .val (.ref b6), .val (.long mm), .second, .val (.long mm), .second] [(.int (3 : Int32)), (.int (2 : Int32))])) _
    refine XS.icmpYes X13.here hx rfl (pc0 := 219) (pc' := 239) rfl (hb hby at_219) rfl (tlt hc219).1 (by decide) (by decide) ?_
    show Steps p.tables e below (T13.setTop (mkF m 239 #[.val (.int p1), .val (.long q2), .second, .val (.long q3), .second, .val (.long q4), .second, .val (.int (2 : Int32)), .val (.long vb), .second, .val (.long vc), .second, .val (.ref b6), .val (.long mm), .second, .val (.long mm), .second] [])) _
    refine XS.aload X13.here hx rfl (hb hby at_239) rfl rfl ?_
    show Steps p.tables e below (T13.setTop (mkF m 241 #[.val (.int p1), .val (.long q2), .second, .val (.long q3), .second, .val (.long q4), .second, .val (.int (2 : Int32)), .val (.long vb), .second, .val (.long vc), .second, .val (.ref b6), .val (.long mm), .second, .val (.long mm), .second] [(.ref b6)])) _
    refine st14.trans ?_
    show Steps p.tables e below (T14.setTop (mkF m 244 #[.val (.int p1), .val (.long q2), .second, .val (.long q3), .second, .val (.long q4), .second, .val (.int (2 : Int32)), .val (.long vb), .second, .val (.long vc), .second, .val (.ref b6), .val (.long mm), .second, .val (.long mm), .second] [(.int (1 : Int32))])) _
    exact retN X14 hx (t := .boolean) Bd.returns (by simp) (hb hby at_244) hr
  · show Q0 Z p1 q2 q3 q4 h0 n0 _ T14.heap _
    exact ⟨rfl, N14⟩
set_option maxRecDepth 65536 in
set_option maxHeartbeats 40000000 in
theorem rm0_2ny (l : Launch) (Z : State) (a0 : Array Value) (hw : ∀ d ∈ tables_1, d.before a0 Z = true) (ws : List Jvm.Cond) (p1 : Int32) (q2 : Int64) (q3 : Int64) (q4 : Int64) (h0 : Heap) (n0 : Nat) (Z0 : n0 ≤ h0.size) (vb vc mm : Int64) (hn : own_n p1 = 2) (hvb : own_vb p1 q2 q3 = vb) (hvc : own_vc p1 q2 q3 q4 = vc) (hm : mm = (own_mn q2 vb)) (h160 : ¬ (mm = (9223372036854775807 : Int64))) (h181 : ¬ (q2 = mm)) (h204 : vb = mm) :
    MetFree l x (head1 (Jvm.Cond.code x code maxLocals ret :: ws) room_1) (fun a U => a = #[(.int p1), (.long q2), (.long q3), (.long q4)] ∧ Z.Warmed39 U.vm ∧ U.heap = h0) (fun _ _ _ _ _ => True) (fun _ U o U' => ∃ v L, o = .returned v ∧ Q0 Z p1 q2 q3 q4 h0 n0 v U'.heap L ∧ FrameEnd U o U' L room_1.cells room_1.slots) := by
  refine MetFree.of_bodySF (plainFor_of_name pn_0) hisR ?_
  intro p e s m args below meth c s₁ Bd hml0 hP hK
  obtain ⟨rfl, hZ, hh⟩ := hP
  have hx := Bd.exec
  have hby := Bd.bytes
  have hml : c.maxLocals = 17 := hml0
  have hown : s.vm.findClass "com/example/mullion/mullion/aggregators/FurthestBackFindSmallestPinLaw" = some m.cls := findClass_of_methodNamed Bd.named
  have hnm := (name_of_methodNamed Bd.named Bd.method).1
  have X0 : Stand p l e room_1 s m #[(.int p1), (.long q2), (.long q3), (.long q4)] below meth c s₁ [] 0 0 := Stand.of_body Bd
  have e0 : s₁.heap = h0 := by rw [← hh, Bd.state]; rfl
  have N0 := Fr.nil n0
  have pre0 : ∀ t, Steps p.tables e below (s₁.setTop (mkF m 0 #[.val (.int p1), .val (.long q2), .second, .val (.long q3), .second, .val (.long q4), .second, .unset, .unset, .unset, .unset, .unset, .unset, .unset, .unset, .unset, .unset] [])) t → Steps p.tables e below (s₁.setTop (entryFrame m #[(.int p1), (.long q2), (.long q3), (.long q4)] maxLocals)) t := fun t k => castTop (ef_0 m p1 q2 q3 q4) k
  have hc66 : ¬ ((2 : Int32) < (2 : Int32)) := (by decide)
  have hc80 : (2 : Int32) < (3 : Int32) := (by decide)
  have hc97 : ¬ ((2 : Int32) < (2 : Int32)) := (by decide)
  have hc112 : (2 : Int32) < (3 : Int32) := (by decide)
  have hc196 : ¬ ((2 : Int32) < (2 : Int32)) := (by decide)
  have hc219 : (2 : Int32) < (3 : Int32) := (by decide)
  obtain ⟨T5, X5, e5, st5⟩ := own_j0 p1 q2 q3 q4 (2 : Int32) vb vc hn hvb hvc X0 hx hZ hw hby hml hown e0
  obtain ⟨T6, h6, X6, e6, E6, A6, D6, -, st6⟩ := newO X5 hx hZ hown (hw _ (List.mem_of_getElem? (i := 1) rfl)) (hw _ (List.mem_of_getElem? (i := 2) rfl)) (hw _ (List.mem_of_getElem? (i := 3) rfl)) e5 (g := (mkF m 42 #[.val (.int p1), .val (.long q2), .second, .val (.long q3), .second, .val (.long q4), .second, .val (.int (2 : Int32)), .val (.long vb), .second, .val (.long vc), .second, .unset, .unset, .unset, .unset, .unset] [])) rfl (hb hby at_42) (by decide) (by decide)
  obtain ⟨b6, g6⟩ : ∃ z, z = h0.size := ⟨_, rfl⟩
  rw [← g6] at A6 D6 st6
  have F_values_b6 : Fld Z h6 b6 "com/example/mullion/mullion/aggregators/FurthestBack" "values" "[J" .null := D6 (Or.inr (hw _ (List.mem_of_getElem? (i := 13) rfl))) (ty := (.array .long)) (by decide)
  have F_mark_b6 : Fld Z h6 b6 "com/example/mullion/mullion/aggregators/FurthestBack" "mark" "J" (.long (0 : Int64)) := D6 (Or.inl (hw _ (List.mem_of_getElem? (i := 24) rfl))) (ty := .long) (by decide)
  have F_atOrBelowMark_b6 : Fld Z h6 b6 "com/example/mullion/mullion/aggregators/FurthestBack" "atOrBelowMark" "I" (.int (0 : Int32)) := D6 (Or.inl (hw _ (List.mem_of_getElem? (i := 26) rfl))) (ty := .int) (by decide)
  have E_b6 := A6
  have g_b6 : n0 ≤ b6 := Nat.le_trans Z0 (Nat.le_of_eq g6.symm)
  have sz_b6 : h0.size ≤ b6 := (Nat.le_trans (Keep.refl h0 []).1 (Nat.le_of_eq g6.symm))
  have K6 : Keep h0 h6 [] := (Keep.refl h0 []).ext E6
  obtain ⟨_, _, ⟨T7, L7, k7, n7⟩, -, X7, ⟨Lc7, hQ7, l7, y7, z7⟩, st7⟩ := X6.specialBack hx (y := (⟨"com/example/mullion/mullion/aggregators/FurthestBack", "<init>", "(IJ)V"⟩ : MethodName)) rfl hown (mvT hZ (hw _ (List.mem_of_getElem? (i := 5) rfl))) (mvT hZ (hw _ (List.mem_of_getElem? (i := 6) rfl))) (mvT hZ (hw _ (List.mem_of_getElem? (i := 7) rfl))) (by decide) (backOf (W := 1) (rm1 l Z a0 hw [] b6 (2 : Int32) (-9223372036854775808 : Int64) 2 h6 n0 (Nat.le_trans Z0 E6.1) (by decide) rfl (by decide) E_b6 F_values_b6 F_mark_b6 F_atOrBelowMark_b6 g_b6) hZ (hw _ (List.mem_of_getElem? (i := 7) rfl)) (hw _ (List.mem_of_getElem? (i := 3) rfl)) (by decide) (by decide)) (g := (mkF m 51 #[.val (.int p1), .val (.long q2), .second, .val (.long q3), .second, .val (.long q4), .second, .val (.int (2 : Int32)), .val (.long vb), .second, .val (.long vc), .second, .unset, .unset, .unset, .unset, .unset] [(.long (-9223372036854775808 : Int64)), (.int (2 : Int32)), (.ref b6), (.ref b6)])) rfl (by rw [hml]; rfl) (Steps.refl _) (a := b6) (argsL := [(.int (2 : Int32)), (.long (-9223372036854775808 : Int64))]) (rest := [(.ref b6)]) (lenOf pd_0_0 rfl) rfl (by show 2 * 0 + _ ≤ _; exact Nat.le_of_eq rfl) (hb hby at_51) (fun _ _ => ⟨rfl, e6, (by decide : 1 + 1 ≤ _), (by decide : 3 + 3 ≤ _)⟩)
  dsimp only [Pt.U, Pt.locs, Pt.cells, Pt.slots] at X7 l7 y7 z7 st7 hQ7
  subst l7 y7 z7
  obtain ⟨rfl, N7q, K7q, t, st, E7q, Fv7q, Fm7q, Fa7q, V7q⟩ := hQ7
  have N7 := Fr.app N0 N7q
  have z7q : n0 ≤ T7.heap.size := Nat.le_trans (Nat.le_trans Z0 E6.1) K7q.1
  have hne : b6 ≠ t := Nat.ne_of_lt (Nat.lt_of_lt_of_le E_b6.lt st)
  have g_t : n0 ≤ t := Nat.le_trans (Nat.le_trans Z0 E6.1) st
  obtain ⟨cq8, kq8, q8a, q8b, q8c⟩ := isOf hZ rfl E7q
  obtain ⟨_, _, ⟨T8, L8, k8, n8⟩, -, X8, ⟨Lc8, hQ8, l8, y8, z8⟩, st8⟩ := X7.virtualBack hx (y := (⟨"com/example/mullion/mullion/aggregators/FurthestBack", "moveOn", "(IJ)V"⟩ : MethodName)) (z := (⟨"com/example/mullion/mullion/aggregators/FurthestBack", "moveOn", "(IJ)V"⟩ : MethodName)) hown (mvT hZ (hw _ (List.mem_of_getElem? (i := 27) rfl))) (mvT hZ (hw _ (List.mem_of_getElem? (i := 28) rfl))) (notFace_of_selects (args := #[]) (mvT hZ (hw _ (List.mem_of_getElem? (i := 30) rfl)))) (mvT hZ (hw _ (List.mem_of_getElem? (i := 30) rfl))) (mvT hZ (hw _ (List.mem_of_getElem? (i := 29) rfl))) (by decide) (backOf (W := 0) (rm5 l Z a0 hw [] b6 (0 : Int32) q2 t 2 _ 0 _ _ T7.heap n0 z7q rfl (by decide) (by decide) E7q Fv7q Fm7q Fa7q V7q hne g_b6 g_t) hZ (hw _ (List.mem_of_getElem? (i := 31) rfl)) (hw _ (List.mem_of_getElem? (i := 3) rfl)) (by decide) (by decide)) q8a q8c (g := (mkF m 60 #[.val (.int p1), .val (.long q2), .second, .val (.long q3), .second, .val (.long q4), .second, .val (.int (2 : Int32)), .val (.long vb), .second, .val (.long vc), .second, .val (.ref b6), .unset, .unset, .unset, .unset] [(.long q2), (.int (0 : Int32)), (.ref b6)])) rfl (by rw [hml]; rfl) (Steps.refl _) (argsL := [(.int (0 : Int32)), (.long q2)]) (rest := []) (lenOf pd_0_0 rfl) rfl (by show 2 * 0 + _ ≤ _; exact Nat.le_of_eq rfl) (hb hby at_60) (fun _ _ => ⟨rfl, rfl, (by decide : 2 + 0 ≤ _), (by decide : 6 + 0 ≤ _)⟩)
  dsimp only [Pt.U, Pt.locs, Pt.cells, Pt.slots] at X8 l8 y8 z8 st8 hQ8
  subst l8 y8 z8
  obtain ⟨rfl, N8q, K8q, E8q, Fv8q, Fm8q, Fa8q, V8q⟩ := hQ8
  have N8 := Fr.app N7 N8q
  have z8q : n0 ≤ T8.heap.size := Nat.le_trans z7q K8q.1
  obtain ⟨cq9, kq9, q9a, q9b, q9c⟩ := isOf hZ rfl E8q
  obtain ⟨_, _, ⟨T9, L9, k9, n9⟩, -, X9, ⟨Lc9, hQ9, l9, y9, z9⟩, st9⟩ := X8.virtualBack hx (y := (⟨"com/example/mullion/mullion/aggregators/FurthestBack", "moveOn", "(IJ)V"⟩ : MethodName)) (z := (⟨"com/example/mullion/mullion/aggregators/FurthestBack", "moveOn", "(IJ)V"⟩ : MethodName)) hown (mvT hZ (hw _ (List.mem_of_getElem? (i := 27) rfl))) (mvT hZ (hw _ (List.mem_of_getElem? (i := 28) rfl))) (notFace_of_selects (args := #[]) (mvT hZ (hw _ (List.mem_of_getElem? (i := 30) rfl)))) (mvT hZ (hw _ (List.mem_of_getElem? (i := 30) rfl))) (mvT hZ (hw _ (List.mem_of_getElem? (i := 29) rfl))) (by decide) (backOf (W := 0) (rm5 l Z a0 hw [] b6 (1 : Int32) vb t 2 _ 1 _ _ T8.heap n0 z8q rfl (by decide) (by decide) E8q Fv8q Fm8q Fa8q V8q hne g_b6 g_t) hZ (hw _ (List.mem_of_getElem? (i := 31) rfl)) (hw _ (List.mem_of_getElem? (i := 3) rfl)) (by decide) (by decide)) q9a q9c (g := (mkF m 74 #[.val (.int p1), .val (.long q2), .second, .val (.long q3), .second, .val (.long q4), .second, .val (.int (2 : Int32)), .val (.long vb), .second, .val (.long vc), .second, .val (.ref b6), .unset, .unset, .unset, .unset] [(.long vb), (.int (1 : Int32)), (.ref b6)])) rfl (by rw [hml]; rfl) (Steps.refl _) (argsL := [(.int (1 : Int32)), (.long vb)]) (rest := []) (lenOf pd_0_0 rfl) rfl (by show 2 * 0 + _ ≤ _; exact Nat.le_of_eq rfl) (hb hby at_74) (fun _ _ => ⟨rfl, rfl, (by decide : 2 + 0 ≤ _), (by decide : 6 + 0 ≤ _)⟩)
  dsimp only [Pt.U, Pt.locs, Pt.cells, Pt.slots] at X9 l9 y9 z9 st9 hQ9
  subst l9 y9 z9
  obtain ⟨rfl, N9q, K9q, E9q, Fv9q, Fm9q, Fa9q, V9q⟩ := hQ9
  have N9 := Fr.app N8 N9q
  have z9q : n0 ≤ T9.heap.size := Nat.le_trans z8q K9q.1
  obtain ⟨_, _, ⟨T10, L10, k10, n10⟩, -, X10, ⟨Lc10, hQ10, l10, y10, z10⟩, st10⟩ := Jvm.LawKit.callS X9 hx (y := (⟨"java/lang/Math", "min", "(JJ)J"⟩ : MethodName)) hown (mvT hZ (hw _ (List.mem_of_getElem? (i := 49) rfl))) (mvT hZ (hw _ (List.mem_of_getElem? (i := 50) rfl))) (mvT hZ (hw _ (List.mem_of_getElem? (i := 51) rfl))) (mvT hZ (hw _ (List.mem_of_getElem? (i := 52) rfl))) (by decide) (backOf (W := 0) (rm9 l Z a0 hw [] q2 vb  T9.heap n0 z9q) hZ (hw _ (List.mem_of_getElem? (i := 52) rfl)) (hw _ (List.mem_of_getElem? (i := 51) rfl)) (by decide) (by decide)) (g := (mkF m 104 #[.val (.int p1), .val (.long q2), .second, .val (.long q3), .second, .val (.long q4), .second, .val (.int (2 : Int32)), .val (.long vb), .second, .val (.long vc), .second, .val (.ref b6), .val (.long q2), .second, .unset, .unset] [(.long vb), (.long q2)])) rfl (by rw [hml]; rfl) (argsL := [(.long q2), (.long vb)]) (rest := []) (lenOf pd_0_6 rfl) rfl (by show 2 * 0 + _ ≤ _; exact Nat.le_of_eq rfl) (hb hby at_104) (fun _ _ => ⟨rfl, rfl, (by decide : 2 + 0 ≤ _), (by decide : 6 + 0 ≤ _)⟩)
  dsimp only [Pt.U, Pt.locs, Pt.cells, Pt.slots] at X10 l10 y10 z10 st10 hQ10
  subst l10 y10 z10
  obtain ⟨hv10, N10q, e10q⟩ := hQ10
  have N10 := Fr.app N9 N10q
  rw [← hm] at hv10
  subst hv10
  have z10q : n0 ≤ T10.heap.size := by rw [e10q]; exact z9q
  have E10q := E9q
  rw [← e10q] at E10q
  have Fv10q := Fv9q
  rw [← e10q] at Fv10q
  have Fm10q := Fm9q
  rw [← e10q] at Fm10q
  have Fa10q := Fa9q
  rw [← e10q] at Fa10q
  have V10q := V9q
  rw [← e10q] at V10q
  obtain ⟨cq11, kq11, q11a, q11b, q11c⟩ := isOf hZ rfl E10q
  obtain ⟨_, _, ⟨T11, L11, k11, n11⟩, -, X11, ⟨Lc11, hQ11, l11, y11, z11⟩, st11⟩ := X10.virtualBack hx (y := (⟨"com/example/mullion/mullion/aggregators/FurthestBack", "findSmallest", "()J"⟩ : MethodName)) (z := (⟨"com/example/mullion/mullion/aggregators/FurthestBack", "findSmallest", "()J"⟩ : MethodName)) hown (mvT hZ (hw _ (List.mem_of_getElem? (i := 32) rfl))) (mvT hZ (hw _ (List.mem_of_getElem? (i := 33) rfl))) (notFace_of_selects (args := #[]) (mvT hZ (hw _ (List.mem_of_getElem? (i := 35) rfl)))) (mvT hZ (hw _ (List.mem_of_getElem? (i := 35) rfl))) (mvT hZ (hw _ (List.mem_of_getElem? (i := 34) rfl))) (by decide) (backOf (W := 0) (rm6 l Z a0 hw [] b6 t 2 (fun j => if j = 1 then vb else if j = 0 then q2 else (-9223372036854775808 : Int64)) _ _ T10.heap n0 z10q (by decide) E10q Fv10q Fm10q Fa10q V10q hne g_b6) hZ (hw _ (List.mem_of_getElem? (i := 36) rfl)) (hw _ (List.mem_of_getElem? (i := 3) rfl)) (by decide) (by decide)) q11a q11c (g := (mkF m 126 #[.val (.int p1), .val (.long q2), .second, .val (.long q3), .second, .val (.long q4), .second, .val (.int (2 : Int32)), .val (.long vb), .second, .val (.long vc), .second, .val (.ref b6), .val (.long mm), .second, .unset, .unset] [(.ref b6)])) rfl (by rw [hml]; rfl) (Steps.refl _) (argsL := []) (rest := []) (lenOf pd_0_4 rfl) rfl (by show 2 * 0 + _ ≤ _; exact Nat.le_of_eq rfl) (hb hby at_126) (fun _ _ => ⟨rfl, rfl, (by decide : 2 + 0 ≤ _), (by decide : 6 + 0 ≤ _)⟩)
  dsimp only [Pt.U, Pt.locs, Pt.cells, Pt.slots] at X11 l11 y11 z11 st11 hQ11
  subst l11 y11 z11
  obtain ⟨hv11, N11q, K11q, E11q, Fv11q, Fm11q, Fa11q, V11q⟩ := hQ11
  have N11 := Fr.app N10 N11q
  have z11q : n0 ≤ T11.heap.size := Nat.le_trans z10q K11q.1
  have hfs : own_fs (fun j => if j = 1 then vb else if j = 0 then q2 else (-9223372036854775808 : Int64)) 2 0 ((9223372036854775807 : Int64), (0 : Int32)) = (mm, (own_is q2 mm + own_is vb mm)) := by show own_step (own_step ((9223372036854775807 : Int64), 0) q2) vb = _; rw [own_first, hm]; exact own_second q2 vb
  rw [hfs] at hv11
  replace hv11 : _ = some (Value.long mm) := hv11
  subst hv11
  have Gm11q : Fld Z T11.heap b6 "com/example/mullion/mullion/aggregators/FurthestBack" "mark" "J" (.long mm) := by have q := Fm11q; rw [hfs] at q; exact q
  have Ga11q : Fld Z T11.heap b6 "com/example/mullion/mullion/aggregators/FurthestBack" "atOrBelowMark" "I" (.int (own_is q2 mm + own_is vb mm)) := by have q := Fa11q; rw [hfs] at q; exact q
  obtain ⟨cq12, kq12, q12a, q12b, q12c⟩ := isOf hZ rfl E11q
  obtain ⟨_, _, ⟨T12, L12, k12, n12⟩, -, X12, ⟨Lc12, hQ12, l12, y12, z12⟩, st12⟩ := X11.virtualBack hx (y := (⟨"com/example/mullion/mullion/aggregators/FurthestBack", "mark", "()J"⟩ : MethodName)) (z := (⟨"com/example/mullion/mullion/aggregators/FurthestBack", "mark", "()J"⟩ : MethodName)) hown (mvT hZ (hw _ (List.mem_of_getElem? (i := 38) rfl))) (mvT hZ (hw _ (List.mem_of_getElem? (i := 39) rfl))) (notFace_of_selects (args := #[]) (mvT hZ (hw _ (List.mem_of_getElem? (i := 41) rfl)))) (mvT hZ (hw _ (List.mem_of_getElem? (i := 41) rfl))) (mvT hZ (hw _ (List.mem_of_getElem? (i := 40) rfl))) (by decide) (backOf (W := 0) (rm7 l Z a0 hw [] b6 mm T11.heap n0 z11q Gm11q) hZ (hw _ (List.mem_of_getElem? (i := 42) rfl)) (hw _ (List.mem_of_getElem? (i := 3) rfl)) (by decide) (by decide)) q12a q12c (g := (mkF m 143 #[.val (.int p1), .val (.long q2), .second, .val (.long q3), .second, .val (.long q4), .second, .val (.int (2 : Int32)), .val (.long vb), .second, .val (.long vc), .second, .val (.ref b6), .val (.long mm), .second, .val (.long mm), .second] [(.ref b6)])) rfl (by rw [hml]; rfl) (Steps.refl _) (argsL := []) (rest := []) (lenOf pd_0_4 rfl) rfl (by show 2 * 0 + _ ≤ _; exact Nat.le_of_eq rfl) (hb hby at_143) (fun _ _ => ⟨rfl, rfl, (by decide : 2 + 0 ≤ _), (by decide : 6 + 0 ≤ _)⟩)
  dsimp only [Pt.U, Pt.locs, Pt.cells, Pt.slots] at X12 l12 y12 z12 st12 hQ12
  subst l12 y12 z12
  obtain ⟨rfl, N12q, e12q⟩ := hQ12
  have N12 := Fr.app N11 N12q
  have z12q : n0 ≤ T12.heap.size := by rw [e12q]; exact z11q
  have E12q := E11q
  rw [← e12q] at E12q
  have Fv12q := Fv11q
  rw [← e12q] at Fv12q
  have Fm12q := Gm11q
  rw [← e12q] at Fm12q
  have Fa12q := Ga11q
  rw [← e12q] at Fa12q
  have V12q := V11q
  rw [← e12q] at V12q
  obtain ⟨cq13, kq13, q13a, q13b, q13c⟩ := isOf hZ rfl E12q
  obtain ⟨_, _, ⟨T13, L13, k13, n13⟩, -, X13, ⟨Lc13, hQ13, l13, y13, z13⟩, st13⟩ := X12.virtualBack hx (y := (⟨"com/example/mullion/mullion/aggregators/FurthestBack", "moveOn", "(IJ)V"⟩ : MethodName)) (z := (⟨"com/example/mullion/mullion/aggregators/FurthestBack", "moveOn", "(IJ)V"⟩ : MethodName)) hown (mvT hZ (hw _ (List.mem_of_getElem? (i := 27) rfl))) (mvT hZ (hw _ (List.mem_of_getElem? (i := 28) rfl))) (notFace_of_selects (args := #[]) (mvT hZ (hw _ (List.mem_of_getElem? (i := 30) rfl)))) (mvT hZ (hw _ (List.mem_of_getElem? (i := 30) rfl))) (mvT hZ (hw _ (List.mem_of_getElem? (i := 29) rfl))) (by decide) (backOf (W := 0) (rm5 l Z a0 hw [] b6 (1 : Int32) (9223372036854775807 : Int64) t 2 _ 1 _ _ T12.heap n0 z12q rfl (by decide) (by decide) E12q Fv12q Fm12q Fa12q V12q hne g_b6 g_t) hZ (hw _ (List.mem_of_getElem? (i := 31) rfl)) (hw _ (List.mem_of_getElem? (i := 3) rfl)) (by decide) (by decide)) q13a q13c (g := (mkF m 213 #[.val (.int p1), .val (.long q2), .second, .val (.long q3), .second, .val (.long q4), .second, .val (.int (2 : Int32)), .val (.long vb), .second, .val (.long vc), .second, .val (.ref b6), .val (.long mm), .second, .val (.long mm), .second] [(.long (9223372036854775807 : Int64)), (.int (1 : Int32)), (.ref b6)])) rfl (by rw [hml]; rfl) (Steps.refl _) (argsL := [(.int (1 : Int32)), (.long (9223372036854775807 : Int64))]) (rest := []) (lenOf pd_0_0 rfl) rfl (by show 2 * 0 + _ ≤ _; exact Nat.le_of_eq rfl) (hb hby at_213) (fun _ _ => ⟨rfl, rfl, (by decide : 2 + 0 ≤ _), (by decide : 6 + 0 ≤ _)⟩)
  dsimp only [Pt.U, Pt.locs, Pt.cells, Pt.slots] at X13 l13 y13 z13 st13 hQ13
  subst l13 y13 z13
  obtain ⟨rfl, N13q, K13q, E13q, Fv13q, Fm13q, Fa13q, V13q⟩ := hQ13
  have N13 := Fr.app N12 N13q
  have z13q : n0 ≤ T13.heap.size := Nat.le_trans z12q K13q.1
  have Fb13q : Fld Z T13.heap b6 "com/example/mullion/mullion/aggregators/FurthestBack" "atOrBelowMark" "I" (.int ((own_is q2 mm + own_is vb mm) - (1 : Int32))) := by
    have q : Fld Z T13.heap b6 "com/example/mullion/mullion/aggregators/FurthestBack" "atOrBelowMark" "I" (.int (own_mv vb (9223372036854775807 : Int64) mm (own_is q2 mm + own_is vb mm))) := Fa13q
    rw [own_mv_dec (x := vb) (m := mm) h204 h160] at q
    exact q
  obtain ⟨cq14, kq14, q14a, q14b, q14c⟩ := isOf hZ rfl E13q
  obtain ⟨_, _, ⟨T14, L14, k14, n14⟩, -, X14, ⟨Lc14, hQ14, l14, y14, z14⟩, st14⟩ := X13.virtualBack hx (y := (⟨"com/example/mullion/mullion/aggregators/FurthestBack", "allMovedOn", "()Z"⟩ : MethodName)) (z := (⟨"com/example/mullion/mullion/aggregators/FurthestBack", "allMovedOn", "()Z"⟩ : MethodName)) hown (mvT hZ (hw _ (List.mem_of_getElem? (i := 44) rfl))) (mvT hZ (hw _ (List.mem_of_getElem? (i := 45) rfl))) (notFace_of_selects (args := #[]) (mvT hZ (hw _ (List.mem_of_getElem? (i := 47) rfl)))) (mvT hZ (hw _ (List.mem_of_getElem? (i := 47) rfl))) (mvT hZ (hw _ (List.mem_of_getElem? (i := 46) rfl))) (by decide) (backOf (W := 0) (rm8_f l Z a0 hw [] b6 ((own_is q2 mm + own_is vb mm) - (1 : Int32)) T13.heap n0 z13q Fb13q (by unfold own_is; rw [if_neg h181, if_pos h204]; decide)) hZ (hw _ (List.mem_of_getElem? (i := 48) rfl)) (hw _ (List.mem_of_getElem? (i := 3) rfl)) (by decide) (by decide)) q14a q14c (g := (mkF m 241 #[.val (.int p1), .val (.long q2), .second, .val (.long q3), .second, .val (.long q4), .second, .val (.int (2 : Int32)), .val (.long vb), .second, .val (.long vc), .second, .val (.ref b6), .val (.long mm), .second, .val (.long mm), .second] [(.ref b6)])) rfl (by rw [hml]; rfl) (Steps.refl _) (argsL := []) (rest := []) (lenOf pd_0_5 rfl) rfl (by show 2 * 0 + _ ≤ _; exact Nat.le_of_eq rfl) (hb hby at_241) (fun _ _ => ⟨rfl, rfl, (by decide : 2 + 0 ≤ _), (by decide : 6 + 0 ≤ _)⟩)
  dsimp only [Pt.U, Pt.locs, Pt.cells, Pt.slots] at X14 l14 y14 z14 st14 hQ14
  subst l14 y14 z14
  obtain ⟨rfl, N14q, e14q⟩ := hQ14
  have N14 := Fr.app N13 N14q
  have z14q : n0 ≤ T14.heap.size := by rw [e14q]; exact z13q
  have E14q := E13q
  rw [← e14q] at E14q
  have Fv14q := Fv13q
  rw [← e14q] at Fv14q
  have Fm14q := Fm13q
  rw [← e14q] at Fm14q
  have Fa14q := Fb13q
  rw [← e14q] at Fa14q
  have V14q := V13q
  rw [← e14q] at V14q
  obtain ⟨fs, hr, hrun, hended, hW, hsame⟩ := X14.leave (v := some (.int (1 : Int32))) (fun h => by rw [Bd.returns] at h; cases h)
  refine ⟨_, _, pre0 _ ?_, hrun, hended, _, _, rfl, ?_, ⟨_, rfl⟩, hW, hsame.mono (by decide) (by decide)⟩
  · show Steps p.tables e below (s₁.setTop (mkF m 0 #[.val (.int p1), .val (.long q2), .second, .val (.long q3), .second, .val (.long q4), .second, .unset, .unset, .unset, .unset, .unset, .unset, .unset, .unset, .unset, .unset] [])) _
    refine st5 _ ?_
    show Steps p.tables e below (T5.setTop (mkF m 42 #[.val (.int p1), .val (.long q2), .second, .val (.long q3), .second, .val (.long q4), .second, .val (.int (2 : Int32)), .val (.long vb), .second, .val (.long vc), .second, .unset, .unset, .unset, .unset, .unset] [])) _
    refine st6 _ ?_
    show Steps p.tables e below (T6.setTop (mkF m 45 #[.val (.int p1), .val (.long q2), .second, .val (.long q3), .second, .val (.long q4), .second, .val (.int (2 : Int32)), .val (.long vb), .second, .val (.long vc), .second, .unset, .unset, .unset, .unset, .unset] [(.ref b6)])) _
    refine XS.dup X6.here hx rfl (hb hby at_45) rfl rfl ?_
    show Steps p.tables e below (T6.setTop (mkF m 46 #[.val (.int p1), .val (.long q2), .second, .val (.long q3), .second, .val (.long q4), .second, .val (.int (2 : Int32)), .val (.long vb), .second, .val (.long vc), .second, .unset, .unset, .unset, .unset, .unset] [(.ref b6), (.ref b6)])) _
    refine XS.iload X6.here hx rfl (hb hby at_46) rfl ?_
    show Steps p.tables e below (T6.setTop (mkF m 48 #[.val (.int p1), .val (.long q2), .second, .val (.long q3), .second, .val (.long q4), .second, .val (.int (2 : Int32)), .val (.long vb), .second, .val (.long vc), .second, .unset, .unset, .unset, .unset, .unset] [(.int (2 : Int32)), (.ref b6), (.ref b6)])) _
    refine X6.ldc2Long hx hown (mvT hZ (hw _ (List.mem_of_getElem? (i := 4) rfl))) (g := (mkF m 48 #[.val (.int p1), .val (.long q2), .second, .val (.long q3), .second, .val (.long q4), .second, .val (.int (2 : Int32)), .val (.long vb), .second, .val (.long vc), .second, .unset, .unset, .unset, .unset, .unset] [(.int (2 : Int32)), (.ref b6), (.ref b6)])) rfl (hb hby at_48) _ ?_
    show Steps p.tables e below (T6.setTop (mkF m 51 #[.val (.int p1), .val (.long q2), .second, .val (.long q3), .second, .val (.long q4), .second, .val (.int (2 : Int32)), .val (.long vb), .second, .val (.long vc), .second, .unset, .unset, .unset, .unset, .unset] [(.long (-9223372036854775808 : Int64)), (.int (2 : Int32)), (.ref b6), (.ref b6)])) _
    refine st7.trans ?_
    show Steps p.tables e below (T7.setTop (mkF m 54 #[.val (.int p1), .val (.long q2), .second, .val (.long q3), .second, .val (.long q4), .second, .val (.int (2 : Int32)), .val (.long vb), .second, .val (.long vc), .second, .unset, .unset, .unset, .unset, .unset] [(.ref b6)])) _
    refine XS.astore X7.here hx rfl (hb hby at_54) rfl rfl (l' := #[.val (.int p1), .val (.long q2), .second, .val (.long q3), .second, .val (.long q4), .second, .val (.int (2 : Int32)), .val (.long vb), .second, .val (.long vc), .second, .val (.ref b6), .unset, .unset, .unset, .unset]) rfl ?_
    show Steps p.tables e below (T7.setTop (mkF m 56 #[.val (.int p1), .val (.long q2), .second, .val (.long q3), .second, .val (.long q4), .second, .val (.int (2 : Int32)), .val (.long vb), .second, .val (.long vc), .second, .val (.ref b6), .unset, .unset, .unset, .unset] [])) _
    refine XS.aload X7.here hx rfl (hb hby at_56) rfl rfl ?_
    show Steps p.tables e below (T7.setTop (mkF m 58 #[.val (.int p1), .val (.long q2), .second, .val (.long q3), .second, .val (.long q4), .second, .val (.int (2 : Int32)), .val (.long vb), .second, .val (.long vc), .second, .val (.ref b6), .unset, .unset, .unset, .unset] [(.ref b6)])) _
    refine XS.iconst X7.here hx rfl (hb hby at_58) ?_
    show Steps p.tables e below (T7.setTop (mkF m 59 #[.val (.int p1), .val (.long q2), .second, .val (.long q3), .second, .val (.long q4), .second, .val (.int (2 : Int32)), .val (.long vb), .second, .val (.long vc), .second, .val (.ref b6), .unset, .unset, .unset, .unset] [(.int (0 : Int32)), (.ref b6)])) _
    refine XS.lloadN X7.here hx rfl (hb hby at_59) rfl ?_
    show Steps p.tables e below (T7.setTop (mkF m 60 #[.val (.int p1), .val (.long q2), .second, .val (.long q3), .second, .val (.long q4), .second, .val (.int (2 : Int32)), .val (.long vb), .second, .val (.long vc), .second, .val (.ref b6), .unset, .unset, .unset, .unset] [(.long q2), (.int (0 : Int32)), (.ref b6)])) _
    refine st8.trans ?_
    show Steps p.tables e below (T8.setTop (mkF m 63 #[.val (.int p1), .val (.long q2), .second, .val (.long q3), .second, .val (.long q4), .second, .val (.int (2 : Int32)), .val (.long vb), .second, .val (.long vc), .second, .val (.ref b6), .unset, .unset, .unset, .unset] [])) _
    refine XS.iload X8.here hx rfl (hb hby at_63) rfl ?_
    show Steps p.tables e below (T8.setTop (mkF m 65 #[.val (.int p1), .val (.long q2), .second, .val (.long q3), .second, .val (.long q4), .second, .val (.int (2 : Int32)), .val (.long vb), .second, .val (.long vc), .second, .val (.ref b6), .unset, .unset, .unset, .unset] [(.int (2 : Int32))])) _
    refine XS.iconst X8.here hx rfl (hb hby at_65) ?_
    show Steps p.tables e below (T8.setTop (mkF m 66 #[.val (.int p1), .val (.long q2), .second, .val (.long q3), .second, .val (.long q4), .second, .val (.int (2 : Int32)), .val (.long vb), .second, .val (.long vc), .second, .val (.ref b6), .unset, .unset, .unset, .unset] [(.int (2 : Int32)), (.int (2 : Int32))])) _
    refine XS.icmpNo X8.here hx rfl (hb hby at_66) rfl (flt hc66).1 ?_
    show Steps p.tables e below (T8.setTop (mkF m 69 #[.val (.int p1), .val (.long q2), .second, .val (.long q3), .second, .val (.long q4), .second, .val (.int (2 : Int32)), .val (.long vb), .second, .val (.long vc), .second, .val (.ref b6), .unset, .unset, .unset, .unset] [])) _
    refine XS.aload X8.here hx rfl (hb hby at_69) rfl rfl ?_
    show Steps p.tables e below (T8.setTop (mkF m 71 #[.val (.int p1), .val (.long q2), .second, .val (.long q3), .second, .val (.long q4), .second, .val (.int (2 : Int32)), .val (.long vb), .second, .val (.long vc), .second, .val (.ref b6), .unset, .unset, .unset, .unset] [(.ref b6)])) _
    refine XS.iconst X8.here hx rfl (hb hby at_71) ?_
    show Steps p.tables e below (T8.setTop (mkF m 72 #[.val (.int p1), .val (.long q2), .second, .val (.long q3), .second, .val (.long q4), .second, .val (.int (2 : Int32)), .val (.long vb), .second, .val (.long vc), .second, .val (.ref b6), .unset, .unset, .unset, .unset] [(.int (1 : Int32)), (.ref b6)])) _
    refine XS.lload X8.here hx rfl (hb hby at_72) rfl ?_
    show Steps p.tables e below (T8.setTop (mkF m 74 #[.val (.int p1), .val (.long q2), .second, .val (.long q3), .second, .val (.long q4), .second, .val (.int (2 : Int32)), .val (.long vb), .second, .val (.long vc), .second, .val (.ref b6), .unset, .unset, .unset, .unset] [(.long vb), (.int (1 : Int32)), (.ref b6)])) _
    refine st9.trans ?_
    show Steps p.tables e below (T9.setTop (mkF m 77 #[.val (.int p1), .val (.long q2), .second, .val (.long q3), .second, .val (.long q4), .second, .val (.int (2 : Int32)), .val (.long vb), .second, .val (.long vc), .second, .val (.ref b6), .unset, .unset, .unset, .unset] [])) _
    refine XS.iload X9.here hx rfl (hb hby at_77) rfl ?_
    show Steps p.tables e below (T9.setTop (mkF m 79 #[.val (.int p1), .val (.long q2), .second, .val (.long q3), .second, .val (.long q4), .second, .val (.int (2 : Int32)), .val (.long vb), .second, .val (.long vc), .second, .val (.ref b6), .unset, .unset, .unset, .unset] [(.int (2 : Int32))])) _
    refine XS.iconst X9.here hx rfl (hb hby at_79) ?_
    show Steps p.tables e below (T9.setTop (mkF m 80 #[.val (.int p1), .val (.long q2), .second, .val (.long q3), .second, .val (.long q4), .second, .val (.int (2 : Int32)), .val (.long vb), .second, .val (.long vc), .second, .val (.ref b6), .unset, .unset, .unset, .unset] [(.int (3 : Int32)), (.int (2 : Int32))])) _
    refine XS.icmpYes X9.here hx rfl (pc0 := 80) (pc' := 91) rfl (hb hby at_80) rfl (tlt hc80).1 (by decide) (by decide) ?_
    show Steps p.tables e below (T9.setTop (mkF m 91 #[.val (.int p1), .val (.long q2), .second, .val (.long q3), .second, .val (.long q4), .second, .val (.int (2 : Int32)), .val (.long vb), .second, .val (.long vc), .second, .val (.ref b6), .unset, .unset, .unset, .unset] [])) _
    refine XS.lloadN X9.here hx rfl (hb hby at_91) rfl ?_
    show Steps p.tables e below (T9.setTop (mkF m 92 #[.val (.int p1), .val (.long q2), .second, .val (.long q3), .second, .val (.long q4), .second, .val (.int (2 : Int32)), .val (.long vb), .second, .val (.long vc), .second, .val (.ref b6), .unset, .unset, .unset, .unset] [(.long q2)])) _
    refine XS.lstore X9.here hx rfl (hb hby at_92) rfl (l' := #[.val (.int p1), .val (.long q2), .second, .val (.long q3), .second, .val (.long q4), .second, .val (.int (2 : Int32)), .val (.long vb), .second, .val (.long vc), .second, .val (.ref b6), .val (.long q2), .second, .unset, .unset]) rfl ?_
    show Steps p.tables e below (T9.setTop (mkF m 94 #[.val (.int p1), .val (.long q2), .second, .val (.long q3), .second, .val (.long q4), .second, .val (.int (2 : Int32)), .val (.long vb), .second, .val (.long vc), .second, .val (.ref b6), .val (.long q2), .second, .unset, .unset] [])) _
    refine XS.iload X9.here hx rfl (hb hby at_94) rfl ?_
    show Steps p.tables e below (T9.setTop (mkF m 96 #[.val (.int p1), .val (.long q2), .second, .val (.long q3), .second, .val (.long q4), .second, .val (.int (2 : Int32)), .val (.long vb), .second, .val (.long vc), .second, .val (.ref b6), .val (.long q2), .second, .unset, .unset] [(.int (2 : Int32))])) _
    refine XS.iconst X9.here hx rfl (hb hby at_96) ?_
    show Steps p.tables e below (T9.setTop (mkF m 97 #[.val (.int p1), .val (.long q2), .second, .val (.long q3), .second, .val (.long q4), .second, .val (.int (2 : Int32)), .val (.long vb), .second, .val (.long vc), .second, .val (.ref b6), .val (.long q2), .second, .unset, .unset] [(.int (2 : Int32)), (.int (2 : Int32))])) _
    refine XS.icmpNo X9.here hx rfl (hb hby at_97) rfl (flt hc97).1 ?_
    show Steps p.tables e below (T9.setTop (mkF m 100 #[.val (.int p1), .val (.long q2), .second, .val (.long q3), .second, .val (.long q4), .second, .val (.int (2 : Int32)), .val (.long vb), .second, .val (.long vc), .second, .val (.ref b6), .val (.long q2), .second, .unset, .unset] [])) _
    refine XS.lload X9.here hx rfl (hb hby at_100) rfl ?_
    show Steps p.tables e below (T9.setTop (mkF m 102 #[.val (.int p1), .val (.long q2), .second, .val (.long q3), .second, .val (.long q4), .second, .val (.int (2 : Int32)), .val (.long vb), .second, .val (.long vc), .second, .val (.ref b6), .val (.long q2), .second, .unset, .unset] [(.long q2)])) _
    refine XS.lload X9.here hx rfl (hb hby at_102) rfl ?_
    show Steps p.tables e below (T9.setTop (mkF m 104 #[.val (.int p1), .val (.long q2), .second, .val (.long q3), .second, .val (.long q4), .second, .val (.int (2 : Int32)), .val (.long vb), .second, .val (.long vc), .second, .val (.ref b6), .val (.long q2), .second, .unset, .unset] [(.long vb), (.long q2)])) _
    refine st10 _ ?_
    show Steps p.tables e below (T10.setTop (mkF m 107 #[.val (.int p1), .val (.long q2), .second, .val (.long q3), .second, .val (.long q4), .second, .val (.int (2 : Int32)), .val (.long vb), .second, .val (.long vc), .second, .val (.ref b6), .val (.long q2), .second, .unset, .unset] [(.long mm)])) _
    refine XS.lstore X10.here hx rfl (hb hby at_107) rfl (l' := #[.val (.int p1), .val (.long q2), .second, .val (.long q3), .second, .val (.long q4), .second, .val (.int (2 : Int32)), .val (.long vb), .second, .val (.long vc), .second, .val (.ref b6), .val (.long mm), .second, .unset, .unset]) rfl ?_
    show Steps p.tables e below (T10.setTop (mkF m 109 #[.val (.int p1), .val (.long q2), .second, .val (.long q3), .second, .val (.long q4), .second, .val (.int (2 : Int32)), .val (.long vb), .second, .val (.long vc), .second, .val (.ref b6), .val (.long mm), .second, .unset, .unset] [])) _
    refine XS.iload X10.here hx rfl (hb hby at_109) rfl ?_
    show Steps p.tables e below (T10.setTop (mkF m 111 #[.val (.int p1), .val (.long q2), .second, .val (.long q3), .second, .val (.long q4), .second, .val (.int (2 : Int32)), .val (.long vb), .second, .val (.long vc), .second, .val (.ref b6), .val (.long mm), .second, .unset, .unset] [(.int (2 : Int32))])) _
    refine XS.iconst X10.here hx rfl (hb hby at_111) ?_
    show Steps p.tables e below (T10.setTop (mkF m 112 #[.val (.int p1), .val (.long q2), .second, .val (.long q3), .second, .val (.long q4), .second, .val (.int (2 : Int32)), .val (.long vb), .second, .val (.long vc), .second, .val (.ref b6), .val (.long mm), .second, .unset, .unset] [(.int (3 : Int32)), (.int (2 : Int32))])) _
    refine XS.icmpYes X10.here hx rfl (pc0 := 112) (pc' := 124) rfl (hb hby at_112) rfl (tlt hc112).1 (by decide) (by decide) ?_
    show Steps p.tables e below (T10.setTop (mkF m 124 #[.val (.int p1), .val (.long q2), .second, .val (.long q3), .second, .val (.long q4), .second, .val (.int (2 : Int32)), .val (.long vb), .second, .val (.long vc), .second, .val (.ref b6), .val (.long mm), .second, .unset, .unset] [])) _
    refine XS.aload X10.here hx rfl (hb hby at_124) rfl rfl ?_
    show Steps p.tables e below (T10.setTop (mkF m 126 #[.val (.int p1), .val (.long q2), .second, .val (.long q3), .second, .val (.long q4), .second, .val (.int (2 : Int32)), .val (.long vb), .second, .val (.long vc), .second, .val (.ref b6), .val (.long mm), .second, .unset, .unset] [(.ref b6)])) _
    refine st11.trans ?_
    show Steps p.tables e below (T11.setTop (mkF m 129 #[.val (.int p1), .val (.long q2), .second, .val (.long q3), .second, .val (.long q4), .second, .val (.int (2 : Int32)), .val (.long vb), .second, .val (.long vc), .second, .val (.ref b6), .val (.long mm), .second, .unset, .unset] [(.long mm)])) _
    refine XS.lstore X11.here hx rfl (hb hby at_129) rfl (l' := #[.val (.int p1), .val (.long q2), .second, .val (.long q3), .second, .val (.long q4), .second, .val (.int (2 : Int32)), .val (.long vb), .second, .val (.long vc), .second, .val (.ref b6), .val (.long mm), .second, .val (.long mm), .second]) rfl ?_
    show Steps p.tables e below (T11.setTop (mkF m 131 #[.val (.int p1), .val (.long q2), .second, .val (.long q3), .second, .val (.long q4), .second, .val (.int (2 : Int32)), .val (.long vb), .second, .val (.long vc), .second, .val (.ref b6), .val (.long mm), .second, .val (.long mm), .second] [])) _
    refine XS.lload X11.here hx rfl (hb hby at_131) rfl ?_
    show Steps p.tables e below (T11.setTop (mkF m 133 #[.val (.int p1), .val (.long q2), .second, .val (.long q3), .second, .val (.long q4), .second, .val (.int (2 : Int32)), .val (.long vb), .second, .val (.long vc), .second, .val (.ref b6), .val (.long mm), .second, .val (.long mm), .second] [(.long mm)])) _
    refine XS.lload X11.here hx rfl (hb hby at_133) rfl ?_
    show Steps p.tables e below (T11.setTop (mkF m 135 #[.val (.int p1), .val (.long q2), .second, .val (.long q3), .second, .val (.long q4), .second, .val (.int (2 : Int32)), .val (.long vb), .second, .val (.long vc), .second, .val (.ref b6), .val (.long mm), .second, .val (.long mm), .second] [(.long mm), (.long mm)])) _
    refine XS.lcmp X11.here hx rfl (hb hby at_135) rfl ?_
    show Steps p.tables e below (T11.setTop (mkF m 136 #[.val (.int p1), .val (.long q2), .second, .val (.long q3), .second, .val (.long q4), .second, .val (.int (2 : Int32)), .val (.long vb), .second, .val (.long vc), .second, .val (.ref b6), .val (.long mm), .second, .val (.long mm), .second] [(.int (lcmpW mm mm))])) _
    refine XS.ifYes X11.here hx rfl (pc0 := 136) (pc' := 141) rfl (hb hby at_136) rfl ((if0 _ _).trans (teq (((lw_eq _ _).mpr rfl) : (lcmpW mm mm) = (0 : Int32))).1) (by decide) (by decide) ?_
    show Steps p.tables e below (T11.setTop (mkF m 141 #[.val (.int p1), .val (.long q2), .second, .val (.long q3), .second, .val (.long q4), .second, .val (.int (2 : Int32)), .val (.long vb), .second, .val (.long vc), .second, .val (.ref b6), .val (.long mm), .second, .val (.long mm), .second] [])) _
    refine XS.aload X11.here hx rfl (hb hby at_141) rfl rfl ?_
    show Steps p.tables e below (T11.setTop (mkF m 143 #[.val (.int p1), .val (.long q2), .second, .val (.long q3), .second, .val (.long q4), .second, .val (.int (2 : Int32)), .val (.long vb), .second, .val (.long vc), .second, .val (.ref b6), .val (.long mm), .second, .val (.long mm), .second] [(.ref b6)])) _
    refine st12.trans ?_
    show Steps p.tables e below (T12.setTop (mkF m 146 #[.val (.int p1), .val (.long q2), .second, .val (.long q3), .second, .val (.long q4), .second, .val (.int (2 : Int32)), .val (.long vb), .second, .val (.long vc), .second, .val (.ref b6), .val (.long mm), .second, .val (.long mm), .second] [(.long mm)])) _
    refine XS.lload X12.here hx rfl (hb hby at_146) rfl ?_
    show Steps p.tables e below (T12.setTop (mkF m 148 #[.val (.int p1), .val (.long q2), .second, .val (.long q3), .second, .val (.long q4), .second, .val (.int (2 : Int32)), .val (.long vb), .second, .val (.long vc), .second, .val (.ref b6), .val (.long mm), .second, .val (.long mm), .second] [(.long mm), (.long mm)])) _
    refine XS.lcmp X12.here hx rfl (hb hby at_148) rfl ?_
    show Steps p.tables e below (T12.setTop (mkF m 149 #[.val (.int p1), .val (.long q2), .second, .val (.long q3), .second, .val (.long q4), .second, .val (.int (2 : Int32)), .val (.long vb), .second, .val (.long vc), .second, .val (.ref b6), .val (.long mm), .second, .val (.long mm), .second] [(.int (lcmpW mm mm))])) _
    refine XS.ifYes X12.here hx rfl (pc0 := 149) (pc' := 154) rfl (hb hby at_149) rfl ((if0 _ _).trans (teq (((lw_eq _ _).mpr rfl) : (lcmpW mm mm) = (0 : Int32))).1) (by decide) (by decide) ?_
    show Steps p.tables e below (T12.setTop (mkF m 154 #[.val (.int p1), .val (.long q2), .second, .val (.long q3), .second, .val (.long q4), .second, .val (.int (2 : Int32)), .val (.long vb), .second, .val (.long vc), .second, .val (.ref b6), .val (.long mm), .second, .val (.long mm), .second] [])) _
    refine XS.lload X12.here hx rfl (hb hby at_154) rfl ?_
    show Steps p.tables e below (T12.setTop (mkF m 156 #[.val (.int p1), .val (.long q2), .second, .val (.long q3), .second, .val (.long q4), .second, .val (.int (2 : Int32)), .val (.long vb), .second, .val (.long vc), .second, .val (.ref b6), .val (.long mm), .second, .val (.long mm), .second] [(.long mm)])) _
    refine X12.ldc2Long hx hown (mvT hZ (hw _ (List.mem_of_getElem? (i := 43) rfl))) (g := (mkF m 156 #[.val (.int p1), .val (.long q2), .second, .val (.long q3), .second, .val (.long q4), .second, .val (.int (2 : Int32)), .val (.long vb), .second, .val (.long vc), .second, .val (.ref b6), .val (.long mm), .second, .val (.long mm), .second] [(.long mm)])) rfl (hb hby at_156) _ ?_
    show Steps p.tables e below (T12.setTop (mkF m 159 #[.val (.int p1), .val (.long q2), .second, .val (.long q3), .second, .val (.long q4), .second, .val (.int (2 : Int32)), .val (.long vb), .second, .val (.long vc), .second, .val (.ref b6), .val (.long mm), .second, .val (.long mm), .second] [(.long (9223372036854775807 : Int64)), (.long mm)])) _
    refine XS.lcmp X12.here hx rfl (hb hby at_159) rfl ?_
    show Steps p.tables e below (T12.setTop (mkF m 160 #[.val (.int p1), .val (.long q2), .second, .val (.long q3), .second, .val (.long q4), .second, .val (.int (2 : Int32)), .val (.long vb), .second, .val (.long vc), .second, .val (.ref b6), .val (.long mm), .second, .val (.long mm), .second] [(.int (lcmpW mm (9223372036854775807 : Int64)))])) _
    refine XS.ifYes X12.here hx rfl (pc0 := 160) (pc' := 177) rfl (hb hby at_160) rfl ((if0 _ _).trans (feq ((fun q => h160 ((lw_eq _ _).mp q)) : ¬ ((lcmpW mm (9223372036854775807 : Int64)) = (0 : Int32)))).2) (by decide) (by decide) ?_
    show Steps p.tables e below (T12.setTop (mkF m 177 #[.val (.int p1), .val (.long q2), .second, .val (.long q3), .second, .val (.long q4), .second, .val (.int (2 : Int32)), .val (.long vb), .second, .val (.long vc), .second, .val (.ref b6), .val (.long mm), .second, .val (.long mm), .second] [])) _
    refine XS.lloadN X12.here hx rfl (hb hby at_177) rfl ?_
    show Steps p.tables e below (T12.setTop (mkF m 178 #[.val (.int p1), .val (.long q2), .second, .val (.long q3), .second, .val (.long q4), .second, .val (.int (2 : Int32)), .val (.long vb), .second, .val (.long vc), .second, .val (.ref b6), .val (.long mm), .second, .val (.long mm), .second] [(.long q2)])) _
    refine XS.lload X12.here hx rfl (hb hby at_178) rfl ?_
    show Steps p.tables e below (T12.setTop (mkF m 180 #[.val (.int p1), .val (.long q2), .second, .val (.long q3), .second, .val (.long q4), .second, .val (.int (2 : Int32)), .val (.long vb), .second, .val (.long vc), .second, .val (.ref b6), .val (.long mm), .second, .val (.long mm), .second] [(.long mm), (.long q2)])) _
    refine XS.lcmp X12.here hx rfl (hb hby at_180) rfl ?_
    show Steps p.tables e below (T12.setTop (mkF m 181 #[.val (.int p1), .val (.long q2), .second, .val (.long q3), .second, .val (.long q4), .second, .val (.int (2 : Int32)), .val (.long vb), .second, .val (.long vc), .second, .val (.ref b6), .val (.long mm), .second, .val (.long mm), .second] [(.int (lcmpW q2 mm))])) _
    refine XS.ifYes X12.here hx rfl (pc0 := 181) (pc' := 193) rfl (hb hby at_181) rfl ((if0 _ _).trans (feq ((fun q => h181 ((lw_eq _ _).mp q)) : ¬ ((lcmpW q2 mm) = (0 : Int32)))).2) (by decide) (by decide) ?_
    show Steps p.tables e below (T12.setTop (mkF m 193 #[.val (.int p1), .val (.long q2), .second, .val (.long q3), .second, .val (.long q4), .second, .val (.int (2 : Int32)), .val (.long vb), .second, .val (.long vc), .second, .val (.ref b6), .val (.long mm), .second, .val (.long mm), .second] [])) _
    refine XS.iload X12.here hx rfl (hb hby at_193) rfl ?_
    show Steps p.tables e below (T12.setTop (mkF m 195 #[.val (.int p1), .val (.long q2), .second, .val (.long q3), .second, .val (.long q4), .second, .val (.int (2 : Int32)), .val (.long vb), .second, .val (.long vc), .second, .val (.ref b6), .val (.long mm), .second, .val (.long mm), .second] [(.int (2 : Int32))])) _
    refine XS.iconst X12.here hx rfl (hb hby at_195) ?_
    show Steps p.tables e below (T12.setTop (mkF m 196 #[.val (.int p1), .val (.long q2), .second, .val (.long q3), .second, .val (.long q4), .second, .val (.int (2 : Int32)), .val (.long vb), .second, .val (.long vc), .second, .val (.ref b6), .val (.long mm), .second, .val (.long mm), .second] [(.int (2 : Int32)), (.int (2 : Int32))])) _
    refine XS.icmpNo X12.here hx rfl (hb hby at_196) rfl (flt hc196).1 ?_
    show Steps p.tables e below (T12.setTop (mkF m 199 #[.val (.int p1), .val (.long q2), .second, .val (.long q3), .second, .val (.long q4), .second, .val (.int (2 : Int32)), .val (.long vb), .second, .val (.long vc), .second, .val (.ref b6), .val (.long mm), .second, .val (.long mm), .second] [])) _
    refine XS.lload X12.here hx rfl (hb hby at_199) rfl ?_
    show Steps p.tables e below (T12.setTop (mkF m 201 #[.val (.int p1), .val (.long q2), .second, .val (.long q3), .second, .val (.long q4), .second, .val (.int (2 : Int32)), .val (.long vb), .second, .val (.long vc), .second, .val (.ref b6), .val (.long mm), .second, .val (.long mm), .second] [(.long vb)])) _
    refine XS.lload X12.here hx rfl (hb hby at_201) rfl ?_
    show Steps p.tables e below (T12.setTop (mkF m 203 #[.val (.int p1), .val (.long q2), .second, .val (.long q3), .second, .val (.long q4), .second, .val (.int (2 : Int32)), .val (.long vb), .second, .val (.long vc), .second, .val (.ref b6), .val (.long mm), .second, .val (.long mm), .second] [(.long mm), (.long vb)])) _
    refine XS.lcmp X12.here hx rfl (hb hby at_203) rfl ?_
    show Steps p.tables e below (T12.setTop (mkF m 204 #[.val (.int p1), .val (.long q2), .second, .val (.long q3), .second, .val (.long q4), .second, .val (.int (2 : Int32)), .val (.long vb), .second, .val (.long vc), .second, .val (.ref b6), .val (.long mm), .second, .val (.long mm), .second] [(.int (lcmpW vb mm))])) _
    refine XS.ifNo X12.here hx rfl (hb hby at_204) rfl ((if0 _ _).trans (teq (((lw_eq _ _).mpr h204) : (lcmpW vb mm) = (0 : Int32))).2) ?_
    show Steps p.tables e below (T12.setTop (mkF m 207 #[.val (.int p1), .val (.long q2), .second, .val (.long q3), .second, .val (.long q4), .second, .val (.int (2 : Int32)), .val (.long vb), .second, .val (.long vc), .second, .val (.ref b6), .val (.long mm), .second, .val (.long mm), .second] [])) _
    refine XS.aload X12.here hx rfl (hb hby at_207) rfl rfl ?_
    show Steps p.tables e below (T12.setTop (mkF m 209 #[.val (.int p1), .val (.long q2), .second, .val (.long q3), .second, .val (.long q4), .second, .val (.int (2 : Int32)), .val (.long vb), .second, .val (.long vc), .second, .val (.ref b6), .val (.long mm), .second, .val (.long mm), .second] [(.ref b6)])) _
    refine XS.iconst X12.here hx rfl (hb hby at_209) ?_
    show Steps p.tables e below (T12.setTop (mkF m 210 #[.val (.int p1), .val (.long q2), .second, .val (.long q3), .second, .val (.long q4), .second, .val (.int (2 : Int32)), .val (.long vb), .second, .val (.long vc), .second, .val (.ref b6), .val (.long mm), .second, .val (.long mm), .second] [(.int (1 : Int32)), (.ref b6)])) _
    refine X12.ldc2Long hx hown (mvT hZ (hw _ (List.mem_of_getElem? (i := 43) rfl))) (g := (mkF m 210 #[.val (.int p1), .val (.long q2), .second, .val (.long q3), .second, .val (.long q4), .second, .val (.int (2 : Int32)), .val (.long vb), .second, .val (.long vc), .second, .val (.ref b6), .val (.long mm), .second, .val (.long mm), .second] [(.int (1 : Int32)), (.ref b6)])) rfl (hb hby at_210) _ ?_
    show Steps p.tables e below (T12.setTop (mkF m 213 #[.val (.int p1), .val (.long q2), .second, .val (.long q3), .second, .val (.long q4), .second, .val (.int (2 : Int32)), .val (.long vb), .second, .val (.long vc), .second, .val (.ref b6), .val (.long mm), .second, .val (.long mm), .second] [(.long (9223372036854775807 : Int64)), (.int (1 : Int32)), (.ref b6)])) _
    refine st13.trans ?_
    show Steps p.tables e below (T13.setTop (mkF m 216 #[.val (.int p1), .val (.long q2), .second, .val (.long q3), .second, .val (.long q4), .second, .val (.int (2 : Int32)), .val (.long vb), .second, .val (.long vc), .second, .val (.ref b6), .val (.long mm), .second, .val (.long mm), .second] [])) _
    refine XS.iload X13.here hx rfl (hb hby at_216) rfl ?_
    show Steps p.tables e below (T13.setTop (mkF m 218 #[.val (.int p1), .val (.long q2), .second, .val (.long q3), .second, .val (.long q4), .second, .val (.int (2 : Int32)), .val (.long vb), .second, .val (.long vc), .second, .val (.ref b6), .val (.long mm), .second, .val (.long mm), .second] [(.int (2 : Int32))])) _
    refine XS.iconst X13.here hx rfl (hb hby at_218) ?_
    show Steps p.tables e below (T13.setTop (mkF m 219 #[.val (.int p1), .val (.long q2), .second, .val (.long q3), .second, .val (.long q4), .second, .val (.int (2 : Int32)), .val (.long vb), .second, .val (.long vc), .second, .val (.ref b6), .val (.long mm), .second, .val (.long mm), .second] [(.int (3 : Int32)), (.int (2 : Int32))])) _
    refine XS.icmpYes X13.here hx rfl (pc0 := 219) (pc' := 239) rfl (hb hby at_219) rfl (tlt hc219).1 (by decide) (by decide) ?_
    show Steps p.tables e below (T13.setTop (mkF m 239 #[.val (.int p1), .val (.long q2), .second, .val (.long q3), .second, .val (.long q4), .second, .val (.int (2 : Int32)), .val (.long vb), .second, .val (.long vc), .second, .val (.ref b6), .val (.long mm), .second, .val (.long mm), .second] [])) _
    refine XS.aload X13.here hx rfl (hb hby at_239) rfl rfl ?_
    show Steps p.tables e below (T13.setTop (mkF m 241 #[.val (.int p1), .val (.long q2), .second, .val (.long q3), .second, .val (.long q4), .second, .val (.int (2 : Int32)), .val (.long vb), .second, .val (.long vc), .second, .val (.ref b6), .val (.long mm), .second, .val (.long mm), .second] [(.ref b6)])) _
    refine st14.trans ?_
    show Steps p.tables e below (T14.setTop (mkF m 244 #[.val (.int p1), .val (.long q2), .second, .val (.long q3), .second, .val (.long q4), .second, .val (.int (2 : Int32)), .val (.long vb), .second, .val (.long vc), .second, .val (.ref b6), .val (.long mm), .second, .val (.long mm), .second] [(.int (1 : Int32))])) _
    exact retN X14 hx (t := .boolean) Bd.returns (by simp) (hb hby at_244) hr
  · show Q0 Z p1 q2 q3 q4 h0 n0 _ T14.heap _
    exact ⟨rfl, N14⟩
set_option maxRecDepth 65536 in
set_option maxHeartbeats 40000000 in
theorem rm0_3m (l : Launch) (Z : State) (a0 : Array Value) (hw : ∀ d ∈ tables_1, d.before a0 Z = true) (ws : List Jvm.Cond) (p1 : Int32) (q2 : Int64) (q3 : Int64) (q4 : Int64) (h0 : Heap) (n0 : Nat) (Z0 : n0 ≤ h0.size) (vb vc mm : Int64) (hn : own_n p1 = 3) (hvb : own_vb p1 q2 q3 = vb) (hvc : own_vc p1 q2 q3 q4 = vc) (hm : mm = (own_mn (own_mn q2 vb) vc)) (h160 : mm = (9223372036854775807 : Int64)) :
    MetFree l x (head1 (Jvm.Cond.code x code maxLocals ret :: ws) room_1) (fun a U => a = #[(.int p1), (.long q2), (.long q3), (.long q4)] ∧ Z.Warmed39 U.vm ∧ U.heap = h0) (fun _ _ _ _ _ => True) (fun _ U o U' => ∃ v L, o = .returned v ∧ Q0 Z p1 q2 q3 q4 h0 n0 v U'.heap L ∧ FrameEnd U o U' L room_1.cells room_1.slots) := by
  refine MetFree.of_bodySF (plainFor_of_name pn_0) hisR ?_
  intro p e s m args below meth c s₁ Bd hml0 hP hK
  obtain ⟨rfl, hZ, hh⟩ := hP
  have hx := Bd.exec
  have hby := Bd.bytes
  have hml : c.maxLocals = 17 := hml0
  have hown : s.vm.findClass "com/example/mullion/mullion/aggregators/FurthestBackFindSmallestPinLaw" = some m.cls := findClass_of_methodNamed Bd.named
  have hnm := (name_of_methodNamed Bd.named Bd.method).1
  have X0 : Stand p l e room_1 s m #[(.int p1), (.long q2), (.long q3), (.long q4)] below meth c s₁ [] 0 0 := Stand.of_body Bd
  have e0 : s₁.heap = h0 := by rw [← hh, Bd.state]; rfl
  have N0 := Fr.nil n0
  have pre0 : ∀ t, Steps p.tables e below (s₁.setTop (mkF m 0 #[.val (.int p1), .val (.long q2), .second, .val (.long q3), .second, .val (.long q4), .second, .unset, .unset, .unset, .unset, .unset, .unset, .unset, .unset, .unset, .unset] [])) t → Steps p.tables e below (s₁.setTop (entryFrame m #[(.int p1), (.long q2), (.long q3), (.long q4)] maxLocals)) t := fun t k => castTop (ef_0 m p1 q2 q3 q4) k
  have hc66 : ¬ ((3 : Int32) < (2 : Int32)) := (by decide)
  have hc80 : ¬ ((3 : Int32) < (3 : Int32)) := (by decide)
  have hc97 : ¬ ((3 : Int32) < (2 : Int32)) := (by decide)
  have hc112 : ¬ ((3 : Int32) < (3 : Int32)) := (by decide)
  obtain ⟨T5, X5, e5, st5⟩ := own_j0 p1 q2 q3 q4 (3 : Int32) vb vc hn hvb hvc X0 hx hZ hw hby hml hown e0
  obtain ⟨T6, h6, X6, e6, E6, A6, D6, -, st6⟩ := newO X5 hx hZ hown (hw _ (List.mem_of_getElem? (i := 1) rfl)) (hw _ (List.mem_of_getElem? (i := 2) rfl)) (hw _ (List.mem_of_getElem? (i := 3) rfl)) e5 (g := (mkF m 42 #[.val (.int p1), .val (.long q2), .second, .val (.long q3), .second, .val (.long q4), .second, .val (.int (3 : Int32)), .val (.long vb), .second, .val (.long vc), .second, .unset, .unset, .unset, .unset, .unset] [])) rfl (hb hby at_42) (by decide) (by decide)
  obtain ⟨b6, g6⟩ : ∃ z, z = h0.size := ⟨_, rfl⟩
  rw [← g6] at A6 D6 st6
  have F_values_b6 : Fld Z h6 b6 "com/example/mullion/mullion/aggregators/FurthestBack" "values" "[J" .null := D6 (Or.inr (hw _ (List.mem_of_getElem? (i := 13) rfl))) (ty := (.array .long)) (by decide)
  have F_mark_b6 : Fld Z h6 b6 "com/example/mullion/mullion/aggregators/FurthestBack" "mark" "J" (.long (0 : Int64)) := D6 (Or.inl (hw _ (List.mem_of_getElem? (i := 24) rfl))) (ty := .long) (by decide)
  have F_atOrBelowMark_b6 : Fld Z h6 b6 "com/example/mullion/mullion/aggregators/FurthestBack" "atOrBelowMark" "I" (.int (0 : Int32)) := D6 (Or.inl (hw _ (List.mem_of_getElem? (i := 26) rfl))) (ty := .int) (by decide)
  have E_b6 := A6
  have g_b6 : n0 ≤ b6 := Nat.le_trans Z0 (Nat.le_of_eq g6.symm)
  have sz_b6 : h0.size ≤ b6 := (Nat.le_trans (Keep.refl h0 []).1 (Nat.le_of_eq g6.symm))
  have K6 : Keep h0 h6 [] := (Keep.refl h0 []).ext E6
  obtain ⟨_, _, ⟨T7, L7, k7, n7⟩, -, X7, ⟨Lc7, hQ7, l7, y7, z7⟩, st7⟩ := X6.specialBack hx (y := (⟨"com/example/mullion/mullion/aggregators/FurthestBack", "<init>", "(IJ)V"⟩ : MethodName)) rfl hown (mvT hZ (hw _ (List.mem_of_getElem? (i := 5) rfl))) (mvT hZ (hw _ (List.mem_of_getElem? (i := 6) rfl))) (mvT hZ (hw _ (List.mem_of_getElem? (i := 7) rfl))) (by decide) (backOf (W := 1) (rm1 l Z a0 hw [] b6 (3 : Int32) (-9223372036854775808 : Int64) 3 h6 n0 (Nat.le_trans Z0 E6.1) (by decide) rfl (by decide) E_b6 F_values_b6 F_mark_b6 F_atOrBelowMark_b6 g_b6) hZ (hw _ (List.mem_of_getElem? (i := 7) rfl)) (hw _ (List.mem_of_getElem? (i := 3) rfl)) (by decide) (by decide)) (g := (mkF m 51 #[.val (.int p1), .val (.long q2), .second, .val (.long q3), .second, .val (.long q4), .second, .val (.int (3 : Int32)), .val (.long vb), .second, .val (.long vc), .second, .unset, .unset, .unset, .unset, .unset] [(.long (-9223372036854775808 : Int64)), (.int (3 : Int32)), (.ref b6), (.ref b6)])) rfl (by rw [hml]; rfl) (Steps.refl _) (a := b6) (argsL := [(.int (3 : Int32)), (.long (-9223372036854775808 : Int64))]) (rest := [(.ref b6)]) (lenOf pd_0_0 rfl) rfl (by show 2 * 0 + _ ≤ _; exact Nat.le_of_eq rfl) (hb hby at_51) (fun _ _ => ⟨rfl, e6, (by decide : 1 + 1 ≤ _), (by decide : 3 + 3 ≤ _)⟩)
  dsimp only [Pt.U, Pt.locs, Pt.cells, Pt.slots] at X7 l7 y7 z7 st7 hQ7
  subst l7 y7 z7
  obtain ⟨rfl, N7q, K7q, t, st, E7q, Fv7q, Fm7q, Fa7q, V7q⟩ := hQ7
  have N7 := Fr.app N0 N7q
  have z7q : n0 ≤ T7.heap.size := Nat.le_trans (Nat.le_trans Z0 E6.1) K7q.1
  have hne : b6 ≠ t := Nat.ne_of_lt (Nat.lt_of_lt_of_le E_b6.lt st)
  have g_t : n0 ≤ t := Nat.le_trans (Nat.le_trans Z0 E6.1) st
  obtain ⟨cq8, kq8, q8a, q8b, q8c⟩ := isOf hZ rfl E7q
  obtain ⟨_, _, ⟨T8, L8, k8, n8⟩, -, X8, ⟨Lc8, hQ8, l8, y8, z8⟩, st8⟩ := X7.virtualBack hx (y := (⟨"com/example/mullion/mullion/aggregators/FurthestBack", "moveOn", "(IJ)V"⟩ : MethodName)) (z := (⟨"com/example/mullion/mullion/aggregators/FurthestBack", "moveOn", "(IJ)V"⟩ : MethodName)) hown (mvT hZ (hw _ (List.mem_of_getElem? (i := 27) rfl))) (mvT hZ (hw _ (List.mem_of_getElem? (i := 28) rfl))) (notFace_of_selects (args := #[]) (mvT hZ (hw _ (List.mem_of_getElem? (i := 30) rfl)))) (mvT hZ (hw _ (List.mem_of_getElem? (i := 30) rfl))) (mvT hZ (hw _ (List.mem_of_getElem? (i := 29) rfl))) (by decide) (backOf (W := 0) (rm5 l Z a0 hw [] b6 (0 : Int32) q2 t 3 _ 0 _ _ T7.heap n0 z7q rfl (by decide) (by decide) E7q Fv7q Fm7q Fa7q V7q hne g_b6 g_t) hZ (hw _ (List.mem_of_getElem? (i := 31) rfl)) (hw _ (List.mem_of_getElem? (i := 3) rfl)) (by decide) (by decide)) q8a q8c (g := (mkF m 60 #[.val (.int p1), .val (.long q2), .second, .val (.long q3), .second, .val (.long q4), .second, .val (.int (3 : Int32)), .val (.long vb), .second, .val (.long vc), .second, .val (.ref b6), .unset, .unset, .unset, .unset] [(.long q2), (.int (0 : Int32)), (.ref b6)])) rfl (by rw [hml]; rfl) (Steps.refl _) (argsL := [(.int (0 : Int32)), (.long q2)]) (rest := []) (lenOf pd_0_0 rfl) rfl (by show 2 * 0 + _ ≤ _; exact Nat.le_of_eq rfl) (hb hby at_60) (fun _ _ => ⟨rfl, rfl, (by decide : 2 + 0 ≤ _), (by decide : 6 + 0 ≤ _)⟩)
  dsimp only [Pt.U, Pt.locs, Pt.cells, Pt.slots] at X8 l8 y8 z8 st8 hQ8
  subst l8 y8 z8
  obtain ⟨rfl, N8q, K8q, E8q, Fv8q, Fm8q, Fa8q, V8q⟩ := hQ8
  have N8 := Fr.app N7 N8q
  have z8q : n0 ≤ T8.heap.size := Nat.le_trans z7q K8q.1
  obtain ⟨cq9, kq9, q9a, q9b, q9c⟩ := isOf hZ rfl E8q
  obtain ⟨_, _, ⟨T9, L9, k9, n9⟩, -, X9, ⟨Lc9, hQ9, l9, y9, z9⟩, st9⟩ := X8.virtualBack hx (y := (⟨"com/example/mullion/mullion/aggregators/FurthestBack", "moveOn", "(IJ)V"⟩ : MethodName)) (z := (⟨"com/example/mullion/mullion/aggregators/FurthestBack", "moveOn", "(IJ)V"⟩ : MethodName)) hown (mvT hZ (hw _ (List.mem_of_getElem? (i := 27) rfl))) (mvT hZ (hw _ (List.mem_of_getElem? (i := 28) rfl))) (notFace_of_selects (args := #[]) (mvT hZ (hw _ (List.mem_of_getElem? (i := 30) rfl)))) (mvT hZ (hw _ (List.mem_of_getElem? (i := 30) rfl))) (mvT hZ (hw _ (List.mem_of_getElem? (i := 29) rfl))) (by decide) (backOf (W := 0) (rm5 l Z a0 hw [] b6 (1 : Int32) vb t 3 _ 1 _ _ T8.heap n0 z8q rfl (by decide) (by decide) E8q Fv8q Fm8q Fa8q V8q hne g_b6 g_t) hZ (hw _ (List.mem_of_getElem? (i := 31) rfl)) (hw _ (List.mem_of_getElem? (i := 3) rfl)) (by decide) (by decide)) q9a q9c (g := (mkF m 74 #[.val (.int p1), .val (.long q2), .second, .val (.long q3), .second, .val (.long q4), .second, .val (.int (3 : Int32)), .val (.long vb), .second, .val (.long vc), .second, .val (.ref b6), .unset, .unset, .unset, .unset] [(.long vb), (.int (1 : Int32)), (.ref b6)])) rfl (by rw [hml]; rfl) (Steps.refl _) (argsL := [(.int (1 : Int32)), (.long vb)]) (rest := []) (lenOf pd_0_0 rfl) rfl (by show 2 * 0 + _ ≤ _; exact Nat.le_of_eq rfl) (hb hby at_74) (fun _ _ => ⟨rfl, rfl, (by decide : 2 + 0 ≤ _), (by decide : 6 + 0 ≤ _)⟩)
  dsimp only [Pt.U, Pt.locs, Pt.cells, Pt.slots] at X9 l9 y9 z9 st9 hQ9
  subst l9 y9 z9
  obtain ⟨rfl, N9q, K9q, E9q, Fv9q, Fm9q, Fa9q, V9q⟩ := hQ9
  have N9 := Fr.app N8 N9q
  have z9q : n0 ≤ T9.heap.size := Nat.le_trans z8q K9q.1
  obtain ⟨cq10, kq10, q10a, q10b, q10c⟩ := isOf hZ rfl E9q
  obtain ⟨_, _, ⟨T10, L10, k10, n10⟩, -, X10, ⟨Lc10, hQ10, l10, y10, z10⟩, st10⟩ := X9.virtualBack hx (y := (⟨"com/example/mullion/mullion/aggregators/FurthestBack", "moveOn", "(IJ)V"⟩ : MethodName)) (z := (⟨"com/example/mullion/mullion/aggregators/FurthestBack", "moveOn", "(IJ)V"⟩ : MethodName)) hown (mvT hZ (hw _ (List.mem_of_getElem? (i := 27) rfl))) (mvT hZ (hw _ (List.mem_of_getElem? (i := 28) rfl))) (notFace_of_selects (args := #[]) (mvT hZ (hw _ (List.mem_of_getElem? (i := 30) rfl)))) (mvT hZ (hw _ (List.mem_of_getElem? (i := 30) rfl))) (mvT hZ (hw _ (List.mem_of_getElem? (i := 29) rfl))) (by decide) (backOf (W := 0) (rm5 l Z a0 hw [] b6 (2 : Int32) vc t 3 _ 2 _ _ T9.heap n0 z9q rfl (by decide) (by decide) E9q Fv9q Fm9q Fa9q V9q hne g_b6 g_t) hZ (hw _ (List.mem_of_getElem? (i := 31) rfl)) (hw _ (List.mem_of_getElem? (i := 3) rfl)) (by decide) (by decide)) q10a q10c (g := (mkF m 88 #[.val (.int p1), .val (.long q2), .second, .val (.long q3), .second, .val (.long q4), .second, .val (.int (3 : Int32)), .val (.long vb), .second, .val (.long vc), .second, .val (.ref b6), .unset, .unset, .unset, .unset] [(.long vc), (.int (2 : Int32)), (.ref b6)])) rfl (by rw [hml]; rfl) (Steps.refl _) (argsL := [(.int (2 : Int32)), (.long vc)]) (rest := []) (lenOf pd_0_0 rfl) rfl (by show 2 * 0 + _ ≤ _; exact Nat.le_of_eq rfl) (hb hby at_88) (fun _ _ => ⟨rfl, rfl, (by decide : 2 + 0 ≤ _), (by decide : 6 + 0 ≤ _)⟩)
  dsimp only [Pt.U, Pt.locs, Pt.cells, Pt.slots] at X10 l10 y10 z10 st10 hQ10
  subst l10 y10 z10
  obtain ⟨rfl, N10q, K10q, E10q, Fv10q, Fm10q, Fa10q, V10q⟩ := hQ10
  have N10 := Fr.app N9 N10q
  have z10q : n0 ≤ T10.heap.size := Nat.le_trans z9q K10q.1
  obtain ⟨_, _, ⟨T11, L11, k11, n11⟩, -, X11, ⟨Lc11, hQ11, l11, y11, z11⟩, st11⟩ := Jvm.LawKit.callS X10 hx (y := (⟨"java/lang/Math", "min", "(JJ)J"⟩ : MethodName)) hown (mvT hZ (hw _ (List.mem_of_getElem? (i := 49) rfl))) (mvT hZ (hw _ (List.mem_of_getElem? (i := 50) rfl))) (mvT hZ (hw _ (List.mem_of_getElem? (i := 51) rfl))) (mvT hZ (hw _ (List.mem_of_getElem? (i := 52) rfl))) (by decide) (backOf (W := 0) (rm9 l Z a0 hw [] q2 vb  T10.heap n0 z10q) hZ (hw _ (List.mem_of_getElem? (i := 52) rfl)) (hw _ (List.mem_of_getElem? (i := 51) rfl)) (by decide) (by decide)) (g := (mkF m 104 #[.val (.int p1), .val (.long q2), .second, .val (.long q3), .second, .val (.long q4), .second, .val (.int (3 : Int32)), .val (.long vb), .second, .val (.long vc), .second, .val (.ref b6), .val (.long q2), .second, .unset, .unset] [(.long vb), (.long q2)])) rfl (by rw [hml]; rfl) (argsL := [(.long q2), (.long vb)]) (rest := []) (lenOf pd_0_6 rfl) rfl (by show 2 * 0 + _ ≤ _; exact Nat.le_of_eq rfl) (hb hby at_104) (fun _ _ => ⟨rfl, rfl, (by decide : 2 + 0 ≤ _), (by decide : 6 + 0 ≤ _)⟩)
  dsimp only [Pt.U, Pt.locs, Pt.cells, Pt.slots] at X11 l11 y11 z11 st11 hQ11
  subst l11 y11 z11
  obtain ⟨hv11, N11q, e11q⟩ := hQ11
  have N11 := Fr.app N10 N11q
  obtain ⟨m1, hm1⟩ : ∃ z, z = own_mn q2 vb := ⟨_, rfl⟩
  rw [← hm1] at hv11
  subst hv11
  have z11q : n0 ≤ T11.heap.size := by rw [e11q]; exact z10q
  have E11q := E10q
  rw [← e11q] at E11q
  have Fv11q := Fv10q
  rw [← e11q] at Fv11q
  have Fm11q := Fm10q
  rw [← e11q] at Fm11q
  have Fa11q := Fa10q
  rw [← e11q] at Fa11q
  have V11q := V10q
  rw [← e11q] at V11q
  obtain ⟨_, _, ⟨T12, L12, k12, n12⟩, -, X12, ⟨Lc12, hQ12, l12, y12, z12⟩, st12⟩ := Jvm.LawKit.callS X11 hx (y := (⟨"java/lang/Math", "min", "(JJ)J"⟩ : MethodName)) hown (mvT hZ (hw _ (List.mem_of_getElem? (i := 49) rfl))) (mvT hZ (hw _ (List.mem_of_getElem? (i := 50) rfl))) (mvT hZ (hw _ (List.mem_of_getElem? (i := 51) rfl))) (mvT hZ (hw _ (List.mem_of_getElem? (i := 52) rfl))) (by decide) (backOf (W := 0) (rm9 l Z a0 hw [] m1 vc  T11.heap n0 z11q) hZ (hw _ (List.mem_of_getElem? (i := 52) rfl)) (hw _ (List.mem_of_getElem? (i := 51) rfl)) (by decide) (by decide)) (g := (mkF m 119 #[.val (.int p1), .val (.long q2), .second, .val (.long q3), .second, .val (.long q4), .second, .val (.int (3 : Int32)), .val (.long vb), .second, .val (.long vc), .second, .val (.ref b6), .val (.long m1), .second, .unset, .unset] [(.long vc), (.long m1)])) rfl (by rw [hml]; rfl) (argsL := [(.long m1), (.long vc)]) (rest := []) (lenOf pd_0_6 rfl) rfl (by show 2 * 0 + _ ≤ _; exact Nat.le_of_eq rfl) (hb hby at_119) (fun _ _ => ⟨rfl, rfl, (by decide : 2 + 0 ≤ _), (by decide : 6 + 0 ≤ _)⟩)
  dsimp only [Pt.U, Pt.locs, Pt.cells, Pt.slots] at X12 l12 y12 z12 st12 hQ12
  subst l12 y12 z12
  obtain ⟨hv12, N12q, e12q⟩ := hQ12
  have N12 := Fr.app N11 N12q
  rw [hm1, ← hm] at hv12
  subst hv12
  have z12q : n0 ≤ T12.heap.size := by rw [e12q]; exact z11q
  have E12q := E11q
  rw [← e12q] at E12q
  have Fv12q := Fv11q
  rw [← e12q] at Fv12q
  have Fm12q := Fm11q
  rw [← e12q] at Fm12q
  have Fa12q := Fa11q
  rw [← e12q] at Fa12q
  have V12q := V11q
  rw [← e12q] at V12q
  obtain ⟨cq13, kq13, q13a, q13b, q13c⟩ := isOf hZ rfl E12q
  obtain ⟨_, _, ⟨T13, L13, k13, n13⟩, -, X13, ⟨Lc13, hQ13, l13, y13, z13⟩, st13⟩ := X12.virtualBack hx (y := (⟨"com/example/mullion/mullion/aggregators/FurthestBack", "findSmallest", "()J"⟩ : MethodName)) (z := (⟨"com/example/mullion/mullion/aggregators/FurthestBack", "findSmallest", "()J"⟩ : MethodName)) hown (mvT hZ (hw _ (List.mem_of_getElem? (i := 32) rfl))) (mvT hZ (hw _ (List.mem_of_getElem? (i := 33) rfl))) (notFace_of_selects (args := #[]) (mvT hZ (hw _ (List.mem_of_getElem? (i := 35) rfl)))) (mvT hZ (hw _ (List.mem_of_getElem? (i := 35) rfl))) (mvT hZ (hw _ (List.mem_of_getElem? (i := 34) rfl))) (by decide) (backOf (W := 0) (rm6 l Z a0 hw [] b6 t 3 (fun j => if j = 2 then vc else if j = 1 then vb else if j = 0 then q2 else (-9223372036854775808 : Int64)) _ _ T12.heap n0 z12q (by decide) E12q Fv12q Fm12q Fa12q V12q hne g_b6) hZ (hw _ (List.mem_of_getElem? (i := 36) rfl)) (hw _ (List.mem_of_getElem? (i := 3) rfl)) (by decide) (by decide)) q13a q13c (g := (mkF m 126 #[.val (.int p1), .val (.long q2), .second, .val (.long q3), .second, .val (.long q4), .second, .val (.int (3 : Int32)), .val (.long vb), .second, .val (.long vc), .second, .val (.ref b6), .val (.long mm), .second, .unset, .unset] [(.ref b6)])) rfl (by rw [hml]; rfl) (Steps.refl _) (argsL := []) (rest := []) (lenOf pd_0_4 rfl) rfl (by show 2 * 0 + _ ≤ _; exact Nat.le_of_eq rfl) (hb hby at_126) (fun _ _ => ⟨rfl, rfl, (by decide : 2 + 0 ≤ _), (by decide : 6 + 0 ≤ _)⟩)
  dsimp only [Pt.U, Pt.locs, Pt.cells, Pt.slots] at X13 l13 y13 z13 st13 hQ13
  subst l13 y13 z13
  obtain ⟨hv13, N13q, K13q, E13q, Fv13q, Fm13q, Fa13q, V13q⟩ := hQ13
  have N13 := Fr.app N12 N13q
  have z13q : n0 ≤ T13.heap.size := Nat.le_trans z12q K13q.1
  have hfs : own_fs (fun j => if j = 2 then vc else if j = 1 then vb else if j = 0 then q2 else (-9223372036854775808 : Int64)) 3 0 ((9223372036854775807 : Int64), (0 : Int32)) = (mm, (own_is q2 mm + own_is vb mm + own_is vc mm)) := by show own_step (own_step (own_step ((9223372036854775807 : Int64), 0) q2) vb) vc = _; rw [own_first, own_second, hm]; exact own_third q2 vb vc
  rw [hfs] at hv13
  replace hv13 : _ = some (Value.long mm) := hv13
  subst hv13
  have Gm13q : Fld Z T13.heap b6 "com/example/mullion/mullion/aggregators/FurthestBack" "mark" "J" (.long mm) := by have q := Fm13q; rw [hfs] at q; exact q
  have Ga13q : Fld Z T13.heap b6 "com/example/mullion/mullion/aggregators/FurthestBack" "atOrBelowMark" "I" (.int (own_is q2 mm + own_is vb mm + own_is vc mm)) := by have q := Fa13q; rw [hfs] at q; exact q
  obtain ⟨cq14, kq14, q14a, q14b, q14c⟩ := isOf hZ rfl E13q
  obtain ⟨_, _, ⟨T14, L14, k14, n14⟩, -, X14, ⟨Lc14, hQ14, l14, y14, z14⟩, st14⟩ := X13.virtualBack hx (y := (⟨"com/example/mullion/mullion/aggregators/FurthestBack", "mark", "()J"⟩ : MethodName)) (z := (⟨"com/example/mullion/mullion/aggregators/FurthestBack", "mark", "()J"⟩ : MethodName)) hown (mvT hZ (hw _ (List.mem_of_getElem? (i := 38) rfl))) (mvT hZ (hw _ (List.mem_of_getElem? (i := 39) rfl))) (notFace_of_selects (args := #[]) (mvT hZ (hw _ (List.mem_of_getElem? (i := 41) rfl)))) (mvT hZ (hw _ (List.mem_of_getElem? (i := 41) rfl))) (mvT hZ (hw _ (List.mem_of_getElem? (i := 40) rfl))) (by decide) (backOf (W := 0) (rm7 l Z a0 hw [] b6 mm T13.heap n0 z13q Gm13q) hZ (hw _ (List.mem_of_getElem? (i := 42) rfl)) (hw _ (List.mem_of_getElem? (i := 3) rfl)) (by decide) (by decide)) q14a q14c (g := (mkF m 143 #[.val (.int p1), .val (.long q2), .second, .val (.long q3), .second, .val (.long q4), .second, .val (.int (3 : Int32)), .val (.long vb), .second, .val (.long vc), .second, .val (.ref b6), .val (.long mm), .second, .val (.long mm), .second] [(.ref b6)])) rfl (by rw [hml]; rfl) (Steps.refl _) (argsL := []) (rest := []) (lenOf pd_0_4 rfl) rfl (by show 2 * 0 + _ ≤ _; exact Nat.le_of_eq rfl) (hb hby at_143) (fun _ _ => ⟨rfl, rfl, (by decide : 2 + 0 ≤ _), (by decide : 6 + 0 ≤ _)⟩)
  dsimp only [Pt.U, Pt.locs, Pt.cells, Pt.slots] at X14 l14 y14 z14 st14 hQ14
  subst l14 y14 z14
  obtain ⟨rfl, N14q, e14q⟩ := hQ14
  have N14 := Fr.app N13 N14q
  have z14q : n0 ≤ T14.heap.size := by rw [e14q]; exact z13q
  have E14q := E13q
  rw [← e14q] at E14q
  have Fv14q := Fv13q
  rw [← e14q] at Fv14q
  have Fm14q := Gm13q
  rw [← e14q] at Fm14q
  have Fa14q := Ga13q
  rw [← e14q] at Fa14q
  have V14q := V13q
  rw [← e14q] at V14q
  obtain ⟨cq15, kq15, q15a, q15b, q15c⟩ := isOf hZ rfl E14q
  obtain ⟨_, _, ⟨T15, L15, k15, n15⟩, -, X15, ⟨Lc15, hQ15, l15, y15, z15⟩, st15⟩ := X14.virtualBack hx (y := (⟨"com/example/mullion/mullion/aggregators/FurthestBack", "allMovedOn", "()Z"⟩ : MethodName)) (z := (⟨"com/example/mullion/mullion/aggregators/FurthestBack", "allMovedOn", "()Z"⟩ : MethodName)) hown (mvT hZ (hw _ (List.mem_of_getElem? (i := 44) rfl))) (mvT hZ (hw _ (List.mem_of_getElem? (i := 45) rfl))) (notFace_of_selects (args := #[]) (mvT hZ (hw _ (List.mem_of_getElem? (i := 47) rfl)))) (mvT hZ (hw _ (List.mem_of_getElem? (i := 47) rfl))) (mvT hZ (hw _ (List.mem_of_getElem? (i := 46) rfl))) (by decide) (backOf (W := 0) (rm8_t l Z a0 hw [] b6 (own_is q2 mm + own_is vb mm + own_is vc mm) T14.heap n0 z14q Fa14q (by rw [hm]; exact own_pos3 q2 vb vc)) hZ (hw _ (List.mem_of_getElem? (i := 48) rfl)) (hw _ (List.mem_of_getElem? (i := 3) rfl)) (by decide) (by decide)) q15a q15c (g := (mkF m 165 #[.val (.int p1), .val (.long q2), .second, .val (.long q3), .second, .val (.long q4), .second, .val (.int (3 : Int32)), .val (.long vb), .second, .val (.long vc), .second, .val (.ref b6), .val (.long mm), .second, .val (.long mm), .second] [(.ref b6)])) rfl (by rw [hml]; rfl) (Steps.refl _) (argsL := []) (rest := []) (lenOf pd_0_5 rfl) rfl (by show 2 * 0 + _ ≤ _; exact Nat.le_of_eq rfl) (hb hby at_165) (fun _ _ => ⟨rfl, rfl, (by decide : 2 + 0 ≤ _), (by decide : 6 + 0 ≤ _)⟩)
  dsimp only [Pt.U, Pt.locs, Pt.cells, Pt.slots] at X15 l15 y15 z15 st15 hQ15
  subst l15 y15 z15
  obtain ⟨rfl, N15q, e15q⟩ := hQ15
  have N15 := Fr.app N14 N15q
  have z15q : n0 ≤ T15.heap.size := by rw [e15q]; exact z14q
  have E15q := E14q
  rw [← e15q] at E15q
  have Fv15q := Fv14q
  rw [← e15q] at Fv15q
  have Fm15q := Fm14q
  rw [← e15q] at Fm15q
  have Fa15q := Fa14q
  rw [← e15q] at Fa15q
  have V15q := V14q
  rw [← e15q] at V15q
  obtain ⟨fs, hr, hrun, hended, hW, hsame⟩ := X15.leave (v := some (.int (1 : Int32))) (fun h => by rw [Bd.returns] at h; cases h)
  refine ⟨_, _, pre0 _ ?_, hrun, hended, _, _, rfl, ?_, ⟨_, rfl⟩, hW, hsame.mono (by decide) (by decide)⟩
  · show Steps p.tables e below (s₁.setTop (mkF m 0 #[.val (.int p1), .val (.long q2), .second, .val (.long q3), .second, .val (.long q4), .second, .unset, .unset, .unset, .unset, .unset, .unset, .unset, .unset, .unset, .unset] [])) _
    refine st5 _ ?_
    show Steps p.tables e below (T5.setTop (mkF m 42 #[.val (.int p1), .val (.long q2), .second, .val (.long q3), .second, .val (.long q4), .second, .val (.int (3 : Int32)), .val (.long vb), .second, .val (.long vc), .second, .unset, .unset, .unset, .unset, .unset] [])) _
    refine st6 _ ?_
    show Steps p.tables e below (T6.setTop (mkF m 45 #[.val (.int p1), .val (.long q2), .second, .val (.long q3), .second, .val (.long q4), .second, .val (.int (3 : Int32)), .val (.long vb), .second, .val (.long vc), .second, .unset, .unset, .unset, .unset, .unset] [(.ref b6)])) _
    refine XS.dup X6.here hx rfl (hb hby at_45) rfl rfl ?_
    show Steps p.tables e below (T6.setTop (mkF m 46 #[.val (.int p1), .val (.long q2), .second, .val (.long q3), .second, .val (.long q4), .second, .val (.int (3 : Int32)), .val (.long vb), .second, .val (.long vc), .second, .unset, .unset, .unset, .unset, .unset] [(.ref b6), (.ref b6)])) _
    refine XS.iload X6.here hx rfl (hb hby at_46) rfl ?_
    show Steps p.tables e below (T6.setTop (mkF m 48 #[.val (.int p1), .val (.long q2), .second, .val (.long q3), .second, .val (.long q4), .second, .val (.int (3 : Int32)), .val (.long vb), .second, .val (.long vc), .second, .unset, .unset, .unset, .unset, .unset] [(.int (3 : Int32)), (.ref b6), (.ref b6)])) _
    refine X6.ldc2Long hx hown (mvT hZ (hw _ (List.mem_of_getElem? (i := 4) rfl))) (g := (mkF m 48 #[.val (.int p1), .val (.long q2), .second, .val (.long q3), .second, .val (.long q4), .second, .val (.int (3 : Int32)), .val (.long vb), .second, .val (.long vc), .second, .unset, .unset, .unset, .unset, .unset] [(.int (3 : Int32)), (.ref b6), (.ref b6)])) rfl (hb hby at_48) _ ?_
    show Steps p.tables e below (T6.setTop (mkF m 51 #[.val (.int p1), .val (.long q2), .second, .val (.long q3), .second, .val (.long q4), .second, .val (.int (3 : Int32)), .val (.long vb), .second, .val (.long vc), .second, .unset, .unset, .unset, .unset, .unset] [(.long (-9223372036854775808 : Int64)), (.int (3 : Int32)), (.ref b6), (.ref b6)])) _
    refine st7.trans ?_
    show Steps p.tables e below (T7.setTop (mkF m 54 #[.val (.int p1), .val (.long q2), .second, .val (.long q3), .second, .val (.long q4), .second, .val (.int (3 : Int32)), .val (.long vb), .second, .val (.long vc), .second, .unset, .unset, .unset, .unset, .unset] [(.ref b6)])) _
    refine XS.astore X7.here hx rfl (hb hby at_54) rfl rfl (l' := #[.val (.int p1), .val (.long q2), .second, .val (.long q3), .second, .val (.long q4), .second, .val (.int (3 : Int32)), .val (.long vb), .second, .val (.long vc), .second, .val (.ref b6), .unset, .unset, .unset, .unset]) rfl ?_
    show Steps p.tables e below (T7.setTop (mkF m 56 #[.val (.int p1), .val (.long q2), .second, .val (.long q3), .second, .val (.long q4), .second, .val (.int (3 : Int32)), .val (.long vb), .second, .val (.long vc), .second, .val (.ref b6), .unset, .unset, .unset, .unset] [])) _
    refine XS.aload X7.here hx rfl (hb hby at_56) rfl rfl ?_
    show Steps p.tables e below (T7.setTop (mkF m 58 #[.val (.int p1), .val (.long q2), .second, .val (.long q3), .second, .val (.long q4), .second, .val (.int (3 : Int32)), .val (.long vb), .second, .val (.long vc), .second, .val (.ref b6), .unset, .unset, .unset, .unset] [(.ref b6)])) _
    refine XS.iconst X7.here hx rfl (hb hby at_58) ?_
    show Steps p.tables e below (T7.setTop (mkF m 59 #[.val (.int p1), .val (.long q2), .second, .val (.long q3), .second, .val (.long q4), .second, .val (.int (3 : Int32)), .val (.long vb), .second, .val (.long vc), .second, .val (.ref b6), .unset, .unset, .unset, .unset] [(.int (0 : Int32)), (.ref b6)])) _
    refine XS.lloadN X7.here hx rfl (hb hby at_59) rfl ?_
    show Steps p.tables e below (T7.setTop (mkF m 60 #[.val (.int p1), .val (.long q2), .second, .val (.long q3), .second, .val (.long q4), .second, .val (.int (3 : Int32)), .val (.long vb), .second, .val (.long vc), .second, .val (.ref b6), .unset, .unset, .unset, .unset] [(.long q2), (.int (0 : Int32)), (.ref b6)])) _
    refine st8.trans ?_
    show Steps p.tables e below (T8.setTop (mkF m 63 #[.val (.int p1), .val (.long q2), .second, .val (.long q3), .second, .val (.long q4), .second, .val (.int (3 : Int32)), .val (.long vb), .second, .val (.long vc), .second, .val (.ref b6), .unset, .unset, .unset, .unset] [])) _
    refine XS.iload X8.here hx rfl (hb hby at_63) rfl ?_
    show Steps p.tables e below (T8.setTop (mkF m 65 #[.val (.int p1), .val (.long q2), .second, .val (.long q3), .second, .val (.long q4), .second, .val (.int (3 : Int32)), .val (.long vb), .second, .val (.long vc), .second, .val (.ref b6), .unset, .unset, .unset, .unset] [(.int (3 : Int32))])) _
    refine XS.iconst X8.here hx rfl (hb hby at_65) ?_
    show Steps p.tables e below (T8.setTop (mkF m 66 #[.val (.int p1), .val (.long q2), .second, .val (.long q3), .second, .val (.long q4), .second, .val (.int (3 : Int32)), .val (.long vb), .second, .val (.long vc), .second, .val (.ref b6), .unset, .unset, .unset, .unset] [(.int (2 : Int32)), (.int (3 : Int32))])) _
    refine XS.icmpNo X8.here hx rfl (hb hby at_66) rfl (flt hc66).1 ?_
    show Steps p.tables e below (T8.setTop (mkF m 69 #[.val (.int p1), .val (.long q2), .second, .val (.long q3), .second, .val (.long q4), .second, .val (.int (3 : Int32)), .val (.long vb), .second, .val (.long vc), .second, .val (.ref b6), .unset, .unset, .unset, .unset] [])) _
    refine XS.aload X8.here hx rfl (hb hby at_69) rfl rfl ?_
    show Steps p.tables e below (T8.setTop (mkF m 71 #[.val (.int p1), .val (.long q2), .second, .val (.long q3), .second, .val (.long q4), .second, .val (.int (3 : Int32)), .val (.long vb), .second, .val (.long vc), .second, .val (.ref b6), .unset, .unset, .unset, .unset] [(.ref b6)])) _
    refine XS.iconst X8.here hx rfl (hb hby at_71) ?_
    show Steps p.tables e below (T8.setTop (mkF m 72 #[.val (.int p1), .val (.long q2), .second, .val (.long q3), .second, .val (.long q4), .second, .val (.int (3 : Int32)), .val (.long vb), .second, .val (.long vc), .second, .val (.ref b6), .unset, .unset, .unset, .unset] [(.int (1 : Int32)), (.ref b6)])) _
    refine XS.lload X8.here hx rfl (hb hby at_72) rfl ?_
    show Steps p.tables e below (T8.setTop (mkF m 74 #[.val (.int p1), .val (.long q2), .second, .val (.long q3), .second, .val (.long q4), .second, .val (.int (3 : Int32)), .val (.long vb), .second, .val (.long vc), .second, .val (.ref b6), .unset, .unset, .unset, .unset] [(.long vb), (.int (1 : Int32)), (.ref b6)])) _
    refine st9.trans ?_
    show Steps p.tables e below (T9.setTop (mkF m 77 #[.val (.int p1), .val (.long q2), .second, .val (.long q3), .second, .val (.long q4), .second, .val (.int (3 : Int32)), .val (.long vb), .second, .val (.long vc), .second, .val (.ref b6), .unset, .unset, .unset, .unset] [])) _
    refine XS.iload X9.here hx rfl (hb hby at_77) rfl ?_
    show Steps p.tables e below (T9.setTop (mkF m 79 #[.val (.int p1), .val (.long q2), .second, .val (.long q3), .second, .val (.long q4), .second, .val (.int (3 : Int32)), .val (.long vb), .second, .val (.long vc), .second, .val (.ref b6), .unset, .unset, .unset, .unset] [(.int (3 : Int32))])) _
    refine XS.iconst X9.here hx rfl (hb hby at_79) ?_
    show Steps p.tables e below (T9.setTop (mkF m 80 #[.val (.int p1), .val (.long q2), .second, .val (.long q3), .second, .val (.long q4), .second, .val (.int (3 : Int32)), .val (.long vb), .second, .val (.long vc), .second, .val (.ref b6), .unset, .unset, .unset, .unset] [(.int (3 : Int32)), (.int (3 : Int32))])) _
    refine XS.icmpNo X9.here hx rfl (hb hby at_80) rfl (flt hc80).1 ?_
    show Steps p.tables e below (T9.setTop (mkF m 83 #[.val (.int p1), .val (.long q2), .second, .val (.long q3), .second, .val (.long q4), .second, .val (.int (3 : Int32)), .val (.long vb), .second, .val (.long vc), .second, .val (.ref b6), .unset, .unset, .unset, .unset] [])) _
    refine XS.aload X9.here hx rfl (hb hby at_83) rfl rfl ?_
    show Steps p.tables e below (T9.setTop (mkF m 85 #[.val (.int p1), .val (.long q2), .second, .val (.long q3), .second, .val (.long q4), .second, .val (.int (3 : Int32)), .val (.long vb), .second, .val (.long vc), .second, .val (.ref b6), .unset, .unset, .unset, .unset] [(.ref b6)])) _
    refine XS.iconst X9.here hx rfl (hb hby at_85) ?_
    show Steps p.tables e below (T9.setTop (mkF m 86 #[.val (.int p1), .val (.long q2), .second, .val (.long q3), .second, .val (.long q4), .second, .val (.int (3 : Int32)), .val (.long vb), .second, .val (.long vc), .second, .val (.ref b6), .unset, .unset, .unset, .unset] [(.int (2 : Int32)), (.ref b6)])) _
    refine XS.lload X9.here hx rfl (hb hby at_86) rfl ?_
    show Steps p.tables e below (T9.setTop (mkF m 88 #[.val (.int p1), .val (.long q2), .second, .val (.long q3), .second, .val (.long q4), .second, .val (.int (3 : Int32)), .val (.long vb), .second, .val (.long vc), .second, .val (.ref b6), .unset, .unset, .unset, .unset] [(.long vc), (.int (2 : Int32)), (.ref b6)])) _
    refine st10.trans ?_
    show Steps p.tables e below (T10.setTop (mkF m 91 #[.val (.int p1), .val (.long q2), .second, .val (.long q3), .second, .val (.long q4), .second, .val (.int (3 : Int32)), .val (.long vb), .second, .val (.long vc), .second, .val (.ref b6), .unset, .unset, .unset, .unset] [])) _
    refine XS.lloadN X10.here hx rfl (hb hby at_91) rfl ?_
    show Steps p.tables e below (T10.setTop (mkF m 92 #[.val (.int p1), .val (.long q2), .second, .val (.long q3), .second, .val (.long q4), .second, .val (.int (3 : Int32)), .val (.long vb), .second, .val (.long vc), .second, .val (.ref b6), .unset, .unset, .unset, .unset] [(.long q2)])) _
    refine XS.lstore X10.here hx rfl (hb hby at_92) rfl (l' := #[.val (.int p1), .val (.long q2), .second, .val (.long q3), .second, .val (.long q4), .second, .val (.int (3 : Int32)), .val (.long vb), .second, .val (.long vc), .second, .val (.ref b6), .val (.long q2), .second, .unset, .unset]) rfl ?_
    show Steps p.tables e below (T10.setTop (mkF m 94 #[.val (.int p1), .val (.long q2), .second, .val (.long q3), .second, .val (.long q4), .second, .val (.int (3 : Int32)), .val (.long vb), .second, .val (.long vc), .second, .val (.ref b6), .val (.long q2), .second, .unset, .unset] [])) _
    refine XS.iload X10.here hx rfl (hb hby at_94) rfl ?_
    show Steps p.tables e below (T10.setTop (mkF m 96 #[.val (.int p1), .val (.long q2), .second, .val (.long q3), .second, .val (.long q4), .second, .val (.int (3 : Int32)), .val (.long vb), .second, .val (.long vc), .second, .val (.ref b6), .val (.long q2), .second, .unset, .unset] [(.int (3 : Int32))])) _
    refine XS.iconst X10.here hx rfl (hb hby at_96) ?_
    show Steps p.tables e below (T10.setTop (mkF m 97 #[.val (.int p1), .val (.long q2), .second, .val (.long q3), .second, .val (.long q4), .second, .val (.int (3 : Int32)), .val (.long vb), .second, .val (.long vc), .second, .val (.ref b6), .val (.long q2), .second, .unset, .unset] [(.int (2 : Int32)), (.int (3 : Int32))])) _
    refine XS.icmpNo X10.here hx rfl (hb hby at_97) rfl (flt hc97).1 ?_
    show Steps p.tables e below (T10.setTop (mkF m 100 #[.val (.int p1), .val (.long q2), .second, .val (.long q3), .second, .val (.long q4), .second, .val (.int (3 : Int32)), .val (.long vb), .second, .val (.long vc), .second, .val (.ref b6), .val (.long q2), .second, .unset, .unset] [])) _
    refine XS.lload X10.here hx rfl (hb hby at_100) rfl ?_
    show Steps p.tables e below (T10.setTop (mkF m 102 #[.val (.int p1), .val (.long q2), .second, .val (.long q3), .second, .val (.long q4), .second, .val (.int (3 : Int32)), .val (.long vb), .second, .val (.long vc), .second, .val (.ref b6), .val (.long q2), .second, .unset, .unset] [(.long q2)])) _
    refine XS.lload X10.here hx rfl (hb hby at_102) rfl ?_
    show Steps p.tables e below (T10.setTop (mkF m 104 #[.val (.int p1), .val (.long q2), .second, .val (.long q3), .second, .val (.long q4), .second, .val (.int (3 : Int32)), .val (.long vb), .second, .val (.long vc), .second, .val (.ref b6), .val (.long q2), .second, .unset, .unset] [(.long vb), (.long q2)])) _
    refine st11 _ ?_
    show Steps p.tables e below (T11.setTop (mkF m 107 #[.val (.int p1), .val (.long q2), .second, .val (.long q3), .second, .val (.long q4), .second, .val (.int (3 : Int32)), .val (.long vb), .second, .val (.long vc), .second, .val (.ref b6), .val (.long q2), .second, .unset, .unset] [(.long m1)])) _
    refine XS.lstore X11.here hx rfl (hb hby at_107) rfl (l' := #[.val (.int p1), .val (.long q2), .second, .val (.long q3), .second, .val (.long q4), .second, .val (.int (3 : Int32)), .val (.long vb), .second, .val (.long vc), .second, .val (.ref b6), .val (.long m1), .second, .unset, .unset]) rfl ?_
    show Steps p.tables e below (T11.setTop (mkF m 109 #[.val (.int p1), .val (.long q2), .second, .val (.long q3), .second, .val (.long q4), .second, .val (.int (3 : Int32)), .val (.long vb), .second, .val (.long vc), .second, .val (.ref b6), .val (.long m1), .second, .unset, .unset] [])) _
    refine XS.iload X11.here hx rfl (hb hby at_109) rfl ?_
    show Steps p.tables e below (T11.setTop (mkF m 111 #[.val (.int p1), .val (.long q2), .second, .val (.long q3), .second, .val (.long q4), .second, .val (.int (3 : Int32)), .val (.long vb), .second, .val (.long vc), .second, .val (.ref b6), .val (.long m1), .second, .unset, .unset] [(.int (3 : Int32))])) _
    refine XS.iconst X11.here hx rfl (hb hby at_111) ?_
    show Steps p.tables e below (T11.setTop (mkF m 112 #[.val (.int p1), .val (.long q2), .second, .val (.long q3), .second, .val (.long q4), .second, .val (.int (3 : Int32)), .val (.long vb), .second, .val (.long vc), .second, .val (.ref b6), .val (.long m1), .second, .unset, .unset] [(.int (3 : Int32)), (.int (3 : Int32))])) _
    refine XS.icmpNo X11.here hx rfl (hb hby at_112) rfl (flt hc112).1 ?_
    show Steps p.tables e below (T11.setTop (mkF m 115 #[.val (.int p1), .val (.long q2), .second, .val (.long q3), .second, .val (.long q4), .second, .val (.int (3 : Int32)), .val (.long vb), .second, .val (.long vc), .second, .val (.ref b6), .val (.long m1), .second, .unset, .unset] [])) _
    refine XS.lload X11.here hx rfl (hb hby at_115) rfl ?_
    show Steps p.tables e below (T11.setTop (mkF m 117 #[.val (.int p1), .val (.long q2), .second, .val (.long q3), .second, .val (.long q4), .second, .val (.int (3 : Int32)), .val (.long vb), .second, .val (.long vc), .second, .val (.ref b6), .val (.long m1), .second, .unset, .unset] [(.long m1)])) _
    refine XS.lload X11.here hx rfl (hb hby at_117) rfl ?_
    show Steps p.tables e below (T11.setTop (mkF m 119 #[.val (.int p1), .val (.long q2), .second, .val (.long q3), .second, .val (.long q4), .second, .val (.int (3 : Int32)), .val (.long vb), .second, .val (.long vc), .second, .val (.ref b6), .val (.long m1), .second, .unset, .unset] [(.long vc), (.long m1)])) _
    refine st12 _ ?_
    show Steps p.tables e below (T12.setTop (mkF m 122 #[.val (.int p1), .val (.long q2), .second, .val (.long q3), .second, .val (.long q4), .second, .val (.int (3 : Int32)), .val (.long vb), .second, .val (.long vc), .second, .val (.ref b6), .val (.long m1), .second, .unset, .unset] [(.long mm)])) _
    refine XS.lstore X12.here hx rfl (hb hby at_122) rfl (l' := #[.val (.int p1), .val (.long q2), .second, .val (.long q3), .second, .val (.long q4), .second, .val (.int (3 : Int32)), .val (.long vb), .second, .val (.long vc), .second, .val (.ref b6), .val (.long mm), .second, .unset, .unset]) rfl ?_
    show Steps p.tables e below (T12.setTop (mkF m 124 #[.val (.int p1), .val (.long q2), .second, .val (.long q3), .second, .val (.long q4), .second, .val (.int (3 : Int32)), .val (.long vb), .second, .val (.long vc), .second, .val (.ref b6), .val (.long mm), .second, .unset, .unset] [])) _
    refine XS.aload X12.here hx rfl (hb hby at_124) rfl rfl ?_
    show Steps p.tables e below (T12.setTop (mkF m 126 #[.val (.int p1), .val (.long q2), .second, .val (.long q3), .second, .val (.long q4), .second, .val (.int (3 : Int32)), .val (.long vb), .second, .val (.long vc), .second, .val (.ref b6), .val (.long mm), .second, .unset, .unset] [(.ref b6)])) _
    refine st13.trans ?_
    show Steps p.tables e below (T13.setTop (mkF m 129 #[.val (.int p1), .val (.long q2), .second, .val (.long q3), .second, .val (.long q4), .second, .val (.int (3 : Int32)), .val (.long vb), .second, .val (.long vc), .second, .val (.ref b6), .val (.long mm), .second, .unset, .unset] [(.long mm)])) _
    refine XS.lstore X13.here hx rfl (hb hby at_129) rfl (l' := #[.val (.int p1), .val (.long q2), .second, .val (.long q3), .second, .val (.long q4), .second, .val (.int (3 : Int32)), .val (.long vb), .second, .val (.long vc), .second, .val (.ref b6), .val (.long mm), .second, .val (.long mm), .second]) rfl ?_
    show Steps p.tables e below (T13.setTop (mkF m 131 #[.val (.int p1), .val (.long q2), .second, .val (.long q3), .second, .val (.long q4), .second, .val (.int (3 : Int32)), .val (.long vb), .second, .val (.long vc), .second, .val (.ref b6), .val (.long mm), .second, .val (.long mm), .second] [])) _
    refine XS.lload X13.here hx rfl (hb hby at_131) rfl ?_
    show Steps p.tables e below (T13.setTop (mkF m 133 #[.val (.int p1), .val (.long q2), .second, .val (.long q3), .second, .val (.long q4), .second, .val (.int (3 : Int32)), .val (.long vb), .second, .val (.long vc), .second, .val (.ref b6), .val (.long mm), .second, .val (.long mm), .second] [(.long mm)])) _
    refine XS.lload X13.here hx rfl (hb hby at_133) rfl ?_
    show Steps p.tables e below (T13.setTop (mkF m 135 #[.val (.int p1), .val (.long q2), .second, .val (.long q3), .second, .val (.long q4), .second, .val (.int (3 : Int32)), .val (.long vb), .second, .val (.long vc), .second, .val (.ref b6), .val (.long mm), .second, .val (.long mm), .second] [(.long mm), (.long mm)])) _
    refine XS.lcmp X13.here hx rfl (hb hby at_135) rfl ?_
    show Steps p.tables e below (T13.setTop (mkF m 136 #[.val (.int p1), .val (.long q2), .second, .val (.long q3), .second, .val (.long q4), .second, .val (.int (3 : Int32)), .val (.long vb), .second, .val (.long vc), .second, .val (.ref b6), .val (.long mm), .second, .val (.long mm), .second] [(.int (lcmpW mm mm))])) _
    refine XS.ifYes X13.here hx rfl (pc0 := 136) (pc' := 141) rfl (hb hby at_136) rfl ((if0 _ _).trans (teq (((lw_eq _ _).mpr rfl) : (lcmpW mm mm) = (0 : Int32))).1) (by decide) (by decide) ?_
    show Steps p.tables e below (T13.setTop (mkF m 141 #[.val (.int p1), .val (.long q2), .second, .val (.long q3), .second, .val (.long q4), .second, .val (.int (3 : Int32)), .val (.long vb), .second, .val (.long vc), .second, .val (.ref b6), .val (.long mm), .second, .val (.long mm), .second] [])) _
    refine XS.aload X13.here hx rfl (hb hby at_141) rfl rfl ?_
    show Steps p.tables e below (T13.setTop (mkF m 143 #[.val (.int p1), .val (.long q2), .second, .val (.long q3), .second, .val (.long q4), .second, .val (.int (3 : Int32)), .val (.long vb), .second, .val (.long vc), .second, .val (.ref b6), .val (.long mm), .second, .val (.long mm), .second] [(.ref b6)])) _
    refine st14.trans ?_
    show Steps p.tables e below (T14.setTop (mkF m 146 #[.val (.int p1), .val (.long q2), .second, .val (.long q3), .second, .val (.long q4), .second, .val (.int (3 : Int32)), .val (.long vb), .second, .val (.long vc), .second, .val (.ref b6), .val (.long mm), .second, .val (.long mm), .second] [(.long mm)])) _
    refine XS.lload X14.here hx rfl (hb hby at_146) rfl ?_
    show Steps p.tables e below (T14.setTop (mkF m 148 #[.val (.int p1), .val (.long q2), .second, .val (.long q3), .second, .val (.long q4), .second, .val (.int (3 : Int32)), .val (.long vb), .second, .val (.long vc), .second, .val (.ref b6), .val (.long mm), .second, .val (.long mm), .second] [(.long mm), (.long mm)])) _
    refine XS.lcmp X14.here hx rfl (hb hby at_148) rfl ?_
    show Steps p.tables e below (T14.setTop (mkF m 149 #[.val (.int p1), .val (.long q2), .second, .val (.long q3), .second, .val (.long q4), .second, .val (.int (3 : Int32)), .val (.long vb), .second, .val (.long vc), .second, .val (.ref b6), .val (.long mm), .second, .val (.long mm), .second] [(.int (lcmpW mm mm))])) _
    refine XS.ifYes X14.here hx rfl (pc0 := 149) (pc' := 154) rfl (hb hby at_149) rfl ((if0 _ _).trans (teq (((lw_eq _ _).mpr rfl) : (lcmpW mm mm) = (0 : Int32))).1) (by decide) (by decide) ?_
    show Steps p.tables e below (T14.setTop (mkF m 154 #[.val (.int p1), .val (.long q2), .second, .val (.long q3), .second, .val (.long q4), .second, .val (.int (3 : Int32)), .val (.long vb), .second, .val (.long vc), .second, .val (.ref b6), .val (.long mm), .second, .val (.long mm), .second] [])) _
    refine XS.lload X14.here hx rfl (hb hby at_154) rfl ?_
    show Steps p.tables e below (T14.setTop (mkF m 156 #[.val (.int p1), .val (.long q2), .second, .val (.long q3), .second, .val (.long q4), .second, .val (.int (3 : Int32)), .val (.long vb), .second, .val (.long vc), .second, .val (.ref b6), .val (.long mm), .second, .val (.long mm), .second] [(.long mm)])) _
    refine X14.ldc2Long hx hown (mvT hZ (hw _ (List.mem_of_getElem? (i := 43) rfl))) (g := (mkF m 156 #[.val (.int p1), .val (.long q2), .second, .val (.long q3), .second, .val (.long q4), .second, .val (.int (3 : Int32)), .val (.long vb), .second, .val (.long vc), .second, .val (.ref b6), .val (.long mm), .second, .val (.long mm), .second] [(.long mm)])) rfl (hb hby at_156) _ ?_
    show Steps p.tables e below (T14.setTop (mkF m 159 #[.val (.int p1), .val (.long q2), .second, .val (.long q3), .second, .val (.long q4), .second, .val (.int (3 : Int32)), .val (.long vb), .second, .val (.long vc), .second, .val (.ref b6), .val (.long mm), .second, .val (.long mm), .second] [(.long (9223372036854775807 : Int64)), (.long mm)])) _
    refine XS.lcmp X14.here hx rfl (hb hby at_159) rfl ?_
    show Steps p.tables e below (T14.setTop (mkF m 160 #[.val (.int p1), .val (.long q2), .second, .val (.long q3), .second, .val (.long q4), .second, .val (.int (3 : Int32)), .val (.long vb), .second, .val (.long vc), .second, .val (.ref b6), .val (.long mm), .second, .val (.long mm), .second] [(.int (lcmpW mm (9223372036854775807 : Int64)))])) _
    refine XS.ifNo X14.here hx rfl (hb hby at_160) rfl ((if0 _ _).trans (teq (((lw_eq _ _).mpr h160) : (lcmpW mm (9223372036854775807 : Int64)) = (0 : Int32))).2) ?_
    show Steps p.tables e below (T14.setTop (mkF m 163 #[.val (.int p1), .val (.long q2), .second, .val (.long q3), .second, .val (.long q4), .second, .val (.int (3 : Int32)), .val (.long vb), .second, .val (.long vc), .second, .val (.ref b6), .val (.long mm), .second, .val (.long mm), .second] [])) _
    refine XS.aload X14.here hx rfl (hb hby at_163) rfl rfl ?_
    show Steps p.tables e below (T14.setTop (mkF m 165 #[.val (.int p1), .val (.long q2), .second, .val (.long q3), .second, .val (.long q4), .second, .val (.int (3 : Int32)), .val (.long vb), .second, .val (.long vc), .second, .val (.ref b6), .val (.long mm), .second, .val (.long mm), .second] [(.ref b6)])) _
    refine st15.trans ?_
    show Steps p.tables e below (T15.setTop (mkF m 168 #[.val (.int p1), .val (.long q2), .second, .val (.long q3), .second, .val (.long q4), .second, .val (.int (3 : Int32)), .val (.long vb), .second, .val (.long vc), .second, .val (.ref b6), .val (.long mm), .second, .val (.long mm), .second] [(.int (0 : Int32))])) _
    refine XS.ifNo X15.here hx rfl (hb hby at_168) rfl ((if0 _ _).trans (teq (rfl : (0 : Int32) = (0 : Int32))).2) ?_
    show Steps p.tables e below (T15.setTop (mkF m 171 #[.val (.int p1), .val (.long q2), .second, .val (.long q3), .second, .val (.long q4), .second, .val (.int (3 : Int32)), .val (.long vb), .second, .val (.long vc), .second, .val (.ref b6), .val (.long mm), .second, .val (.long mm), .second] [])) _
    refine XS.iconst X15.here hx rfl (hb hby at_171) ?_
    show Steps p.tables e below (T15.setTop (mkF m 172 #[.val (.int p1), .val (.long q2), .second, .val (.long q3), .second, .val (.long q4), .second, .val (.int (3 : Int32)), .val (.long vb), .second, .val (.long vc), .second, .val (.ref b6), .val (.long mm), .second, .val (.long mm), .second] [(.int (1 : Int32))])) _
    refine XS.goto X15.here hx rfl (pc0 := 172) (pc' := 176) rfl (hb hby at_172) (by decide) (by decide) ?_
    show Steps p.tables e below (T15.setTop (mkF m 176 #[.val (.int p1), .val (.long q2), .second, .val (.long q3), .second, .val (.long q4), .second, .val (.int (3 : Int32)), .val (.long vb), .second, .val (.long vc), .second, .val (.ref b6), .val (.long mm), .second, .val (.long mm), .second] [(.int (1 : Int32))])) _
    exact retN X15 hx (t := .boolean) Bd.returns (by simp) (hb hby at_176) hr
  · show Q0 Z p1 q2 q3 q4 h0 n0 _ T15.heap _
    exact ⟨rfl, N15⟩
set_option maxRecDepth 65536 in
set_option maxHeartbeats 40000000 in
theorem rm0_3yyy (l : Launch) (Z : State) (a0 : Array Value) (hw : ∀ d ∈ tables_1, d.before a0 Z = true) (ws : List Jvm.Cond) (p1 : Int32) (q2 : Int64) (q3 : Int64) (q4 : Int64) (h0 : Heap) (n0 : Nat) (Z0 : n0 ≤ h0.size) (vb vc mm : Int64) (hn : own_n p1 = 3) (hvb : own_vb p1 q2 q3 = vb) (hvc : own_vc p1 q2 q3 q4 = vc) (hm : mm = (own_mn (own_mn q2 vb) vc)) (h160 : ¬ (mm = (9223372036854775807 : Int64))) (h181 : q2 = mm) (h204 : vb = mm) (h227 : vc = mm) :
    MetFree l x (head1 (Jvm.Cond.code x code maxLocals ret :: ws) room_1) (fun a U => a = #[(.int p1), (.long q2), (.long q3), (.long q4)] ∧ Z.Warmed39 U.vm ∧ U.heap = h0) (fun _ _ _ _ _ => True) (fun _ U o U' => ∃ v L, o = .returned v ∧ Q0 Z p1 q2 q3 q4 h0 n0 v U'.heap L ∧ FrameEnd U o U' L room_1.cells room_1.slots) := by
  refine MetFree.of_bodySF (plainFor_of_name pn_0) hisR ?_
  intro p e s m args below meth c s₁ Bd hml0 hP hK
  obtain ⟨rfl, hZ, hh⟩ := hP
  have hx := Bd.exec
  have hby := Bd.bytes
  have hml : c.maxLocals = 17 := hml0
  have hown : s.vm.findClass "com/example/mullion/mullion/aggregators/FurthestBackFindSmallestPinLaw" = some m.cls := findClass_of_methodNamed Bd.named
  have hnm := (name_of_methodNamed Bd.named Bd.method).1
  have X0 : Stand p l e room_1 s m #[(.int p1), (.long q2), (.long q3), (.long q4)] below meth c s₁ [] 0 0 := Stand.of_body Bd
  have e0 : s₁.heap = h0 := by rw [← hh, Bd.state]; rfl
  have N0 := Fr.nil n0
  have pre0 : ∀ t, Steps p.tables e below (s₁.setTop (mkF m 0 #[.val (.int p1), .val (.long q2), .second, .val (.long q3), .second, .val (.long q4), .second, .unset, .unset, .unset, .unset, .unset, .unset, .unset, .unset, .unset, .unset] [])) t → Steps p.tables e below (s₁.setTop (entryFrame m #[(.int p1), (.long q2), (.long q3), (.long q4)] maxLocals)) t := fun t k => castTop (ef_0 m p1 q2 q3 q4) k
  have hc66 : ¬ ((3 : Int32) < (2 : Int32)) := (by decide)
  have hc80 : ¬ ((3 : Int32) < (3 : Int32)) := (by decide)
  have hc97 : ¬ ((3 : Int32) < (2 : Int32)) := (by decide)
  have hc112 : ¬ ((3 : Int32) < (3 : Int32)) := (by decide)
  have hc196 : ¬ ((3 : Int32) < (2 : Int32)) := (by decide)
  have hc219 : ¬ ((3 : Int32) < (3 : Int32)) := (by decide)
  obtain ⟨T5, X5, e5, st5⟩ := own_j0 p1 q2 q3 q4 (3 : Int32) vb vc hn hvb hvc X0 hx hZ hw hby hml hown e0
  obtain ⟨T6, h6, X6, e6, E6, A6, D6, -, st6⟩ := newO X5 hx hZ hown (hw _ (List.mem_of_getElem? (i := 1) rfl)) (hw _ (List.mem_of_getElem? (i := 2) rfl)) (hw _ (List.mem_of_getElem? (i := 3) rfl)) e5 (g := (mkF m 42 #[.val (.int p1), .val (.long q2), .second, .val (.long q3), .second, .val (.long q4), .second, .val (.int (3 : Int32)), .val (.long vb), .second, .val (.long vc), .second, .unset, .unset, .unset, .unset, .unset] [])) rfl (hb hby at_42) (by decide) (by decide)
  obtain ⟨b6, g6⟩ : ∃ z, z = h0.size := ⟨_, rfl⟩
  rw [← g6] at A6 D6 st6
  have F_values_b6 : Fld Z h6 b6 "com/example/mullion/mullion/aggregators/FurthestBack" "values" "[J" .null := D6 (Or.inr (hw _ (List.mem_of_getElem? (i := 13) rfl))) (ty := (.array .long)) (by decide)
  have F_mark_b6 : Fld Z h6 b6 "com/example/mullion/mullion/aggregators/FurthestBack" "mark" "J" (.long (0 : Int64)) := D6 (Or.inl (hw _ (List.mem_of_getElem? (i := 24) rfl))) (ty := .long) (by decide)
  have F_atOrBelowMark_b6 : Fld Z h6 b6 "com/example/mullion/mullion/aggregators/FurthestBack" "atOrBelowMark" "I" (.int (0 : Int32)) := D6 (Or.inl (hw _ (List.mem_of_getElem? (i := 26) rfl))) (ty := .int) (by decide)
  have E_b6 := A6
  have g_b6 : n0 ≤ b6 := Nat.le_trans Z0 (Nat.le_of_eq g6.symm)
  have sz_b6 : h0.size ≤ b6 := (Nat.le_trans (Keep.refl h0 []).1 (Nat.le_of_eq g6.symm))
  have K6 : Keep h0 h6 [] := (Keep.refl h0 []).ext E6
  obtain ⟨_, _, ⟨T7, L7, k7, n7⟩, -, X7, ⟨Lc7, hQ7, l7, y7, z7⟩, st7⟩ := X6.specialBack hx (y := (⟨"com/example/mullion/mullion/aggregators/FurthestBack", "<init>", "(IJ)V"⟩ : MethodName)) rfl hown (mvT hZ (hw _ (List.mem_of_getElem? (i := 5) rfl))) (mvT hZ (hw _ (List.mem_of_getElem? (i := 6) rfl))) (mvT hZ (hw _ (List.mem_of_getElem? (i := 7) rfl))) (by decide) (backOf (W := 1) (rm1 l Z a0 hw [] b6 (3 : Int32) (-9223372036854775808 : Int64) 3 h6 n0 (Nat.le_trans Z0 E6.1) (by decide) rfl (by decide) E_b6 F_values_b6 F_mark_b6 F_atOrBelowMark_b6 g_b6) hZ (hw _ (List.mem_of_getElem? (i := 7) rfl)) (hw _ (List.mem_of_getElem? (i := 3) rfl)) (by decide) (by decide)) (g := (mkF m 51 #[.val (.int p1), .val (.long q2), .second, .val (.long q3), .second, .val (.long q4), .second, .val (.int (3 : Int32)), .val (.long vb), .second, .val (.long vc), .second, .unset, .unset, .unset, .unset, .unset] [(.long (-9223372036854775808 : Int64)), (.int (3 : Int32)), (.ref b6), (.ref b6)])) rfl (by rw [hml]; rfl) (Steps.refl _) (a := b6) (argsL := [(.int (3 : Int32)), (.long (-9223372036854775808 : Int64))]) (rest := [(.ref b6)]) (lenOf pd_0_0 rfl) rfl (by show 2 * 0 + _ ≤ _; exact Nat.le_of_eq rfl) (hb hby at_51) (fun _ _ => ⟨rfl, e6, (by decide : 1 + 1 ≤ _), (by decide : 3 + 3 ≤ _)⟩)
  dsimp only [Pt.U, Pt.locs, Pt.cells, Pt.slots] at X7 l7 y7 z7 st7 hQ7
  subst l7 y7 z7
  obtain ⟨rfl, N7q, K7q, t, st, E7q, Fv7q, Fm7q, Fa7q, V7q⟩ := hQ7
  have N7 := Fr.app N0 N7q
  have z7q : n0 ≤ T7.heap.size := Nat.le_trans (Nat.le_trans Z0 E6.1) K7q.1
  have hne : b6 ≠ t := Nat.ne_of_lt (Nat.lt_of_lt_of_le E_b6.lt st)
  have g_t : n0 ≤ t := Nat.le_trans (Nat.le_trans Z0 E6.1) st
  obtain ⟨cq8, kq8, q8a, q8b, q8c⟩ := isOf hZ rfl E7q
  obtain ⟨_, _, ⟨T8, L8, k8, n8⟩, -, X8, ⟨Lc8, hQ8, l8, y8, z8⟩, st8⟩ := X7.virtualBack hx (y := (⟨"com/example/mullion/mullion/aggregators/FurthestBack", "moveOn", "(IJ)V"⟩ : MethodName)) (z := (⟨"com/example/mullion/mullion/aggregators/FurthestBack", "moveOn", "(IJ)V"⟩ : MethodName)) hown (mvT hZ (hw _ (List.mem_of_getElem? (i := 27) rfl))) (mvT hZ (hw _ (List.mem_of_getElem? (i := 28) rfl))) (notFace_of_selects (args := #[]) (mvT hZ (hw _ (List.mem_of_getElem? (i := 30) rfl)))) (mvT hZ (hw _ (List.mem_of_getElem? (i := 30) rfl))) (mvT hZ (hw _ (List.mem_of_getElem? (i := 29) rfl))) (by decide) (backOf (W := 0) (rm5 l Z a0 hw [] b6 (0 : Int32) q2 t 3 _ 0 _ _ T7.heap n0 z7q rfl (by decide) (by decide) E7q Fv7q Fm7q Fa7q V7q hne g_b6 g_t) hZ (hw _ (List.mem_of_getElem? (i := 31) rfl)) (hw _ (List.mem_of_getElem? (i := 3) rfl)) (by decide) (by decide)) q8a q8c (g := (mkF m 60 #[.val (.int p1), .val (.long q2), .second, .val (.long q3), .second, .val (.long q4), .second, .val (.int (3 : Int32)), .val (.long vb), .second, .val (.long vc), .second, .val (.ref b6), .unset, .unset, .unset, .unset] [(.long q2), (.int (0 : Int32)), (.ref b6)])) rfl (by rw [hml]; rfl) (Steps.refl _) (argsL := [(.int (0 : Int32)), (.long q2)]) (rest := []) (lenOf pd_0_0 rfl) rfl (by show 2 * 0 + _ ≤ _; exact Nat.le_of_eq rfl) (hb hby at_60) (fun _ _ => ⟨rfl, rfl, (by decide : 2 + 0 ≤ _), (by decide : 6 + 0 ≤ _)⟩)
  dsimp only [Pt.U, Pt.locs, Pt.cells, Pt.slots] at X8 l8 y8 z8 st8 hQ8
  subst l8 y8 z8
  obtain ⟨rfl, N8q, K8q, E8q, Fv8q, Fm8q, Fa8q, V8q⟩ := hQ8
  have N8 := Fr.app N7 N8q
  have z8q : n0 ≤ T8.heap.size := Nat.le_trans z7q K8q.1
  obtain ⟨cq9, kq9, q9a, q9b, q9c⟩ := isOf hZ rfl E8q
  obtain ⟨_, _, ⟨T9, L9, k9, n9⟩, -, X9, ⟨Lc9, hQ9, l9, y9, z9⟩, st9⟩ := X8.virtualBack hx (y := (⟨"com/example/mullion/mullion/aggregators/FurthestBack", "moveOn", "(IJ)V"⟩ : MethodName)) (z := (⟨"com/example/mullion/mullion/aggregators/FurthestBack", "moveOn", "(IJ)V"⟩ : MethodName)) hown (mvT hZ (hw _ (List.mem_of_getElem? (i := 27) rfl))) (mvT hZ (hw _ (List.mem_of_getElem? (i := 28) rfl))) (notFace_of_selects (args := #[]) (mvT hZ (hw _ (List.mem_of_getElem? (i := 30) rfl)))) (mvT hZ (hw _ (List.mem_of_getElem? (i := 30) rfl))) (mvT hZ (hw _ (List.mem_of_getElem? (i := 29) rfl))) (by decide) (backOf (W := 0) (rm5 l Z a0 hw [] b6 (1 : Int32) vb t 3 _ 1 _ _ T8.heap n0 z8q rfl (by decide) (by decide) E8q Fv8q Fm8q Fa8q V8q hne g_b6 g_t) hZ (hw _ (List.mem_of_getElem? (i := 31) rfl)) (hw _ (List.mem_of_getElem? (i := 3) rfl)) (by decide) (by decide)) q9a q9c (g := (mkF m 74 #[.val (.int p1), .val (.long q2), .second, .val (.long q3), .second, .val (.long q4), .second, .val (.int (3 : Int32)), .val (.long vb), .second, .val (.long vc), .second, .val (.ref b6), .unset, .unset, .unset, .unset] [(.long vb), (.int (1 : Int32)), (.ref b6)])) rfl (by rw [hml]; rfl) (Steps.refl _) (argsL := [(.int (1 : Int32)), (.long vb)]) (rest := []) (lenOf pd_0_0 rfl) rfl (by show 2 * 0 + _ ≤ _; exact Nat.le_of_eq rfl) (hb hby at_74) (fun _ _ => ⟨rfl, rfl, (by decide : 2 + 0 ≤ _), (by decide : 6 + 0 ≤ _)⟩)
  dsimp only [Pt.U, Pt.locs, Pt.cells, Pt.slots] at X9 l9 y9 z9 st9 hQ9
  subst l9 y9 z9
  obtain ⟨rfl, N9q, K9q, E9q, Fv9q, Fm9q, Fa9q, V9q⟩ := hQ9
  have N9 := Fr.app N8 N9q
  have z9q : n0 ≤ T9.heap.size := Nat.le_trans z8q K9q.1
  obtain ⟨cq10, kq10, q10a, q10b, q10c⟩ := isOf hZ rfl E9q
  obtain ⟨_, _, ⟨T10, L10, k10, n10⟩, -, X10, ⟨Lc10, hQ10, l10, y10, z10⟩, st10⟩ := X9.virtualBack hx (y := (⟨"com/example/mullion/mullion/aggregators/FurthestBack", "moveOn", "(IJ)V"⟩ : MethodName)) (z := (⟨"com/example/mullion/mullion/aggregators/FurthestBack", "moveOn", "(IJ)V"⟩ : MethodName)) hown (mvT hZ (hw _ (List.mem_of_getElem? (i := 27) rfl))) (mvT hZ (hw _ (List.mem_of_getElem? (i := 28) rfl))) (notFace_of_selects (args := #[]) (mvT hZ (hw _ (List.mem_of_getElem? (i := 30) rfl)))) (mvT hZ (hw _ (List.mem_of_getElem? (i := 30) rfl))) (mvT hZ (hw _ (List.mem_of_getElem? (i := 29) rfl))) (by decide) (backOf (W := 0) (rm5 l Z a0 hw [] b6 (2 : Int32) vc t 3 _ 2 _ _ T9.heap n0 z9q rfl (by decide) (by decide) E9q Fv9q Fm9q Fa9q V9q hne g_b6 g_t) hZ (hw _ (List.mem_of_getElem? (i := 31) rfl)) (hw _ (List.mem_of_getElem? (i := 3) rfl)) (by decide) (by decide)) q10a q10c (g := (mkF m 88 #[.val (.int p1), .val (.long q2), .second, .val (.long q3), .second, .val (.long q4), .second, .val (.int (3 : Int32)), .val (.long vb), .second, .val (.long vc), .second, .val (.ref b6), .unset, .unset, .unset, .unset] [(.long vc), (.int (2 : Int32)), (.ref b6)])) rfl (by rw [hml]; rfl) (Steps.refl _) (argsL := [(.int (2 : Int32)), (.long vc)]) (rest := []) (lenOf pd_0_0 rfl) rfl (by show 2 * 0 + _ ≤ _; exact Nat.le_of_eq rfl) (hb hby at_88) (fun _ _ => ⟨rfl, rfl, (by decide : 2 + 0 ≤ _), (by decide : 6 + 0 ≤ _)⟩)
  dsimp only [Pt.U, Pt.locs, Pt.cells, Pt.slots] at X10 l10 y10 z10 st10 hQ10
  subst l10 y10 z10
  obtain ⟨rfl, N10q, K10q, E10q, Fv10q, Fm10q, Fa10q, V10q⟩ := hQ10
  have N10 := Fr.app N9 N10q
  have z10q : n0 ≤ T10.heap.size := Nat.le_trans z9q K10q.1
  obtain ⟨_, _, ⟨T11, L11, k11, n11⟩, -, X11, ⟨Lc11, hQ11, l11, y11, z11⟩, st11⟩ := Jvm.LawKit.callS X10 hx (y := (⟨"java/lang/Math", "min", "(JJ)J"⟩ : MethodName)) hown (mvT hZ (hw _ (List.mem_of_getElem? (i := 49) rfl))) (mvT hZ (hw _ (List.mem_of_getElem? (i := 50) rfl))) (mvT hZ (hw _ (List.mem_of_getElem? (i := 51) rfl))) (mvT hZ (hw _ (List.mem_of_getElem? (i := 52) rfl))) (by decide) (backOf (W := 0) (rm9 l Z a0 hw [] q2 vb  T10.heap n0 z10q) hZ (hw _ (List.mem_of_getElem? (i := 52) rfl)) (hw _ (List.mem_of_getElem? (i := 51) rfl)) (by decide) (by decide)) (g := (mkF m 104 #[.val (.int p1), .val (.long q2), .second, .val (.long q3), .second, .val (.long q4), .second, .val (.int (3 : Int32)), .val (.long vb), .second, .val (.long vc), .second, .val (.ref b6), .val (.long q2), .second, .unset, .unset] [(.long vb), (.long q2)])) rfl (by rw [hml]; rfl) (argsL := [(.long q2), (.long vb)]) (rest := []) (lenOf pd_0_6 rfl) rfl (by show 2 * 0 + _ ≤ _; exact Nat.le_of_eq rfl) (hb hby at_104) (fun _ _ => ⟨rfl, rfl, (by decide : 2 + 0 ≤ _), (by decide : 6 + 0 ≤ _)⟩)
  dsimp only [Pt.U, Pt.locs, Pt.cells, Pt.slots] at X11 l11 y11 z11 st11 hQ11
  subst l11 y11 z11
  obtain ⟨hv11, N11q, e11q⟩ := hQ11
  have N11 := Fr.app N10 N11q
  obtain ⟨m1, hm1⟩ : ∃ z, z = own_mn q2 vb := ⟨_, rfl⟩
  rw [← hm1] at hv11
  subst hv11
  have z11q : n0 ≤ T11.heap.size := by rw [e11q]; exact z10q
  have E11q := E10q
  rw [← e11q] at E11q
  have Fv11q := Fv10q
  rw [← e11q] at Fv11q
  have Fm11q := Fm10q
  rw [← e11q] at Fm11q
  have Fa11q := Fa10q
  rw [← e11q] at Fa11q
  have V11q := V10q
  rw [← e11q] at V11q
  obtain ⟨_, _, ⟨T12, L12, k12, n12⟩, -, X12, ⟨Lc12, hQ12, l12, y12, z12⟩, st12⟩ := Jvm.LawKit.callS X11 hx (y := (⟨"java/lang/Math", "min", "(JJ)J"⟩ : MethodName)) hown (mvT hZ (hw _ (List.mem_of_getElem? (i := 49) rfl))) (mvT hZ (hw _ (List.mem_of_getElem? (i := 50) rfl))) (mvT hZ (hw _ (List.mem_of_getElem? (i := 51) rfl))) (mvT hZ (hw _ (List.mem_of_getElem? (i := 52) rfl))) (by decide) (backOf (W := 0) (rm9 l Z a0 hw [] m1 vc  T11.heap n0 z11q) hZ (hw _ (List.mem_of_getElem? (i := 52) rfl)) (hw _ (List.mem_of_getElem? (i := 51) rfl)) (by decide) (by decide)) (g := (mkF m 119 #[.val (.int p1), .val (.long q2), .second, .val (.long q3), .second, .val (.long q4), .second, .val (.int (3 : Int32)), .val (.long vb), .second, .val (.long vc), .second, .val (.ref b6), .val (.long m1), .second, .unset, .unset] [(.long vc), (.long m1)])) rfl (by rw [hml]; rfl) (argsL := [(.long m1), (.long vc)]) (rest := []) (lenOf pd_0_6 rfl) rfl (by show 2 * 0 + _ ≤ _; exact Nat.le_of_eq rfl) (hb hby at_119) (fun _ _ => ⟨rfl, rfl, (by decide : 2 + 0 ≤ _), (by decide : 6 + 0 ≤ _)⟩)
  dsimp only [Pt.U, Pt.locs, Pt.cells, Pt.slots] at X12 l12 y12 z12 st12 hQ12
  subst l12 y12 z12
  obtain ⟨hv12, N12q, e12q⟩ := hQ12
  have N12 := Fr.app N11 N12q
  rw [hm1, ← hm] at hv12
  subst hv12
  have z12q : n0 ≤ T12.heap.size := by rw [e12q]; exact z11q
  have E12q := E11q
  rw [← e12q] at E12q
  have Fv12q := Fv11q
  rw [← e12q] at Fv12q
  have Fm12q := Fm11q
  rw [← e12q] at Fm12q
  have Fa12q := Fa11q
  rw [← e12q] at Fa12q
  have V12q := V11q
  rw [← e12q] at V12q
  obtain ⟨cq13, kq13, q13a, q13b, q13c⟩ := isOf hZ rfl E12q
  obtain ⟨_, _, ⟨T13, L13, k13, n13⟩, -, X13, ⟨Lc13, hQ13, l13, y13, z13⟩, st13⟩ := X12.virtualBack hx (y := (⟨"com/example/mullion/mullion/aggregators/FurthestBack", "findSmallest", "()J"⟩ : MethodName)) (z := (⟨"com/example/mullion/mullion/aggregators/FurthestBack", "findSmallest", "()J"⟩ : MethodName)) hown (mvT hZ (hw _ (List.mem_of_getElem? (i := 32) rfl))) (mvT hZ (hw _ (List.mem_of_getElem? (i := 33) rfl))) (notFace_of_selects (args := #[]) (mvT hZ (hw _ (List.mem_of_getElem? (i := 35) rfl)))) (mvT hZ (hw _ (List.mem_of_getElem? (i := 35) rfl))) (mvT hZ (hw _ (List.mem_of_getElem? (i := 34) rfl))) (by decide) (backOf (W := 0) (rm6 l Z a0 hw [] b6 t 3 (fun j => if j = 2 then vc else if j = 1 then vb else if j = 0 then q2 else (-9223372036854775808 : Int64)) _ _ T12.heap n0 z12q (by decide) E12q Fv12q Fm12q Fa12q V12q hne g_b6) hZ (hw _ (List.mem_of_getElem? (i := 36) rfl)) (hw _ (List.mem_of_getElem? (i := 3) rfl)) (by decide) (by decide)) q13a q13c (g := (mkF m 126 #[.val (.int p1), .val (.long q2), .second, .val (.long q3), .second, .val (.long q4), .second, .val (.int (3 : Int32)), .val (.long vb), .second, .val (.long vc), .second, .val (.ref b6), .val (.long mm), .second, .unset, .unset] [(.ref b6)])) rfl (by rw [hml]; rfl) (Steps.refl _) (argsL := []) (rest := []) (lenOf pd_0_4 rfl) rfl (by show 2 * 0 + _ ≤ _; exact Nat.le_of_eq rfl) (hb hby at_126) (fun _ _ => ⟨rfl, rfl, (by decide : 2 + 0 ≤ _), (by decide : 6 + 0 ≤ _)⟩)
  dsimp only [Pt.U, Pt.locs, Pt.cells, Pt.slots] at X13 l13 y13 z13 st13 hQ13
  subst l13 y13 z13
  obtain ⟨hv13, N13q, K13q, E13q, Fv13q, Fm13q, Fa13q, V13q⟩ := hQ13
  have N13 := Fr.app N12 N13q
  have z13q : n0 ≤ T13.heap.size := Nat.le_trans z12q K13q.1
  have hfs : own_fs (fun j => if j = 2 then vc else if j = 1 then vb else if j = 0 then q2 else (-9223372036854775808 : Int64)) 3 0 ((9223372036854775807 : Int64), (0 : Int32)) = (mm, (own_is q2 mm + own_is vb mm + own_is vc mm)) := by show own_step (own_step (own_step ((9223372036854775807 : Int64), 0) q2) vb) vc = _; rw [own_first, own_second, hm]; exact own_third q2 vb vc
  rw [hfs] at hv13
  replace hv13 : _ = some (Value.long mm) := hv13
  subst hv13
  have Gm13q : Fld Z T13.heap b6 "com/example/mullion/mullion/aggregators/FurthestBack" "mark" "J" (.long mm) := by have q := Fm13q; rw [hfs] at q; exact q
  have Ga13q : Fld Z T13.heap b6 "com/example/mullion/mullion/aggregators/FurthestBack" "atOrBelowMark" "I" (.int (own_is q2 mm + own_is vb mm + own_is vc mm)) := by have q := Fa13q; rw [hfs] at q; exact q
  obtain ⟨cq14, kq14, q14a, q14b, q14c⟩ := isOf hZ rfl E13q
  obtain ⟨_, _, ⟨T14, L14, k14, n14⟩, -, X14, ⟨Lc14, hQ14, l14, y14, z14⟩, st14⟩ := X13.virtualBack hx (y := (⟨"com/example/mullion/mullion/aggregators/FurthestBack", "mark", "()J"⟩ : MethodName)) (z := (⟨"com/example/mullion/mullion/aggregators/FurthestBack", "mark", "()J"⟩ : MethodName)) hown (mvT hZ (hw _ (List.mem_of_getElem? (i := 38) rfl))) (mvT hZ (hw _ (List.mem_of_getElem? (i := 39) rfl))) (notFace_of_selects (args := #[]) (mvT hZ (hw _ (List.mem_of_getElem? (i := 41) rfl)))) (mvT hZ (hw _ (List.mem_of_getElem? (i := 41) rfl))) (mvT hZ (hw _ (List.mem_of_getElem? (i := 40) rfl))) (by decide) (backOf (W := 0) (rm7 l Z a0 hw [] b6 mm T13.heap n0 z13q Gm13q) hZ (hw _ (List.mem_of_getElem? (i := 42) rfl)) (hw _ (List.mem_of_getElem? (i := 3) rfl)) (by decide) (by decide)) q14a q14c (g := (mkF m 143 #[.val (.int p1), .val (.long q2), .second, .val (.long q3), .second, .val (.long q4), .second, .val (.int (3 : Int32)), .val (.long vb), .second, .val (.long vc), .second, .val (.ref b6), .val (.long mm), .second, .val (.long mm), .second] [(.ref b6)])) rfl (by rw [hml]; rfl) (Steps.refl _) (argsL := []) (rest := []) (lenOf pd_0_4 rfl) rfl (by show 2 * 0 + _ ≤ _; exact Nat.le_of_eq rfl) (hb hby at_143) (fun _ _ => ⟨rfl, rfl, (by decide : 2 + 0 ≤ _), (by decide : 6 + 0 ≤ _)⟩)
  dsimp only [Pt.U, Pt.locs, Pt.cells, Pt.slots] at X14 l14 y14 z14 st14 hQ14
  subst l14 y14 z14
  obtain ⟨rfl, N14q, e14q⟩ := hQ14
  have N14 := Fr.app N13 N14q
  have z14q : n0 ≤ T14.heap.size := by rw [e14q]; exact z13q
  have E14q := E13q
  rw [← e14q] at E14q
  have Fv14q := Fv13q
  rw [← e14q] at Fv14q
  have Fm14q := Gm13q
  rw [← e14q] at Fm14q
  have Fa14q := Ga13q
  rw [← e14q] at Fa14q
  have V14q := V13q
  rw [← e14q] at V14q
  obtain ⟨cq15, kq15, q15a, q15b, q15c⟩ := isOf hZ rfl E14q
  obtain ⟨_, _, ⟨T15, L15, k15, n15⟩, -, X15, ⟨Lc15, hQ15, l15, y15, z15⟩, st15⟩ := X14.virtualBack hx (y := (⟨"com/example/mullion/mullion/aggregators/FurthestBack", "moveOn", "(IJ)V"⟩ : MethodName)) (z := (⟨"com/example/mullion/mullion/aggregators/FurthestBack", "moveOn", "(IJ)V"⟩ : MethodName)) hown (mvT hZ (hw _ (List.mem_of_getElem? (i := 27) rfl))) (mvT hZ (hw _ (List.mem_of_getElem? (i := 28) rfl))) (notFace_of_selects (args := #[]) (mvT hZ (hw _ (List.mem_of_getElem? (i := 30) rfl)))) (mvT hZ (hw _ (List.mem_of_getElem? (i := 30) rfl))) (mvT hZ (hw _ (List.mem_of_getElem? (i := 29) rfl))) (by decide) (backOf (W := 0) (rm5 l Z a0 hw [] b6 (0 : Int32) (9223372036854775807 : Int64) t 3 _ 0 _ _ T14.heap n0 z14q rfl (by decide) (by decide) E14q Fv14q Fm14q Fa14q V14q hne g_b6 g_t) hZ (hw _ (List.mem_of_getElem? (i := 31) rfl)) (hw _ (List.mem_of_getElem? (i := 3) rfl)) (by decide) (by decide)) q15a q15c (g := (mkF m 190 #[.val (.int p1), .val (.long q2), .second, .val (.long q3), .second, .val (.long q4), .second, .val (.int (3 : Int32)), .val (.long vb), .second, .val (.long vc), .second, .val (.ref b6), .val (.long mm), .second, .val (.long mm), .second] [(.long (9223372036854775807 : Int64)), (.int (0 : Int32)), (.ref b6)])) rfl (by rw [hml]; rfl) (Steps.refl _) (argsL := [(.int (0 : Int32)), (.long (9223372036854775807 : Int64))]) (rest := []) (lenOf pd_0_0 rfl) rfl (by show 2 * 0 + _ ≤ _; exact Nat.le_of_eq rfl) (hb hby at_190) (fun _ _ => ⟨rfl, rfl, (by decide : 2 + 0 ≤ _), (by decide : 6 + 0 ≤ _)⟩)
  dsimp only [Pt.U, Pt.locs, Pt.cells, Pt.slots] at X15 l15 y15 z15 st15 hQ15
  subst l15 y15 z15
  obtain ⟨rfl, N15q, K15q, E15q, Fv15q, Fm15q, Fa15q, V15q⟩ := hQ15
  have N15 := Fr.app N14 N15q
  have z15q : n0 ≤ T15.heap.size := Nat.le_trans z14q K15q.1
  have Fb15q : Fld Z T15.heap b6 "com/example/mullion/mullion/aggregators/FurthestBack" "atOrBelowMark" "I" (.int ((own_is q2 mm + own_is vb mm + own_is vc mm) - (1 : Int32))) := by
    have q : Fld Z T15.heap b6 "com/example/mullion/mullion/aggregators/FurthestBack" "atOrBelowMark" "I" (.int (own_mv q2 (9223372036854775807 : Int64) mm (own_is q2 mm + own_is vb mm + own_is vc mm))) := Fa15q
    rw [own_mv_dec (x := q2) (m := mm) h181 h160] at q
    exact q
  obtain ⟨cq16, kq16, q16a, q16b, q16c⟩ := isOf hZ rfl E15q
  obtain ⟨_, _, ⟨T16, L16, k16, n16⟩, -, X16, ⟨Lc16, hQ16, l16, y16, z16⟩, st16⟩ := X15.virtualBack hx (y := (⟨"com/example/mullion/mullion/aggregators/FurthestBack", "moveOn", "(IJ)V"⟩ : MethodName)) (z := (⟨"com/example/mullion/mullion/aggregators/FurthestBack", "moveOn", "(IJ)V"⟩ : MethodName)) hown (mvT hZ (hw _ (List.mem_of_getElem? (i := 27) rfl))) (mvT hZ (hw _ (List.mem_of_getElem? (i := 28) rfl))) (notFace_of_selects (args := #[]) (mvT hZ (hw _ (List.mem_of_getElem? (i := 30) rfl)))) (mvT hZ (hw _ (List.mem_of_getElem? (i := 30) rfl))) (mvT hZ (hw _ (List.mem_of_getElem? (i := 29) rfl))) (by decide) (backOf (W := 0) (rm5 l Z a0 hw [] b6 (1 : Int32) (9223372036854775807 : Int64) t 3 _ 1 _ _ T15.heap n0 z15q rfl (by decide) (by decide) E15q Fv15q Fm15q Fb15q V15q hne g_b6 g_t) hZ (hw _ (List.mem_of_getElem? (i := 31) rfl)) (hw _ (List.mem_of_getElem? (i := 3) rfl)) (by decide) (by decide)) q16a q16c (g := (mkF m 213 #[.val (.int p1), .val (.long q2), .second, .val (.long q3), .second, .val (.long q4), .second, .val (.int (3 : Int32)), .val (.long vb), .second, .val (.long vc), .second, .val (.ref b6), .val (.long mm), .second, .val (.long mm), .second] [(.long (9223372036854775807 : Int64)), (.int (1 : Int32)), (.ref b6)])) rfl (by rw [hml]; rfl) (Steps.refl _) (argsL := [(.int (1 : Int32)), (.long (9223372036854775807 : Int64))]) (rest := []) (lenOf pd_0_0 rfl) rfl (by show 2 * 0 + _ ≤ _; exact Nat.le_of_eq rfl) (hb hby at_213) (fun _ _ => ⟨rfl, rfl, (by decide : 2 + 0 ≤ _), (by decide : 6 + 0 ≤ _)⟩)
  dsimp only [Pt.U, Pt.locs, Pt.cells, Pt.slots] at X16 l16 y16 z16 st16 hQ16
  subst l16 y16 z16
  obtain ⟨rfl, N16q, K16q, E16q, Fv16q, Fm16q, Fa16q, V16q⟩ := hQ16
  have N16 := Fr.app N15 N16q
  have z16q : n0 ≤ T16.heap.size := Nat.le_trans z15q K16q.1
  have Fb16q : Fld Z T16.heap b6 "com/example/mullion/mullion/aggregators/FurthestBack" "atOrBelowMark" "I" (.int (((own_is q2 mm + own_is vb mm + own_is vc mm) - (1 : Int32)) - (1 : Int32))) := by
    have q : Fld Z T16.heap b6 "com/example/mullion/mullion/aggregators/FurthestBack" "atOrBelowMark" "I" (.int (own_mv vb (9223372036854775807 : Int64) mm ((own_is q2 mm + own_is vb mm + own_is vc mm) - (1 : Int32)))) := Fa16q
    rw [own_mv_dec (x := vb) (m := mm) h204 h160] at q
    exact q
  obtain ⟨cq17, kq17, q17a, q17b, q17c⟩ := isOf hZ rfl E16q
  obtain ⟨_, _, ⟨T17, L17, k17, n17⟩, -, X17, ⟨Lc17, hQ17, l17, y17, z17⟩, st17⟩ := X16.virtualBack hx (y := (⟨"com/example/mullion/mullion/aggregators/FurthestBack", "moveOn", "(IJ)V"⟩ : MethodName)) (z := (⟨"com/example/mullion/mullion/aggregators/FurthestBack", "moveOn", "(IJ)V"⟩ : MethodName)) hown (mvT hZ (hw _ (List.mem_of_getElem? (i := 27) rfl))) (mvT hZ (hw _ (List.mem_of_getElem? (i := 28) rfl))) (notFace_of_selects (args := #[]) (mvT hZ (hw _ (List.mem_of_getElem? (i := 30) rfl)))) (mvT hZ (hw _ (List.mem_of_getElem? (i := 30) rfl))) (mvT hZ (hw _ (List.mem_of_getElem? (i := 29) rfl))) (by decide) (backOf (W := 0) (rm5 l Z a0 hw [] b6 (2 : Int32) (9223372036854775807 : Int64) t 3 _ 2 _ _ T16.heap n0 z16q rfl (by decide) (by decide) E16q Fv16q Fm16q Fb16q V16q hne g_b6 g_t) hZ (hw _ (List.mem_of_getElem? (i := 31) rfl)) (hw _ (List.mem_of_getElem? (i := 3) rfl)) (by decide) (by decide)) q17a q17c (g := (mkF m 236 #[.val (.int p1), .val (.long q2), .second, .val (.long q3), .second, .val (.long q4), .second, .val (.int (3 : Int32)), .val (.long vb), .second, .val (.long vc), .second, .val (.ref b6), .val (.long mm), .second, .val (.long mm), .second] [(.long (9223372036854775807 : Int64)), (.int (2 : Int32)), (.ref b6)])) rfl (by rw [hml]; rfl) (Steps.refl _) (argsL := [(.int (2 : Int32)), (.long (9223372036854775807 : Int64))]) (rest := []) (lenOf pd_0_0 rfl) rfl (by show 2 * 0 + _ ≤ _; exact Nat.le_of_eq rfl) (hb hby at_236) (fun _ _ => ⟨rfl, rfl, (by decide : 2 + 0 ≤ _), (by decide : 6 + 0 ≤ _)⟩)
  dsimp only [Pt.U, Pt.locs, Pt.cells, Pt.slots] at X17 l17 y17 z17 st17 hQ17
  subst l17 y17 z17
  obtain ⟨rfl, N17q, K17q, E17q, Fv17q, Fm17q, Fa17q, V17q⟩ := hQ17
  have N17 := Fr.app N16 N17q
  have z17q : n0 ≤ T17.heap.size := Nat.le_trans z16q K17q.1
  have Fb17q : Fld Z T17.heap b6 "com/example/mullion/mullion/aggregators/FurthestBack" "atOrBelowMark" "I" (.int ((((own_is q2 mm + own_is vb mm + own_is vc mm) - (1 : Int32)) - (1 : Int32)) - (1 : Int32))) := by
    have q : Fld Z T17.heap b6 "com/example/mullion/mullion/aggregators/FurthestBack" "atOrBelowMark" "I" (.int (own_mv vc (9223372036854775807 : Int64) mm (((own_is q2 mm + own_is vb mm + own_is vc mm) - (1 : Int32)) - (1 : Int32)))) := Fa17q
    rw [own_mv_dec (x := vc) (m := mm) h227 h160] at q
    exact q
  obtain ⟨cq18, kq18, q18a, q18b, q18c⟩ := isOf hZ rfl E17q
  obtain ⟨_, _, ⟨T18, L18, k18, n18⟩, -, X18, ⟨Lc18, hQ18, l18, y18, z18⟩, st18⟩ := X17.virtualBack hx (y := (⟨"com/example/mullion/mullion/aggregators/FurthestBack", "allMovedOn", "()Z"⟩ : MethodName)) (z := (⟨"com/example/mullion/mullion/aggregators/FurthestBack", "allMovedOn", "()Z"⟩ : MethodName)) hown (mvT hZ (hw _ (List.mem_of_getElem? (i := 44) rfl))) (mvT hZ (hw _ (List.mem_of_getElem? (i := 45) rfl))) (notFace_of_selects (args := #[]) (mvT hZ (hw _ (List.mem_of_getElem? (i := 47) rfl)))) (mvT hZ (hw _ (List.mem_of_getElem? (i := 47) rfl))) (mvT hZ (hw _ (List.mem_of_getElem? (i := 46) rfl))) (by decide) (backOf (W := 0) (rm8_f l Z a0 hw [] b6 ((((own_is q2 mm + own_is vb mm + own_is vc mm) - (1 : Int32)) - (1 : Int32)) - (1 : Int32)) T17.heap n0 z17q Fb17q (by unfold own_is; rw [if_pos h181, if_pos h204, if_pos h227]; decide)) hZ (hw _ (List.mem_of_getElem? (i := 48) rfl)) (hw _ (List.mem_of_getElem? (i := 3) rfl)) (by decide) (by decide)) q18a q18c (g := (mkF m 241 #[.val (.int p1), .val (.long q2), .second, .val (.long q3), .second, .val (.long q4), .second, .val (.int (3 : Int32)), .val (.long vb), .second, .val (.long vc), .second, .val (.ref b6), .val (.long mm), .second, .val (.long mm), .second] [(.ref b6)])) rfl (by rw [hml]; rfl) (Steps.refl _) (argsL := []) (rest := []) (lenOf pd_0_5 rfl) rfl (by show 2 * 0 + _ ≤ _; exact Nat.le_of_eq rfl) (hb hby at_241) (fun _ _ => ⟨rfl, rfl, (by decide : 2 + 0 ≤ _), (by decide : 6 + 0 ≤ _)⟩)
  dsimp only [Pt.U, Pt.locs, Pt.cells, Pt.slots] at X18 l18 y18 z18 st18 hQ18
  subst l18 y18 z18
  obtain ⟨rfl, N18q, e18q⟩ := hQ18
  have N18 := Fr.app N17 N18q
  have z18q : n0 ≤ T18.heap.size := by rw [e18q]; exact z17q
  have E18q := E17q
  rw [← e18q] at E18q
  have Fv18q := Fv17q
  rw [← e18q] at Fv18q
  have Fm18q := Fm17q
  rw [← e18q] at Fm18q
  have Fa18q := Fb17q
  rw [← e18q] at Fa18q
  have V18q := V17q
  rw [← e18q] at V18q
  obtain ⟨fs, hr, hrun, hended, hW, hsame⟩ := X18.leave (v := some (.int (1 : Int32))) (fun h => by rw [Bd.returns] at h; cases h)
  refine ⟨_, _, pre0 _ ?_, hrun, hended, _, _, rfl, ?_, ⟨_, rfl⟩, hW, hsame.mono (by decide) (by decide)⟩
  · show Steps p.tables e below (s₁.setTop (mkF m 0 #[.val (.int p1), .val (.long q2), .second, .val (.long q3), .second, .val (.long q4), .second, .unset, .unset, .unset, .unset, .unset, .unset, .unset, .unset, .unset, .unset] [])) _
    refine st5 _ ?_
    show Steps p.tables e below (T5.setTop (mkF m 42 #[.val (.int p1), .val (.long q2), .second, .val (.long q3), .second, .val (.long q4), .second, .val (.int (3 : Int32)), .val (.long vb), .second, .val (.long vc), .second, .unset, .unset, .unset, .unset, .unset] [])) _
    refine st6 _ ?_
    show Steps p.tables e below (T6.setTop (mkF m 45 #[.val (.int p1), .val (.long q2), .second, .val (.long q3), .second, .val (.long q4), .second, .val (.int (3 : Int32)), .val (.long vb), .second, .val (.long vc), .second, .unset, .unset, .unset, .unset, .unset] [(.ref b6)])) _
    refine XS.dup X6.here hx rfl (hb hby at_45) rfl rfl ?_
    show Steps p.tables e below (T6.setTop (mkF m 46 #[.val (.int p1), .val (.long q2), .second, .val (.long q3), .second, .val (.long q4), .second, .val (.int (3 : Int32)), .val (.long vb), .second, .val (.long vc), .second, .unset, .unset, .unset, .unset, .unset] [(.ref b6), (.ref b6)])) _
    refine XS.iload X6.here hx rfl (hb hby at_46) rfl ?_
    show Steps p.tables e below (T6.setTop (mkF m 48 #[.val (.int p1), .val (.long q2), .second, .val (.long q3), .second, .val (.long q4), .second, .val (.int (3 : Int32)), .val (.long vb), .second, .val (.long vc), .second, .unset, .unset, .unset, .unset, .unset] [(.int (3 : Int32)), (.ref b6), (.ref b6)])) _
    refine X6.ldc2Long hx hown (mvT hZ (hw _ (List.mem_of_getElem? (i := 4) rfl))) (g := (mkF m 48 #[.val (.int p1), .val (.long q2), .second, .val (.long q3), .second, .val (.long q4), .second, .val (.int (3 : Int32)), .val (.long vb), .second, .val (.long vc), .second, .unset, .unset, .unset, .unset, .unset] [(.int (3 : Int32)), (.ref b6), (.ref b6)])) rfl (hb hby at_48) _ ?_
    show Steps p.tables e below (T6.setTop (mkF m 51 #[.val (.int p1), .val (.long q2), .second, .val (.long q3), .second, .val (.long q4), .second, .val (.int (3 : Int32)), .val (.long vb), .second, .val (.long vc), .second, .unset, .unset, .unset, .unset, .unset] [(.long (-9223372036854775808 : Int64)), (.int (3 : Int32)), (.ref b6), (.ref b6)])) _
    refine st7.trans ?_
    show Steps p.tables e below (T7.setTop (mkF m 54 #[.val (.int p1), .val (.long q2), .second, .val (.long q3), .second, .val (.long q4), .second, .val (.int (3 : Int32)), .val (.long vb), .second, .val (.long vc), .second, .unset, .unset, .unset, .unset, .unset] [(.ref b6)])) _
    refine XS.astore X7.here hx rfl (hb hby at_54) rfl rfl (l' := #[.val (.int p1), .val (.long q2), .second, .val (.long q3), .second, .val (.long q4), .second, .val (.int (3 : Int32)), .val (.long vb), .second, .val (.long vc), .second, .val (.ref b6), .unset, .unset, .unset, .unset]) rfl ?_
    show Steps p.tables e below (T7.setTop (mkF m 56 #[.val (.int p1), .val (.long q2), .second, .val (.long q3), .second, .val (.long q4), .second, .val (.int (3 : Int32)), .val (.long vb), .second, .val (.long vc), .second, .val (.ref b6), .unset, .unset, .unset, .unset] [])) _
    refine XS.aload X7.here hx rfl (hb hby at_56) rfl rfl ?_
    show Steps p.tables e below (T7.setTop (mkF m 58 #[.val (.int p1), .val (.long q2), .second, .val (.long q3), .second, .val (.long q4), .second, .val (.int (3 : Int32)), .val (.long vb), .second, .val (.long vc), .second, .val (.ref b6), .unset, .unset, .unset, .unset] [(.ref b6)])) _
    refine XS.iconst X7.here hx rfl (hb hby at_58) ?_
    show Steps p.tables e below (T7.setTop (mkF m 59 #[.val (.int p1), .val (.long q2), .second, .val (.long q3), .second, .val (.long q4), .second, .val (.int (3 : Int32)), .val (.long vb), .second, .val (.long vc), .second, .val (.ref b6), .unset, .unset, .unset, .unset] [(.int (0 : Int32)), (.ref b6)])) _
    refine XS.lloadN X7.here hx rfl (hb hby at_59) rfl ?_
    show Steps p.tables e below (T7.setTop (mkF m 60 #[.val (.int p1), .val (.long q2), .second, .val (.long q3), .second, .val (.long q4), .second, .val (.int (3 : Int32)), .val (.long vb), .second, .val (.long vc), .second, .val (.ref b6), .unset, .unset, .unset, .unset] [(.long q2), (.int (0 : Int32)), (.ref b6)])) _
    refine st8.trans ?_
    show Steps p.tables e below (T8.setTop (mkF m 63 #[.val (.int p1), .val (.long q2), .second, .val (.long q3), .second, .val (.long q4), .second, .val (.int (3 : Int32)), .val (.long vb), .second, .val (.long vc), .second, .val (.ref b6), .unset, .unset, .unset, .unset] [])) _
    refine XS.iload X8.here hx rfl (hb hby at_63) rfl ?_
    show Steps p.tables e below (T8.setTop (mkF m 65 #[.val (.int p1), .val (.long q2), .second, .val (.long q3), .second, .val (.long q4), .second, .val (.int (3 : Int32)), .val (.long vb), .second, .val (.long vc), .second, .val (.ref b6), .unset, .unset, .unset, .unset] [(.int (3 : Int32))])) _
    refine XS.iconst X8.here hx rfl (hb hby at_65) ?_
    show Steps p.tables e below (T8.setTop (mkF m 66 #[.val (.int p1), .val (.long q2), .second, .val (.long q3), .second, .val (.long q4), .second, .val (.int (3 : Int32)), .val (.long vb), .second, .val (.long vc), .second, .val (.ref b6), .unset, .unset, .unset, .unset] [(.int (2 : Int32)), (.int (3 : Int32))])) _
    refine XS.icmpNo X8.here hx rfl (hb hby at_66) rfl (flt hc66).1 ?_
    show Steps p.tables e below (T8.setTop (mkF m 69 #[.val (.int p1), .val (.long q2), .second, .val (.long q3), .second, .val (.long q4), .second, .val (.int (3 : Int32)), .val (.long vb), .second, .val (.long vc), .second, .val (.ref b6), .unset, .unset, .unset, .unset] [])) _
    refine XS.aload X8.here hx rfl (hb hby at_69) rfl rfl ?_
    show Steps p.tables e below (T8.setTop (mkF m 71 #[.val (.int p1), .val (.long q2), .second, .val (.long q3), .second, .val (.long q4), .second, .val (.int (3 : Int32)), .val (.long vb), .second, .val (.long vc), .second, .val (.ref b6), .unset, .unset, .unset, .unset] [(.ref b6)])) _
    refine XS.iconst X8.here hx rfl (hb hby at_71) ?_
    show Steps p.tables e below (T8.setTop (mkF m 72 #[.val (.int p1), .val (.long q2), .second, .val (.long q3), .second, .val (.long q4), .second, .val (.int (3 : Int32)), .val (.long vb), .second, .val (.long vc), .second, .val (.ref b6), .unset, .unset, .unset, .unset] [(.int (1 : Int32)), (.ref b6)])) _
    refine XS.lload X8.here hx rfl (hb hby at_72) rfl ?_
    show Steps p.tables e below (T8.setTop (mkF m 74 #[.val (.int p1), .val (.long q2), .second, .val (.long q3), .second, .val (.long q4), .second, .val (.int (3 : Int32)), .val (.long vb), .second, .val (.long vc), .second, .val (.ref b6), .unset, .unset, .unset, .unset] [(.long vb), (.int (1 : Int32)), (.ref b6)])) _
    refine st9.trans ?_
    show Steps p.tables e below (T9.setTop (mkF m 77 #[.val (.int p1), .val (.long q2), .second, .val (.long q3), .second, .val (.long q4), .second, .val (.int (3 : Int32)), .val (.long vb), .second, .val (.long vc), .second, .val (.ref b6), .unset, .unset, .unset, .unset] [])) _
    refine XS.iload X9.here hx rfl (hb hby at_77) rfl ?_
    show Steps p.tables e below (T9.setTop (mkF m 79 #[.val (.int p1), .val (.long q2), .second, .val (.long q3), .second, .val (.long q4), .second, .val (.int (3 : Int32)), .val (.long vb), .second, .val (.long vc), .second, .val (.ref b6), .unset, .unset, .unset, .unset] [(.int (3 : Int32))])) _
    refine XS.iconst X9.here hx rfl (hb hby at_79) ?_
    show Steps p.tables e below (T9.setTop (mkF m 80 #[.val (.int p1), .val (.long q2), .second, .val (.long q3), .second, .val (.long q4), .second, .val (.int (3 : Int32)), .val (.long vb), .second, .val (.long vc), .second, .val (.ref b6), .unset, .unset, .unset, .unset] [(.int (3 : Int32)), (.int (3 : Int32))])) _
    refine XS.icmpNo X9.here hx rfl (hb hby at_80) rfl (flt hc80).1 ?_
    show Steps p.tables e below (T9.setTop (mkF m 83 #[.val (.int p1), .val (.long q2), .second, .val (.long q3), .second, .val (.long q4), .second, .val (.int (3 : Int32)), .val (.long vb), .second, .val (.long vc), .second, .val (.ref b6), .unset, .unset, .unset, .unset] [])) _
    refine XS.aload X9.here hx rfl (hb hby at_83) rfl rfl ?_
    show Steps p.tables e below (T9.setTop (mkF m 85 #[.val (.int p1), .val (.long q2), .second, .val (.long q3), .second, .val (.long q4), .second, .val (.int (3 : Int32)), .val (.long vb), .second, .val (.long vc), .second, .val (.ref b6), .unset, .unset, .unset, .unset] [(.ref b6)])) _
    refine XS.iconst X9.here hx rfl (hb hby at_85) ?_
    show Steps p.tables e below (T9.setTop (mkF m 86 #[.val (.int p1), .val (.long q2), .second, .val (.long q3), .second, .val (.long q4), .second, .val (.int (3 : Int32)), .val (.long vb), .second, .val (.long vc), .second, .val (.ref b6), .unset, .unset, .unset, .unset] [(.int (2 : Int32)), (.ref b6)])) _
    refine XS.lload X9.here hx rfl (hb hby at_86) rfl ?_
    show Steps p.tables e below (T9.setTop (mkF m 88 #[.val (.int p1), .val (.long q2), .second, .val (.long q3), .second, .val (.long q4), .second, .val (.int (3 : Int32)), .val (.long vb), .second, .val (.long vc), .second, .val (.ref b6), .unset, .unset, .unset, .unset] [(.long vc), (.int (2 : Int32)), (.ref b6)])) _
    refine st10.trans ?_
    show Steps p.tables e below (T10.setTop (mkF m 91 #[.val (.int p1), .val (.long q2), .second, .val (.long q3), .second, .val (.long q4), .second, .val (.int (3 : Int32)), .val (.long vb), .second, .val (.long vc), .second, .val (.ref b6), .unset, .unset, .unset, .unset] [])) _
    refine XS.lloadN X10.here hx rfl (hb hby at_91) rfl ?_
    show Steps p.tables e below (T10.setTop (mkF m 92 #[.val (.int p1), .val (.long q2), .second, .val (.long q3), .second, .val (.long q4), .second, .val (.int (3 : Int32)), .val (.long vb), .second, .val (.long vc), .second, .val (.ref b6), .unset, .unset, .unset, .unset] [(.long q2)])) _
    refine XS.lstore X10.here hx rfl (hb hby at_92) rfl (l' := #[.val (.int p1), .val (.long q2), .second, .val (.long q3), .second, .val (.long q4), .second, .val (.int (3 : Int32)), .val (.long vb), .second, .val (.long vc), .second, .val (.ref b6), .val (.long q2), .second, .unset, .unset]) rfl ?_
    show Steps p.tables e below (T10.setTop (mkF m 94 #[.val (.int p1), .val (.long q2), .second, .val (.long q3), .second, .val (.long q4), .second, .val (.int (3 : Int32)), .val (.long vb), .second, .val (.long vc), .second, .val (.ref b6), .val (.long q2), .second, .unset, .unset] [])) _
    refine XS.iload X10.here hx rfl (hb hby at_94) rfl ?_
    show Steps p.tables e below (T10.setTop (mkF m 96 #[.val (.int p1), .val (.long q2), .second, .val (.long q3), .second, .val (.long q4), .second, .val (.int (3 : Int32)), .val (.long vb), .second, .val (.long vc), .second, .val (.ref b6), .val (.long q2), .second, .unset, .unset] [(.int (3 : Int32))])) _
    refine XS.iconst X10.here hx rfl (hb hby at_96) ?_
    show Steps p.tables e below (T10.setTop (mkF m 97 #[.val (.int p1), .val (.long q2), .second, .val (.long q3), .second, .val (.long q4), .second, .val (.int (3 : Int32)), .val (.long vb), .second, .val (.long vc), .second, .val (.ref b6), .val (.long q2), .second, .unset, .unset] [(.int (2 : Int32)), (.int (3 : Int32))])) _
    refine XS.icmpNo X10.here hx rfl (hb hby at_97) rfl (flt hc97).1 ?_
    show Steps p.tables e below (T10.setTop (mkF m 100 #[.val (.int p1), .val (.long q2), .second, .val (.long q3), .second, .val (.long q4), .second, .val (.int (3 : Int32)), .val (.long vb), .second, .val (.long vc), .second, .val (.ref b6), .val (.long q2), .second, .unset, .unset] [])) _
    refine XS.lload X10.here hx rfl (hb hby at_100) rfl ?_
    show Steps p.tables e below (T10.setTop (mkF m 102 #[.val (.int p1), .val (.long q2), .second, .val (.long q3), .second, .val (.long q4), .second, .val (.int (3 : Int32)), .val (.long vb), .second, .val (.long vc), .second, .val (.ref b6), .val (.long q2), .second, .unset, .unset] [(.long q2)])) _
    refine XS.lload X10.here hx rfl (hb hby at_102) rfl ?_
    show Steps p.tables e below (T10.setTop (mkF m 104 #[.val (.int p1), .val (.long q2), .second, .val (.long q3), .second, .val (.long q4), .second, .val (.int (3 : Int32)), .val (.long vb), .second, .val (.long vc), .second, .val (.ref b6), .val (.long q2), .second, .unset, .unset] [(.long vb), (.long q2)])) _
    refine st11 _ ?_
    show Steps p.tables e below (T11.setTop (mkF m 107 #[.val (.int p1), .val (.long q2), .second, .val (.long q3), .second, .val (.long q4), .second, .val (.int (3 : Int32)), .val (.long vb), .second, .val (.long vc), .second, .val (.ref b6), .val (.long q2), .second, .unset, .unset] [(.long m1)])) _
    refine XS.lstore X11.here hx rfl (hb hby at_107) rfl (l' := #[.val (.int p1), .val (.long q2), .second, .val (.long q3), .second, .val (.long q4), .second, .val (.int (3 : Int32)), .val (.long vb), .second, .val (.long vc), .second, .val (.ref b6), .val (.long m1), .second, .unset, .unset]) rfl ?_
    show Steps p.tables e below (T11.setTop (mkF m 109 #[.val (.int p1), .val (.long q2), .second, .val (.long q3), .second, .val (.long q4), .second, .val (.int (3 : Int32)), .val (.long vb), .second, .val (.long vc), .second, .val (.ref b6), .val (.long m1), .second, .unset, .unset] [])) _
    refine XS.iload X11.here hx rfl (hb hby at_109) rfl ?_
    show Steps p.tables e below (T11.setTop (mkF m 111 #[.val (.int p1), .val (.long q2), .second, .val (.long q3), .second, .val (.long q4), .second, .val (.int (3 : Int32)), .val (.long vb), .second, .val (.long vc), .second, .val (.ref b6), .val (.long m1), .second, .unset, .unset] [(.int (3 : Int32))])) _
    refine XS.iconst X11.here hx rfl (hb hby at_111) ?_
    show Steps p.tables e below (T11.setTop (mkF m 112 #[.val (.int p1), .val (.long q2), .second, .val (.long q3), .second, .val (.long q4), .second, .val (.int (3 : Int32)), .val (.long vb), .second, .val (.long vc), .second, .val (.ref b6), .val (.long m1), .second, .unset, .unset] [(.int (3 : Int32)), (.int (3 : Int32))])) _
    refine XS.icmpNo X11.here hx rfl (hb hby at_112) rfl (flt hc112).1 ?_
    show Steps p.tables e below (T11.setTop (mkF m 115 #[.val (.int p1), .val (.long q2), .second, .val (.long q3), .second, .val (.long q4), .second, .val (.int (3 : Int32)), .val (.long vb), .second, .val (.long vc), .second, .val (.ref b6), .val (.long m1), .second, .unset, .unset] [])) _
    refine XS.lload X11.here hx rfl (hb hby at_115) rfl ?_
    show Steps p.tables e below (T11.setTop (mkF m 117 #[.val (.int p1), .val (.long q2), .second, .val (.long q3), .second, .val (.long q4), .second, .val (.int (3 : Int32)), .val (.long vb), .second, .val (.long vc), .second, .val (.ref b6), .val (.long m1), .second, .unset, .unset] [(.long m1)])) _
    refine XS.lload X11.here hx rfl (hb hby at_117) rfl ?_
    show Steps p.tables e below (T11.setTop (mkF m 119 #[.val (.int p1), .val (.long q2), .second, .val (.long q3), .second, .val (.long q4), .second, .val (.int (3 : Int32)), .val (.long vb), .second, .val (.long vc), .second, .val (.ref b6), .val (.long m1), .second, .unset, .unset] [(.long vc), (.long m1)])) _
    refine st12 _ ?_
    show Steps p.tables e below (T12.setTop (mkF m 122 #[.val (.int p1), .val (.long q2), .second, .val (.long q3), .second, .val (.long q4), .second, .val (.int (3 : Int32)), .val (.long vb), .second, .val (.long vc), .second, .val (.ref b6), .val (.long m1), .second, .unset, .unset] [(.long mm)])) _
    refine XS.lstore X12.here hx rfl (hb hby at_122) rfl (l' := #[.val (.int p1), .val (.long q2), .second, .val (.long q3), .second, .val (.long q4), .second, .val (.int (3 : Int32)), .val (.long vb), .second, .val (.long vc), .second, .val (.ref b6), .val (.long mm), .second, .unset, .unset]) rfl ?_
    show Steps p.tables e below (T12.setTop (mkF m 124 #[.val (.int p1), .val (.long q2), .second, .val (.long q3), .second, .val (.long q4), .second, .val (.int (3 : Int32)), .val (.long vb), .second, .val (.long vc), .second, .val (.ref b6), .val (.long mm), .second, .unset, .unset] [])) _
    refine XS.aload X12.here hx rfl (hb hby at_124) rfl rfl ?_
    show Steps p.tables e below (T12.setTop (mkF m 126 #[.val (.int p1), .val (.long q2), .second, .val (.long q3), .second, .val (.long q4), .second, .val (.int (3 : Int32)), .val (.long vb), .second, .val (.long vc), .second, .val (.ref b6), .val (.long mm), .second, .unset, .unset] [(.ref b6)])) _
    refine st13.trans ?_
    show Steps p.tables e below (T13.setTop (mkF m 129 #[.val (.int p1), .val (.long q2), .second, .val (.long q3), .second, .val (.long q4), .second, .val (.int (3 : Int32)), .val (.long vb), .second, .val (.long vc), .second, .val (.ref b6), .val (.long mm), .second, .unset, .unset] [(.long mm)])) _
    refine XS.lstore X13.here hx rfl (hb hby at_129) rfl (l' := #[.val (.int p1), .val (.long q2), .second, .val (.long q3), .second, .val (.long q4), .second, .val (.int (3 : Int32)), .val (.long vb), .second, .val (.long vc), .second, .val (.ref b6), .val (.long mm), .second, .val (.long mm), .second]) rfl ?_
    show Steps p.tables e below (T13.setTop (mkF m 131 #[.val (.int p1), .val (.long q2), .second, .val (.long q3), .second, .val (.long q4), .second, .val (.int (3 : Int32)), .val (.long vb), .second, .val (.long vc), .second, .val (.ref b6), .val (.long mm), .second, .val (.long mm), .second] [])) _
    refine XS.lload X13.here hx rfl (hb hby at_131) rfl ?_
    show Steps p.tables e below (T13.setTop (mkF m 133 #[.val (.int p1), .val (.long q2), .second, .val (.long q3), .second, .val (.long q4), .second, .val (.int (3 : Int32)), .val (.long vb), .second, .val (.long vc), .second, .val (.ref b6), .val (.long mm), .second, .val (.long mm), .second] [(.long mm)])) _
    refine XS.lload X13.here hx rfl (hb hby at_133) rfl ?_
    show Steps p.tables e below (T13.setTop (mkF m 135 #[.val (.int p1), .val (.long q2), .second, .val (.long q3), .second, .val (.long q4), .second, .val (.int (3 : Int32)), .val (.long vb), .second, .val (.long vc), .second, .val (.ref b6), .val (.long mm), .second, .val (.long mm), .second] [(.long mm), (.long mm)])) _
    refine XS.lcmp X13.here hx rfl (hb hby at_135) rfl ?_
    show Steps p.tables e below (T13.setTop (mkF m 136 #[.val (.int p1), .val (.long q2), .second, .val (.long q3), .second, .val (.long q4), .second, .val (.int (3 : Int32)), .val (.long vb), .second, .val (.long vc), .second, .val (.ref b6), .val (.long mm), .second, .val (.long mm), .second] [(.int (lcmpW mm mm))])) _
    refine XS.ifYes X13.here hx rfl (pc0 := 136) (pc' := 141) rfl (hb hby at_136) rfl ((if0 _ _).trans (teq (((lw_eq _ _).mpr rfl) : (lcmpW mm mm) = (0 : Int32))).1) (by decide) (by decide) ?_
    show Steps p.tables e below (T13.setTop (mkF m 141 #[.val (.int p1), .val (.long q2), .second, .val (.long q3), .second, .val (.long q4), .second, .val (.int (3 : Int32)), .val (.long vb), .second, .val (.long vc), .second, .val (.ref b6), .val (.long mm), .second, .val (.long mm), .second] [])) _
    refine XS.aload X13.here hx rfl (hb hby at_141) rfl rfl ?_
    show Steps p.tables e below (T13.setTop (mkF m 143 #[.val (.int p1), .val (.long q2), .second, .val (.long q3), .second, .val (.long q4), .second, .val (.int (3 : Int32)), .val (.long vb), .second, .val (.long vc), .second, .val (.ref b6), .val (.long mm), .second, .val (.long mm), .second] [(.ref b6)])) _
    refine st14.trans ?_
    show Steps p.tables e below (T14.setTop (mkF m 146 #[.val (.int p1), .val (.long q2), .second, .val (.long q3), .second, .val (.long q4), .second, .val (.int (3 : Int32)), .val (.long vb), .second, .val (.long vc), .second, .val (.ref b6), .val (.long mm), .second, .val (.long mm), .second] [(.long mm)])) _
    refine XS.lload X14.here hx rfl (hb hby at_146) rfl ?_
    show Steps p.tables e below (T14.setTop (mkF m 148 #[.val (.int p1), .val (.long q2), .second, .val (.long q3), .second, .val (.long q4), .second, .val (.int (3 : Int32)), .val (.long vb), .second, .val (.long vc), .second, .val (.ref b6), .val (.long mm), .second, .val (.long mm), .second] [(.long mm), (.long mm)])) _
    refine XS.lcmp X14.here hx rfl (hb hby at_148) rfl ?_
    show Steps p.tables e below (T14.setTop (mkF m 149 #[.val (.int p1), .val (.long q2), .second, .val (.long q3), .second, .val (.long q4), .second, .val (.int (3 : Int32)), .val (.long vb), .second, .val (.long vc), .second, .val (.ref b6), .val (.long mm), .second, .val (.long mm), .second] [(.int (lcmpW mm mm))])) _
    refine XS.ifYes X14.here hx rfl (pc0 := 149) (pc' := 154) rfl (hb hby at_149) rfl ((if0 _ _).trans (teq (((lw_eq _ _).mpr rfl) : (lcmpW mm mm) = (0 : Int32))).1) (by decide) (by decide) ?_
    show Steps p.tables e below (T14.setTop (mkF m 154 #[.val (.int p1), .val (.long q2), .second, .val (.long q3), .second, .val (.long q4), .second, .val (.int (3 : Int32)), .val (.long vb), .second, .val (.long vc), .second, .val (.ref b6), .val (.long mm), .second, .val (.long mm), .second] [])) _
    refine XS.lload X14.here hx rfl (hb hby at_154) rfl ?_
    show Steps p.tables e below (T14.setTop (mkF m 156 #[.val (.int p1), .val (.long q2), .second, .val (.long q3), .second, .val (.long q4), .second, .val (.int (3 : Int32)), .val (.long vb), .second, .val (.long vc), .second, .val (.ref b6), .val (.long mm), .second, .val (.long mm), .second] [(.long mm)])) _
    refine X14.ldc2Long hx hown (mvT hZ (hw _ (List.mem_of_getElem? (i := 43) rfl))) (g := (mkF m 156 #[.val (.int p1), .val (.long q2), .second, .val (.long q3), .second, .val (.long q4), .second, .val (.int (3 : Int32)), .val (.long vb), .second, .val (.long vc), .second, .val (.ref b6), .val (.long mm), .second, .val (.long mm), .second] [(.long mm)])) rfl (hb hby at_156) _ ?_
    show Steps p.tables e below (T14.setTop (mkF m 159 #[.val (.int p1), .val (.long q2), .second, .val (.long q3), .second, .val (.long q4), .second, .val (.int (3 : Int32)), .val (.long vb), .second, .val (.long vc), .second, .val (.ref b6), .val (.long mm), .second, .val (.long mm), .second] [(.long (9223372036854775807 : Int64)), (.long mm)])) _
    refine XS.lcmp X14.here hx rfl (hb hby at_159) rfl ?_
    show Steps p.tables e below (T14.setTop (mkF m 160 #[.val (.int p1), .val (.long q2), .second, .val (.long q3), .second, .val (.long q4), .second, .val (.int (3 : Int32)), .val (.long vb), .second, .val (.long vc), .second, .val (.ref b6), .val (.long mm), .second, .val (.long mm), .second] [(.int (lcmpW mm (9223372036854775807 : Int64)))])) _
    refine XS.ifYes X14.here hx rfl (pc0 := 160) (pc' := 177) rfl (hb hby at_160) rfl ((if0 _ _).trans (feq ((fun q => h160 ((lw_eq _ _).mp q)) : ¬ ((lcmpW mm (9223372036854775807 : Int64)) = (0 : Int32)))).2) (by decide) (by decide) ?_
    show Steps p.tables e below (T14.setTop (mkF m 177 #[.val (.int p1), .val (.long q2), .second, .val (.long q3), .second, .val (.long q4), .second, .val (.int (3 : Int32)), .val (.long vb), .second, .val (.long vc), .second, .val (.ref b6), .val (.long mm), .second, .val (.long mm), .second] [])) _
    refine XS.lloadN X14.here hx rfl (hb hby at_177) rfl ?_
    show Steps p.tables e below (T14.setTop (mkF m 178 #[.val (.int p1), .val (.long q2), .second, .val (.long q3), .second, .val (.long q4), .second, .val (.int (3 : Int32)), .val (.long vb), .second, .val (.long vc), .second, .val (.ref b6), .val (.long mm), .second, .val (.long mm), .second] [(.long q2)])) _
    refine XS.lload X14.here hx rfl (hb hby at_178) rfl ?_
    show Steps p.tables e below (T14.setTop (mkF m 180 #[.val (.int p1), .val (.long q2), .second, .val (.long q3), .second, .val (.long q4), .second, .val (.int (3 : Int32)), .val (.long vb), .second, .val (.long vc), .second, .val (.ref b6), .val (.long mm), .second, .val (.long mm), .second] [(.long mm), (.long q2)])) _
    refine XS.lcmp X14.here hx rfl (hb hby at_180) rfl ?_
    show Steps p.tables e below (T14.setTop (mkF m 181 #[.val (.int p1), .val (.long q2), .second, .val (.long q3), .second, .val (.long q4), .second, .val (.int (3 : Int32)), .val (.long vb), .second, .val (.long vc), .second, .val (.ref b6), .val (.long mm), .second, .val (.long mm), .second] [(.int (lcmpW q2 mm))])) _
    refine XS.ifNo X14.here hx rfl (hb hby at_181) rfl ((if0 _ _).trans (teq (((lw_eq _ _).mpr h181) : (lcmpW q2 mm) = (0 : Int32))).2) ?_
    show Steps p.tables e below (T14.setTop (mkF m 184 #[.val (.int p1), .val (.long q2), .second, .val (.long q3), .second, .val (.long q4), .second, .val (.int (3 : Int32)), .val (.long vb), .second, .val (.long vc), .second, .val (.ref b6), .val (.long mm), .second, .val (.long mm), .second] [])) _
    refine XS.aload X14.here hx rfl (hb hby at_184) rfl rfl ?_
    show Steps p.tables e below (T14.setTop (mkF m 186 #[.val (.int p1), .val (.long q2), .second, .val (.long q3), .second, .val (.long q4), .second, .val (.int (3 : Int32)), .val (.long vb), .second, .val (.long vc), .second, .val (.ref b6), .val (.long mm), .second, .val (.long mm), .second] [(.ref b6)])) _
    refine XS.iconst X14.here hx rfl (hb hby at_186) ?_
    show Steps p.tables e below (T14.setTop (mkF m 187 #[.val (.int p1), .val (.long q2), .second, .val (.long q3), .second, .val (.long q4), .second, .val (.int (3 : Int32)), .val (.long vb), .second, .val (.long vc), .second, .val (.ref b6), .val (.long mm), .second, .val (.long mm), .second] [(.int (0 : Int32)), (.ref b6)])) _
    refine X14.ldc2Long hx hown (mvT hZ (hw _ (List.mem_of_getElem? (i := 43) rfl))) (g := (mkF m 187 #[.val (.int p1), .val (.long q2), .second, .val (.long q3), .second, .val (.long q4), .second, .val (.int (3 : Int32)), .val (.long vb), .second, .val (.long vc), .second, .val (.ref b6), .val (.long mm), .second, .val (.long mm), .second] [(.int (0 : Int32)), (.ref b6)])) rfl (hb hby at_187) _ ?_
    show Steps p.tables e below (T14.setTop (mkF m 190 #[.val (.int p1), .val (.long q2), .second, .val (.long q3), .second, .val (.long q4), .second, .val (.int (3 : Int32)), .val (.long vb), .second, .val (.long vc), .second, .val (.ref b6), .val (.long mm), .second, .val (.long mm), .second] [(.long (9223372036854775807 : Int64)), (.int (0 : Int32)), (.ref b6)])) _
    refine st15.trans ?_
    show Steps p.tables e below (T15.setTop (mkF m 193 #[.val (.int p1), .val (.long q2), .second, .val (.long q3), .second, .val (.long q4), .second, .val (.int (3 : Int32)), .val (.long vb), .second, .val (.long vc), .second, .val (.ref b6), .val (.long mm), .second, .val (.long mm), .second] [])) _
    refine XS.iload X15.here hx rfl (hb hby at_193) rfl ?_
    show Steps p.tables e below (T15.setTop (mkF m 195 #[.val (.int p1), .val (.long q2), .second, .val (.long q3), .second, .val (.long q4), .second, .val (.int (3 : Int32)), .val (.long vb), .second, .val (.long vc), .second, .val (.ref b6), .val (.long mm), .second, .val (.long mm), .second] [(.int (3 : Int32))])) _
    refine XS.iconst X15.here hx rfl (hb hby at_195) ?_
    show Steps p.tables e below (T15.setTop (mkF m 196 #[.val (.int p1), .val (.long q2), .second, .val (.long q3), .second, .val (.long q4), .second, .val (.int (3 : Int32)), .val (.long vb), .second, .val (.long vc), .second, .val (.ref b6), .val (.long mm), .second, .val (.long mm), .second] [(.int (2 : Int32)), (.int (3 : Int32))])) _
    refine XS.icmpNo X15.here hx rfl (hb hby at_196) rfl (flt hc196).1 ?_
    show Steps p.tables e below (T15.setTop (mkF m 199 #[.val (.int p1), .val (.long q2), .second, .val (.long q3), .second, .val (.long q4), .second, .val (.int (3 : Int32)), .val (.long vb), .second, .val (.long vc), .second, .val (.ref b6), .val (.long mm), .second, .val (.long mm), .second] [])) _
    refine XS.lload X15.here hx rfl (hb hby at_199) rfl ?_
    show Steps p.tables e below (T15.setTop (mkF m 201 #[.val (.int p1), .val (.long q2), .second, .val (.long q3), .second, .val (.long q4), .second, .val (.int (3 : Int32)), .val (.long vb), .second, .val (.long vc), .second, .val (.ref b6), .val (.long mm), .second, .val (.long mm), .second] [(.long vb)])) _
    refine XS.lload X15.here hx rfl (hb hby at_201) rfl ?_
    show Steps p.tables e below (T15.setTop (mkF m 203 #[.val (.int p1), .val (.long q2), .second, .val (.long q3), .second, .val (.long q4), .second, .val (.int (3 : Int32)), .val (.long vb), .second, .val (.long vc), .second, .val (.ref b6), .val (.long mm), .second, .val (.long mm), .second] [(.long mm), (.long vb)])) _
    refine XS.lcmp X15.here hx rfl (hb hby at_203) rfl ?_
    show Steps p.tables e below (T15.setTop (mkF m 204 #[.val (.int p1), .val (.long q2), .second, .val (.long q3), .second, .val (.long q4), .second, .val (.int (3 : Int32)), .val (.long vb), .second, .val (.long vc), .second, .val (.ref b6), .val (.long mm), .second, .val (.long mm), .second] [(.int (lcmpW vb mm))])) _
    refine XS.ifNo X15.here hx rfl (hb hby at_204) rfl ((if0 _ _).trans (teq (((lw_eq _ _).mpr h204) : (lcmpW vb mm) = (0 : Int32))).2) ?_
    show Steps p.tables e below (T15.setTop (mkF m 207 #[.val (.int p1), .val (.long q2), .second, .val (.long q3), .second, .val (.long q4), .second, .val (.int (3 : Int32)), .val (.long vb), .second, .val (.long vc), .second, .val (.ref b6), .val (.long mm), .second, .val (.long mm), .second] [])) _
    refine XS.aload X15.here hx rfl (hb hby at_207) rfl rfl ?_
    show Steps p.tables e below (T15.setTop (mkF m 209 #[.val (.int p1), .val (.long q2), .second, .val (.long q3), .second, .val (.long q4), .second, .val (.int (3 : Int32)), .val (.long vb), .second, .val (.long vc), .second, .val (.ref b6), .val (.long mm), .second, .val (.long mm), .second] [(.ref b6)])) _
    refine XS.iconst X15.here hx rfl (hb hby at_209) ?_
    show Steps p.tables e below (T15.setTop (mkF m 210 #[.val (.int p1), .val (.long q2), .second, .val (.long q3), .second, .val (.long q4), .second, .val (.int (3 : Int32)), .val (.long vb), .second, .val (.long vc), .second, .val (.ref b6), .val (.long mm), .second, .val (.long mm), .second] [(.int (1 : Int32)), (.ref b6)])) _
    refine X15.ldc2Long hx hown (mvT hZ (hw _ (List.mem_of_getElem? (i := 43) rfl))) (g := (mkF m 210 #[.val (.int p1), .val (.long q2), .second, .val (.long q3), .second, .val (.long q4), .second, .val (.int (3 : Int32)), .val (.long vb), .second, .val (.long vc), .second, .val (.ref b6), .val (.long mm), .second, .val (.long mm), .second] [(.int (1 : Int32)), (.ref b6)])) rfl (hb hby at_210) _ ?_
    show Steps p.tables e below (T15.setTop (mkF m 213 #[.val (.int p1), .val (.long q2), .second, .val (.long q3), .second, .val (.long q4), .second, .val (.int (3 : Int32)), .val (.long vb), .second, .val (.long vc), .second, .val (.ref b6), .val (.long mm), .second, .val (.long mm), .second] [(.long (9223372036854775807 : Int64)), (.int (1 : Int32)), (.ref b6)])) _
    refine st16.trans ?_
    show Steps p.tables e below (T16.setTop (mkF m 216 #[.val (.int p1), .val (.long q2), .second, .val (.long q3), .second, .val (.long q4), .second, .val (.int (3 : Int32)), .val (.long vb), .second, .val (.long vc), .second, .val (.ref b6), .val (.long mm), .second, .val (.long mm), .second] [])) _
    refine XS.iload X16.here hx rfl (hb hby at_216) rfl ?_
    show Steps p.tables e below (T16.setTop (mkF m 218 #[.val (.int p1), .val (.long q2), .second, .val (.long q3), .second, .val (.long q4), .second, .val (.int (3 : Int32)), .val (.long vb), .second, .val (.long vc), .second, .val (.ref b6), .val (.long mm), .second, .val (.long mm), .second] [(.int (3 : Int32))])) _
    refine XS.iconst X16.here hx rfl (hb hby at_218) ?_
    show Steps p.tables e below (T16.setTop (mkF m 219 #[.val (.int p1), .val (.long q2), .second, .val (.long q3), .second, .val (.long q4), .second, .val (.int (3 : Int32)), .val (.long vb), .second, .val (.long vc), .second, .val (.ref b6), .val (.long mm), .second, .val (.long mm), .second] [(.int (3 : Int32)), (.int (3 : Int32))])) _
    refine XS.icmpNo X16.here hx rfl (hb hby at_219) rfl (flt hc219).1 ?_
    show Steps p.tables e below (T16.setTop (mkF m 222 #[.val (.int p1), .val (.long q2), .second, .val (.long q3), .second, .val (.long q4), .second, .val (.int (3 : Int32)), .val (.long vb), .second, .val (.long vc), .second, .val (.ref b6), .val (.long mm), .second, .val (.long mm), .second] [])) _
    refine XS.lload X16.here hx rfl (hb hby at_222) rfl ?_
    show Steps p.tables e below (T16.setTop (mkF m 224 #[.val (.int p1), .val (.long q2), .second, .val (.long q3), .second, .val (.long q4), .second, .val (.int (3 : Int32)), .val (.long vb), .second, .val (.long vc), .second, .val (.ref b6), .val (.long mm), .second, .val (.long mm), .second] [(.long vc)])) _
    refine XS.lload X16.here hx rfl (hb hby at_224) rfl ?_
    show Steps p.tables e below (T16.setTop (mkF m 226 #[.val (.int p1), .val (.long q2), .second, .val (.long q3), .second, .val (.long q4), .second, .val (.int (3 : Int32)), .val (.long vb), .second, .val (.long vc), .second, .val (.ref b6), .val (.long mm), .second, .val (.long mm), .second] [(.long mm), (.long vc)])) _
    refine XS.lcmp X16.here hx rfl (hb hby at_226) rfl ?_
    show Steps p.tables e below (T16.setTop (mkF m 227 #[.val (.int p1), .val (.long q2), .second, .val (.long q3), .second, .val (.long q4), .second, .val (.int (3 : Int32)), .val (.long vb), .second, .val (.long vc), .second, .val (.ref b6), .val (.long mm), .second, .val (.long mm), .second] [(.int (lcmpW vc mm))])) _
    refine XS.ifNo X16.here hx rfl (hb hby at_227) rfl ((if0 _ _).trans (teq (((lw_eq _ _).mpr h227) : (lcmpW vc mm) = (0 : Int32))).2) ?_
    show Steps p.tables e below (T16.setTop (mkF m 230 #[.val (.int p1), .val (.long q2), .second, .val (.long q3), .second, .val (.long q4), .second, .val (.int (3 : Int32)), .val (.long vb), .second, .val (.long vc), .second, .val (.ref b6), .val (.long mm), .second, .val (.long mm), .second] [])) _
    refine XS.aload X16.here hx rfl (hb hby at_230) rfl rfl ?_
    show Steps p.tables e below (T16.setTop (mkF m 232 #[.val (.int p1), .val (.long q2), .second, .val (.long q3), .second, .val (.long q4), .second, .val (.int (3 : Int32)), .val (.long vb), .second, .val (.long vc), .second, .val (.ref b6), .val (.long mm), .second, .val (.long mm), .second] [(.ref b6)])) _
    refine XS.iconst X16.here hx rfl (hb hby at_232) ?_
    show Steps p.tables e below (T16.setTop (mkF m 233 #[.val (.int p1), .val (.long q2), .second, .val (.long q3), .second, .val (.long q4), .second, .val (.int (3 : Int32)), .val (.long vb), .second, .val (.long vc), .second, .val (.ref b6), .val (.long mm), .second, .val (.long mm), .second] [(.int (2 : Int32)), (.ref b6)])) _
    refine X16.ldc2Long hx hown (mvT hZ (hw _ (List.mem_of_getElem? (i := 43) rfl))) (g := (mkF m 233 #[.val (.int p1), .val (.long q2), .second, .val (.long q3), .second, .val (.long q4), .second, .val (.int (3 : Int32)), .val (.long vb), .second, .val (.long vc), .second, .val (.ref b6), .val (.long mm), .second, .val (.long mm), .second] [(.int (2 : Int32)), (.ref b6)])) rfl (hb hby at_233) _ ?_
    show Steps p.tables e below (T16.setTop (mkF m 236 #[.val (.int p1), .val (.long q2), .second, .val (.long q3), .second, .val (.long q4), .second, .val (.int (3 : Int32)), .val (.long vb), .second, .val (.long vc), .second, .val (.ref b6), .val (.long mm), .second, .val (.long mm), .second] [(.long (9223372036854775807 : Int64)), (.int (2 : Int32)), (.ref b6)])) _
    refine st17.trans ?_
    show Steps p.tables e below (T17.setTop (mkF m 239 #[.val (.int p1), .val (.long q2), .second, .val (.long q3), .second, .val (.long q4), .second, .val (.int (3 : Int32)), .val (.long vb), .second, .val (.long vc), .second, .val (.ref b6), .val (.long mm), .second, .val (.long mm), .second] [])) _
    refine XS.aload X17.here hx rfl (hb hby at_239) rfl rfl ?_
    show Steps p.tables e below (T17.setTop (mkF m 241 #[.val (.int p1), .val (.long q2), .second, .val (.long q3), .second, .val (.long q4), .second, .val (.int (3 : Int32)), .val (.long vb), .second, .val (.long vc), .second, .val (.ref b6), .val (.long mm), .second, .val (.long mm), .second] [(.ref b6)])) _
    refine st18.trans ?_
    show Steps p.tables e below (T18.setTop (mkF m 244 #[.val (.int p1), .val (.long q2), .second, .val (.long q3), .second, .val (.long q4), .second, .val (.int (3 : Int32)), .val (.long vb), .second, .val (.long vc), .second, .val (.ref b6), .val (.long mm), .second, .val (.long mm), .second] [(.int (1 : Int32))])) _
    exact retN X18 hx (t := .boolean) Bd.returns (by simp) (hb hby at_244) hr
  · show Q0 Z p1 q2 q3 q4 h0 n0 _ T18.heap _
    exact ⟨rfl, N18⟩
set_option maxRecDepth 65536 in
set_option maxHeartbeats 40000000 in
theorem rm0_3yyn (l : Launch) (Z : State) (a0 : Array Value) (hw : ∀ d ∈ tables_1, d.before a0 Z = true) (ws : List Jvm.Cond) (p1 : Int32) (q2 : Int64) (q3 : Int64) (q4 : Int64) (h0 : Heap) (n0 : Nat) (Z0 : n0 ≤ h0.size) (vb vc mm : Int64) (hn : own_n p1 = 3) (hvb : own_vb p1 q2 q3 = vb) (hvc : own_vc p1 q2 q3 q4 = vc) (hm : mm = (own_mn (own_mn q2 vb) vc)) (h160 : ¬ (mm = (9223372036854775807 : Int64))) (h181 : q2 = mm) (h204 : vb = mm) (h227 : ¬ (vc = mm)) :
    MetFree l x (head1 (Jvm.Cond.code x code maxLocals ret :: ws) room_1) (fun a U => a = #[(.int p1), (.long q2), (.long q3), (.long q4)] ∧ Z.Warmed39 U.vm ∧ U.heap = h0) (fun _ _ _ _ _ => True) (fun _ U o U' => ∃ v L, o = .returned v ∧ Q0 Z p1 q2 q3 q4 h0 n0 v U'.heap L ∧ FrameEnd U o U' L room_1.cells room_1.slots) := by
  refine MetFree.of_bodySF (plainFor_of_name pn_0) hisR ?_
  intro p e s m args below meth c s₁ Bd hml0 hP hK
  obtain ⟨rfl, hZ, hh⟩ := hP
  have hx := Bd.exec
  have hby := Bd.bytes
  have hml : c.maxLocals = 17 := hml0
  have hown : s.vm.findClass "com/example/mullion/mullion/aggregators/FurthestBackFindSmallestPinLaw" = some m.cls := findClass_of_methodNamed Bd.named
  have hnm := (name_of_methodNamed Bd.named Bd.method).1
  have X0 : Stand p l e room_1 s m #[(.int p1), (.long q2), (.long q3), (.long q4)] below meth c s₁ [] 0 0 := Stand.of_body Bd
  have e0 : s₁.heap = h0 := by rw [← hh, Bd.state]; rfl
  have N0 := Fr.nil n0
  have pre0 : ∀ t, Steps p.tables e below (s₁.setTop (mkF m 0 #[.val (.int p1), .val (.long q2), .second, .val (.long q3), .second, .val (.long q4), .second, .unset, .unset, .unset, .unset, .unset, .unset, .unset, .unset, .unset, .unset] [])) t → Steps p.tables e below (s₁.setTop (entryFrame m #[(.int p1), (.long q2), (.long q3), (.long q4)] maxLocals)) t := fun t k => castTop (ef_0 m p1 q2 q3 q4) k
  have hc66 : ¬ ((3 : Int32) < (2 : Int32)) := (by decide)
  have hc80 : ¬ ((3 : Int32) < (3 : Int32)) := (by decide)
  have hc97 : ¬ ((3 : Int32) < (2 : Int32)) := (by decide)
  have hc112 : ¬ ((3 : Int32) < (3 : Int32)) := (by decide)
  have hc196 : ¬ ((3 : Int32) < (2 : Int32)) := (by decide)
  have hc219 : ¬ ((3 : Int32) < (3 : Int32)) := (by decide)
  obtain ⟨T5, X5, e5, st5⟩ := own_j0 p1 q2 q3 q4 (3 : Int32) vb vc hn hvb hvc X0 hx hZ hw hby hml hown e0
  obtain ⟨T6, h6, X6, e6, E6, A6, D6, -, st6⟩ := newO X5 hx hZ hown (hw _ (List.mem_of_getElem? (i := 1) rfl)) (hw _ (List.mem_of_getElem? (i := 2) rfl)) (hw _ (List.mem_of_getElem? (i := 3) rfl)) e5 (g := (mkF m 42 #[.val (.int p1), .val (.long q2), .second, .val (.long q3), .second, .val (.long q4), .second, .val (.int (3 : Int32)), .val (.long vb), .second, .val (.long vc), .second, .unset, .unset, .unset, .unset, .unset] [])) rfl (hb hby at_42) (by decide) (by decide)
  obtain ⟨b6, g6⟩ : ∃ z, z = h0.size := ⟨_, rfl⟩
  rw [← g6] at A6 D6 st6
  have F_values_b6 : Fld Z h6 b6 "com/example/mullion/mullion/aggregators/FurthestBack" "values" "[J" .null := D6 (Or.inr (hw _ (List.mem_of_getElem? (i := 13) rfl))) (ty := (.array .long)) (by decide)
  have F_mark_b6 : Fld Z h6 b6 "com/example/mullion/mullion/aggregators/FurthestBack" "mark" "J" (.long (0 : Int64)) := D6 (Or.inl (hw _ (List.mem_of_getElem? (i := 24) rfl))) (ty := .long) (by decide)
  have F_atOrBelowMark_b6 : Fld Z h6 b6 "com/example/mullion/mullion/aggregators/FurthestBack" "atOrBelowMark" "I" (.int (0 : Int32)) := D6 (Or.inl (hw _ (List.mem_of_getElem? (i := 26) rfl))) (ty := .int) (by decide)
  have E_b6 := A6
  have g_b6 : n0 ≤ b6 := Nat.le_trans Z0 (Nat.le_of_eq g6.symm)
  have sz_b6 : h0.size ≤ b6 := (Nat.le_trans (Keep.refl h0 []).1 (Nat.le_of_eq g6.symm))
  have K6 : Keep h0 h6 [] := (Keep.refl h0 []).ext E6
  obtain ⟨_, _, ⟨T7, L7, k7, n7⟩, -, X7, ⟨Lc7, hQ7, l7, y7, z7⟩, st7⟩ := X6.specialBack hx (y := (⟨"com/example/mullion/mullion/aggregators/FurthestBack", "<init>", "(IJ)V"⟩ : MethodName)) rfl hown (mvT hZ (hw _ (List.mem_of_getElem? (i := 5) rfl))) (mvT hZ (hw _ (List.mem_of_getElem? (i := 6) rfl))) (mvT hZ (hw _ (List.mem_of_getElem? (i := 7) rfl))) (by decide) (backOf (W := 1) (rm1 l Z a0 hw [] b6 (3 : Int32) (-9223372036854775808 : Int64) 3 h6 n0 (Nat.le_trans Z0 E6.1) (by decide) rfl (by decide) E_b6 F_values_b6 F_mark_b6 F_atOrBelowMark_b6 g_b6) hZ (hw _ (List.mem_of_getElem? (i := 7) rfl)) (hw _ (List.mem_of_getElem? (i := 3) rfl)) (by decide) (by decide)) (g := (mkF m 51 #[.val (.int p1), .val (.long q2), .second, .val (.long q3), .second, .val (.long q4), .second, .val (.int (3 : Int32)), .val (.long vb), .second, .val (.long vc), .second, .unset, .unset, .unset, .unset, .unset] [(.long (-9223372036854775808 : Int64)), (.int (3 : Int32)), (.ref b6), (.ref b6)])) rfl (by rw [hml]; rfl) (Steps.refl _) (a := b6) (argsL := [(.int (3 : Int32)), (.long (-9223372036854775808 : Int64))]) (rest := [(.ref b6)]) (lenOf pd_0_0 rfl) rfl (by show 2 * 0 + _ ≤ _; exact Nat.le_of_eq rfl) (hb hby at_51) (fun _ _ => ⟨rfl, e6, (by decide : 1 + 1 ≤ _), (by decide : 3 + 3 ≤ _)⟩)
  dsimp only [Pt.U, Pt.locs, Pt.cells, Pt.slots] at X7 l7 y7 z7 st7 hQ7
  subst l7 y7 z7
  obtain ⟨rfl, N7q, K7q, t, st, E7q, Fv7q, Fm7q, Fa7q, V7q⟩ := hQ7
  have N7 := Fr.app N0 N7q
  have z7q : n0 ≤ T7.heap.size := Nat.le_trans (Nat.le_trans Z0 E6.1) K7q.1
  have hne : b6 ≠ t := Nat.ne_of_lt (Nat.lt_of_lt_of_le E_b6.lt st)
  have g_t : n0 ≤ t := Nat.le_trans (Nat.le_trans Z0 E6.1) st
  obtain ⟨cq8, kq8, q8a, q8b, q8c⟩ := isOf hZ rfl E7q
  obtain ⟨_, _, ⟨T8, L8, k8, n8⟩, -, X8, ⟨Lc8, hQ8, l8, y8, z8⟩, st8⟩ := X7.virtualBack hx (y := (⟨"com/example/mullion/mullion/aggregators/FurthestBack", "moveOn", "(IJ)V"⟩ : MethodName)) (z := (⟨"com/example/mullion/mullion/aggregators/FurthestBack", "moveOn", "(IJ)V"⟩ : MethodName)) hown (mvT hZ (hw _ (List.mem_of_getElem? (i := 27) rfl))) (mvT hZ (hw _ (List.mem_of_getElem? (i := 28) rfl))) (notFace_of_selects (args := #[]) (mvT hZ (hw _ (List.mem_of_getElem? (i := 30) rfl)))) (mvT hZ (hw _ (List.mem_of_getElem? (i := 30) rfl))) (mvT hZ (hw _ (List.mem_of_getElem? (i := 29) rfl))) (by decide) (backOf (W := 0) (rm5 l Z a0 hw [] b6 (0 : Int32) q2 t 3 _ 0 _ _ T7.heap n0 z7q rfl (by decide) (by decide) E7q Fv7q Fm7q Fa7q V7q hne g_b6 g_t) hZ (hw _ (List.mem_of_getElem? (i := 31) rfl)) (hw _ (List.mem_of_getElem? (i := 3) rfl)) (by decide) (by decide)) q8a q8c (g := (mkF m 60 #[.val (.int p1), .val (.long q2), .second, .val (.long q3), .second, .val (.long q4), .second, .val (.int (3 : Int32)), .val (.long vb), .second, .val (.long vc), .second, .val (.ref b6), .unset, .unset, .unset, .unset] [(.long q2), (.int (0 : Int32)), (.ref b6)])) rfl (by rw [hml]; rfl) (Steps.refl _) (argsL := [(.int (0 : Int32)), (.long q2)]) (rest := []) (lenOf pd_0_0 rfl) rfl (by show 2 * 0 + _ ≤ _; exact Nat.le_of_eq rfl) (hb hby at_60) (fun _ _ => ⟨rfl, rfl, (by decide : 2 + 0 ≤ _), (by decide : 6 + 0 ≤ _)⟩)
  dsimp only [Pt.U, Pt.locs, Pt.cells, Pt.slots] at X8 l8 y8 z8 st8 hQ8
  subst l8 y8 z8
  obtain ⟨rfl, N8q, K8q, E8q, Fv8q, Fm8q, Fa8q, V8q⟩ := hQ8
  have N8 := Fr.app N7 N8q
  have z8q : n0 ≤ T8.heap.size := Nat.le_trans z7q K8q.1
  obtain ⟨cq9, kq9, q9a, q9b, q9c⟩ := isOf hZ rfl E8q
  obtain ⟨_, _, ⟨T9, L9, k9, n9⟩, -, X9, ⟨Lc9, hQ9, l9, y9, z9⟩, st9⟩ := X8.virtualBack hx (y := (⟨"com/example/mullion/mullion/aggregators/FurthestBack", "moveOn", "(IJ)V"⟩ : MethodName)) (z := (⟨"com/example/mullion/mullion/aggregators/FurthestBack", "moveOn", "(IJ)V"⟩ : MethodName)) hown (mvT hZ (hw _ (List.mem_of_getElem? (i := 27) rfl))) (mvT hZ (hw _ (List.mem_of_getElem? (i := 28) rfl))) (notFace_of_selects (args := #[]) (mvT hZ (hw _ (List.mem_of_getElem? (i := 30) rfl)))) (mvT hZ (hw _ (List.mem_of_getElem? (i := 30) rfl))) (mvT hZ (hw _ (List.mem_of_getElem? (i := 29) rfl))) (by decide) (backOf (W := 0) (rm5 l Z a0 hw [] b6 (1 : Int32) vb t 3 _ 1 _ _ T8.heap n0 z8q rfl (by decide) (by decide) E8q Fv8q Fm8q Fa8q V8q hne g_b6 g_t) hZ (hw _ (List.mem_of_getElem? (i := 31) rfl)) (hw _ (List.mem_of_getElem? (i := 3) rfl)) (by decide) (by decide)) q9a q9c (g := (mkF m 74 #[.val (.int p1), .val (.long q2), .second, .val (.long q3), .second, .val (.long q4), .second, .val (.int (3 : Int32)), .val (.long vb), .second, .val (.long vc), .second, .val (.ref b6), .unset, .unset, .unset, .unset] [(.long vb), (.int (1 : Int32)), (.ref b6)])) rfl (by rw [hml]; rfl) (Steps.refl _) (argsL := [(.int (1 : Int32)), (.long vb)]) (rest := []) (lenOf pd_0_0 rfl) rfl (by show 2 * 0 + _ ≤ _; exact Nat.le_of_eq rfl) (hb hby at_74) (fun _ _ => ⟨rfl, rfl, (by decide : 2 + 0 ≤ _), (by decide : 6 + 0 ≤ _)⟩)
  dsimp only [Pt.U, Pt.locs, Pt.cells, Pt.slots] at X9 l9 y9 z9 st9 hQ9
  subst l9 y9 z9
  obtain ⟨rfl, N9q, K9q, E9q, Fv9q, Fm9q, Fa9q, V9q⟩ := hQ9
  have N9 := Fr.app N8 N9q
  have z9q : n0 ≤ T9.heap.size := Nat.le_trans z8q K9q.1
  obtain ⟨cq10, kq10, q10a, q10b, q10c⟩ := isOf hZ rfl E9q
  obtain ⟨_, _, ⟨T10, L10, k10, n10⟩, -, X10, ⟨Lc10, hQ10, l10, y10, z10⟩, st10⟩ := X9.virtualBack hx (y := (⟨"com/example/mullion/mullion/aggregators/FurthestBack", "moveOn", "(IJ)V"⟩ : MethodName)) (z := (⟨"com/example/mullion/mullion/aggregators/FurthestBack", "moveOn", "(IJ)V"⟩ : MethodName)) hown (mvT hZ (hw _ (List.mem_of_getElem? (i := 27) rfl))) (mvT hZ (hw _ (List.mem_of_getElem? (i := 28) rfl))) (notFace_of_selects (args := #[]) (mvT hZ (hw _ (List.mem_of_getElem? (i := 30) rfl)))) (mvT hZ (hw _ (List.mem_of_getElem? (i := 30) rfl))) (mvT hZ (hw _ (List.mem_of_getElem? (i := 29) rfl))) (by decide) (backOf (W := 0) (rm5 l Z a0 hw [] b6 (2 : Int32) vc t 3 _ 2 _ _ T9.heap n0 z9q rfl (by decide) (by decide) E9q Fv9q Fm9q Fa9q V9q hne g_b6 g_t) hZ (hw _ (List.mem_of_getElem? (i := 31) rfl)) (hw _ (List.mem_of_getElem? (i := 3) rfl)) (by decide) (by decide)) q10a q10c (g := (mkF m 88 #[.val (.int p1), .val (.long q2), .second, .val (.long q3), .second, .val (.long q4), .second, .val (.int (3 : Int32)), .val (.long vb), .second, .val (.long vc), .second, .val (.ref b6), .unset, .unset, .unset, .unset] [(.long vc), (.int (2 : Int32)), (.ref b6)])) rfl (by rw [hml]; rfl) (Steps.refl _) (argsL := [(.int (2 : Int32)), (.long vc)]) (rest := []) (lenOf pd_0_0 rfl) rfl (by show 2 * 0 + _ ≤ _; exact Nat.le_of_eq rfl) (hb hby at_88) (fun _ _ => ⟨rfl, rfl, (by decide : 2 + 0 ≤ _), (by decide : 6 + 0 ≤ _)⟩)
  dsimp only [Pt.U, Pt.locs, Pt.cells, Pt.slots] at X10 l10 y10 z10 st10 hQ10
  subst l10 y10 z10
  obtain ⟨rfl, N10q, K10q, E10q, Fv10q, Fm10q, Fa10q, V10q⟩ := hQ10
  have N10 := Fr.app N9 N10q
  have z10q : n0 ≤ T10.heap.size := Nat.le_trans z9q K10q.1
  obtain ⟨_, _, ⟨T11, L11, k11, n11⟩, -, X11, ⟨Lc11, hQ11, l11, y11, z11⟩, st11⟩ := Jvm.LawKit.callS X10 hx (y := (⟨"java/lang/Math", "min", "(JJ)J"⟩ : MethodName)) hown (mvT hZ (hw _ (List.mem_of_getElem? (i := 49) rfl))) (mvT hZ (hw _ (List.mem_of_getElem? (i := 50) rfl))) (mvT hZ (hw _ (List.mem_of_getElem? (i := 51) rfl))) (mvT hZ (hw _ (List.mem_of_getElem? (i := 52) rfl))) (by decide) (backOf (W := 0) (rm9 l Z a0 hw [] q2 vb  T10.heap n0 z10q) hZ (hw _ (List.mem_of_getElem? (i := 52) rfl)) (hw _ (List.mem_of_getElem? (i := 51) rfl)) (by decide) (by decide)) (g := (mkF m 104 #[.val (.int p1), .val (.long q2), .second, .val (.long q3), .second, .val (.long q4), .second, .val (.int (3 : Int32)), .val (.long vb), .second, .val (.long vc), .second, .val (.ref b6), .val (.long q2), .second, .unset, .unset] [(.long vb), (.long q2)])) rfl (by rw [hml]; rfl) (argsL := [(.long q2), (.long vb)]) (rest := []) (lenOf pd_0_6 rfl) rfl (by show 2 * 0 + _ ≤ _; exact Nat.le_of_eq rfl) (hb hby at_104) (fun _ _ => ⟨rfl, rfl, (by decide : 2 + 0 ≤ _), (by decide : 6 + 0 ≤ _)⟩)
  dsimp only [Pt.U, Pt.locs, Pt.cells, Pt.slots] at X11 l11 y11 z11 st11 hQ11
  subst l11 y11 z11
  obtain ⟨hv11, N11q, e11q⟩ := hQ11
  have N11 := Fr.app N10 N11q
  obtain ⟨m1, hm1⟩ : ∃ z, z = own_mn q2 vb := ⟨_, rfl⟩
  rw [← hm1] at hv11
  subst hv11
  have z11q : n0 ≤ T11.heap.size := by rw [e11q]; exact z10q
  have E11q := E10q
  rw [← e11q] at E11q
  have Fv11q := Fv10q
  rw [← e11q] at Fv11q
  have Fm11q := Fm10q
  rw [← e11q] at Fm11q
  have Fa11q := Fa10q
  rw [← e11q] at Fa11q
  have V11q := V10q
  rw [← e11q] at V11q
  obtain ⟨_, _, ⟨T12, L12, k12, n12⟩, -, X12, ⟨Lc12, hQ12, l12, y12, z12⟩, st12⟩ := Jvm.LawKit.callS X11 hx (y := (⟨"java/lang/Math", "min", "(JJ)J"⟩ : MethodName)) hown (mvT hZ (hw _ (List.mem_of_getElem? (i := 49) rfl))) (mvT hZ (hw _ (List.mem_of_getElem? (i := 50) rfl))) (mvT hZ (hw _ (List.mem_of_getElem? (i := 51) rfl))) (mvT hZ (hw _ (List.mem_of_getElem? (i := 52) rfl))) (by decide) (backOf (W := 0) (rm9 l Z a0 hw [] m1 vc  T11.heap n0 z11q) hZ (hw _ (List.mem_of_getElem? (i := 52) rfl)) (hw _ (List.mem_of_getElem? (i := 51) rfl)) (by decide) (by decide)) (g := (mkF m 119 #[.val (.int p1), .val (.long q2), .second, .val (.long q3), .second, .val (.long q4), .second, .val (.int (3 : Int32)), .val (.long vb), .second, .val (.long vc), .second, .val (.ref b6), .val (.long m1), .second, .unset, .unset] [(.long vc), (.long m1)])) rfl (by rw [hml]; rfl) (argsL := [(.long m1), (.long vc)]) (rest := []) (lenOf pd_0_6 rfl) rfl (by show 2 * 0 + _ ≤ _; exact Nat.le_of_eq rfl) (hb hby at_119) (fun _ _ => ⟨rfl, rfl, (by decide : 2 + 0 ≤ _), (by decide : 6 + 0 ≤ _)⟩)
  dsimp only [Pt.U, Pt.locs, Pt.cells, Pt.slots] at X12 l12 y12 z12 st12 hQ12
  subst l12 y12 z12
  obtain ⟨hv12, N12q, e12q⟩ := hQ12
  have N12 := Fr.app N11 N12q
  rw [hm1, ← hm] at hv12
  subst hv12
  have z12q : n0 ≤ T12.heap.size := by rw [e12q]; exact z11q
  have E12q := E11q
  rw [← e12q] at E12q
  have Fv12q := Fv11q
  rw [← e12q] at Fv12q
  have Fm12q := Fm11q
  rw [← e12q] at Fm12q
  have Fa12q := Fa11q
  rw [← e12q] at Fa12q
  have V12q := V11q
  rw [← e12q] at V12q
  obtain ⟨cq13, kq13, q13a, q13b, q13c⟩ := isOf hZ rfl E12q
  obtain ⟨_, _, ⟨T13, L13, k13, n13⟩, -, X13, ⟨Lc13, hQ13, l13, y13, z13⟩, st13⟩ := X12.virtualBack hx (y := (⟨"com/example/mullion/mullion/aggregators/FurthestBack", "findSmallest", "()J"⟩ : MethodName)) (z := (⟨"com/example/mullion/mullion/aggregators/FurthestBack", "findSmallest", "()J"⟩ : MethodName)) hown (mvT hZ (hw _ (List.mem_of_getElem? (i := 32) rfl))) (mvT hZ (hw _ (List.mem_of_getElem? (i := 33) rfl))) (notFace_of_selects (args := #[]) (mvT hZ (hw _ (List.mem_of_getElem? (i := 35) rfl)))) (mvT hZ (hw _ (List.mem_of_getElem? (i := 35) rfl))) (mvT hZ (hw _ (List.mem_of_getElem? (i := 34) rfl))) (by decide) (backOf (W := 0) (rm6 l Z a0 hw [] b6 t 3 (fun j => if j = 2 then vc else if j = 1 then vb else if j = 0 then q2 else (-9223372036854775808 : Int64)) _ _ T12.heap n0 z12q (by decide) E12q Fv12q Fm12q Fa12q V12q hne g_b6) hZ (hw _ (List.mem_of_getElem? (i := 36) rfl)) (hw _ (List.mem_of_getElem? (i := 3) rfl)) (by decide) (by decide)) q13a q13c (g := (mkF m 126 #[.val (.int p1), .val (.long q2), .second, .val (.long q3), .second, .val (.long q4), .second, .val (.int (3 : Int32)), .val (.long vb), .second, .val (.long vc), .second, .val (.ref b6), .val (.long mm), .second, .unset, .unset] [(.ref b6)])) rfl (by rw [hml]; rfl) (Steps.refl _) (argsL := []) (rest := []) (lenOf pd_0_4 rfl) rfl (by show 2 * 0 + _ ≤ _; exact Nat.le_of_eq rfl) (hb hby at_126) (fun _ _ => ⟨rfl, rfl, (by decide : 2 + 0 ≤ _), (by decide : 6 + 0 ≤ _)⟩)
  dsimp only [Pt.U, Pt.locs, Pt.cells, Pt.slots] at X13 l13 y13 z13 st13 hQ13
  subst l13 y13 z13
  obtain ⟨hv13, N13q, K13q, E13q, Fv13q, Fm13q, Fa13q, V13q⟩ := hQ13
  have N13 := Fr.app N12 N13q
  have z13q : n0 ≤ T13.heap.size := Nat.le_trans z12q K13q.1
  have hfs : own_fs (fun j => if j = 2 then vc else if j = 1 then vb else if j = 0 then q2 else (-9223372036854775808 : Int64)) 3 0 ((9223372036854775807 : Int64), (0 : Int32)) = (mm, (own_is q2 mm + own_is vb mm + own_is vc mm)) := by show own_step (own_step (own_step ((9223372036854775807 : Int64), 0) q2) vb) vc = _; rw [own_first, own_second, hm]; exact own_third q2 vb vc
  rw [hfs] at hv13
  replace hv13 : _ = some (Value.long mm) := hv13
  subst hv13
  have Gm13q : Fld Z T13.heap b6 "com/example/mullion/mullion/aggregators/FurthestBack" "mark" "J" (.long mm) := by have q := Fm13q; rw [hfs] at q; exact q
  have Ga13q : Fld Z T13.heap b6 "com/example/mullion/mullion/aggregators/FurthestBack" "atOrBelowMark" "I" (.int (own_is q2 mm + own_is vb mm + own_is vc mm)) := by have q := Fa13q; rw [hfs] at q; exact q
  obtain ⟨cq14, kq14, q14a, q14b, q14c⟩ := isOf hZ rfl E13q
  obtain ⟨_, _, ⟨T14, L14, k14, n14⟩, -, X14, ⟨Lc14, hQ14, l14, y14, z14⟩, st14⟩ := X13.virtualBack hx (y := (⟨"com/example/mullion/mullion/aggregators/FurthestBack", "mark", "()J"⟩ : MethodName)) (z := (⟨"com/example/mullion/mullion/aggregators/FurthestBack", "mark", "()J"⟩ : MethodName)) hown (mvT hZ (hw _ (List.mem_of_getElem? (i := 38) rfl))) (mvT hZ (hw _ (List.mem_of_getElem? (i := 39) rfl))) (notFace_of_selects (args := #[]) (mvT hZ (hw _ (List.mem_of_getElem? (i := 41) rfl)))) (mvT hZ (hw _ (List.mem_of_getElem? (i := 41) rfl))) (mvT hZ (hw _ (List.mem_of_getElem? (i := 40) rfl))) (by decide) (backOf (W := 0) (rm7 l Z a0 hw [] b6 mm T13.heap n0 z13q Gm13q) hZ (hw _ (List.mem_of_getElem? (i := 42) rfl)) (hw _ (List.mem_of_getElem? (i := 3) rfl)) (by decide) (by decide)) q14a q14c (g := (mkF m 143 #[.val (.int p1), .val (.long q2), .second, .val (.long q3), .second, .val (.long q4), .second, .val (.int (3 : Int32)), .val (.long vb), .second, .val (.long vc), .second, .val (.ref b6), .val (.long mm), .second, .val (.long mm), .second] [(.ref b6)])) rfl (by rw [hml]; rfl) (Steps.refl _) (argsL := []) (rest := []) (lenOf pd_0_4 rfl) rfl (by show 2 * 0 + _ ≤ _; exact Nat.le_of_eq rfl) (hb hby at_143) (fun _ _ => ⟨rfl, rfl, (by decide : 2 + 0 ≤ _), (by decide : 6 + 0 ≤ _)⟩)
  dsimp only [Pt.U, Pt.locs, Pt.cells, Pt.slots] at X14 l14 y14 z14 st14 hQ14
  subst l14 y14 z14
  obtain ⟨rfl, N14q, e14q⟩ := hQ14
  have N14 := Fr.app N13 N14q
  have z14q : n0 ≤ T14.heap.size := by rw [e14q]; exact z13q
  have E14q := E13q
  rw [← e14q] at E14q
  have Fv14q := Fv13q
  rw [← e14q] at Fv14q
  have Fm14q := Gm13q
  rw [← e14q] at Fm14q
  have Fa14q := Ga13q
  rw [← e14q] at Fa14q
  have V14q := V13q
  rw [← e14q] at V14q
  obtain ⟨cq15, kq15, q15a, q15b, q15c⟩ := isOf hZ rfl E14q
  obtain ⟨_, _, ⟨T15, L15, k15, n15⟩, -, X15, ⟨Lc15, hQ15, l15, y15, z15⟩, st15⟩ := X14.virtualBack hx (y := (⟨"com/example/mullion/mullion/aggregators/FurthestBack", "moveOn", "(IJ)V"⟩ : MethodName)) (z := (⟨"com/example/mullion/mullion/aggregators/FurthestBack", "moveOn", "(IJ)V"⟩ : MethodName)) hown (mvT hZ (hw _ (List.mem_of_getElem? (i := 27) rfl))) (mvT hZ (hw _ (List.mem_of_getElem? (i := 28) rfl))) (notFace_of_selects (args := #[]) (mvT hZ (hw _ (List.mem_of_getElem? (i := 30) rfl)))) (mvT hZ (hw _ (List.mem_of_getElem? (i := 30) rfl))) (mvT hZ (hw _ (List.mem_of_getElem? (i := 29) rfl))) (by decide) (backOf (W := 0) (rm5 l Z a0 hw [] b6 (0 : Int32) (9223372036854775807 : Int64) t 3 _ 0 _ _ T14.heap n0 z14q rfl (by decide) (by decide) E14q Fv14q Fm14q Fa14q V14q hne g_b6 g_t) hZ (hw _ (List.mem_of_getElem? (i := 31) rfl)) (hw _ (List.mem_of_getElem? (i := 3) rfl)) (by decide) (by decide)) q15a q15c (g := (mkF m 190 #[.val (.int p1), .val (.long q2), .second, .val (.long q3), .second, .val (.long q4), .second, .val (.int (3 : Int32)), .val (.long vb), .second, .val (.long vc), .second, .val (.ref b6), .val (.long mm), .second, .val (.long mm), .second] [(.long (9223372036854775807 : Int64)), (.int (0 : Int32)), (.ref b6)])) rfl (by rw [hml]; rfl) (Steps.refl _) (argsL := [(.int (0 : Int32)), (.long (9223372036854775807 : Int64))]) (rest := []) (lenOf pd_0_0 rfl) rfl (by show 2 * 0 + _ ≤ _; exact Nat.le_of_eq rfl) (hb hby at_190) (fun _ _ => ⟨rfl, rfl, (by decide : 2 + 0 ≤ _), (by decide : 6 + 0 ≤ _)⟩)
  dsimp only [Pt.U, Pt.locs, Pt.cells, Pt.slots] at X15 l15 y15 z15 st15 hQ15
  subst l15 y15 z15
  obtain ⟨rfl, N15q, K15q, E15q, Fv15q, Fm15q, Fa15q, V15q⟩ := hQ15
  have N15 := Fr.app N14 N15q
  have z15q : n0 ≤ T15.heap.size := Nat.le_trans z14q K15q.1
  have Fb15q : Fld Z T15.heap b6 "com/example/mullion/mullion/aggregators/FurthestBack" "atOrBelowMark" "I" (.int ((own_is q2 mm + own_is vb mm + own_is vc mm) - (1 : Int32))) := by
    have q : Fld Z T15.heap b6 "com/example/mullion/mullion/aggregators/FurthestBack" "atOrBelowMark" "I" (.int (own_mv q2 (9223372036854775807 : Int64) mm (own_is q2 mm + own_is vb mm + own_is vc mm))) := Fa15q
    rw [own_mv_dec (x := q2) (m := mm) h181 h160] at q
    exact q
  obtain ⟨cq16, kq16, q16a, q16b, q16c⟩ := isOf hZ rfl E15q
  obtain ⟨_, _, ⟨T16, L16, k16, n16⟩, -, X16, ⟨Lc16, hQ16, l16, y16, z16⟩, st16⟩ := X15.virtualBack hx (y := (⟨"com/example/mullion/mullion/aggregators/FurthestBack", "moveOn", "(IJ)V"⟩ : MethodName)) (z := (⟨"com/example/mullion/mullion/aggregators/FurthestBack", "moveOn", "(IJ)V"⟩ : MethodName)) hown (mvT hZ (hw _ (List.mem_of_getElem? (i := 27) rfl))) (mvT hZ (hw _ (List.mem_of_getElem? (i := 28) rfl))) (notFace_of_selects (args := #[]) (mvT hZ (hw _ (List.mem_of_getElem? (i := 30) rfl)))) (mvT hZ (hw _ (List.mem_of_getElem? (i := 30) rfl))) (mvT hZ (hw _ (List.mem_of_getElem? (i := 29) rfl))) (by decide) (backOf (W := 0) (rm5 l Z a0 hw [] b6 (1 : Int32) (9223372036854775807 : Int64) t 3 _ 1 _ _ T15.heap n0 z15q rfl (by decide) (by decide) E15q Fv15q Fm15q Fb15q V15q hne g_b6 g_t) hZ (hw _ (List.mem_of_getElem? (i := 31) rfl)) (hw _ (List.mem_of_getElem? (i := 3) rfl)) (by decide) (by decide)) q16a q16c (g := (mkF m 213 #[.val (.int p1), .val (.long q2), .second, .val (.long q3), .second, .val (.long q4), .second, .val (.int (3 : Int32)), .val (.long vb), .second, .val (.long vc), .second, .val (.ref b6), .val (.long mm), .second, .val (.long mm), .second] [(.long (9223372036854775807 : Int64)), (.int (1 : Int32)), (.ref b6)])) rfl (by rw [hml]; rfl) (Steps.refl _) (argsL := [(.int (1 : Int32)), (.long (9223372036854775807 : Int64))]) (rest := []) (lenOf pd_0_0 rfl) rfl (by show 2 * 0 + _ ≤ _; exact Nat.le_of_eq rfl) (hb hby at_213) (fun _ _ => ⟨rfl, rfl, (by decide : 2 + 0 ≤ _), (by decide : 6 + 0 ≤ _)⟩)
  dsimp only [Pt.U, Pt.locs, Pt.cells, Pt.slots] at X16 l16 y16 z16 st16 hQ16
  subst l16 y16 z16
  obtain ⟨rfl, N16q, K16q, E16q, Fv16q, Fm16q, Fa16q, V16q⟩ := hQ16
  have N16 := Fr.app N15 N16q
  have z16q : n0 ≤ T16.heap.size := Nat.le_trans z15q K16q.1
  have Fb16q : Fld Z T16.heap b6 "com/example/mullion/mullion/aggregators/FurthestBack" "atOrBelowMark" "I" (.int (((own_is q2 mm + own_is vb mm + own_is vc mm) - (1 : Int32)) - (1 : Int32))) := by
    have q : Fld Z T16.heap b6 "com/example/mullion/mullion/aggregators/FurthestBack" "atOrBelowMark" "I" (.int (own_mv vb (9223372036854775807 : Int64) mm ((own_is q2 mm + own_is vb mm + own_is vc mm) - (1 : Int32)))) := Fa16q
    rw [own_mv_dec (x := vb) (m := mm) h204 h160] at q
    exact q
  obtain ⟨cq17, kq17, q17a, q17b, q17c⟩ := isOf hZ rfl E16q
  obtain ⟨_, _, ⟨T17, L17, k17, n17⟩, -, X17, ⟨Lc17, hQ17, l17, y17, z17⟩, st17⟩ := X16.virtualBack hx (y := (⟨"com/example/mullion/mullion/aggregators/FurthestBack", "allMovedOn", "()Z"⟩ : MethodName)) (z := (⟨"com/example/mullion/mullion/aggregators/FurthestBack", "allMovedOn", "()Z"⟩ : MethodName)) hown (mvT hZ (hw _ (List.mem_of_getElem? (i := 44) rfl))) (mvT hZ (hw _ (List.mem_of_getElem? (i := 45) rfl))) (notFace_of_selects (args := #[]) (mvT hZ (hw _ (List.mem_of_getElem? (i := 47) rfl)))) (mvT hZ (hw _ (List.mem_of_getElem? (i := 47) rfl))) (mvT hZ (hw _ (List.mem_of_getElem? (i := 46) rfl))) (by decide) (backOf (W := 0) (rm8_f l Z a0 hw [] b6 (((own_is q2 mm + own_is vb mm + own_is vc mm) - (1 : Int32)) - (1 : Int32)) T16.heap n0 z16q Fb16q (by unfold own_is; rw [if_pos h181, if_pos h204, if_neg h227]; decide)) hZ (hw _ (List.mem_of_getElem? (i := 48) rfl)) (hw _ (List.mem_of_getElem? (i := 3) rfl)) (by decide) (by decide)) q17a q17c (g := (mkF m 241 #[.val (.int p1), .val (.long q2), .second, .val (.long q3), .second, .val (.long q4), .second, .val (.int (3 : Int32)), .val (.long vb), .second, .val (.long vc), .second, .val (.ref b6), .val (.long mm), .second, .val (.long mm), .second] [(.ref b6)])) rfl (by rw [hml]; rfl) (Steps.refl _) (argsL := []) (rest := []) (lenOf pd_0_5 rfl) rfl (by show 2 * 0 + _ ≤ _; exact Nat.le_of_eq rfl) (hb hby at_241) (fun _ _ => ⟨rfl, rfl, (by decide : 2 + 0 ≤ _), (by decide : 6 + 0 ≤ _)⟩)
  dsimp only [Pt.U, Pt.locs, Pt.cells, Pt.slots] at X17 l17 y17 z17 st17 hQ17
  subst l17 y17 z17
  obtain ⟨rfl, N17q, e17q⟩ := hQ17
  have N17 := Fr.app N16 N17q
  have z17q : n0 ≤ T17.heap.size := by rw [e17q]; exact z16q
  have E17q := E16q
  rw [← e17q] at E17q
  have Fv17q := Fv16q
  rw [← e17q] at Fv17q
  have Fm17q := Fm16q
  rw [← e17q] at Fm17q
  have Fa17q := Fb16q
  rw [← e17q] at Fa17q
  have V17q := V16q
  rw [← e17q] at V17q
  obtain ⟨fs, hr, hrun, hended, hW, hsame⟩ := X17.leave (v := some (.int (1 : Int32))) (fun h => by rw [Bd.returns] at h; cases h)
  refine ⟨_, _, pre0 _ ?_, hrun, hended, _, _, rfl, ?_, ⟨_, rfl⟩, hW, hsame.mono (by decide) (by decide)⟩
  · show Steps p.tables e below (s₁.setTop (mkF m 0 #[.val (.int p1), .val (.long q2), .second, .val (.long q3), .second, .val (.long q4), .second, .unset, .unset, .unset, .unset, .unset, .unset, .unset, .unset, .unset, .unset] [])) _
    refine st5 _ ?_
    show Steps p.tables e below (T5.setTop (mkF m 42 #[.val (.int p1), .val (.long q2), .second, .val (.long q3), .second, .val (.long q4), .second, .val (.int (3 : Int32)), .val (.long vb), .second, .val (.long vc), .second, .unset, .unset, .unset, .unset, .unset] [])) _
    refine st6 _ ?_
    show Steps p.tables e below (T6.setTop (mkF m 45 #[.val (.int p1), .val (.long q2), .second, .val (.long q3), .second, .val (.long q4), .second, .val (.int (3 : Int32)), .val (.long vb), .second, .val (.long vc), .second, .unset, .unset, .unset, .unset, .unset] [(.ref b6)])) _
    refine XS.dup X6.here hx rfl (hb hby at_45) rfl rfl ?_
    show Steps p.tables e below (T6.setTop (mkF m 46 #[.val (.int p1), .val (.long q2), .second, .val (.long q3), .second, .val (.long q4), .second, .val (.int (3 : Int32)), .val (.long vb), .second, .val (.long vc), .second, .unset, .unset, .unset, .unset, .unset] [(.ref b6), (.ref b6)])) _
    refine XS.iload X6.here hx rfl (hb hby at_46) rfl ?_
    show Steps p.tables e below (T6.setTop (mkF m 48 #[.val (.int p1), .val (.long q2), .second, .val (.long q3), .second, .val (.long q4), .second, .val (.int (3 : Int32)), .val (.long vb), .second, .val (.long vc), .second, .unset, .unset, .unset, .unset, .unset] [(.int (3 : Int32)), (.ref b6), (.ref b6)])) _
    refine X6.ldc2Long hx hown (mvT hZ (hw _ (List.mem_of_getElem? (i := 4) rfl))) (g := (mkF m 48 #[.val (.int p1), .val (.long q2), .second, .val (.long q3), .second, .val (.long q4), .second, .val (.int (3 : Int32)), .val (.long vb), .second, .val (.long vc), .second, .unset, .unset, .unset, .unset, .unset] [(.int (3 : Int32)), (.ref b6), (.ref b6)])) rfl (hb hby at_48) _ ?_
    show Steps p.tables e below (T6.setTop (mkF m 51 #[.val (.int p1), .val (.long q2), .second, .val (.long q3), .second, .val (.long q4), .second, .val (.int (3 : Int32)), .val (.long vb), .second, .val (.long vc), .second, .unset, .unset, .unset, .unset, .unset] [(.long (-9223372036854775808 : Int64)), (.int (3 : Int32)), (.ref b6), (.ref b6)])) _
    refine st7.trans ?_
    show Steps p.tables e below (T7.setTop (mkF m 54 #[.val (.int p1), .val (.long q2), .second, .val (.long q3), .second, .val (.long q4), .second, .val (.int (3 : Int32)), .val (.long vb), .second, .val (.long vc), .second, .unset, .unset, .unset, .unset, .unset] [(.ref b6)])) _
    refine XS.astore X7.here hx rfl (hb hby at_54) rfl rfl (l' := #[.val (.int p1), .val (.long q2), .second, .val (.long q3), .second, .val (.long q4), .second, .val (.int (3 : Int32)), .val (.long vb), .second, .val (.long vc), .second, .val (.ref b6), .unset, .unset, .unset, .unset]) rfl ?_
    show Steps p.tables e below (T7.setTop (mkF m 56 #[.val (.int p1), .val (.long q2), .second, .val (.long q3), .second, .val (.long q4), .second, .val (.int (3 : Int32)), .val (.long vb), .second, .val (.long vc), .second, .val (.ref b6), .unset, .unset, .unset, .unset] [])) _
    refine XS.aload X7.here hx rfl (hb hby at_56) rfl rfl ?_
    show Steps p.tables e below (T7.setTop (mkF m 58 #[.val (.int p1), .val (.long q2), .second, .val (.long q3), .second, .val (.long q4), .second, .val (.int (3 : Int32)), .val (.long vb), .second, .val (.long vc), .second, .val (.ref b6), .unset, .unset, .unset, .unset] [(.ref b6)])) _
    refine XS.iconst X7.here hx rfl (hb hby at_58) ?_
    show Steps p.tables e below (T7.setTop (mkF m 59 #[.val (.int p1), .val (.long q2), .second, .val (.long q3), .second, .val (.long q4), .second, .val (.int (3 : Int32)), .val (.long vb), .second, .val (.long vc), .second, .val (.ref b6), .unset, .unset, .unset, .unset] [(.int (0 : Int32)), (.ref b6)])) _
    refine XS.lloadN X7.here hx rfl (hb hby at_59) rfl ?_
    show Steps p.tables e below (T7.setTop (mkF m 60 #[.val (.int p1), .val (.long q2), .second, .val (.long q3), .second, .val (.long q4), .second, .val (.int (3 : Int32)), .val (.long vb), .second, .val (.long vc), .second, .val (.ref b6), .unset, .unset, .unset, .unset] [(.long q2), (.int (0 : Int32)), (.ref b6)])) _
    refine st8.trans ?_
    show Steps p.tables e below (T8.setTop (mkF m 63 #[.val (.int p1), .val (.long q2), .second, .val (.long q3), .second, .val (.long q4), .second, .val (.int (3 : Int32)), .val (.long vb), .second, .val (.long vc), .second, .val (.ref b6), .unset, .unset, .unset, .unset] [])) _
    refine XS.iload X8.here hx rfl (hb hby at_63) rfl ?_
    show Steps p.tables e below (T8.setTop (mkF m 65 #[.val (.int p1), .val (.long q2), .second, .val (.long q3), .second, .val (.long q4), .second, .val (.int (3 : Int32)), .val (.long vb), .second, .val (.long vc), .second, .val (.ref b6), .unset, .unset, .unset, .unset] [(.int (3 : Int32))])) _
    refine XS.iconst X8.here hx rfl (hb hby at_65) ?_
    show Steps p.tables e below (T8.setTop (mkF m 66 #[.val (.int p1), .val (.long q2), .second, .val (.long q3), .second, .val (.long q4), .second, .val (.int (3 : Int32)), .val (.long vb), .second, .val (.long vc), .second, .val (.ref b6), .unset, .unset, .unset, .unset] [(.int (2 : Int32)), (.int (3 : Int32))])) _
    refine XS.icmpNo X8.here hx rfl (hb hby at_66) rfl (flt hc66).1 ?_
    show Steps p.tables e below (T8.setTop (mkF m 69 #[.val (.int p1), .val (.long q2), .second, .val (.long q3), .second, .val (.long q4), .second, .val (.int (3 : Int32)), .val (.long vb), .second, .val (.long vc), .second, .val (.ref b6), .unset, .unset, .unset, .unset] [])) _
    refine XS.aload X8.here hx rfl (hb hby at_69) rfl rfl ?_
    show Steps p.tables e below (T8.setTop (mkF m 71 #[.val (.int p1), .val (.long q2), .second, .val (.long q3), .second, .val (.long q4), .second, .val (.int (3 : Int32)), .val (.long vb), .second, .val (.long vc), .second, .val (.ref b6), .unset, .unset, .unset, .unset] [(.ref b6)])) _
    refine XS.iconst X8.here hx rfl (hb hby at_71) ?_
    show Steps p.tables e below (T8.setTop (mkF m 72 #[.val (.int p1), .val (.long q2), .second, .val (.long q3), .second, .val (.long q4), .second, .val (.int (3 : Int32)), .val (.long vb), .second, .val (.long vc), .second, .val (.ref b6), .unset, .unset, .unset, .unset] [(.int (1 : Int32)), (.ref b6)])) _
    refine XS.lload X8.here hx rfl (hb hby at_72) rfl ?_
    show Steps p.tables e below (T8.setTop (mkF m 74 #[.val (.int p1), .val (.long q2), .second, .val (.long q3), .second, .val (.long q4), .second, .val (.int (3 : Int32)), .val (.long vb), .second, .val (.long vc), .second, .val (.ref b6), .unset, .unset, .unset, .unset] [(.long vb), (.int (1 : Int32)), (.ref b6)])) _
    refine st9.trans ?_
    show Steps p.tables e below (T9.setTop (mkF m 77 #[.val (.int p1), .val (.long q2), .second, .val (.long q3), .second, .val (.long q4), .second, .val (.int (3 : Int32)), .val (.long vb), .second, .val (.long vc), .second, .val (.ref b6), .unset, .unset, .unset, .unset] [])) _
    refine XS.iload X9.here hx rfl (hb hby at_77) rfl ?_
    show Steps p.tables e below (T9.setTop (mkF m 79 #[.val (.int p1), .val (.long q2), .second, .val (.long q3), .second, .val (.long q4), .second, .val (.int (3 : Int32)), .val (.long vb), .second, .val (.long vc), .second, .val (.ref b6), .unset, .unset, .unset, .unset] [(.int (3 : Int32))])) _
    refine XS.iconst X9.here hx rfl (hb hby at_79) ?_
    show Steps p.tables e below (T9.setTop (mkF m 80 #[.val (.int p1), .val (.long q2), .second, .val (.long q3), .second, .val (.long q4), .second, .val (.int (3 : Int32)), .val (.long vb), .second, .val (.long vc), .second, .val (.ref b6), .unset, .unset, .unset, .unset] [(.int (3 : Int32)), (.int (3 : Int32))])) _
    refine XS.icmpNo X9.here hx rfl (hb hby at_80) rfl (flt hc80).1 ?_
    show Steps p.tables e below (T9.setTop (mkF m 83 #[.val (.int p1), .val (.long q2), .second, .val (.long q3), .second, .val (.long q4), .second, .val (.int (3 : Int32)), .val (.long vb), .second, .val (.long vc), .second, .val (.ref b6), .unset, .unset, .unset, .unset] [])) _
    refine XS.aload X9.here hx rfl (hb hby at_83) rfl rfl ?_
    show Steps p.tables e below (T9.setTop (mkF m 85 #[.val (.int p1), .val (.long q2), .second, .val (.long q3), .second, .val (.long q4), .second, .val (.int (3 : Int32)), .val (.long vb), .second, .val (.long vc), .second, .val (.ref b6), .unset, .unset, .unset, .unset] [(.ref b6)])) _
    refine XS.iconst X9.here hx rfl (hb hby at_85) ?_
    show Steps p.tables e below (T9.setTop (mkF m 86 #[.val (.int p1), .val (.long q2), .second, .val (.long q3), .second, .val (.long q4), .second, .val (.int (3 : Int32)), .val (.long vb), .second, .val (.long vc), .second, .val (.ref b6), .unset, .unset, .unset, .unset] [(.int (2 : Int32)), (.ref b6)])) _
    refine XS.lload X9.here hx rfl (hb hby at_86) rfl ?_
    show Steps p.tables e below (T9.setTop (mkF m 88 #[.val (.int p1), .val (.long q2), .second, .val (.long q3), .second, .val (.long q4), .second, .val (.int (3 : Int32)), .val (.long vb), .second, .val (.long vc), .second, .val (.ref b6), .unset, .unset, .unset, .unset] [(.long vc), (.int (2 : Int32)), (.ref b6)])) _
    refine st10.trans ?_
    show Steps p.tables e below (T10.setTop (mkF m 91 #[.val (.int p1), .val (.long q2), .second, .val (.long q3), .second, .val (.long q4), .second, .val (.int (3 : Int32)), .val (.long vb), .second, .val (.long vc), .second, .val (.ref b6), .unset, .unset, .unset, .unset] [])) _
    refine XS.lloadN X10.here hx rfl (hb hby at_91) rfl ?_
    show Steps p.tables e below (T10.setTop (mkF m 92 #[.val (.int p1), .val (.long q2), .second, .val (.long q3), .second, .val (.long q4), .second, .val (.int (3 : Int32)), .val (.long vb), .second, .val (.long vc), .second, .val (.ref b6), .unset, .unset, .unset, .unset] [(.long q2)])) _
    refine XS.lstore X10.here hx rfl (hb hby at_92) rfl (l' := #[.val (.int p1), .val (.long q2), .second, .val (.long q3), .second, .val (.long q4), .second, .val (.int (3 : Int32)), .val (.long vb), .second, .val (.long vc), .second, .val (.ref b6), .val (.long q2), .second, .unset, .unset]) rfl ?_
    show Steps p.tables e below (T10.setTop (mkF m 94 #[.val (.int p1), .val (.long q2), .second, .val (.long q3), .second, .val (.long q4), .second, .val (.int (3 : Int32)), .val (.long vb), .second, .val (.long vc), .second, .val (.ref b6), .val (.long q2), .second, .unset, .unset] [])) _
    refine XS.iload X10.here hx rfl (hb hby at_94) rfl ?_
    show Steps p.tables e below (T10.setTop (mkF m 96 #[.val (.int p1), .val (.long q2), .second, .val (.long q3), .second, .val (.long q4), .second, .val (.int (3 : Int32)), .val (.long vb), .second, .val (.long vc), .second, .val (.ref b6), .val (.long q2), .second, .unset, .unset] [(.int (3 : Int32))])) _
    refine XS.iconst X10.here hx rfl (hb hby at_96) ?_
    show Steps p.tables e below (T10.setTop (mkF m 97 #[.val (.int p1), .val (.long q2), .second, .val (.long q3), .second, .val (.long q4), .second, .val (.int (3 : Int32)), .val (.long vb), .second, .val (.long vc), .second, .val (.ref b6), .val (.long q2), .second, .unset, .unset] [(.int (2 : Int32)), (.int (3 : Int32))])) _
    refine XS.icmpNo X10.here hx rfl (hb hby at_97) rfl (flt hc97).1 ?_
    show Steps p.tables e below (T10.setTop (mkF m 100 #[.val (.int p1), .val (.long q2), .second, .val (.long q3), .second, .val (.long q4), .second, .val (.int (3 : Int32)), .val (.long vb), .second, .val (.long vc), .second, .val (.ref b6), .val (.long q2), .second, .unset, .unset] [])) _
    refine XS.lload X10.here hx rfl (hb hby at_100) rfl ?_
    show Steps p.tables e below (T10.setTop (mkF m 102 #[.val (.int p1), .val (.long q2), .second, .val (.long q3), .second, .val (.long q4), .second, .val (.int (3 : Int32)), .val (.long vb), .second, .val (.long vc), .second, .val (.ref b6), .val (.long q2), .second, .unset, .unset] [(.long q2)])) _
    refine XS.lload X10.here hx rfl (hb hby at_102) rfl ?_
    show Steps p.tables e below (T10.setTop (mkF m 104 #[.val (.int p1), .val (.long q2), .second, .val (.long q3), .second, .val (.long q4), .second, .val (.int (3 : Int32)), .val (.long vb), .second, .val (.long vc), .second, .val (.ref b6), .val (.long q2), .second, .unset, .unset] [(.long vb), (.long q2)])) _
    refine st11 _ ?_
    show Steps p.tables e below (T11.setTop (mkF m 107 #[.val (.int p1), .val (.long q2), .second, .val (.long q3), .second, .val (.long q4), .second, .val (.int (3 : Int32)), .val (.long vb), .second, .val (.long vc), .second, .val (.ref b6), .val (.long q2), .second, .unset, .unset] [(.long m1)])) _
    refine XS.lstore X11.here hx rfl (hb hby at_107) rfl (l' := #[.val (.int p1), .val (.long q2), .second, .val (.long q3), .second, .val (.long q4), .second, .val (.int (3 : Int32)), .val (.long vb), .second, .val (.long vc), .second, .val (.ref b6), .val (.long m1), .second, .unset, .unset]) rfl ?_
    show Steps p.tables e below (T11.setTop (mkF m 109 #[.val (.int p1), .val (.long q2), .second, .val (.long q3), .second, .val (.long q4), .second, .val (.int (3 : Int32)), .val (.long vb), .second, .val (.long vc), .second, .val (.ref b6), .val (.long m1), .second, .unset, .unset] [])) _
    refine XS.iload X11.here hx rfl (hb hby at_109) rfl ?_
    show Steps p.tables e below (T11.setTop (mkF m 111 #[.val (.int p1), .val (.long q2), .second, .val (.long q3), .second, .val (.long q4), .second, .val (.int (3 : Int32)), .val (.long vb), .second, .val (.long vc), .second, .val (.ref b6), .val (.long m1), .second, .unset, .unset] [(.int (3 : Int32))])) _
    refine XS.iconst X11.here hx rfl (hb hby at_111) ?_
    show Steps p.tables e below (T11.setTop (mkF m 112 #[.val (.int p1), .val (.long q2), .second, .val (.long q3), .second, .val (.long q4), .second, .val (.int (3 : Int32)), .val (.long vb), .second, .val (.long vc), .second, .val (.ref b6), .val (.long m1), .second, .unset, .unset] [(.int (3 : Int32)), (.int (3 : Int32))])) _
    refine XS.icmpNo X11.here hx rfl (hb hby at_112) rfl (flt hc112).1 ?_
    show Steps p.tables e below (T11.setTop (mkF m 115 #[.val (.int p1), .val (.long q2), .second, .val (.long q3), .second, .val (.long q4), .second, .val (.int (3 : Int32)), .val (.long vb), .second, .val (.long vc), .second, .val (.ref b6), .val (.long m1), .second, .unset, .unset] [])) _
    refine XS.lload X11.here hx rfl (hb hby at_115) rfl ?_
    show Steps p.tables e below (T11.setTop (mkF m 117 #[.val (.int p1), .val (.long q2), .second, .val (.long q3), .second, .val (.long q4), .second, .val (.int (3 : Int32)), .val (.long vb), .second, .val (.long vc), .second, .val (.ref b6), .val (.long m1), .second, .unset, .unset] [(.long m1)])) _
    refine XS.lload X11.here hx rfl (hb hby at_117) rfl ?_
    show Steps p.tables e below (T11.setTop (mkF m 119 #[.val (.int p1), .val (.long q2), .second, .val (.long q3), .second, .val (.long q4), .second, .val (.int (3 : Int32)), .val (.long vb), .second, .val (.long vc), .second, .val (.ref b6), .val (.long m1), .second, .unset, .unset] [(.long vc), (.long m1)])) _
    refine st12 _ ?_
    show Steps p.tables e below (T12.setTop (mkF m 122 #[.val (.int p1), .val (.long q2), .second, .val (.long q3), .second, .val (.long q4), .second, .val (.int (3 : Int32)), .val (.long vb), .second, .val (.long vc), .second, .val (.ref b6), .val (.long m1), .second, .unset, .unset] [(.long mm)])) _
    refine XS.lstore X12.here hx rfl (hb hby at_122) rfl (l' := #[.val (.int p1), .val (.long q2), .second, .val (.long q3), .second, .val (.long q4), .second, .val (.int (3 : Int32)), .val (.long vb), .second, .val (.long vc), .second, .val (.ref b6), .val (.long mm), .second, .unset, .unset]) rfl ?_
    show Steps p.tables e below (T12.setTop (mkF m 124 #[.val (.int p1), .val (.long q2), .second, .val (.long q3), .second, .val (.long q4), .second, .val (.int (3 : Int32)), .val (.long vb), .second, .val (.long vc), .second, .val (.ref b6), .val (.long mm), .second, .unset, .unset] [])) _
    refine XS.aload X12.here hx rfl (hb hby at_124) rfl rfl ?_
    show Steps p.tables e below (T12.setTop (mkF m 126 #[.val (.int p1), .val (.long q2), .second, .val (.long q3), .second, .val (.long q4), .second, .val (.int (3 : Int32)), .val (.long vb), .second, .val (.long vc), .second, .val (.ref b6), .val (.long mm), .second, .unset, .unset] [(.ref b6)])) _
    refine st13.trans ?_
    show Steps p.tables e below (T13.setTop (mkF m 129 #[.val (.int p1), .val (.long q2), .second, .val (.long q3), .second, .val (.long q4), .second, .val (.int (3 : Int32)), .val (.long vb), .second, .val (.long vc), .second, .val (.ref b6), .val (.long mm), .second, .unset, .unset] [(.long mm)])) _
    refine XS.lstore X13.here hx rfl (hb hby at_129) rfl (l' := #[.val (.int p1), .val (.long q2), .second, .val (.long q3), .second, .val (.long q4), .second, .val (.int (3 : Int32)), .val (.long vb), .second, .val (.long vc), .second, .val (.ref b6), .val (.long mm), .second, .val (.long mm), .second]) rfl ?_
    show Steps p.tables e below (T13.setTop (mkF m 131 #[.val (.int p1), .val (.long q2), .second, .val (.long q3), .second, .val (.long q4), .second, .val (.int (3 : Int32)), .val (.long vb), .second, .val (.long vc), .second, .val (.ref b6), .val (.long mm), .second, .val (.long mm), .second] [])) _
    refine XS.lload X13.here hx rfl (hb hby at_131) rfl ?_
    show Steps p.tables e below (T13.setTop (mkF m 133 #[.val (.int p1), .val (.long q2), .second, .val (.long q3), .second, .val (.long q4), .second, .val (.int (3 : Int32)), .val (.long vb), .second, .val (.long vc), .second, .val (.ref b6), .val (.long mm), .second, .val (.long mm), .second] [(.long mm)])) _
    refine XS.lload X13.here hx rfl (hb hby at_133) rfl ?_
    show Steps p.tables e below (T13.setTop (mkF m 135 #[.val (.int p1), .val (.long q2), .second, .val (.long q3), .second, .val (.long q4), .second, .val (.int (3 : Int32)), .val (.long vb), .second, .val (.long vc), .second, .val (.ref b6), .val (.long mm), .second, .val (.long mm), .second] [(.long mm), (.long mm)])) _
    refine XS.lcmp X13.here hx rfl (hb hby at_135) rfl ?_
    show Steps p.tables e below (T13.setTop (mkF m 136 #[.val (.int p1), .val (.long q2), .second, .val (.long q3), .second, .val (.long q4), .second, .val (.int (3 : Int32)), .val (.long vb), .second, .val (.long vc), .second, .val (.ref b6), .val (.long mm), .second, .val (.long mm), .second] [(.int (lcmpW mm mm))])) _
    refine XS.ifYes X13.here hx rfl (pc0 := 136) (pc' := 141) rfl (hb hby at_136) rfl ((if0 _ _).trans (teq (((lw_eq _ _).mpr rfl) : (lcmpW mm mm) = (0 : Int32))).1) (by decide) (by decide) ?_
    show Steps p.tables e below (T13.setTop (mkF m 141 #[.val (.int p1), .val (.long q2), .second, .val (.long q3), .second, .val (.long q4), .second, .val (.int (3 : Int32)), .val (.long vb), .second, .val (.long vc), .second, .val (.ref b6), .val (.long mm), .second, .val (.long mm), .second] [])) _
    refine XS.aload X13.here hx rfl (hb hby at_141) rfl rfl ?_
    show Steps p.tables e below (T13.setTop (mkF m 143 #[.val (.int p1), .val (.long q2), .second, .val (.long q3), .second, .val (.long q4), .second, .val (.int (3 : Int32)), .val (.long vb), .second, .val (.long vc), .second, .val (.ref b6), .val (.long mm), .second, .val (.long mm), .second] [(.ref b6)])) _
    refine st14.trans ?_
    show Steps p.tables e below (T14.setTop (mkF m 146 #[.val (.int p1), .val (.long q2), .second, .val (.long q3), .second, .val (.long q4), .second, .val (.int (3 : Int32)), .val (.long vb), .second, .val (.long vc), .second, .val (.ref b6), .val (.long mm), .second, .val (.long mm), .second] [(.long mm)])) _
    refine XS.lload X14.here hx rfl (hb hby at_146) rfl ?_
    show Steps p.tables e below (T14.setTop (mkF m 148 #[.val (.int p1), .val (.long q2), .second, .val (.long q3), .second, .val (.long q4), .second, .val (.int (3 : Int32)), .val (.long vb), .second, .val (.long vc), .second, .val (.ref b6), .val (.long mm), .second, .val (.long mm), .second] [(.long mm), (.long mm)])) _
    refine XS.lcmp X14.here hx rfl (hb hby at_148) rfl ?_
    show Steps p.tables e below (T14.setTop (mkF m 149 #[.val (.int p1), .val (.long q2), .second, .val (.long q3), .second, .val (.long q4), .second, .val (.int (3 : Int32)), .val (.long vb), .second, .val (.long vc), .second, .val (.ref b6), .val (.long mm), .second, .val (.long mm), .second] [(.int (lcmpW mm mm))])) _
    refine XS.ifYes X14.here hx rfl (pc0 := 149) (pc' := 154) rfl (hb hby at_149) rfl ((if0 _ _).trans (teq (((lw_eq _ _).mpr rfl) : (lcmpW mm mm) = (0 : Int32))).1) (by decide) (by decide) ?_
    show Steps p.tables e below (T14.setTop (mkF m 154 #[.val (.int p1), .val (.long q2), .second, .val (.long q3), .second, .val (.long q4), .second, .val (.int (3 : Int32)), .val (.long vb), .second, .val (.long vc), .second, .val (.ref b6), .val (.long mm), .second, .val (.long mm), .second] [])) _
    refine XS.lload X14.here hx rfl (hb hby at_154) rfl ?_
    show Steps p.tables e below (T14.setTop (mkF m 156 #[.val (.int p1), .val (.long q2), .second, .val (.long q3), .second, .val (.long q4), .second, .val (.int (3 : Int32)), .val (.long vb), .second, .val (.long vc), .second, .val (.ref b6), .val (.long mm), .second, .val (.long mm), .second] [(.long mm)])) _
    refine X14.ldc2Long hx hown (mvT hZ (hw _ (List.mem_of_getElem? (i := 43) rfl))) (g := (mkF m 156 #[.val (.int p1), .val (.long q2), .second, .val (.long q3), .second, .val (.long q4), .second, .val (.int (3 : Int32)), .val (.long vb), .second, .val (.long vc), .second, .val (.ref b6), .val (.long mm), .second, .val (.long mm), .second] [(.long mm)])) rfl (hb hby at_156) _ ?_
    show Steps p.tables e below (T14.setTop (mkF m 159 #[.val (.int p1), .val (.long q2), .second, .val (.long q3), .second, .val (.long q4), .second, .val (.int (3 : Int32)), .val (.long vb), .second, .val (.long vc), .second, .val (.ref b6), .val (.long mm), .second, .val (.long mm), .second] [(.long (9223372036854775807 : Int64)), (.long mm)])) _
    refine XS.lcmp X14.here hx rfl (hb hby at_159) rfl ?_
    show Steps p.tables e below (T14.setTop (mkF m 160 #[.val (.int p1), .val (.long q2), .second, .val (.long q3), .second, .val (.long q4), .second, .val (.int (3 : Int32)), .val (.long vb), .second, .val (.long vc), .second, .val (.ref b6), .val (.long mm), .second, .val (.long mm), .second] [(.int (lcmpW mm (9223372036854775807 : Int64)))])) _
    refine XS.ifYes X14.here hx rfl (pc0 := 160) (pc' := 177) rfl (hb hby at_160) rfl ((if0 _ _).trans (feq ((fun q => h160 ((lw_eq _ _).mp q)) : ¬ ((lcmpW mm (9223372036854775807 : Int64)) = (0 : Int32)))).2) (by decide) (by decide) ?_
    show Steps p.tables e below (T14.setTop (mkF m 177 #[.val (.int p1), .val (.long q2), .second, .val (.long q3), .second, .val (.long q4), .second, .val (.int (3 : Int32)), .val (.long vb), .second, .val (.long vc), .second, .val (.ref b6), .val (.long mm), .second, .val (.long mm), .second] [])) _
    refine XS.lloadN X14.here hx rfl (hb hby at_177) rfl ?_
    show Steps p.tables e below (T14.setTop (mkF m 178 #[.val (.int p1), .val (.long q2), .second, .val (.long q3), .second, .val (.long q4), .second, .val (.int (3 : Int32)), .val (.long vb), .second, .val (.long vc), .second, .val (.ref b6), .val (.long mm), .second, .val (.long mm), .second] [(.long q2)])) _
    refine XS.lload X14.here hx rfl (hb hby at_178) rfl ?_
    show Steps p.tables e below (T14.setTop (mkF m 180 #[.val (.int p1), .val (.long q2), .second, .val (.long q3), .second, .val (.long q4), .second, .val (.int (3 : Int32)), .val (.long vb), .second, .val (.long vc), .second, .val (.ref b6), .val (.long mm), .second, .val (.long mm), .second] [(.long mm), (.long q2)])) _
    refine XS.lcmp X14.here hx rfl (hb hby at_180) rfl ?_
    show Steps p.tables e below (T14.setTop (mkF m 181 #[.val (.int p1), .val (.long q2), .second, .val (.long q3), .second, .val (.long q4), .second, .val (.int (3 : Int32)), .val (.long vb), .second, .val (.long vc), .second, .val (.ref b6), .val (.long mm), .second, .val (.long mm), .second] [(.int (lcmpW q2 mm))])) _
    refine XS.ifNo X14.here hx rfl (hb hby at_181) rfl ((if0 _ _).trans (teq (((lw_eq _ _).mpr h181) : (lcmpW q2 mm) = (0 : Int32))).2) ?_
    show Steps p.tables e below (T14.setTop (mkF m 184 #[.val (.int p1), .val (.long q2), .second, .val (.long q3), .second, .val (.long q4), .second, .val (.int (3 : Int32)), .val (.long vb), .second, .val (.long vc), .second, .val (.ref b6), .val (.long mm), .second, .val (.long mm), .second] [])) _
    refine XS.aload X14.here hx rfl (hb hby at_184) rfl rfl ?_
    show Steps p.tables e below (T14.setTop (mkF m 186 #[.val (.int p1), .val (.long q2), .second, .val (.long q3), .second, .val (.long q4), .second, .val (.int (3 : Int32)), .val (.long vb), .second, .val (.long vc), .second, .val (.ref b6), .val (.long mm), .second, .val (.long mm), .second] [(.ref b6)])) _
    refine XS.iconst X14.here hx rfl (hb hby at_186) ?_
    show Steps p.tables e below (T14.setTop (mkF m 187 #[.val (.int p1), .val (.long q2), .second, .val (.long q3), .second, .val (.long q4), .second, .val (.int (3 : Int32)), .val (.long vb), .second, .val (.long vc), .second, .val (.ref b6), .val (.long mm), .second, .val (.long mm), .second] [(.int (0 : Int32)), (.ref b6)])) _
    refine X14.ldc2Long hx hown (mvT hZ (hw _ (List.mem_of_getElem? (i := 43) rfl))) (g := (mkF m 187 #[.val (.int p1), .val (.long q2), .second, .val (.long q3), .second, .val (.long q4), .second, .val (.int (3 : Int32)), .val (.long vb), .second, .val (.long vc), .second, .val (.ref b6), .val (.long mm), .second, .val (.long mm), .second] [(.int (0 : Int32)), (.ref b6)])) rfl (hb hby at_187) _ ?_
    show Steps p.tables e below (T14.setTop (mkF m 190 #[.val (.int p1), .val (.long q2), .second, .val (.long q3), .second, .val (.long q4), .second, .val (.int (3 : Int32)), .val (.long vb), .second, .val (.long vc), .second, .val (.ref b6), .val (.long mm), .second, .val (.long mm), .second] [(.long (9223372036854775807 : Int64)), (.int (0 : Int32)), (.ref b6)])) _
    refine st15.trans ?_
    show Steps p.tables e below (T15.setTop (mkF m 193 #[.val (.int p1), .val (.long q2), .second, .val (.long q3), .second, .val (.long q4), .second, .val (.int (3 : Int32)), .val (.long vb), .second, .val (.long vc), .second, .val (.ref b6), .val (.long mm), .second, .val (.long mm), .second] [])) _
    refine XS.iload X15.here hx rfl (hb hby at_193) rfl ?_
    show Steps p.tables e below (T15.setTop (mkF m 195 #[.val (.int p1), .val (.long q2), .second, .val (.long q3), .second, .val (.long q4), .second, .val (.int (3 : Int32)), .val (.long vb), .second, .val (.long vc), .second, .val (.ref b6), .val (.long mm), .second, .val (.long mm), .second] [(.int (3 : Int32))])) _
    refine XS.iconst X15.here hx rfl (hb hby at_195) ?_
    show Steps p.tables e below (T15.setTop (mkF m 196 #[.val (.int p1), .val (.long q2), .second, .val (.long q3), .second, .val (.long q4), .second, .val (.int (3 : Int32)), .val (.long vb), .second, .val (.long vc), .second, .val (.ref b6), .val (.long mm), .second, .val (.long mm), .second] [(.int (2 : Int32)), (.int (3 : Int32))])) _
    refine XS.icmpNo X15.here hx rfl (hb hby at_196) rfl (flt hc196).1 ?_
    show Steps p.tables e below (T15.setTop (mkF m 199 #[.val (.int p1), .val (.long q2), .second, .val (.long q3), .second, .val (.long q4), .second, .val (.int (3 : Int32)), .val (.long vb), .second, .val (.long vc), .second, .val (.ref b6), .val (.long mm), .second, .val (.long mm), .second] [])) _
    refine XS.lload X15.here hx rfl (hb hby at_199) rfl ?_
    show Steps p.tables e below (T15.setTop (mkF m 201 #[.val (.int p1), .val (.long q2), .second, .val (.long q3), .second, .val (.long q4), .second, .val (.int (3 : Int32)), .val (.long vb), .second, .val (.long vc), .second, .val (.ref b6), .val (.long mm), .second, .val (.long mm), .second] [(.long vb)])) _
    refine XS.lload X15.here hx rfl (hb hby at_201) rfl ?_
    show Steps p.tables e below (T15.setTop (mkF m 203 #[.val (.int p1), .val (.long q2), .second, .val (.long q3), .second, .val (.long q4), .second, .val (.int (3 : Int32)), .val (.long vb), .second, .val (.long vc), .second, .val (.ref b6), .val (.long mm), .second, .val (.long mm), .second] [(.long mm), (.long vb)])) _
    refine XS.lcmp X15.here hx rfl (hb hby at_203) rfl ?_
    show Steps p.tables e below (T15.setTop (mkF m 204 #[.val (.int p1), .val (.long q2), .second, .val (.long q3), .second, .val (.long q4), .second, .val (.int (3 : Int32)), .val (.long vb), .second, .val (.long vc), .second, .val (.ref b6), .val (.long mm), .second, .val (.long mm), .second] [(.int (lcmpW vb mm))])) _
    refine XS.ifNo X15.here hx rfl (hb hby at_204) rfl ((if0 _ _).trans (teq (((lw_eq _ _).mpr h204) : (lcmpW vb mm) = (0 : Int32))).2) ?_
    show Steps p.tables e below (T15.setTop (mkF m 207 #[.val (.int p1), .val (.long q2), .second, .val (.long q3), .second, .val (.long q4), .second, .val (.int (3 : Int32)), .val (.long vb), .second, .val (.long vc), .second, .val (.ref b6), .val (.long mm), .second, .val (.long mm), .second] [])) _
    refine XS.aload X15.here hx rfl (hb hby at_207) rfl rfl ?_
    show Steps p.tables e below (T15.setTop (mkF m 209 #[.val (.int p1), .val (.long q2), .second, .val (.long q3), .second, .val (.long q4), .second, .val (.int (3 : Int32)), .val (.long vb), .second, .val (.long vc), .second, .val (.ref b6), .val (.long mm), .second, .val (.long mm), .second] [(.ref b6)])) _
    refine XS.iconst X15.here hx rfl (hb hby at_209) ?_
    show Steps p.tables e below (T15.setTop (mkF m 210 #[.val (.int p1), .val (.long q2), .second, .val (.long q3), .second, .val (.long q4), .second, .val (.int (3 : Int32)), .val (.long vb), .second, .val (.long vc), .second, .val (.ref b6), .val (.long mm), .second, .val (.long mm), .second] [(.int (1 : Int32)), (.ref b6)])) _
    refine X15.ldc2Long hx hown (mvT hZ (hw _ (List.mem_of_getElem? (i := 43) rfl))) (g := (mkF m 210 #[.val (.int p1), .val (.long q2), .second, .val (.long q3), .second, .val (.long q4), .second, .val (.int (3 : Int32)), .val (.long vb), .second, .val (.long vc), .second, .val (.ref b6), .val (.long mm), .second, .val (.long mm), .second] [(.int (1 : Int32)), (.ref b6)])) rfl (hb hby at_210) _ ?_
    show Steps p.tables e below (T15.setTop (mkF m 213 #[.val (.int p1), .val (.long q2), .second, .val (.long q3), .second, .val (.long q4), .second, .val (.int (3 : Int32)), .val (.long vb), .second, .val (.long vc), .second, .val (.ref b6), .val (.long mm), .second, .val (.long mm), .second] [(.long (9223372036854775807 : Int64)), (.int (1 : Int32)), (.ref b6)])) _
    refine st16.trans ?_
    show Steps p.tables e below (T16.setTop (mkF m 216 #[.val (.int p1), .val (.long q2), .second, .val (.long q3), .second, .val (.long q4), .second, .val (.int (3 : Int32)), .val (.long vb), .second, .val (.long vc), .second, .val (.ref b6), .val (.long mm), .second, .val (.long mm), .second] [])) _
    refine XS.iload X16.here hx rfl (hb hby at_216) rfl ?_
    show Steps p.tables e below (T16.setTop (mkF m 218 #[.val (.int p1), .val (.long q2), .second, .val (.long q3), .second, .val (.long q4), .second, .val (.int (3 : Int32)), .val (.long vb), .second, .val (.long vc), .second, .val (.ref b6), .val (.long mm), .second, .val (.long mm), .second] [(.int (3 : Int32))])) _
    refine XS.iconst X16.here hx rfl (hb hby at_218) ?_
    show Steps p.tables e below (T16.setTop (mkF m 219 #[.val (.int p1), .val (.long q2), .second, .val (.long q3), .second, .val (.long q4), .second, .val (.int (3 : Int32)), .val (.long vb), .second, .val (.long vc), .second, .val (.ref b6), .val (.long mm), .second, .val (.long mm), .second] [(.int (3 : Int32)), (.int (3 : Int32))])) _
    refine XS.icmpNo X16.here hx rfl (hb hby at_219) rfl (flt hc219).1 ?_
    show Steps p.tables e below (T16.setTop (mkF m 222 #[.val (.int p1), .val (.long q2), .second, .val (.long q3), .second, .val (.long q4), .second, .val (.int (3 : Int32)), .val (.long vb), .second, .val (.long vc), .second, .val (.ref b6), .val (.long mm), .second, .val (.long mm), .second] [])) _
    refine XS.lload X16.here hx rfl (hb hby at_222) rfl ?_
    show Steps p.tables e below (T16.setTop (mkF m 224 #[.val (.int p1), .val (.long q2), .second, .val (.long q3), .second, .val (.long q4), .second, .val (.int (3 : Int32)), .val (.long vb), .second, .val (.long vc), .second, .val (.ref b6), .val (.long mm), .second, .val (.long mm), .second] [(.long vc)])) _
    refine XS.lload X16.here hx rfl (hb hby at_224) rfl ?_
    show Steps p.tables e below (T16.setTop (mkF m 226 #[.val (.int p1), .val (.long q2), .second, .val (.long q3), .second, .val (.long q4), .second, .val (.int (3 : Int32)), .val (.long vb), .second, .val (.long vc), .second, .val (.ref b6), .val (.long mm), .second, .val (.long mm), .second] [(.long mm), (.long vc)])) _
    refine XS.lcmp X16.here hx rfl (hb hby at_226) rfl ?_
    show Steps p.tables e below (T16.setTop (mkF m 227 #[.val (.int p1), .val (.long q2), .second, .val (.long q3), .second, .val (.long q4), .second, .val (.int (3 : Int32)), .val (.long vb), .second, .val (.long vc), .second, .val (.ref b6), .val (.long mm), .second, .val (.long mm), .second] [(.int (lcmpW vc mm))])) _
    refine XS.ifYes X16.here hx rfl (pc0 := 227) (pc' := 239) rfl (hb hby at_227) rfl ((if0 _ _).trans (feq ((fun q => h227 ((lw_eq _ _).mp q)) : ¬ ((lcmpW vc mm) = (0 : Int32)))).2) (by decide) (by decide) ?_
    show Steps p.tables e below (T16.setTop (mkF m 239 #[.val (.int p1), .val (.long q2), .second, .val (.long q3), .second, .val (.long q4), .second, .val (.int (3 : Int32)), .val (.long vb), .second, .val (.long vc), .second, .val (.ref b6), .val (.long mm), .second, .val (.long mm), .second] [])) _
    refine XS.aload X16.here hx rfl (hb hby at_239) rfl rfl ?_
    show Steps p.tables e below (T16.setTop (mkF m 241 #[.val (.int p1), .val (.long q2), .second, .val (.long q3), .second, .val (.long q4), .second, .val (.int (3 : Int32)), .val (.long vb), .second, .val (.long vc), .second, .val (.ref b6), .val (.long mm), .second, .val (.long mm), .second] [(.ref b6)])) _
    refine st17.trans ?_
    show Steps p.tables e below (T17.setTop (mkF m 244 #[.val (.int p1), .val (.long q2), .second, .val (.long q3), .second, .val (.long q4), .second, .val (.int (3 : Int32)), .val (.long vb), .second, .val (.long vc), .second, .val (.ref b6), .val (.long mm), .second, .val (.long mm), .second] [(.int (1 : Int32))])) _
    exact retN X17 hx (t := .boolean) Bd.returns (by simp) (hb hby at_244) hr
  · show Q0 Z p1 q2 q3 q4 h0 n0 _ T17.heap _
    exact ⟨rfl, N17⟩
set_option maxRecDepth 65536 in
set_option maxHeartbeats 40000000 in
theorem rm0_3yny (l : Launch) (Z : State) (a0 : Array Value) (hw : ∀ d ∈ tables_1, d.before a0 Z = true) (ws : List Jvm.Cond) (p1 : Int32) (q2 : Int64) (q3 : Int64) (q4 : Int64) (h0 : Heap) (n0 : Nat) (Z0 : n0 ≤ h0.size) (vb vc mm : Int64) (hn : own_n p1 = 3) (hvb : own_vb p1 q2 q3 = vb) (hvc : own_vc p1 q2 q3 q4 = vc) (hm : mm = (own_mn (own_mn q2 vb) vc)) (h160 : ¬ (mm = (9223372036854775807 : Int64))) (h181 : q2 = mm) (h204 : ¬ (vb = mm)) (h227 : vc = mm) :
    MetFree l x (head1 (Jvm.Cond.code x code maxLocals ret :: ws) room_1) (fun a U => a = #[(.int p1), (.long q2), (.long q3), (.long q4)] ∧ Z.Warmed39 U.vm ∧ U.heap = h0) (fun _ _ _ _ _ => True) (fun _ U o U' => ∃ v L, o = .returned v ∧ Q0 Z p1 q2 q3 q4 h0 n0 v U'.heap L ∧ FrameEnd U o U' L room_1.cells room_1.slots) := by
  refine MetFree.of_bodySF (plainFor_of_name pn_0) hisR ?_
  intro p e s m args below meth c s₁ Bd hml0 hP hK
  obtain ⟨rfl, hZ, hh⟩ := hP
  have hx := Bd.exec
  have hby := Bd.bytes
  have hml : c.maxLocals = 17 := hml0
  have hown : s.vm.findClass "com/example/mullion/mullion/aggregators/FurthestBackFindSmallestPinLaw" = some m.cls := findClass_of_methodNamed Bd.named
  have hnm := (name_of_methodNamed Bd.named Bd.method).1
  have X0 : Stand p l e room_1 s m #[(.int p1), (.long q2), (.long q3), (.long q4)] below meth c s₁ [] 0 0 := Stand.of_body Bd
  have e0 : s₁.heap = h0 := by rw [← hh, Bd.state]; rfl
  have N0 := Fr.nil n0
  have pre0 : ∀ t, Steps p.tables e below (s₁.setTop (mkF m 0 #[.val (.int p1), .val (.long q2), .second, .val (.long q3), .second, .val (.long q4), .second, .unset, .unset, .unset, .unset, .unset, .unset, .unset, .unset, .unset, .unset] [])) t → Steps p.tables e below (s₁.setTop (entryFrame m #[(.int p1), (.long q2), (.long q3), (.long q4)] maxLocals)) t := fun t k => castTop (ef_0 m p1 q2 q3 q4) k
  have hc66 : ¬ ((3 : Int32) < (2 : Int32)) := (by decide)
  have hc80 : ¬ ((3 : Int32) < (3 : Int32)) := (by decide)
  have hc97 : ¬ ((3 : Int32) < (2 : Int32)) := (by decide)
  have hc112 : ¬ ((3 : Int32) < (3 : Int32)) := (by decide)
  have hc196 : ¬ ((3 : Int32) < (2 : Int32)) := (by decide)
  have hc219 : ¬ ((3 : Int32) < (3 : Int32)) := (by decide)
  obtain ⟨T5, X5, e5, st5⟩ := own_j0 p1 q2 q3 q4 (3 : Int32) vb vc hn hvb hvc X0 hx hZ hw hby hml hown e0
  obtain ⟨T6, h6, X6, e6, E6, A6, D6, -, st6⟩ := newO X5 hx hZ hown (hw _ (List.mem_of_getElem? (i := 1) rfl)) (hw _ (List.mem_of_getElem? (i := 2) rfl)) (hw _ (List.mem_of_getElem? (i := 3) rfl)) e5 (g := (mkF m 42 #[.val (.int p1), .val (.long q2), .second, .val (.long q3), .second, .val (.long q4), .second, .val (.int (3 : Int32)), .val (.long vb), .second, .val (.long vc), .second, .unset, .unset, .unset, .unset, .unset] [])) rfl (hb hby at_42) (by decide) (by decide)
  obtain ⟨b6, g6⟩ : ∃ z, z = h0.size := ⟨_, rfl⟩
  rw [← g6] at A6 D6 st6
  have F_values_b6 : Fld Z h6 b6 "com/example/mullion/mullion/aggregators/FurthestBack" "values" "[J" .null := D6 (Or.inr (hw _ (List.mem_of_getElem? (i := 13) rfl))) (ty := (.array .long)) (by decide)
  have F_mark_b6 : Fld Z h6 b6 "com/example/mullion/mullion/aggregators/FurthestBack" "mark" "J" (.long (0 : Int64)) := D6 (Or.inl (hw _ (List.mem_of_getElem? (i := 24) rfl))) (ty := .long) (by decide)
  have F_atOrBelowMark_b6 : Fld Z h6 b6 "com/example/mullion/mullion/aggregators/FurthestBack" "atOrBelowMark" "I" (.int (0 : Int32)) := D6 (Or.inl (hw _ (List.mem_of_getElem? (i := 26) rfl))) (ty := .int) (by decide)
  have E_b6 := A6
  have g_b6 : n0 ≤ b6 := Nat.le_trans Z0 (Nat.le_of_eq g6.symm)
  have sz_b6 : h0.size ≤ b6 := (Nat.le_trans (Keep.refl h0 []).1 (Nat.le_of_eq g6.symm))
  have K6 : Keep h0 h6 [] := (Keep.refl h0 []).ext E6
  obtain ⟨_, _, ⟨T7, L7, k7, n7⟩, -, X7, ⟨Lc7, hQ7, l7, y7, z7⟩, st7⟩ := X6.specialBack hx (y := (⟨"com/example/mullion/mullion/aggregators/FurthestBack", "<init>", "(IJ)V"⟩ : MethodName)) rfl hown (mvT hZ (hw _ (List.mem_of_getElem? (i := 5) rfl))) (mvT hZ (hw _ (List.mem_of_getElem? (i := 6) rfl))) (mvT hZ (hw _ (List.mem_of_getElem? (i := 7) rfl))) (by decide) (backOf (W := 1) (rm1 l Z a0 hw [] b6 (3 : Int32) (-9223372036854775808 : Int64) 3 h6 n0 (Nat.le_trans Z0 E6.1) (by decide) rfl (by decide) E_b6 F_values_b6 F_mark_b6 F_atOrBelowMark_b6 g_b6) hZ (hw _ (List.mem_of_getElem? (i := 7) rfl)) (hw _ (List.mem_of_getElem? (i := 3) rfl)) (by decide) (by decide)) (g := (mkF m 51 #[.val (.int p1), .val (.long q2), .second, .val (.long q3), .second, .val (.long q4), .second, .val (.int (3 : Int32)), .val (.long vb), .second, .val (.long vc), .second, .unset, .unset, .unset, .unset, .unset] [(.long (-9223372036854775808 : Int64)), (.int (3 : Int32)), (.ref b6), (.ref b6)])) rfl (by rw [hml]; rfl) (Steps.refl _) (a := b6) (argsL := [(.int (3 : Int32)), (.long (-9223372036854775808 : Int64))]) (rest := [(.ref b6)]) (lenOf pd_0_0 rfl) rfl (by show 2 * 0 + _ ≤ _; exact Nat.le_of_eq rfl) (hb hby at_51) (fun _ _ => ⟨rfl, e6, (by decide : 1 + 1 ≤ _), (by decide : 3 + 3 ≤ _)⟩)
  dsimp only [Pt.U, Pt.locs, Pt.cells, Pt.slots] at X7 l7 y7 z7 st7 hQ7
  subst l7 y7 z7
  obtain ⟨rfl, N7q, K7q, t, st, E7q, Fv7q, Fm7q, Fa7q, V7q⟩ := hQ7
  have N7 := Fr.app N0 N7q
  have z7q : n0 ≤ T7.heap.size := Nat.le_trans (Nat.le_trans Z0 E6.1) K7q.1
  have hne : b6 ≠ t := Nat.ne_of_lt (Nat.lt_of_lt_of_le E_b6.lt st)
  have g_t : n0 ≤ t := Nat.le_trans (Nat.le_trans Z0 E6.1) st
  obtain ⟨cq8, kq8, q8a, q8b, q8c⟩ := isOf hZ rfl E7q
  obtain ⟨_, _, ⟨T8, L8, k8, n8⟩, -, X8, ⟨Lc8, hQ8, l8, y8, z8⟩, st8⟩ := X7.virtualBack hx (y := (⟨"com/example/mullion/mullion/aggregators/FurthestBack", "moveOn", "(IJ)V"⟩ : MethodName)) (z := (⟨"com/example/mullion/mullion/aggregators/FurthestBack", "moveOn", "(IJ)V"⟩ : MethodName)) hown (mvT hZ (hw _ (List.mem_of_getElem? (i := 27) rfl))) (mvT hZ (hw _ (List.mem_of_getElem? (i := 28) rfl))) (notFace_of_selects (args := #[]) (mvT hZ (hw _ (List.mem_of_getElem? (i := 30) rfl)))) (mvT hZ (hw _ (List.mem_of_getElem? (i := 30) rfl))) (mvT hZ (hw _ (List.mem_of_getElem? (i := 29) rfl))) (by decide) (backOf (W := 0) (rm5 l Z a0 hw [] b6 (0 : Int32) q2 t 3 _ 0 _ _ T7.heap n0 z7q rfl (by decide) (by decide) E7q Fv7q Fm7q Fa7q V7q hne g_b6 g_t) hZ (hw _ (List.mem_of_getElem? (i := 31) rfl)) (hw _ (List.mem_of_getElem? (i := 3) rfl)) (by decide) (by decide)) q8a q8c (g := (mkF m 60 #[.val (.int p1), .val (.long q2), .second, .val (.long q3), .second, .val (.long q4), .second, .val (.int (3 : Int32)), .val (.long vb), .second, .val (.long vc), .second, .val (.ref b6), .unset, .unset, .unset, .unset] [(.long q2), (.int (0 : Int32)), (.ref b6)])) rfl (by rw [hml]; rfl) (Steps.refl _) (argsL := [(.int (0 : Int32)), (.long q2)]) (rest := []) (lenOf pd_0_0 rfl) rfl (by show 2 * 0 + _ ≤ _; exact Nat.le_of_eq rfl) (hb hby at_60) (fun _ _ => ⟨rfl, rfl, (by decide : 2 + 0 ≤ _), (by decide : 6 + 0 ≤ _)⟩)
  dsimp only [Pt.U, Pt.locs, Pt.cells, Pt.slots] at X8 l8 y8 z8 st8 hQ8
  subst l8 y8 z8
  obtain ⟨rfl, N8q, K8q, E8q, Fv8q, Fm8q, Fa8q, V8q⟩ := hQ8
  have N8 := Fr.app N7 N8q
  have z8q : n0 ≤ T8.heap.size := Nat.le_trans z7q K8q.1
  obtain ⟨cq9, kq9, q9a, q9b, q9c⟩ := isOf hZ rfl E8q
  obtain ⟨_, _, ⟨T9, L9, k9, n9⟩, -, X9, ⟨Lc9, hQ9, l9, y9, z9⟩, st9⟩ := X8.virtualBack hx (y := (⟨"com/example/mullion/mullion/aggregators/FurthestBack", "moveOn", "(IJ)V"⟩ : MethodName)) (z := (⟨"com/example/mullion/mullion/aggregators/FurthestBack", "moveOn", "(IJ)V"⟩ : MethodName)) hown (mvT hZ (hw _ (List.mem_of_getElem? (i := 27) rfl))) (mvT hZ (hw _ (List.mem_of_getElem? (i := 28) rfl))) (notFace_of_selects (args := #[]) (mvT hZ (hw _ (List.mem_of_getElem? (i := 30) rfl)))) (mvT hZ (hw _ (List.mem_of_getElem? (i := 30) rfl))) (mvT hZ (hw _ (List.mem_of_getElem? (i := 29) rfl))) (by decide) (backOf (W := 0) (rm5 l Z a0 hw [] b6 (1 : Int32) vb t 3 _ 1 _ _ T8.heap n0 z8q rfl (by decide) (by decide) E8q Fv8q Fm8q Fa8q V8q hne g_b6 g_t) hZ (hw _ (List.mem_of_getElem? (i := 31) rfl)) (hw _ (List.mem_of_getElem? (i := 3) rfl)) (by decide) (by decide)) q9a q9c (g := (mkF m 74 #[.val (.int p1), .val (.long q2), .second, .val (.long q3), .second, .val (.long q4), .second, .val (.int (3 : Int32)), .val (.long vb), .second, .val (.long vc), .second, .val (.ref b6), .unset, .unset, .unset, .unset] [(.long vb), (.int (1 : Int32)), (.ref b6)])) rfl (by rw [hml]; rfl) (Steps.refl _) (argsL := [(.int (1 : Int32)), (.long vb)]) (rest := []) (lenOf pd_0_0 rfl) rfl (by show 2 * 0 + _ ≤ _; exact Nat.le_of_eq rfl) (hb hby at_74) (fun _ _ => ⟨rfl, rfl, (by decide : 2 + 0 ≤ _), (by decide : 6 + 0 ≤ _)⟩)
  dsimp only [Pt.U, Pt.locs, Pt.cells, Pt.slots] at X9 l9 y9 z9 st9 hQ9
  subst l9 y9 z9
  obtain ⟨rfl, N9q, K9q, E9q, Fv9q, Fm9q, Fa9q, V9q⟩ := hQ9
  have N9 := Fr.app N8 N9q
  have z9q : n0 ≤ T9.heap.size := Nat.le_trans z8q K9q.1
  obtain ⟨cq10, kq10, q10a, q10b, q10c⟩ := isOf hZ rfl E9q
  obtain ⟨_, _, ⟨T10, L10, k10, n10⟩, -, X10, ⟨Lc10, hQ10, l10, y10, z10⟩, st10⟩ := X9.virtualBack hx (y := (⟨"com/example/mullion/mullion/aggregators/FurthestBack", "moveOn", "(IJ)V"⟩ : MethodName)) (z := (⟨"com/example/mullion/mullion/aggregators/FurthestBack", "moveOn", "(IJ)V"⟩ : MethodName)) hown (mvT hZ (hw _ (List.mem_of_getElem? (i := 27) rfl))) (mvT hZ (hw _ (List.mem_of_getElem? (i := 28) rfl))) (notFace_of_selects (args := #[]) (mvT hZ (hw _ (List.mem_of_getElem? (i := 30) rfl)))) (mvT hZ (hw _ (List.mem_of_getElem? (i := 30) rfl))) (mvT hZ (hw _ (List.mem_of_getElem? (i := 29) rfl))) (by decide) (backOf (W := 0) (rm5 l Z a0 hw [] b6 (2 : Int32) vc t 3 _ 2 _ _ T9.heap n0 z9q rfl (by decide) (by decide) E9q Fv9q Fm9q Fa9q V9q hne g_b6 g_t) hZ (hw _ (List.mem_of_getElem? (i := 31) rfl)) (hw _ (List.mem_of_getElem? (i := 3) rfl)) (by decide) (by decide)) q10a q10c (g := (mkF m 88 #[.val (.int p1), .val (.long q2), .second, .val (.long q3), .second, .val (.long q4), .second, .val (.int (3 : Int32)), .val (.long vb), .second, .val (.long vc), .second, .val (.ref b6), .unset, .unset, .unset, .unset] [(.long vc), (.int (2 : Int32)), (.ref b6)])) rfl (by rw [hml]; rfl) (Steps.refl _) (argsL := [(.int (2 : Int32)), (.long vc)]) (rest := []) (lenOf pd_0_0 rfl) rfl (by show 2 * 0 + _ ≤ _; exact Nat.le_of_eq rfl) (hb hby at_88) (fun _ _ => ⟨rfl, rfl, (by decide : 2 + 0 ≤ _), (by decide : 6 + 0 ≤ _)⟩)
  dsimp only [Pt.U, Pt.locs, Pt.cells, Pt.slots] at X10 l10 y10 z10 st10 hQ10
  subst l10 y10 z10
  obtain ⟨rfl, N10q, K10q, E10q, Fv10q, Fm10q, Fa10q, V10q⟩ := hQ10
  have N10 := Fr.app N9 N10q
  have z10q : n0 ≤ T10.heap.size := Nat.le_trans z9q K10q.1
  obtain ⟨_, _, ⟨T11, L11, k11, n11⟩, -, X11, ⟨Lc11, hQ11, l11, y11, z11⟩, st11⟩ := Jvm.LawKit.callS X10 hx (y := (⟨"java/lang/Math", "min", "(JJ)J"⟩ : MethodName)) hown (mvT hZ (hw _ (List.mem_of_getElem? (i := 49) rfl))) (mvT hZ (hw _ (List.mem_of_getElem? (i := 50) rfl))) (mvT hZ (hw _ (List.mem_of_getElem? (i := 51) rfl))) (mvT hZ (hw _ (List.mem_of_getElem? (i := 52) rfl))) (by decide) (backOf (W := 0) (rm9 l Z a0 hw [] q2 vb  T10.heap n0 z10q) hZ (hw _ (List.mem_of_getElem? (i := 52) rfl)) (hw _ (List.mem_of_getElem? (i := 51) rfl)) (by decide) (by decide)) (g := (mkF m 104 #[.val (.int p1), .val (.long q2), .second, .val (.long q3), .second, .val (.long q4), .second, .val (.int (3 : Int32)), .val (.long vb), .second, .val (.long vc), .second, .val (.ref b6), .val (.long q2), .second, .unset, .unset] [(.long vb), (.long q2)])) rfl (by rw [hml]; rfl) (argsL := [(.long q2), (.long vb)]) (rest := []) (lenOf pd_0_6 rfl) rfl (by show 2 * 0 + _ ≤ _; exact Nat.le_of_eq rfl) (hb hby at_104) (fun _ _ => ⟨rfl, rfl, (by decide : 2 + 0 ≤ _), (by decide : 6 + 0 ≤ _)⟩)
  dsimp only [Pt.U, Pt.locs, Pt.cells, Pt.slots] at X11 l11 y11 z11 st11 hQ11
  subst l11 y11 z11
  obtain ⟨hv11, N11q, e11q⟩ := hQ11
  have N11 := Fr.app N10 N11q
  obtain ⟨m1, hm1⟩ : ∃ z, z = own_mn q2 vb := ⟨_, rfl⟩
  rw [← hm1] at hv11
  subst hv11
  have z11q : n0 ≤ T11.heap.size := by rw [e11q]; exact z10q
  have E11q := E10q
  rw [← e11q] at E11q
  have Fv11q := Fv10q
  rw [← e11q] at Fv11q
  have Fm11q := Fm10q
  rw [← e11q] at Fm11q
  have Fa11q := Fa10q
  rw [← e11q] at Fa11q
  have V11q := V10q
  rw [← e11q] at V11q
  obtain ⟨_, _, ⟨T12, L12, k12, n12⟩, -, X12, ⟨Lc12, hQ12, l12, y12, z12⟩, st12⟩ := Jvm.LawKit.callS X11 hx (y := (⟨"java/lang/Math", "min", "(JJ)J"⟩ : MethodName)) hown (mvT hZ (hw _ (List.mem_of_getElem? (i := 49) rfl))) (mvT hZ (hw _ (List.mem_of_getElem? (i := 50) rfl))) (mvT hZ (hw _ (List.mem_of_getElem? (i := 51) rfl))) (mvT hZ (hw _ (List.mem_of_getElem? (i := 52) rfl))) (by decide) (backOf (W := 0) (rm9 l Z a0 hw [] m1 vc  T11.heap n0 z11q) hZ (hw _ (List.mem_of_getElem? (i := 52) rfl)) (hw _ (List.mem_of_getElem? (i := 51) rfl)) (by decide) (by decide)) (g := (mkF m 119 #[.val (.int p1), .val (.long q2), .second, .val (.long q3), .second, .val (.long q4), .second, .val (.int (3 : Int32)), .val (.long vb), .second, .val (.long vc), .second, .val (.ref b6), .val (.long m1), .second, .unset, .unset] [(.long vc), (.long m1)])) rfl (by rw [hml]; rfl) (argsL := [(.long m1), (.long vc)]) (rest := []) (lenOf pd_0_6 rfl) rfl (by show 2 * 0 + _ ≤ _; exact Nat.le_of_eq rfl) (hb hby at_119) (fun _ _ => ⟨rfl, rfl, (by decide : 2 + 0 ≤ _), (by decide : 6 + 0 ≤ _)⟩)
  dsimp only [Pt.U, Pt.locs, Pt.cells, Pt.slots] at X12 l12 y12 z12 st12 hQ12
  subst l12 y12 z12
  obtain ⟨hv12, N12q, e12q⟩ := hQ12
  have N12 := Fr.app N11 N12q
  rw [hm1, ← hm] at hv12
  subst hv12
  have z12q : n0 ≤ T12.heap.size := by rw [e12q]; exact z11q
  have E12q := E11q
  rw [← e12q] at E12q
  have Fv12q := Fv11q
  rw [← e12q] at Fv12q
  have Fm12q := Fm11q
  rw [← e12q] at Fm12q
  have Fa12q := Fa11q
  rw [← e12q] at Fa12q
  have V12q := V11q
  rw [← e12q] at V12q
  obtain ⟨cq13, kq13, q13a, q13b, q13c⟩ := isOf hZ rfl E12q
  obtain ⟨_, _, ⟨T13, L13, k13, n13⟩, -, X13, ⟨Lc13, hQ13, l13, y13, z13⟩, st13⟩ := X12.virtualBack hx (y := (⟨"com/example/mullion/mullion/aggregators/FurthestBack", "findSmallest", "()J"⟩ : MethodName)) (z := (⟨"com/example/mullion/mullion/aggregators/FurthestBack", "findSmallest", "()J"⟩ : MethodName)) hown (mvT hZ (hw _ (List.mem_of_getElem? (i := 32) rfl))) (mvT hZ (hw _ (List.mem_of_getElem? (i := 33) rfl))) (notFace_of_selects (args := #[]) (mvT hZ (hw _ (List.mem_of_getElem? (i := 35) rfl)))) (mvT hZ (hw _ (List.mem_of_getElem? (i := 35) rfl))) (mvT hZ (hw _ (List.mem_of_getElem? (i := 34) rfl))) (by decide) (backOf (W := 0) (rm6 l Z a0 hw [] b6 t 3 (fun j => if j = 2 then vc else if j = 1 then vb else if j = 0 then q2 else (-9223372036854775808 : Int64)) _ _ T12.heap n0 z12q (by decide) E12q Fv12q Fm12q Fa12q V12q hne g_b6) hZ (hw _ (List.mem_of_getElem? (i := 36) rfl)) (hw _ (List.mem_of_getElem? (i := 3) rfl)) (by decide) (by decide)) q13a q13c (g := (mkF m 126 #[.val (.int p1), .val (.long q2), .second, .val (.long q3), .second, .val (.long q4), .second, .val (.int (3 : Int32)), .val (.long vb), .second, .val (.long vc), .second, .val (.ref b6), .val (.long mm), .second, .unset, .unset] [(.ref b6)])) rfl (by rw [hml]; rfl) (Steps.refl _) (argsL := []) (rest := []) (lenOf pd_0_4 rfl) rfl (by show 2 * 0 + _ ≤ _; exact Nat.le_of_eq rfl) (hb hby at_126) (fun _ _ => ⟨rfl, rfl, (by decide : 2 + 0 ≤ _), (by decide : 6 + 0 ≤ _)⟩)
  dsimp only [Pt.U, Pt.locs, Pt.cells, Pt.slots] at X13 l13 y13 z13 st13 hQ13
  subst l13 y13 z13
  obtain ⟨hv13, N13q, K13q, E13q, Fv13q, Fm13q, Fa13q, V13q⟩ := hQ13
  have N13 := Fr.app N12 N13q
  have z13q : n0 ≤ T13.heap.size := Nat.le_trans z12q K13q.1
  have hfs : own_fs (fun j => if j = 2 then vc else if j = 1 then vb else if j = 0 then q2 else (-9223372036854775808 : Int64)) 3 0 ((9223372036854775807 : Int64), (0 : Int32)) = (mm, (own_is q2 mm + own_is vb mm + own_is vc mm)) := by show own_step (own_step (own_step ((9223372036854775807 : Int64), 0) q2) vb) vc = _; rw [own_first, own_second, hm]; exact own_third q2 vb vc
  rw [hfs] at hv13
  replace hv13 : _ = some (Value.long mm) := hv13
  subst hv13
  have Gm13q : Fld Z T13.heap b6 "com/example/mullion/mullion/aggregators/FurthestBack" "mark" "J" (.long mm) := by have q := Fm13q; rw [hfs] at q; exact q
  have Ga13q : Fld Z T13.heap b6 "com/example/mullion/mullion/aggregators/FurthestBack" "atOrBelowMark" "I" (.int (own_is q2 mm + own_is vb mm + own_is vc mm)) := by have q := Fa13q; rw [hfs] at q; exact q
  obtain ⟨cq14, kq14, q14a, q14b, q14c⟩ := isOf hZ rfl E13q
  obtain ⟨_, _, ⟨T14, L14, k14, n14⟩, -, X14, ⟨Lc14, hQ14, l14, y14, z14⟩, st14⟩ := X13.virtualBack hx (y := (⟨"com/example/mullion/mullion/aggregators/FurthestBack", "mark", "()J"⟩ : MethodName)) (z := (⟨"com/example/mullion/mullion/aggregators/FurthestBack", "mark", "()J"⟩ : MethodName)) hown (mvT hZ (hw _ (List.mem_of_getElem? (i := 38) rfl))) (mvT hZ (hw _ (List.mem_of_getElem? (i := 39) rfl))) (notFace_of_selects (args := #[]) (mvT hZ (hw _ (List.mem_of_getElem? (i := 41) rfl)))) (mvT hZ (hw _ (List.mem_of_getElem? (i := 41) rfl))) (mvT hZ (hw _ (List.mem_of_getElem? (i := 40) rfl))) (by decide) (backOf (W := 0) (rm7 l Z a0 hw [] b6 mm T13.heap n0 z13q Gm13q) hZ (hw _ (List.mem_of_getElem? (i := 42) rfl)) (hw _ (List.mem_of_getElem? (i := 3) rfl)) (by decide) (by decide)) q14a q14c (g := (mkF m 143 #[.val (.int p1), .val (.long q2), .second, .val (.long q3), .second, .val (.long q4), .second, .val (.int (3 : Int32)), .val (.long vb), .second, .val (.long vc), .second, .val (.ref b6), .val (.long mm), .second, .val (.long mm), .second] [(.ref b6)])) rfl (by rw [hml]; rfl) (Steps.refl _) (argsL := []) (rest := []) (lenOf pd_0_4 rfl) rfl (by show 2 * 0 + _ ≤ _; exact Nat.le_of_eq rfl) (hb hby at_143) (fun _ _ => ⟨rfl, rfl, (by decide : 2 + 0 ≤ _), (by decide : 6 + 0 ≤ _)⟩)
  dsimp only [Pt.U, Pt.locs, Pt.cells, Pt.slots] at X14 l14 y14 z14 st14 hQ14
  subst l14 y14 z14
  obtain ⟨rfl, N14q, e14q⟩ := hQ14
  have N14 := Fr.app N13 N14q
  have z14q : n0 ≤ T14.heap.size := by rw [e14q]; exact z13q
  have E14q := E13q
  rw [← e14q] at E14q
  have Fv14q := Fv13q
  rw [← e14q] at Fv14q
  have Fm14q := Gm13q
  rw [← e14q] at Fm14q
  have Fa14q := Ga13q
  rw [← e14q] at Fa14q
  have V14q := V13q
  rw [← e14q] at V14q
  obtain ⟨cq15, kq15, q15a, q15b, q15c⟩ := isOf hZ rfl E14q
  obtain ⟨_, _, ⟨T15, L15, k15, n15⟩, -, X15, ⟨Lc15, hQ15, l15, y15, z15⟩, st15⟩ := X14.virtualBack hx (y := (⟨"com/example/mullion/mullion/aggregators/FurthestBack", "moveOn", "(IJ)V"⟩ : MethodName)) (z := (⟨"com/example/mullion/mullion/aggregators/FurthestBack", "moveOn", "(IJ)V"⟩ : MethodName)) hown (mvT hZ (hw _ (List.mem_of_getElem? (i := 27) rfl))) (mvT hZ (hw _ (List.mem_of_getElem? (i := 28) rfl))) (notFace_of_selects (args := #[]) (mvT hZ (hw _ (List.mem_of_getElem? (i := 30) rfl)))) (mvT hZ (hw _ (List.mem_of_getElem? (i := 30) rfl))) (mvT hZ (hw _ (List.mem_of_getElem? (i := 29) rfl))) (by decide) (backOf (W := 0) (rm5 l Z a0 hw [] b6 (0 : Int32) (9223372036854775807 : Int64) t 3 _ 0 _ _ T14.heap n0 z14q rfl (by decide) (by decide) E14q Fv14q Fm14q Fa14q V14q hne g_b6 g_t) hZ (hw _ (List.mem_of_getElem? (i := 31) rfl)) (hw _ (List.mem_of_getElem? (i := 3) rfl)) (by decide) (by decide)) q15a q15c (g := (mkF m 190 #[.val (.int p1), .val (.long q2), .second, .val (.long q3), .second, .val (.long q4), .second, .val (.int (3 : Int32)), .val (.long vb), .second, .val (.long vc), .second, .val (.ref b6), .val (.long mm), .second, .val (.long mm), .second] [(.long (9223372036854775807 : Int64)), (.int (0 : Int32)), (.ref b6)])) rfl (by rw [hml]; rfl) (Steps.refl _) (argsL := [(.int (0 : Int32)), (.long (9223372036854775807 : Int64))]) (rest := []) (lenOf pd_0_0 rfl) rfl (by show 2 * 0 + _ ≤ _; exact Nat.le_of_eq rfl) (hb hby at_190) (fun _ _ => ⟨rfl, rfl, (by decide : 2 + 0 ≤ _), (by decide : 6 + 0 ≤ _)⟩)
  dsimp only [Pt.U, Pt.locs, Pt.cells, Pt.slots] at X15 l15 y15 z15 st15 hQ15
  subst l15 y15 z15
  obtain ⟨rfl, N15q, K15q, E15q, Fv15q, Fm15q, Fa15q, V15q⟩ := hQ15
  have N15 := Fr.app N14 N15q
  have z15q : n0 ≤ T15.heap.size := Nat.le_trans z14q K15q.1
  have Fb15q : Fld Z T15.heap b6 "com/example/mullion/mullion/aggregators/FurthestBack" "atOrBelowMark" "I" (.int ((own_is q2 mm + own_is vb mm + own_is vc mm) - (1 : Int32))) := by
    have q : Fld Z T15.heap b6 "com/example/mullion/mullion/aggregators/FurthestBack" "atOrBelowMark" "I" (.int (own_mv q2 (9223372036854775807 : Int64) mm (own_is q2 mm + own_is vb mm + own_is vc mm))) := Fa15q
    rw [own_mv_dec (x := q2) (m := mm) h181 h160] at q
    exact q
  obtain ⟨cq16, kq16, q16a, q16b, q16c⟩ := isOf hZ rfl E15q
  obtain ⟨_, _, ⟨T16, L16, k16, n16⟩, -, X16, ⟨Lc16, hQ16, l16, y16, z16⟩, st16⟩ := X15.virtualBack hx (y := (⟨"com/example/mullion/mullion/aggregators/FurthestBack", "moveOn", "(IJ)V"⟩ : MethodName)) (z := (⟨"com/example/mullion/mullion/aggregators/FurthestBack", "moveOn", "(IJ)V"⟩ : MethodName)) hown (mvT hZ (hw _ (List.mem_of_getElem? (i := 27) rfl))) (mvT hZ (hw _ (List.mem_of_getElem? (i := 28) rfl))) (notFace_of_selects (args := #[]) (mvT hZ (hw _ (List.mem_of_getElem? (i := 30) rfl)))) (mvT hZ (hw _ (List.mem_of_getElem? (i := 30) rfl))) (mvT hZ (hw _ (List.mem_of_getElem? (i := 29) rfl))) (by decide) (backOf (W := 0) (rm5 l Z a0 hw [] b6 (2 : Int32) (9223372036854775807 : Int64) t 3 _ 2 _ _ T15.heap n0 z15q rfl (by decide) (by decide) E15q Fv15q Fm15q Fb15q V15q hne g_b6 g_t) hZ (hw _ (List.mem_of_getElem? (i := 31) rfl)) (hw _ (List.mem_of_getElem? (i := 3) rfl)) (by decide) (by decide)) q16a q16c (g := (mkF m 236 #[.val (.int p1), .val (.long q2), .second, .val (.long q3), .second, .val (.long q4), .second, .val (.int (3 : Int32)), .val (.long vb), .second, .val (.long vc), .second, .val (.ref b6), .val (.long mm), .second, .val (.long mm), .second] [(.long (9223372036854775807 : Int64)), (.int (2 : Int32)), (.ref b6)])) rfl (by rw [hml]; rfl) (Steps.refl _) (argsL := [(.int (2 : Int32)), (.long (9223372036854775807 : Int64))]) (rest := []) (lenOf pd_0_0 rfl) rfl (by show 2 * 0 + _ ≤ _; exact Nat.le_of_eq rfl) (hb hby at_236) (fun _ _ => ⟨rfl, rfl, (by decide : 2 + 0 ≤ _), (by decide : 6 + 0 ≤ _)⟩)
  dsimp only [Pt.U, Pt.locs, Pt.cells, Pt.slots] at X16 l16 y16 z16 st16 hQ16
  subst l16 y16 z16
  obtain ⟨rfl, N16q, K16q, E16q, Fv16q, Fm16q, Fa16q, V16q⟩ := hQ16
  have N16 := Fr.app N15 N16q
  have z16q : n0 ≤ T16.heap.size := Nat.le_trans z15q K16q.1
  have Fb16q : Fld Z T16.heap b6 "com/example/mullion/mullion/aggregators/FurthestBack" "atOrBelowMark" "I" (.int (((own_is q2 mm + own_is vb mm + own_is vc mm) - (1 : Int32)) - (1 : Int32))) := by
    have q : Fld Z T16.heap b6 "com/example/mullion/mullion/aggregators/FurthestBack" "atOrBelowMark" "I" (.int (own_mv vc (9223372036854775807 : Int64) mm ((own_is q2 mm + own_is vb mm + own_is vc mm) - (1 : Int32)))) := Fa16q
    rw [own_mv_dec (x := vc) (m := mm) h227 h160] at q
    exact q
  obtain ⟨cq17, kq17, q17a, q17b, q17c⟩ := isOf hZ rfl E16q
  obtain ⟨_, _, ⟨T17, L17, k17, n17⟩, -, X17, ⟨Lc17, hQ17, l17, y17, z17⟩, st17⟩ := X16.virtualBack hx (y := (⟨"com/example/mullion/mullion/aggregators/FurthestBack", "allMovedOn", "()Z"⟩ : MethodName)) (z := (⟨"com/example/mullion/mullion/aggregators/FurthestBack", "allMovedOn", "()Z"⟩ : MethodName)) hown (mvT hZ (hw _ (List.mem_of_getElem? (i := 44) rfl))) (mvT hZ (hw _ (List.mem_of_getElem? (i := 45) rfl))) (notFace_of_selects (args := #[]) (mvT hZ (hw _ (List.mem_of_getElem? (i := 47) rfl)))) (mvT hZ (hw _ (List.mem_of_getElem? (i := 47) rfl))) (mvT hZ (hw _ (List.mem_of_getElem? (i := 46) rfl))) (by decide) (backOf (W := 0) (rm8_f l Z a0 hw [] b6 (((own_is q2 mm + own_is vb mm + own_is vc mm) - (1 : Int32)) - (1 : Int32)) T16.heap n0 z16q Fb16q (by unfold own_is; rw [if_pos h181, if_neg h204, if_pos h227]; decide)) hZ (hw _ (List.mem_of_getElem? (i := 48) rfl)) (hw _ (List.mem_of_getElem? (i := 3) rfl)) (by decide) (by decide)) q17a q17c (g := (mkF m 241 #[.val (.int p1), .val (.long q2), .second, .val (.long q3), .second, .val (.long q4), .second, .val (.int (3 : Int32)), .val (.long vb), .second, .val (.long vc), .second, .val (.ref b6), .val (.long mm), .second, .val (.long mm), .second] [(.ref b6)])) rfl (by rw [hml]; rfl) (Steps.refl _) (argsL := []) (rest := []) (lenOf pd_0_5 rfl) rfl (by show 2 * 0 + _ ≤ _; exact Nat.le_of_eq rfl) (hb hby at_241) (fun _ _ => ⟨rfl, rfl, (by decide : 2 + 0 ≤ _), (by decide : 6 + 0 ≤ _)⟩)
  dsimp only [Pt.U, Pt.locs, Pt.cells, Pt.slots] at X17 l17 y17 z17 st17 hQ17
  subst l17 y17 z17
  obtain ⟨rfl, N17q, e17q⟩ := hQ17
  have N17 := Fr.app N16 N17q
  have z17q : n0 ≤ T17.heap.size := by rw [e17q]; exact z16q
  have E17q := E16q
  rw [← e17q] at E17q
  have Fv17q := Fv16q
  rw [← e17q] at Fv17q
  have Fm17q := Fm16q
  rw [← e17q] at Fm17q
  have Fa17q := Fb16q
  rw [← e17q] at Fa17q
  have V17q := V16q
  rw [← e17q] at V17q
  obtain ⟨fs, hr, hrun, hended, hW, hsame⟩ := X17.leave (v := some (.int (1 : Int32))) (fun h => by rw [Bd.returns] at h; cases h)
  refine ⟨_, _, pre0 _ ?_, hrun, hended, _, _, rfl, ?_, ⟨_, rfl⟩, hW, hsame.mono (by decide) (by decide)⟩
  · show Steps p.tables e below (s₁.setTop (mkF m 0 #[.val (.int p1), .val (.long q2), .second, .val (.long q3), .second, .val (.long q4), .second, .unset, .unset, .unset, .unset, .unset, .unset, .unset, .unset, .unset, .unset] [])) _
    refine st5 _ ?_
    show Steps p.tables e below (T5.setTop (mkF m 42 #[.val (.int p1), .val (.long q2), .second, .val (.long q3), .second, .val (.long q4), .second, .val (.int (3 : Int32)), .val (.long vb), .second, .val (.long vc), .second, .unset, .unset, .unset, .unset, .unset] [])) _
    refine st6 _ ?_
    show Steps p.tables e below (T6.setTop (mkF m 45 #[.val (.int p1), .val (.long q2), .second, .val (.long q3), .second, .val (.long q4), .second, .val (.int (3 : Int32)), .val (.long vb), .second, .val (.long vc), .second, .unset, .unset, .unset, .unset, .unset] [(.ref b6)])) _
    refine XS.dup X6.here hx rfl (hb hby at_45) rfl rfl ?_
    show Steps p.tables e below (T6.setTop (mkF m 46 #[.val (.int p1), .val (.long q2), .second, .val (.long q3), .second, .val (.long q4), .second, .val (.int (3 : Int32)), .val (.long vb), .second, .val (.long vc), .second, .unset, .unset, .unset, .unset, .unset] [(.ref b6), (.ref b6)])) _
    refine XS.iload X6.here hx rfl (hb hby at_46) rfl ?_
    show Steps p.tables e below (T6.setTop (mkF m 48 #[.val (.int p1), .val (.long q2), .second, .val (.long q3), .second, .val (.long q4), .second, .val (.int (3 : Int32)), .val (.long vb), .second, .val (.long vc), .second, .unset, .unset, .unset, .unset, .unset] [(.int (3 : Int32)), (.ref b6), (.ref b6)])) _
    refine X6.ldc2Long hx hown (mvT hZ (hw _ (List.mem_of_getElem? (i := 4) rfl))) (g := (mkF m 48 #[.val (.int p1), .val (.long q2), .second, .val (.long q3), .second, .val (.long q4), .second, .val (.int (3 : Int32)), .val (.long vb), .second, .val (.long vc), .second, .unset, .unset, .unset, .unset, .unset] [(.int (3 : Int32)), (.ref b6), (.ref b6)])) rfl (hb hby at_48) _ ?_
    show Steps p.tables e below (T6.setTop (mkF m 51 #[.val (.int p1), .val (.long q2), .second, .val (.long q3), .second, .val (.long q4), .second, .val (.int (3 : Int32)), .val (.long vb), .second, .val (.long vc), .second, .unset, .unset, .unset, .unset, .unset] [(.long (-9223372036854775808 : Int64)), (.int (3 : Int32)), (.ref b6), (.ref b6)])) _
    refine st7.trans ?_
    show Steps p.tables e below (T7.setTop (mkF m 54 #[.val (.int p1), .val (.long q2), .second, .val (.long q3), .second, .val (.long q4), .second, .val (.int (3 : Int32)), .val (.long vb), .second, .val (.long vc), .second, .unset, .unset, .unset, .unset, .unset] [(.ref b6)])) _
    refine XS.astore X7.here hx rfl (hb hby at_54) rfl rfl (l' := #[.val (.int p1), .val (.long q2), .second, .val (.long q3), .second, .val (.long q4), .second, .val (.int (3 : Int32)), .val (.long vb), .second, .val (.long vc), .second, .val (.ref b6), .unset, .unset, .unset, .unset]) rfl ?_
    show Steps p.tables e below (T7.setTop (mkF m 56 #[.val (.int p1), .val (.long q2), .second, .val (.long q3), .second, .val (.long q4), .second, .val (.int (3 : Int32)), .val (.long vb), .second, .val (.long vc), .second, .val (.ref b6), .unset, .unset, .unset, .unset] [])) _
    refine XS.aload X7.here hx rfl (hb hby at_56) rfl rfl ?_
    show Steps p.tables e below (T7.setTop (mkF m 58 #[.val (.int p1), .val (.long q2), .second, .val (.long q3), .second, .val (.long q4), .second, .val (.int (3 : Int32)), .val (.long vb), .second, .val (.long vc), .second, .val (.ref b6), .unset, .unset, .unset, .unset] [(.ref b6)])) _
    refine XS.iconst X7.here hx rfl (hb hby at_58) ?_
    show Steps p.tables e below (T7.setTop (mkF m 59 #[.val (.int p1), .val (.long q2), .second, .val (.long q3), .second, .val (.long q4), .second, .val (.int (3 : Int32)), .val (.long vb), .second, .val (.long vc), .second, .val (.ref b6), .unset, .unset, .unset, .unset] [(.int (0 : Int32)), (.ref b6)])) _
    refine XS.lloadN X7.here hx rfl (hb hby at_59) rfl ?_
    show Steps p.tables e below (T7.setTop (mkF m 60 #[.val (.int p1), .val (.long q2), .second, .val (.long q3), .second, .val (.long q4), .second, .val (.int (3 : Int32)), .val (.long vb), .second, .val (.long vc), .second, .val (.ref b6), .unset, .unset, .unset, .unset] [(.long q2), (.int (0 : Int32)), (.ref b6)])) _
    refine st8.trans ?_
    show Steps p.tables e below (T8.setTop (mkF m 63 #[.val (.int p1), .val (.long q2), .second, .val (.long q3), .second, .val (.long q4), .second, .val (.int (3 : Int32)), .val (.long vb), .second, .val (.long vc), .second, .val (.ref b6), .unset, .unset, .unset, .unset] [])) _
    refine XS.iload X8.here hx rfl (hb hby at_63) rfl ?_
    show Steps p.tables e below (T8.setTop (mkF m 65 #[.val (.int p1), .val (.long q2), .second, .val (.long q3), .second, .val (.long q4), .second, .val (.int (3 : Int32)), .val (.long vb), .second, .val (.long vc), .second, .val (.ref b6), .unset, .unset, .unset, .unset] [(.int (3 : Int32))])) _
    refine XS.iconst X8.here hx rfl (hb hby at_65) ?_
    show Steps p.tables e below (T8.setTop (mkF m 66 #[.val (.int p1), .val (.long q2), .second, .val (.long q3), .second, .val (.long q4), .second, .val (.int (3 : Int32)), .val (.long vb), .second, .val (.long vc), .second, .val (.ref b6), .unset, .unset, .unset, .unset] [(.int (2 : Int32)), (.int (3 : Int32))])) _
    refine XS.icmpNo X8.here hx rfl (hb hby at_66) rfl (flt hc66).1 ?_
    show Steps p.tables e below (T8.setTop (mkF m 69 #[.val (.int p1), .val (.long q2), .second, .val (.long q3), .second, .val (.long q4), .second, .val (.int (3 : Int32)), .val (.long vb), .second, .val (.long vc), .second, .val (.ref b6), .unset, .unset, .unset, .unset] [])) _
    refine XS.aload X8.here hx rfl (hb hby at_69) rfl rfl ?_
    show Steps p.tables e below (T8.setTop (mkF m 71 #[.val (.int p1), .val (.long q2), .second, .val (.long q3), .second, .val (.long q4), .second, .val (.int (3 : Int32)), .val (.long vb), .second, .val (.long vc), .second, .val (.ref b6), .unset, .unset, .unset, .unset] [(.ref b6)])) _
    refine XS.iconst X8.here hx rfl (hb hby at_71) ?_
    show Steps p.tables e below (T8.setTop (mkF m 72 #[.val (.int p1), .val (.long q2), .second, .val (.long q3), .second, .val (.long q4), .second, .val (.int (3 : Int32)), .val (.long vb), .second, .val (.long vc), .second, .val (.ref b6), .unset, .unset, .unset, .unset] [(.int (1 : Int32)), (.ref b6)])) _
    refine XS.lload X8.here hx rfl (hb hby at_72) rfl ?_
    show Steps p.tables e below (T8.setTop (mkF m 74 #[.val (.int p1), .val (.long q2), .second, .val (.long q3), .second, .val (.long q4), .second, .val (.int (3 : Int32)), .val (.long vb), .second, .val (.long vc), .second, .val (.ref b6), .unset, .unset, .unset, .unset] [(.long vb), (.int (1 : Int32)), (.ref b6)])) _
    refine st9.trans ?_
    show Steps p.tables e below (T9.setTop (mkF m 77 #[.val (.int p1), .val (.long q2), .second, .val (.long q3), .second, .val (.long q4), .second, .val (.int (3 : Int32)), .val (.long vb), .second, .val (.long vc), .second, .val (.ref b6), .unset, .unset, .unset, .unset] [])) _
    refine XS.iload X9.here hx rfl (hb hby at_77) rfl ?_
    show Steps p.tables e below (T9.setTop (mkF m 79 #[.val (.int p1), .val (.long q2), .second, .val (.long q3), .second, .val (.long q4), .second, .val (.int (3 : Int32)), .val (.long vb), .second, .val (.long vc), .second, .val (.ref b6), .unset, .unset, .unset, .unset] [(.int (3 : Int32))])) _
    refine XS.iconst X9.here hx rfl (hb hby at_79) ?_
    show Steps p.tables e below (T9.setTop (mkF m 80 #[.val (.int p1), .val (.long q2), .second, .val (.long q3), .second, .val (.long q4), .second, .val (.int (3 : Int32)), .val (.long vb), .second, .val (.long vc), .second, .val (.ref b6), .unset, .unset, .unset, .unset] [(.int (3 : Int32)), (.int (3 : Int32))])) _
    refine XS.icmpNo X9.here hx rfl (hb hby at_80) rfl (flt hc80).1 ?_
    show Steps p.tables e below (T9.setTop (mkF m 83 #[.val (.int p1), .val (.long q2), .second, .val (.long q3), .second, .val (.long q4), .second, .val (.int (3 : Int32)), .val (.long vb), .second, .val (.long vc), .second, .val (.ref b6), .unset, .unset, .unset, .unset] [])) _
    refine XS.aload X9.here hx rfl (hb hby at_83) rfl rfl ?_
    show Steps p.tables e below (T9.setTop (mkF m 85 #[.val (.int p1), .val (.long q2), .second, .val (.long q3), .second, .val (.long q4), .second, .val (.int (3 : Int32)), .val (.long vb), .second, .val (.long vc), .second, .val (.ref b6), .unset, .unset, .unset, .unset] [(.ref b6)])) _
    refine XS.iconst X9.here hx rfl (hb hby at_85) ?_
    show Steps p.tables e below (T9.setTop (mkF m 86 #[.val (.int p1), .val (.long q2), .second, .val (.long q3), .second, .val (.long q4), .second, .val (.int (3 : Int32)), .val (.long vb), .second, .val (.long vc), .second, .val (.ref b6), .unset, .unset, .unset, .unset] [(.int (2 : Int32)), (.ref b6)])) _
    refine XS.lload X9.here hx rfl (hb hby at_86) rfl ?_
    show Steps p.tables e below (T9.setTop (mkF m 88 #[.val (.int p1), .val (.long q2), .second, .val (.long q3), .second, .val (.long q4), .second, .val (.int (3 : Int32)), .val (.long vb), .second, .val (.long vc), .second, .val (.ref b6), .unset, .unset, .unset, .unset] [(.long vc), (.int (2 : Int32)), (.ref b6)])) _
    refine st10.trans ?_
    show Steps p.tables e below (T10.setTop (mkF m 91 #[.val (.int p1), .val (.long q2), .second, .val (.long q3), .second, .val (.long q4), .second, .val (.int (3 : Int32)), .val (.long vb), .second, .val (.long vc), .second, .val (.ref b6), .unset, .unset, .unset, .unset] [])) _
    refine XS.lloadN X10.here hx rfl (hb hby at_91) rfl ?_
    show Steps p.tables e below (T10.setTop (mkF m 92 #[.val (.int p1), .val (.long q2), .second, .val (.long q3), .second, .val (.long q4), .second, .val (.int (3 : Int32)), .val (.long vb), .second, .val (.long vc), .second, .val (.ref b6), .unset, .unset, .unset, .unset] [(.long q2)])) _
    refine XS.lstore X10.here hx rfl (hb hby at_92) rfl (l' := #[.val (.int p1), .val (.long q2), .second, .val (.long q3), .second, .val (.long q4), .second, .val (.int (3 : Int32)), .val (.long vb), .second, .val (.long vc), .second, .val (.ref b6), .val (.long q2), .second, .unset, .unset]) rfl ?_
    show Steps p.tables e below (T10.setTop (mkF m 94 #[.val (.int p1), .val (.long q2), .second, .val (.long q3), .second, .val (.long q4), .second, .val (.int (3 : Int32)), .val (.long vb), .second, .val (.long vc), .second, .val (.ref b6), .val (.long q2), .second, .unset, .unset] [])) _
    refine XS.iload X10.here hx rfl (hb hby at_94) rfl ?_
    show Steps p.tables e below (T10.setTop (mkF m 96 #[.val (.int p1), .val (.long q2), .second, .val (.long q3), .second, .val (.long q4), .second, .val (.int (3 : Int32)), .val (.long vb), .second, .val (.long vc), .second, .val (.ref b6), .val (.long q2), .second, .unset, .unset] [(.int (3 : Int32))])) _
    refine XS.iconst X10.here hx rfl (hb hby at_96) ?_
    show Steps p.tables e below (T10.setTop (mkF m 97 #[.val (.int p1), .val (.long q2), .second, .val (.long q3), .second, .val (.long q4), .second, .val (.int (3 : Int32)), .val (.long vb), .second, .val (.long vc), .second, .val (.ref b6), .val (.long q2), .second, .unset, .unset] [(.int (2 : Int32)), (.int (3 : Int32))])) _
    refine XS.icmpNo X10.here hx rfl (hb hby at_97) rfl (flt hc97).1 ?_
    show Steps p.tables e below (T10.setTop (mkF m 100 #[.val (.int p1), .val (.long q2), .second, .val (.long q3), .second, .val (.long q4), .second, .val (.int (3 : Int32)), .val (.long vb), .second, .val (.long vc), .second, .val (.ref b6), .val (.long q2), .second, .unset, .unset] [])) _
    refine XS.lload X10.here hx rfl (hb hby at_100) rfl ?_
    show Steps p.tables e below (T10.setTop (mkF m 102 #[.val (.int p1), .val (.long q2), .second, .val (.long q3), .second, .val (.long q4), .second, .val (.int (3 : Int32)), .val (.long vb), .second, .val (.long vc), .second, .val (.ref b6), .val (.long q2), .second, .unset, .unset] [(.long q2)])) _
    refine XS.lload X10.here hx rfl (hb hby at_102) rfl ?_
    show Steps p.tables e below (T10.setTop (mkF m 104 #[.val (.int p1), .val (.long q2), .second, .val (.long q3), .second, .val (.long q4), .second, .val (.int (3 : Int32)), .val (.long vb), .second, .val (.long vc), .second, .val (.ref b6), .val (.long q2), .second, .unset, .unset] [(.long vb), (.long q2)])) _
    refine st11 _ ?_
    show Steps p.tables e below (T11.setTop (mkF m 107 #[.val (.int p1), .val (.long q2), .second, .val (.long q3), .second, .val (.long q4), .second, .val (.int (3 : Int32)), .val (.long vb), .second, .val (.long vc), .second, .val (.ref b6), .val (.long q2), .second, .unset, .unset] [(.long m1)])) _
    refine XS.lstore X11.here hx rfl (hb hby at_107) rfl (l' := #[.val (.int p1), .val (.long q2), .second, .val (.long q3), .second, .val (.long q4), .second, .val (.int (3 : Int32)), .val (.long vb), .second, .val (.long vc), .second, .val (.ref b6), .val (.long m1), .second, .unset, .unset]) rfl ?_
    show Steps p.tables e below (T11.setTop (mkF m 109 #[.val (.int p1), .val (.long q2), .second, .val (.long q3), .second, .val (.long q4), .second, .val (.int (3 : Int32)), .val (.long vb), .second, .val (.long vc), .second, .val (.ref b6), .val (.long m1), .second, .unset, .unset] [])) _
    refine XS.iload X11.here hx rfl (hb hby at_109) rfl ?_
    show Steps p.tables e below (T11.setTop (mkF m 111 #[.val (.int p1), .val (.long q2), .second, .val (.long q3), .second, .val (.long q4), .second, .val (.int (3 : Int32)), .val (.long vb), .second, .val (.long vc), .second, .val (.ref b6), .val (.long m1), .second, .unset, .unset] [(.int (3 : Int32))])) _
    refine XS.iconst X11.here hx rfl (hb hby at_111) ?_
    show Steps p.tables e below (T11.setTop (mkF m 112 #[.val (.int p1), .val (.long q2), .second, .val (.long q3), .second, .val (.long q4), .second, .val (.int (3 : Int32)), .val (.long vb), .second, .val (.long vc), .second, .val (.ref b6), .val (.long m1), .second, .unset, .unset] [(.int (3 : Int32)), (.int (3 : Int32))])) _
    refine XS.icmpNo X11.here hx rfl (hb hby at_112) rfl (flt hc112).1 ?_
    show Steps p.tables e below (T11.setTop (mkF m 115 #[.val (.int p1), .val (.long q2), .second, .val (.long q3), .second, .val (.long q4), .second, .val (.int (3 : Int32)), .val (.long vb), .second, .val (.long vc), .second, .val (.ref b6), .val (.long m1), .second, .unset, .unset] [])) _
    refine XS.lload X11.here hx rfl (hb hby at_115) rfl ?_
    show Steps p.tables e below (T11.setTop (mkF m 117 #[.val (.int p1), .val (.long q2), .second, .val (.long q3), .second, .val (.long q4), .second, .val (.int (3 : Int32)), .val (.long vb), .second, .val (.long vc), .second, .val (.ref b6), .val (.long m1), .second, .unset, .unset] [(.long m1)])) _
    refine XS.lload X11.here hx rfl (hb hby at_117) rfl ?_
    show Steps p.tables e below (T11.setTop (mkF m 119 #[.val (.int p1), .val (.long q2), .second, .val (.long q3), .second, .val (.long q4), .second, .val (.int (3 : Int32)), .val (.long vb), .second, .val (.long vc), .second, .val (.ref b6), .val (.long m1), .second, .unset, .unset] [(.long vc), (.long m1)])) _
    refine st12 _ ?_
    show Steps p.tables e below (T12.setTop (mkF m 122 #[.val (.int p1), .val (.long q2), .second, .val (.long q3), .second, .val (.long q4), .second, .val (.int (3 : Int32)), .val (.long vb), .second, .val (.long vc), .second, .val (.ref b6), .val (.long m1), .second, .unset, .unset] [(.long mm)])) _
    refine XS.lstore X12.here hx rfl (hb hby at_122) rfl (l' := #[.val (.int p1), .val (.long q2), .second, .val (.long q3), .second, .val (.long q4), .second, .val (.int (3 : Int32)), .val (.long vb), .second, .val (.long vc), .second, .val (.ref b6), .val (.long mm), .second, .unset, .unset]) rfl ?_
    show Steps p.tables e below (T12.setTop (mkF m 124 #[.val (.int p1), .val (.long q2), .second, .val (.long q3), .second, .val (.long q4), .second, .val (.int (3 : Int32)), .val (.long vb), .second, .val (.long vc), .second, .val (.ref b6), .val (.long mm), .second, .unset, .unset] [])) _
    refine XS.aload X12.here hx rfl (hb hby at_124) rfl rfl ?_
    show Steps p.tables e below (T12.setTop (mkF m 126 #[.val (.int p1), .val (.long q2), .second, .val (.long q3), .second, .val (.long q4), .second, .val (.int (3 : Int32)), .val (.long vb), .second, .val (.long vc), .second, .val (.ref b6), .val (.long mm), .second, .unset, .unset] [(.ref b6)])) _
    refine st13.trans ?_
    show Steps p.tables e below (T13.setTop (mkF m 129 #[.val (.int p1), .val (.long q2), .second, .val (.long q3), .second, .val (.long q4), .second, .val (.int (3 : Int32)), .val (.long vb), .second, .val (.long vc), .second, .val (.ref b6), .val (.long mm), .second, .unset, .unset] [(.long mm)])) _
    refine XS.lstore X13.here hx rfl (hb hby at_129) rfl (l' := #[.val (.int p1), .val (.long q2), .second, .val (.long q3), .second, .val (.long q4), .second, .val (.int (3 : Int32)), .val (.long vb), .second, .val (.long vc), .second, .val (.ref b6), .val (.long mm), .second, .val (.long mm), .second]) rfl ?_
    show Steps p.tables e below (T13.setTop (mkF m 131 #[.val (.int p1), .val (.long q2), .second, .val (.long q3), .second, .val (.long q4), .second, .val (.int (3 : Int32)), .val (.long vb), .second, .val (.long vc), .second, .val (.ref b6), .val (.long mm), .second, .val (.long mm), .second] [])) _
    refine XS.lload X13.here hx rfl (hb hby at_131) rfl ?_
    show Steps p.tables e below (T13.setTop (mkF m 133 #[.val (.int p1), .val (.long q2), .second, .val (.long q3), .second, .val (.long q4), .second, .val (.int (3 : Int32)), .val (.long vb), .second, .val (.long vc), .second, .val (.ref b6), .val (.long mm), .second, .val (.long mm), .second] [(.long mm)])) _
    refine XS.lload X13.here hx rfl (hb hby at_133) rfl ?_
    show Steps p.tables e below (T13.setTop (mkF m 135 #[.val (.int p1), .val (.long q2), .second, .val (.long q3), .second, .val (.long q4), .second, .val (.int (3 : Int32)), .val (.long vb), .second, .val (.long vc), .second, .val (.ref b6), .val (.long mm), .second, .val (.long mm), .second] [(.long mm), (.long mm)])) _
    refine XS.lcmp X13.here hx rfl (hb hby at_135) rfl ?_
    show Steps p.tables e below (T13.setTop (mkF m 136 #[.val (.int p1), .val (.long q2), .second, .val (.long q3), .second, .val (.long q4), .second, .val (.int (3 : Int32)), .val (.long vb), .second, .val (.long vc), .second, .val (.ref b6), .val (.long mm), .second, .val (.long mm), .second] [(.int (lcmpW mm mm))])) _
    refine XS.ifYes X13.here hx rfl (pc0 := 136) (pc' := 141) rfl (hb hby at_136) rfl ((if0 _ _).trans (teq (((lw_eq _ _).mpr rfl) : (lcmpW mm mm) = (0 : Int32))).1) (by decide) (by decide) ?_
    show Steps p.tables e below (T13.setTop (mkF m 141 #[.val (.int p1), .val (.long q2), .second, .val (.long q3), .second, .val (.long q4), .second, .val (.int (3 : Int32)), .val (.long vb), .second, .val (.long vc), .second, .val (.ref b6), .val (.long mm), .second, .val (.long mm), .second] [])) _
    refine XS.aload X13.here hx rfl (hb hby at_141) rfl rfl ?_
    show Steps p.tables e below (T13.setTop (mkF m 143 #[.val (.int p1), .val (.long q2), .second, .val (.long q3), .second, .val (.long q4), .second, .val (.int (3 : Int32)), .val (.long vb), .second, .val (.long vc), .second, .val (.ref b6), .val (.long mm), .second, .val (.long mm), .second] [(.ref b6)])) _
    refine st14.trans ?_
    show Steps p.tables e below (T14.setTop (mkF m 146 #[.val (.int p1), .val (.long q2), .second, .val (.long q3), .second, .val (.long q4), .second, .val (.int (3 : Int32)), .val (.long vb), .second, .val (.long vc), .second, .val (.ref b6), .val (.long mm), .second, .val (.long mm), .second] [(.long mm)])) _
    refine XS.lload X14.here hx rfl (hb hby at_146) rfl ?_
    show Steps p.tables e below (T14.setTop (mkF m 148 #[.val (.int p1), .val (.long q2), .second, .val (.long q3), .second, .val (.long q4), .second, .val (.int (3 : Int32)), .val (.long vb), .second, .val (.long vc), .second, .val (.ref b6), .val (.long mm), .second, .val (.long mm), .second] [(.long mm), (.long mm)])) _
    refine XS.lcmp X14.here hx rfl (hb hby at_148) rfl ?_
    show Steps p.tables e below (T14.setTop (mkF m 149 #[.val (.int p1), .val (.long q2), .second, .val (.long q3), .second, .val (.long q4), .second, .val (.int (3 : Int32)), .val (.long vb), .second, .val (.long vc), .second, .val (.ref b6), .val (.long mm), .second, .val (.long mm), .second] [(.int (lcmpW mm mm))])) _
    refine XS.ifYes X14.here hx rfl (pc0 := 149) (pc' := 154) rfl (hb hby at_149) rfl ((if0 _ _).trans (teq (((lw_eq _ _).mpr rfl) : (lcmpW mm mm) = (0 : Int32))).1) (by decide) (by decide) ?_
    show Steps p.tables e below (T14.setTop (mkF m 154 #[.val (.int p1), .val (.long q2), .second, .val (.long q3), .second, .val (.long q4), .second, .val (.int (3 : Int32)), .val (.long vb), .second, .val (.long vc), .second, .val (.ref b6), .val (.long mm), .second, .val (.long mm), .second] [])) _
    refine XS.lload X14.here hx rfl (hb hby at_154) rfl ?_
    show Steps p.tables e below (T14.setTop (mkF m 156 #[.val (.int p1), .val (.long q2), .second, .val (.long q3), .second, .val (.long q4), .second, .val (.int (3 : Int32)), .val (.long vb), .second, .val (.long vc), .second, .val (.ref b6), .val (.long mm), .second, .val (.long mm), .second] [(.long mm)])) _
    refine X14.ldc2Long hx hown (mvT hZ (hw _ (List.mem_of_getElem? (i := 43) rfl))) (g := (mkF m 156 #[.val (.int p1), .val (.long q2), .second, .val (.long q3), .second, .val (.long q4), .second, .val (.int (3 : Int32)), .val (.long vb), .second, .val (.long vc), .second, .val (.ref b6), .val (.long mm), .second, .val (.long mm), .second] [(.long mm)])) rfl (hb hby at_156) _ ?_
    show Steps p.tables e below (T14.setTop (mkF m 159 #[.val (.int p1), .val (.long q2), .second, .val (.long q3), .second, .val (.long q4), .second, .val (.int (3 : Int32)), .val (.long vb), .second, .val (.long vc), .second, .val (.ref b6), .val (.long mm), .second, .val (.long mm), .second] [(.long (9223372036854775807 : Int64)), (.long mm)])) _
    refine XS.lcmp X14.here hx rfl (hb hby at_159) rfl ?_
    show Steps p.tables e below (T14.setTop (mkF m 160 #[.val (.int p1), .val (.long q2), .second, .val (.long q3), .second, .val (.long q4), .second, .val (.int (3 : Int32)), .val (.long vb), .second, .val (.long vc), .second, .val (.ref b6), .val (.long mm), .second, .val (.long mm), .second] [(.int (lcmpW mm (9223372036854775807 : Int64)))])) _
    refine XS.ifYes X14.here hx rfl (pc0 := 160) (pc' := 177) rfl (hb hby at_160) rfl ((if0 _ _).trans (feq ((fun q => h160 ((lw_eq _ _).mp q)) : ¬ ((lcmpW mm (9223372036854775807 : Int64)) = (0 : Int32)))).2) (by decide) (by decide) ?_
    show Steps p.tables e below (T14.setTop (mkF m 177 #[.val (.int p1), .val (.long q2), .second, .val (.long q3), .second, .val (.long q4), .second, .val (.int (3 : Int32)), .val (.long vb), .second, .val (.long vc), .second, .val (.ref b6), .val (.long mm), .second, .val (.long mm), .second] [])) _
    refine XS.lloadN X14.here hx rfl (hb hby at_177) rfl ?_
    show Steps p.tables e below (T14.setTop (mkF m 178 #[.val (.int p1), .val (.long q2), .second, .val (.long q3), .second, .val (.long q4), .second, .val (.int (3 : Int32)), .val (.long vb), .second, .val (.long vc), .second, .val (.ref b6), .val (.long mm), .second, .val (.long mm), .second] [(.long q2)])) _
    refine XS.lload X14.here hx rfl (hb hby at_178) rfl ?_
    show Steps p.tables e below (T14.setTop (mkF m 180 #[.val (.int p1), .val (.long q2), .second, .val (.long q3), .second, .val (.long q4), .second, .val (.int (3 : Int32)), .val (.long vb), .second, .val (.long vc), .second, .val (.ref b6), .val (.long mm), .second, .val (.long mm), .second] [(.long mm), (.long q2)])) _
    refine XS.lcmp X14.here hx rfl (hb hby at_180) rfl ?_
    show Steps p.tables e below (T14.setTop (mkF m 181 #[.val (.int p1), .val (.long q2), .second, .val (.long q3), .second, .val (.long q4), .second, .val (.int (3 : Int32)), .val (.long vb), .second, .val (.long vc), .second, .val (.ref b6), .val (.long mm), .second, .val (.long mm), .second] [(.int (lcmpW q2 mm))])) _
    refine XS.ifNo X14.here hx rfl (hb hby at_181) rfl ((if0 _ _).trans (teq (((lw_eq _ _).mpr h181) : (lcmpW q2 mm) = (0 : Int32))).2) ?_
    show Steps p.tables e below (T14.setTop (mkF m 184 #[.val (.int p1), .val (.long q2), .second, .val (.long q3), .second, .val (.long q4), .second, .val (.int (3 : Int32)), .val (.long vb), .second, .val (.long vc), .second, .val (.ref b6), .val (.long mm), .second, .val (.long mm), .second] [])) _
    refine XS.aload X14.here hx rfl (hb hby at_184) rfl rfl ?_
    show Steps p.tables e below (T14.setTop (mkF m 186 #[.val (.int p1), .val (.long q2), .second, .val (.long q3), .second, .val (.long q4), .second, .val (.int (3 : Int32)), .val (.long vb), .second, .val (.long vc), .second, .val (.ref b6), .val (.long mm), .second, .val (.long mm), .second] [(.ref b6)])) _
    refine XS.iconst X14.here hx rfl (hb hby at_186) ?_
    show Steps p.tables e below (T14.setTop (mkF m 187 #[.val (.int p1), .val (.long q2), .second, .val (.long q3), .second, .val (.long q4), .second, .val (.int (3 : Int32)), .val (.long vb), .second, .val (.long vc), .second, .val (.ref b6), .val (.long mm), .second, .val (.long mm), .second] [(.int (0 : Int32)), (.ref b6)])) _
    refine X14.ldc2Long hx hown (mvT hZ (hw _ (List.mem_of_getElem? (i := 43) rfl))) (g := (mkF m 187 #[.val (.int p1), .val (.long q2), .second, .val (.long q3), .second, .val (.long q4), .second, .val (.int (3 : Int32)), .val (.long vb), .second, .val (.long vc), .second, .val (.ref b6), .val (.long mm), .second, .val (.long mm), .second] [(.int (0 : Int32)), (.ref b6)])) rfl (hb hby at_187) _ ?_
    show Steps p.tables e below (T14.setTop (mkF m 190 #[.val (.int p1), .val (.long q2), .second, .val (.long q3), .second, .val (.long q4), .second, .val (.int (3 : Int32)), .val (.long vb), .second, .val (.long vc), .second, .val (.ref b6), .val (.long mm), .second, .val (.long mm), .second] [(.long (9223372036854775807 : Int64)), (.int (0 : Int32)), (.ref b6)])) _
    refine st15.trans ?_
    show Steps p.tables e below (T15.setTop (mkF m 193 #[.val (.int p1), .val (.long q2), .second, .val (.long q3), .second, .val (.long q4), .second, .val (.int (3 : Int32)), .val (.long vb), .second, .val (.long vc), .second, .val (.ref b6), .val (.long mm), .second, .val (.long mm), .second] [])) _
    refine XS.iload X15.here hx rfl (hb hby at_193) rfl ?_
    show Steps p.tables e below (T15.setTop (mkF m 195 #[.val (.int p1), .val (.long q2), .second, .val (.long q3), .second, .val (.long q4), .second, .val (.int (3 : Int32)), .val (.long vb), .second, .val (.long vc), .second, .val (.ref b6), .val (.long mm), .second, .val (.long mm), .second] [(.int (3 : Int32))])) _
    refine XS.iconst X15.here hx rfl (hb hby at_195) ?_
    show Steps p.tables e below (T15.setTop (mkF m 196 #[.val (.int p1), .val (.long q2), .second, .val (.long q3), .second, .val (.long q4), .second, .val (.int (3 : Int32)), .val (.long vb), .second, .val (.long vc), .second, .val (.ref b6), .val (.long mm), .second, .val (.long mm), .second] [(.int (2 : Int32)), (.int (3 : Int32))])) _
    refine XS.icmpNo X15.here hx rfl (hb hby at_196) rfl (flt hc196).1 ?_
    show Steps p.tables e below (T15.setTop (mkF m 199 #[.val (.int p1), .val (.long q2), .second, .val (.long q3), .second, .val (.long q4), .second, .val (.int (3 : Int32)), .val (.long vb), .second, .val (.long vc), .second, .val (.ref b6), .val (.long mm), .second, .val (.long mm), .second] [])) _
    refine XS.lload X15.here hx rfl (hb hby at_199) rfl ?_
    show Steps p.tables e below (T15.setTop (mkF m 201 #[.val (.int p1), .val (.long q2), .second, .val (.long q3), .second, .val (.long q4), .second, .val (.int (3 : Int32)), .val (.long vb), .second, .val (.long vc), .second, .val (.ref b6), .val (.long mm), .second, .val (.long mm), .second] [(.long vb)])) _
    refine XS.lload X15.here hx rfl (hb hby at_201) rfl ?_
    show Steps p.tables e below (T15.setTop (mkF m 203 #[.val (.int p1), .val (.long q2), .second, .val (.long q3), .second, .val (.long q4), .second, .val (.int (3 : Int32)), .val (.long vb), .second, .val (.long vc), .second, .val (.ref b6), .val (.long mm), .second, .val (.long mm), .second] [(.long mm), (.long vb)])) _
    refine XS.lcmp X15.here hx rfl (hb hby at_203) rfl ?_
    show Steps p.tables e below (T15.setTop (mkF m 204 #[.val (.int p1), .val (.long q2), .second, .val (.long q3), .second, .val (.long q4), .second, .val (.int (3 : Int32)), .val (.long vb), .second, .val (.long vc), .second, .val (.ref b6), .val (.long mm), .second, .val (.long mm), .second] [(.int (lcmpW vb mm))])) _
    refine XS.ifYes X15.here hx rfl (pc0 := 204) (pc' := 216) rfl (hb hby at_204) rfl ((if0 _ _).trans (feq ((fun q => h204 ((lw_eq _ _).mp q)) : ¬ ((lcmpW vb mm) = (0 : Int32)))).2) (by decide) (by decide) ?_
    show Steps p.tables e below (T15.setTop (mkF m 216 #[.val (.int p1), .val (.long q2), .second, .val (.long q3), .second, .val (.long q4), .second, .val (.int (3 : Int32)), .val (.long vb), .second, .val (.long vc), .second, .val (.ref b6), .val (.long mm), .second, .val (.long mm), .second] [])) _
    refine XS.iload X15.here hx rfl (hb hby at_216) rfl ?_
    show Steps p.tables e below (T15.setTop (mkF m 218 #[.val (.int p1), .val (.long q2), .second, .val (.long q3), .second, .val (.long q4), .second, .val (.int (3 : Int32)), .val (.long vb), .second, .val (.long vc), .second, .val (.ref b6), .val (.long mm), .second, .val (.long mm), .second] [(.int (3 : Int32))])) _
    refine XS.iconst X15.here hx rfl (hb hby at_218) ?_
    show Steps p.tables e below (T15.setTop (mkF m 219 #[.val (.int p1), .val (.long q2), .second, .val (.long q3), .second, .val (.long q4), .second, .val (.int (3 : Int32)), .val (.long vb), .second, .val (.long vc), .second, .val (.ref b6), .val (.long mm), .second, .val (.long mm), .second] [(.int (3 : Int32)), (.int (3 : Int32))])) _
    refine XS.icmpNo X15.here hx rfl (hb hby at_219) rfl (flt hc219).1 ?_
    show Steps p.tables e below (T15.setTop (mkF m 222 #[.val (.int p1), .val (.long q2), .second, .val (.long q3), .second, .val (.long q4), .second, .val (.int (3 : Int32)), .val (.long vb), .second, .val (.long vc), .second, .val (.ref b6), .val (.long mm), .second, .val (.long mm), .second] [])) _
    refine XS.lload X15.here hx rfl (hb hby at_222) rfl ?_
    show Steps p.tables e below (T15.setTop (mkF m 224 #[.val (.int p1), .val (.long q2), .second, .val (.long q3), .second, .val (.long q4), .second, .val (.int (3 : Int32)), .val (.long vb), .second, .val (.long vc), .second, .val (.ref b6), .val (.long mm), .second, .val (.long mm), .second] [(.long vc)])) _
    refine XS.lload X15.here hx rfl (hb hby at_224) rfl ?_
    show Steps p.tables e below (T15.setTop (mkF m 226 #[.val (.int p1), .val (.long q2), .second, .val (.long q3), .second, .val (.long q4), .second, .val (.int (3 : Int32)), .val (.long vb), .second, .val (.long vc), .second, .val (.ref b6), .val (.long mm), .second, .val (.long mm), .second] [(.long mm), (.long vc)])) _
    refine XS.lcmp X15.here hx rfl (hb hby at_226) rfl ?_
    show Steps p.tables e below (T15.setTop (mkF m 227 #[.val (.int p1), .val (.long q2), .second, .val (.long q3), .second, .val (.long q4), .second, .val (.int (3 : Int32)), .val (.long vb), .second, .val (.long vc), .second, .val (.ref b6), .val (.long mm), .second, .val (.long mm), .second] [(.int (lcmpW vc mm))])) _
    refine XS.ifNo X15.here hx rfl (hb hby at_227) rfl ((if0 _ _).trans (teq (((lw_eq _ _).mpr h227) : (lcmpW vc mm) = (0 : Int32))).2) ?_
    show Steps p.tables e below (T15.setTop (mkF m 230 #[.val (.int p1), .val (.long q2), .second, .val (.long q3), .second, .val (.long q4), .second, .val (.int (3 : Int32)), .val (.long vb), .second, .val (.long vc), .second, .val (.ref b6), .val (.long mm), .second, .val (.long mm), .second] [])) _
    refine XS.aload X15.here hx rfl (hb hby at_230) rfl rfl ?_
    show Steps p.tables e below (T15.setTop (mkF m 232 #[.val (.int p1), .val (.long q2), .second, .val (.long q3), .second, .val (.long q4), .second, .val (.int (3 : Int32)), .val (.long vb), .second, .val (.long vc), .second, .val (.ref b6), .val (.long mm), .second, .val (.long mm), .second] [(.ref b6)])) _
    refine XS.iconst X15.here hx rfl (hb hby at_232) ?_
    show Steps p.tables e below (T15.setTop (mkF m 233 #[.val (.int p1), .val (.long q2), .second, .val (.long q3), .second, .val (.long q4), .second, .val (.int (3 : Int32)), .val (.long vb), .second, .val (.long vc), .second, .val (.ref b6), .val (.long mm), .second, .val (.long mm), .second] [(.int (2 : Int32)), (.ref b6)])) _
    refine X15.ldc2Long hx hown (mvT hZ (hw _ (List.mem_of_getElem? (i := 43) rfl))) (g := (mkF m 233 #[.val (.int p1), .val (.long q2), .second, .val (.long q3), .second, .val (.long q4), .second, .val (.int (3 : Int32)), .val (.long vb), .second, .val (.long vc), .second, .val (.ref b6), .val (.long mm), .second, .val (.long mm), .second] [(.int (2 : Int32)), (.ref b6)])) rfl (hb hby at_233) _ ?_
    show Steps p.tables e below (T15.setTop (mkF m 236 #[.val (.int p1), .val (.long q2), .second, .val (.long q3), .second, .val (.long q4), .second, .val (.int (3 : Int32)), .val (.long vb), .second, .val (.long vc), .second, .val (.ref b6), .val (.long mm), .second, .val (.long mm), .second] [(.long (9223372036854775807 : Int64)), (.int (2 : Int32)), (.ref b6)])) _
    refine st16.trans ?_
    show Steps p.tables e below (T16.setTop (mkF m 239 #[.val (.int p1), .val (.long q2), .second, .val (.long q3), .second, .val (.long q4), .second, .val (.int (3 : Int32)), .val (.long vb), .second, .val (.long vc), .second, .val (.ref b6), .val (.long mm), .second, .val (.long mm), .second] [])) _
    refine XS.aload X16.here hx rfl (hb hby at_239) rfl rfl ?_
    show Steps p.tables e below (T16.setTop (mkF m 241 #[.val (.int p1), .val (.long q2), .second, .val (.long q3), .second, .val (.long q4), .second, .val (.int (3 : Int32)), .val (.long vb), .second, .val (.long vc), .second, .val (.ref b6), .val (.long mm), .second, .val (.long mm), .second] [(.ref b6)])) _
    refine st17.trans ?_
    show Steps p.tables e below (T17.setTop (mkF m 244 #[.val (.int p1), .val (.long q2), .second, .val (.long q3), .second, .val (.long q4), .second, .val (.int (3 : Int32)), .val (.long vb), .second, .val (.long vc), .second, .val (.ref b6), .val (.long mm), .second, .val (.long mm), .second] [(.int (1 : Int32))])) _
    exact retN X17 hx (t := .boolean) Bd.returns (by simp) (hb hby at_244) hr
  · show Q0 Z p1 q2 q3 q4 h0 n0 _ T17.heap _
    exact ⟨rfl, N17⟩
set_option maxRecDepth 65536 in
set_option maxHeartbeats 40000000 in
theorem rm0_3ynn (l : Launch) (Z : State) (a0 : Array Value) (hw : ∀ d ∈ tables_1, d.before a0 Z = true) (ws : List Jvm.Cond) (p1 : Int32) (q2 : Int64) (q3 : Int64) (q4 : Int64) (h0 : Heap) (n0 : Nat) (Z0 : n0 ≤ h0.size) (vb vc mm : Int64) (hn : own_n p1 = 3) (hvb : own_vb p1 q2 q3 = vb) (hvc : own_vc p1 q2 q3 q4 = vc) (hm : mm = (own_mn (own_mn q2 vb) vc)) (h160 : ¬ (mm = (9223372036854775807 : Int64))) (h181 : q2 = mm) (h204 : ¬ (vb = mm)) (h227 : ¬ (vc = mm)) :
    MetFree l x (head1 (Jvm.Cond.code x code maxLocals ret :: ws) room_1) (fun a U => a = #[(.int p1), (.long q2), (.long q3), (.long q4)] ∧ Z.Warmed39 U.vm ∧ U.heap = h0) (fun _ _ _ _ _ => True) (fun _ U o U' => ∃ v L, o = .returned v ∧ Q0 Z p1 q2 q3 q4 h0 n0 v U'.heap L ∧ FrameEnd U o U' L room_1.cells room_1.slots) := by
  refine MetFree.of_bodySF (plainFor_of_name pn_0) hisR ?_
  intro p e s m args below meth c s₁ Bd hml0 hP hK
  obtain ⟨rfl, hZ, hh⟩ := hP
  have hx := Bd.exec
  have hby := Bd.bytes
  have hml : c.maxLocals = 17 := hml0
  have hown : s.vm.findClass "com/example/mullion/mullion/aggregators/FurthestBackFindSmallestPinLaw" = some m.cls := findClass_of_methodNamed Bd.named
  have hnm := (name_of_methodNamed Bd.named Bd.method).1
  have X0 : Stand p l e room_1 s m #[(.int p1), (.long q2), (.long q3), (.long q4)] below meth c s₁ [] 0 0 := Stand.of_body Bd
  have e0 : s₁.heap = h0 := by rw [← hh, Bd.state]; rfl
  have N0 := Fr.nil n0
  have pre0 : ∀ t, Steps p.tables e below (s₁.setTop (mkF m 0 #[.val (.int p1), .val (.long q2), .second, .val (.long q3), .second, .val (.long q4), .second, .unset, .unset, .unset, .unset, .unset, .unset, .unset, .unset, .unset, .unset] [])) t → Steps p.tables e below (s₁.setTop (entryFrame m #[(.int p1), (.long q2), (.long q3), (.long q4)] maxLocals)) t := fun t k => castTop (ef_0 m p1 q2 q3 q4) k
  have hc66 : ¬ ((3 : Int32) < (2 : Int32)) := (by decide)
  have hc80 : ¬ ((3 : Int32) < (3 : Int32)) := (by decide)
  have hc97 : ¬ ((3 : Int32) < (2 : Int32)) := (by decide)
  have hc112 : ¬ ((3 : Int32) < (3 : Int32)) := (by decide)
  have hc196 : ¬ ((3 : Int32) < (2 : Int32)) := (by decide)
  have hc219 : ¬ ((3 : Int32) < (3 : Int32)) := (by decide)
  obtain ⟨T5, X5, e5, st5⟩ := own_j0 p1 q2 q3 q4 (3 : Int32) vb vc hn hvb hvc X0 hx hZ hw hby hml hown e0
  obtain ⟨T6, h6, X6, e6, E6, A6, D6, -, st6⟩ := newO X5 hx hZ hown (hw _ (List.mem_of_getElem? (i := 1) rfl)) (hw _ (List.mem_of_getElem? (i := 2) rfl)) (hw _ (List.mem_of_getElem? (i := 3) rfl)) e5 (g := (mkF m 42 #[.val (.int p1), .val (.long q2), .second, .val (.long q3), .second, .val (.long q4), .second, .val (.int (3 : Int32)), .val (.long vb), .second, .val (.long vc), .second, .unset, .unset, .unset, .unset, .unset] [])) rfl (hb hby at_42) (by decide) (by decide)
  obtain ⟨b6, g6⟩ : ∃ z, z = h0.size := ⟨_, rfl⟩
  rw [← g6] at A6 D6 st6
  have F_values_b6 : Fld Z h6 b6 "com/example/mullion/mullion/aggregators/FurthestBack" "values" "[J" .null := D6 (Or.inr (hw _ (List.mem_of_getElem? (i := 13) rfl))) (ty := (.array .long)) (by decide)
  have F_mark_b6 : Fld Z h6 b6 "com/example/mullion/mullion/aggregators/FurthestBack" "mark" "J" (.long (0 : Int64)) := D6 (Or.inl (hw _ (List.mem_of_getElem? (i := 24) rfl))) (ty := .long) (by decide)
  have F_atOrBelowMark_b6 : Fld Z h6 b6 "com/example/mullion/mullion/aggregators/FurthestBack" "atOrBelowMark" "I" (.int (0 : Int32)) := D6 (Or.inl (hw _ (List.mem_of_getElem? (i := 26) rfl))) (ty := .int) (by decide)
  have E_b6 := A6
  have g_b6 : n0 ≤ b6 := Nat.le_trans Z0 (Nat.le_of_eq g6.symm)
  have sz_b6 : h0.size ≤ b6 := (Nat.le_trans (Keep.refl h0 []).1 (Nat.le_of_eq g6.symm))
  have K6 : Keep h0 h6 [] := (Keep.refl h0 []).ext E6
  obtain ⟨_, _, ⟨T7, L7, k7, n7⟩, -, X7, ⟨Lc7, hQ7, l7, y7, z7⟩, st7⟩ := X6.specialBack hx (y := (⟨"com/example/mullion/mullion/aggregators/FurthestBack", "<init>", "(IJ)V"⟩ : MethodName)) rfl hown (mvT hZ (hw _ (List.mem_of_getElem? (i := 5) rfl))) (mvT hZ (hw _ (List.mem_of_getElem? (i := 6) rfl))) (mvT hZ (hw _ (List.mem_of_getElem? (i := 7) rfl))) (by decide) (backOf (W := 1) (rm1 l Z a0 hw [] b6 (3 : Int32) (-9223372036854775808 : Int64) 3 h6 n0 (Nat.le_trans Z0 E6.1) (by decide) rfl (by decide) E_b6 F_values_b6 F_mark_b6 F_atOrBelowMark_b6 g_b6) hZ (hw _ (List.mem_of_getElem? (i := 7) rfl)) (hw _ (List.mem_of_getElem? (i := 3) rfl)) (by decide) (by decide)) (g := (mkF m 51 #[.val (.int p1), .val (.long q2), .second, .val (.long q3), .second, .val (.long q4), .second, .val (.int (3 : Int32)), .val (.long vb), .second, .val (.long vc), .second, .unset, .unset, .unset, .unset, .unset] [(.long (-9223372036854775808 : Int64)), (.int (3 : Int32)), (.ref b6), (.ref b6)])) rfl (by rw [hml]; rfl) (Steps.refl _) (a := b6) (argsL := [(.int (3 : Int32)), (.long (-9223372036854775808 : Int64))]) (rest := [(.ref b6)]) (lenOf pd_0_0 rfl) rfl (by show 2 * 0 + _ ≤ _; exact Nat.le_of_eq rfl) (hb hby at_51) (fun _ _ => ⟨rfl, e6, (by decide : 1 + 1 ≤ _), (by decide : 3 + 3 ≤ _)⟩)
  dsimp only [Pt.U, Pt.locs, Pt.cells, Pt.slots] at X7 l7 y7 z7 st7 hQ7
  subst l7 y7 z7
  obtain ⟨rfl, N7q, K7q, t, st, E7q, Fv7q, Fm7q, Fa7q, V7q⟩ := hQ7
  have N7 := Fr.app N0 N7q
  have z7q : n0 ≤ T7.heap.size := Nat.le_trans (Nat.le_trans Z0 E6.1) K7q.1
  have hne : b6 ≠ t := Nat.ne_of_lt (Nat.lt_of_lt_of_le E_b6.lt st)
  have g_t : n0 ≤ t := Nat.le_trans (Nat.le_trans Z0 E6.1) st
  obtain ⟨cq8, kq8, q8a, q8b, q8c⟩ := isOf hZ rfl E7q
  obtain ⟨_, _, ⟨T8, L8, k8, n8⟩, -, X8, ⟨Lc8, hQ8, l8, y8, z8⟩, st8⟩ := X7.virtualBack hx (y := (⟨"com/example/mullion/mullion/aggregators/FurthestBack", "moveOn", "(IJ)V"⟩ : MethodName)) (z := (⟨"com/example/mullion/mullion/aggregators/FurthestBack", "moveOn", "(IJ)V"⟩ : MethodName)) hown (mvT hZ (hw _ (List.mem_of_getElem? (i := 27) rfl))) (mvT hZ (hw _ (List.mem_of_getElem? (i := 28) rfl))) (notFace_of_selects (args := #[]) (mvT hZ (hw _ (List.mem_of_getElem? (i := 30) rfl)))) (mvT hZ (hw _ (List.mem_of_getElem? (i := 30) rfl))) (mvT hZ (hw _ (List.mem_of_getElem? (i := 29) rfl))) (by decide) (backOf (W := 0) (rm5 l Z a0 hw [] b6 (0 : Int32) q2 t 3 _ 0 _ _ T7.heap n0 z7q rfl (by decide) (by decide) E7q Fv7q Fm7q Fa7q V7q hne g_b6 g_t) hZ (hw _ (List.mem_of_getElem? (i := 31) rfl)) (hw _ (List.mem_of_getElem? (i := 3) rfl)) (by decide) (by decide)) q8a q8c (g := (mkF m 60 #[.val (.int p1), .val (.long q2), .second, .val (.long q3), .second, .val (.long q4), .second, .val (.int (3 : Int32)), .val (.long vb), .second, .val (.long vc), .second, .val (.ref b6), .unset, .unset, .unset, .unset] [(.long q2), (.int (0 : Int32)), (.ref b6)])) rfl (by rw [hml]; rfl) (Steps.refl _) (argsL := [(.int (0 : Int32)), (.long q2)]) (rest := []) (lenOf pd_0_0 rfl) rfl (by show 2 * 0 + _ ≤ _; exact Nat.le_of_eq rfl) (hb hby at_60) (fun _ _ => ⟨rfl, rfl, (by decide : 2 + 0 ≤ _), (by decide : 6 + 0 ≤ _)⟩)
  dsimp only [Pt.U, Pt.locs, Pt.cells, Pt.slots] at X8 l8 y8 z8 st8 hQ8
  subst l8 y8 z8
  obtain ⟨rfl, N8q, K8q, E8q, Fv8q, Fm8q, Fa8q, V8q⟩ := hQ8
  have N8 := Fr.app N7 N8q
  have z8q : n0 ≤ T8.heap.size := Nat.le_trans z7q K8q.1
  obtain ⟨cq9, kq9, q9a, q9b, q9c⟩ := isOf hZ rfl E8q
  obtain ⟨_, _, ⟨T9, L9, k9, n9⟩, -, X9, ⟨Lc9, hQ9, l9, y9, z9⟩, st9⟩ := X8.virtualBack hx (y := (⟨"com/example/mullion/mullion/aggregators/FurthestBack", "moveOn", "(IJ)V"⟩ : MethodName)) (z := (⟨"com/example/mullion/mullion/aggregators/FurthestBack", "moveOn", "(IJ)V"⟩ : MethodName)) hown (mvT hZ (hw _ (List.mem_of_getElem? (i := 27) rfl))) (mvT hZ (hw _ (List.mem_of_getElem? (i := 28) rfl))) (notFace_of_selects (args := #[]) (mvT hZ (hw _ (List.mem_of_getElem? (i := 30) rfl)))) (mvT hZ (hw _ (List.mem_of_getElem? (i := 30) rfl))) (mvT hZ (hw _ (List.mem_of_getElem? (i := 29) rfl))) (by decide) (backOf (W := 0) (rm5 l Z a0 hw [] b6 (1 : Int32) vb t 3 _ 1 _ _ T8.heap n0 z8q rfl (by decide) (by decide) E8q Fv8q Fm8q Fa8q V8q hne g_b6 g_t) hZ (hw _ (List.mem_of_getElem? (i := 31) rfl)) (hw _ (List.mem_of_getElem? (i := 3) rfl)) (by decide) (by decide)) q9a q9c (g := (mkF m 74 #[.val (.int p1), .val (.long q2), .second, .val (.long q3), .second, .val (.long q4), .second, .val (.int (3 : Int32)), .val (.long vb), .second, .val (.long vc), .second, .val (.ref b6), .unset, .unset, .unset, .unset] [(.long vb), (.int (1 : Int32)), (.ref b6)])) rfl (by rw [hml]; rfl) (Steps.refl _) (argsL := [(.int (1 : Int32)), (.long vb)]) (rest := []) (lenOf pd_0_0 rfl) rfl (by show 2 * 0 + _ ≤ _; exact Nat.le_of_eq rfl) (hb hby at_74) (fun _ _ => ⟨rfl, rfl, (by decide : 2 + 0 ≤ _), (by decide : 6 + 0 ≤ _)⟩)
  dsimp only [Pt.U, Pt.locs, Pt.cells, Pt.slots] at X9 l9 y9 z9 st9 hQ9
  subst l9 y9 z9
  obtain ⟨rfl, N9q, K9q, E9q, Fv9q, Fm9q, Fa9q, V9q⟩ := hQ9
  have N9 := Fr.app N8 N9q
  have z9q : n0 ≤ T9.heap.size := Nat.le_trans z8q K9q.1
  obtain ⟨cq10, kq10, q10a, q10b, q10c⟩ := isOf hZ rfl E9q
  obtain ⟨_, _, ⟨T10, L10, k10, n10⟩, -, X10, ⟨Lc10, hQ10, l10, y10, z10⟩, st10⟩ := X9.virtualBack hx (y := (⟨"com/example/mullion/mullion/aggregators/FurthestBack", "moveOn", "(IJ)V"⟩ : MethodName)) (z := (⟨"com/example/mullion/mullion/aggregators/FurthestBack", "moveOn", "(IJ)V"⟩ : MethodName)) hown (mvT hZ (hw _ (List.mem_of_getElem? (i := 27) rfl))) (mvT hZ (hw _ (List.mem_of_getElem? (i := 28) rfl))) (notFace_of_selects (args := #[]) (mvT hZ (hw _ (List.mem_of_getElem? (i := 30) rfl)))) (mvT hZ (hw _ (List.mem_of_getElem? (i := 30) rfl))) (mvT hZ (hw _ (List.mem_of_getElem? (i := 29) rfl))) (by decide) (backOf (W := 0) (rm5 l Z a0 hw [] b6 (2 : Int32) vc t 3 _ 2 _ _ T9.heap n0 z9q rfl (by decide) (by decide) E9q Fv9q Fm9q Fa9q V9q hne g_b6 g_t) hZ (hw _ (List.mem_of_getElem? (i := 31) rfl)) (hw _ (List.mem_of_getElem? (i := 3) rfl)) (by decide) (by decide)) q10a q10c (g := (mkF m 88 #[.val (.int p1), .val (.long q2), .second, .val (.long q3), .second, .val (.long q4), .second, .val (.int (3 : Int32)), .val (.long vb), .second, .val (.long vc), .second, .val (.ref b6), .unset, .unset, .unset, .unset] [(.long vc), (.int (2 : Int32)), (.ref b6)])) rfl (by rw [hml]; rfl) (Steps.refl _) (argsL := [(.int (2 : Int32)), (.long vc)]) (rest := []) (lenOf pd_0_0 rfl) rfl (by show 2 * 0 + _ ≤ _; exact Nat.le_of_eq rfl) (hb hby at_88) (fun _ _ => ⟨rfl, rfl, (by decide : 2 + 0 ≤ _), (by decide : 6 + 0 ≤ _)⟩)
  dsimp only [Pt.U, Pt.locs, Pt.cells, Pt.slots] at X10 l10 y10 z10 st10 hQ10
  subst l10 y10 z10
  obtain ⟨rfl, N10q, K10q, E10q, Fv10q, Fm10q, Fa10q, V10q⟩ := hQ10
  have N10 := Fr.app N9 N10q
  have z10q : n0 ≤ T10.heap.size := Nat.le_trans z9q K10q.1
  obtain ⟨_, _, ⟨T11, L11, k11, n11⟩, -, X11, ⟨Lc11, hQ11, l11, y11, z11⟩, st11⟩ := Jvm.LawKit.callS X10 hx (y := (⟨"java/lang/Math", "min", "(JJ)J"⟩ : MethodName)) hown (mvT hZ (hw _ (List.mem_of_getElem? (i := 49) rfl))) (mvT hZ (hw _ (List.mem_of_getElem? (i := 50) rfl))) (mvT hZ (hw _ (List.mem_of_getElem? (i := 51) rfl))) (mvT hZ (hw _ (List.mem_of_getElem? (i := 52) rfl))) (by decide) (backOf (W := 0) (rm9 l Z a0 hw [] q2 vb  T10.heap n0 z10q) hZ (hw _ (List.mem_of_getElem? (i := 52) rfl)) (hw _ (List.mem_of_getElem? (i := 51) rfl)) (by decide) (by decide)) (g := (mkF m 104 #[.val (.int p1), .val (.long q2), .second, .val (.long q3), .second, .val (.long q4), .second, .val (.int (3 : Int32)), .val (.long vb), .second, .val (.long vc), .second, .val (.ref b6), .val (.long q2), .second, .unset, .unset] [(.long vb), (.long q2)])) rfl (by rw [hml]; rfl) (argsL := [(.long q2), (.long vb)]) (rest := []) (lenOf pd_0_6 rfl) rfl (by show 2 * 0 + _ ≤ _; exact Nat.le_of_eq rfl) (hb hby at_104) (fun _ _ => ⟨rfl, rfl, (by decide : 2 + 0 ≤ _), (by decide : 6 + 0 ≤ _)⟩)
  dsimp only [Pt.U, Pt.locs, Pt.cells, Pt.slots] at X11 l11 y11 z11 st11 hQ11
  subst l11 y11 z11
  obtain ⟨hv11, N11q, e11q⟩ := hQ11
  have N11 := Fr.app N10 N11q
  obtain ⟨m1, hm1⟩ : ∃ z, z = own_mn q2 vb := ⟨_, rfl⟩
  rw [← hm1] at hv11
  subst hv11
  have z11q : n0 ≤ T11.heap.size := by rw [e11q]; exact z10q
  have E11q := E10q
  rw [← e11q] at E11q
  have Fv11q := Fv10q
  rw [← e11q] at Fv11q
  have Fm11q := Fm10q
  rw [← e11q] at Fm11q
  have Fa11q := Fa10q
  rw [← e11q] at Fa11q
  have V11q := V10q
  rw [← e11q] at V11q
  obtain ⟨_, _, ⟨T12, L12, k12, n12⟩, -, X12, ⟨Lc12, hQ12, l12, y12, z12⟩, st12⟩ := Jvm.LawKit.callS X11 hx (y := (⟨"java/lang/Math", "min", "(JJ)J"⟩ : MethodName)) hown (mvT hZ (hw _ (List.mem_of_getElem? (i := 49) rfl))) (mvT hZ (hw _ (List.mem_of_getElem? (i := 50) rfl))) (mvT hZ (hw _ (List.mem_of_getElem? (i := 51) rfl))) (mvT hZ (hw _ (List.mem_of_getElem? (i := 52) rfl))) (by decide) (backOf (W := 0) (rm9 l Z a0 hw [] m1 vc  T11.heap n0 z11q) hZ (hw _ (List.mem_of_getElem? (i := 52) rfl)) (hw _ (List.mem_of_getElem? (i := 51) rfl)) (by decide) (by decide)) (g := (mkF m 119 #[.val (.int p1), .val (.long q2), .second, .val (.long q3), .second, .val (.long q4), .second, .val (.int (3 : Int32)), .val (.long vb), .second, .val (.long vc), .second, .val (.ref b6), .val (.long m1), .second, .unset, .unset] [(.long vc), (.long m1)])) rfl (by rw [hml]; rfl) (argsL := [(.long m1), (.long vc)]) (rest := []) (lenOf pd_0_6 rfl) rfl (by show 2 * 0 + _ ≤ _; exact Nat.le_of_eq rfl) (hb hby at_119) (fun _ _ => ⟨rfl, rfl, (by decide : 2 + 0 ≤ _), (by decide : 6 + 0 ≤ _)⟩)
  dsimp only [Pt.U, Pt.locs, Pt.cells, Pt.slots] at X12 l12 y12 z12 st12 hQ12
  subst l12 y12 z12
  obtain ⟨hv12, N12q, e12q⟩ := hQ12
  have N12 := Fr.app N11 N12q
  rw [hm1, ← hm] at hv12
  subst hv12
  have z12q : n0 ≤ T12.heap.size := by rw [e12q]; exact z11q
  have E12q := E11q
  rw [← e12q] at E12q
  have Fv12q := Fv11q
  rw [← e12q] at Fv12q
  have Fm12q := Fm11q
  rw [← e12q] at Fm12q
  have Fa12q := Fa11q
  rw [← e12q] at Fa12q
  have V12q := V11q
  rw [← e12q] at V12q
  obtain ⟨cq13, kq13, q13a, q13b, q13c⟩ := isOf hZ rfl E12q
  obtain ⟨_, _, ⟨T13, L13, k13, n13⟩, -, X13, ⟨Lc13, hQ13, l13, y13, z13⟩, st13⟩ := X12.virtualBack hx (y := (⟨"com/example/mullion/mullion/aggregators/FurthestBack", "findSmallest", "()J"⟩ : MethodName)) (z := (⟨"com/example/mullion/mullion/aggregators/FurthestBack", "findSmallest", "()J"⟩ : MethodName)) hown (mvT hZ (hw _ (List.mem_of_getElem? (i := 32) rfl))) (mvT hZ (hw _ (List.mem_of_getElem? (i := 33) rfl))) (notFace_of_selects (args := #[]) (mvT hZ (hw _ (List.mem_of_getElem? (i := 35) rfl)))) (mvT hZ (hw _ (List.mem_of_getElem? (i := 35) rfl))) (mvT hZ (hw _ (List.mem_of_getElem? (i := 34) rfl))) (by decide) (backOf (W := 0) (rm6 l Z a0 hw [] b6 t 3 (fun j => if j = 2 then vc else if j = 1 then vb else if j = 0 then q2 else (-9223372036854775808 : Int64)) _ _ T12.heap n0 z12q (by decide) E12q Fv12q Fm12q Fa12q V12q hne g_b6) hZ (hw _ (List.mem_of_getElem? (i := 36) rfl)) (hw _ (List.mem_of_getElem? (i := 3) rfl)) (by decide) (by decide)) q13a q13c (g := (mkF m 126 #[.val (.int p1), .val (.long q2), .second, .val (.long q3), .second, .val (.long q4), .second, .val (.int (3 : Int32)), .val (.long vb), .second, .val (.long vc), .second, .val (.ref b6), .val (.long mm), .second, .unset, .unset] [(.ref b6)])) rfl (by rw [hml]; rfl) (Steps.refl _) (argsL := []) (rest := []) (lenOf pd_0_4 rfl) rfl (by show 2 * 0 + _ ≤ _; exact Nat.le_of_eq rfl) (hb hby at_126) (fun _ _ => ⟨rfl, rfl, (by decide : 2 + 0 ≤ _), (by decide : 6 + 0 ≤ _)⟩)
  dsimp only [Pt.U, Pt.locs, Pt.cells, Pt.slots] at X13 l13 y13 z13 st13 hQ13
  subst l13 y13 z13
  obtain ⟨hv13, N13q, K13q, E13q, Fv13q, Fm13q, Fa13q, V13q⟩ := hQ13
  have N13 := Fr.app N12 N13q
  have z13q : n0 ≤ T13.heap.size := Nat.le_trans z12q K13q.1
  have hfs : own_fs (fun j => if j = 2 then vc else if j = 1 then vb else if j = 0 then q2 else (-9223372036854775808 : Int64)) 3 0 ((9223372036854775807 : Int64), (0 : Int32)) = (mm, (own_is q2 mm + own_is vb mm + own_is vc mm)) := by show own_step (own_step (own_step ((9223372036854775807 : Int64), 0) q2) vb) vc = _; rw [own_first, own_second, hm]; exact own_third q2 vb vc
  rw [hfs] at hv13
  replace hv13 : _ = some (Value.long mm) := hv13
  subst hv13
  have Gm13q : Fld Z T13.heap b6 "com/example/mullion/mullion/aggregators/FurthestBack" "mark" "J" (.long mm) := by have q := Fm13q; rw [hfs] at q; exact q
  have Ga13q : Fld Z T13.heap b6 "com/example/mullion/mullion/aggregators/FurthestBack" "atOrBelowMark" "I" (.int (own_is q2 mm + own_is vb mm + own_is vc mm)) := by have q := Fa13q; rw [hfs] at q; exact q
  obtain ⟨cq14, kq14, q14a, q14b, q14c⟩ := isOf hZ rfl E13q
  obtain ⟨_, _, ⟨T14, L14, k14, n14⟩, -, X14, ⟨Lc14, hQ14, l14, y14, z14⟩, st14⟩ := X13.virtualBack hx (y := (⟨"com/example/mullion/mullion/aggregators/FurthestBack", "mark", "()J"⟩ : MethodName)) (z := (⟨"com/example/mullion/mullion/aggregators/FurthestBack", "mark", "()J"⟩ : MethodName)) hown (mvT hZ (hw _ (List.mem_of_getElem? (i := 38) rfl))) (mvT hZ (hw _ (List.mem_of_getElem? (i := 39) rfl))) (notFace_of_selects (args := #[]) (mvT hZ (hw _ (List.mem_of_getElem? (i := 41) rfl)))) (mvT hZ (hw _ (List.mem_of_getElem? (i := 41) rfl))) (mvT hZ (hw _ (List.mem_of_getElem? (i := 40) rfl))) (by decide) (backOf (W := 0) (rm7 l Z a0 hw [] b6 mm T13.heap n0 z13q Gm13q) hZ (hw _ (List.mem_of_getElem? (i := 42) rfl)) (hw _ (List.mem_of_getElem? (i := 3) rfl)) (by decide) (by decide)) q14a q14c (g := (mkF m 143 #[.val (.int p1), .val (.long q2), .second, .val (.long q3), .second, .val (.long q4), .second, .val (.int (3 : Int32)), .val (.long vb), .second, .val (.long vc), .second, .val (.ref b6), .val (.long mm), .second, .val (.long mm), .second] [(.ref b6)])) rfl (by rw [hml]; rfl) (Steps.refl _) (argsL := []) (rest := []) (lenOf pd_0_4 rfl) rfl (by show 2 * 0 + _ ≤ _; exact Nat.le_of_eq rfl) (hb hby at_143) (fun _ _ => ⟨rfl, rfl, (by decide : 2 + 0 ≤ _), (by decide : 6 + 0 ≤ _)⟩)
  dsimp only [Pt.U, Pt.locs, Pt.cells, Pt.slots] at X14 l14 y14 z14 st14 hQ14
  subst l14 y14 z14
  obtain ⟨rfl, N14q, e14q⟩ := hQ14
  have N14 := Fr.app N13 N14q
  have z14q : n0 ≤ T14.heap.size := by rw [e14q]; exact z13q
  have E14q := E13q
  rw [← e14q] at E14q
  have Fv14q := Fv13q
  rw [← e14q] at Fv14q
  have Fm14q := Gm13q
  rw [← e14q] at Fm14q
  have Fa14q := Ga13q
  rw [← e14q] at Fa14q
  have V14q := V13q
  rw [← e14q] at V14q
  obtain ⟨cq15, kq15, q15a, q15b, q15c⟩ := isOf hZ rfl E14q
  obtain ⟨_, _, ⟨T15, L15, k15, n15⟩, -, X15, ⟨Lc15, hQ15, l15, y15, z15⟩, st15⟩ := X14.virtualBack hx (y := (⟨"com/example/mullion/mullion/aggregators/FurthestBack", "moveOn", "(IJ)V"⟩ : MethodName)) (z := (⟨"com/example/mullion/mullion/aggregators/FurthestBack", "moveOn", "(IJ)V"⟩ : MethodName)) hown (mvT hZ (hw _ (List.mem_of_getElem? (i := 27) rfl))) (mvT hZ (hw _ (List.mem_of_getElem? (i := 28) rfl))) (notFace_of_selects (args := #[]) (mvT hZ (hw _ (List.mem_of_getElem? (i := 30) rfl)))) (mvT hZ (hw _ (List.mem_of_getElem? (i := 30) rfl))) (mvT hZ (hw _ (List.mem_of_getElem? (i := 29) rfl))) (by decide) (backOf (W := 0) (rm5 l Z a0 hw [] b6 (0 : Int32) (9223372036854775807 : Int64) t 3 _ 0 _ _ T14.heap n0 z14q rfl (by decide) (by decide) E14q Fv14q Fm14q Fa14q V14q hne g_b6 g_t) hZ (hw _ (List.mem_of_getElem? (i := 31) rfl)) (hw _ (List.mem_of_getElem? (i := 3) rfl)) (by decide) (by decide)) q15a q15c (g := (mkF m 190 #[.val (.int p1), .val (.long q2), .second, .val (.long q3), .second, .val (.long q4), .second, .val (.int (3 : Int32)), .val (.long vb), .second, .val (.long vc), .second, .val (.ref b6), .val (.long mm), .second, .val (.long mm), .second] [(.long (9223372036854775807 : Int64)), (.int (0 : Int32)), (.ref b6)])) rfl (by rw [hml]; rfl) (Steps.refl _) (argsL := [(.int (0 : Int32)), (.long (9223372036854775807 : Int64))]) (rest := []) (lenOf pd_0_0 rfl) rfl (by show 2 * 0 + _ ≤ _; exact Nat.le_of_eq rfl) (hb hby at_190) (fun _ _ => ⟨rfl, rfl, (by decide : 2 + 0 ≤ _), (by decide : 6 + 0 ≤ _)⟩)
  dsimp only [Pt.U, Pt.locs, Pt.cells, Pt.slots] at X15 l15 y15 z15 st15 hQ15
  subst l15 y15 z15
  obtain ⟨rfl, N15q, K15q, E15q, Fv15q, Fm15q, Fa15q, V15q⟩ := hQ15
  have N15 := Fr.app N14 N15q
  have z15q : n0 ≤ T15.heap.size := Nat.le_trans z14q K15q.1
  have Fb15q : Fld Z T15.heap b6 "com/example/mullion/mullion/aggregators/FurthestBack" "atOrBelowMark" "I" (.int ((own_is q2 mm + own_is vb mm + own_is vc mm) - (1 : Int32))) := by
    have q : Fld Z T15.heap b6 "com/example/mullion/mullion/aggregators/FurthestBack" "atOrBelowMark" "I" (.int (own_mv q2 (9223372036854775807 : Int64) mm (own_is q2 mm + own_is vb mm + own_is vc mm))) := Fa15q
    rw [own_mv_dec (x := q2) (m := mm) h181 h160] at q
    exact q
  obtain ⟨cq16, kq16, q16a, q16b, q16c⟩ := isOf hZ rfl E15q
  obtain ⟨_, _, ⟨T16, L16, k16, n16⟩, -, X16, ⟨Lc16, hQ16, l16, y16, z16⟩, st16⟩ := X15.virtualBack hx (y := (⟨"com/example/mullion/mullion/aggregators/FurthestBack", "allMovedOn", "()Z"⟩ : MethodName)) (z := (⟨"com/example/mullion/mullion/aggregators/FurthestBack", "allMovedOn", "()Z"⟩ : MethodName)) hown (mvT hZ (hw _ (List.mem_of_getElem? (i := 44) rfl))) (mvT hZ (hw _ (List.mem_of_getElem? (i := 45) rfl))) (notFace_of_selects (args := #[]) (mvT hZ (hw _ (List.mem_of_getElem? (i := 47) rfl)))) (mvT hZ (hw _ (List.mem_of_getElem? (i := 47) rfl))) (mvT hZ (hw _ (List.mem_of_getElem? (i := 46) rfl))) (by decide) (backOf (W := 0) (rm8_f l Z a0 hw [] b6 ((own_is q2 mm + own_is vb mm + own_is vc mm) - (1 : Int32)) T15.heap n0 z15q Fb15q (by unfold own_is; rw [if_pos h181, if_neg h204, if_neg h227]; decide)) hZ (hw _ (List.mem_of_getElem? (i := 48) rfl)) (hw _ (List.mem_of_getElem? (i := 3) rfl)) (by decide) (by decide)) q16a q16c (g := (mkF m 241 #[.val (.int p1), .val (.long q2), .second, .val (.long q3), .second, .val (.long q4), .second, .val (.int (3 : Int32)), .val (.long vb), .second, .val (.long vc), .second, .val (.ref b6), .val (.long mm), .second, .val (.long mm), .second] [(.ref b6)])) rfl (by rw [hml]; rfl) (Steps.refl _) (argsL := []) (rest := []) (lenOf pd_0_5 rfl) rfl (by show 2 * 0 + _ ≤ _; exact Nat.le_of_eq rfl) (hb hby at_241) (fun _ _ => ⟨rfl, rfl, (by decide : 2 + 0 ≤ _), (by decide : 6 + 0 ≤ _)⟩)
  dsimp only [Pt.U, Pt.locs, Pt.cells, Pt.slots] at X16 l16 y16 z16 st16 hQ16
  subst l16 y16 z16
  obtain ⟨rfl, N16q, e16q⟩ := hQ16
  have N16 := Fr.app N15 N16q
  have z16q : n0 ≤ T16.heap.size := by rw [e16q]; exact z15q
  have E16q := E15q
  rw [← e16q] at E16q
  have Fv16q := Fv15q
  rw [← e16q] at Fv16q
  have Fm16q := Fm15q
  rw [← e16q] at Fm16q
  have Fa16q := Fb15q
  rw [← e16q] at Fa16q
  have V16q := V15q
  rw [← e16q] at V16q
  obtain ⟨fs, hr, hrun, hended, hW, hsame⟩ := X16.leave (v := some (.int (1 : Int32))) (fun h => by rw [Bd.returns] at h; cases h)
  refine ⟨_, _, pre0 _ ?_, hrun, hended, _, _, rfl, ?_, ⟨_, rfl⟩, hW, hsame.mono (by decide) (by decide)⟩
  · show Steps p.tables e below (s₁.setTop (mkF m 0 #[.val (.int p1), .val (.long q2), .second, .val (.long q3), .second, .val (.long q4), .second, .unset, .unset, .unset, .unset, .unset, .unset, .unset, .unset, .unset, .unset] [])) _
    refine st5 _ ?_
    show Steps p.tables e below (T5.setTop (mkF m 42 #[.val (.int p1), .val (.long q2), .second, .val (.long q3), .second, .val (.long q4), .second, .val (.int (3 : Int32)), .val (.long vb), .second, .val (.long vc), .second, .unset, .unset, .unset, .unset, .unset] [])) _
    refine st6 _ ?_
    show Steps p.tables e below (T6.setTop (mkF m 45 #[.val (.int p1), .val (.long q2), .second, .val (.long q3), .second, .val (.long q4), .second, .val (.int (3 : Int32)), .val (.long vb), .second, .val (.long vc), .second, .unset, .unset, .unset, .unset, .unset] [(.ref b6)])) _
    refine XS.dup X6.here hx rfl (hb hby at_45) rfl rfl ?_
    show Steps p.tables e below (T6.setTop (mkF m 46 #[.val (.int p1), .val (.long q2), .second, .val (.long q3), .second, .val (.long q4), .second, .val (.int (3 : Int32)), .val (.long vb), .second, .val (.long vc), .second, .unset, .unset, .unset, .unset, .unset] [(.ref b6), (.ref b6)])) _
    refine XS.iload X6.here hx rfl (hb hby at_46) rfl ?_
    show Steps p.tables e below (T6.setTop (mkF m 48 #[.val (.int p1), .val (.long q2), .second, .val (.long q3), .second, .val (.long q4), .second, .val (.int (3 : Int32)), .val (.long vb), .second, .val (.long vc), .second, .unset, .unset, .unset, .unset, .unset] [(.int (3 : Int32)), (.ref b6), (.ref b6)])) _
    refine X6.ldc2Long hx hown (mvT hZ (hw _ (List.mem_of_getElem? (i := 4) rfl))) (g := (mkF m 48 #[.val (.int p1), .val (.long q2), .second, .val (.long q3), .second, .val (.long q4), .second, .val (.int (3 : Int32)), .val (.long vb), .second, .val (.long vc), .second, .unset, .unset, .unset, .unset, .unset] [(.int (3 : Int32)), (.ref b6), (.ref b6)])) rfl (hb hby at_48) _ ?_
    show Steps p.tables e below (T6.setTop (mkF m 51 #[.val (.int p1), .val (.long q2), .second, .val (.long q3), .second, .val (.long q4), .second, .val (.int (3 : Int32)), .val (.long vb), .second, .val (.long vc), .second, .unset, .unset, .unset, .unset, .unset] [(.long (-9223372036854775808 : Int64)), (.int (3 : Int32)), (.ref b6), (.ref b6)])) _
    refine st7.trans ?_
    show Steps p.tables e below (T7.setTop (mkF m 54 #[.val (.int p1), .val (.long q2), .second, .val (.long q3), .second, .val (.long q4), .second, .val (.int (3 : Int32)), .val (.long vb), .second, .val (.long vc), .second, .unset, .unset, .unset, .unset, .unset] [(.ref b6)])) _
    refine XS.astore X7.here hx rfl (hb hby at_54) rfl rfl (l' := #[.val (.int p1), .val (.long q2), .second, .val (.long q3), .second, .val (.long q4), .second, .val (.int (3 : Int32)), .val (.long vb), .second, .val (.long vc), .second, .val (.ref b6), .unset, .unset, .unset, .unset]) rfl ?_
    show Steps p.tables e below (T7.setTop (mkF m 56 #[.val (.int p1), .val (.long q2), .second, .val (.long q3), .second, .val (.long q4), .second, .val (.int (3 : Int32)), .val (.long vb), .second, .val (.long vc), .second, .val (.ref b6), .unset, .unset, .unset, .unset] [])) _
    refine XS.aload X7.here hx rfl (hb hby at_56) rfl rfl ?_
    show Steps p.tables e below (T7.setTop (mkF m 58 #[.val (.int p1), .val (.long q2), .second, .val (.long q3), .second, .val (.long q4), .second, .val (.int (3 : Int32)), .val (.long vb), .second, .val (.long vc), .second, .val (.ref b6), .unset, .unset, .unset, .unset] [(.ref b6)])) _
    refine XS.iconst X7.here hx rfl (hb hby at_58) ?_
    show Steps p.tables e below (T7.setTop (mkF m 59 #[.val (.int p1), .val (.long q2), .second, .val (.long q3), .second, .val (.long q4), .second, .val (.int (3 : Int32)), .val (.long vb), .second, .val (.long vc), .second, .val (.ref b6), .unset, .unset, .unset, .unset] [(.int (0 : Int32)), (.ref b6)])) _
    refine XS.lloadN X7.here hx rfl (hb hby at_59) rfl ?_
    show Steps p.tables e below (T7.setTop (mkF m 60 #[.val (.int p1), .val (.long q2), .second, .val (.long q3), .second, .val (.long q4), .second, .val (.int (3 : Int32)), .val (.long vb), .second, .val (.long vc), .second, .val (.ref b6), .unset, .unset, .unset, .unset] [(.long q2), (.int (0 : Int32)), (.ref b6)])) _
    refine st8.trans ?_
    show Steps p.tables e below (T8.setTop (mkF m 63 #[.val (.int p1), .val (.long q2), .second, .val (.long q3), .second, .val (.long q4), .second, .val (.int (3 : Int32)), .val (.long vb), .second, .val (.long vc), .second, .val (.ref b6), .unset, .unset, .unset, .unset] [])) _
    refine XS.iload X8.here hx rfl (hb hby at_63) rfl ?_
    show Steps p.tables e below (T8.setTop (mkF m 65 #[.val (.int p1), .val (.long q2), .second, .val (.long q3), .second, .val (.long q4), .second, .val (.int (3 : Int32)), .val (.long vb), .second, .val (.long vc), .second, .val (.ref b6), .unset, .unset, .unset, .unset] [(.int (3 : Int32))])) _
    refine XS.iconst X8.here hx rfl (hb hby at_65) ?_
    show Steps p.tables e below (T8.setTop (mkF m 66 #[.val (.int p1), .val (.long q2), .second, .val (.long q3), .second, .val (.long q4), .second, .val (.int (3 : Int32)), .val (.long vb), .second, .val (.long vc), .second, .val (.ref b6), .unset, .unset, .unset, .unset] [(.int (2 : Int32)), (.int (3 : Int32))])) _
    refine XS.icmpNo X8.here hx rfl (hb hby at_66) rfl (flt hc66).1 ?_
    show Steps p.tables e below (T8.setTop (mkF m 69 #[.val (.int p1), .val (.long q2), .second, .val (.long q3), .second, .val (.long q4), .second, .val (.int (3 : Int32)), .val (.long vb), .second, .val (.long vc), .second, .val (.ref b6), .unset, .unset, .unset, .unset] [])) _
    refine XS.aload X8.here hx rfl (hb hby at_69) rfl rfl ?_
    show Steps p.tables e below (T8.setTop (mkF m 71 #[.val (.int p1), .val (.long q2), .second, .val (.long q3), .second, .val (.long q4), .second, .val (.int (3 : Int32)), .val (.long vb), .second, .val (.long vc), .second, .val (.ref b6), .unset, .unset, .unset, .unset] [(.ref b6)])) _
    refine XS.iconst X8.here hx rfl (hb hby at_71) ?_
    show Steps p.tables e below (T8.setTop (mkF m 72 #[.val (.int p1), .val (.long q2), .second, .val (.long q3), .second, .val (.long q4), .second, .val (.int (3 : Int32)), .val (.long vb), .second, .val (.long vc), .second, .val (.ref b6), .unset, .unset, .unset, .unset] [(.int (1 : Int32)), (.ref b6)])) _
    refine XS.lload X8.here hx rfl (hb hby at_72) rfl ?_
    show Steps p.tables e below (T8.setTop (mkF m 74 #[.val (.int p1), .val (.long q2), .second, .val (.long q3), .second, .val (.long q4), .second, .val (.int (3 : Int32)), .val (.long vb), .second, .val (.long vc), .second, .val (.ref b6), .unset, .unset, .unset, .unset] [(.long vb), (.int (1 : Int32)), (.ref b6)])) _
    refine st9.trans ?_
    show Steps p.tables e below (T9.setTop (mkF m 77 #[.val (.int p1), .val (.long q2), .second, .val (.long q3), .second, .val (.long q4), .second, .val (.int (3 : Int32)), .val (.long vb), .second, .val (.long vc), .second, .val (.ref b6), .unset, .unset, .unset, .unset] [])) _
    refine XS.iload X9.here hx rfl (hb hby at_77) rfl ?_
    show Steps p.tables e below (T9.setTop (mkF m 79 #[.val (.int p1), .val (.long q2), .second, .val (.long q3), .second, .val (.long q4), .second, .val (.int (3 : Int32)), .val (.long vb), .second, .val (.long vc), .second, .val (.ref b6), .unset, .unset, .unset, .unset] [(.int (3 : Int32))])) _
    refine XS.iconst X9.here hx rfl (hb hby at_79) ?_
    show Steps p.tables e below (T9.setTop (mkF m 80 #[.val (.int p1), .val (.long q2), .second, .val (.long q3), .second, .val (.long q4), .second, .val (.int (3 : Int32)), .val (.long vb), .second, .val (.long vc), .second, .val (.ref b6), .unset, .unset, .unset, .unset] [(.int (3 : Int32)), (.int (3 : Int32))])) _
    refine XS.icmpNo X9.here hx rfl (hb hby at_80) rfl (flt hc80).1 ?_
    show Steps p.tables e below (T9.setTop (mkF m 83 #[.val (.int p1), .val (.long q2), .second, .val (.long q3), .second, .val (.long q4), .second, .val (.int (3 : Int32)), .val (.long vb), .second, .val (.long vc), .second, .val (.ref b6), .unset, .unset, .unset, .unset] [])) _
    refine XS.aload X9.here hx rfl (hb hby at_83) rfl rfl ?_
    show Steps p.tables e below (T9.setTop (mkF m 85 #[.val (.int p1), .val (.long q2), .second, .val (.long q3), .second, .val (.long q4), .second, .val (.int (3 : Int32)), .val (.long vb), .second, .val (.long vc), .second, .val (.ref b6), .unset, .unset, .unset, .unset] [(.ref b6)])) _
    refine XS.iconst X9.here hx rfl (hb hby at_85) ?_
    show Steps p.tables e below (T9.setTop (mkF m 86 #[.val (.int p1), .val (.long q2), .second, .val (.long q3), .second, .val (.long q4), .second, .val (.int (3 : Int32)), .val (.long vb), .second, .val (.long vc), .second, .val (.ref b6), .unset, .unset, .unset, .unset] [(.int (2 : Int32)), (.ref b6)])) _
    refine XS.lload X9.here hx rfl (hb hby at_86) rfl ?_
    show Steps p.tables e below (T9.setTop (mkF m 88 #[.val (.int p1), .val (.long q2), .second, .val (.long q3), .second, .val (.long q4), .second, .val (.int (3 : Int32)), .val (.long vb), .second, .val (.long vc), .second, .val (.ref b6), .unset, .unset, .unset, .unset] [(.long vc), (.int (2 : Int32)), (.ref b6)])) _
    refine st10.trans ?_
    show Steps p.tables e below (T10.setTop (mkF m 91 #[.val (.int p1), .val (.long q2), .second, .val (.long q3), .second, .val (.long q4), .second, .val (.int (3 : Int32)), .val (.long vb), .second, .val (.long vc), .second, .val (.ref b6), .unset, .unset, .unset, .unset] [])) _
    refine XS.lloadN X10.here hx rfl (hb hby at_91) rfl ?_
    show Steps p.tables e below (T10.setTop (mkF m 92 #[.val (.int p1), .val (.long q2), .second, .val (.long q3), .second, .val (.long q4), .second, .val (.int (3 : Int32)), .val (.long vb), .second, .val (.long vc), .second, .val (.ref b6), .unset, .unset, .unset, .unset] [(.long q2)])) _
    refine XS.lstore X10.here hx rfl (hb hby at_92) rfl (l' := #[.val (.int p1), .val (.long q2), .second, .val (.long q3), .second, .val (.long q4), .second, .val (.int (3 : Int32)), .val (.long vb), .second, .val (.long vc), .second, .val (.ref b6), .val (.long q2), .second, .unset, .unset]) rfl ?_
    show Steps p.tables e below (T10.setTop (mkF m 94 #[.val (.int p1), .val (.long q2), .second, .val (.long q3), .second, .val (.long q4), .second, .val (.int (3 : Int32)), .val (.long vb), .second, .val (.long vc), .second, .val (.ref b6), .val (.long q2), .second, .unset, .unset] [])) _
    refine XS.iload X10.here hx rfl (hb hby at_94) rfl ?_
    show Steps p.tables e below (T10.setTop (mkF m 96 #[.val (.int p1), .val (.long q2), .second, .val (.long q3), .second, .val (.long q4), .second, .val (.int (3 : Int32)), .val (.long vb), .second, .val (.long vc), .second, .val (.ref b6), .val (.long q2), .second, .unset, .unset] [(.int (3 : Int32))])) _
    refine XS.iconst X10.here hx rfl (hb hby at_96) ?_
    show Steps p.tables e below (T10.setTop (mkF m 97 #[.val (.int p1), .val (.long q2), .second, .val (.long q3), .second, .val (.long q4), .second, .val (.int (3 : Int32)), .val (.long vb), .second, .val (.long vc), .second, .val (.ref b6), .val (.long q2), .second, .unset, .unset] [(.int (2 : Int32)), (.int (3 : Int32))])) _
    refine XS.icmpNo X10.here hx rfl (hb hby at_97) rfl (flt hc97).1 ?_
    show Steps p.tables e below (T10.setTop (mkF m 100 #[.val (.int p1), .val (.long q2), .second, .val (.long q3), .second, .val (.long q4), .second, .val (.int (3 : Int32)), .val (.long vb), .second, .val (.long vc), .second, .val (.ref b6), .val (.long q2), .second, .unset, .unset] [])) _
    refine XS.lload X10.here hx rfl (hb hby at_100) rfl ?_
    show Steps p.tables e below (T10.setTop (mkF m 102 #[.val (.int p1), .val (.long q2), .second, .val (.long q3), .second, .val (.long q4), .second, .val (.int (3 : Int32)), .val (.long vb), .second, .val (.long vc), .second, .val (.ref b6), .val (.long q2), .second, .unset, .unset] [(.long q2)])) _
    refine XS.lload X10.here hx rfl (hb hby at_102) rfl ?_
    show Steps p.tables e below (T10.setTop (mkF m 104 #[.val (.int p1), .val (.long q2), .second, .val (.long q3), .second, .val (.long q4), .second, .val (.int (3 : Int32)), .val (.long vb), .second, .val (.long vc), .second, .val (.ref b6), .val (.long q2), .second, .unset, .unset] [(.long vb), (.long q2)])) _
    refine st11 _ ?_
    show Steps p.tables e below (T11.setTop (mkF m 107 #[.val (.int p1), .val (.long q2), .second, .val (.long q3), .second, .val (.long q4), .second, .val (.int (3 : Int32)), .val (.long vb), .second, .val (.long vc), .second, .val (.ref b6), .val (.long q2), .second, .unset, .unset] [(.long m1)])) _
    refine XS.lstore X11.here hx rfl (hb hby at_107) rfl (l' := #[.val (.int p1), .val (.long q2), .second, .val (.long q3), .second, .val (.long q4), .second, .val (.int (3 : Int32)), .val (.long vb), .second, .val (.long vc), .second, .val (.ref b6), .val (.long m1), .second, .unset, .unset]) rfl ?_
    show Steps p.tables e below (T11.setTop (mkF m 109 #[.val (.int p1), .val (.long q2), .second, .val (.long q3), .second, .val (.long q4), .second, .val (.int (3 : Int32)), .val (.long vb), .second, .val (.long vc), .second, .val (.ref b6), .val (.long m1), .second, .unset, .unset] [])) _
    refine XS.iload X11.here hx rfl (hb hby at_109) rfl ?_
    show Steps p.tables e below (T11.setTop (mkF m 111 #[.val (.int p1), .val (.long q2), .second, .val (.long q3), .second, .val (.long q4), .second, .val (.int (3 : Int32)), .val (.long vb), .second, .val (.long vc), .second, .val (.ref b6), .val (.long m1), .second, .unset, .unset] [(.int (3 : Int32))])) _
    refine XS.iconst X11.here hx rfl (hb hby at_111) ?_
    show Steps p.tables e below (T11.setTop (mkF m 112 #[.val (.int p1), .val (.long q2), .second, .val (.long q3), .second, .val (.long q4), .second, .val (.int (3 : Int32)), .val (.long vb), .second, .val (.long vc), .second, .val (.ref b6), .val (.long m1), .second, .unset, .unset] [(.int (3 : Int32)), (.int (3 : Int32))])) _
    refine XS.icmpNo X11.here hx rfl (hb hby at_112) rfl (flt hc112).1 ?_
    show Steps p.tables e below (T11.setTop (mkF m 115 #[.val (.int p1), .val (.long q2), .second, .val (.long q3), .second, .val (.long q4), .second, .val (.int (3 : Int32)), .val (.long vb), .second, .val (.long vc), .second, .val (.ref b6), .val (.long m1), .second, .unset, .unset] [])) _
    refine XS.lload X11.here hx rfl (hb hby at_115) rfl ?_
    show Steps p.tables e below (T11.setTop (mkF m 117 #[.val (.int p1), .val (.long q2), .second, .val (.long q3), .second, .val (.long q4), .second, .val (.int (3 : Int32)), .val (.long vb), .second, .val (.long vc), .second, .val (.ref b6), .val (.long m1), .second, .unset, .unset] [(.long m1)])) _
    refine XS.lload X11.here hx rfl (hb hby at_117) rfl ?_
    show Steps p.tables e below (T11.setTop (mkF m 119 #[.val (.int p1), .val (.long q2), .second, .val (.long q3), .second, .val (.long q4), .second, .val (.int (3 : Int32)), .val (.long vb), .second, .val (.long vc), .second, .val (.ref b6), .val (.long m1), .second, .unset, .unset] [(.long vc), (.long m1)])) _
    refine st12 _ ?_
    show Steps p.tables e below (T12.setTop (mkF m 122 #[.val (.int p1), .val (.long q2), .second, .val (.long q3), .second, .val (.long q4), .second, .val (.int (3 : Int32)), .val (.long vb), .second, .val (.long vc), .second, .val (.ref b6), .val (.long m1), .second, .unset, .unset] [(.long mm)])) _
    refine XS.lstore X12.here hx rfl (hb hby at_122) rfl (l' := #[.val (.int p1), .val (.long q2), .second, .val (.long q3), .second, .val (.long q4), .second, .val (.int (3 : Int32)), .val (.long vb), .second, .val (.long vc), .second, .val (.ref b6), .val (.long mm), .second, .unset, .unset]) rfl ?_
    show Steps p.tables e below (T12.setTop (mkF m 124 #[.val (.int p1), .val (.long q2), .second, .val (.long q3), .second, .val (.long q4), .second, .val (.int (3 : Int32)), .val (.long vb), .second, .val (.long vc), .second, .val (.ref b6), .val (.long mm), .second, .unset, .unset] [])) _
    refine XS.aload X12.here hx rfl (hb hby at_124) rfl rfl ?_
    show Steps p.tables e below (T12.setTop (mkF m 126 #[.val (.int p1), .val (.long q2), .second, .val (.long q3), .second, .val (.long q4), .second, .val (.int (3 : Int32)), .val (.long vb), .second, .val (.long vc), .second, .val (.ref b6), .val (.long mm), .second, .unset, .unset] [(.ref b6)])) _
    refine st13.trans ?_
    show Steps p.tables e below (T13.setTop (mkF m 129 #[.val (.int p1), .val (.long q2), .second, .val (.long q3), .second, .val (.long q4), .second, .val (.int (3 : Int32)), .val (.long vb), .second, .val (.long vc), .second, .val (.ref b6), .val (.long mm), .second, .unset, .unset] [(.long mm)])) _
    refine XS.lstore X13.here hx rfl (hb hby at_129) rfl (l' := #[.val (.int p1), .val (.long q2), .second, .val (.long q3), .second, .val (.long q4), .second, .val (.int (3 : Int32)), .val (.long vb), .second, .val (.long vc), .second, .val (.ref b6), .val (.long mm), .second, .val (.long mm), .second]) rfl ?_
    show Steps p.tables e below (T13.setTop (mkF m 131 #[.val (.int p1), .val (.long q2), .second, .val (.long q3), .second, .val (.long q4), .second, .val (.int (3 : Int32)), .val (.long vb), .second, .val (.long vc), .second, .val (.ref b6), .val (.long mm), .second, .val (.long mm), .second] [])) _
    refine XS.lload X13.here hx rfl (hb hby at_131) rfl ?_
    show Steps p.tables e below (T13.setTop (mkF m 133 #[.val (.int p1), .val (.long q2), .second, .val (.long q3), .second, .val (.long q4), .second, .val (.int (3 : Int32)), .val (.long vb), .second, .val (.long vc), .second, .val (.ref b6), .val (.long mm), .second, .val (.long mm), .second] [(.long mm)])) _
    refine XS.lload X13.here hx rfl (hb hby at_133) rfl ?_
    show Steps p.tables e below (T13.setTop (mkF m 135 #[.val (.int p1), .val (.long q2), .second, .val (.long q3), .second, .val (.long q4), .second, .val (.int (3 : Int32)), .val (.long vb), .second, .val (.long vc), .second, .val (.ref b6), .val (.long mm), .second, .val (.long mm), .second] [(.long mm), (.long mm)])) _
    refine XS.lcmp X13.here hx rfl (hb hby at_135) rfl ?_
    show Steps p.tables e below (T13.setTop (mkF m 136 #[.val (.int p1), .val (.long q2), .second, .val (.long q3), .second, .val (.long q4), .second, .val (.int (3 : Int32)), .val (.long vb), .second, .val (.long vc), .second, .val (.ref b6), .val (.long mm), .second, .val (.long mm), .second] [(.int (lcmpW mm mm))])) _
    refine XS.ifYes X13.here hx rfl (pc0 := 136) (pc' := 141) rfl (hb hby at_136) rfl ((if0 _ _).trans (teq (((lw_eq _ _).mpr rfl) : (lcmpW mm mm) = (0 : Int32))).1) (by decide) (by decide) ?_
    show Steps p.tables e below (T13.setTop (mkF m 141 #[.val (.int p1), .val (.long q2), .second, .val (.long q3), .second, .val (.long q4), .second, .val (.int (3 : Int32)), .val (.long vb), .second, .val (.long vc), .second, .val (.ref b6), .val (.long mm), .second, .val (.long mm), .second] [])) _
    refine XS.aload X13.here hx rfl (hb hby at_141) rfl rfl ?_
    show Steps p.tables e below (T13.setTop (mkF m 143 #[.val (.int p1), .val (.long q2), .second, .val (.long q3), .second, .val (.long q4), .second, .val (.int (3 : Int32)), .val (.long vb), .second, .val (.long vc), .second, .val (.ref b6), .val (.long mm), .second, .val (.long mm), .second] [(.ref b6)])) _
    refine st14.trans ?_
    show Steps p.tables e below (T14.setTop (mkF m 146 #[.val (.int p1), .val (.long q2), .second, .val (.long q3), .second, .val (.long q4), .second, .val (.int (3 : Int32)), .val (.long vb), .second, .val (.long vc), .second, .val (.ref b6), .val (.long mm), .second, .val (.long mm), .second] [(.long mm)])) _
    refine XS.lload X14.here hx rfl (hb hby at_146) rfl ?_
    show Steps p.tables e below (T14.setTop (mkF m 148 #[.val (.int p1), .val (.long q2), .second, .val (.long q3), .second, .val (.long q4), .second, .val (.int (3 : Int32)), .val (.long vb), .second, .val (.long vc), .second, .val (.ref b6), .val (.long mm), .second, .val (.long mm), .second] [(.long mm), (.long mm)])) _
    refine XS.lcmp X14.here hx rfl (hb hby at_148) rfl ?_
    show Steps p.tables e below (T14.setTop (mkF m 149 #[.val (.int p1), .val (.long q2), .second, .val (.long q3), .second, .val (.long q4), .second, .val (.int (3 : Int32)), .val (.long vb), .second, .val (.long vc), .second, .val (.ref b6), .val (.long mm), .second, .val (.long mm), .second] [(.int (lcmpW mm mm))])) _
    refine XS.ifYes X14.here hx rfl (pc0 := 149) (pc' := 154) rfl (hb hby at_149) rfl ((if0 _ _).trans (teq (((lw_eq _ _).mpr rfl) : (lcmpW mm mm) = (0 : Int32))).1) (by decide) (by decide) ?_
    show Steps p.tables e below (T14.setTop (mkF m 154 #[.val (.int p1), .val (.long q2), .second, .val (.long q3), .second, .val (.long q4), .second, .val (.int (3 : Int32)), .val (.long vb), .second, .val (.long vc), .second, .val (.ref b6), .val (.long mm), .second, .val (.long mm), .second] [])) _
    refine XS.lload X14.here hx rfl (hb hby at_154) rfl ?_
    show Steps p.tables e below (T14.setTop (mkF m 156 #[.val (.int p1), .val (.long q2), .second, .val (.long q3), .second, .val (.long q4), .second, .val (.int (3 : Int32)), .val (.long vb), .second, .val (.long vc), .second, .val (.ref b6), .val (.long mm), .second, .val (.long mm), .second] [(.long mm)])) _
    refine X14.ldc2Long hx hown (mvT hZ (hw _ (List.mem_of_getElem? (i := 43) rfl))) (g := (mkF m 156 #[.val (.int p1), .val (.long q2), .second, .val (.long q3), .second, .val (.long q4), .second, .val (.int (3 : Int32)), .val (.long vb), .second, .val (.long vc), .second, .val (.ref b6), .val (.long mm), .second, .val (.long mm), .second] [(.long mm)])) rfl (hb hby at_156) _ ?_
    show Steps p.tables e below (T14.setTop (mkF m 159 #[.val (.int p1), .val (.long q2), .second, .val (.long q3), .second, .val (.long q4), .second, .val (.int (3 : Int32)), .val (.long vb), .second, .val (.long vc), .second, .val (.ref b6), .val (.long mm), .second, .val (.long mm), .second] [(.long (9223372036854775807 : Int64)), (.long mm)])) _
    refine XS.lcmp X14.here hx rfl (hb hby at_159) rfl ?_
    show Steps p.tables e below (T14.setTop (mkF m 160 #[.val (.int p1), .val (.long q2), .second, .val (.long q3), .second, .val (.long q4), .second, .val (.int (3 : Int32)), .val (.long vb), .second, .val (.long vc), .second, .val (.ref b6), .val (.long mm), .second, .val (.long mm), .second] [(.int (lcmpW mm (9223372036854775807 : Int64)))])) _
    refine XS.ifYes X14.here hx rfl (pc0 := 160) (pc' := 177) rfl (hb hby at_160) rfl ((if0 _ _).trans (feq ((fun q => h160 ((lw_eq _ _).mp q)) : ¬ ((lcmpW mm (9223372036854775807 : Int64)) = (0 : Int32)))).2) (by decide) (by decide) ?_
    show Steps p.tables e below (T14.setTop (mkF m 177 #[.val (.int p1), .val (.long q2), .second, .val (.long q3), .second, .val (.long q4), .second, .val (.int (3 : Int32)), .val (.long vb), .second, .val (.long vc), .second, .val (.ref b6), .val (.long mm), .second, .val (.long mm), .second] [])) _
    refine XS.lloadN X14.here hx rfl (hb hby at_177) rfl ?_
    show Steps p.tables e below (T14.setTop (mkF m 178 #[.val (.int p1), .val (.long q2), .second, .val (.long q3), .second, .val (.long q4), .second, .val (.int (3 : Int32)), .val (.long vb), .second, .val (.long vc), .second, .val (.ref b6), .val (.long mm), .second, .val (.long mm), .second] [(.long q2)])) _
    refine XS.lload X14.here hx rfl (hb hby at_178) rfl ?_
    show Steps p.tables e below (T14.setTop (mkF m 180 #[.val (.int p1), .val (.long q2), .second, .val (.long q3), .second, .val (.long q4), .second, .val (.int (3 : Int32)), .val (.long vb), .second, .val (.long vc), .second, .val (.ref b6), .val (.long mm), .second, .val (.long mm), .second] [(.long mm), (.long q2)])) _
    refine XS.lcmp X14.here hx rfl (hb hby at_180) rfl ?_
    show Steps p.tables e below (T14.setTop (mkF m 181 #[.val (.int p1), .val (.long q2), .second, .val (.long q3), .second, .val (.long q4), .second, .val (.int (3 : Int32)), .val (.long vb), .second, .val (.long vc), .second, .val (.ref b6), .val (.long mm), .second, .val (.long mm), .second] [(.int (lcmpW q2 mm))])) _
    refine XS.ifNo X14.here hx rfl (hb hby at_181) rfl ((if0 _ _).trans (teq (((lw_eq _ _).mpr h181) : (lcmpW q2 mm) = (0 : Int32))).2) ?_
    show Steps p.tables e below (T14.setTop (mkF m 184 #[.val (.int p1), .val (.long q2), .second, .val (.long q3), .second, .val (.long q4), .second, .val (.int (3 : Int32)), .val (.long vb), .second, .val (.long vc), .second, .val (.ref b6), .val (.long mm), .second, .val (.long mm), .second] [])) _
    refine XS.aload X14.here hx rfl (hb hby at_184) rfl rfl ?_
    show Steps p.tables e below (T14.setTop (mkF m 186 #[.val (.int p1), .val (.long q2), .second, .val (.long q3), .second, .val (.long q4), .second, .val (.int (3 : Int32)), .val (.long vb), .second, .val (.long vc), .second, .val (.ref b6), .val (.long mm), .second, .val (.long mm), .second] [(.ref b6)])) _
    refine XS.iconst X14.here hx rfl (hb hby at_186) ?_
    show Steps p.tables e below (T14.setTop (mkF m 187 #[.val (.int p1), .val (.long q2), .second, .val (.long q3), .second, .val (.long q4), .second, .val (.int (3 : Int32)), .val (.long vb), .second, .val (.long vc), .second, .val (.ref b6), .val (.long mm), .second, .val (.long mm), .second] [(.int (0 : Int32)), (.ref b6)])) _
    refine X14.ldc2Long hx hown (mvT hZ (hw _ (List.mem_of_getElem? (i := 43) rfl))) (g := (mkF m 187 #[.val (.int p1), .val (.long q2), .second, .val (.long q3), .second, .val (.long q4), .second, .val (.int (3 : Int32)), .val (.long vb), .second, .val (.long vc), .second, .val (.ref b6), .val (.long mm), .second, .val (.long mm), .second] [(.int (0 : Int32)), (.ref b6)])) rfl (hb hby at_187) _ ?_
    show Steps p.tables e below (T14.setTop (mkF m 190 #[.val (.int p1), .val (.long q2), .second, .val (.long q3), .second, .val (.long q4), .second, .val (.int (3 : Int32)), .val (.long vb), .second, .val (.long vc), .second, .val (.ref b6), .val (.long mm), .second, .val (.long mm), .second] [(.long (9223372036854775807 : Int64)), (.int (0 : Int32)), (.ref b6)])) _
    refine st15.trans ?_
    show Steps p.tables e below (T15.setTop (mkF m 193 #[.val (.int p1), .val (.long q2), .second, .val (.long q3), .second, .val (.long q4), .second, .val (.int (3 : Int32)), .val (.long vb), .second, .val (.long vc), .second, .val (.ref b6), .val (.long mm), .second, .val (.long mm), .second] [])) _
    refine XS.iload X15.here hx rfl (hb hby at_193) rfl ?_
    show Steps p.tables e below (T15.setTop (mkF m 195 #[.val (.int p1), .val (.long q2), .second, .val (.long q3), .second, .val (.long q4), .second, .val (.int (3 : Int32)), .val (.long vb), .second, .val (.long vc), .second, .val (.ref b6), .val (.long mm), .second, .val (.long mm), .second] [(.int (3 : Int32))])) _
    refine XS.iconst X15.here hx rfl (hb hby at_195) ?_
    show Steps p.tables e below (T15.setTop (mkF m 196 #[.val (.int p1), .val (.long q2), .second, .val (.long q3), .second, .val (.long q4), .second, .val (.int (3 : Int32)), .val (.long vb), .second, .val (.long vc), .second, .val (.ref b6), .val (.long mm), .second, .val (.long mm), .second] [(.int (2 : Int32)), (.int (3 : Int32))])) _
    refine XS.icmpNo X15.here hx rfl (hb hby at_196) rfl (flt hc196).1 ?_
    show Steps p.tables e below (T15.setTop (mkF m 199 #[.val (.int p1), .val (.long q2), .second, .val (.long q3), .second, .val (.long q4), .second, .val (.int (3 : Int32)), .val (.long vb), .second, .val (.long vc), .second, .val (.ref b6), .val (.long mm), .second, .val (.long mm), .second] [])) _
    refine XS.lload X15.here hx rfl (hb hby at_199) rfl ?_
    show Steps p.tables e below (T15.setTop (mkF m 201 #[.val (.int p1), .val (.long q2), .second, .val (.long q3), .second, .val (.long q4), .second, .val (.int (3 : Int32)), .val (.long vb), .second, .val (.long vc), .second, .val (.ref b6), .val (.long mm), .second, .val (.long mm), .second] [(.long vb)])) _
    refine XS.lload X15.here hx rfl (hb hby at_201) rfl ?_
    show Steps p.tables e below (T15.setTop (mkF m 203 #[.val (.int p1), .val (.long q2), .second, .val (.long q3), .second, .val (.long q4), .second, .val (.int (3 : Int32)), .val (.long vb), .second, .val (.long vc), .second, .val (.ref b6), .val (.long mm), .second, .val (.long mm), .second] [(.long mm), (.long vb)])) _
    refine XS.lcmp X15.here hx rfl (hb hby at_203) rfl ?_
    show Steps p.tables e below (T15.setTop (mkF m 204 #[.val (.int p1), .val (.long q2), .second, .val (.long q3), .second, .val (.long q4), .second, .val (.int (3 : Int32)), .val (.long vb), .second, .val (.long vc), .second, .val (.ref b6), .val (.long mm), .second, .val (.long mm), .second] [(.int (lcmpW vb mm))])) _
    refine XS.ifYes X15.here hx rfl (pc0 := 204) (pc' := 216) rfl (hb hby at_204) rfl ((if0 _ _).trans (feq ((fun q => h204 ((lw_eq _ _).mp q)) : ¬ ((lcmpW vb mm) = (0 : Int32)))).2) (by decide) (by decide) ?_
    show Steps p.tables e below (T15.setTop (mkF m 216 #[.val (.int p1), .val (.long q2), .second, .val (.long q3), .second, .val (.long q4), .second, .val (.int (3 : Int32)), .val (.long vb), .second, .val (.long vc), .second, .val (.ref b6), .val (.long mm), .second, .val (.long mm), .second] [])) _
    refine XS.iload X15.here hx rfl (hb hby at_216) rfl ?_
    show Steps p.tables e below (T15.setTop (mkF m 218 #[.val (.int p1), .val (.long q2), .second, .val (.long q3), .second, .val (.long q4), .second, .val (.int (3 : Int32)), .val (.long vb), .second, .val (.long vc), .second, .val (.ref b6), .val (.long mm), .second, .val (.long mm), .second] [(.int (3 : Int32))])) _
    refine XS.iconst X15.here hx rfl (hb hby at_218) ?_
    show Steps p.tables e below (T15.setTop (mkF m 219 #[.val (.int p1), .val (.long q2), .second, .val (.long q3), .second, .val (.long q4), .second, .val (.int (3 : Int32)), .val (.long vb), .second, .val (.long vc), .second, .val (.ref b6), .val (.long mm), .second, .val (.long mm), .second] [(.int (3 : Int32)), (.int (3 : Int32))])) _
    refine XS.icmpNo X15.here hx rfl (hb hby at_219) rfl (flt hc219).1 ?_
    show Steps p.tables e below (T15.setTop (mkF m 222 #[.val (.int p1), .val (.long q2), .second, .val (.long q3), .second, .val (.long q4), .second, .val (.int (3 : Int32)), .val (.long vb), .second, .val (.long vc), .second, .val (.ref b6), .val (.long mm), .second, .val (.long mm), .second] [])) _
    refine XS.lload X15.here hx rfl (hb hby at_222) rfl ?_
    show Steps p.tables e below (T15.setTop (mkF m 224 #[.val (.int p1), .val (.long q2), .second, .val (.long q3), .second, .val (.long q4), .second, .val (.int (3 : Int32)), .val (.long vb), .second, .val (.long vc), .second, .val (.ref b6), .val (.long mm), .second, .val (.long mm), .second] [(.long vc)])) _
    refine XS.lload X15.here hx rfl (hb hby at_224) rfl ?_
    show Steps p.tables e below (T15.setTop (mkF m 226 #[.val (.int p1), .val (.long q2), .second, .val (.long q3), .second, .val (.long q4), .second, .val (.int (3 : Int32)), .val (.long vb), .second, .val (.long vc), .second, .val (.ref b6), .val (.long mm), .second, .val (.long mm), .second] [(.long mm), (.long vc)])) _
    refine XS.lcmp X15.here hx rfl (hb hby at_226) rfl ?_
    show Steps p.tables e below (T15.setTop (mkF m 227 #[.val (.int p1), .val (.long q2), .second, .val (.long q3), .second, .val (.long q4), .second, .val (.int (3 : Int32)), .val (.long vb), .second, .val (.long vc), .second, .val (.ref b6), .val (.long mm), .second, .val (.long mm), .second] [(.int (lcmpW vc mm))])) _
    refine XS.ifYes X15.here hx rfl (pc0 := 227) (pc' := 239) rfl (hb hby at_227) rfl ((if0 _ _).trans (feq ((fun q => h227 ((lw_eq _ _).mp q)) : ¬ ((lcmpW vc mm) = (0 : Int32)))).2) (by decide) (by decide) ?_
    show Steps p.tables e below (T15.setTop (mkF m 239 #[.val (.int p1), .val (.long q2), .second, .val (.long q3), .second, .val (.long q4), .second, .val (.int (3 : Int32)), .val (.long vb), .second, .val (.long vc), .second, .val (.ref b6), .val (.long mm), .second, .val (.long mm), .second] [])) _
    refine XS.aload X15.here hx rfl (hb hby at_239) rfl rfl ?_
    show Steps p.tables e below (T15.setTop (mkF m 241 #[.val (.int p1), .val (.long q2), .second, .val (.long q3), .second, .val (.long q4), .second, .val (.int (3 : Int32)), .val (.long vb), .second, .val (.long vc), .second, .val (.ref b6), .val (.long mm), .second, .val (.long mm), .second] [(.ref b6)])) _
    refine st16.trans ?_
    show Steps p.tables e below (T16.setTop (mkF m 244 #[.val (.int p1), .val (.long q2), .second, .val (.long q3), .second, .val (.long q4), .second, .val (.int (3 : Int32)), .val (.long vb), .second, .val (.long vc), .second, .val (.ref b6), .val (.long mm), .second, .val (.long mm), .second] [(.int (1 : Int32))])) _
    exact retN X16 hx (t := .boolean) Bd.returns (by simp) (hb hby at_244) hr
  · show Q0 Z p1 q2 q3 q4 h0 n0 _ T16.heap _
    exact ⟨rfl, N16⟩
set_option maxRecDepth 65536 in
set_option maxHeartbeats 40000000 in
theorem rm0_3nyy (l : Launch) (Z : State) (a0 : Array Value) (hw : ∀ d ∈ tables_1, d.before a0 Z = true) (ws : List Jvm.Cond) (p1 : Int32) (q2 : Int64) (q3 : Int64) (q4 : Int64) (h0 : Heap) (n0 : Nat) (Z0 : n0 ≤ h0.size) (vb vc mm : Int64) (hn : own_n p1 = 3) (hvb : own_vb p1 q2 q3 = vb) (hvc : own_vc p1 q2 q3 q4 = vc) (hm : mm = (own_mn (own_mn q2 vb) vc)) (h160 : ¬ (mm = (9223372036854775807 : Int64))) (h181 : ¬ (q2 = mm)) (h204 : vb = mm) (h227 : vc = mm) :
    MetFree l x (head1 (Jvm.Cond.code x code maxLocals ret :: ws) room_1) (fun a U => a = #[(.int p1), (.long q2), (.long q3), (.long q4)] ∧ Z.Warmed39 U.vm ∧ U.heap = h0) (fun _ _ _ _ _ => True) (fun _ U o U' => ∃ v L, o = .returned v ∧ Q0 Z p1 q2 q3 q4 h0 n0 v U'.heap L ∧ FrameEnd U o U' L room_1.cells room_1.slots) := by
  refine MetFree.of_bodySF (plainFor_of_name pn_0) hisR ?_
  intro p e s m args below meth c s₁ Bd hml0 hP hK
  obtain ⟨rfl, hZ, hh⟩ := hP
  have hx := Bd.exec
  have hby := Bd.bytes
  have hml : c.maxLocals = 17 := hml0
  have hown : s.vm.findClass "com/example/mullion/mullion/aggregators/FurthestBackFindSmallestPinLaw" = some m.cls := findClass_of_methodNamed Bd.named
  have hnm := (name_of_methodNamed Bd.named Bd.method).1
  have X0 : Stand p l e room_1 s m #[(.int p1), (.long q2), (.long q3), (.long q4)] below meth c s₁ [] 0 0 := Stand.of_body Bd
  have e0 : s₁.heap = h0 := by rw [← hh, Bd.state]; rfl
  have N0 := Fr.nil n0
  have pre0 : ∀ t, Steps p.tables e below (s₁.setTop (mkF m 0 #[.val (.int p1), .val (.long q2), .second, .val (.long q3), .second, .val (.long q4), .second, .unset, .unset, .unset, .unset, .unset, .unset, .unset, .unset, .unset, .unset] [])) t → Steps p.tables e below (s₁.setTop (entryFrame m #[(.int p1), (.long q2), (.long q3), (.long q4)] maxLocals)) t := fun t k => castTop (ef_0 m p1 q2 q3 q4) k
  have hc66 : ¬ ((3 : Int32) < (2 : Int32)) := (by decide)
  have hc80 : ¬ ((3 : Int32) < (3 : Int32)) := (by decide)
  have hc97 : ¬ ((3 : Int32) < (2 : Int32)) := (by decide)
  have hc112 : ¬ ((3 : Int32) < (3 : Int32)) := (by decide)
  have hc196 : ¬ ((3 : Int32) < (2 : Int32)) := (by decide)
  have hc219 : ¬ ((3 : Int32) < (3 : Int32)) := (by decide)
  obtain ⟨T5, X5, e5, st5⟩ := own_j0 p1 q2 q3 q4 (3 : Int32) vb vc hn hvb hvc X0 hx hZ hw hby hml hown e0
  obtain ⟨T6, h6, X6, e6, E6, A6, D6, -, st6⟩ := newO X5 hx hZ hown (hw _ (List.mem_of_getElem? (i := 1) rfl)) (hw _ (List.mem_of_getElem? (i := 2) rfl)) (hw _ (List.mem_of_getElem? (i := 3) rfl)) e5 (g := (mkF m 42 #[.val (.int p1), .val (.long q2), .second, .val (.long q3), .second, .val (.long q4), .second, .val (.int (3 : Int32)), .val (.long vb), .second, .val (.long vc), .second, .unset, .unset, .unset, .unset, .unset] [])) rfl (hb hby at_42) (by decide) (by decide)
  obtain ⟨b6, g6⟩ : ∃ z, z = h0.size := ⟨_, rfl⟩
  rw [← g6] at A6 D6 st6
  have F_values_b6 : Fld Z h6 b6 "com/example/mullion/mullion/aggregators/FurthestBack" "values" "[J" .null := D6 (Or.inr (hw _ (List.mem_of_getElem? (i := 13) rfl))) (ty := (.array .long)) (by decide)
  have F_mark_b6 : Fld Z h6 b6 "com/example/mullion/mullion/aggregators/FurthestBack" "mark" "J" (.long (0 : Int64)) := D6 (Or.inl (hw _ (List.mem_of_getElem? (i := 24) rfl))) (ty := .long) (by decide)
  have F_atOrBelowMark_b6 : Fld Z h6 b6 "com/example/mullion/mullion/aggregators/FurthestBack" "atOrBelowMark" "I" (.int (0 : Int32)) := D6 (Or.inl (hw _ (List.mem_of_getElem? (i := 26) rfl))) (ty := .int) (by decide)
  have E_b6 := A6
  have g_b6 : n0 ≤ b6 := Nat.le_trans Z0 (Nat.le_of_eq g6.symm)
  have sz_b6 : h0.size ≤ b6 := (Nat.le_trans (Keep.refl h0 []).1 (Nat.le_of_eq g6.symm))
  have K6 : Keep h0 h6 [] := (Keep.refl h0 []).ext E6
  obtain ⟨_, _, ⟨T7, L7, k7, n7⟩, -, X7, ⟨Lc7, hQ7, l7, y7, z7⟩, st7⟩ := X6.specialBack hx (y := (⟨"com/example/mullion/mullion/aggregators/FurthestBack", "<init>", "(IJ)V"⟩ : MethodName)) rfl hown (mvT hZ (hw _ (List.mem_of_getElem? (i := 5) rfl))) (mvT hZ (hw _ (List.mem_of_getElem? (i := 6) rfl))) (mvT hZ (hw _ (List.mem_of_getElem? (i := 7) rfl))) (by decide) (backOf (W := 1) (rm1 l Z a0 hw [] b6 (3 : Int32) (-9223372036854775808 : Int64) 3 h6 n0 (Nat.le_trans Z0 E6.1) (by decide) rfl (by decide) E_b6 F_values_b6 F_mark_b6 F_atOrBelowMark_b6 g_b6) hZ (hw _ (List.mem_of_getElem? (i := 7) rfl)) (hw _ (List.mem_of_getElem? (i := 3) rfl)) (by decide) (by decide)) (g := (mkF m 51 #[.val (.int p1), .val (.long q2), .second, .val (.long q3), .second, .val (.long q4), .second, .val (.int (3 : Int32)), .val (.long vb), .second, .val (.long vc), .second, .unset, .unset, .unset, .unset, .unset] [(.long (-9223372036854775808 : Int64)), (.int (3 : Int32)), (.ref b6), (.ref b6)])) rfl (by rw [hml]; rfl) (Steps.refl _) (a := b6) (argsL := [(.int (3 : Int32)), (.long (-9223372036854775808 : Int64))]) (rest := [(.ref b6)]) (lenOf pd_0_0 rfl) rfl (by show 2 * 0 + _ ≤ _; exact Nat.le_of_eq rfl) (hb hby at_51) (fun _ _ => ⟨rfl, e6, (by decide : 1 + 1 ≤ _), (by decide : 3 + 3 ≤ _)⟩)
  dsimp only [Pt.U, Pt.locs, Pt.cells, Pt.slots] at X7 l7 y7 z7 st7 hQ7
  subst l7 y7 z7
  obtain ⟨rfl, N7q, K7q, t, st, E7q, Fv7q, Fm7q, Fa7q, V7q⟩ := hQ7
  have N7 := Fr.app N0 N7q
  have z7q : n0 ≤ T7.heap.size := Nat.le_trans (Nat.le_trans Z0 E6.1) K7q.1
  have hne : b6 ≠ t := Nat.ne_of_lt (Nat.lt_of_lt_of_le E_b6.lt st)
  have g_t : n0 ≤ t := Nat.le_trans (Nat.le_trans Z0 E6.1) st
  obtain ⟨cq8, kq8, q8a, q8b, q8c⟩ := isOf hZ rfl E7q
  obtain ⟨_, _, ⟨T8, L8, k8, n8⟩, -, X8, ⟨Lc8, hQ8, l8, y8, z8⟩, st8⟩ := X7.virtualBack hx (y := (⟨"com/example/mullion/mullion/aggregators/FurthestBack", "moveOn", "(IJ)V"⟩ : MethodName)) (z := (⟨"com/example/mullion/mullion/aggregators/FurthestBack", "moveOn", "(IJ)V"⟩ : MethodName)) hown (mvT hZ (hw _ (List.mem_of_getElem? (i := 27) rfl))) (mvT hZ (hw _ (List.mem_of_getElem? (i := 28) rfl))) (notFace_of_selects (args := #[]) (mvT hZ (hw _ (List.mem_of_getElem? (i := 30) rfl)))) (mvT hZ (hw _ (List.mem_of_getElem? (i := 30) rfl))) (mvT hZ (hw _ (List.mem_of_getElem? (i := 29) rfl))) (by decide) (backOf (W := 0) (rm5 l Z a0 hw [] b6 (0 : Int32) q2 t 3 _ 0 _ _ T7.heap n0 z7q rfl (by decide) (by decide) E7q Fv7q Fm7q Fa7q V7q hne g_b6 g_t) hZ (hw _ (List.mem_of_getElem? (i := 31) rfl)) (hw _ (List.mem_of_getElem? (i := 3) rfl)) (by decide) (by decide)) q8a q8c (g := (mkF m 60 #[.val (.int p1), .val (.long q2), .second, .val (.long q3), .second, .val (.long q4), .second, .val (.int (3 : Int32)), .val (.long vb), .second, .val (.long vc), .second, .val (.ref b6), .unset, .unset, .unset, .unset] [(.long q2), (.int (0 : Int32)), (.ref b6)])) rfl (by rw [hml]; rfl) (Steps.refl _) (argsL := [(.int (0 : Int32)), (.long q2)]) (rest := []) (lenOf pd_0_0 rfl) rfl (by show 2 * 0 + _ ≤ _; exact Nat.le_of_eq rfl) (hb hby at_60) (fun _ _ => ⟨rfl, rfl, (by decide : 2 + 0 ≤ _), (by decide : 6 + 0 ≤ _)⟩)
  dsimp only [Pt.U, Pt.locs, Pt.cells, Pt.slots] at X8 l8 y8 z8 st8 hQ8
  subst l8 y8 z8
  obtain ⟨rfl, N8q, K8q, E8q, Fv8q, Fm8q, Fa8q, V8q⟩ := hQ8
  have N8 := Fr.app N7 N8q
  have z8q : n0 ≤ T8.heap.size := Nat.le_trans z7q K8q.1
  obtain ⟨cq9, kq9, q9a, q9b, q9c⟩ := isOf hZ rfl E8q
  obtain ⟨_, _, ⟨T9, L9, k9, n9⟩, -, X9, ⟨Lc9, hQ9, l9, y9, z9⟩, st9⟩ := X8.virtualBack hx (y := (⟨"com/example/mullion/mullion/aggregators/FurthestBack", "moveOn", "(IJ)V"⟩ : MethodName)) (z := (⟨"com/example/mullion/mullion/aggregators/FurthestBack", "moveOn", "(IJ)V"⟩ : MethodName)) hown (mvT hZ (hw _ (List.mem_of_getElem? (i := 27) rfl))) (mvT hZ (hw _ (List.mem_of_getElem? (i := 28) rfl))) (notFace_of_selects (args := #[]) (mvT hZ (hw _ (List.mem_of_getElem? (i := 30) rfl)))) (mvT hZ (hw _ (List.mem_of_getElem? (i := 30) rfl))) (mvT hZ (hw _ (List.mem_of_getElem? (i := 29) rfl))) (by decide) (backOf (W := 0) (rm5 l Z a0 hw [] b6 (1 : Int32) vb t 3 _ 1 _ _ T8.heap n0 z8q rfl (by decide) (by decide) E8q Fv8q Fm8q Fa8q V8q hne g_b6 g_t) hZ (hw _ (List.mem_of_getElem? (i := 31) rfl)) (hw _ (List.mem_of_getElem? (i := 3) rfl)) (by decide) (by decide)) q9a q9c (g := (mkF m 74 #[.val (.int p1), .val (.long q2), .second, .val (.long q3), .second, .val (.long q4), .second, .val (.int (3 : Int32)), .val (.long vb), .second, .val (.long vc), .second, .val (.ref b6), .unset, .unset, .unset, .unset] [(.long vb), (.int (1 : Int32)), (.ref b6)])) rfl (by rw [hml]; rfl) (Steps.refl _) (argsL := [(.int (1 : Int32)), (.long vb)]) (rest := []) (lenOf pd_0_0 rfl) rfl (by show 2 * 0 + _ ≤ _; exact Nat.le_of_eq rfl) (hb hby at_74) (fun _ _ => ⟨rfl, rfl, (by decide : 2 + 0 ≤ _), (by decide : 6 + 0 ≤ _)⟩)
  dsimp only [Pt.U, Pt.locs, Pt.cells, Pt.slots] at X9 l9 y9 z9 st9 hQ9
  subst l9 y9 z9
  obtain ⟨rfl, N9q, K9q, E9q, Fv9q, Fm9q, Fa9q, V9q⟩ := hQ9
  have N9 := Fr.app N8 N9q
  have z9q : n0 ≤ T9.heap.size := Nat.le_trans z8q K9q.1
  obtain ⟨cq10, kq10, q10a, q10b, q10c⟩ := isOf hZ rfl E9q
  obtain ⟨_, _, ⟨T10, L10, k10, n10⟩, -, X10, ⟨Lc10, hQ10, l10, y10, z10⟩, st10⟩ := X9.virtualBack hx (y := (⟨"com/example/mullion/mullion/aggregators/FurthestBack", "moveOn", "(IJ)V"⟩ : MethodName)) (z := (⟨"com/example/mullion/mullion/aggregators/FurthestBack", "moveOn", "(IJ)V"⟩ : MethodName)) hown (mvT hZ (hw _ (List.mem_of_getElem? (i := 27) rfl))) (mvT hZ (hw _ (List.mem_of_getElem? (i := 28) rfl))) (notFace_of_selects (args := #[]) (mvT hZ (hw _ (List.mem_of_getElem? (i := 30) rfl)))) (mvT hZ (hw _ (List.mem_of_getElem? (i := 30) rfl))) (mvT hZ (hw _ (List.mem_of_getElem? (i := 29) rfl))) (by decide) (backOf (W := 0) (rm5 l Z a0 hw [] b6 (2 : Int32) vc t 3 _ 2 _ _ T9.heap n0 z9q rfl (by decide) (by decide) E9q Fv9q Fm9q Fa9q V9q hne g_b6 g_t) hZ (hw _ (List.mem_of_getElem? (i := 31) rfl)) (hw _ (List.mem_of_getElem? (i := 3) rfl)) (by decide) (by decide)) q10a q10c (g := (mkF m 88 #[.val (.int p1), .val (.long q2), .second, .val (.long q3), .second, .val (.long q4), .second, .val (.int (3 : Int32)), .val (.long vb), .second, .val (.long vc), .second, .val (.ref b6), .unset, .unset, .unset, .unset] [(.long vc), (.int (2 : Int32)), (.ref b6)])) rfl (by rw [hml]; rfl) (Steps.refl _) (argsL := [(.int (2 : Int32)), (.long vc)]) (rest := []) (lenOf pd_0_0 rfl) rfl (by show 2 * 0 + _ ≤ _; exact Nat.le_of_eq rfl) (hb hby at_88) (fun _ _ => ⟨rfl, rfl, (by decide : 2 + 0 ≤ _), (by decide : 6 + 0 ≤ _)⟩)
  dsimp only [Pt.U, Pt.locs, Pt.cells, Pt.slots] at X10 l10 y10 z10 st10 hQ10
  subst l10 y10 z10
  obtain ⟨rfl, N10q, K10q, E10q, Fv10q, Fm10q, Fa10q, V10q⟩ := hQ10
  have N10 := Fr.app N9 N10q
  have z10q : n0 ≤ T10.heap.size := Nat.le_trans z9q K10q.1
  obtain ⟨_, _, ⟨T11, L11, k11, n11⟩, -, X11, ⟨Lc11, hQ11, l11, y11, z11⟩, st11⟩ := Jvm.LawKit.callS X10 hx (y := (⟨"java/lang/Math", "min", "(JJ)J"⟩ : MethodName)) hown (mvT hZ (hw _ (List.mem_of_getElem? (i := 49) rfl))) (mvT hZ (hw _ (List.mem_of_getElem? (i := 50) rfl))) (mvT hZ (hw _ (List.mem_of_getElem? (i := 51) rfl))) (mvT hZ (hw _ (List.mem_of_getElem? (i := 52) rfl))) (by decide) (backOf (W := 0) (rm9 l Z a0 hw [] q2 vb  T10.heap n0 z10q) hZ (hw _ (List.mem_of_getElem? (i := 52) rfl)) (hw _ (List.mem_of_getElem? (i := 51) rfl)) (by decide) (by decide)) (g := (mkF m 104 #[.val (.int p1), .val (.long q2), .second, .val (.long q3), .second, .val (.long q4), .second, .val (.int (3 : Int32)), .val (.long vb), .second, .val (.long vc), .second, .val (.ref b6), .val (.long q2), .second, .unset, .unset] [(.long vb), (.long q2)])) rfl (by rw [hml]; rfl) (argsL := [(.long q2), (.long vb)]) (rest := []) (lenOf pd_0_6 rfl) rfl (by show 2 * 0 + _ ≤ _; exact Nat.le_of_eq rfl) (hb hby at_104) (fun _ _ => ⟨rfl, rfl, (by decide : 2 + 0 ≤ _), (by decide : 6 + 0 ≤ _)⟩)
  dsimp only [Pt.U, Pt.locs, Pt.cells, Pt.slots] at X11 l11 y11 z11 st11 hQ11
  subst l11 y11 z11
  obtain ⟨hv11, N11q, e11q⟩ := hQ11
  have N11 := Fr.app N10 N11q
  obtain ⟨m1, hm1⟩ : ∃ z, z = own_mn q2 vb := ⟨_, rfl⟩
  rw [← hm1] at hv11
  subst hv11
  have z11q : n0 ≤ T11.heap.size := by rw [e11q]; exact z10q
  have E11q := E10q
  rw [← e11q] at E11q
  have Fv11q := Fv10q
  rw [← e11q] at Fv11q
  have Fm11q := Fm10q
  rw [← e11q] at Fm11q
  have Fa11q := Fa10q
  rw [← e11q] at Fa11q
  have V11q := V10q
  rw [← e11q] at V11q
  obtain ⟨_, _, ⟨T12, L12, k12, n12⟩, -, X12, ⟨Lc12, hQ12, l12, y12, z12⟩, st12⟩ := Jvm.LawKit.callS X11 hx (y := (⟨"java/lang/Math", "min", "(JJ)J"⟩ : MethodName)) hown (mvT hZ (hw _ (List.mem_of_getElem? (i := 49) rfl))) (mvT hZ (hw _ (List.mem_of_getElem? (i := 50) rfl))) (mvT hZ (hw _ (List.mem_of_getElem? (i := 51) rfl))) (mvT hZ (hw _ (List.mem_of_getElem? (i := 52) rfl))) (by decide) (backOf (W := 0) (rm9 l Z a0 hw [] m1 vc  T11.heap n0 z11q) hZ (hw _ (List.mem_of_getElem? (i := 52) rfl)) (hw _ (List.mem_of_getElem? (i := 51) rfl)) (by decide) (by decide)) (g := (mkF m 119 #[.val (.int p1), .val (.long q2), .second, .val (.long q3), .second, .val (.long q4), .second, .val (.int (3 : Int32)), .val (.long vb), .second, .val (.long vc), .second, .val (.ref b6), .val (.long m1), .second, .unset, .unset] [(.long vc), (.long m1)])) rfl (by rw [hml]; rfl) (argsL := [(.long m1), (.long vc)]) (rest := []) (lenOf pd_0_6 rfl) rfl (by show 2 * 0 + _ ≤ _; exact Nat.le_of_eq rfl) (hb hby at_119) (fun _ _ => ⟨rfl, rfl, (by decide : 2 + 0 ≤ _), (by decide : 6 + 0 ≤ _)⟩)
  dsimp only [Pt.U, Pt.locs, Pt.cells, Pt.slots] at X12 l12 y12 z12 st12 hQ12
  subst l12 y12 z12
  obtain ⟨hv12, N12q, e12q⟩ := hQ12
  have N12 := Fr.app N11 N12q
  rw [hm1, ← hm] at hv12
  subst hv12
  have z12q : n0 ≤ T12.heap.size := by rw [e12q]; exact z11q
  have E12q := E11q
  rw [← e12q] at E12q
  have Fv12q := Fv11q
  rw [← e12q] at Fv12q
  have Fm12q := Fm11q
  rw [← e12q] at Fm12q
  have Fa12q := Fa11q
  rw [← e12q] at Fa12q
  have V12q := V11q
  rw [← e12q] at V12q
  obtain ⟨cq13, kq13, q13a, q13b, q13c⟩ := isOf hZ rfl E12q
  obtain ⟨_, _, ⟨T13, L13, k13, n13⟩, -, X13, ⟨Lc13, hQ13, l13, y13, z13⟩, st13⟩ := X12.virtualBack hx (y := (⟨"com/example/mullion/mullion/aggregators/FurthestBack", "findSmallest", "()J"⟩ : MethodName)) (z := (⟨"com/example/mullion/mullion/aggregators/FurthestBack", "findSmallest", "()J"⟩ : MethodName)) hown (mvT hZ (hw _ (List.mem_of_getElem? (i := 32) rfl))) (mvT hZ (hw _ (List.mem_of_getElem? (i := 33) rfl))) (notFace_of_selects (args := #[]) (mvT hZ (hw _ (List.mem_of_getElem? (i := 35) rfl)))) (mvT hZ (hw _ (List.mem_of_getElem? (i := 35) rfl))) (mvT hZ (hw _ (List.mem_of_getElem? (i := 34) rfl))) (by decide) (backOf (W := 0) (rm6 l Z a0 hw [] b6 t 3 (fun j => if j = 2 then vc else if j = 1 then vb else if j = 0 then q2 else (-9223372036854775808 : Int64)) _ _ T12.heap n0 z12q (by decide) E12q Fv12q Fm12q Fa12q V12q hne g_b6) hZ (hw _ (List.mem_of_getElem? (i := 36) rfl)) (hw _ (List.mem_of_getElem? (i := 3) rfl)) (by decide) (by decide)) q13a q13c (g := (mkF m 126 #[.val (.int p1), .val (.long q2), .second, .val (.long q3), .second, .val (.long q4), .second, .val (.int (3 : Int32)), .val (.long vb), .second, .val (.long vc), .second, .val (.ref b6), .val (.long mm), .second, .unset, .unset] [(.ref b6)])) rfl (by rw [hml]; rfl) (Steps.refl _) (argsL := []) (rest := []) (lenOf pd_0_4 rfl) rfl (by show 2 * 0 + _ ≤ _; exact Nat.le_of_eq rfl) (hb hby at_126) (fun _ _ => ⟨rfl, rfl, (by decide : 2 + 0 ≤ _), (by decide : 6 + 0 ≤ _)⟩)
  dsimp only [Pt.U, Pt.locs, Pt.cells, Pt.slots] at X13 l13 y13 z13 st13 hQ13
  subst l13 y13 z13
  obtain ⟨hv13, N13q, K13q, E13q, Fv13q, Fm13q, Fa13q, V13q⟩ := hQ13
  have N13 := Fr.app N12 N13q
  have z13q : n0 ≤ T13.heap.size := Nat.le_trans z12q K13q.1
  have hfs : own_fs (fun j => if j = 2 then vc else if j = 1 then vb else if j = 0 then q2 else (-9223372036854775808 : Int64)) 3 0 ((9223372036854775807 : Int64), (0 : Int32)) = (mm, (own_is q2 mm + own_is vb mm + own_is vc mm)) := by show own_step (own_step (own_step ((9223372036854775807 : Int64), 0) q2) vb) vc = _; rw [own_first, own_second, hm]; exact own_third q2 vb vc
  rw [hfs] at hv13
  replace hv13 : _ = some (Value.long mm) := hv13
  subst hv13
  have Gm13q : Fld Z T13.heap b6 "com/example/mullion/mullion/aggregators/FurthestBack" "mark" "J" (.long mm) := by have q := Fm13q; rw [hfs] at q; exact q
  have Ga13q : Fld Z T13.heap b6 "com/example/mullion/mullion/aggregators/FurthestBack" "atOrBelowMark" "I" (.int (own_is q2 mm + own_is vb mm + own_is vc mm)) := by have q := Fa13q; rw [hfs] at q; exact q
  obtain ⟨cq14, kq14, q14a, q14b, q14c⟩ := isOf hZ rfl E13q
  obtain ⟨_, _, ⟨T14, L14, k14, n14⟩, -, X14, ⟨Lc14, hQ14, l14, y14, z14⟩, st14⟩ := X13.virtualBack hx (y := (⟨"com/example/mullion/mullion/aggregators/FurthestBack", "mark", "()J"⟩ : MethodName)) (z := (⟨"com/example/mullion/mullion/aggregators/FurthestBack", "mark", "()J"⟩ : MethodName)) hown (mvT hZ (hw _ (List.mem_of_getElem? (i := 38) rfl))) (mvT hZ (hw _ (List.mem_of_getElem? (i := 39) rfl))) (notFace_of_selects (args := #[]) (mvT hZ (hw _ (List.mem_of_getElem? (i := 41) rfl)))) (mvT hZ (hw _ (List.mem_of_getElem? (i := 41) rfl))) (mvT hZ (hw _ (List.mem_of_getElem? (i := 40) rfl))) (by decide) (backOf (W := 0) (rm7 l Z a0 hw [] b6 mm T13.heap n0 z13q Gm13q) hZ (hw _ (List.mem_of_getElem? (i := 42) rfl)) (hw _ (List.mem_of_getElem? (i := 3) rfl)) (by decide) (by decide)) q14a q14c (g := (mkF m 143 #[.val (.int p1), .val (.long q2), .second, .val (.long q3), .second, .val (.long q4), .second, .val (.int (3 : Int32)), .val (.long vb), .second, .val (.long vc), .second, .val (.ref b6), .val (.long mm), .second, .val (.long mm), .second] [(.ref b6)])) rfl (by rw [hml]; rfl) (Steps.refl _) (argsL := []) (rest := []) (lenOf pd_0_4 rfl) rfl (by show 2 * 0 + _ ≤ _; exact Nat.le_of_eq rfl) (hb hby at_143) (fun _ _ => ⟨rfl, rfl, (by decide : 2 + 0 ≤ _), (by decide : 6 + 0 ≤ _)⟩)
  dsimp only [Pt.U, Pt.locs, Pt.cells, Pt.slots] at X14 l14 y14 z14 st14 hQ14
  subst l14 y14 z14
  obtain ⟨rfl, N14q, e14q⟩ := hQ14
  have N14 := Fr.app N13 N14q
  have z14q : n0 ≤ T14.heap.size := by rw [e14q]; exact z13q
  have E14q := E13q
  rw [← e14q] at E14q
  have Fv14q := Fv13q
  rw [← e14q] at Fv14q
  have Fm14q := Gm13q
  rw [← e14q] at Fm14q
  have Fa14q := Ga13q
  rw [← e14q] at Fa14q
  have V14q := V13q
  rw [← e14q] at V14q
  obtain ⟨cq15, kq15, q15a, q15b, q15c⟩ := isOf hZ rfl E14q
  obtain ⟨_, _, ⟨T15, L15, k15, n15⟩, -, X15, ⟨Lc15, hQ15, l15, y15, z15⟩, st15⟩ := X14.virtualBack hx (y := (⟨"com/example/mullion/mullion/aggregators/FurthestBack", "moveOn", "(IJ)V"⟩ : MethodName)) (z := (⟨"com/example/mullion/mullion/aggregators/FurthestBack", "moveOn", "(IJ)V"⟩ : MethodName)) hown (mvT hZ (hw _ (List.mem_of_getElem? (i := 27) rfl))) (mvT hZ (hw _ (List.mem_of_getElem? (i := 28) rfl))) (notFace_of_selects (args := #[]) (mvT hZ (hw _ (List.mem_of_getElem? (i := 30) rfl)))) (mvT hZ (hw _ (List.mem_of_getElem? (i := 30) rfl))) (mvT hZ (hw _ (List.mem_of_getElem? (i := 29) rfl))) (by decide) (backOf (W := 0) (rm5 l Z a0 hw [] b6 (1 : Int32) (9223372036854775807 : Int64) t 3 _ 1 _ _ T14.heap n0 z14q rfl (by decide) (by decide) E14q Fv14q Fm14q Fa14q V14q hne g_b6 g_t) hZ (hw _ (List.mem_of_getElem? (i := 31) rfl)) (hw _ (List.mem_of_getElem? (i := 3) rfl)) (by decide) (by decide)) q15a q15c (g := (mkF m 213 #[.val (.int p1), .val (.long q2), .second, .val (.long q3), .second, .val (.long q4), .second, .val (.int (3 : Int32)), .val (.long vb), .second, .val (.long vc), .second, .val (.ref b6), .val (.long mm), .second, .val (.long mm), .second] [(.long (9223372036854775807 : Int64)), (.int (1 : Int32)), (.ref b6)])) rfl (by rw [hml]; rfl) (Steps.refl _) (argsL := [(.int (1 : Int32)), (.long (9223372036854775807 : Int64))]) (rest := []) (lenOf pd_0_0 rfl) rfl (by show 2 * 0 + _ ≤ _; exact Nat.le_of_eq rfl) (hb hby at_213) (fun _ _ => ⟨rfl, rfl, (by decide : 2 + 0 ≤ _), (by decide : 6 + 0 ≤ _)⟩)
  dsimp only [Pt.U, Pt.locs, Pt.cells, Pt.slots] at X15 l15 y15 z15 st15 hQ15
  subst l15 y15 z15
  obtain ⟨rfl, N15q, K15q, E15q, Fv15q, Fm15q, Fa15q, V15q⟩ := hQ15
  have N15 := Fr.app N14 N15q
  have z15q : n0 ≤ T15.heap.size := Nat.le_trans z14q K15q.1
  have Fb15q : Fld Z T15.heap b6 "com/example/mullion/mullion/aggregators/FurthestBack" "atOrBelowMark" "I" (.int ((own_is q2 mm + own_is vb mm + own_is vc mm) - (1 : Int32))) := by
    have q : Fld Z T15.heap b6 "com/example/mullion/mullion/aggregators/FurthestBack" "atOrBelowMark" "I" (.int (own_mv vb (9223372036854775807 : Int64) mm (own_is q2 mm + own_is vb mm + own_is vc mm))) := Fa15q
    rw [own_mv_dec (x := vb) (m := mm) h204 h160] at q
    exact q
  obtain ⟨cq16, kq16, q16a, q16b, q16c⟩ := isOf hZ rfl E15q
  obtain ⟨_, _, ⟨T16, L16, k16, n16⟩, -, X16, ⟨Lc16, hQ16, l16, y16, z16⟩, st16⟩ := X15.virtualBack hx (y := (⟨"com/example/mullion/mullion/aggregators/FurthestBack", "moveOn", "(IJ)V"⟩ : MethodName)) (z := (⟨"com/example/mullion/mullion/aggregators/FurthestBack", "moveOn", "(IJ)V"⟩ : MethodName)) hown (mvT hZ (hw _ (List.mem_of_getElem? (i := 27) rfl))) (mvT hZ (hw _ (List.mem_of_getElem? (i := 28) rfl))) (notFace_of_selects (args := #[]) (mvT hZ (hw _ (List.mem_of_getElem? (i := 30) rfl)))) (mvT hZ (hw _ (List.mem_of_getElem? (i := 30) rfl))) (mvT hZ (hw _ (List.mem_of_getElem? (i := 29) rfl))) (by decide) (backOf (W := 0) (rm5 l Z a0 hw [] b6 (2 : Int32) (9223372036854775807 : Int64) t 3 _ 2 _ _ T15.heap n0 z15q rfl (by decide) (by decide) E15q Fv15q Fm15q Fb15q V15q hne g_b6 g_t) hZ (hw _ (List.mem_of_getElem? (i := 31) rfl)) (hw _ (List.mem_of_getElem? (i := 3) rfl)) (by decide) (by decide)) q16a q16c (g := (mkF m 236 #[.val (.int p1), .val (.long q2), .second, .val (.long q3), .second, .val (.long q4), .second, .val (.int (3 : Int32)), .val (.long vb), .second, .val (.long vc), .second, .val (.ref b6), .val (.long mm), .second, .val (.long mm), .second] [(.long (9223372036854775807 : Int64)), (.int (2 : Int32)), (.ref b6)])) rfl (by rw [hml]; rfl) (Steps.refl _) (argsL := [(.int (2 : Int32)), (.long (9223372036854775807 : Int64))]) (rest := []) (lenOf pd_0_0 rfl) rfl (by show 2 * 0 + _ ≤ _; exact Nat.le_of_eq rfl) (hb hby at_236) (fun _ _ => ⟨rfl, rfl, (by decide : 2 + 0 ≤ _), (by decide : 6 + 0 ≤ _)⟩)
  dsimp only [Pt.U, Pt.locs, Pt.cells, Pt.slots] at X16 l16 y16 z16 st16 hQ16
  subst l16 y16 z16
  obtain ⟨rfl, N16q, K16q, E16q, Fv16q, Fm16q, Fa16q, V16q⟩ := hQ16
  have N16 := Fr.app N15 N16q
  have z16q : n0 ≤ T16.heap.size := Nat.le_trans z15q K16q.1
  have Fb16q : Fld Z T16.heap b6 "com/example/mullion/mullion/aggregators/FurthestBack" "atOrBelowMark" "I" (.int (((own_is q2 mm + own_is vb mm + own_is vc mm) - (1 : Int32)) - (1 : Int32))) := by
    have q : Fld Z T16.heap b6 "com/example/mullion/mullion/aggregators/FurthestBack" "atOrBelowMark" "I" (.int (own_mv vc (9223372036854775807 : Int64) mm ((own_is q2 mm + own_is vb mm + own_is vc mm) - (1 : Int32)))) := Fa16q
    rw [own_mv_dec (x := vc) (m := mm) h227 h160] at q
    exact q
  obtain ⟨cq17, kq17, q17a, q17b, q17c⟩ := isOf hZ rfl E16q
  obtain ⟨_, _, ⟨T17, L17, k17, n17⟩, -, X17, ⟨Lc17, hQ17, l17, y17, z17⟩, st17⟩ := X16.virtualBack hx (y := (⟨"com/example/mullion/mullion/aggregators/FurthestBack", "allMovedOn", "()Z"⟩ : MethodName)) (z := (⟨"com/example/mullion/mullion/aggregators/FurthestBack", "allMovedOn", "()Z"⟩ : MethodName)) hown (mvT hZ (hw _ (List.mem_of_getElem? (i := 44) rfl))) (mvT hZ (hw _ (List.mem_of_getElem? (i := 45) rfl))) (notFace_of_selects (args := #[]) (mvT hZ (hw _ (List.mem_of_getElem? (i := 47) rfl)))) (mvT hZ (hw _ (List.mem_of_getElem? (i := 47) rfl))) (mvT hZ (hw _ (List.mem_of_getElem? (i := 46) rfl))) (by decide) (backOf (W := 0) (rm8_f l Z a0 hw [] b6 (((own_is q2 mm + own_is vb mm + own_is vc mm) - (1 : Int32)) - (1 : Int32)) T16.heap n0 z16q Fb16q (by unfold own_is; rw [if_neg h181, if_pos h204, if_pos h227]; decide)) hZ (hw _ (List.mem_of_getElem? (i := 48) rfl)) (hw _ (List.mem_of_getElem? (i := 3) rfl)) (by decide) (by decide)) q17a q17c (g := (mkF m 241 #[.val (.int p1), .val (.long q2), .second, .val (.long q3), .second, .val (.long q4), .second, .val (.int (3 : Int32)), .val (.long vb), .second, .val (.long vc), .second, .val (.ref b6), .val (.long mm), .second, .val (.long mm), .second] [(.ref b6)])) rfl (by rw [hml]; rfl) (Steps.refl _) (argsL := []) (rest := []) (lenOf pd_0_5 rfl) rfl (by show 2 * 0 + _ ≤ _; exact Nat.le_of_eq rfl) (hb hby at_241) (fun _ _ => ⟨rfl, rfl, (by decide : 2 + 0 ≤ _), (by decide : 6 + 0 ≤ _)⟩)
  dsimp only [Pt.U, Pt.locs, Pt.cells, Pt.slots] at X17 l17 y17 z17 st17 hQ17
  subst l17 y17 z17
  obtain ⟨rfl, N17q, e17q⟩ := hQ17
  have N17 := Fr.app N16 N17q
  have z17q : n0 ≤ T17.heap.size := by rw [e17q]; exact z16q
  have E17q := E16q
  rw [← e17q] at E17q
  have Fv17q := Fv16q
  rw [← e17q] at Fv17q
  have Fm17q := Fm16q
  rw [← e17q] at Fm17q
  have Fa17q := Fb16q
  rw [← e17q] at Fa17q
  have V17q := V16q
  rw [← e17q] at V17q
  obtain ⟨fs, hr, hrun, hended, hW, hsame⟩ := X17.leave (v := some (.int (1 : Int32))) (fun h => by rw [Bd.returns] at h; cases h)
  refine ⟨_, _, pre0 _ ?_, hrun, hended, _, _, rfl, ?_, ⟨_, rfl⟩, hW, hsame.mono (by decide) (by decide)⟩
  · show Steps p.tables e below (s₁.setTop (mkF m 0 #[.val (.int p1), .val (.long q2), .second, .val (.long q3), .second, .val (.long q4), .second, .unset, .unset, .unset, .unset, .unset, .unset, .unset, .unset, .unset, .unset] [])) _
    refine st5 _ ?_
    show Steps p.tables e below (T5.setTop (mkF m 42 #[.val (.int p1), .val (.long q2), .second, .val (.long q3), .second, .val (.long q4), .second, .val (.int (3 : Int32)), .val (.long vb), .second, .val (.long vc), .second, .unset, .unset, .unset, .unset, .unset] [])) _
    refine st6 _ ?_
    show Steps p.tables e below (T6.setTop (mkF m 45 #[.val (.int p1), .val (.long q2), .second, .val (.long q3), .second, .val (.long q4), .second, .val (.int (3 : Int32)), .val (.long vb), .second, .val (.long vc), .second, .unset, .unset, .unset, .unset, .unset] [(.ref b6)])) _
    refine XS.dup X6.here hx rfl (hb hby at_45) rfl rfl ?_
    show Steps p.tables e below (T6.setTop (mkF m 46 #[.val (.int p1), .val (.long q2), .second, .val (.long q3), .second, .val (.long q4), .second, .val (.int (3 : Int32)), .val (.long vb), .second, .val (.long vc), .second, .unset, .unset, .unset, .unset, .unset] [(.ref b6), (.ref b6)])) _
    refine XS.iload X6.here hx rfl (hb hby at_46) rfl ?_
    show Steps p.tables e below (T6.setTop (mkF m 48 #[.val (.int p1), .val (.long q2), .second, .val (.long q3), .second, .val (.long q4), .second, .val (.int (3 : Int32)), .val (.long vb), .second, .val (.long vc), .second, .unset, .unset, .unset, .unset, .unset] [(.int (3 : Int32)), (.ref b6), (.ref b6)])) _
    refine X6.ldc2Long hx hown (mvT hZ (hw _ (List.mem_of_getElem? (i := 4) rfl))) (g := (mkF m 48 #[.val (.int p1), .val (.long q2), .second, .val (.long q3), .second, .val (.long q4), .second, .val (.int (3 : Int32)), .val (.long vb), .second, .val (.long vc), .second, .unset, .unset, .unset, .unset, .unset] [(.int (3 : Int32)), (.ref b6), (.ref b6)])) rfl (hb hby at_48) _ ?_
    show Steps p.tables e below (T6.setTop (mkF m 51 #[.val (.int p1), .val (.long q2), .second, .val (.long q3), .second, .val (.long q4), .second, .val (.int (3 : Int32)), .val (.long vb), .second, .val (.long vc), .second, .unset, .unset, .unset, .unset, .unset] [(.long (-9223372036854775808 : Int64)), (.int (3 : Int32)), (.ref b6), (.ref b6)])) _
    refine st7.trans ?_
    show Steps p.tables e below (T7.setTop (mkF m 54 #[.val (.int p1), .val (.long q2), .second, .val (.long q3), .second, .val (.long q4), .second, .val (.int (3 : Int32)), .val (.long vb), .second, .val (.long vc), .second, .unset, .unset, .unset, .unset, .unset] [(.ref b6)])) _
    refine XS.astore X7.here hx rfl (hb hby at_54) rfl rfl (l' := #[.val (.int p1), .val (.long q2), .second, .val (.long q3), .second, .val (.long q4), .second, .val (.int (3 : Int32)), .val (.long vb), .second, .val (.long vc), .second, .val (.ref b6), .unset, .unset, .unset, .unset]) rfl ?_
    show Steps p.tables e below (T7.setTop (mkF m 56 #[.val (.int p1), .val (.long q2), .second, .val (.long q3), .second, .val (.long q4), .second, .val (.int (3 : Int32)), .val (.long vb), .second, .val (.long vc), .second, .val (.ref b6), .unset, .unset, .unset, .unset] [])) _
    refine XS.aload X7.here hx rfl (hb hby at_56) rfl rfl ?_
    show Steps p.tables e below (T7.setTop (mkF m 58 #[.val (.int p1), .val (.long q2), .second, .val (.long q3), .second, .val (.long q4), .second, .val (.int (3 : Int32)), .val (.long vb), .second, .val (.long vc), .second, .val (.ref b6), .unset, .unset, .unset, .unset] [(.ref b6)])) _
    refine XS.iconst X7.here hx rfl (hb hby at_58) ?_
    show Steps p.tables e below (T7.setTop (mkF m 59 #[.val (.int p1), .val (.long q2), .second, .val (.long q3), .second, .val (.long q4), .second, .val (.int (3 : Int32)), .val (.long vb), .second, .val (.long vc), .second, .val (.ref b6), .unset, .unset, .unset, .unset] [(.int (0 : Int32)), (.ref b6)])) _
    refine XS.lloadN X7.here hx rfl (hb hby at_59) rfl ?_
    show Steps p.tables e below (T7.setTop (mkF m 60 #[.val (.int p1), .val (.long q2), .second, .val (.long q3), .second, .val (.long q4), .second, .val (.int (3 : Int32)), .val (.long vb), .second, .val (.long vc), .second, .val (.ref b6), .unset, .unset, .unset, .unset] [(.long q2), (.int (0 : Int32)), (.ref b6)])) _
    refine st8.trans ?_
    show Steps p.tables e below (T8.setTop (mkF m 63 #[.val (.int p1), .val (.long q2), .second, .val (.long q3), .second, .val (.long q4), .second, .val (.int (3 : Int32)), .val (.long vb), .second, .val (.long vc), .second, .val (.ref b6), .unset, .unset, .unset, .unset] [])) _
    refine XS.iload X8.here hx rfl (hb hby at_63) rfl ?_
    show Steps p.tables e below (T8.setTop (mkF m 65 #[.val (.int p1), .val (.long q2), .second, .val (.long q3), .second, .val (.long q4), .second, .val (.int (3 : Int32)), .val (.long vb), .second, .val (.long vc), .second, .val (.ref b6), .unset, .unset, .unset, .unset] [(.int (3 : Int32))])) _
    refine XS.iconst X8.here hx rfl (hb hby at_65) ?_
    show Steps p.tables e below (T8.setTop (mkF m 66 #[.val (.int p1), .val (.long q2), .second, .val (.long q3), .second, .val (.long q4), .second, .val (.int (3 : Int32)), .val (.long vb), .second, .val (.long vc), .second, .val (.ref b6), .unset, .unset, .unset, .unset] [(.int (2 : Int32)), (.int (3 : Int32))])) _
    refine XS.icmpNo X8.here hx rfl (hb hby at_66) rfl (flt hc66).1 ?_
    show Steps p.tables e below (T8.setTop (mkF m 69 #[.val (.int p1), .val (.long q2), .second, .val (.long q3), .second, .val (.long q4), .second, .val (.int (3 : Int32)), .val (.long vb), .second, .val (.long vc), .second, .val (.ref b6), .unset, .unset, .unset, .unset] [])) _
    refine XS.aload X8.here hx rfl (hb hby at_69) rfl rfl ?_
    show Steps p.tables e below (T8.setTop (mkF m 71 #[.val (.int p1), .val (.long q2), .second, .val (.long q3), .second, .val (.long q4), .second, .val (.int (3 : Int32)), .val (.long vb), .second, .val (.long vc), .second, .val (.ref b6), .unset, .unset, .unset, .unset] [(.ref b6)])) _
    refine XS.iconst X8.here hx rfl (hb hby at_71) ?_
    show Steps p.tables e below (T8.setTop (mkF m 72 #[.val (.int p1), .val (.long q2), .second, .val (.long q3), .second, .val (.long q4), .second, .val (.int (3 : Int32)), .val (.long vb), .second, .val (.long vc), .second, .val (.ref b6), .unset, .unset, .unset, .unset] [(.int (1 : Int32)), (.ref b6)])) _
    refine XS.lload X8.here hx rfl (hb hby at_72) rfl ?_
    show Steps p.tables e below (T8.setTop (mkF m 74 #[.val (.int p1), .val (.long q2), .second, .val (.long q3), .second, .val (.long q4), .second, .val (.int (3 : Int32)), .val (.long vb), .second, .val (.long vc), .second, .val (.ref b6), .unset, .unset, .unset, .unset] [(.long vb), (.int (1 : Int32)), (.ref b6)])) _
    refine st9.trans ?_
    show Steps p.tables e below (T9.setTop (mkF m 77 #[.val (.int p1), .val (.long q2), .second, .val (.long q3), .second, .val (.long q4), .second, .val (.int (3 : Int32)), .val (.long vb), .second, .val (.long vc), .second, .val (.ref b6), .unset, .unset, .unset, .unset] [])) _
    refine XS.iload X9.here hx rfl (hb hby at_77) rfl ?_
    show Steps p.tables e below (T9.setTop (mkF m 79 #[.val (.int p1), .val (.long q2), .second, .val (.long q3), .second, .val (.long q4), .second, .val (.int (3 : Int32)), .val (.long vb), .second, .val (.long vc), .second, .val (.ref b6), .unset, .unset, .unset, .unset] [(.int (3 : Int32))])) _
    refine XS.iconst X9.here hx rfl (hb hby at_79) ?_
    show Steps p.tables e below (T9.setTop (mkF m 80 #[.val (.int p1), .val (.long q2), .second, .val (.long q3), .second, .val (.long q4), .second, .val (.int (3 : Int32)), .val (.long vb), .second, .val (.long vc), .second, .val (.ref b6), .unset, .unset, .unset, .unset] [(.int (3 : Int32)), (.int (3 : Int32))])) _
    refine XS.icmpNo X9.here hx rfl (hb hby at_80) rfl (flt hc80).1 ?_
    show Steps p.tables e below (T9.setTop (mkF m 83 #[.val (.int p1), .val (.long q2), .second, .val (.long q3), .second, .val (.long q4), .second, .val (.int (3 : Int32)), .val (.long vb), .second, .val (.long vc), .second, .val (.ref b6), .unset, .unset, .unset, .unset] [])) _
    refine XS.aload X9.here hx rfl (hb hby at_83) rfl rfl ?_
    show Steps p.tables e below (T9.setTop (mkF m 85 #[.val (.int p1), .val (.long q2), .second, .val (.long q3), .second, .val (.long q4), .second, .val (.int (3 : Int32)), .val (.long vb), .second, .val (.long vc), .second, .val (.ref b6), .unset, .unset, .unset, .unset] [(.ref b6)])) _
    refine XS.iconst X9.here hx rfl (hb hby at_85) ?_
    show Steps p.tables e below (T9.setTop (mkF m 86 #[.val (.int p1), .val (.long q2), .second, .val (.long q3), .second, .val (.long q4), .second, .val (.int (3 : Int32)), .val (.long vb), .second, .val (.long vc), .second, .val (.ref b6), .unset, .unset, .unset, .unset] [(.int (2 : Int32)), (.ref b6)])) _
    refine XS.lload X9.here hx rfl (hb hby at_86) rfl ?_
    show Steps p.tables e below (T9.setTop (mkF m 88 #[.val (.int p1), .val (.long q2), .second, .val (.long q3), .second, .val (.long q4), .second, .val (.int (3 : Int32)), .val (.long vb), .second, .val (.long vc), .second, .val (.ref b6), .unset, .unset, .unset, .unset] [(.long vc), (.int (2 : Int32)), (.ref b6)])) _
    refine st10.trans ?_
    show Steps p.tables e below (T10.setTop (mkF m 91 #[.val (.int p1), .val (.long q2), .second, .val (.long q3), .second, .val (.long q4), .second, .val (.int (3 : Int32)), .val (.long vb), .second, .val (.long vc), .second, .val (.ref b6), .unset, .unset, .unset, .unset] [])) _
    refine XS.lloadN X10.here hx rfl (hb hby at_91) rfl ?_
    show Steps p.tables e below (T10.setTop (mkF m 92 #[.val (.int p1), .val (.long q2), .second, .val (.long q3), .second, .val (.long q4), .second, .val (.int (3 : Int32)), .val (.long vb), .second, .val (.long vc), .second, .val (.ref b6), .unset, .unset, .unset, .unset] [(.long q2)])) _
    refine XS.lstore X10.here hx rfl (hb hby at_92) rfl (l' := #[.val (.int p1), .val (.long q2), .second, .val (.long q3), .second, .val (.long q4), .second, .val (.int (3 : Int32)), .val (.long vb), .second, .val (.long vc), .second, .val (.ref b6), .val (.long q2), .second, .unset, .unset]) rfl ?_
    show Steps p.tables e below (T10.setTop (mkF m 94 #[.val (.int p1), .val (.long q2), .second, .val (.long q3), .second, .val (.long q4), .second, .val (.int (3 : Int32)), .val (.long vb), .second, .val (.long vc), .second, .val (.ref b6), .val (.long q2), .second, .unset, .unset] [])) _
    refine XS.iload X10.here hx rfl (hb hby at_94) rfl ?_
    show Steps p.tables e below (T10.setTop (mkF m 96 #[.val (.int p1), .val (.long q2), .second, .val (.long q3), .second, .val (.long q4), .second, .val (.int (3 : Int32)), .val (.long vb), .second, .val (.long vc), .second, .val (.ref b6), .val (.long q2), .second, .unset, .unset] [(.int (3 : Int32))])) _
    refine XS.iconst X10.here hx rfl (hb hby at_96) ?_
    show Steps p.tables e below (T10.setTop (mkF m 97 #[.val (.int p1), .val (.long q2), .second, .val (.long q3), .second, .val (.long q4), .second, .val (.int (3 : Int32)), .val (.long vb), .second, .val (.long vc), .second, .val (.ref b6), .val (.long q2), .second, .unset, .unset] [(.int (2 : Int32)), (.int (3 : Int32))])) _
    refine XS.icmpNo X10.here hx rfl (hb hby at_97) rfl (flt hc97).1 ?_
    show Steps p.tables e below (T10.setTop (mkF m 100 #[.val (.int p1), .val (.long q2), .second, .val (.long q3), .second, .val (.long q4), .second, .val (.int (3 : Int32)), .val (.long vb), .second, .val (.long vc), .second, .val (.ref b6), .val (.long q2), .second, .unset, .unset] [])) _
    refine XS.lload X10.here hx rfl (hb hby at_100) rfl ?_
    show Steps p.tables e below (T10.setTop (mkF m 102 #[.val (.int p1), .val (.long q2), .second, .val (.long q3), .second, .val (.long q4), .second, .val (.int (3 : Int32)), .val (.long vb), .second, .val (.long vc), .second, .val (.ref b6), .val (.long q2), .second, .unset, .unset] [(.long q2)])) _
    refine XS.lload X10.here hx rfl (hb hby at_102) rfl ?_
    show Steps p.tables e below (T10.setTop (mkF m 104 #[.val (.int p1), .val (.long q2), .second, .val (.long q3), .second, .val (.long q4), .second, .val (.int (3 : Int32)), .val (.long vb), .second, .val (.long vc), .second, .val (.ref b6), .val (.long q2), .second, .unset, .unset] [(.long vb), (.long q2)])) _
    refine st11 _ ?_
    show Steps p.tables e below (T11.setTop (mkF m 107 #[.val (.int p1), .val (.long q2), .second, .val (.long q3), .second, .val (.long q4), .second, .val (.int (3 : Int32)), .val (.long vb), .second, .val (.long vc), .second, .val (.ref b6), .val (.long q2), .second, .unset, .unset] [(.long m1)])) _
    refine XS.lstore X11.here hx rfl (hb hby at_107) rfl (l' := #[.val (.int p1), .val (.long q2), .second, .val (.long q3), .second, .val (.long q4), .second, .val (.int (3 : Int32)), .val (.long vb), .second, .val (.long vc), .second, .val (.ref b6), .val (.long m1), .second, .unset, .unset]) rfl ?_
    show Steps p.tables e below (T11.setTop (mkF m 109 #[.val (.int p1), .val (.long q2), .second, .val (.long q3), .second, .val (.long q4), .second, .val (.int (3 : Int32)), .val (.long vb), .second, .val (.long vc), .second, .val (.ref b6), .val (.long m1), .second, .unset, .unset] [])) _
    refine XS.iload X11.here hx rfl (hb hby at_109) rfl ?_
    show Steps p.tables e below (T11.setTop (mkF m 111 #[.val (.int p1), .val (.long q2), .second, .val (.long q3), .second, .val (.long q4), .second, .val (.int (3 : Int32)), .val (.long vb), .second, .val (.long vc), .second, .val (.ref b6), .val (.long m1), .second, .unset, .unset] [(.int (3 : Int32))])) _
    refine XS.iconst X11.here hx rfl (hb hby at_111) ?_
    show Steps p.tables e below (T11.setTop (mkF m 112 #[.val (.int p1), .val (.long q2), .second, .val (.long q3), .second, .val (.long q4), .second, .val (.int (3 : Int32)), .val (.long vb), .second, .val (.long vc), .second, .val (.ref b6), .val (.long m1), .second, .unset, .unset] [(.int (3 : Int32)), (.int (3 : Int32))])) _
    refine XS.icmpNo X11.here hx rfl (hb hby at_112) rfl (flt hc112).1 ?_
    show Steps p.tables e below (T11.setTop (mkF m 115 #[.val (.int p1), .val (.long q2), .second, .val (.long q3), .second, .val (.long q4), .second, .val (.int (3 : Int32)), .val (.long vb), .second, .val (.long vc), .second, .val (.ref b6), .val (.long m1), .second, .unset, .unset] [])) _
    refine XS.lload X11.here hx rfl (hb hby at_115) rfl ?_
    show Steps p.tables e below (T11.setTop (mkF m 117 #[.val (.int p1), .val (.long q2), .second, .val (.long q3), .second, .val (.long q4), .second, .val (.int (3 : Int32)), .val (.long vb), .second, .val (.long vc), .second, .val (.ref b6), .val (.long m1), .second, .unset, .unset] [(.long m1)])) _
    refine XS.lload X11.here hx rfl (hb hby at_117) rfl ?_
    show Steps p.tables e below (T11.setTop (mkF m 119 #[.val (.int p1), .val (.long q2), .second, .val (.long q3), .second, .val (.long q4), .second, .val (.int (3 : Int32)), .val (.long vb), .second, .val (.long vc), .second, .val (.ref b6), .val (.long m1), .second, .unset, .unset] [(.long vc), (.long m1)])) _
    refine st12 _ ?_
    show Steps p.tables e below (T12.setTop (mkF m 122 #[.val (.int p1), .val (.long q2), .second, .val (.long q3), .second, .val (.long q4), .second, .val (.int (3 : Int32)), .val (.long vb), .second, .val (.long vc), .second, .val (.ref b6), .val (.long m1), .second, .unset, .unset] [(.long mm)])) _
    refine XS.lstore X12.here hx rfl (hb hby at_122) rfl (l' := #[.val (.int p1), .val (.long q2), .second, .val (.long q3), .second, .val (.long q4), .second, .val (.int (3 : Int32)), .val (.long vb), .second, .val (.long vc), .second, .val (.ref b6), .val (.long mm), .second, .unset, .unset]) rfl ?_
    show Steps p.tables e below (T12.setTop (mkF m 124 #[.val (.int p1), .val (.long q2), .second, .val (.long q3), .second, .val (.long q4), .second, .val (.int (3 : Int32)), .val (.long vb), .second, .val (.long vc), .second, .val (.ref b6), .val (.long mm), .second, .unset, .unset] [])) _
    refine XS.aload X12.here hx rfl (hb hby at_124) rfl rfl ?_
    show Steps p.tables e below (T12.setTop (mkF m 126 #[.val (.int p1), .val (.long q2), .second, .val (.long q3), .second, .val (.long q4), .second, .val (.int (3 : Int32)), .val (.long vb), .second, .val (.long vc), .second, .val (.ref b6), .val (.long mm), .second, .unset, .unset] [(.ref b6)])) _
    refine st13.trans ?_
    show Steps p.tables e below (T13.setTop (mkF m 129 #[.val (.int p1), .val (.long q2), .second, .val (.long q3), .second, .val (.long q4), .second, .val (.int (3 : Int32)), .val (.long vb), .second, .val (.long vc), .second, .val (.ref b6), .val (.long mm), .second, .unset, .unset] [(.long mm)])) _
    refine XS.lstore X13.here hx rfl (hb hby at_129) rfl (l' := #[.val (.int p1), .val (.long q2), .second, .val (.long q3), .second, .val (.long q4), .second, .val (.int (3 : Int32)), .val (.long vb), .second, .val (.long vc), .second, .val (.ref b6), .val (.long mm), .second, .val (.long mm), .second]) rfl ?_
    show Steps p.tables e below (T13.setTop (mkF m 131 #[.val (.int p1), .val (.long q2), .second, .val (.long q3), .second, .val (.long q4), .second, .val (.int (3 : Int32)), .val (.long vb), .second, .val (.long vc), .second, .val (.ref b6), .val (.long mm), .second, .val (.long mm), .second] [])) _
    refine XS.lload X13.here hx rfl (hb hby at_131) rfl ?_
    show Steps p.tables e below (T13.setTop (mkF m 133 #[.val (.int p1), .val (.long q2), .second, .val (.long q3), .second, .val (.long q4), .second, .val (.int (3 : Int32)), .val (.long vb), .second, .val (.long vc), .second, .val (.ref b6), .val (.long mm), .second, .val (.long mm), .second] [(.long mm)])) _
    refine XS.lload X13.here hx rfl (hb hby at_133) rfl ?_
    show Steps p.tables e below (T13.setTop (mkF m 135 #[.val (.int p1), .val (.long q2), .second, .val (.long q3), .second, .val (.long q4), .second, .val (.int (3 : Int32)), .val (.long vb), .second, .val (.long vc), .second, .val (.ref b6), .val (.long mm), .second, .val (.long mm), .second] [(.long mm), (.long mm)])) _
    refine XS.lcmp X13.here hx rfl (hb hby at_135) rfl ?_
    show Steps p.tables e below (T13.setTop (mkF m 136 #[.val (.int p1), .val (.long q2), .second, .val (.long q3), .second, .val (.long q4), .second, .val (.int (3 : Int32)), .val (.long vb), .second, .val (.long vc), .second, .val (.ref b6), .val (.long mm), .second, .val (.long mm), .second] [(.int (lcmpW mm mm))])) _
    refine XS.ifYes X13.here hx rfl (pc0 := 136) (pc' := 141) rfl (hb hby at_136) rfl ((if0 _ _).trans (teq (((lw_eq _ _).mpr rfl) : (lcmpW mm mm) = (0 : Int32))).1) (by decide) (by decide) ?_
    show Steps p.tables e below (T13.setTop (mkF m 141 #[.val (.int p1), .val (.long q2), .second, .val (.long q3), .second, .val (.long q4), .second, .val (.int (3 : Int32)), .val (.long vb), .second, .val (.long vc), .second, .val (.ref b6), .val (.long mm), .second, .val (.long mm), .second] [])) _
    refine XS.aload X13.here hx rfl (hb hby at_141) rfl rfl ?_
    show Steps p.tables e below (T13.setTop (mkF m 143 #[.val (.int p1), .val (.long q2), .second, .val (.long q3), .second, .val (.long q4), .second, .val (.int (3 : Int32)), .val (.long vb), .second, .val (.long vc), .second, .val (.ref b6), .val (.long mm), .second, .val (.long mm), .second] [(.ref b6)])) _
    refine st14.trans ?_
    show Steps p.tables e below (T14.setTop (mkF m 146 #[.val (.int p1), .val (.long q2), .second, .val (.long q3), .second, .val (.long q4), .second, .val (.int (3 : Int32)), .val (.long vb), .second, .val (.long vc), .second, .val (.ref b6), .val (.long mm), .second, .val (.long mm), .second] [(.long mm)])) _
    refine XS.lload X14.here hx rfl (hb hby at_146) rfl ?_
    show Steps p.tables e below (T14.setTop (mkF m 148 #[.val (.int p1), .val (.long q2), .second, .val (.long q3), .second, .val (.long q4), .second, .val (.int (3 : Int32)), .val (.long vb), .second, .val (.long vc), .second, .val (.ref b6), .val (.long mm), .second, .val (.long mm), .second] [(.long mm), (.long mm)])) _
    refine XS.lcmp X14.here hx rfl (hb hby at_148) rfl ?_
    show Steps p.tables e below (T14.setTop (mkF m 149 #[.val (.int p1), .val (.long q2), .second, .val (.long q3), .second, .val (.long q4), .second, .val (.int (3 : Int32)), .val (.long vb), .second, .val (.long vc), .second, .val (.ref b6), .val (.long mm), .second, .val (.long mm), .second] [(.int (lcmpW mm mm))])) _
    refine XS.ifYes X14.here hx rfl (pc0 := 149) (pc' := 154) rfl (hb hby at_149) rfl ((if0 _ _).trans (teq (((lw_eq _ _).mpr rfl) : (lcmpW mm mm) = (0 : Int32))).1) (by decide) (by decide) ?_
    show Steps p.tables e below (T14.setTop (mkF m 154 #[.val (.int p1), .val (.long q2), .second, .val (.long q3), .second, .val (.long q4), .second, .val (.int (3 : Int32)), .val (.long vb), .second, .val (.long vc), .second, .val (.ref b6), .val (.long mm), .second, .val (.long mm), .second] [])) _
    refine XS.lload X14.here hx rfl (hb hby at_154) rfl ?_
    show Steps p.tables e below (T14.setTop (mkF m 156 #[.val (.int p1), .val (.long q2), .second, .val (.long q3), .second, .val (.long q4), .second, .val (.int (3 : Int32)), .val (.long vb), .second, .val (.long vc), .second, .val (.ref b6), .val (.long mm), .second, .val (.long mm), .second] [(.long mm)])) _
    refine X14.ldc2Long hx hown (mvT hZ (hw _ (List.mem_of_getElem? (i := 43) rfl))) (g := (mkF m 156 #[.val (.int p1), .val (.long q2), .second, .val (.long q3), .second, .val (.long q4), .second, .val (.int (3 : Int32)), .val (.long vb), .second, .val (.long vc), .second, .val (.ref b6), .val (.long mm), .second, .val (.long mm), .second] [(.long mm)])) rfl (hb hby at_156) _ ?_
    show Steps p.tables e below (T14.setTop (mkF m 159 #[.val (.int p1), .val (.long q2), .second, .val (.long q3), .second, .val (.long q4), .second, .val (.int (3 : Int32)), .val (.long vb), .second, .val (.long vc), .second, .val (.ref b6), .val (.long mm), .second, .val (.long mm), .second] [(.long (9223372036854775807 : Int64)), (.long mm)])) _
    refine XS.lcmp X14.here hx rfl (hb hby at_159) rfl ?_
    show Steps p.tables e below (T14.setTop (mkF m 160 #[.val (.int p1), .val (.long q2), .second, .val (.long q3), .second, .val (.long q4), .second, .val (.int (3 : Int32)), .val (.long vb), .second, .val (.long vc), .second, .val (.ref b6), .val (.long mm), .second, .val (.long mm), .second] [(.int (lcmpW mm (9223372036854775807 : Int64)))])) _
    refine XS.ifYes X14.here hx rfl (pc0 := 160) (pc' := 177) rfl (hb hby at_160) rfl ((if0 _ _).trans (feq ((fun q => h160 ((lw_eq _ _).mp q)) : ¬ ((lcmpW mm (9223372036854775807 : Int64)) = (0 : Int32)))).2) (by decide) (by decide) ?_
    show Steps p.tables e below (T14.setTop (mkF m 177 #[.val (.int p1), .val (.long q2), .second, .val (.long q3), .second, .val (.long q4), .second, .val (.int (3 : Int32)), .val (.long vb), .second, .val (.long vc), .second, .val (.ref b6), .val (.long mm), .second, .val (.long mm), .second] [])) _
    refine XS.lloadN X14.here hx rfl (hb hby at_177) rfl ?_
    show Steps p.tables e below (T14.setTop (mkF m 178 #[.val (.int p1), .val (.long q2), .second, .val (.long q3), .second, .val (.long q4), .second, .val (.int (3 : Int32)), .val (.long vb), .second, .val (.long vc), .second, .val (.ref b6), .val (.long mm), .second, .val (.long mm), .second] [(.long q2)])) _
    refine XS.lload X14.here hx rfl (hb hby at_178) rfl ?_
    show Steps p.tables e below (T14.setTop (mkF m 180 #[.val (.int p1), .val (.long q2), .second, .val (.long q3), .second, .val (.long q4), .second, .val (.int (3 : Int32)), .val (.long vb), .second, .val (.long vc), .second, .val (.ref b6), .val (.long mm), .second, .val (.long mm), .second] [(.long mm), (.long q2)])) _
    refine XS.lcmp X14.here hx rfl (hb hby at_180) rfl ?_
    show Steps p.tables e below (T14.setTop (mkF m 181 #[.val (.int p1), .val (.long q2), .second, .val (.long q3), .second, .val (.long q4), .second, .val (.int (3 : Int32)), .val (.long vb), .second, .val (.long vc), .second, .val (.ref b6), .val (.long mm), .second, .val (.long mm), .second] [(.int (lcmpW q2 mm))])) _
    refine XS.ifYes X14.here hx rfl (pc0 := 181) (pc' := 193) rfl (hb hby at_181) rfl ((if0 _ _).trans (feq ((fun q => h181 ((lw_eq _ _).mp q)) : ¬ ((lcmpW q2 mm) = (0 : Int32)))).2) (by decide) (by decide) ?_
    show Steps p.tables e below (T14.setTop (mkF m 193 #[.val (.int p1), .val (.long q2), .second, .val (.long q3), .second, .val (.long q4), .second, .val (.int (3 : Int32)), .val (.long vb), .second, .val (.long vc), .second, .val (.ref b6), .val (.long mm), .second, .val (.long mm), .second] [])) _
    refine XS.iload X14.here hx rfl (hb hby at_193) rfl ?_
    show Steps p.tables e below (T14.setTop (mkF m 195 #[.val (.int p1), .val (.long q2), .second, .val (.long q3), .second, .val (.long q4), .second, .val (.int (3 : Int32)), .val (.long vb), .second, .val (.long vc), .second, .val (.ref b6), .val (.long mm), .second, .val (.long mm), .second] [(.int (3 : Int32))])) _
    refine XS.iconst X14.here hx rfl (hb hby at_195) ?_
    show Steps p.tables e below (T14.setTop (mkF m 196 #[.val (.int p1), .val (.long q2), .second, .val (.long q3), .second, .val (.long q4), .second, .val (.int (3 : Int32)), .val (.long vb), .second, .val (.long vc), .second, .val (.ref b6), .val (.long mm), .second, .val (.long mm), .second] [(.int (2 : Int32)), (.int (3 : Int32))])) _
    refine XS.icmpNo X14.here hx rfl (hb hby at_196) rfl (flt hc196).1 ?_
    show Steps p.tables e below (T14.setTop (mkF m 199 #[.val (.int p1), .val (.long q2), .second, .val (.long q3), .second, .val (.long q4), .second, .val (.int (3 : Int32)), .val (.long vb), .second, .val (.long vc), .second, .val (.ref b6), .val (.long mm), .second, .val (.long mm), .second] [])) _
    refine XS.lload X14.here hx rfl (hb hby at_199) rfl ?_
    show Steps p.tables e below (T14.setTop (mkF m 201 #[.val (.int p1), .val (.long q2), .second, .val (.long q3), .second, .val (.long q4), .second, .val (.int (3 : Int32)), .val (.long vb), .second, .val (.long vc), .second, .val (.ref b6), .val (.long mm), .second, .val (.long mm), .second] [(.long vb)])) _
    refine XS.lload X14.here hx rfl (hb hby at_201) rfl ?_
    show Steps p.tables e below (T14.setTop (mkF m 203 #[.val (.int p1), .val (.long q2), .second, .val (.long q3), .second, .val (.long q4), .second, .val (.int (3 : Int32)), .val (.long vb), .second, .val (.long vc), .second, .val (.ref b6), .val (.long mm), .second, .val (.long mm), .second] [(.long mm), (.long vb)])) _
    refine XS.lcmp X14.here hx rfl (hb hby at_203) rfl ?_
    show Steps p.tables e below (T14.setTop (mkF m 204 #[.val (.int p1), .val (.long q2), .second, .val (.long q3), .second, .val (.long q4), .second, .val (.int (3 : Int32)), .val (.long vb), .second, .val (.long vc), .second, .val (.ref b6), .val (.long mm), .second, .val (.long mm), .second] [(.int (lcmpW vb mm))])) _
    refine XS.ifNo X14.here hx rfl (hb hby at_204) rfl ((if0 _ _).trans (teq (((lw_eq _ _).mpr h204) : (lcmpW vb mm) = (0 : Int32))).2) ?_
    show Steps p.tables e below (T14.setTop (mkF m 207 #[.val (.int p1), .val (.long q2), .second, .val (.long q3), .second, .val (.long q4), .second, .val (.int (3 : Int32)), .val (.long vb), .second, .val (.long vc), .second, .val (.ref b6), .val (.long mm), .second, .val (.long mm), .second] [])) _
    refine XS.aload X14.here hx rfl (hb hby at_207) rfl rfl ?_
    show Steps p.tables e below (T14.setTop (mkF m 209 #[.val (.int p1), .val (.long q2), .second, .val (.long q3), .second, .val (.long q4), .second, .val (.int (3 : Int32)), .val (.long vb), .second, .val (.long vc), .second, .val (.ref b6), .val (.long mm), .second, .val (.long mm), .second] [(.ref b6)])) _
    refine XS.iconst X14.here hx rfl (hb hby at_209) ?_
    show Steps p.tables e below (T14.setTop (mkF m 210 #[.val (.int p1), .val (.long q2), .second, .val (.long q3), .second, .val (.long q4), .second, .val (.int (3 : Int32)), .val (.long vb), .second, .val (.long vc), .second, .val (.ref b6), .val (.long mm), .second, .val (.long mm), .second] [(.int (1 : Int32)), (.ref b6)])) _
    refine X14.ldc2Long hx hown (mvT hZ (hw _ (List.mem_of_getElem? (i := 43) rfl))) (g := (mkF m 210 #[.val (.int p1), .val (.long q2), .second, .val (.long q3), .second, .val (.long q4), .second, .val (.int (3 : Int32)), .val (.long vb), .second, .val (.long vc), .second, .val (.ref b6), .val (.long mm), .second, .val (.long mm), .second] [(.int (1 : Int32)), (.ref b6)])) rfl (hb hby at_210) _ ?_
    show Steps p.tables e below (T14.setTop (mkF m 213 #[.val (.int p1), .val (.long q2), .second, .val (.long q3), .second, .val (.long q4), .second, .val (.int (3 : Int32)), .val (.long vb), .second, .val (.long vc), .second, .val (.ref b6), .val (.long mm), .second, .val (.long mm), .second] [(.long (9223372036854775807 : Int64)), (.int (1 : Int32)), (.ref b6)])) _
    refine st15.trans ?_
    show Steps p.tables e below (T15.setTop (mkF m 216 #[.val (.int p1), .val (.long q2), .second, .val (.long q3), .second, .val (.long q4), .second, .val (.int (3 : Int32)), .val (.long vb), .second, .val (.long vc), .second, .val (.ref b6), .val (.long mm), .second, .val (.long mm), .second] [])) _
    refine XS.iload X15.here hx rfl (hb hby at_216) rfl ?_
    show Steps p.tables e below (T15.setTop (mkF m 218 #[.val (.int p1), .val (.long q2), .second, .val (.long q3), .second, .val (.long q4), .second, .val (.int (3 : Int32)), .val (.long vb), .second, .val (.long vc), .second, .val (.ref b6), .val (.long mm), .second, .val (.long mm), .second] [(.int (3 : Int32))])) _
    refine XS.iconst X15.here hx rfl (hb hby at_218) ?_
    show Steps p.tables e below (T15.setTop (mkF m 219 #[.val (.int p1), .val (.long q2), .second, .val (.long q3), .second, .val (.long q4), .second, .val (.int (3 : Int32)), .val (.long vb), .second, .val (.long vc), .second, .val (.ref b6), .val (.long mm), .second, .val (.long mm), .second] [(.int (3 : Int32)), (.int (3 : Int32))])) _
    refine XS.icmpNo X15.here hx rfl (hb hby at_219) rfl (flt hc219).1 ?_
    show Steps p.tables e below (T15.setTop (mkF m 222 #[.val (.int p1), .val (.long q2), .second, .val (.long q3), .second, .val (.long q4), .second, .val (.int (3 : Int32)), .val (.long vb), .second, .val (.long vc), .second, .val (.ref b6), .val (.long mm), .second, .val (.long mm), .second] [])) _
    refine XS.lload X15.here hx rfl (hb hby at_222) rfl ?_
    show Steps p.tables e below (T15.setTop (mkF m 224 #[.val (.int p1), .val (.long q2), .second, .val (.long q3), .second, .val (.long q4), .second, .val (.int (3 : Int32)), .val (.long vb), .second, .val (.long vc), .second, .val (.ref b6), .val (.long mm), .second, .val (.long mm), .second] [(.long vc)])) _
    refine XS.lload X15.here hx rfl (hb hby at_224) rfl ?_
    show Steps p.tables e below (T15.setTop (mkF m 226 #[.val (.int p1), .val (.long q2), .second, .val (.long q3), .second, .val (.long q4), .second, .val (.int (3 : Int32)), .val (.long vb), .second, .val (.long vc), .second, .val (.ref b6), .val (.long mm), .second, .val (.long mm), .second] [(.long mm), (.long vc)])) _
    refine XS.lcmp X15.here hx rfl (hb hby at_226) rfl ?_
    show Steps p.tables e below (T15.setTop (mkF m 227 #[.val (.int p1), .val (.long q2), .second, .val (.long q3), .second, .val (.long q4), .second, .val (.int (3 : Int32)), .val (.long vb), .second, .val (.long vc), .second, .val (.ref b6), .val (.long mm), .second, .val (.long mm), .second] [(.int (lcmpW vc mm))])) _
    refine XS.ifNo X15.here hx rfl (hb hby at_227) rfl ((if0 _ _).trans (teq (((lw_eq _ _).mpr h227) : (lcmpW vc mm) = (0 : Int32))).2) ?_
    show Steps p.tables e below (T15.setTop (mkF m 230 #[.val (.int p1), .val (.long q2), .second, .val (.long q3), .second, .val (.long q4), .second, .val (.int (3 : Int32)), .val (.long vb), .second, .val (.long vc), .second, .val (.ref b6), .val (.long mm), .second, .val (.long mm), .second] [])) _
    refine XS.aload X15.here hx rfl (hb hby at_230) rfl rfl ?_
    show Steps p.tables e below (T15.setTop (mkF m 232 #[.val (.int p1), .val (.long q2), .second, .val (.long q3), .second, .val (.long q4), .second, .val (.int (3 : Int32)), .val (.long vb), .second, .val (.long vc), .second, .val (.ref b6), .val (.long mm), .second, .val (.long mm), .second] [(.ref b6)])) _
    refine XS.iconst X15.here hx rfl (hb hby at_232) ?_
    show Steps p.tables e below (T15.setTop (mkF m 233 #[.val (.int p1), .val (.long q2), .second, .val (.long q3), .second, .val (.long q4), .second, .val (.int (3 : Int32)), .val (.long vb), .second, .val (.long vc), .second, .val (.ref b6), .val (.long mm), .second, .val (.long mm), .second] [(.int (2 : Int32)), (.ref b6)])) _
    refine X15.ldc2Long hx hown (mvT hZ (hw _ (List.mem_of_getElem? (i := 43) rfl))) (g := (mkF m 233 #[.val (.int p1), .val (.long q2), .second, .val (.long q3), .second, .val (.long q4), .second, .val (.int (3 : Int32)), .val (.long vb), .second, .val (.long vc), .second, .val (.ref b6), .val (.long mm), .second, .val (.long mm), .second] [(.int (2 : Int32)), (.ref b6)])) rfl (hb hby at_233) _ ?_
    show Steps p.tables e below (T15.setTop (mkF m 236 #[.val (.int p1), .val (.long q2), .second, .val (.long q3), .second, .val (.long q4), .second, .val (.int (3 : Int32)), .val (.long vb), .second, .val (.long vc), .second, .val (.ref b6), .val (.long mm), .second, .val (.long mm), .second] [(.long (9223372036854775807 : Int64)), (.int (2 : Int32)), (.ref b6)])) _
    refine st16.trans ?_
    show Steps p.tables e below (T16.setTop (mkF m 239 #[.val (.int p1), .val (.long q2), .second, .val (.long q3), .second, .val (.long q4), .second, .val (.int (3 : Int32)), .val (.long vb), .second, .val (.long vc), .second, .val (.ref b6), .val (.long mm), .second, .val (.long mm), .second] [])) _
    refine XS.aload X16.here hx rfl (hb hby at_239) rfl rfl ?_
    show Steps p.tables e below (T16.setTop (mkF m 241 #[.val (.int p1), .val (.long q2), .second, .val (.long q3), .second, .val (.long q4), .second, .val (.int (3 : Int32)), .val (.long vb), .second, .val (.long vc), .second, .val (.ref b6), .val (.long mm), .second, .val (.long mm), .second] [(.ref b6)])) _
    refine st17.trans ?_
    show Steps p.tables e below (T17.setTop (mkF m 244 #[.val (.int p1), .val (.long q2), .second, .val (.long q3), .second, .val (.long q4), .second, .val (.int (3 : Int32)), .val (.long vb), .second, .val (.long vc), .second, .val (.ref b6), .val (.long mm), .second, .val (.long mm), .second] [(.int (1 : Int32))])) _
    exact retN X17 hx (t := .boolean) Bd.returns (by simp) (hb hby at_244) hr
  · show Q0 Z p1 q2 q3 q4 h0 n0 _ T17.heap _
    exact ⟨rfl, N17⟩
set_option maxRecDepth 65536 in
set_option maxHeartbeats 40000000 in
theorem rm0_3nyn (l : Launch) (Z : State) (a0 : Array Value) (hw : ∀ d ∈ tables_1, d.before a0 Z = true) (ws : List Jvm.Cond) (p1 : Int32) (q2 : Int64) (q3 : Int64) (q4 : Int64) (h0 : Heap) (n0 : Nat) (Z0 : n0 ≤ h0.size) (vb vc mm : Int64) (hn : own_n p1 = 3) (hvb : own_vb p1 q2 q3 = vb) (hvc : own_vc p1 q2 q3 q4 = vc) (hm : mm = (own_mn (own_mn q2 vb) vc)) (h160 : ¬ (mm = (9223372036854775807 : Int64))) (h181 : ¬ (q2 = mm)) (h204 : vb = mm) (h227 : ¬ (vc = mm)) :
    MetFree l x (head1 (Jvm.Cond.code x code maxLocals ret :: ws) room_1) (fun a U => a = #[(.int p1), (.long q2), (.long q3), (.long q4)] ∧ Z.Warmed39 U.vm ∧ U.heap = h0) (fun _ _ _ _ _ => True) (fun _ U o U' => ∃ v L, o = .returned v ∧ Q0 Z p1 q2 q3 q4 h0 n0 v U'.heap L ∧ FrameEnd U o U' L room_1.cells room_1.slots) := by
  refine MetFree.of_bodySF (plainFor_of_name pn_0) hisR ?_
  intro p e s m args below meth c s₁ Bd hml0 hP hK
  obtain ⟨rfl, hZ, hh⟩ := hP
  have hx := Bd.exec
  have hby := Bd.bytes
  have hml : c.maxLocals = 17 := hml0
  have hown : s.vm.findClass "com/example/mullion/mullion/aggregators/FurthestBackFindSmallestPinLaw" = some m.cls := findClass_of_methodNamed Bd.named
  have hnm := (name_of_methodNamed Bd.named Bd.method).1
  have X0 : Stand p l e room_1 s m #[(.int p1), (.long q2), (.long q3), (.long q4)] below meth c s₁ [] 0 0 := Stand.of_body Bd
  have e0 : s₁.heap = h0 := by rw [← hh, Bd.state]; rfl
  have N0 := Fr.nil n0
  have pre0 : ∀ t, Steps p.tables e below (s₁.setTop (mkF m 0 #[.val (.int p1), .val (.long q2), .second, .val (.long q3), .second, .val (.long q4), .second, .unset, .unset, .unset, .unset, .unset, .unset, .unset, .unset, .unset, .unset] [])) t → Steps p.tables e below (s₁.setTop (entryFrame m #[(.int p1), (.long q2), (.long q3), (.long q4)] maxLocals)) t := fun t k => castTop (ef_0 m p1 q2 q3 q4) k
  have hc66 : ¬ ((3 : Int32) < (2 : Int32)) := (by decide)
  have hc80 : ¬ ((3 : Int32) < (3 : Int32)) := (by decide)
  have hc97 : ¬ ((3 : Int32) < (2 : Int32)) := (by decide)
  have hc112 : ¬ ((3 : Int32) < (3 : Int32)) := (by decide)
  have hc196 : ¬ ((3 : Int32) < (2 : Int32)) := (by decide)
  have hc219 : ¬ ((3 : Int32) < (3 : Int32)) := (by decide)
  obtain ⟨T5, X5, e5, st5⟩ := own_j0 p1 q2 q3 q4 (3 : Int32) vb vc hn hvb hvc X0 hx hZ hw hby hml hown e0
  obtain ⟨T6, h6, X6, e6, E6, A6, D6, -, st6⟩ := newO X5 hx hZ hown (hw _ (List.mem_of_getElem? (i := 1) rfl)) (hw _ (List.mem_of_getElem? (i := 2) rfl)) (hw _ (List.mem_of_getElem? (i := 3) rfl)) e5 (g := (mkF m 42 #[.val (.int p1), .val (.long q2), .second, .val (.long q3), .second, .val (.long q4), .second, .val (.int (3 : Int32)), .val (.long vb), .second, .val (.long vc), .second, .unset, .unset, .unset, .unset, .unset] [])) rfl (hb hby at_42) (by decide) (by decide)
  obtain ⟨b6, g6⟩ : ∃ z, z = h0.size := ⟨_, rfl⟩
  rw [← g6] at A6 D6 st6
  have F_values_b6 : Fld Z h6 b6 "com/example/mullion/mullion/aggregators/FurthestBack" "values" "[J" .null := D6 (Or.inr (hw _ (List.mem_of_getElem? (i := 13) rfl))) (ty := (.array .long)) (by decide)
  have F_mark_b6 : Fld Z h6 b6 "com/example/mullion/mullion/aggregators/FurthestBack" "mark" "J" (.long (0 : Int64)) := D6 (Or.inl (hw _ (List.mem_of_getElem? (i := 24) rfl))) (ty := .long) (by decide)
  have F_atOrBelowMark_b6 : Fld Z h6 b6 "com/example/mullion/mullion/aggregators/FurthestBack" "atOrBelowMark" "I" (.int (0 : Int32)) := D6 (Or.inl (hw _ (List.mem_of_getElem? (i := 26) rfl))) (ty := .int) (by decide)
  have E_b6 := A6
  have g_b6 : n0 ≤ b6 := Nat.le_trans Z0 (Nat.le_of_eq g6.symm)
  have sz_b6 : h0.size ≤ b6 := (Nat.le_trans (Keep.refl h0 []).1 (Nat.le_of_eq g6.symm))
  have K6 : Keep h0 h6 [] := (Keep.refl h0 []).ext E6
  obtain ⟨_, _, ⟨T7, L7, k7, n7⟩, -, X7, ⟨Lc7, hQ7, l7, y7, z7⟩, st7⟩ := X6.specialBack hx (y := (⟨"com/example/mullion/mullion/aggregators/FurthestBack", "<init>", "(IJ)V"⟩ : MethodName)) rfl hown (mvT hZ (hw _ (List.mem_of_getElem? (i := 5) rfl))) (mvT hZ (hw _ (List.mem_of_getElem? (i := 6) rfl))) (mvT hZ (hw _ (List.mem_of_getElem? (i := 7) rfl))) (by decide) (backOf (W := 1) (rm1 l Z a0 hw [] b6 (3 : Int32) (-9223372036854775808 : Int64) 3 h6 n0 (Nat.le_trans Z0 E6.1) (by decide) rfl (by decide) E_b6 F_values_b6 F_mark_b6 F_atOrBelowMark_b6 g_b6) hZ (hw _ (List.mem_of_getElem? (i := 7) rfl)) (hw _ (List.mem_of_getElem? (i := 3) rfl)) (by decide) (by decide)) (g := (mkF m 51 #[.val (.int p1), .val (.long q2), .second, .val (.long q3), .second, .val (.long q4), .second, .val (.int (3 : Int32)), .val (.long vb), .second, .val (.long vc), .second, .unset, .unset, .unset, .unset, .unset] [(.long (-9223372036854775808 : Int64)), (.int (3 : Int32)), (.ref b6), (.ref b6)])) rfl (by rw [hml]; rfl) (Steps.refl _) (a := b6) (argsL := [(.int (3 : Int32)), (.long (-9223372036854775808 : Int64))]) (rest := [(.ref b6)]) (lenOf pd_0_0 rfl) rfl (by show 2 * 0 + _ ≤ _; exact Nat.le_of_eq rfl) (hb hby at_51) (fun _ _ => ⟨rfl, e6, (by decide : 1 + 1 ≤ _), (by decide : 3 + 3 ≤ _)⟩)
  dsimp only [Pt.U, Pt.locs, Pt.cells, Pt.slots] at X7 l7 y7 z7 st7 hQ7
  subst l7 y7 z7
  obtain ⟨rfl, N7q, K7q, t, st, E7q, Fv7q, Fm7q, Fa7q, V7q⟩ := hQ7
  have N7 := Fr.app N0 N7q
  have z7q : n0 ≤ T7.heap.size := Nat.le_trans (Nat.le_trans Z0 E6.1) K7q.1
  have hne : b6 ≠ t := Nat.ne_of_lt (Nat.lt_of_lt_of_le E_b6.lt st)
  have g_t : n0 ≤ t := Nat.le_trans (Nat.le_trans Z0 E6.1) st
  obtain ⟨cq8, kq8, q8a, q8b, q8c⟩ := isOf hZ rfl E7q
  obtain ⟨_, _, ⟨T8, L8, k8, n8⟩, -, X8, ⟨Lc8, hQ8, l8, y8, z8⟩, st8⟩ := X7.virtualBack hx (y := (⟨"com/example/mullion/mullion/aggregators/FurthestBack", "moveOn", "(IJ)V"⟩ : MethodName)) (z := (⟨"com/example/mullion/mullion/aggregators/FurthestBack", "moveOn", "(IJ)V"⟩ : MethodName)) hown (mvT hZ (hw _ (List.mem_of_getElem? (i := 27) rfl))) (mvT hZ (hw _ (List.mem_of_getElem? (i := 28) rfl))) (notFace_of_selects (args := #[]) (mvT hZ (hw _ (List.mem_of_getElem? (i := 30) rfl)))) (mvT hZ (hw _ (List.mem_of_getElem? (i := 30) rfl))) (mvT hZ (hw _ (List.mem_of_getElem? (i := 29) rfl))) (by decide) (backOf (W := 0) (rm5 l Z a0 hw [] b6 (0 : Int32) q2 t 3 _ 0 _ _ T7.heap n0 z7q rfl (by decide) (by decide) E7q Fv7q Fm7q Fa7q V7q hne g_b6 g_t) hZ (hw _ (List.mem_of_getElem? (i := 31) rfl)) (hw _ (List.mem_of_getElem? (i := 3) rfl)) (by decide) (by decide)) q8a q8c (g := (mkF m 60 #[.val (.int p1), .val (.long q2), .second, .val (.long q3), .second, .val (.long q4), .second, .val (.int (3 : Int32)), .val (.long vb), .second, .val (.long vc), .second, .val (.ref b6), .unset, .unset, .unset, .unset] [(.long q2), (.int (0 : Int32)), (.ref b6)])) rfl (by rw [hml]; rfl) (Steps.refl _) (argsL := [(.int (0 : Int32)), (.long q2)]) (rest := []) (lenOf pd_0_0 rfl) rfl (by show 2 * 0 + _ ≤ _; exact Nat.le_of_eq rfl) (hb hby at_60) (fun _ _ => ⟨rfl, rfl, (by decide : 2 + 0 ≤ _), (by decide : 6 + 0 ≤ _)⟩)
  dsimp only [Pt.U, Pt.locs, Pt.cells, Pt.slots] at X8 l8 y8 z8 st8 hQ8
  subst l8 y8 z8
  obtain ⟨rfl, N8q, K8q, E8q, Fv8q, Fm8q, Fa8q, V8q⟩ := hQ8
  have N8 := Fr.app N7 N8q
  have z8q : n0 ≤ T8.heap.size := Nat.le_trans z7q K8q.1
  obtain ⟨cq9, kq9, q9a, q9b, q9c⟩ := isOf hZ rfl E8q
  obtain ⟨_, _, ⟨T9, L9, k9, n9⟩, -, X9, ⟨Lc9, hQ9, l9, y9, z9⟩, st9⟩ := X8.virtualBack hx (y := (⟨"com/example/mullion/mullion/aggregators/FurthestBack", "moveOn", "(IJ)V"⟩ : MethodName)) (z := (⟨"com/example/mullion/mullion/aggregators/FurthestBack", "moveOn", "(IJ)V"⟩ : MethodName)) hown (mvT hZ (hw _ (List.mem_of_getElem? (i := 27) rfl))) (mvT hZ (hw _ (List.mem_of_getElem? (i := 28) rfl))) (notFace_of_selects (args := #[]) (mvT hZ (hw _ (List.mem_of_getElem? (i := 30) rfl)))) (mvT hZ (hw _ (List.mem_of_getElem? (i := 30) rfl))) (mvT hZ (hw _ (List.mem_of_getElem? (i := 29) rfl))) (by decide) (backOf (W := 0) (rm5 l Z a0 hw [] b6 (1 : Int32) vb t 3 _ 1 _ _ T8.heap n0 z8q rfl (by decide) (by decide) E8q Fv8q Fm8q Fa8q V8q hne g_b6 g_t) hZ (hw _ (List.mem_of_getElem? (i := 31) rfl)) (hw _ (List.mem_of_getElem? (i := 3) rfl)) (by decide) (by decide)) q9a q9c (g := (mkF m 74 #[.val (.int p1), .val (.long q2), .second, .val (.long q3), .second, .val (.long q4), .second, .val (.int (3 : Int32)), .val (.long vb), .second, .val (.long vc), .second, .val (.ref b6), .unset, .unset, .unset, .unset] [(.long vb), (.int (1 : Int32)), (.ref b6)])) rfl (by rw [hml]; rfl) (Steps.refl _) (argsL := [(.int (1 : Int32)), (.long vb)]) (rest := []) (lenOf pd_0_0 rfl) rfl (by show 2 * 0 + _ ≤ _; exact Nat.le_of_eq rfl) (hb hby at_74) (fun _ _ => ⟨rfl, rfl, (by decide : 2 + 0 ≤ _), (by decide : 6 + 0 ≤ _)⟩)
  dsimp only [Pt.U, Pt.locs, Pt.cells, Pt.slots] at X9 l9 y9 z9 st9 hQ9
  subst l9 y9 z9
  obtain ⟨rfl, N9q, K9q, E9q, Fv9q, Fm9q, Fa9q, V9q⟩ := hQ9
  have N9 := Fr.app N8 N9q
  have z9q : n0 ≤ T9.heap.size := Nat.le_trans z8q K9q.1
  obtain ⟨cq10, kq10, q10a, q10b, q10c⟩ := isOf hZ rfl E9q
  obtain ⟨_, _, ⟨T10, L10, k10, n10⟩, -, X10, ⟨Lc10, hQ10, l10, y10, z10⟩, st10⟩ := X9.virtualBack hx (y := (⟨"com/example/mullion/mullion/aggregators/FurthestBack", "moveOn", "(IJ)V"⟩ : MethodName)) (z := (⟨"com/example/mullion/mullion/aggregators/FurthestBack", "moveOn", "(IJ)V"⟩ : MethodName)) hown (mvT hZ (hw _ (List.mem_of_getElem? (i := 27) rfl))) (mvT hZ (hw _ (List.mem_of_getElem? (i := 28) rfl))) (notFace_of_selects (args := #[]) (mvT hZ (hw _ (List.mem_of_getElem? (i := 30) rfl)))) (mvT hZ (hw _ (List.mem_of_getElem? (i := 30) rfl))) (mvT hZ (hw _ (List.mem_of_getElem? (i := 29) rfl))) (by decide) (backOf (W := 0) (rm5 l Z a0 hw [] b6 (2 : Int32) vc t 3 _ 2 _ _ T9.heap n0 z9q rfl (by decide) (by decide) E9q Fv9q Fm9q Fa9q V9q hne g_b6 g_t) hZ (hw _ (List.mem_of_getElem? (i := 31) rfl)) (hw _ (List.mem_of_getElem? (i := 3) rfl)) (by decide) (by decide)) q10a q10c (g := (mkF m 88 #[.val (.int p1), .val (.long q2), .second, .val (.long q3), .second, .val (.long q4), .second, .val (.int (3 : Int32)), .val (.long vb), .second, .val (.long vc), .second, .val (.ref b6), .unset, .unset, .unset, .unset] [(.long vc), (.int (2 : Int32)), (.ref b6)])) rfl (by rw [hml]; rfl) (Steps.refl _) (argsL := [(.int (2 : Int32)), (.long vc)]) (rest := []) (lenOf pd_0_0 rfl) rfl (by show 2 * 0 + _ ≤ _; exact Nat.le_of_eq rfl) (hb hby at_88) (fun _ _ => ⟨rfl, rfl, (by decide : 2 + 0 ≤ _), (by decide : 6 + 0 ≤ _)⟩)
  dsimp only [Pt.U, Pt.locs, Pt.cells, Pt.slots] at X10 l10 y10 z10 st10 hQ10
  subst l10 y10 z10
  obtain ⟨rfl, N10q, K10q, E10q, Fv10q, Fm10q, Fa10q, V10q⟩ := hQ10
  have N10 := Fr.app N9 N10q
  have z10q : n0 ≤ T10.heap.size := Nat.le_trans z9q K10q.1
  obtain ⟨_, _, ⟨T11, L11, k11, n11⟩, -, X11, ⟨Lc11, hQ11, l11, y11, z11⟩, st11⟩ := Jvm.LawKit.callS X10 hx (y := (⟨"java/lang/Math", "min", "(JJ)J"⟩ : MethodName)) hown (mvT hZ (hw _ (List.mem_of_getElem? (i := 49) rfl))) (mvT hZ (hw _ (List.mem_of_getElem? (i := 50) rfl))) (mvT hZ (hw _ (List.mem_of_getElem? (i := 51) rfl))) (mvT hZ (hw _ (List.mem_of_getElem? (i := 52) rfl))) (by decide) (backOf (W := 0) (rm9 l Z a0 hw [] q2 vb  T10.heap n0 z10q) hZ (hw _ (List.mem_of_getElem? (i := 52) rfl)) (hw _ (List.mem_of_getElem? (i := 51) rfl)) (by decide) (by decide)) (g := (mkF m 104 #[.val (.int p1), .val (.long q2), .second, .val (.long q3), .second, .val (.long q4), .second, .val (.int (3 : Int32)), .val (.long vb), .second, .val (.long vc), .second, .val (.ref b6), .val (.long q2), .second, .unset, .unset] [(.long vb), (.long q2)])) rfl (by rw [hml]; rfl) (argsL := [(.long q2), (.long vb)]) (rest := []) (lenOf pd_0_6 rfl) rfl (by show 2 * 0 + _ ≤ _; exact Nat.le_of_eq rfl) (hb hby at_104) (fun _ _ => ⟨rfl, rfl, (by decide : 2 + 0 ≤ _), (by decide : 6 + 0 ≤ _)⟩)
  dsimp only [Pt.U, Pt.locs, Pt.cells, Pt.slots] at X11 l11 y11 z11 st11 hQ11
  subst l11 y11 z11
  obtain ⟨hv11, N11q, e11q⟩ := hQ11
  have N11 := Fr.app N10 N11q
  obtain ⟨m1, hm1⟩ : ∃ z, z = own_mn q2 vb := ⟨_, rfl⟩
  rw [← hm1] at hv11
  subst hv11
  have z11q : n0 ≤ T11.heap.size := by rw [e11q]; exact z10q
  have E11q := E10q
  rw [← e11q] at E11q
  have Fv11q := Fv10q
  rw [← e11q] at Fv11q
  have Fm11q := Fm10q
  rw [← e11q] at Fm11q
  have Fa11q := Fa10q
  rw [← e11q] at Fa11q
  have V11q := V10q
  rw [← e11q] at V11q
  obtain ⟨_, _, ⟨T12, L12, k12, n12⟩, -, X12, ⟨Lc12, hQ12, l12, y12, z12⟩, st12⟩ := Jvm.LawKit.callS X11 hx (y := (⟨"java/lang/Math", "min", "(JJ)J"⟩ : MethodName)) hown (mvT hZ (hw _ (List.mem_of_getElem? (i := 49) rfl))) (mvT hZ (hw _ (List.mem_of_getElem? (i := 50) rfl))) (mvT hZ (hw _ (List.mem_of_getElem? (i := 51) rfl))) (mvT hZ (hw _ (List.mem_of_getElem? (i := 52) rfl))) (by decide) (backOf (W := 0) (rm9 l Z a0 hw [] m1 vc  T11.heap n0 z11q) hZ (hw _ (List.mem_of_getElem? (i := 52) rfl)) (hw _ (List.mem_of_getElem? (i := 51) rfl)) (by decide) (by decide)) (g := (mkF m 119 #[.val (.int p1), .val (.long q2), .second, .val (.long q3), .second, .val (.long q4), .second, .val (.int (3 : Int32)), .val (.long vb), .second, .val (.long vc), .second, .val (.ref b6), .val (.long m1), .second, .unset, .unset] [(.long vc), (.long m1)])) rfl (by rw [hml]; rfl) (argsL := [(.long m1), (.long vc)]) (rest := []) (lenOf pd_0_6 rfl) rfl (by show 2 * 0 + _ ≤ _; exact Nat.le_of_eq rfl) (hb hby at_119) (fun _ _ => ⟨rfl, rfl, (by decide : 2 + 0 ≤ _), (by decide : 6 + 0 ≤ _)⟩)
  dsimp only [Pt.U, Pt.locs, Pt.cells, Pt.slots] at X12 l12 y12 z12 st12 hQ12
  subst l12 y12 z12
  obtain ⟨hv12, N12q, e12q⟩ := hQ12
  have N12 := Fr.app N11 N12q
  rw [hm1, ← hm] at hv12
  subst hv12
  have z12q : n0 ≤ T12.heap.size := by rw [e12q]; exact z11q
  have E12q := E11q
  rw [← e12q] at E12q
  have Fv12q := Fv11q
  rw [← e12q] at Fv12q
  have Fm12q := Fm11q
  rw [← e12q] at Fm12q
  have Fa12q := Fa11q
  rw [← e12q] at Fa12q
  have V12q := V11q
  rw [← e12q] at V12q
  obtain ⟨cq13, kq13, q13a, q13b, q13c⟩ := isOf hZ rfl E12q
  obtain ⟨_, _, ⟨T13, L13, k13, n13⟩, -, X13, ⟨Lc13, hQ13, l13, y13, z13⟩, st13⟩ := X12.virtualBack hx (y := (⟨"com/example/mullion/mullion/aggregators/FurthestBack", "findSmallest", "()J"⟩ : MethodName)) (z := (⟨"com/example/mullion/mullion/aggregators/FurthestBack", "findSmallest", "()J"⟩ : MethodName)) hown (mvT hZ (hw _ (List.mem_of_getElem? (i := 32) rfl))) (mvT hZ (hw _ (List.mem_of_getElem? (i := 33) rfl))) (notFace_of_selects (args := #[]) (mvT hZ (hw _ (List.mem_of_getElem? (i := 35) rfl)))) (mvT hZ (hw _ (List.mem_of_getElem? (i := 35) rfl))) (mvT hZ (hw _ (List.mem_of_getElem? (i := 34) rfl))) (by decide) (backOf (W := 0) (rm6 l Z a0 hw [] b6 t 3 (fun j => if j = 2 then vc else if j = 1 then vb else if j = 0 then q2 else (-9223372036854775808 : Int64)) _ _ T12.heap n0 z12q (by decide) E12q Fv12q Fm12q Fa12q V12q hne g_b6) hZ (hw _ (List.mem_of_getElem? (i := 36) rfl)) (hw _ (List.mem_of_getElem? (i := 3) rfl)) (by decide) (by decide)) q13a q13c (g := (mkF m 126 #[.val (.int p1), .val (.long q2), .second, .val (.long q3), .second, .val (.long q4), .second, .val (.int (3 : Int32)), .val (.long vb), .second, .val (.long vc), .second, .val (.ref b6), .val (.long mm), .second, .unset, .unset] [(.ref b6)])) rfl (by rw [hml]; rfl) (Steps.refl _) (argsL := []) (rest := []) (lenOf pd_0_4 rfl) rfl (by show 2 * 0 + _ ≤ _; exact Nat.le_of_eq rfl) (hb hby at_126) (fun _ _ => ⟨rfl, rfl, (by decide : 2 + 0 ≤ _), (by decide : 6 + 0 ≤ _)⟩)
  dsimp only [Pt.U, Pt.locs, Pt.cells, Pt.slots] at X13 l13 y13 z13 st13 hQ13
  subst l13 y13 z13
  obtain ⟨hv13, N13q, K13q, E13q, Fv13q, Fm13q, Fa13q, V13q⟩ := hQ13
  have N13 := Fr.app N12 N13q
  have z13q : n0 ≤ T13.heap.size := Nat.le_trans z12q K13q.1
  have hfs : own_fs (fun j => if j = 2 then vc else if j = 1 then vb else if j = 0 then q2 else (-9223372036854775808 : Int64)) 3 0 ((9223372036854775807 : Int64), (0 : Int32)) = (mm, (own_is q2 mm + own_is vb mm + own_is vc mm)) := by show own_step (own_step (own_step ((9223372036854775807 : Int64), 0) q2) vb) vc = _; rw [own_first, own_second, hm]; exact own_third q2 vb vc
  rw [hfs] at hv13
  replace hv13 : _ = some (Value.long mm) := hv13
  subst hv13
  have Gm13q : Fld Z T13.heap b6 "com/example/mullion/mullion/aggregators/FurthestBack" "mark" "J" (.long mm) := by have q := Fm13q; rw [hfs] at q; exact q
  have Ga13q : Fld Z T13.heap b6 "com/example/mullion/mullion/aggregators/FurthestBack" "atOrBelowMark" "I" (.int (own_is q2 mm + own_is vb mm + own_is vc mm)) := by have q := Fa13q; rw [hfs] at q; exact q
  obtain ⟨cq14, kq14, q14a, q14b, q14c⟩ := isOf hZ rfl E13q
  obtain ⟨_, _, ⟨T14, L14, k14, n14⟩, -, X14, ⟨Lc14, hQ14, l14, y14, z14⟩, st14⟩ := X13.virtualBack hx (y := (⟨"com/example/mullion/mullion/aggregators/FurthestBack", "mark", "()J"⟩ : MethodName)) (z := (⟨"com/example/mullion/mullion/aggregators/FurthestBack", "mark", "()J"⟩ : MethodName)) hown (mvT hZ (hw _ (List.mem_of_getElem? (i := 38) rfl))) (mvT hZ (hw _ (List.mem_of_getElem? (i := 39) rfl))) (notFace_of_selects (args := #[]) (mvT hZ (hw _ (List.mem_of_getElem? (i := 41) rfl)))) (mvT hZ (hw _ (List.mem_of_getElem? (i := 41) rfl))) (mvT hZ (hw _ (List.mem_of_getElem? (i := 40) rfl))) (by decide) (backOf (W := 0) (rm7 l Z a0 hw [] b6 mm T13.heap n0 z13q Gm13q) hZ (hw _ (List.mem_of_getElem? (i := 42) rfl)) (hw _ (List.mem_of_getElem? (i := 3) rfl)) (by decide) (by decide)) q14a q14c (g := (mkF m 143 #[.val (.int p1), .val (.long q2), .second, .val (.long q3), .second, .val (.long q4), .second, .val (.int (3 : Int32)), .val (.long vb), .second, .val (.long vc), .second, .val (.ref b6), .val (.long mm), .second, .val (.long mm), .second] [(.ref b6)])) rfl (by rw [hml]; rfl) (Steps.refl _) (argsL := []) (rest := []) (lenOf pd_0_4 rfl) rfl (by show 2 * 0 + _ ≤ _; exact Nat.le_of_eq rfl) (hb hby at_143) (fun _ _ => ⟨rfl, rfl, (by decide : 2 + 0 ≤ _), (by decide : 6 + 0 ≤ _)⟩)
  dsimp only [Pt.U, Pt.locs, Pt.cells, Pt.slots] at X14 l14 y14 z14 st14 hQ14
  subst l14 y14 z14
  obtain ⟨rfl, N14q, e14q⟩ := hQ14
  have N14 := Fr.app N13 N14q
  have z14q : n0 ≤ T14.heap.size := by rw [e14q]; exact z13q
  have E14q := E13q
  rw [← e14q] at E14q
  have Fv14q := Fv13q
  rw [← e14q] at Fv14q
  have Fm14q := Gm13q
  rw [← e14q] at Fm14q
  have Fa14q := Ga13q
  rw [← e14q] at Fa14q
  have V14q := V13q
  rw [← e14q] at V14q
  obtain ⟨cq15, kq15, q15a, q15b, q15c⟩ := isOf hZ rfl E14q
  obtain ⟨_, _, ⟨T15, L15, k15, n15⟩, -, X15, ⟨Lc15, hQ15, l15, y15, z15⟩, st15⟩ := X14.virtualBack hx (y := (⟨"com/example/mullion/mullion/aggregators/FurthestBack", "moveOn", "(IJ)V"⟩ : MethodName)) (z := (⟨"com/example/mullion/mullion/aggregators/FurthestBack", "moveOn", "(IJ)V"⟩ : MethodName)) hown (mvT hZ (hw _ (List.mem_of_getElem? (i := 27) rfl))) (mvT hZ (hw _ (List.mem_of_getElem? (i := 28) rfl))) (notFace_of_selects (args := #[]) (mvT hZ (hw _ (List.mem_of_getElem? (i := 30) rfl)))) (mvT hZ (hw _ (List.mem_of_getElem? (i := 30) rfl))) (mvT hZ (hw _ (List.mem_of_getElem? (i := 29) rfl))) (by decide) (backOf (W := 0) (rm5 l Z a0 hw [] b6 (1 : Int32) (9223372036854775807 : Int64) t 3 _ 1 _ _ T14.heap n0 z14q rfl (by decide) (by decide) E14q Fv14q Fm14q Fa14q V14q hne g_b6 g_t) hZ (hw _ (List.mem_of_getElem? (i := 31) rfl)) (hw _ (List.mem_of_getElem? (i := 3) rfl)) (by decide) (by decide)) q15a q15c (g := (mkF m 213 #[.val (.int p1), .val (.long q2), .second, .val (.long q3), .second, .val (.long q4), .second, .val (.int (3 : Int32)), .val (.long vb), .second, .val (.long vc), .second, .val (.ref b6), .val (.long mm), .second, .val (.long mm), .second] [(.long (9223372036854775807 : Int64)), (.int (1 : Int32)), (.ref b6)])) rfl (by rw [hml]; rfl) (Steps.refl _) (argsL := [(.int (1 : Int32)), (.long (9223372036854775807 : Int64))]) (rest := []) (lenOf pd_0_0 rfl) rfl (by show 2 * 0 + _ ≤ _; exact Nat.le_of_eq rfl) (hb hby at_213) (fun _ _ => ⟨rfl, rfl, (by decide : 2 + 0 ≤ _), (by decide : 6 + 0 ≤ _)⟩)
  dsimp only [Pt.U, Pt.locs, Pt.cells, Pt.slots] at X15 l15 y15 z15 st15 hQ15
  subst l15 y15 z15
  obtain ⟨rfl, N15q, K15q, E15q, Fv15q, Fm15q, Fa15q, V15q⟩ := hQ15
  have N15 := Fr.app N14 N15q
  have z15q : n0 ≤ T15.heap.size := Nat.le_trans z14q K15q.1
  have Fb15q : Fld Z T15.heap b6 "com/example/mullion/mullion/aggregators/FurthestBack" "atOrBelowMark" "I" (.int ((own_is q2 mm + own_is vb mm + own_is vc mm) - (1 : Int32))) := by
    have q : Fld Z T15.heap b6 "com/example/mullion/mullion/aggregators/FurthestBack" "atOrBelowMark" "I" (.int (own_mv vb (9223372036854775807 : Int64) mm (own_is q2 mm + own_is vb mm + own_is vc mm))) := Fa15q
    rw [own_mv_dec (x := vb) (m := mm) h204 h160] at q
    exact q
  obtain ⟨cq16, kq16, q16a, q16b, q16c⟩ := isOf hZ rfl E15q
  obtain ⟨_, _, ⟨T16, L16, k16, n16⟩, -, X16, ⟨Lc16, hQ16, l16, y16, z16⟩, st16⟩ := X15.virtualBack hx (y := (⟨"com/example/mullion/mullion/aggregators/FurthestBack", "allMovedOn", "()Z"⟩ : MethodName)) (z := (⟨"com/example/mullion/mullion/aggregators/FurthestBack", "allMovedOn", "()Z"⟩ : MethodName)) hown (mvT hZ (hw _ (List.mem_of_getElem? (i := 44) rfl))) (mvT hZ (hw _ (List.mem_of_getElem? (i := 45) rfl))) (notFace_of_selects (args := #[]) (mvT hZ (hw _ (List.mem_of_getElem? (i := 47) rfl)))) (mvT hZ (hw _ (List.mem_of_getElem? (i := 47) rfl))) (mvT hZ (hw _ (List.mem_of_getElem? (i := 46) rfl))) (by decide) (backOf (W := 0) (rm8_f l Z a0 hw [] b6 ((own_is q2 mm + own_is vb mm + own_is vc mm) - (1 : Int32)) T15.heap n0 z15q Fb15q (by unfold own_is; rw [if_neg h181, if_pos h204, if_neg h227]; decide)) hZ (hw _ (List.mem_of_getElem? (i := 48) rfl)) (hw _ (List.mem_of_getElem? (i := 3) rfl)) (by decide) (by decide)) q16a q16c (g := (mkF m 241 #[.val (.int p1), .val (.long q2), .second, .val (.long q3), .second, .val (.long q4), .second, .val (.int (3 : Int32)), .val (.long vb), .second, .val (.long vc), .second, .val (.ref b6), .val (.long mm), .second, .val (.long mm), .second] [(.ref b6)])) rfl (by rw [hml]; rfl) (Steps.refl _) (argsL := []) (rest := []) (lenOf pd_0_5 rfl) rfl (by show 2 * 0 + _ ≤ _; exact Nat.le_of_eq rfl) (hb hby at_241) (fun _ _ => ⟨rfl, rfl, (by decide : 2 + 0 ≤ _), (by decide : 6 + 0 ≤ _)⟩)
  dsimp only [Pt.U, Pt.locs, Pt.cells, Pt.slots] at X16 l16 y16 z16 st16 hQ16
  subst l16 y16 z16
  obtain ⟨rfl, N16q, e16q⟩ := hQ16
  have N16 := Fr.app N15 N16q
  have z16q : n0 ≤ T16.heap.size := by rw [e16q]; exact z15q
  have E16q := E15q
  rw [← e16q] at E16q
  have Fv16q := Fv15q
  rw [← e16q] at Fv16q
  have Fm16q := Fm15q
  rw [← e16q] at Fm16q
  have Fa16q := Fb15q
  rw [← e16q] at Fa16q
  have V16q := V15q
  rw [← e16q] at V16q
  obtain ⟨fs, hr, hrun, hended, hW, hsame⟩ := X16.leave (v := some (.int (1 : Int32))) (fun h => by rw [Bd.returns] at h; cases h)
  refine ⟨_, _, pre0 _ ?_, hrun, hended, _, _, rfl, ?_, ⟨_, rfl⟩, hW, hsame.mono (by decide) (by decide)⟩
  · show Steps p.tables e below (s₁.setTop (mkF m 0 #[.val (.int p1), .val (.long q2), .second, .val (.long q3), .second, .val (.long q4), .second, .unset, .unset, .unset, .unset, .unset, .unset, .unset, .unset, .unset, .unset] [])) _
    refine st5 _ ?_
    show Steps p.tables e below (T5.setTop (mkF m 42 #[.val (.int p1), .val (.long q2), .second, .val (.long q3), .second, .val (.long q4), .second, .val (.int (3 : Int32)), .val (.long vb), .second, .val (.long vc), .second, .unset, .unset, .unset, .unset, .unset] [])) _
    refine st6 _ ?_
    show Steps p.tables e below (T6.setTop (mkF m 45 #[.val (.int p1), .val (.long q2), .second, .val (.long q3), .second, .val (.long q4), .second, .val (.int (3 : Int32)), .val (.long vb), .second, .val (.long vc), .second, .unset, .unset, .unset, .unset, .unset] [(.ref b6)])) _
    refine XS.dup X6.here hx rfl (hb hby at_45) rfl rfl ?_
    show Steps p.tables e below (T6.setTop (mkF m 46 #[.val (.int p1), .val (.long q2), .second, .val (.long q3), .second, .val (.long q4), .second, .val (.int (3 : Int32)), .val (.long vb), .second, .val (.long vc), .second, .unset, .unset, .unset, .unset, .unset] [(.ref b6), (.ref b6)])) _
    refine XS.iload X6.here hx rfl (hb hby at_46) rfl ?_
    show Steps p.tables e below (T6.setTop (mkF m 48 #[.val (.int p1), .val (.long q2), .second, .val (.long q3), .second, .val (.long q4), .second, .val (.int (3 : Int32)), .val (.long vb), .second, .val (.long vc), .second, .unset, .unset, .unset, .unset, .unset] [(.int (3 : Int32)), (.ref b6), (.ref b6)])) _
    refine X6.ldc2Long hx hown (mvT hZ (hw _ (List.mem_of_getElem? (i := 4) rfl))) (g := (mkF m 48 #[.val (.int p1), .val (.long q2), .second, .val (.long q3), .second, .val (.long q4), .second, .val (.int (3 : Int32)), .val (.long vb), .second, .val (.long vc), .second, .unset, .unset, .unset, .unset, .unset] [(.int (3 : Int32)), (.ref b6), (.ref b6)])) rfl (hb hby at_48) _ ?_
    show Steps p.tables e below (T6.setTop (mkF m 51 #[.val (.int p1), .val (.long q2), .second, .val (.long q3), .second, .val (.long q4), .second, .val (.int (3 : Int32)), .val (.long vb), .second, .val (.long vc), .second, .unset, .unset, .unset, .unset, .unset] [(.long (-9223372036854775808 : Int64)), (.int (3 : Int32)), (.ref b6), (.ref b6)])) _
    refine st7.trans ?_
    show Steps p.tables e below (T7.setTop (mkF m 54 #[.val (.int p1), .val (.long q2), .second, .val (.long q3), .second, .val (.long q4), .second, .val (.int (3 : Int32)), .val (.long vb), .second, .val (.long vc), .second, .unset, .unset, .unset, .unset, .unset] [(.ref b6)])) _
    refine XS.astore X7.here hx rfl (hb hby at_54) rfl rfl (l' := #[.val (.int p1), .val (.long q2), .second, .val (.long q3), .second, .val (.long q4), .second, .val (.int (3 : Int32)), .val (.long vb), .second, .val (.long vc), .second, .val (.ref b6), .unset, .unset, .unset, .unset]) rfl ?_
    show Steps p.tables e below (T7.setTop (mkF m 56 #[.val (.int p1), .val (.long q2), .second, .val (.long q3), .second, .val (.long q4), .second, .val (.int (3 : Int32)), .val (.long vb), .second, .val (.long vc), .second, .val (.ref b6), .unset, .unset, .unset, .unset] [])) _
    refine XS.aload X7.here hx rfl (hb hby at_56) rfl rfl ?_
    show Steps p.tables e below (T7.setTop (mkF m 58 #[.val (.int p1), .val (.long q2), .second, .val (.long q3), .second, .val (.long q4), .second, .val (.int (3 : Int32)), .val (.long vb), .second, .val (.long vc), .second, .val (.ref b6), .unset, .unset, .unset, .unset] [(.ref b6)])) _
    refine XS.iconst X7.here hx rfl (hb hby at_58) ?_
    show Steps p.tables e below (T7.setTop (mkF m 59 #[.val (.int p1), .val (.long q2), .second, .val (.long q3), .second, .val (.long q4), .second, .val (.int (3 : Int32)), .val (.long vb), .second, .val (.long vc), .second, .val (.ref b6), .unset, .unset, .unset, .unset] [(.int (0 : Int32)), (.ref b6)])) _
    refine XS.lloadN X7.here hx rfl (hb hby at_59) rfl ?_
    show Steps p.tables e below (T7.setTop (mkF m 60 #[.val (.int p1), .val (.long q2), .second, .val (.long q3), .second, .val (.long q4), .second, .val (.int (3 : Int32)), .val (.long vb), .second, .val (.long vc), .second, .val (.ref b6), .unset, .unset, .unset, .unset] [(.long q2), (.int (0 : Int32)), (.ref b6)])) _
    refine st8.trans ?_
    show Steps p.tables e below (T8.setTop (mkF m 63 #[.val (.int p1), .val (.long q2), .second, .val (.long q3), .second, .val (.long q4), .second, .val (.int (3 : Int32)), .val (.long vb), .second, .val (.long vc), .second, .val (.ref b6), .unset, .unset, .unset, .unset] [])) _
    refine XS.iload X8.here hx rfl (hb hby at_63) rfl ?_
    show Steps p.tables e below (T8.setTop (mkF m 65 #[.val (.int p1), .val (.long q2), .second, .val (.long q3), .second, .val (.long q4), .second, .val (.int (3 : Int32)), .val (.long vb), .second, .val (.long vc), .second, .val (.ref b6), .unset, .unset, .unset, .unset] [(.int (3 : Int32))])) _
    refine XS.iconst X8.here hx rfl (hb hby at_65) ?_
    show Steps p.tables e below (T8.setTop (mkF m 66 #[.val (.int p1), .val (.long q2), .second, .val (.long q3), .second, .val (.long q4), .second, .val (.int (3 : Int32)), .val (.long vb), .second, .val (.long vc), .second, .val (.ref b6), .unset, .unset, .unset, .unset] [(.int (2 : Int32)), (.int (3 : Int32))])) _
    refine XS.icmpNo X8.here hx rfl (hb hby at_66) rfl (flt hc66).1 ?_
    show Steps p.tables e below (T8.setTop (mkF m 69 #[.val (.int p1), .val (.long q2), .second, .val (.long q3), .second, .val (.long q4), .second, .val (.int (3 : Int32)), .val (.long vb), .second, .val (.long vc), .second, .val (.ref b6), .unset, .unset, .unset, .unset] [])) _
    refine XS.aload X8.here hx rfl (hb hby at_69) rfl rfl ?_
    show Steps p.tables e below (T8.setTop (mkF m 71 #[.val (.int p1), .val (.long q2), .second, .val (.long q3), .second, .val (.long q4), .second, .val (.int (3 : Int32)), .val (.long vb), .second, .val (.long vc), .second, .val (.ref b6), .unset, .unset, .unset, .unset] [(.ref b6)])) _
    refine XS.iconst X8.here hx rfl (hb hby at_71) ?_
    show Steps p.tables e below (T8.setTop (mkF m 72 #[.val (.int p1), .val (.long q2), .second, .val (.long q3), .second, .val (.long q4), .second, .val (.int (3 : Int32)), .val (.long vb), .second, .val (.long vc), .second, .val (.ref b6), .unset, .unset, .unset, .unset] [(.int (1 : Int32)), (.ref b6)])) _
    refine XS.lload X8.here hx rfl (hb hby at_72) rfl ?_
    show Steps p.tables e below (T8.setTop (mkF m 74 #[.val (.int p1), .val (.long q2), .second, .val (.long q3), .second, .val (.long q4), .second, .val (.int (3 : Int32)), .val (.long vb), .second, .val (.long vc), .second, .val (.ref b6), .unset, .unset, .unset, .unset] [(.long vb), (.int (1 : Int32)), (.ref b6)])) _
    refine st9.trans ?_
    show Steps p.tables e below (T9.setTop (mkF m 77 #[.val (.int p1), .val (.long q2), .second, .val (.long q3), .second, .val (.long q4), .second, .val (.int (3 : Int32)), .val (.long vb), .second, .val (.long vc), .second, .val (.ref b6), .unset, .unset, .unset, .unset] [])) _
    refine XS.iload X9.here hx rfl (hb hby at_77) rfl ?_
    show Steps p.tables e below (T9.setTop (mkF m 79 #[.val (.int p1), .val (.long q2), .second, .val (.long q3), .second, .val (.long q4), .second, .val (.int (3 : Int32)), .val (.long vb), .second, .val (.long vc), .second, .val (.ref b6), .unset, .unset, .unset, .unset] [(.int (3 : Int32))])) _
    refine XS.iconst X9.here hx rfl (hb hby at_79) ?_
    show Steps p.tables e below (T9.setTop (mkF m 80 #[.val (.int p1), .val (.long q2), .second, .val (.long q3), .second, .val (.long q4), .second, .val (.int (3 : Int32)), .val (.long vb), .second, .val (.long vc), .second, .val (.ref b6), .unset, .unset, .unset, .unset] [(.int (3 : Int32)), (.int (3 : Int32))])) _
    refine XS.icmpNo X9.here hx rfl (hb hby at_80) rfl (flt hc80).1 ?_
    show Steps p.tables e below (T9.setTop (mkF m 83 #[.val (.int p1), .val (.long q2), .second, .val (.long q3), .second, .val (.long q4), .second, .val (.int (3 : Int32)), .val (.long vb), .second, .val (.long vc), .second, .val (.ref b6), .unset, .unset, .unset, .unset] [])) _
    refine XS.aload X9.here hx rfl (hb hby at_83) rfl rfl ?_
    show Steps p.tables e below (T9.setTop (mkF m 85 #[.val (.int p1), .val (.long q2), .second, .val (.long q3), .second, .val (.long q4), .second, .val (.int (3 : Int32)), .val (.long vb), .second, .val (.long vc), .second, .val (.ref b6), .unset, .unset, .unset, .unset] [(.ref b6)])) _
    refine XS.iconst X9.here hx rfl (hb hby at_85) ?_
    show Steps p.tables e below (T9.setTop (mkF m 86 #[.val (.int p1), .val (.long q2), .second, .val (.long q3), .second, .val (.long q4), .second, .val (.int (3 : Int32)), .val (.long vb), .second, .val (.long vc), .second, .val (.ref b6), .unset, .unset, .unset, .unset] [(.int (2 : Int32)), (.ref b6)])) _
    refine XS.lload X9.here hx rfl (hb hby at_86) rfl ?_
    show Steps p.tables e below (T9.setTop (mkF m 88 #[.val (.int p1), .val (.long q2), .second, .val (.long q3), .second, .val (.long q4), .second, .val (.int (3 : Int32)), .val (.long vb), .second, .val (.long vc), .second, .val (.ref b6), .unset, .unset, .unset, .unset] [(.long vc), (.int (2 : Int32)), (.ref b6)])) _
    refine st10.trans ?_
    show Steps p.tables e below (T10.setTop (mkF m 91 #[.val (.int p1), .val (.long q2), .second, .val (.long q3), .second, .val (.long q4), .second, .val (.int (3 : Int32)), .val (.long vb), .second, .val (.long vc), .second, .val (.ref b6), .unset, .unset, .unset, .unset] [])) _
    refine XS.lloadN X10.here hx rfl (hb hby at_91) rfl ?_
    show Steps p.tables e below (T10.setTop (mkF m 92 #[.val (.int p1), .val (.long q2), .second, .val (.long q3), .second, .val (.long q4), .second, .val (.int (3 : Int32)), .val (.long vb), .second, .val (.long vc), .second, .val (.ref b6), .unset, .unset, .unset, .unset] [(.long q2)])) _
    refine XS.lstore X10.here hx rfl (hb hby at_92) rfl (l' := #[.val (.int p1), .val (.long q2), .second, .val (.long q3), .second, .val (.long q4), .second, .val (.int (3 : Int32)), .val (.long vb), .second, .val (.long vc), .second, .val (.ref b6), .val (.long q2), .second, .unset, .unset]) rfl ?_
    show Steps p.tables e below (T10.setTop (mkF m 94 #[.val (.int p1), .val (.long q2), .second, .val (.long q3), .second, .val (.long q4), .second, .val (.int (3 : Int32)), .val (.long vb), .second, .val (.long vc), .second, .val (.ref b6), .val (.long q2), .second, .unset, .unset] [])) _
    refine XS.iload X10.here hx rfl (hb hby at_94) rfl ?_
    show Steps p.tables e below (T10.setTop (mkF m 96 #[.val (.int p1), .val (.long q2), .second, .val (.long q3), .second, .val (.long q4), .second, .val (.int (3 : Int32)), .val (.long vb), .second, .val (.long vc), .second, .val (.ref b6), .val (.long q2), .second, .unset, .unset] [(.int (3 : Int32))])) _
    refine XS.iconst X10.here hx rfl (hb hby at_96) ?_
    show Steps p.tables e below (T10.setTop (mkF m 97 #[.val (.int p1), .val (.long q2), .second, .val (.long q3), .second, .val (.long q4), .second, .val (.int (3 : Int32)), .val (.long vb), .second, .val (.long vc), .second, .val (.ref b6), .val (.long q2), .second, .unset, .unset] [(.int (2 : Int32)), (.int (3 : Int32))])) _
    refine XS.icmpNo X10.here hx rfl (hb hby at_97) rfl (flt hc97).1 ?_
    show Steps p.tables e below (T10.setTop (mkF m 100 #[.val (.int p1), .val (.long q2), .second, .val (.long q3), .second, .val (.long q4), .second, .val (.int (3 : Int32)), .val (.long vb), .second, .val (.long vc), .second, .val (.ref b6), .val (.long q2), .second, .unset, .unset] [])) _
    refine XS.lload X10.here hx rfl (hb hby at_100) rfl ?_
    show Steps p.tables e below (T10.setTop (mkF m 102 #[.val (.int p1), .val (.long q2), .second, .val (.long q3), .second, .val (.long q4), .second, .val (.int (3 : Int32)), .val (.long vb), .second, .val (.long vc), .second, .val (.ref b6), .val (.long q2), .second, .unset, .unset] [(.long q2)])) _
    refine XS.lload X10.here hx rfl (hb hby at_102) rfl ?_
    show Steps p.tables e below (T10.setTop (mkF m 104 #[.val (.int p1), .val (.long q2), .second, .val (.long q3), .second, .val (.long q4), .second, .val (.int (3 : Int32)), .val (.long vb), .second, .val (.long vc), .second, .val (.ref b6), .val (.long q2), .second, .unset, .unset] [(.long vb), (.long q2)])) _
    refine st11 _ ?_
    show Steps p.tables e below (T11.setTop (mkF m 107 #[.val (.int p1), .val (.long q2), .second, .val (.long q3), .second, .val (.long q4), .second, .val (.int (3 : Int32)), .val (.long vb), .second, .val (.long vc), .second, .val (.ref b6), .val (.long q2), .second, .unset, .unset] [(.long m1)])) _
    refine XS.lstore X11.here hx rfl (hb hby at_107) rfl (l' := #[.val (.int p1), .val (.long q2), .second, .val (.long q3), .second, .val (.long q4), .second, .val (.int (3 : Int32)), .val (.long vb), .second, .val (.long vc), .second, .val (.ref b6), .val (.long m1), .second, .unset, .unset]) rfl ?_
    show Steps p.tables e below (T11.setTop (mkF m 109 #[.val (.int p1), .val (.long q2), .second, .val (.long q3), .second, .val (.long q4), .second, .val (.int (3 : Int32)), .val (.long vb), .second, .val (.long vc), .second, .val (.ref b6), .val (.long m1), .second, .unset, .unset] [])) _
    refine XS.iload X11.here hx rfl (hb hby at_109) rfl ?_
    show Steps p.tables e below (T11.setTop (mkF m 111 #[.val (.int p1), .val (.long q2), .second, .val (.long q3), .second, .val (.long q4), .second, .val (.int (3 : Int32)), .val (.long vb), .second, .val (.long vc), .second, .val (.ref b6), .val (.long m1), .second, .unset, .unset] [(.int (3 : Int32))])) _
    refine XS.iconst X11.here hx rfl (hb hby at_111) ?_
    show Steps p.tables e below (T11.setTop (mkF m 112 #[.val (.int p1), .val (.long q2), .second, .val (.long q3), .second, .val (.long q4), .second, .val (.int (3 : Int32)), .val (.long vb), .second, .val (.long vc), .second, .val (.ref b6), .val (.long m1), .second, .unset, .unset] [(.int (3 : Int32)), (.int (3 : Int32))])) _
    refine XS.icmpNo X11.here hx rfl (hb hby at_112) rfl (flt hc112).1 ?_
    show Steps p.tables e below (T11.setTop (mkF m 115 #[.val (.int p1), .val (.long q2), .second, .val (.long q3), .second, .val (.long q4), .second, .val (.int (3 : Int32)), .val (.long vb), .second, .val (.long vc), .second, .val (.ref b6), .val (.long m1), .second, .unset, .unset] [])) _
    refine XS.lload X11.here hx rfl (hb hby at_115) rfl ?_
    show Steps p.tables e below (T11.setTop (mkF m 117 #[.val (.int p1), .val (.long q2), .second, .val (.long q3), .second, .val (.long q4), .second, .val (.int (3 : Int32)), .val (.long vb), .second, .val (.long vc), .second, .val (.ref b6), .val (.long m1), .second, .unset, .unset] [(.long m1)])) _
    refine XS.lload X11.here hx rfl (hb hby at_117) rfl ?_
    show Steps p.tables e below (T11.setTop (mkF m 119 #[.val (.int p1), .val (.long q2), .second, .val (.long q3), .second, .val (.long q4), .second, .val (.int (3 : Int32)), .val (.long vb), .second, .val (.long vc), .second, .val (.ref b6), .val (.long m1), .second, .unset, .unset] [(.long vc), (.long m1)])) _
    refine st12 _ ?_
    show Steps p.tables e below (T12.setTop (mkF m 122 #[.val (.int p1), .val (.long q2), .second, .val (.long q3), .second, .val (.long q4), .second, .val (.int (3 : Int32)), .val (.long vb), .second, .val (.long vc), .second, .val (.ref b6), .val (.long m1), .second, .unset, .unset] [(.long mm)])) _
    refine XS.lstore X12.here hx rfl (hb hby at_122) rfl (l' := #[.val (.int p1), .val (.long q2), .second, .val (.long q3), .second, .val (.long q4), .second, .val (.int (3 : Int32)), .val (.long vb), .second, .val (.long vc), .second, .val (.ref b6), .val (.long mm), .second, .unset, .unset]) rfl ?_
    show Steps p.tables e below (T12.setTop (mkF m 124 #[.val (.int p1), .val (.long q2), .second, .val (.long q3), .second, .val (.long q4), .second, .val (.int (3 : Int32)), .val (.long vb), .second, .val (.long vc), .second, .val (.ref b6), .val (.long mm), .second, .unset, .unset] [])) _
    refine XS.aload X12.here hx rfl (hb hby at_124) rfl rfl ?_
    show Steps p.tables e below (T12.setTop (mkF m 126 #[.val (.int p1), .val (.long q2), .second, .val (.long q3), .second, .val (.long q4), .second, .val (.int (3 : Int32)), .val (.long vb), .second, .val (.long vc), .second, .val (.ref b6), .val (.long mm), .second, .unset, .unset] [(.ref b6)])) _
    refine st13.trans ?_
    show Steps p.tables e below (T13.setTop (mkF m 129 #[.val (.int p1), .val (.long q2), .second, .val (.long q3), .second, .val (.long q4), .second, .val (.int (3 : Int32)), .val (.long vb), .second, .val (.long vc), .second, .val (.ref b6), .val (.long mm), .second, .unset, .unset] [(.long mm)])) _
    refine XS.lstore X13.here hx rfl (hb hby at_129) rfl (l' := #[.val (.int p1), .val (.long q2), .second, .val (.long q3), .second, .val (.long q4), .second, .val (.int (3 : Int32)), .val (.long vb), .second, .val (.long vc), .second, .val (.ref b6), .val (.long mm), .second, .val (.long mm), .second]) rfl ?_
    show Steps p.tables e below (T13.setTop (mkF m 131 #[.val (.int p1), .val (.long q2), .second, .val (.long q3), .second, .val (.long q4), .second, .val (.int (3 : Int32)), .val (.long vb), .second, .val (.long vc), .second, .val (.ref b6), .val (.long mm), .second, .val (.long mm), .second] [])) _
    refine XS.lload X13.here hx rfl (hb hby at_131) rfl ?_
    show Steps p.tables e below (T13.setTop (mkF m 133 #[.val (.int p1), .val (.long q2), .second, .val (.long q3), .second, .val (.long q4), .second, .val (.int (3 : Int32)), .val (.long vb), .second, .val (.long vc), .second, .val (.ref b6), .val (.long mm), .second, .val (.long mm), .second] [(.long mm)])) _
    refine XS.lload X13.here hx rfl (hb hby at_133) rfl ?_
    show Steps p.tables e below (T13.setTop (mkF m 135 #[.val (.int p1), .val (.long q2), .second, .val (.long q3), .second, .val (.long q4), .second, .val (.int (3 : Int32)), .val (.long vb), .second, .val (.long vc), .second, .val (.ref b6), .val (.long mm), .second, .val (.long mm), .second] [(.long mm), (.long mm)])) _
    refine XS.lcmp X13.here hx rfl (hb hby at_135) rfl ?_
    show Steps p.tables e below (T13.setTop (mkF m 136 #[.val (.int p1), .val (.long q2), .second, .val (.long q3), .second, .val (.long q4), .second, .val (.int (3 : Int32)), .val (.long vb), .second, .val (.long vc), .second, .val (.ref b6), .val (.long mm), .second, .val (.long mm), .second] [(.int (lcmpW mm mm))])) _
    refine XS.ifYes X13.here hx rfl (pc0 := 136) (pc' := 141) rfl (hb hby at_136) rfl ((if0 _ _).trans (teq (((lw_eq _ _).mpr rfl) : (lcmpW mm mm) = (0 : Int32))).1) (by decide) (by decide) ?_
    show Steps p.tables e below (T13.setTop (mkF m 141 #[.val (.int p1), .val (.long q2), .second, .val (.long q3), .second, .val (.long q4), .second, .val (.int (3 : Int32)), .val (.long vb), .second, .val (.long vc), .second, .val (.ref b6), .val (.long mm), .second, .val (.long mm), .second] [])) _
    refine XS.aload X13.here hx rfl (hb hby at_141) rfl rfl ?_
    show Steps p.tables e below (T13.setTop (mkF m 143 #[.val (.int p1), .val (.long q2), .second, .val (.long q3), .second, .val (.long q4), .second, .val (.int (3 : Int32)), .val (.long vb), .second, .val (.long vc), .second, .val (.ref b6), .val (.long mm), .second, .val (.long mm), .second] [(.ref b6)])) _
    refine st14.trans ?_
    show Steps p.tables e below (T14.setTop (mkF m 146 #[.val (.int p1), .val (.long q2), .second, .val (.long q3), .second, .val (.long q4), .second, .val (.int (3 : Int32)), .val (.long vb), .second, .val (.long vc), .second, .val (.ref b6), .val (.long mm), .second, .val (.long mm), .second] [(.long mm)])) _
    refine XS.lload X14.here hx rfl (hb hby at_146) rfl ?_
    show Steps p.tables e below (T14.setTop (mkF m 148 #[.val (.int p1), .val (.long q2), .second, .val (.long q3), .second, .val (.long q4), .second, .val (.int (3 : Int32)), .val (.long vb), .second, .val (.long vc), .second, .val (.ref b6), .val (.long mm), .second, .val (.long mm), .second] [(.long mm), (.long mm)])) _
    refine XS.lcmp X14.here hx rfl (hb hby at_148) rfl ?_
    show Steps p.tables e below (T14.setTop (mkF m 149 #[.val (.int p1), .val (.long q2), .second, .val (.long q3), .second, .val (.long q4), .second, .val (.int (3 : Int32)), .val (.long vb), .second, .val (.long vc), .second, .val (.ref b6), .val (.long mm), .second, .val (.long mm), .second] [(.int (lcmpW mm mm))])) _
    refine XS.ifYes X14.here hx rfl (pc0 := 149) (pc' := 154) rfl (hb hby at_149) rfl ((if0 _ _).trans (teq (((lw_eq _ _).mpr rfl) : (lcmpW mm mm) = (0 : Int32))).1) (by decide) (by decide) ?_
    show Steps p.tables e below (T14.setTop (mkF m 154 #[.val (.int p1), .val (.long q2), .second, .val (.long q3), .second, .val (.long q4), .second, .val (.int (3 : Int32)), .val (.long vb), .second, .val (.long vc), .second, .val (.ref b6), .val (.long mm), .second, .val (.long mm), .second] [])) _
    refine XS.lload X14.here hx rfl (hb hby at_154) rfl ?_
    show Steps p.tables e below (T14.setTop (mkF m 156 #[.val (.int p1), .val (.long q2), .second, .val (.long q3), .second, .val (.long q4), .second, .val (.int (3 : Int32)), .val (.long vb), .second, .val (.long vc), .second, .val (.ref b6), .val (.long mm), .second, .val (.long mm), .second] [(.long mm)])) _
    refine X14.ldc2Long hx hown (mvT hZ (hw _ (List.mem_of_getElem? (i := 43) rfl))) (g := (mkF m 156 #[.val (.int p1), .val (.long q2), .second, .val (.long q3), .second, .val (.long q4), .second, .val (.int (3 : Int32)), .val (.long vb), .second, .val (.long vc), .second, .val (.ref b6), .val (.long mm), .second, .val (.long mm), .second] [(.long mm)])) rfl (hb hby at_156) _ ?_
    show Steps p.tables e below (T14.setTop (mkF m 159 #[.val (.int p1), .val (.long q2), .second, .val (.long q3), .second, .val (.long q4), .second, .val (.int (3 : Int32)), .val (.long vb), .second, .val (.long vc), .second, .val (.ref b6), .val (.long mm), .second, .val (.long mm), .second] [(.long (9223372036854775807 : Int64)), (.long mm)])) _
    refine XS.lcmp X14.here hx rfl (hb hby at_159) rfl ?_
    show Steps p.tables e below (T14.setTop (mkF m 160 #[.val (.int p1), .val (.long q2), .second, .val (.long q3), .second, .val (.long q4), .second, .val (.int (3 : Int32)), .val (.long vb), .second, .val (.long vc), .second, .val (.ref b6), .val (.long mm), .second, .val (.long mm), .second] [(.int (lcmpW mm (9223372036854775807 : Int64)))])) _
    refine XS.ifYes X14.here hx rfl (pc0 := 160) (pc' := 177) rfl (hb hby at_160) rfl ((if0 _ _).trans (feq ((fun q => h160 ((lw_eq _ _).mp q)) : ¬ ((lcmpW mm (9223372036854775807 : Int64)) = (0 : Int32)))).2) (by decide) (by decide) ?_
    show Steps p.tables e below (T14.setTop (mkF m 177 #[.val (.int p1), .val (.long q2), .second, .val (.long q3), .second, .val (.long q4), .second, .val (.int (3 : Int32)), .val (.long vb), .second, .val (.long vc), .second, .val (.ref b6), .val (.long mm), .second, .val (.long mm), .second] [])) _
    refine XS.lloadN X14.here hx rfl (hb hby at_177) rfl ?_
    show Steps p.tables e below (T14.setTop (mkF m 178 #[.val (.int p1), .val (.long q2), .second, .val (.long q3), .second, .val (.long q4), .second, .val (.int (3 : Int32)), .val (.long vb), .second, .val (.long vc), .second, .val (.ref b6), .val (.long mm), .second, .val (.long mm), .second] [(.long q2)])) _
    refine XS.lload X14.here hx rfl (hb hby at_178) rfl ?_
    show Steps p.tables e below (T14.setTop (mkF m 180 #[.val (.int p1), .val (.long q2), .second, .val (.long q3), .second, .val (.long q4), .second, .val (.int (3 : Int32)), .val (.long vb), .second, .val (.long vc), .second, .val (.ref b6), .val (.long mm), .second, .val (.long mm), .second] [(.long mm), (.long q2)])) _
    refine XS.lcmp X14.here hx rfl (hb hby at_180) rfl ?_
    show Steps p.tables e below (T14.setTop (mkF m 181 #[.val (.int p1), .val (.long q2), .second, .val (.long q3), .second, .val (.long q4), .second, .val (.int (3 : Int32)), .val (.long vb), .second, .val (.long vc), .second, .val (.ref b6), .val (.long mm), .second, .val (.long mm), .second] [(.int (lcmpW q2 mm))])) _
    refine XS.ifYes X14.here hx rfl (pc0 := 181) (pc' := 193) rfl (hb hby at_181) rfl ((if0 _ _).trans (feq ((fun q => h181 ((lw_eq _ _).mp q)) : ¬ ((lcmpW q2 mm) = (0 : Int32)))).2) (by decide) (by decide) ?_
    show Steps p.tables e below (T14.setTop (mkF m 193 #[.val (.int p1), .val (.long q2), .second, .val (.long q3), .second, .val (.long q4), .second, .val (.int (3 : Int32)), .val (.long vb), .second, .val (.long vc), .second, .val (.ref b6), .val (.long mm), .second, .val (.long mm), .second] [])) _
    refine XS.iload X14.here hx rfl (hb hby at_193) rfl ?_
    show Steps p.tables e below (T14.setTop (mkF m 195 #[.val (.int p1), .val (.long q2), .second, .val (.long q3), .second, .val (.long q4), .second, .val (.int (3 : Int32)), .val (.long vb), .second, .val (.long vc), .second, .val (.ref b6), .val (.long mm), .second, .val (.long mm), .second] [(.int (3 : Int32))])) _
    refine XS.iconst X14.here hx rfl (hb hby at_195) ?_
    show Steps p.tables e below (T14.setTop (mkF m 196 #[.val (.int p1), .val (.long q2), .second, .val (.long q3), .second, .val (.long q4), .second, .val (.int (3 : Int32)), .val (.long vb), .second, .val (.long vc), .second, .val (.ref b6), .val (.long mm), .second, .val (.long mm), .second] [(.int (2 : Int32)), (.int (3 : Int32))])) _
    refine XS.icmpNo X14.here hx rfl (hb hby at_196) rfl (flt hc196).1 ?_
    show Steps p.tables e below (T14.setTop (mkF m 199 #[.val (.int p1), .val (.long q2), .second, .val (.long q3), .second, .val (.long q4), .second, .val (.int (3 : Int32)), .val (.long vb), .second, .val (.long vc), .second, .val (.ref b6), .val (.long mm), .second, .val (.long mm), .second] [])) _
    refine XS.lload X14.here hx rfl (hb hby at_199) rfl ?_
    show Steps p.tables e below (T14.setTop (mkF m 201 #[.val (.int p1), .val (.long q2), .second, .val (.long q3), .second, .val (.long q4), .second, .val (.int (3 : Int32)), .val (.long vb), .second, .val (.long vc), .second, .val (.ref b6), .val (.long mm), .second, .val (.long mm), .second] [(.long vb)])) _
    refine XS.lload X14.here hx rfl (hb hby at_201) rfl ?_
    show Steps p.tables e below (T14.setTop (mkF m 203 #[.val (.int p1), .val (.long q2), .second, .val (.long q3), .second, .val (.long q4), .second, .val (.int (3 : Int32)), .val (.long vb), .second, .val (.long vc), .second, .val (.ref b6), .val (.long mm), .second, .val (.long mm), .second] [(.long mm), (.long vb)])) _
    refine XS.lcmp X14.here hx rfl (hb hby at_203) rfl ?_
    show Steps p.tables e below (T14.setTop (mkF m 204 #[.val (.int p1), .val (.long q2), .second, .val (.long q3), .second, .val (.long q4), .second, .val (.int (3 : Int32)), .val (.long vb), .second, .val (.long vc), .second, .val (.ref b6), .val (.long mm), .second, .val (.long mm), .second] [(.int (lcmpW vb mm))])) _
    refine XS.ifNo X14.here hx rfl (hb hby at_204) rfl ((if0 _ _).trans (teq (((lw_eq _ _).mpr h204) : (lcmpW vb mm) = (0 : Int32))).2) ?_
    show Steps p.tables e below (T14.setTop (mkF m 207 #[.val (.int p1), .val (.long q2), .second, .val (.long q3), .second, .val (.long q4), .second, .val (.int (3 : Int32)), .val (.long vb), .second, .val (.long vc), .second, .val (.ref b6), .val (.long mm), .second, .val (.long mm), .second] [])) _
    refine XS.aload X14.here hx rfl (hb hby at_207) rfl rfl ?_
    show Steps p.tables e below (T14.setTop (mkF m 209 #[.val (.int p1), .val (.long q2), .second, .val (.long q3), .second, .val (.long q4), .second, .val (.int (3 : Int32)), .val (.long vb), .second, .val (.long vc), .second, .val (.ref b6), .val (.long mm), .second, .val (.long mm), .second] [(.ref b6)])) _
    refine XS.iconst X14.here hx rfl (hb hby at_209) ?_
    show Steps p.tables e below (T14.setTop (mkF m 210 #[.val (.int p1), .val (.long q2), .second, .val (.long q3), .second, .val (.long q4), .second, .val (.int (3 : Int32)), .val (.long vb), .second, .val (.long vc), .second, .val (.ref b6), .val (.long mm), .second, .val (.long mm), .second] [(.int (1 : Int32)), (.ref b6)])) _
    refine X14.ldc2Long hx hown (mvT hZ (hw _ (List.mem_of_getElem? (i := 43) rfl))) (g := (mkF m 210 #[.val (.int p1), .val (.long q2), .second, .val (.long q3), .second, .val (.long q4), .second, .val (.int (3 : Int32)), .val (.long vb), .second, .val (.long vc), .second, .val (.ref b6), .val (.long mm), .second, .val (.long mm), .second] [(.int (1 : Int32)), (.ref b6)])) rfl (hb hby at_210) _ ?_
    show Steps p.tables e below (T14.setTop (mkF m 213 #[.val (.int p1), .val (.long q2), .second, .val (.long q3), .second, .val (.long q4), .second, .val (.int (3 : Int32)), .val (.long vb), .second, .val (.long vc), .second, .val (.ref b6), .val (.long mm), .second, .val (.long mm), .second] [(.long (9223372036854775807 : Int64)), (.int (1 : Int32)), (.ref b6)])) _
    refine st15.trans ?_
    show Steps p.tables e below (T15.setTop (mkF m 216 #[.val (.int p1), .val (.long q2), .second, .val (.long q3), .second, .val (.long q4), .second, .val (.int (3 : Int32)), .val (.long vb), .second, .val (.long vc), .second, .val (.ref b6), .val (.long mm), .second, .val (.long mm), .second] [])) _
    refine XS.iload X15.here hx rfl (hb hby at_216) rfl ?_
    show Steps p.tables e below (T15.setTop (mkF m 218 #[.val (.int p1), .val (.long q2), .second, .val (.long q3), .second, .val (.long q4), .second, .val (.int (3 : Int32)), .val (.long vb), .second, .val (.long vc), .second, .val (.ref b6), .val (.long mm), .second, .val (.long mm), .second] [(.int (3 : Int32))])) _
    refine XS.iconst X15.here hx rfl (hb hby at_218) ?_
    show Steps p.tables e below (T15.setTop (mkF m 219 #[.val (.int p1), .val (.long q2), .second, .val (.long q3), .second, .val (.long q4), .second, .val (.int (3 : Int32)), .val (.long vb), .second, .val (.long vc), .second, .val (.ref b6), .val (.long mm), .second, .val (.long mm), .second] [(.int (3 : Int32)), (.int (3 : Int32))])) _
    refine XS.icmpNo X15.here hx rfl (hb hby at_219) rfl (flt hc219).1 ?_
    show Steps p.tables e below (T15.setTop (mkF m 222 #[.val (.int p1), .val (.long q2), .second, .val (.long q3), .second, .val (.long q4), .second, .val (.int (3 : Int32)), .val (.long vb), .second, .val (.long vc), .second, .val (.ref b6), .val (.long mm), .second, .val (.long mm), .second] [])) _
    refine XS.lload X15.here hx rfl (hb hby at_222) rfl ?_
    show Steps p.tables e below (T15.setTop (mkF m 224 #[.val (.int p1), .val (.long q2), .second, .val (.long q3), .second, .val (.long q4), .second, .val (.int (3 : Int32)), .val (.long vb), .second, .val (.long vc), .second, .val (.ref b6), .val (.long mm), .second, .val (.long mm), .second] [(.long vc)])) _
    refine XS.lload X15.here hx rfl (hb hby at_224) rfl ?_
    show Steps p.tables e below (T15.setTop (mkF m 226 #[.val (.int p1), .val (.long q2), .second, .val (.long q3), .second, .val (.long q4), .second, .val (.int (3 : Int32)), .val (.long vb), .second, .val (.long vc), .second, .val (.ref b6), .val (.long mm), .second, .val (.long mm), .second] [(.long mm), (.long vc)])) _
    refine XS.lcmp X15.here hx rfl (hb hby at_226) rfl ?_
    show Steps p.tables e below (T15.setTop (mkF m 227 #[.val (.int p1), .val (.long q2), .second, .val (.long q3), .second, .val (.long q4), .second, .val (.int (3 : Int32)), .val (.long vb), .second, .val (.long vc), .second, .val (.ref b6), .val (.long mm), .second, .val (.long mm), .second] [(.int (lcmpW vc mm))])) _
    refine XS.ifYes X15.here hx rfl (pc0 := 227) (pc' := 239) rfl (hb hby at_227) rfl ((if0 _ _).trans (feq ((fun q => h227 ((lw_eq _ _).mp q)) : ¬ ((lcmpW vc mm) = (0 : Int32)))).2) (by decide) (by decide) ?_
    show Steps p.tables e below (T15.setTop (mkF m 239 #[.val (.int p1), .val (.long q2), .second, .val (.long q3), .second, .val (.long q4), .second, .val (.int (3 : Int32)), .val (.long vb), .second, .val (.long vc), .second, .val (.ref b6), .val (.long mm), .second, .val (.long mm), .second] [])) _
    refine XS.aload X15.here hx rfl (hb hby at_239) rfl rfl ?_
    show Steps p.tables e below (T15.setTop (mkF m 241 #[.val (.int p1), .val (.long q2), .second, .val (.long q3), .second, .val (.long q4), .second, .val (.int (3 : Int32)), .val (.long vb), .second, .val (.long vc), .second, .val (.ref b6), .val (.long mm), .second, .val (.long mm), .second] [(.ref b6)])) _
    refine st16.trans ?_
    show Steps p.tables e below (T16.setTop (mkF m 244 #[.val (.int p1), .val (.long q2), .second, .val (.long q3), .second, .val (.long q4), .second, .val (.int (3 : Int32)), .val (.long vb), .second, .val (.long vc), .second, .val (.ref b6), .val (.long mm), .second, .val (.long mm), .second] [(.int (1 : Int32))])) _
    exact retN X16 hx (t := .boolean) Bd.returns (by simp) (hb hby at_244) hr
  · show Q0 Z p1 q2 q3 q4 h0 n0 _ T16.heap _
    exact ⟨rfl, N16⟩
set_option maxRecDepth 65536 in
set_option maxHeartbeats 40000000 in
theorem rm0_3nny (l : Launch) (Z : State) (a0 : Array Value) (hw : ∀ d ∈ tables_1, d.before a0 Z = true) (ws : List Jvm.Cond) (p1 : Int32) (q2 : Int64) (q3 : Int64) (q4 : Int64) (h0 : Heap) (n0 : Nat) (Z0 : n0 ≤ h0.size) (vb vc mm : Int64) (hn : own_n p1 = 3) (hvb : own_vb p1 q2 q3 = vb) (hvc : own_vc p1 q2 q3 q4 = vc) (hm : mm = (own_mn (own_mn q2 vb) vc)) (h160 : ¬ (mm = (9223372036854775807 : Int64))) (h181 : ¬ (q2 = mm)) (h204 : ¬ (vb = mm)) (h227 : vc = mm) :
    MetFree l x (head1 (Jvm.Cond.code x code maxLocals ret :: ws) room_1) (fun a U => a = #[(.int p1), (.long q2), (.long q3), (.long q4)] ∧ Z.Warmed39 U.vm ∧ U.heap = h0) (fun _ _ _ _ _ => True) (fun _ U o U' => ∃ v L, o = .returned v ∧ Q0 Z p1 q2 q3 q4 h0 n0 v U'.heap L ∧ FrameEnd U o U' L room_1.cells room_1.slots) := by
  refine MetFree.of_bodySF (plainFor_of_name pn_0) hisR ?_
  intro p e s m args below meth c s₁ Bd hml0 hP hK
  obtain ⟨rfl, hZ, hh⟩ := hP
  have hx := Bd.exec
  have hby := Bd.bytes
  have hml : c.maxLocals = 17 := hml0
  have hown : s.vm.findClass "com/example/mullion/mullion/aggregators/FurthestBackFindSmallestPinLaw" = some m.cls := findClass_of_methodNamed Bd.named
  have hnm := (name_of_methodNamed Bd.named Bd.method).1
  have X0 : Stand p l e room_1 s m #[(.int p1), (.long q2), (.long q3), (.long q4)] below meth c s₁ [] 0 0 := Stand.of_body Bd
  have e0 : s₁.heap = h0 := by rw [← hh, Bd.state]; rfl
  have N0 := Fr.nil n0
  have pre0 : ∀ t, Steps p.tables e below (s₁.setTop (mkF m 0 #[.val (.int p1), .val (.long q2), .second, .val (.long q3), .second, .val (.long q4), .second, .unset, .unset, .unset, .unset, .unset, .unset, .unset, .unset, .unset, .unset] [])) t → Steps p.tables e below (s₁.setTop (entryFrame m #[(.int p1), (.long q2), (.long q3), (.long q4)] maxLocals)) t := fun t k => castTop (ef_0 m p1 q2 q3 q4) k
  have hc66 : ¬ ((3 : Int32) < (2 : Int32)) := (by decide)
  have hc80 : ¬ ((3 : Int32) < (3 : Int32)) := (by decide)
  have hc97 : ¬ ((3 : Int32) < (2 : Int32)) := (by decide)
  have hc112 : ¬ ((3 : Int32) < (3 : Int32)) := (by decide)
  have hc196 : ¬ ((3 : Int32) < (2 : Int32)) := (by decide)
  have hc219 : ¬ ((3 : Int32) < (3 : Int32)) := (by decide)
  obtain ⟨T5, X5, e5, st5⟩ := own_j0 p1 q2 q3 q4 (3 : Int32) vb vc hn hvb hvc X0 hx hZ hw hby hml hown e0
  obtain ⟨T6, h6, X6, e6, E6, A6, D6, -, st6⟩ := newO X5 hx hZ hown (hw _ (List.mem_of_getElem? (i := 1) rfl)) (hw _ (List.mem_of_getElem? (i := 2) rfl)) (hw _ (List.mem_of_getElem? (i := 3) rfl)) e5 (g := (mkF m 42 #[.val (.int p1), .val (.long q2), .second, .val (.long q3), .second, .val (.long q4), .second, .val (.int (3 : Int32)), .val (.long vb), .second, .val (.long vc), .second, .unset, .unset, .unset, .unset, .unset] [])) rfl (hb hby at_42) (by decide) (by decide)
  obtain ⟨b6, g6⟩ : ∃ z, z = h0.size := ⟨_, rfl⟩
  rw [← g6] at A6 D6 st6
  have F_values_b6 : Fld Z h6 b6 "com/example/mullion/mullion/aggregators/FurthestBack" "values" "[J" .null := D6 (Or.inr (hw _ (List.mem_of_getElem? (i := 13) rfl))) (ty := (.array .long)) (by decide)
  have F_mark_b6 : Fld Z h6 b6 "com/example/mullion/mullion/aggregators/FurthestBack" "mark" "J" (.long (0 : Int64)) := D6 (Or.inl (hw _ (List.mem_of_getElem? (i := 24) rfl))) (ty := .long) (by decide)
  have F_atOrBelowMark_b6 : Fld Z h6 b6 "com/example/mullion/mullion/aggregators/FurthestBack" "atOrBelowMark" "I" (.int (0 : Int32)) := D6 (Or.inl (hw _ (List.mem_of_getElem? (i := 26) rfl))) (ty := .int) (by decide)
  have E_b6 := A6
  have g_b6 : n0 ≤ b6 := Nat.le_trans Z0 (Nat.le_of_eq g6.symm)
  have sz_b6 : h0.size ≤ b6 := (Nat.le_trans (Keep.refl h0 []).1 (Nat.le_of_eq g6.symm))
  have K6 : Keep h0 h6 [] := (Keep.refl h0 []).ext E6
  obtain ⟨_, _, ⟨T7, L7, k7, n7⟩, -, X7, ⟨Lc7, hQ7, l7, y7, z7⟩, st7⟩ := X6.specialBack hx (y := (⟨"com/example/mullion/mullion/aggregators/FurthestBack", "<init>", "(IJ)V"⟩ : MethodName)) rfl hown (mvT hZ (hw _ (List.mem_of_getElem? (i := 5) rfl))) (mvT hZ (hw _ (List.mem_of_getElem? (i := 6) rfl))) (mvT hZ (hw _ (List.mem_of_getElem? (i := 7) rfl))) (by decide) (backOf (W := 1) (rm1 l Z a0 hw [] b6 (3 : Int32) (-9223372036854775808 : Int64) 3 h6 n0 (Nat.le_trans Z0 E6.1) (by decide) rfl (by decide) E_b6 F_values_b6 F_mark_b6 F_atOrBelowMark_b6 g_b6) hZ (hw _ (List.mem_of_getElem? (i := 7) rfl)) (hw _ (List.mem_of_getElem? (i := 3) rfl)) (by decide) (by decide)) (g := (mkF m 51 #[.val (.int p1), .val (.long q2), .second, .val (.long q3), .second, .val (.long q4), .second, .val (.int (3 : Int32)), .val (.long vb), .second, .val (.long vc), .second, .unset, .unset, .unset, .unset, .unset] [(.long (-9223372036854775808 : Int64)), (.int (3 : Int32)), (.ref b6), (.ref b6)])) rfl (by rw [hml]; rfl) (Steps.refl _) (a := b6) (argsL := [(.int (3 : Int32)), (.long (-9223372036854775808 : Int64))]) (rest := [(.ref b6)]) (lenOf pd_0_0 rfl) rfl (by show 2 * 0 + _ ≤ _; exact Nat.le_of_eq rfl) (hb hby at_51) (fun _ _ => ⟨rfl, e6, (by decide : 1 + 1 ≤ _), (by decide : 3 + 3 ≤ _)⟩)
  dsimp only [Pt.U, Pt.locs, Pt.cells, Pt.slots] at X7 l7 y7 z7 st7 hQ7
  subst l7 y7 z7
  obtain ⟨rfl, N7q, K7q, t, st, E7q, Fv7q, Fm7q, Fa7q, V7q⟩ := hQ7
  have N7 := Fr.app N0 N7q
  have z7q : n0 ≤ T7.heap.size := Nat.le_trans (Nat.le_trans Z0 E6.1) K7q.1
  have hne : b6 ≠ t := Nat.ne_of_lt (Nat.lt_of_lt_of_le E_b6.lt st)
  have g_t : n0 ≤ t := Nat.le_trans (Nat.le_trans Z0 E6.1) st
  obtain ⟨cq8, kq8, q8a, q8b, q8c⟩ := isOf hZ rfl E7q
  obtain ⟨_, _, ⟨T8, L8, k8, n8⟩, -, X8, ⟨Lc8, hQ8, l8, y8, z8⟩, st8⟩ := X7.virtualBack hx (y := (⟨"com/example/mullion/mullion/aggregators/FurthestBack", "moveOn", "(IJ)V"⟩ : MethodName)) (z := (⟨"com/example/mullion/mullion/aggregators/FurthestBack", "moveOn", "(IJ)V"⟩ : MethodName)) hown (mvT hZ (hw _ (List.mem_of_getElem? (i := 27) rfl))) (mvT hZ (hw _ (List.mem_of_getElem? (i := 28) rfl))) (notFace_of_selects (args := #[]) (mvT hZ (hw _ (List.mem_of_getElem? (i := 30) rfl)))) (mvT hZ (hw _ (List.mem_of_getElem? (i := 30) rfl))) (mvT hZ (hw _ (List.mem_of_getElem? (i := 29) rfl))) (by decide) (backOf (W := 0) (rm5 l Z a0 hw [] b6 (0 : Int32) q2 t 3 _ 0 _ _ T7.heap n0 z7q rfl (by decide) (by decide) E7q Fv7q Fm7q Fa7q V7q hne g_b6 g_t) hZ (hw _ (List.mem_of_getElem? (i := 31) rfl)) (hw _ (List.mem_of_getElem? (i := 3) rfl)) (by decide) (by decide)) q8a q8c (g := (mkF m 60 #[.val (.int p1), .val (.long q2), .second, .val (.long q3), .second, .val (.long q4), .second, .val (.int (3 : Int32)), .val (.long vb), .second, .val (.long vc), .second, .val (.ref b6), .unset, .unset, .unset, .unset] [(.long q2), (.int (0 : Int32)), (.ref b6)])) rfl (by rw [hml]; rfl) (Steps.refl _) (argsL := [(.int (0 : Int32)), (.long q2)]) (rest := []) (lenOf pd_0_0 rfl) rfl (by show 2 * 0 + _ ≤ _; exact Nat.le_of_eq rfl) (hb hby at_60) (fun _ _ => ⟨rfl, rfl, (by decide : 2 + 0 ≤ _), (by decide : 6 + 0 ≤ _)⟩)
  dsimp only [Pt.U, Pt.locs, Pt.cells, Pt.slots] at X8 l8 y8 z8 st8 hQ8
  subst l8 y8 z8
  obtain ⟨rfl, N8q, K8q, E8q, Fv8q, Fm8q, Fa8q, V8q⟩ := hQ8
  have N8 := Fr.app N7 N8q
  have z8q : n0 ≤ T8.heap.size := Nat.le_trans z7q K8q.1
  obtain ⟨cq9, kq9, q9a, q9b, q9c⟩ := isOf hZ rfl E8q
  obtain ⟨_, _, ⟨T9, L9, k9, n9⟩, -, X9, ⟨Lc9, hQ9, l9, y9, z9⟩, st9⟩ := X8.virtualBack hx (y := (⟨"com/example/mullion/mullion/aggregators/FurthestBack", "moveOn", "(IJ)V"⟩ : MethodName)) (z := (⟨"com/example/mullion/mullion/aggregators/FurthestBack", "moveOn", "(IJ)V"⟩ : MethodName)) hown (mvT hZ (hw _ (List.mem_of_getElem? (i := 27) rfl))) (mvT hZ (hw _ (List.mem_of_getElem? (i := 28) rfl))) (notFace_of_selects (args := #[]) (mvT hZ (hw _ (List.mem_of_getElem? (i := 30) rfl)))) (mvT hZ (hw _ (List.mem_of_getElem? (i := 30) rfl))) (mvT hZ (hw _ (List.mem_of_getElem? (i := 29) rfl))) (by decide) (backOf (W := 0) (rm5 l Z a0 hw [] b6 (1 : Int32) vb t 3 _ 1 _ _ T8.heap n0 z8q rfl (by decide) (by decide) E8q Fv8q Fm8q Fa8q V8q hne g_b6 g_t) hZ (hw _ (List.mem_of_getElem? (i := 31) rfl)) (hw _ (List.mem_of_getElem? (i := 3) rfl)) (by decide) (by decide)) q9a q9c (g := (mkF m 74 #[.val (.int p1), .val (.long q2), .second, .val (.long q3), .second, .val (.long q4), .second, .val (.int (3 : Int32)), .val (.long vb), .second, .val (.long vc), .second, .val (.ref b6), .unset, .unset, .unset, .unset] [(.long vb), (.int (1 : Int32)), (.ref b6)])) rfl (by rw [hml]; rfl) (Steps.refl _) (argsL := [(.int (1 : Int32)), (.long vb)]) (rest := []) (lenOf pd_0_0 rfl) rfl (by show 2 * 0 + _ ≤ _; exact Nat.le_of_eq rfl) (hb hby at_74) (fun _ _ => ⟨rfl, rfl, (by decide : 2 + 0 ≤ _), (by decide : 6 + 0 ≤ _)⟩)
  dsimp only [Pt.U, Pt.locs, Pt.cells, Pt.slots] at X9 l9 y9 z9 st9 hQ9
  subst l9 y9 z9
  obtain ⟨rfl, N9q, K9q, E9q, Fv9q, Fm9q, Fa9q, V9q⟩ := hQ9
  have N9 := Fr.app N8 N9q
  have z9q : n0 ≤ T9.heap.size := Nat.le_trans z8q K9q.1
  obtain ⟨cq10, kq10, q10a, q10b, q10c⟩ := isOf hZ rfl E9q
  obtain ⟨_, _, ⟨T10, L10, k10, n10⟩, -, X10, ⟨Lc10, hQ10, l10, y10, z10⟩, st10⟩ := X9.virtualBack hx (y := (⟨"com/example/mullion/mullion/aggregators/FurthestBack", "moveOn", "(IJ)V"⟩ : MethodName)) (z := (⟨"com/example/mullion/mullion/aggregators/FurthestBack", "moveOn", "(IJ)V"⟩ : MethodName)) hown (mvT hZ (hw _ (List.mem_of_getElem? (i := 27) rfl))) (mvT hZ (hw _ (List.mem_of_getElem? (i := 28) rfl))) (notFace_of_selects (args := #[]) (mvT hZ (hw _ (List.mem_of_getElem? (i := 30) rfl)))) (mvT hZ (hw _ (List.mem_of_getElem? (i := 30) rfl))) (mvT hZ (hw _ (List.mem_of_getElem? (i := 29) rfl))) (by decide) (backOf (W := 0) (rm5 l Z a0 hw [] b6 (2 : Int32) vc t 3 _ 2 _ _ T9.heap n0 z9q rfl (by decide) (by decide) E9q Fv9q Fm9q Fa9q V9q hne g_b6 g_t) hZ (hw _ (List.mem_of_getElem? (i := 31) rfl)) (hw _ (List.mem_of_getElem? (i := 3) rfl)) (by decide) (by decide)) q10a q10c (g := (mkF m 88 #[.val (.int p1), .val (.long q2), .second, .val (.long q3), .second, .val (.long q4), .second, .val (.int (3 : Int32)), .val (.long vb), .second, .val (.long vc), .second, .val (.ref b6), .unset, .unset, .unset, .unset] [(.long vc), (.int (2 : Int32)), (.ref b6)])) rfl (by rw [hml]; rfl) (Steps.refl _) (argsL := [(.int (2 : Int32)), (.long vc)]) (rest := []) (lenOf pd_0_0 rfl) rfl (by show 2 * 0 + _ ≤ _; exact Nat.le_of_eq rfl) (hb hby at_88) (fun _ _ => ⟨rfl, rfl, (by decide : 2 + 0 ≤ _), (by decide : 6 + 0 ≤ _)⟩)
  dsimp only [Pt.U, Pt.locs, Pt.cells, Pt.slots] at X10 l10 y10 z10 st10 hQ10
  subst l10 y10 z10
  obtain ⟨rfl, N10q, K10q, E10q, Fv10q, Fm10q, Fa10q, V10q⟩ := hQ10
  have N10 := Fr.app N9 N10q
  have z10q : n0 ≤ T10.heap.size := Nat.le_trans z9q K10q.1
  obtain ⟨_, _, ⟨T11, L11, k11, n11⟩, -, X11, ⟨Lc11, hQ11, l11, y11, z11⟩, st11⟩ := Jvm.LawKit.callS X10 hx (y := (⟨"java/lang/Math", "min", "(JJ)J"⟩ : MethodName)) hown (mvT hZ (hw _ (List.mem_of_getElem? (i := 49) rfl))) (mvT hZ (hw _ (List.mem_of_getElem? (i := 50) rfl))) (mvT hZ (hw _ (List.mem_of_getElem? (i := 51) rfl))) (mvT hZ (hw _ (List.mem_of_getElem? (i := 52) rfl))) (by decide) (backOf (W := 0) (rm9 l Z a0 hw [] q2 vb  T10.heap n0 z10q) hZ (hw _ (List.mem_of_getElem? (i := 52) rfl)) (hw _ (List.mem_of_getElem? (i := 51) rfl)) (by decide) (by decide)) (g := (mkF m 104 #[.val (.int p1), .val (.long q2), .second, .val (.long q3), .second, .val (.long q4), .second, .val (.int (3 : Int32)), .val (.long vb), .second, .val (.long vc), .second, .val (.ref b6), .val (.long q2), .second, .unset, .unset] [(.long vb), (.long q2)])) rfl (by rw [hml]; rfl) (argsL := [(.long q2), (.long vb)]) (rest := []) (lenOf pd_0_6 rfl) rfl (by show 2 * 0 + _ ≤ _; exact Nat.le_of_eq rfl) (hb hby at_104) (fun _ _ => ⟨rfl, rfl, (by decide : 2 + 0 ≤ _), (by decide : 6 + 0 ≤ _)⟩)
  dsimp only [Pt.U, Pt.locs, Pt.cells, Pt.slots] at X11 l11 y11 z11 st11 hQ11
  subst l11 y11 z11
  obtain ⟨hv11, N11q, e11q⟩ := hQ11
  have N11 := Fr.app N10 N11q
  obtain ⟨m1, hm1⟩ : ∃ z, z = own_mn q2 vb := ⟨_, rfl⟩
  rw [← hm1] at hv11
  subst hv11
  have z11q : n0 ≤ T11.heap.size := by rw [e11q]; exact z10q
  have E11q := E10q
  rw [← e11q] at E11q
  have Fv11q := Fv10q
  rw [← e11q] at Fv11q
  have Fm11q := Fm10q
  rw [← e11q] at Fm11q
  have Fa11q := Fa10q
  rw [← e11q] at Fa11q
  have V11q := V10q
  rw [← e11q] at V11q
  obtain ⟨_, _, ⟨T12, L12, k12, n12⟩, -, X12, ⟨Lc12, hQ12, l12, y12, z12⟩, st12⟩ := Jvm.LawKit.callS X11 hx (y := (⟨"java/lang/Math", "min", "(JJ)J"⟩ : MethodName)) hown (mvT hZ (hw _ (List.mem_of_getElem? (i := 49) rfl))) (mvT hZ (hw _ (List.mem_of_getElem? (i := 50) rfl))) (mvT hZ (hw _ (List.mem_of_getElem? (i := 51) rfl))) (mvT hZ (hw _ (List.mem_of_getElem? (i := 52) rfl))) (by decide) (backOf (W := 0) (rm9 l Z a0 hw [] m1 vc  T11.heap n0 z11q) hZ (hw _ (List.mem_of_getElem? (i := 52) rfl)) (hw _ (List.mem_of_getElem? (i := 51) rfl)) (by decide) (by decide)) (g := (mkF m 119 #[.val (.int p1), .val (.long q2), .second, .val (.long q3), .second, .val (.long q4), .second, .val (.int (3 : Int32)), .val (.long vb), .second, .val (.long vc), .second, .val (.ref b6), .val (.long m1), .second, .unset, .unset] [(.long vc), (.long m1)])) rfl (by rw [hml]; rfl) (argsL := [(.long m1), (.long vc)]) (rest := []) (lenOf pd_0_6 rfl) rfl (by show 2 * 0 + _ ≤ _; exact Nat.le_of_eq rfl) (hb hby at_119) (fun _ _ => ⟨rfl, rfl, (by decide : 2 + 0 ≤ _), (by decide : 6 + 0 ≤ _)⟩)
  dsimp only [Pt.U, Pt.locs, Pt.cells, Pt.slots] at X12 l12 y12 z12 st12 hQ12
  subst l12 y12 z12
  obtain ⟨hv12, N12q, e12q⟩ := hQ12
  have N12 := Fr.app N11 N12q
  rw [hm1, ← hm] at hv12
  subst hv12
  have z12q : n0 ≤ T12.heap.size := by rw [e12q]; exact z11q
  have E12q := E11q
  rw [← e12q] at E12q
  have Fv12q := Fv11q
  rw [← e12q] at Fv12q
  have Fm12q := Fm11q
  rw [← e12q] at Fm12q
  have Fa12q := Fa11q
  rw [← e12q] at Fa12q
  have V12q := V11q
  rw [← e12q] at V12q
  obtain ⟨cq13, kq13, q13a, q13b, q13c⟩ := isOf hZ rfl E12q
  obtain ⟨_, _, ⟨T13, L13, k13, n13⟩, -, X13, ⟨Lc13, hQ13, l13, y13, z13⟩, st13⟩ := X12.virtualBack hx (y := (⟨"com/example/mullion/mullion/aggregators/FurthestBack", "findSmallest", "()J"⟩ : MethodName)) (z := (⟨"com/example/mullion/mullion/aggregators/FurthestBack", "findSmallest", "()J"⟩ : MethodName)) hown (mvT hZ (hw _ (List.mem_of_getElem? (i := 32) rfl))) (mvT hZ (hw _ (List.mem_of_getElem? (i := 33) rfl))) (notFace_of_selects (args := #[]) (mvT hZ (hw _ (List.mem_of_getElem? (i := 35) rfl)))) (mvT hZ (hw _ (List.mem_of_getElem? (i := 35) rfl))) (mvT hZ (hw _ (List.mem_of_getElem? (i := 34) rfl))) (by decide) (backOf (W := 0) (rm6 l Z a0 hw [] b6 t 3 (fun j => if j = 2 then vc else if j = 1 then vb else if j = 0 then q2 else (-9223372036854775808 : Int64)) _ _ T12.heap n0 z12q (by decide) E12q Fv12q Fm12q Fa12q V12q hne g_b6) hZ (hw _ (List.mem_of_getElem? (i := 36) rfl)) (hw _ (List.mem_of_getElem? (i := 3) rfl)) (by decide) (by decide)) q13a q13c (g := (mkF m 126 #[.val (.int p1), .val (.long q2), .second, .val (.long q3), .second, .val (.long q4), .second, .val (.int (3 : Int32)), .val (.long vb), .second, .val (.long vc), .second, .val (.ref b6), .val (.long mm), .second, .unset, .unset] [(.ref b6)])) rfl (by rw [hml]; rfl) (Steps.refl _) (argsL := []) (rest := []) (lenOf pd_0_4 rfl) rfl (by show 2 * 0 + _ ≤ _; exact Nat.le_of_eq rfl) (hb hby at_126) (fun _ _ => ⟨rfl, rfl, (by decide : 2 + 0 ≤ _), (by decide : 6 + 0 ≤ _)⟩)
  dsimp only [Pt.U, Pt.locs, Pt.cells, Pt.slots] at X13 l13 y13 z13 st13 hQ13
  subst l13 y13 z13
  obtain ⟨hv13, N13q, K13q, E13q, Fv13q, Fm13q, Fa13q, V13q⟩ := hQ13
  have N13 := Fr.app N12 N13q
  have z13q : n0 ≤ T13.heap.size := Nat.le_trans z12q K13q.1
  have hfs : own_fs (fun j => if j = 2 then vc else if j = 1 then vb else if j = 0 then q2 else (-9223372036854775808 : Int64)) 3 0 ((9223372036854775807 : Int64), (0 : Int32)) = (mm, (own_is q2 mm + own_is vb mm + own_is vc mm)) := by show own_step (own_step (own_step ((9223372036854775807 : Int64), 0) q2) vb) vc = _; rw [own_first, own_second, hm]; exact own_third q2 vb vc
  rw [hfs] at hv13
  replace hv13 : _ = some (Value.long mm) := hv13
  subst hv13
  have Gm13q : Fld Z T13.heap b6 "com/example/mullion/mullion/aggregators/FurthestBack" "mark" "J" (.long mm) := by have q := Fm13q; rw [hfs] at q; exact q
  have Ga13q : Fld Z T13.heap b6 "com/example/mullion/mullion/aggregators/FurthestBack" "atOrBelowMark" "I" (.int (own_is q2 mm + own_is vb mm + own_is vc mm)) := by have q := Fa13q; rw [hfs] at q; exact q
  obtain ⟨cq14, kq14, q14a, q14b, q14c⟩ := isOf hZ rfl E13q
  obtain ⟨_, _, ⟨T14, L14, k14, n14⟩, -, X14, ⟨Lc14, hQ14, l14, y14, z14⟩, st14⟩ := X13.virtualBack hx (y := (⟨"com/example/mullion/mullion/aggregators/FurthestBack", "mark", "()J"⟩ : MethodName)) (z := (⟨"com/example/mullion/mullion/aggregators/FurthestBack", "mark", "()J"⟩ : MethodName)) hown (mvT hZ (hw _ (List.mem_of_getElem? (i := 38) rfl))) (mvT hZ (hw _ (List.mem_of_getElem? (i := 39) rfl))) (notFace_of_selects (args := #[]) (mvT hZ (hw _ (List.mem_of_getElem? (i := 41) rfl)))) (mvT hZ (hw _ (List.mem_of_getElem? (i := 41) rfl))) (mvT hZ (hw _ (List.mem_of_getElem? (i := 40) rfl))) (by decide) (backOf (W := 0) (rm7 l Z a0 hw [] b6 mm T13.heap n0 z13q Gm13q) hZ (hw _ (List.mem_of_getElem? (i := 42) rfl)) (hw _ (List.mem_of_getElem? (i := 3) rfl)) (by decide) (by decide)) q14a q14c (g := (mkF m 143 #[.val (.int p1), .val (.long q2), .second, .val (.long q3), .second, .val (.long q4), .second, .val (.int (3 : Int32)), .val (.long vb), .second, .val (.long vc), .second, .val (.ref b6), .val (.long mm), .second, .val (.long mm), .second] [(.ref b6)])) rfl (by rw [hml]; rfl) (Steps.refl _) (argsL := []) (rest := []) (lenOf pd_0_4 rfl) rfl (by show 2 * 0 + _ ≤ _; exact Nat.le_of_eq rfl) (hb hby at_143) (fun _ _ => ⟨rfl, rfl, (by decide : 2 + 0 ≤ _), (by decide : 6 + 0 ≤ _)⟩)
  dsimp only [Pt.U, Pt.locs, Pt.cells, Pt.slots] at X14 l14 y14 z14 st14 hQ14
  subst l14 y14 z14
  obtain ⟨rfl, N14q, e14q⟩ := hQ14
  have N14 := Fr.app N13 N14q
  have z14q : n0 ≤ T14.heap.size := by rw [e14q]; exact z13q
  have E14q := E13q
  rw [← e14q] at E14q
  have Fv14q := Fv13q
  rw [← e14q] at Fv14q
  have Fm14q := Gm13q
  rw [← e14q] at Fm14q
  have Fa14q := Ga13q
  rw [← e14q] at Fa14q
  have V14q := V13q
  rw [← e14q] at V14q
  obtain ⟨cq15, kq15, q15a, q15b, q15c⟩ := isOf hZ rfl E14q
  obtain ⟨_, _, ⟨T15, L15, k15, n15⟩, -, X15, ⟨Lc15, hQ15, l15, y15, z15⟩, st15⟩ := X14.virtualBack hx (y := (⟨"com/example/mullion/mullion/aggregators/FurthestBack", "moveOn", "(IJ)V"⟩ : MethodName)) (z := (⟨"com/example/mullion/mullion/aggregators/FurthestBack", "moveOn", "(IJ)V"⟩ : MethodName)) hown (mvT hZ (hw _ (List.mem_of_getElem? (i := 27) rfl))) (mvT hZ (hw _ (List.mem_of_getElem? (i := 28) rfl))) (notFace_of_selects (args := #[]) (mvT hZ (hw _ (List.mem_of_getElem? (i := 30) rfl)))) (mvT hZ (hw _ (List.mem_of_getElem? (i := 30) rfl))) (mvT hZ (hw _ (List.mem_of_getElem? (i := 29) rfl))) (by decide) (backOf (W := 0) (rm5 l Z a0 hw [] b6 (2 : Int32) (9223372036854775807 : Int64) t 3 _ 2 _ _ T14.heap n0 z14q rfl (by decide) (by decide) E14q Fv14q Fm14q Fa14q V14q hne g_b6 g_t) hZ (hw _ (List.mem_of_getElem? (i := 31) rfl)) (hw _ (List.mem_of_getElem? (i := 3) rfl)) (by decide) (by decide)) q15a q15c (g := (mkF m 236 #[.val (.int p1), .val (.long q2), .second, .val (.long q3), .second, .val (.long q4), .second, .val (.int (3 : Int32)), .val (.long vb), .second, .val (.long vc), .second, .val (.ref b6), .val (.long mm), .second, .val (.long mm), .second] [(.long (9223372036854775807 : Int64)), (.int (2 : Int32)), (.ref b6)])) rfl (by rw [hml]; rfl) (Steps.refl _) (argsL := [(.int (2 : Int32)), (.long (9223372036854775807 : Int64))]) (rest := []) (lenOf pd_0_0 rfl) rfl (by show 2 * 0 + _ ≤ _; exact Nat.le_of_eq rfl) (hb hby at_236) (fun _ _ => ⟨rfl, rfl, (by decide : 2 + 0 ≤ _), (by decide : 6 + 0 ≤ _)⟩)
  dsimp only [Pt.U, Pt.locs, Pt.cells, Pt.slots] at X15 l15 y15 z15 st15 hQ15
  subst l15 y15 z15
  obtain ⟨rfl, N15q, K15q, E15q, Fv15q, Fm15q, Fa15q, V15q⟩ := hQ15
  have N15 := Fr.app N14 N15q
  have z15q : n0 ≤ T15.heap.size := Nat.le_trans z14q K15q.1
  have Fb15q : Fld Z T15.heap b6 "com/example/mullion/mullion/aggregators/FurthestBack" "atOrBelowMark" "I" (.int ((own_is q2 mm + own_is vb mm + own_is vc mm) - (1 : Int32))) := by
    have q : Fld Z T15.heap b6 "com/example/mullion/mullion/aggregators/FurthestBack" "atOrBelowMark" "I" (.int (own_mv vc (9223372036854775807 : Int64) mm (own_is q2 mm + own_is vb mm + own_is vc mm))) := Fa15q
    rw [own_mv_dec (x := vc) (m := mm) h227 h160] at q
    exact q
  obtain ⟨cq16, kq16, q16a, q16b, q16c⟩ := isOf hZ rfl E15q
  obtain ⟨_, _, ⟨T16, L16, k16, n16⟩, -, X16, ⟨Lc16, hQ16, l16, y16, z16⟩, st16⟩ := X15.virtualBack hx (y := (⟨"com/example/mullion/mullion/aggregators/FurthestBack", "allMovedOn", "()Z"⟩ : MethodName)) (z := (⟨"com/example/mullion/mullion/aggregators/FurthestBack", "allMovedOn", "()Z"⟩ : MethodName)) hown (mvT hZ (hw _ (List.mem_of_getElem? (i := 44) rfl))) (mvT hZ (hw _ (List.mem_of_getElem? (i := 45) rfl))) (notFace_of_selects (args := #[]) (mvT hZ (hw _ (List.mem_of_getElem? (i := 47) rfl)))) (mvT hZ (hw _ (List.mem_of_getElem? (i := 47) rfl))) (mvT hZ (hw _ (List.mem_of_getElem? (i := 46) rfl))) (by decide) (backOf (W := 0) (rm8_f l Z a0 hw [] b6 ((own_is q2 mm + own_is vb mm + own_is vc mm) - (1 : Int32)) T15.heap n0 z15q Fb15q (by unfold own_is; rw [if_neg h181, if_neg h204, if_pos h227]; decide)) hZ (hw _ (List.mem_of_getElem? (i := 48) rfl)) (hw _ (List.mem_of_getElem? (i := 3) rfl)) (by decide) (by decide)) q16a q16c (g := (mkF m 241 #[.val (.int p1), .val (.long q2), .second, .val (.long q3), .second, .val (.long q4), .second, .val (.int (3 : Int32)), .val (.long vb), .second, .val (.long vc), .second, .val (.ref b6), .val (.long mm), .second, .val (.long mm), .second] [(.ref b6)])) rfl (by rw [hml]; rfl) (Steps.refl _) (argsL := []) (rest := []) (lenOf pd_0_5 rfl) rfl (by show 2 * 0 + _ ≤ _; exact Nat.le_of_eq rfl) (hb hby at_241) (fun _ _ => ⟨rfl, rfl, (by decide : 2 + 0 ≤ _), (by decide : 6 + 0 ≤ _)⟩)
  dsimp only [Pt.U, Pt.locs, Pt.cells, Pt.slots] at X16 l16 y16 z16 st16 hQ16
  subst l16 y16 z16
  obtain ⟨rfl, N16q, e16q⟩ := hQ16
  have N16 := Fr.app N15 N16q
  have z16q : n0 ≤ T16.heap.size := by rw [e16q]; exact z15q
  have E16q := E15q
  rw [← e16q] at E16q
  have Fv16q := Fv15q
  rw [← e16q] at Fv16q
  have Fm16q := Fm15q
  rw [← e16q] at Fm16q
  have Fa16q := Fb15q
  rw [← e16q] at Fa16q
  have V16q := V15q
  rw [← e16q] at V16q
  obtain ⟨fs, hr, hrun, hended, hW, hsame⟩ := X16.leave (v := some (.int (1 : Int32))) (fun h => by rw [Bd.returns] at h; cases h)
  refine ⟨_, _, pre0 _ ?_, hrun, hended, _, _, rfl, ?_, ⟨_, rfl⟩, hW, hsame.mono (by decide) (by decide)⟩
  · show Steps p.tables e below (s₁.setTop (mkF m 0 #[.val (.int p1), .val (.long q2), .second, .val (.long q3), .second, .val (.long q4), .second, .unset, .unset, .unset, .unset, .unset, .unset, .unset, .unset, .unset, .unset] [])) _
    refine st5 _ ?_
    show Steps p.tables e below (T5.setTop (mkF m 42 #[.val (.int p1), .val (.long q2), .second, .val (.long q3), .second, .val (.long q4), .second, .val (.int (3 : Int32)), .val (.long vb), .second, .val (.long vc), .second, .unset, .unset, .unset, .unset, .unset] [])) _
    refine st6 _ ?_
    show Steps p.tables e below (T6.setTop (mkF m 45 #[.val (.int p1), .val (.long q2), .second, .val (.long q3), .second, .val (.long q4), .second, .val (.int (3 : Int32)), .val (.long vb), .second, .val (.long vc), .second, .unset, .unset, .unset, .unset, .unset] [(.ref b6)])) _
    refine XS.dup X6.here hx rfl (hb hby at_45) rfl rfl ?_
    show Steps p.tables e below (T6.setTop (mkF m 46 #[.val (.int p1), .val (.long q2), .second, .val (.long q3), .second, .val (.long q4), .second, .val (.int (3 : Int32)), .val (.long vb), .second, .val (.long vc), .second, .unset, .unset, .unset, .unset, .unset] [(.ref b6), (.ref b6)])) _
    refine XS.iload X6.here hx rfl (hb hby at_46) rfl ?_
    show Steps p.tables e below (T6.setTop (mkF m 48 #[.val (.int p1), .val (.long q2), .second, .val (.long q3), .second, .val (.long q4), .second, .val (.int (3 : Int32)), .val (.long vb), .second, .val (.long vc), .second, .unset, .unset, .unset, .unset, .unset] [(.int (3 : Int32)), (.ref b6), (.ref b6)])) _
    refine X6.ldc2Long hx hown (mvT hZ (hw _ (List.mem_of_getElem? (i := 4) rfl))) (g := (mkF m 48 #[.val (.int p1), .val (.long q2), .second, .val (.long q3), .second, .val (.long q4), .second, .val (.int (3 : Int32)), .val (.long vb), .second, .val (.long vc), .second, .unset, .unset, .unset, .unset, .unset] [(.int (3 : Int32)), (.ref b6), (.ref b6)])) rfl (hb hby at_48) _ ?_
    show Steps p.tables e below (T6.setTop (mkF m 51 #[.val (.int p1), .val (.long q2), .second, .val (.long q3), .second, .val (.long q4), .second, .val (.int (3 : Int32)), .val (.long vb), .second, .val (.long vc), .second, .unset, .unset, .unset, .unset, .unset] [(.long (-9223372036854775808 : Int64)), (.int (3 : Int32)), (.ref b6), (.ref b6)])) _
    refine st7.trans ?_
    show Steps p.tables e below (T7.setTop (mkF m 54 #[.val (.int p1), .val (.long q2), .second, .val (.long q3), .second, .val (.long q4), .second, .val (.int (3 : Int32)), .val (.long vb), .second, .val (.long vc), .second, .unset, .unset, .unset, .unset, .unset] [(.ref b6)])) _
    refine XS.astore X7.here hx rfl (hb hby at_54) rfl rfl (l' := #[.val (.int p1), .val (.long q2), .second, .val (.long q3), .second, .val (.long q4), .second, .val (.int (3 : Int32)), .val (.long vb), .second, .val (.long vc), .second, .val (.ref b6), .unset, .unset, .unset, .unset]) rfl ?_
    show Steps p.tables e below (T7.setTop (mkF m 56 #[.val (.int p1), .val (.long q2), .second, .val (.long q3), .second, .val (.long q4), .second, .val (.int (3 : Int32)), .val (.long vb), .second, .val (.long vc), .second, .val (.ref b6), .unset, .unset, .unset, .unset] [])) _
    refine XS.aload X7.here hx rfl (hb hby at_56) rfl rfl ?_
    show Steps p.tables e below (T7.setTop (mkF m 58 #[.val (.int p1), .val (.long q2), .second, .val (.long q3), .second, .val (.long q4), .second, .val (.int (3 : Int32)), .val (.long vb), .second, .val (.long vc), .second, .val (.ref b6), .unset, .unset, .unset, .unset] [(.ref b6)])) _
    refine XS.iconst X7.here hx rfl (hb hby at_58) ?_
    show Steps p.tables e below (T7.setTop (mkF m 59 #[.val (.int p1), .val (.long q2), .second, .val (.long q3), .second, .val (.long q4), .second, .val (.int (3 : Int32)), .val (.long vb), .second, .val (.long vc), .second, .val (.ref b6), .unset, .unset, .unset, .unset] [(.int (0 : Int32)), (.ref b6)])) _
    refine XS.lloadN X7.here hx rfl (hb hby at_59) rfl ?_
    show Steps p.tables e below (T7.setTop (mkF m 60 #[.val (.int p1), .val (.long q2), .second, .val (.long q3), .second, .val (.long q4), .second, .val (.int (3 : Int32)), .val (.long vb), .second, .val (.long vc), .second, .val (.ref b6), .unset, .unset, .unset, .unset] [(.long q2), (.int (0 : Int32)), (.ref b6)])) _
    refine st8.trans ?_
    show Steps p.tables e below (T8.setTop (mkF m 63 #[.val (.int p1), .val (.long q2), .second, .val (.long q3), .second, .val (.long q4), .second, .val (.int (3 : Int32)), .val (.long vb), .second, .val (.long vc), .second, .val (.ref b6), .unset, .unset, .unset, .unset] [])) _
    refine XS.iload X8.here hx rfl (hb hby at_63) rfl ?_
    show Steps p.tables e below (T8.setTop (mkF m 65 #[.val (.int p1), .val (.long q2), .second, .val (.long q3), .second, .val (.long q4), .second, .val (.int (3 : Int32)), .val (.long vb), .second, .val (.long vc), .second, .val (.ref b6), .unset, .unset, .unset, .unset] [(.int (3 : Int32))])) _
    refine XS.iconst X8.here hx rfl (hb hby at_65) ?_
    show Steps p.tables e below (T8.setTop (mkF m 66 #[.val (.int p1), .val (.long q2), .second, .val (.long q3), .second, .val (.long q4), .second, .val (.int (3 : Int32)), .val (.long vb), .second, .val (.long vc), .second, .val (.ref b6), .unset, .unset, .unset, .unset] [(.int (2 : Int32)), (.int (3 : Int32))])) _
    refine XS.icmpNo X8.here hx rfl (hb hby at_66) rfl (flt hc66).1 ?_
    show Steps p.tables e below (T8.setTop (mkF m 69 #[.val (.int p1), .val (.long q2), .second, .val (.long q3), .second, .val (.long q4), .second, .val (.int (3 : Int32)), .val (.long vb), .second, .val (.long vc), .second, .val (.ref b6), .unset, .unset, .unset, .unset] [])) _
    refine XS.aload X8.here hx rfl (hb hby at_69) rfl rfl ?_
    show Steps p.tables e below (T8.setTop (mkF m 71 #[.val (.int p1), .val (.long q2), .second, .val (.long q3), .second, .val (.long q4), .second, .val (.int (3 : Int32)), .val (.long vb), .second, .val (.long vc), .second, .val (.ref b6), .unset, .unset, .unset, .unset] [(.ref b6)])) _
    refine XS.iconst X8.here hx rfl (hb hby at_71) ?_
    show Steps p.tables e below (T8.setTop (mkF m 72 #[.val (.int p1), .val (.long q2), .second, .val (.long q3), .second, .val (.long q4), .second, .val (.int (3 : Int32)), .val (.long vb), .second, .val (.long vc), .second, .val (.ref b6), .unset, .unset, .unset, .unset] [(.int (1 : Int32)), (.ref b6)])) _
    refine XS.lload X8.here hx rfl (hb hby at_72) rfl ?_
    show Steps p.tables e below (T8.setTop (mkF m 74 #[.val (.int p1), .val (.long q2), .second, .val (.long q3), .second, .val (.long q4), .second, .val (.int (3 : Int32)), .val (.long vb), .second, .val (.long vc), .second, .val (.ref b6), .unset, .unset, .unset, .unset] [(.long vb), (.int (1 : Int32)), (.ref b6)])) _
    refine st9.trans ?_
    show Steps p.tables e below (T9.setTop (mkF m 77 #[.val (.int p1), .val (.long q2), .second, .val (.long q3), .second, .val (.long q4), .second, .val (.int (3 : Int32)), .val (.long vb), .second, .val (.long vc), .second, .val (.ref b6), .unset, .unset, .unset, .unset] [])) _
    refine XS.iload X9.here hx rfl (hb hby at_77) rfl ?_
    show Steps p.tables e below (T9.setTop (mkF m 79 #[.val (.int p1), .val (.long q2), .second, .val (.long q3), .second, .val (.long q4), .second, .val (.int (3 : Int32)), .val (.long vb), .second, .val (.long vc), .second, .val (.ref b6), .unset, .unset, .unset, .unset] [(.int (3 : Int32))])) _
    refine XS.iconst X9.here hx rfl (hb hby at_79) ?_
    show Steps p.tables e below (T9.setTop (mkF m 80 #[.val (.int p1), .val (.long q2), .second, .val (.long q3), .second, .val (.long q4), .second, .val (.int (3 : Int32)), .val (.long vb), .second, .val (.long vc), .second, .val (.ref b6), .unset, .unset, .unset, .unset] [(.int (3 : Int32)), (.int (3 : Int32))])) _
    refine XS.icmpNo X9.here hx rfl (hb hby at_80) rfl (flt hc80).1 ?_
    show Steps p.tables e below (T9.setTop (mkF m 83 #[.val (.int p1), .val (.long q2), .second, .val (.long q3), .second, .val (.long q4), .second, .val (.int (3 : Int32)), .val (.long vb), .second, .val (.long vc), .second, .val (.ref b6), .unset, .unset, .unset, .unset] [])) _
    refine XS.aload X9.here hx rfl (hb hby at_83) rfl rfl ?_
    show Steps p.tables e below (T9.setTop (mkF m 85 #[.val (.int p1), .val (.long q2), .second, .val (.long q3), .second, .val (.long q4), .second, .val (.int (3 : Int32)), .val (.long vb), .second, .val (.long vc), .second, .val (.ref b6), .unset, .unset, .unset, .unset] [(.ref b6)])) _
    refine XS.iconst X9.here hx rfl (hb hby at_85) ?_
    show Steps p.tables e below (T9.setTop (mkF m 86 #[.val (.int p1), .val (.long q2), .second, .val (.long q3), .second, .val (.long q4), .second, .val (.int (3 : Int32)), .val (.long vb), .second, .val (.long vc), .second, .val (.ref b6), .unset, .unset, .unset, .unset] [(.int (2 : Int32)), (.ref b6)])) _
    refine XS.lload X9.here hx rfl (hb hby at_86) rfl ?_
    show Steps p.tables e below (T9.setTop (mkF m 88 #[.val (.int p1), .val (.long q2), .second, .val (.long q3), .second, .val (.long q4), .second, .val (.int (3 : Int32)), .val (.long vb), .second, .val (.long vc), .second, .val (.ref b6), .unset, .unset, .unset, .unset] [(.long vc), (.int (2 : Int32)), (.ref b6)])) _
    refine st10.trans ?_
    show Steps p.tables e below (T10.setTop (mkF m 91 #[.val (.int p1), .val (.long q2), .second, .val (.long q3), .second, .val (.long q4), .second, .val (.int (3 : Int32)), .val (.long vb), .second, .val (.long vc), .second, .val (.ref b6), .unset, .unset, .unset, .unset] [])) _
    refine XS.lloadN X10.here hx rfl (hb hby at_91) rfl ?_
    show Steps p.tables e below (T10.setTop (mkF m 92 #[.val (.int p1), .val (.long q2), .second, .val (.long q3), .second, .val (.long q4), .second, .val (.int (3 : Int32)), .val (.long vb), .second, .val (.long vc), .second, .val (.ref b6), .unset, .unset, .unset, .unset] [(.long q2)])) _
    refine XS.lstore X10.here hx rfl (hb hby at_92) rfl (l' := #[.val (.int p1), .val (.long q2), .second, .val (.long q3), .second, .val (.long q4), .second, .val (.int (3 : Int32)), .val (.long vb), .second, .val (.long vc), .second, .val (.ref b6), .val (.long q2), .second, .unset, .unset]) rfl ?_
    show Steps p.tables e below (T10.setTop (mkF m 94 #[.val (.int p1), .val (.long q2), .second, .val (.long q3), .second, .val (.long q4), .second, .val (.int (3 : Int32)), .val (.long vb), .second, .val (.long vc), .second, .val (.ref b6), .val (.long q2), .second, .unset, .unset] [])) _
    refine XS.iload X10.here hx rfl (hb hby at_94) rfl ?_
    show Steps p.tables e below (T10.setTop (mkF m 96 #[.val (.int p1), .val (.long q2), .second, .val (.long q3), .second, .val (.long q4), .second, .val (.int (3 : Int32)), .val (.long vb), .second, .val (.long vc), .second, .val (.ref b6), .val (.long q2), .second, .unset, .unset] [(.int (3 : Int32))])) _
    refine XS.iconst X10.here hx rfl (hb hby at_96) ?_
    show Steps p.tables e below (T10.setTop (mkF m 97 #[.val (.int p1), .val (.long q2), .second, .val (.long q3), .second, .val (.long q4), .second, .val (.int (3 : Int32)), .val (.long vb), .second, .val (.long vc), .second, .val (.ref b6), .val (.long q2), .second, .unset, .unset] [(.int (2 : Int32)), (.int (3 : Int32))])) _
    refine XS.icmpNo X10.here hx rfl (hb hby at_97) rfl (flt hc97).1 ?_
    show Steps p.tables e below (T10.setTop (mkF m 100 #[.val (.int p1), .val (.long q2), .second, .val (.long q3), .second, .val (.long q4), .second, .val (.int (3 : Int32)), .val (.long vb), .second, .val (.long vc), .second, .val (.ref b6), .val (.long q2), .second, .unset, .unset] [])) _
    refine XS.lload X10.here hx rfl (hb hby at_100) rfl ?_
    show Steps p.tables e below (T10.setTop (mkF m 102 #[.val (.int p1), .val (.long q2), .second, .val (.long q3), .second, .val (.long q4), .second, .val (.int (3 : Int32)), .val (.long vb), .second, .val (.long vc), .second, .val (.ref b6), .val (.long q2), .second, .unset, .unset] [(.long q2)])) _
    refine XS.lload X10.here hx rfl (hb hby at_102) rfl ?_
    show Steps p.tables e below (T10.setTop (mkF m 104 #[.val (.int p1), .val (.long q2), .second, .val (.long q3), .second, .val (.long q4), .second, .val (.int (3 : Int32)), .val (.long vb), .second, .val (.long vc), .second, .val (.ref b6), .val (.long q2), .second, .unset, .unset] [(.long vb), (.long q2)])) _
    refine st11 _ ?_
    show Steps p.tables e below (T11.setTop (mkF m 107 #[.val (.int p1), .val (.long q2), .second, .val (.long q3), .second, .val (.long q4), .second, .val (.int (3 : Int32)), .val (.long vb), .second, .val (.long vc), .second, .val (.ref b6), .val (.long q2), .second, .unset, .unset] [(.long m1)])) _
    refine XS.lstore X11.here hx rfl (hb hby at_107) rfl (l' := #[.val (.int p1), .val (.long q2), .second, .val (.long q3), .second, .val (.long q4), .second, .val (.int (3 : Int32)), .val (.long vb), .second, .val (.long vc), .second, .val (.ref b6), .val (.long m1), .second, .unset, .unset]) rfl ?_
    show Steps p.tables e below (T11.setTop (mkF m 109 #[.val (.int p1), .val (.long q2), .second, .val (.long q3), .second, .val (.long q4), .second, .val (.int (3 : Int32)), .val (.long vb), .second, .val (.long vc), .second, .val (.ref b6), .val (.long m1), .second, .unset, .unset] [])) _
    refine XS.iload X11.here hx rfl (hb hby at_109) rfl ?_
    show Steps p.tables e below (T11.setTop (mkF m 111 #[.val (.int p1), .val (.long q2), .second, .val (.long q3), .second, .val (.long q4), .second, .val (.int (3 : Int32)), .val (.long vb), .second, .val (.long vc), .second, .val (.ref b6), .val (.long m1), .second, .unset, .unset] [(.int (3 : Int32))])) _
    refine XS.iconst X11.here hx rfl (hb hby at_111) ?_
    show Steps p.tables e below (T11.setTop (mkF m 112 #[.val (.int p1), .val (.long q2), .second, .val (.long q3), .second, .val (.long q4), .second, .val (.int (3 : Int32)), .val (.long vb), .second, .val (.long vc), .second, .val (.ref b6), .val (.long m1), .second, .unset, .unset] [(.int (3 : Int32)), (.int (3 : Int32))])) _
    refine XS.icmpNo X11.here hx rfl (hb hby at_112) rfl (flt hc112).1 ?_
    show Steps p.tables e below (T11.setTop (mkF m 115 #[.val (.int p1), .val (.long q2), .second, .val (.long q3), .second, .val (.long q4), .second, .val (.int (3 : Int32)), .val (.long vb), .second, .val (.long vc), .second, .val (.ref b6), .val (.long m1), .second, .unset, .unset] [])) _
    refine XS.lload X11.here hx rfl (hb hby at_115) rfl ?_
    show Steps p.tables e below (T11.setTop (mkF m 117 #[.val (.int p1), .val (.long q2), .second, .val (.long q3), .second, .val (.long q4), .second, .val (.int (3 : Int32)), .val (.long vb), .second, .val (.long vc), .second, .val (.ref b6), .val (.long m1), .second, .unset, .unset] [(.long m1)])) _
    refine XS.lload X11.here hx rfl (hb hby at_117) rfl ?_
    show Steps p.tables e below (T11.setTop (mkF m 119 #[.val (.int p1), .val (.long q2), .second, .val (.long q3), .second, .val (.long q4), .second, .val (.int (3 : Int32)), .val (.long vb), .second, .val (.long vc), .second, .val (.ref b6), .val (.long m1), .second, .unset, .unset] [(.long vc), (.long m1)])) _
    refine st12 _ ?_
    show Steps p.tables e below (T12.setTop (mkF m 122 #[.val (.int p1), .val (.long q2), .second, .val (.long q3), .second, .val (.long q4), .second, .val (.int (3 : Int32)), .val (.long vb), .second, .val (.long vc), .second, .val (.ref b6), .val (.long m1), .second, .unset, .unset] [(.long mm)])) _
    refine XS.lstore X12.here hx rfl (hb hby at_122) rfl (l' := #[.val (.int p1), .val (.long q2), .second, .val (.long q3), .second, .val (.long q4), .second, .val (.int (3 : Int32)), .val (.long vb), .second, .val (.long vc), .second, .val (.ref b6), .val (.long mm), .second, .unset, .unset]) rfl ?_
    show Steps p.tables e below (T12.setTop (mkF m 124 #[.val (.int p1), .val (.long q2), .second, .val (.long q3), .second, .val (.long q4), .second, .val (.int (3 : Int32)), .val (.long vb), .second, .val (.long vc), .second, .val (.ref b6), .val (.long mm), .second, .unset, .unset] [])) _
    refine XS.aload X12.here hx rfl (hb hby at_124) rfl rfl ?_
    show Steps p.tables e below (T12.setTop (mkF m 126 #[.val (.int p1), .val (.long q2), .second, .val (.long q3), .second, .val (.long q4), .second, .val (.int (3 : Int32)), .val (.long vb), .second, .val (.long vc), .second, .val (.ref b6), .val (.long mm), .second, .unset, .unset] [(.ref b6)])) _
    refine st13.trans ?_
    show Steps p.tables e below (T13.setTop (mkF m 129 #[.val (.int p1), .val (.long q2), .second, .val (.long q3), .second, .val (.long q4), .second, .val (.int (3 : Int32)), .val (.long vb), .second, .val (.long vc), .second, .val (.ref b6), .val (.long mm), .second, .unset, .unset] [(.long mm)])) _
    refine XS.lstore X13.here hx rfl (hb hby at_129) rfl (l' := #[.val (.int p1), .val (.long q2), .second, .val (.long q3), .second, .val (.long q4), .second, .val (.int (3 : Int32)), .val (.long vb), .second, .val (.long vc), .second, .val (.ref b6), .val (.long mm), .second, .val (.long mm), .second]) rfl ?_
    show Steps p.tables e below (T13.setTop (mkF m 131 #[.val (.int p1), .val (.long q2), .second, .val (.long q3), .second, .val (.long q4), .second, .val (.int (3 : Int32)), .val (.long vb), .second, .val (.long vc), .second, .val (.ref b6), .val (.long mm), .second, .val (.long mm), .second] [])) _
    refine XS.lload X13.here hx rfl (hb hby at_131) rfl ?_
    show Steps p.tables e below (T13.setTop (mkF m 133 #[.val (.int p1), .val (.long q2), .second, .val (.long q3), .second, .val (.long q4), .second, .val (.int (3 : Int32)), .val (.long vb), .second, .val (.long vc), .second, .val (.ref b6), .val (.long mm), .second, .val (.long mm), .second] [(.long mm)])) _
    refine XS.lload X13.here hx rfl (hb hby at_133) rfl ?_
    show Steps p.tables e below (T13.setTop (mkF m 135 #[.val (.int p1), .val (.long q2), .second, .val (.long q3), .second, .val (.long q4), .second, .val (.int (3 : Int32)), .val (.long vb), .second, .val (.long vc), .second, .val (.ref b6), .val (.long mm), .second, .val (.long mm), .second] [(.long mm), (.long mm)])) _
    refine XS.lcmp X13.here hx rfl (hb hby at_135) rfl ?_
    show Steps p.tables e below (T13.setTop (mkF m 136 #[.val (.int p1), .val (.long q2), .second, .val (.long q3), .second, .val (.long q4), .second, .val (.int (3 : Int32)), .val (.long vb), .second, .val (.long vc), .second, .val (.ref b6), .val (.long mm), .second, .val (.long mm), .second] [(.int (lcmpW mm mm))])) _
    refine XS.ifYes X13.here hx rfl (pc0 := 136) (pc' := 141) rfl (hb hby at_136) rfl ((if0 _ _).trans (teq (((lw_eq _ _).mpr rfl) : (lcmpW mm mm) = (0 : Int32))).1) (by decide) (by decide) ?_
    show Steps p.tables e below (T13.setTop (mkF m 141 #[.val (.int p1), .val (.long q2), .second, .val (.long q3), .second, .val (.long q4), .second, .val (.int (3 : Int32)), .val (.long vb), .second, .val (.long vc), .second, .val (.ref b6), .val (.long mm), .second, .val (.long mm), .second] [])) _
    refine XS.aload X13.here hx rfl (hb hby at_141) rfl rfl ?_
    show Steps p.tables e below (T13.setTop (mkF m 143 #[.val (.int p1), .val (.long q2), .second, .val (.long q3), .second, .val (.long q4), .second, .val (.int (3 : Int32)), .val (.long vb), .second, .val (.long vc), .second, .val (.ref b6), .val (.long mm), .second, .val (.long mm), .second] [(.ref b6)])) _
    refine st14.trans ?_
    show Steps p.tables e below (T14.setTop (mkF m 146 #[.val (.int p1), .val (.long q2), .second, .val (.long q3), .second, .val (.long q4), .second, .val (.int (3 : Int32)), .val (.long vb), .second, .val (.long vc), .second, .val (.ref b6), .val (.long mm), .second, .val (.long mm), .second] [(.long mm)])) _
    refine XS.lload X14.here hx rfl (hb hby at_146) rfl ?_
    show Steps p.tables e below (T14.setTop (mkF m 148 #[.val (.int p1), .val (.long q2), .second, .val (.long q3), .second, .val (.long q4), .second, .val (.int (3 : Int32)), .val (.long vb), .second, .val (.long vc), .second, .val (.ref b6), .val (.long mm), .second, .val (.long mm), .second] [(.long mm), (.long mm)])) _
    refine XS.lcmp X14.here hx rfl (hb hby at_148) rfl ?_
    show Steps p.tables e below (T14.setTop (mkF m 149 #[.val (.int p1), .val (.long q2), .second, .val (.long q3), .second, .val (.long q4), .second, .val (.int (3 : Int32)), .val (.long vb), .second, .val (.long vc), .second, .val (.ref b6), .val (.long mm), .second, .val (.long mm), .second] [(.int (lcmpW mm mm))])) _
    refine XS.ifYes X14.here hx rfl (pc0 := 149) (pc' := 154) rfl (hb hby at_149) rfl ((if0 _ _).trans (teq (((lw_eq _ _).mpr rfl) : (lcmpW mm mm) = (0 : Int32))).1) (by decide) (by decide) ?_
    show Steps p.tables e below (T14.setTop (mkF m 154 #[.val (.int p1), .val (.long q2), .second, .val (.long q3), .second, .val (.long q4), .second, .val (.int (3 : Int32)), .val (.long vb), .second, .val (.long vc), .second, .val (.ref b6), .val (.long mm), .second, .val (.long mm), .second] [])) _
    refine XS.lload X14.here hx rfl (hb hby at_154) rfl ?_
    show Steps p.tables e below (T14.setTop (mkF m 156 #[.val (.int p1), .val (.long q2), .second, .val (.long q3), .second, .val (.long q4), .second, .val (.int (3 : Int32)), .val (.long vb), .second, .val (.long vc), .second, .val (.ref b6), .val (.long mm), .second, .val (.long mm), .second] [(.long mm)])) _
    refine X14.ldc2Long hx hown (mvT hZ (hw _ (List.mem_of_getElem? (i := 43) rfl))) (g := (mkF m 156 #[.val (.int p1), .val (.long q2), .second, .val (.long q3), .second, .val (.long q4), .second, .val (.int (3 : Int32)), .val (.long vb), .second, .val (.long vc), .second, .val (.ref b6), .val (.long mm), .second, .val (.long mm), .second] [(.long mm)])) rfl (hb hby at_156) _ ?_
    show Steps p.tables e below (T14.setTop (mkF m 159 #[.val (.int p1), .val (.long q2), .second, .val (.long q3), .second, .val (.long q4), .second, .val (.int (3 : Int32)), .val (.long vb), .second, .val (.long vc), .second, .val (.ref b6), .val (.long mm), .second, .val (.long mm), .second] [(.long (9223372036854775807 : Int64)), (.long mm)])) _
    refine XS.lcmp X14.here hx rfl (hb hby at_159) rfl ?_
    show Steps p.tables e below (T14.setTop (mkF m 160 #[.val (.int p1), .val (.long q2), .second, .val (.long q3), .second, .val (.long q4), .second, .val (.int (3 : Int32)), .val (.long vb), .second, .val (.long vc), .second, .val (.ref b6), .val (.long mm), .second, .val (.long mm), .second] [(.int (lcmpW mm (9223372036854775807 : Int64)))])) _
    refine XS.ifYes X14.here hx rfl (pc0 := 160) (pc' := 177) rfl (hb hby at_160) rfl ((if0 _ _).trans (feq ((fun q => h160 ((lw_eq _ _).mp q)) : ¬ ((lcmpW mm (9223372036854775807 : Int64)) = (0 : Int32)))).2) (by decide) (by decide) ?_
    show Steps p.tables e below (T14.setTop (mkF m 177 #[.val (.int p1), .val (.long q2), .second, .val (.long q3), .second, .val (.long q4), .second, .val (.int (3 : Int32)), .val (.long vb), .second, .val (.long vc), .second, .val (.ref b6), .val (.long mm), .second, .val (.long mm), .second] [])) _
    refine XS.lloadN X14.here hx rfl (hb hby at_177) rfl ?_
    show Steps p.tables e below (T14.setTop (mkF m 178 #[.val (.int p1), .val (.long q2), .second, .val (.long q3), .second, .val (.long q4), .second, .val (.int (3 : Int32)), .val (.long vb), .second, .val (.long vc), .second, .val (.ref b6), .val (.long mm), .second, .val (.long mm), .second] [(.long q2)])) _
    refine XS.lload X14.here hx rfl (hb hby at_178) rfl ?_
    show Steps p.tables e below (T14.setTop (mkF m 180 #[.val (.int p1), .val (.long q2), .second, .val (.long q3), .second, .val (.long q4), .second, .val (.int (3 : Int32)), .val (.long vb), .second, .val (.long vc), .second, .val (.ref b6), .val (.long mm), .second, .val (.long mm), .second] [(.long mm), (.long q2)])) _
    refine XS.lcmp X14.here hx rfl (hb hby at_180) rfl ?_
    show Steps p.tables e below (T14.setTop (mkF m 181 #[.val (.int p1), .val (.long q2), .second, .val (.long q3), .second, .val (.long q4), .second, .val (.int (3 : Int32)), .val (.long vb), .second, .val (.long vc), .second, .val (.ref b6), .val (.long mm), .second, .val (.long mm), .second] [(.int (lcmpW q2 mm))])) _
    refine XS.ifYes X14.here hx rfl (pc0 := 181) (pc' := 193) rfl (hb hby at_181) rfl ((if0 _ _).trans (feq ((fun q => h181 ((lw_eq _ _).mp q)) : ¬ ((lcmpW q2 mm) = (0 : Int32)))).2) (by decide) (by decide) ?_
    show Steps p.tables e below (T14.setTop (mkF m 193 #[.val (.int p1), .val (.long q2), .second, .val (.long q3), .second, .val (.long q4), .second, .val (.int (3 : Int32)), .val (.long vb), .second, .val (.long vc), .second, .val (.ref b6), .val (.long mm), .second, .val (.long mm), .second] [])) _
    refine XS.iload X14.here hx rfl (hb hby at_193) rfl ?_
    show Steps p.tables e below (T14.setTop (mkF m 195 #[.val (.int p1), .val (.long q2), .second, .val (.long q3), .second, .val (.long q4), .second, .val (.int (3 : Int32)), .val (.long vb), .second, .val (.long vc), .second, .val (.ref b6), .val (.long mm), .second, .val (.long mm), .second] [(.int (3 : Int32))])) _
    refine XS.iconst X14.here hx rfl (hb hby at_195) ?_
    show Steps p.tables e below (T14.setTop (mkF m 196 #[.val (.int p1), .val (.long q2), .second, .val (.long q3), .second, .val (.long q4), .second, .val (.int (3 : Int32)), .val (.long vb), .second, .val (.long vc), .second, .val (.ref b6), .val (.long mm), .second, .val (.long mm), .second] [(.int (2 : Int32)), (.int (3 : Int32))])) _
    refine XS.icmpNo X14.here hx rfl (hb hby at_196) rfl (flt hc196).1 ?_
    show Steps p.tables e below (T14.setTop (mkF m 199 #[.val (.int p1), .val (.long q2), .second, .val (.long q3), .second, .val (.long q4), .second, .val (.int (3 : Int32)), .val (.long vb), .second, .val (.long vc), .second, .val (.ref b6), .val (.long mm), .second, .val (.long mm), .second] [])) _
    refine XS.lload X14.here hx rfl (hb hby at_199) rfl ?_
    show Steps p.tables e below (T14.setTop (mkF m 201 #[.val (.int p1), .val (.long q2), .second, .val (.long q3), .second, .val (.long q4), .second, .val (.int (3 : Int32)), .val (.long vb), .second, .val (.long vc), .second, .val (.ref b6), .val (.long mm), .second, .val (.long mm), .second] [(.long vb)])) _
    refine XS.lload X14.here hx rfl (hb hby at_201) rfl ?_
    show Steps p.tables e below (T14.setTop (mkF m 203 #[.val (.int p1), .val (.long q2), .second, .val (.long q3), .second, .val (.long q4), .second, .val (.int (3 : Int32)), .val (.long vb), .second, .val (.long vc), .second, .val (.ref b6), .val (.long mm), .second, .val (.long mm), .second] [(.long mm), (.long vb)])) _
    refine XS.lcmp X14.here hx rfl (hb hby at_203) rfl ?_
    show Steps p.tables e below (T14.setTop (mkF m 204 #[.val (.int p1), .val (.long q2), .second, .val (.long q3), .second, .val (.long q4), .second, .val (.int (3 : Int32)), .val (.long vb), .second, .val (.long vc), .second, .val (.ref b6), .val (.long mm), .second, .val (.long mm), .second] [(.int (lcmpW vb mm))])) _
    refine XS.ifYes X14.here hx rfl (pc0 := 204) (pc' := 216) rfl (hb hby at_204) rfl ((if0 _ _).trans (feq ((fun q => h204 ((lw_eq _ _).mp q)) : ¬ ((lcmpW vb mm) = (0 : Int32)))).2) (by decide) (by decide) ?_
    show Steps p.tables e below (T14.setTop (mkF m 216 #[.val (.int p1), .val (.long q2), .second, .val (.long q3), .second, .val (.long q4), .second, .val (.int (3 : Int32)), .val (.long vb), .second, .val (.long vc), .second, .val (.ref b6), .val (.long mm), .second, .val (.long mm), .second] [])) _
    refine XS.iload X14.here hx rfl (hb hby at_216) rfl ?_
    show Steps p.tables e below (T14.setTop (mkF m 218 #[.val (.int p1), .val (.long q2), .second, .val (.long q3), .second, .val (.long q4), .second, .val (.int (3 : Int32)), .val (.long vb), .second, .val (.long vc), .second, .val (.ref b6), .val (.long mm), .second, .val (.long mm), .second] [(.int (3 : Int32))])) _
    refine XS.iconst X14.here hx rfl (hb hby at_218) ?_
    show Steps p.tables e below (T14.setTop (mkF m 219 #[.val (.int p1), .val (.long q2), .second, .val (.long q3), .second, .val (.long q4), .second, .val (.int (3 : Int32)), .val (.long vb), .second, .val (.long vc), .second, .val (.ref b6), .val (.long mm), .second, .val (.long mm), .second] [(.int (3 : Int32)), (.int (3 : Int32))])) _
    refine XS.icmpNo X14.here hx rfl (hb hby at_219) rfl (flt hc219).1 ?_
    show Steps p.tables e below (T14.setTop (mkF m 222 #[.val (.int p1), .val (.long q2), .second, .val (.long q3), .second, .val (.long q4), .second, .val (.int (3 : Int32)), .val (.long vb), .second, .val (.long vc), .second, .val (.ref b6), .val (.long mm), .second, .val (.long mm), .second] [])) _
    refine XS.lload X14.here hx rfl (hb hby at_222) rfl ?_
    show Steps p.tables e below (T14.setTop (mkF m 224 #[.val (.int p1), .val (.long q2), .second, .val (.long q3), .second, .val (.long q4), .second, .val (.int (3 : Int32)), .val (.long vb), .second, .val (.long vc), .second, .val (.ref b6), .val (.long mm), .second, .val (.long mm), .second] [(.long vc)])) _
    refine XS.lload X14.here hx rfl (hb hby at_224) rfl ?_
    show Steps p.tables e below (T14.setTop (mkF m 226 #[.val (.int p1), .val (.long q2), .second, .val (.long q3), .second, .val (.long q4), .second, .val (.int (3 : Int32)), .val (.long vb), .second, .val (.long vc), .second, .val (.ref b6), .val (.long mm), .second, .val (.long mm), .second] [(.long mm), (.long vc)])) _
    refine XS.lcmp X14.here hx rfl (hb hby at_226) rfl ?_
    show Steps p.tables e below (T14.setTop (mkF m 227 #[.val (.int p1), .val (.long q2), .second, .val (.long q3), .second, .val (.long q4), .second, .val (.int (3 : Int32)), .val (.long vb), .second, .val (.long vc), .second, .val (.ref b6), .val (.long mm), .second, .val (.long mm), .second] [(.int (lcmpW vc mm))])) _
    refine XS.ifNo X14.here hx rfl (hb hby at_227) rfl ((if0 _ _).trans (teq (((lw_eq _ _).mpr h227) : (lcmpW vc mm) = (0 : Int32))).2) ?_
    show Steps p.tables e below (T14.setTop (mkF m 230 #[.val (.int p1), .val (.long q2), .second, .val (.long q3), .second, .val (.long q4), .second, .val (.int (3 : Int32)), .val (.long vb), .second, .val (.long vc), .second, .val (.ref b6), .val (.long mm), .second, .val (.long mm), .second] [])) _
    refine XS.aload X14.here hx rfl (hb hby at_230) rfl rfl ?_
    show Steps p.tables e below (T14.setTop (mkF m 232 #[.val (.int p1), .val (.long q2), .second, .val (.long q3), .second, .val (.long q4), .second, .val (.int (3 : Int32)), .val (.long vb), .second, .val (.long vc), .second, .val (.ref b6), .val (.long mm), .second, .val (.long mm), .second] [(.ref b6)])) _
    refine XS.iconst X14.here hx rfl (hb hby at_232) ?_
    show Steps p.tables e below (T14.setTop (mkF m 233 #[.val (.int p1), .val (.long q2), .second, .val (.long q3), .second, .val (.long q4), .second, .val (.int (3 : Int32)), .val (.long vb), .second, .val (.long vc), .second, .val (.ref b6), .val (.long mm), .second, .val (.long mm), .second] [(.int (2 : Int32)), (.ref b6)])) _
    refine X14.ldc2Long hx hown (mvT hZ (hw _ (List.mem_of_getElem? (i := 43) rfl))) (g := (mkF m 233 #[.val (.int p1), .val (.long q2), .second, .val (.long q3), .second, .val (.long q4), .second, .val (.int (3 : Int32)), .val (.long vb), .second, .val (.long vc), .second, .val (.ref b6), .val (.long mm), .second, .val (.long mm), .second] [(.int (2 : Int32)), (.ref b6)])) rfl (hb hby at_233) _ ?_
    show Steps p.tables e below (T14.setTop (mkF m 236 #[.val (.int p1), .val (.long q2), .second, .val (.long q3), .second, .val (.long q4), .second, .val (.int (3 : Int32)), .val (.long vb), .second, .val (.long vc), .second, .val (.ref b6), .val (.long mm), .second, .val (.long mm), .second] [(.long (9223372036854775807 : Int64)), (.int (2 : Int32)), (.ref b6)])) _
    refine st15.trans ?_
    show Steps p.tables e below (T15.setTop (mkF m 239 #[.val (.int p1), .val (.long q2), .second, .val (.long q3), .second, .val (.long q4), .second, .val (.int (3 : Int32)), .val (.long vb), .second, .val (.long vc), .second, .val (.ref b6), .val (.long mm), .second, .val (.long mm), .second] [])) _
    refine XS.aload X15.here hx rfl (hb hby at_239) rfl rfl ?_
    show Steps p.tables e below (T15.setTop (mkF m 241 #[.val (.int p1), .val (.long q2), .second, .val (.long q3), .second, .val (.long q4), .second, .val (.int (3 : Int32)), .val (.long vb), .second, .val (.long vc), .second, .val (.ref b6), .val (.long mm), .second, .val (.long mm), .second] [(.ref b6)])) _
    refine st16.trans ?_
    show Steps p.tables e below (T16.setTop (mkF m 244 #[.val (.int p1), .val (.long q2), .second, .val (.long q3), .second, .val (.long q4), .second, .val (.int (3 : Int32)), .val (.long vb), .second, .val (.long vc), .second, .val (.ref b6), .val (.long mm), .second, .val (.long mm), .second] [(.int (1 : Int32))])) _
    exact retN X16 hx (t := .boolean) Bd.returns (by simp) (hb hby at_244) hr
  · show Q0 Z p1 q2 q3 q4 h0 n0 _ T16.heap _
    exact ⟨rfl, N16⟩
theorem rm0 (l : Launch) (Z : State) (a0 : Array Value) (hw : ∀ d ∈ tables_1, d.before a0 Z = true) (ws : List Jvm.Cond) (p1 : Int32) (q2 : Int64) (q3 : Int64) (q4 : Int64) (h0 : Heap) (n0 : Nat) (Z0 : n0 ≤ h0.size) :
    MetFree l x (head1 (Jvm.Cond.code x code maxLocals ret :: ws) room_1) (fun a U => a = #[(.int p1), (.long q2), (.long q3), (.long q4)] ∧ Z.Warmed39 U.vm ∧ U.heap = h0) (fun _ _ _ _ _ => True) (fun _ U o U' => ∃ v L, o = .returned v ∧ Q0 Z p1 q2 q3 q4 h0 n0 v U'.heap L ∧ FrameEnd U o U' L room_1.cells room_1.slots) := by
  obtain ⟨vb, hvb⟩ : ∃ z, own_vb p1 q2 q3 = z := ⟨_, rfl⟩
  obtain ⟨vc, hvc⟩ : ∃ z, own_vc p1 q2 q3 q4 = z := ⟨_, rfl⟩
  rcases own_n_cases p1 with hn | hn | hn
  · obtain ⟨mm, hm⟩ : ∃ z, z = q2 := ⟨_, rfl⟩
    by_cases h160 : q2 = (9223372036854775807 : Int64)
    · exact rm0_1m l Z a0 hw ws p1 q2 q3 q4 h0 n0 Z0 vb vc mm hn hvb hvc hm h160
    · exact rm0_1y l Z a0 hw ws p1 q2 q3 q4 h0 n0 Z0 vb vc mm hn hvb hvc hm h160
  · obtain ⟨mm, hm⟩ : ∃ z, z = (own_mn q2 vb) := ⟨_, rfl⟩
    by_cases h160 : mm = (9223372036854775807 : Int64)
    · exact rm0_2m l Z a0 hw ws p1 q2 q3 q4 h0 n0 Z0 vb vc mm hn hvb hvc hm h160
    · by_cases h181 : q2 = mm
      · by_cases h204 : vb = mm
        · exact rm0_2yy l Z a0 hw ws p1 q2 q3 q4 h0 n0 Z0 vb vc mm hn hvb hvc hm h160 h181 h204
        · exact rm0_2yn l Z a0 hw ws p1 q2 q3 q4 h0 n0 Z0 vb vc mm hn hvb hvc hm h160 h181 h204
      · by_cases h204 : vb = mm
        · exact rm0_2ny l Z a0 hw ws p1 q2 q3 q4 h0 n0 Z0 vb vc mm hn hvb hvc hm h160 h181 h204
        · exfalso
          rcases own_mn_cases q2 vb with ⟨r, -⟩ | ⟨r, -⟩
          · exact h181 (r.symm.trans hm.symm)
          · exact h204 (r.symm.trans hm.symm)
  · obtain ⟨mm, hm⟩ : ∃ z, z = (own_mn (own_mn q2 vb) vc) := ⟨_, rfl⟩
    by_cases h160 : mm = (9223372036854775807 : Int64)
    · exact rm0_3m l Z a0 hw ws p1 q2 q3 q4 h0 n0 Z0 vb vc mm hn hvb hvc hm h160
    · by_cases h181 : q2 = mm
      · by_cases h204 : vb = mm
        · by_cases h227 : vc = mm
          · exact rm0_3yyy l Z a0 hw ws p1 q2 q3 q4 h0 n0 Z0 vb vc mm hn hvb hvc hm h160 h181 h204 h227
          · exact rm0_3yyn l Z a0 hw ws p1 q2 q3 q4 h0 n0 Z0 vb vc mm hn hvb hvc hm h160 h181 h204 h227
        · by_cases h227 : vc = mm
          · exact rm0_3yny l Z a0 hw ws p1 q2 q3 q4 h0 n0 Z0 vb vc mm hn hvb hvc hm h160 h181 h204 h227
          · exact rm0_3ynn l Z a0 hw ws p1 q2 q3 q4 h0 n0 Z0 vb vc mm hn hvb hvc hm h160 h181 h204 h227
      · by_cases h204 : vb = mm
        · by_cases h227 : vc = mm
          · exact rm0_3nyy l Z a0 hw ws p1 q2 q3 q4 h0 n0 Z0 vb vc mm hn hvb hvc hm h160 h181 h204 h227
          · exact rm0_3nyn l Z a0 hw ws p1 q2 q3 q4 h0 n0 Z0 vb vc mm hn hvb hvc hm h160 h181 h204 h227
        · by_cases h227 : vc = mm
          · exact rm0_3nny l Z a0 hw ws p1 q2 q3 q4 h0 n0 Z0 vb vc mm hn hvb hvc hm h160 h181 h204 h227
          · exfalso
            rcases own_mn_cases (own_mn q2 vb) vc with ⟨r, -⟩ | ⟨r, -⟩
            · rcases own_mn_cases q2 vb with ⟨s, -⟩ | ⟨s, -⟩
              · exact h181 (s.symm.trans (r.symm.trans hm.symm))
              · exact h204 (s.symm.trans (r.symm.trans hm.symm))
            · exact h227 (r.symm.trans hm.symm)

set_option maxRecDepth 65536 in
set_option maxHeartbeats 40000000 in
theorem comes_1 {Post : Tables → Env → Array Value → State → Outcome → State → Prop} (hpost : ∀ tb e args s v u, (limb_1_1.after args s (.returned v) u = true ∧ limb_1_2.after args s (.returned v) u = true ∧ True) → FrameEnd s (.returned v) u (Jvm.fieldLocs frame_1_writes args s ++ Jvm.arrayLocs frame_1_arrays args s ++ Jvm.staticLocs frame_1_statics s) 16 128 → Post tb e args s (.returned v) u) :
    ArmFor flags0 classFile x code maxLocals ret World_1 tables_1 room_1 Calls_1 rest_1 Pre_1 Post := by
  intro l hfl _ _ p e ha hc hk s m args below hf hA hF happ hP
  obtain ⟨hcalls, hrest, hpre⟩ := hP
  obtain ⟨-, -, -, hnamed, -, -, -, hat⟩ := (Spec.applies_iff hf).mp happ
  obtain ⟨hg, hn⟩ := and_e (Cond.before_iff.mp (show (Jvm.Cond.and given_1 narrow_1).before args s = true from hpre))
  obtain ⟨g12, g13⟩ := and_e hg
  obtain ⟨g14, g15⟩ := and_e g13
  obtain ⟨g16, g17⟩ := and_e g15
  obtain ⟨g18, g19⟩ := and_e g17
  obtain ⟨w0, w1, w2, w3, rfl⟩ : ∃ w0 w1 w2 w3 : Value, args = #[w0, w1, w2, w3] := by
    have hs : args.size = 4 := by simpa [Cond.value, given_1] using g12
    obtain ⟨L⟩ := args
    match L, hs with
    | [w0, w1, w2, w3], _ => exact ⟨w0, w1, w2, w3, rfl⟩
  have hw := fun d (hd : d ∈ tables_1) => atoms_spec (ws := Jvm.Cond.code x code maxLocals ret :: tables_1) hat d (List.mem_cons_of_mem _ hd)
  have hfit : Fit s := fun {y c} hc i hi => by
    obtain ⟨ha, rfl⟩ := Array.getElem?_eq_some_iff.mp hc
    have q := List.all_eq_true.mp ((Array.all_eq_true_iff_forall_mem.mp hF) _ (Array.getElem_mem ha)) i (List.mem_range.mpr hi)
    simpa [Array.getElem?_eq_getElem hi] using q
  obtain ⟨i0, ei0⟩ := is_v g14
  obtain rfl : w0 = (.int i0) := Option.some.inj ei0
  obtain ⟨i1, ei1⟩ := isL_v g16
  obtain rfl : w1 = (.long i1) := Option.some.inj ei1
  obtain ⟨i2, ei2⟩ := isL_v g18
  obtain rfl : w2 = (.long i2) := Option.some.inj ei2
  obtain ⟨i3, ei3⟩ := isL_v g19
  obtain rfl : w3 = (.long i3) := Option.some.inj ei3
  obtain ⟨n, o, h1, h2, h3, _, L, rfl, ⟨rfl, N⟩, hq⟩ := rm0 l s _ hw tables_1 i0 i1 i2 i3 s.heap s.heap.size (Nat.le_refl _)  p e ha hc hk s m _ below hf ((Spec.applies_iff_loose hf).mp happ).1 ⟨rfl, State.Warmed39.refl s, rfl⟩ trivial
  refine ⟨n, _, h1, h2, h3, hpost _ _ _ _ _ _ ⟨Cond.after_iff.mpr rfl, Cond.after_iff.mpr (eq_i res_at (Term.int_eval (1)) rfl), trivial⟩ ⟨hq.1, hq.2.1, (hq.2.2.sift fun y hy => Or.inr (N y hy)).mono (by decide) (by decide)⟩⟩
theorem main_1_1 : Claimed_1_1 := comes_1 fun _ _ _ _ _ _ h hF => ⟨h.1, hF⟩
theorem main_1_2 : Claimed_1_2 := comes_1 fun _ _ _ _ _ _ h hF => ⟨h.2.1, hF⟩
end Jvm.Pilot.@@N@@
namespace Jvm.Pilot.@@N@@
open Jvm Jvm.ClassFile Sem Op Lib Jvm.Free Jvm.Stand Jvm.Pilot.@@N@@.Jvm.D
/-! MADE BY PROGRAM (witnessworld.py) out of the Statement's table words and the real class files: 13 classes; the members and pool entries that the words name. The judged class is class 1, her method 1. -/
namespace start1
open Jvm.ClassFile
def u (s : String) : CpInfo := .utf8 (stringToUtf16 s)
/-- a pool by its gaps: so many unusable entries, then the entry; so many at the end -/
def gap : Nat → List CpInfo → List CpInfo
  | 0, r => r
  | n + 1, r => .unusable :: gap n r
def poolList (es : List (Nat × CpInfo)) (last : Nat) : List CpInfo := es.foldr (fun e r => gap e.1 (e.2 :: r)) (gap last [])
def pool (es : List (Nat × CpInfo)) (last : Nat) : Array CpInfo := ⟨poolList es last⟩
def fileOf (pool : Array CpInfo) (this : Nat) (attrs : Array Attribute := #[]) (ms : Array MethodInfo := #[]) (fl : Nat := 33) (sup : Nat := 0) (ifs : Array Nat := #[]) (fds : Array FieldInfo := #[]) : ClassFile where
  minorVersion := 0
  majorVersion := 65
  constantPool := pool
  accessFlags := fl
  thisClass := this
  superClass := sup
  interfaces := ifs
  fields := fds
  methods := ms
  attributes := attrs
def plain (name : String) (sup : Option ClassId) : Class where
  name := name
  kind := .ordinary
  loader := none
  accessFlags := 33
  super := sup
  interfaces := #[]
  cf := none
  fields := #[]
  methods := #[]
  instanceTypes := #[]
  staticTypes := #[]
  resolved := #[]
  callSites := []
  init := .initialized
  statics := none
  mirror := none

def pool0 : Array CpInfo := pool [(5, u "<init>"), (0, u "()V"), (1, .class_ 10), (1, u "java/lang/Object")] 113

def k0c0 : Code := { maxStack := 0, maxLocals := 1, code := object_method_1_code, exceptionTable := #[], attributes := #[] }
def k0m0 : Method := { name := "<init>", desc := "()V", sig := { parameters := [], returnType := none }, accessFlags := 1, code := some k0c0 }
/-- java/lang/Object -/
def k0 : Class := { plain "java/lang/Object" none with
  accessFlags := 33
  interfaces := #[]
  cf := some (fileOf pool0 8 #[] #[{ accessFlags := 1, nameIndex := 5, descriptorIndex := 6, attributes := #[] }] 33 0 #[] #[])
  fields := #[]
  methods := #[k0m0]
  instanceTypes := #[]
  staticTypes := #[]
  resolved := Array.replicate 124 none
  statics := none }

def pool1 : Array CpInfo := pool [(2, .class_ 4), (1, u "java/lang/Object"), (0, u "<init>"), (0, u "()V"), (0, .integer 2147483647), (0, .class_ 9), (0, u "com/example/mullion/mullion/aggregators/FurthestBack"), (2, .long 9223372036854775808), (1, .methodref 8 15), (0, .nameAndType 5 16), (0, u "(IJ)V"), (0, .methodref 8 18), (0, .nameAndType 19 16), (0, u "moveOn"), (0, .methodref 21 22), (0, .class_ 23), (0, .nameAndType 24 25), (0, u "java/lang/Math"), (0, u "min"), (0, u "(JJ)J"), (0, .methodref 8 27), (0, .nameAndType 28 29), (0, u "findSmallest"), (0, u "()J"), (0, .methodref 8 31), (0, .nameAndType 32 29), (0, u "mark"), (0, .long 9223372036854775807), (1, .methodref 8 36), (0, .nameAndType 37 38), (0, u "allMovedOn"), (0, u "()Z"), (0, .class_ 40), (0, u "com/example/mullion/mullion/aggregators/FurthestBackFindSmallestPinLaw"), (2, u "law"), (0, u "(IJJJ)Z")] 3

def k1m0 : Method := { name := "<init>", desc := "()V", sig := { parameters := [], returnType := none }, accessFlags := 1, code := none }
def k1c1 : Code := { maxStack := 5, maxLocals := 17, code := code, exceptionTable := #[], attributes := #[] }
def k1m1 : Method := { name := "law", desc := "(IJJJ)Z", sig := { parameters := [.int, .long, .long, .long], returnType := some .boolean }, accessFlags := 9, code := some k1c1 }
/-- com/example/mullion/mullion/aggregators/FurthestBackFindSmallestPinLaw -/
def k1 : Class := { plain "com/example/mullion/mullion/aggregators/FurthestBackFindSmallestPinLaw" (some 0) with
  accessFlags := 49
  interfaces := #[]
  cf := some (fileOf pool1 39 #[] #[{ accessFlags := 1, nameIndex := 5, descriptorIndex := 6, attributes := #[] }, { accessFlags := 9, nameIndex := 43, descriptorIndex := 44, attributes := #[] }] 49 2 #[] #[])
  fields := #[]
  methods := #[k1m0, k1m1]
  instanceTypes := #[]
  staticTypes := #[]
  resolved := Array.replicate 48 none
  statics := none }

def pool2 : Array CpInfo := pool [(1, .methodref 2 3), (0, .class_ 4), (0, .nameAndType 5 6), (0, u "java/lang/Object"), (0, u "<init>"), (0, u "()V"), (9, .fieldref 17 18), (0, .class_ 19), (0, .nameAndType 20 21), (0, u "com/example/mullion/mullion/aggregators/FurthestBack"), (0, u "values"), (0, u "[J"), (0, .methodref 17 23), (0, .nameAndType 24 25), (0, u "reset"), (0, u "(J)V"), (0, .methodref 27 28), (0, .class_ 29), (0, .nameAndType 30 31), (0, u "java/util/Arrays"), (0, u "fill"), (0, u "([JJ)V"), (0, .fieldref 17 33), (0, .nameAndType 34 35), (0, u "mark"), (0, u "J"), (0, .fieldref 17 37), (0, .nameAndType 38 39), (0, u "atOrBelowMark"), (0, u "I"), (2, .long 9223372036854775807), (10, u "(IJ)V"), (7, u "moveOn"), (1, u "allMovedOn"), (0, u "()Z"), (0, u "()J"), (0, u "findSmallest")] 19

def k2c0 : Code := { maxStack := 3, maxLocals := 4, code := prog_44_method_1_code, exceptionTable := #[], attributes := #[] }
def k2m0 : Method := { name := "<init>", desc := "(IJ)V", sig := { parameters := [.int, .long], returnType := none }, accessFlags := 0, code := some k2c0 }
def k2c1 : Code := { maxStack := 3, maxLocals := 3, code := prog_44_method_2_code, exceptionTable := #[], attributes := #[] }
def k2m1 : Method := { name := "reset", desc := "(J)V", sig := { parameters := [.long], returnType := none }, accessFlags := 0, code := some k2c1 }
def k2c2 : Code := { maxStack := 4, maxLocals := 4, code := prog_44_method_5_code, exceptionTable := #[], attributes := #[] }
def k2m2 : Method := { name := "moveOn", desc := "(IJ)V", sig := { parameters := [.int, .long], returnType := none }, accessFlags := 0, code := some k2c2 }
def k2c3 : Code := { maxStack := 1, maxLocals := 1, code := prog_44_method_7_code, exceptionTable := #[], attributes := #[] }
def k2m3 : Method := { name := "allMovedOn", desc := "()Z", sig := { parameters := [], returnType := some .boolean }, accessFlags := 0, code := some k2c3 }
def k2c4 : Code := { maxStack := 2, maxLocals := 1, code := prog_44_method_8_code, exceptionTable := #[], attributes := #[] }
def k2m4 : Method := { name := "mark", desc := "()J", sig := { parameters := [], returnType := some .long }, accessFlags := 0, code := some k2c4 }
def k2c5 : Code := { maxStack := 4, maxLocals := 9, code := prog_44_method_9_code, exceptionTable := #[], attributes := #[] }
def k2m5 : Method := { name := "findSmallest", desc := "()J", sig := { parameters := [], returnType := some .long }, accessFlags := 0, code := some k2c5 }
/-- com/example/mullion/mullion/aggregators/FurthestBack -/
def k2 : Class := { plain "com/example/mullion/mullion/aggregators/FurthestBack" (some 0) with
  accessFlags := 48
  interfaces := #[]
  cf := some (fileOf pool2 17 #[] #[{ accessFlags := 0, nameIndex := 5, descriptorIndex := 53, attributes := #[] }, { accessFlags := 0, nameIndex := 24, descriptorIndex := 25, attributes := #[] }, { accessFlags := 0, nameIndex := 61, descriptorIndex := 53, attributes := #[] }, { accessFlags := 0, nameIndex := 63, descriptorIndex := 64, attributes := #[] }, { accessFlags := 0, nameIndex := 34, descriptorIndex := 65, attributes := #[] }, { accessFlags := 0, nameIndex := 66, descriptorIndex := 65, attributes := #[] }] 48 2 #[] #[{ accessFlags := 18, nameIndex := 20, descriptorIndex := 21, attributes := #[] }, { accessFlags := 2, nameIndex := 34, descriptorIndex := 35, attributes := #[] }, { accessFlags := 2, nameIndex := 38, descriptorIndex := 39, attributes := #[] }])
  fields := #[{ name := "values", type := (.array .long), accessFlags := 18, slot := 0, constantValue := 0 }, { name := "mark", type := .long, accessFlags := 2, slot := 1, constantValue := 0 }, { name := "atOrBelowMark", type := .int, accessFlags := 2, slot := 2, constantValue := 0 }]
  methods := #[k2m0, k2m1, k2m2, k2m3, k2m4, k2m5]
  instanceTypes := #[(.array .long), .long, .int]
  staticTypes := #[]
  resolved := Array.replicate 86 none
  statics := none }

def pool3 : Array CpInfo := pool [(2, .class_ 4), (1, u "java/lang/Object"), (0, u "<init>"), (0, u "()V"), (7, .class_ 16), (1, u "java/util/Arrays"), (57, .class_ 76), (1, u "java/util/Arrays$NaturalOrder"), (36, .class_ 115), (1, u "java/util/Arrays$LegacyMergeSort"), (1, u "Z"), (257, .class_ 376), (0, u "java/util/Arrays$ArrayList"), (68, u "$assertionsDisabled"), (269, u "MIN_ARRAY_SORT_GRAN"), (0, u "I"), (2, u "INSERTIONSORT_THRESHOLD"), (120, u "fill"), (0, u "([JJ)V"), (133, .class_ 976), (0, u "java/util/Arrays$ArrayItr")] 52

def k3m0 : Method := { name := "<init>", desc := "()V", sig := { parameters := [], returnType := none }, accessFlags := 2, code := none }
def k3c1 : Code := { maxStack := 4, maxLocals := 5, code := jdk_65_method_101_code, exceptionTable := #[], attributes := #[] }
def k3m1 : Method := { name := "fill", desc := "([JJ)V", sig := { parameters := [(.array .long), .long], returnType := none }, accessFlags := 9, code := some k3c1 }
/-- java/util/Arrays -/
def k3 : Class := { plain "java/util/Arrays" (some 0) with
  accessFlags := 49
  interfaces := #[]
  cf := some (fileOf pool3 14 #[.nestMembers #[975, 375, 113, 74]] #[{ accessFlags := 2, nameIndex := 5, descriptorIndex := 6, attributes := #[] }, { accessFlags := 9, nameIndex := 840, descriptorIndex := 841, attributes := #[] }] 49 2 #[] #[{ accessFlags := 26, nameIndex := 715, descriptorIndex := 716, attributes := #[] }, { accessFlags := 26, nameIndex := 719, descriptorIndex := 716, attributes := #[] }, { accessFlags := 4120, nameIndex := 445, descriptorIndex := 117, attributes := #[] }])
  fields := #[{ name := "MIN_ARRAY_SORT_GRAN", type := .int, accessFlags := 26, slot := 0, constantValue := 0 }, { name := "INSERTIONSORT_THRESHOLD", type := .int, accessFlags := 26, slot := 1, constantValue := 0 }, { name := "$assertionsDisabled", type := .boolean, accessFlags := 4120, slot := 2, constantValue := 0 }]
  methods := #[k3m0, k3m1]
  instanceTypes := #[]
  staticTypes := #[.int, .int, .boolean]
  resolved := Array.replicate 1029 none
  statics := none }

def pool4 : Array CpInfo := pool [(1, .class_ 2), (0, u "java/lang/Math"), (1, .class_ 6), (1, u "java/lang/Object"), (0, u "<init>"), (0, u "()V"), (89, .class_ 100), (1, u "java/lang/Math$RandomNumberGeneratorHolder"), (20, u "(JJ)J"), (50, u "negativeZeroFloatBits"), (0, u "J"), (2, u "negativeZeroDoubleBits"), (24, u "min"), (43, u "$assertionsDisabled"), (0, u "Z"), (91, u "twoToTheDoubleScaleDown"), (0, u "D"), (4, u "twoToTheDoubleScaleUp"), (9, u "E"), (3, u "PI"), (2, u "TAU"), (2, u "DEGREES_TO_RADIANS"), (0, u "RADIANS_TO_DEGREES")] 94

def k4m0 : Method := { name := "<init>", desc := "()V", sig := { parameters := [], returnType := none }, accessFlags := 2, code := none }
def k4c1 : Code := { maxStack := 4, maxLocals := 4, code := jdk_29_method_70_code, exceptionTable := #[], attributes := #[] }
def k4m1 : Method := { name := "min", desc := "(JJ)J", sig := { parameters := [.long, .long], returnType := some .long }, accessFlags := 9, code := some k4c1 }
/-- java/lang/Math -/
def k4 : Class := { plain "java/lang/Math" (some 0) with
  accessFlags := 49
  interfaces := #[]
  cf := some (fileOf pool4 1 #[.nestMembers #[98]] #[{ accessFlags := 2, nameIndex := 7, descriptorIndex := 8, attributes := #[] }, { accessFlags := 9, nameIndex := 201, descriptorIndex := 121, attributes := #[] }] 49 4 #[] #[{ accessFlags := 25, nameIndex := 354, descriptorIndex := 339, attributes := #[] }, { accessFlags := 25, nameIndex := 358, descriptorIndex := 339, attributes := #[] }, { accessFlags := 25, nameIndex := 361, descriptorIndex := 339, attributes := #[] }, { accessFlags := 26, nameIndex := 364, descriptorIndex := 339, attributes := #[] }, { accessFlags := 26, nameIndex := 365, descriptorIndex := 339, attributes := #[] }, { accessFlags := 26, nameIndex := 172, descriptorIndex := 173, attributes := #[] }, { accessFlags := 26, nameIndex := 176, descriptorIndex := 173, attributes := #[] }, { accessFlags := 8, nameIndex := 344, descriptorIndex := 339, attributes := #[] }, { accessFlags := 8, nameIndex := 338, descriptorIndex := 339, attributes := #[] }, { accessFlags := 4120, nameIndex := 245, descriptorIndex := 246, attributes := #[] }])
  fields := #[{ name := "E", type := .double, accessFlags := 25, slot := 0, constantValue := 0 }, { name := "PI", type := .double, accessFlags := 25, slot := 1, constantValue := 0 }, { name := "TAU", type := .double, accessFlags := 25, slot := 2, constantValue := 0 }, { name := "DEGREES_TO_RADIANS", type := .double, accessFlags := 26, slot := 3, constantValue := 0 }, { name := "RADIANS_TO_DEGREES", type := .double, accessFlags := 26, slot := 4, constantValue := 0 }, { name := "negativeZeroFloatBits", type := .long, accessFlags := 26, slot := 5, constantValue := 0 }, { name := "negativeZeroDoubleBits", type := .long, accessFlags := 26, slot := 6, constantValue := 0 }, { name := "twoToTheDoubleScaleUp", type := .double, accessFlags := 8, slot := 7, constantValue := 0 }, { name := "twoToTheDoubleScaleDown", type := .double, accessFlags := 8, slot := 8, constantValue := 0 }, { name := "$assertionsDisabled", type := .boolean, accessFlags := 4120, slot := 9, constantValue := 0 }]
  methods := #[k4m0, k4m1]
  instanceTypes := #[]
  staticTypes := #[.double, .double, .double, .double, .double, .long, .long, .double, .double, .boolean]
  resolved := Array.replicate 460 none
  statics := none }

def pool5 : Array CpInfo := pool [(1, u "java/lang/Cloneable"), (0, .class_ 1), (0, u "java/lang/Object"), (0, .class_ 3)] 3

/-- java/lang/Cloneable -/
def k5 : Class := { plain "java/lang/Cloneable" (some 0) with
  accessFlags := 1537
  interfaces := #[]
  cf := some (fileOf pool5 2 #[] #[] 1537 4 #[] #[])
  fields := #[]
  methods := #[]
  instanceTypes := #[]
  staticTypes := #[]
  resolved := Array.replicate 8 none
  statics := none }

def pool6 : Array CpInfo := pool [(1, u "java/io/Serializable"), (0, .class_ 1), (0, u "java/lang/Object"), (0, .class_ 3)] 3

/-- java/io/Serializable -/
def k6 : Class := { plain "java/io/Serializable" (some 0) with
  accessFlags := 1537
  interfaces := #[]
  cf := some (fileOf pool6 2 #[] #[] 1537 4 #[] #[])
  fields := #[]
  methods := #[]
  instanceTypes := #[]
  staticTypes := #[]
  resolved := Array.replicate 8 none
  statics := none }

/-- the primitive byte -/
def k7 : Class := { plain "byte" none with kind := .primitive 'B', accessFlags := 0x411 }
/-- [B -/
def k8 : Class := { plain "[B" (some 0) with kind := .array 7 .byte, interfaces := #[5, 6], accessFlags := 1041 }

/-- the primitive int -/
def k9 : Class := { plain "int" none with kind := .primitive 'I', accessFlags := 0x411 }
/-- [I -/
def k10 : Class := { plain "[I" (some 0) with kind := .array 9 .int, interfaces := #[5, 6], accessFlags := 1041 }

/-- the primitive long -/
def k11 : Class := { plain "long" none with kind := .primitive 'J', accessFlags := 0x411 }
/-- [J -/
def k12 : Class := { plain "[J" (some 0) with kind := .array 11 .long, interfaces := #[5, 6], accessFlags := 1041 }

def heap : Heap := #[]
def classes : Array Class := #[k0, k1, k2, k3, k4, k5, k6, k7, k8, k9, k10, k11, k12]
def interned : List (Array UInt16 × Addr) := []
def slotsUsed : Nat := 0
def theMethod : MethodId := ⟨1, 1⟩
def args0 : Array Value := #[.int 5, .long 3, .long 4, .long 6]
def aboutOver (below : List Frame) : State where
  vm := { classes := classes, interned := interned.toArray }
  heap := heap
  slotsUsed := slotsUsed
  threads := #[{ frames := .invoking theMethod args0 :: below }]
def below0 : List Frame := [.native { method := ⟨0, 0⟩, args := #[] }]
def about1 : State := aboutOver below0
def p0 : Program := .bare "" "" ""
def e0 : Env := launch0.env 0 0 0
theorem w_frames : about1.frames = Frame.invoking theMethod args0 :: below0 := rfl
set_option maxRecDepth 65536 in
theorem w_args : argsFit about1.vm theMethod args0 = true := by decide +kernel
set_option maxRecDepth 65536 in
theorem w_heap : heapFits about1 = true := by decide +kernel
set_option maxRecDepth 65536 in
theorem w_runnable : about1.curStatus? = some .runnable := by decide +kernel
set_option maxRecDepth 65536 in
theorem w_alone : about1.alone = true := by decide +kernel
set_option maxRecDepth 65536 in
theorem w_named : about1.methodNamed? x = some theMethod := by decide +kernel
set_option maxRecDepth 65536 in
theorem w_hears : about1.hears theMethod below0 = true := by decide +kernel
set_option maxRecDepth 65536 in
theorem w_ripe : about1.ripe theMethod args0 below0 = true := by decide +kernel
theorem w_running : about1.status = .running := rfl
set_option maxRecDepth 65536 in
theorem w_room : about1.hasRoom e0.platform room_1 = true :=
  launch0.hasRoom_least _ room_1 (by decide +kernel) (by decide +kernel) (by decide +kernel) (by decide +kernel) (by decide +kernel) (by decide +kernel)
theorem allAtoms_all (ts : List Jvm.Cond) (a : Array Jvm.Value) (st : Jvm.State) : (allAtoms ts).before a st = ts.all (fun c => c.before a st) := by
  induction ts with
  | nil => rfl
  | cons c t ih =>
    show (Jvm.Cond.and c (allAtoms t)).before a st = _
    rw [Jvm.Cond.before_and, ih, List.all_cons]
def words1 : List Jvm.Cond := Jvm.Cond.code x code maxLocals ret :: tables_1
/-- a 'code' word, met by the world's own term for the bytes: nothing is compared byte by byte -/
theorem code_word {y : MethodName} {bytes : ByteArray} {mx : Nat} {rt : Option FieldType} {a : Array Value} {s : State} {m : MethodId} {meth : Method} {c : Code} (h1 : s.methodNamed? y = some m) (h2 : s.vm.method? m = some meth) (h3 : meth.code = some c) (h4 : c.code = bytes)
    (h5 : (c.maxLocals == mx && c.exceptionTable.isEmpty && decide (c.maxStack ≤ mostOperands) && decide (meth.sig.returnType = rt) && !meth.locks && decide (parseMethodDescriptor y.desc = some meth.sig)) = true) : (Jvm.Cond.code y bytes mx rt).before a s = true := by
  simp only [Bool.and_eq_true, beq_iff_eq, Bool.not_eq_true', decide_eq_true_eq] at h5
  obtain ⟨⟨⟨⟨⟨g1, g2⟩, g3⟩, g4⟩, g5⟩, g6⟩ := h5
  simp [Cond.before, Cond.holds, Cond.value, h1, h2, h3, h4, g1, g2, g3, g4, g5, g6]
def isCode : Jvm.Cond → Bool
  | .code _ _ _ _ => true
  | _ => false
theorem all_split {L : List Jvm.Cond} {P : Jvm.Cond → Bool} (h1 : L.all (fun c => isCode c || P c) = true) (h2 : ∀ c ∈ L.filter isCode, P c = true) : L.all P = true := by
  refine List.all_eq_true.mpr fun c hc => ?_
  have h := List.all_eq_true.mp h1 c hc
  rcases Bool.eq_false_or_eq_true (isCode c) with hi | hi
  · exact h2 c (List.mem_filter.mpr ⟨hc, hi⟩)
  · simpa [hi] using h
set_option maxRecDepth 65536 in
theorem w_c0 : (Jvm.Cond.code x code maxLocals ret).before args0 about1 = true := code_word (m := ⟨1, 1⟩) (meth := k1m1) (c := k1c1) (by decide +kernel) rfl rfl rfl (by decide +kernel)
set_option maxRecDepth 65536 in
theorem w_c1 : (Jvm.Cond.code ({ cls := "com/example/mullion/mullion/aggregators/FurthestBack", name := "<init>", desc := "(IJ)V" } : Jvm.MethodName) prog_44_method_1_code (4 : Nat) (Option.none : Option Jvm.ClassFile.FieldType)).before args0 about1 = true := code_word (m := ⟨2, 0⟩) (meth := k2m0) (c := k2c0) (by decide +kernel) rfl rfl rfl (by decide +kernel)
set_option maxRecDepth 65536 in
theorem w_c2 : (Jvm.Cond.code ({ cls := "java/lang/Object", name := "<init>", desc := "()V" } : Jvm.MethodName) object_method_1_code (1 : Nat) (Option.none : Option Jvm.ClassFile.FieldType)).before args0 about1 = true := code_word (m := ⟨0, 0⟩) (meth := k0m0) (c := k0c0) (by decide +kernel) rfl rfl rfl (by decide +kernel)
set_option maxRecDepth 65536 in
theorem w_c3 : (Jvm.Cond.code ({ cls := "com/example/mullion/mullion/aggregators/FurthestBack", name := "reset", desc := "(J)V" } : Jvm.MethodName) prog_44_method_2_code (3 : Nat) (Option.none : Option Jvm.ClassFile.FieldType)).before args0 about1 = true := code_word (m := ⟨2, 1⟩) (meth := k2m1) (c := k2c1) (by decide +kernel) rfl rfl rfl (by decide +kernel)
set_option maxRecDepth 65536 in
theorem w_c4 : (Jvm.Cond.code ({ cls := "java/util/Arrays", name := "fill", desc := "([JJ)V" } : Jvm.MethodName) jdk_65_method_101_code (5 : Nat) (Option.none : Option Jvm.ClassFile.FieldType)).before args0 about1 = true := code_word (m := ⟨3, 1⟩) (meth := k3m1) (c := k3c1) (by decide +kernel) rfl rfl rfl (by decide +kernel)
set_option maxRecDepth 65536 in
theorem w_c5 : (Jvm.Cond.code ({ cls := "com/example/mullion/mullion/aggregators/FurthestBack", name := "moveOn", desc := "(IJ)V" } : Jvm.MethodName) prog_44_method_5_code (4 : Nat) (Option.none : Option Jvm.ClassFile.FieldType)).before args0 about1 = true := code_word (m := ⟨2, 2⟩) (meth := k2m2) (c := k2c2) (by decide +kernel) rfl rfl rfl (by decide +kernel)
set_option maxRecDepth 65536 in
theorem w_c6 : (Jvm.Cond.code ({ cls := "com/example/mullion/mullion/aggregators/FurthestBack", name := "findSmallest", desc := "()J" } : Jvm.MethodName) prog_44_method_9_code (9 : Nat) (Option.some Jvm.ClassFile.FieldType.long)).before args0 about1 = true := code_word (m := ⟨2, 5⟩) (meth := k2m5) (c := k2c5) (by decide +kernel) rfl rfl rfl (by decide +kernel)
set_option maxRecDepth 65536 in
theorem w_c7 : (Jvm.Cond.code ({ cls := "com/example/mullion/mullion/aggregators/FurthestBack", name := "mark", desc := "()J" } : Jvm.MethodName) prog_44_method_8_code (1 : Nat) (Option.some Jvm.ClassFile.FieldType.long)).before args0 about1 = true := code_word (m := ⟨2, 4⟩) (meth := k2m4) (c := k2c4) (by decide +kernel) rfl rfl rfl (by decide +kernel)
set_option maxRecDepth 65536 in
theorem w_c8 : (Jvm.Cond.code ({ cls := "com/example/mullion/mullion/aggregators/FurthestBack", name := "allMovedOn", desc := "()Z" } : Jvm.MethodName) prog_44_method_7_code (1 : Nat) (Option.some Jvm.ClassFile.FieldType.boolean)).before args0 about1 = true := code_word (m := ⟨2, 3⟩) (meth := k2m3) (c := k2c3) (by decide +kernel) rfl rfl rfl (by decide +kernel)
set_option maxRecDepth 65536 in
theorem w_c9 : (Jvm.Cond.code ({ cls := "java/lang/Math", name := "min", desc := "(JJ)J" } : Jvm.MethodName) jdk_29_method_70_code (4 : Nat) (Option.some Jvm.ClassFile.FieldType.long)).before args0 about1 = true := code_word (m := ⟨4, 1⟩) (meth := k4m1) (c := k4c1) (by decide +kernel) rfl rfl rfl (by decide +kernel)
def codes1 : List Jvm.Cond := [Jvm.Cond.code x code maxLocals ret, Jvm.Cond.code ({ cls := "com/example/mullion/mullion/aggregators/FurthestBack", name := "<init>", desc := "(IJ)V" } : Jvm.MethodName) prog_44_method_1_code (4 : Nat) (Option.none : Option Jvm.ClassFile.FieldType), Jvm.Cond.code ({ cls := "java/lang/Object", name := "<init>", desc := "()V" } : Jvm.MethodName) object_method_1_code (1 : Nat) (Option.none : Option Jvm.ClassFile.FieldType), Jvm.Cond.code ({ cls := "com/example/mullion/mullion/aggregators/FurthestBack", name := "reset", desc := "(J)V" } : Jvm.MethodName) prog_44_method_2_code (3 : Nat) (Option.none : Option Jvm.ClassFile.FieldType), Jvm.Cond.code ({ cls := "java/util/Arrays", name := "fill", desc := "([JJ)V" } : Jvm.MethodName) jdk_65_method_101_code (5 : Nat) (Option.none : Option Jvm.ClassFile.FieldType), Jvm.Cond.code ({ cls := "com/example/mullion/mullion/aggregators/FurthestBack", name := "moveOn", desc := "(IJ)V" } : Jvm.MethodName) prog_44_method_5_code (4 : Nat) (Option.none : Option Jvm.ClassFile.FieldType), Jvm.Cond.code ({ cls := "com/example/mullion/mullion/aggregators/FurthestBack", name := "findSmallest", desc := "()J" } : Jvm.MethodName) prog_44_method_9_code (9 : Nat) (Option.some Jvm.ClassFile.FieldType.long), Jvm.Cond.code ({ cls := "com/example/mullion/mullion/aggregators/FurthestBack", name := "mark", desc := "()J" } : Jvm.MethodName) prog_44_method_8_code (1 : Nat) (Option.some Jvm.ClassFile.FieldType.long), Jvm.Cond.code ({ cls := "com/example/mullion/mullion/aggregators/FurthestBack", name := "allMovedOn", desc := "()Z" } : Jvm.MethodName) prog_44_method_7_code (1 : Nat) (Option.some Jvm.ClassFile.FieldType.boolean), Jvm.Cond.code ({ cls := "java/lang/Math", name := "min", desc := "(JJ)J" } : Jvm.MethodName) jdk_29_method_70_code (4 : Nat) (Option.some Jvm.ClassFile.FieldType.long)]
set_option maxRecDepth 65536 in
theorem codes_eq : words1.filter isCode = codes1 := rfl
theorem w_codes : ∀ c ∈ words1.filter isCode, c.before args0 about1 = true := by
  rw [codes_eq]
  intro c hc
  simp only [codes1, List.mem_cons, List.not_mem_nil, or_false] at hc
  rcases hc with rfl | rfl | rfl | rfl | rfl | rfl | rfl | rfl | rfl | rfl
  · exact w_c0
  · exact w_c1
  · exact w_c2
  · exact w_c3
  · exact w_c4
  · exact w_c5
  · exact w_c6
  · exact w_c7
  · exact w_c8
  · exact w_c9
set_option maxRecDepth 65536 in
theorem w_t1 : (words1.take 24).all (fun c => isCode c || c.before args0 about1) = true := by decide +kernel
set_option maxRecDepth 65536 in
theorem w_t2 : ((words1.drop 24).take 24).all (fun c => isCode c || c.before args0 about1) = true := by decide +kernel
set_option maxRecDepth 65536 in
theorem w_t3 : ((words1.drop 24).drop 24).all (fun c => isCode c || c.before args0 about1) = true := by decide +kernel
theorem w_tables : (allAtoms (Jvm.Cond.code x code maxLocals ret :: tables_1)).before args0 about1 = true := by
  rw [allAtoms_all]
  show words1.all (fun c => c.before args0 about1) = true
  refine all_split ?_ w_codes
  rw [← List.take_append_drop 24 words1, List.all_append, w_t1, ← List.take_append_drop 24 (words1.drop 24), List.all_append, w_t2, w_t3]
  rfl
set_option maxRecDepth 65536 in
theorem w_case : (Jvm.Cond.and given_1 narrow_1).before args0 about1 = true := by decide +kernel
theorem w_applies : (headSpec (Jvm.Cond.code x code maxLocals ret :: tables_1) room_1).applies x e0.platform about1 = true :=
  (Spec.applies_iff w_frames).mpr ⟨w_running, w_runnable, w_alone, w_named, w_hears, w_ripe, w_room, w_tables⟩
theorem atStart : AtStart classFile x code maxLocals ret World_1 tables_1 room_1 Calls_1 rest_1 Pre_1 launch0 p0 e0 about1 theMethod args0 below0 :=
  ⟨lists_1, trivial, launch0.admits_env _ _ _, launch0.least_env, fairChoices_fair.cas, fairChoices_fair.clock, w_frames, w_args, w_heap, w_applies, trivial, trivial, w_case⟩
end start1
theorem witness_1 : WitnessClaimed_1 := ⟨start1.p0, start1.e0, start1.about1, start1.theMethod, start1.args0, start1.below0, start1.atStart⟩
end Jvm.Pilot.@@N@@
