import JvmDerived
import JvmDerived.Pilot.@@N@@Statement
import JvmDerived.Pilot.@@N@@Code
set_option linter.unusedVariables false
set_option linter.unusedSimpArgs false
namespace Jvm.RoadKit
open Sem ClassFile Op Lib Jvm.Stand Jvm.Free Jvm.LawKit
section Own
variable {p : Program} {l : Launch} {e : Env} {R : Room} {s : State} {m : MethodId} {args : Array Value} {below : List Frame} {meth : Method} {c : Code} {T T' : State} {locs : List Loc} {cells slots : Nat} {CC SS : Nat} {Q : Option Value → Heap → List Loc → Prop} {g g' : JFrame}
/-- from the frame g over T the run returns, and what it leaves is as Q says -/
def Done (p : Program) (e : Env) (s : State) (below : List Frame) (CC SS : Nat) (Q : Option Value → Heap → List Loc → Prop) (T : State) (g : JFrame) : Prop :=
  ∃ s₂ o, Steps p.tables e below (T.setTop g) s₂ ∧ s₂.status = .running ∧ Ended s₂ below o ∧ ∃ v L, o = .returned v ∧ Q v s₂.heap L ∧ FrameEnd s o s₂ L CC SS
theorem Done.go (st : ∀ t, Steps p.tables e below (T'.setTop g') t → Steps p.tables e below (T.setTop g) t) (k : Done p e s below CC SS Q T' g') : Done p e s below CC SS Q T g := by
  obtain ⟨s2, o, h, r⟩ := k; exact ⟨s2, o, st _ h, r⟩
theorem Done.via (st : Steps p.tables e below (T.setTop g) (T'.setTop g')) (k : Done p e s below CC SS Q T' g') : Done p e s below CC SS Q T g := by
  obtain ⟨s2, o, h, r⟩ := k; exact ⟨s2, o, st.trans h, r⟩
theorem Done.ret (X : Stand p l e R s m args below meth c T locs cells slots) (hlk : meth.locks = false) {v : Option Value} (hv : meth.sig.returnType = none → v = none)
    (st : ∀ fs : List Frame, (∀ (f : JFrame) (acts : List Action), f.method = m → f.locked = none → f.entered = [] → (doReturn e (T.setTop f) acts v).1 = T.setFrames fs) → Steps p.tables e below (T.setTop g) (T.setFrames fs))
    (hq : Q v T.heap locs) (hc : cells ≤ CC) (hs : slots ≤ SS) : Done p e s below CC SS Q T g := by
  obtain ⟨fs, hr, hrun, hended, hW, hsame⟩ := X.leave (v := v) hv hlk
  exact ⟨_, _, st fs hr, hrun, hended, _, _, rfl, hq, ⟨_, rfl⟩, hW, hsame.mono hc hs⟩
theorem Done.retI (X : Stand p l e R s m args below meth c T locs cells slots) (hx : p.tables.exec = Jvm.exec) (hlk : meth.locks = false) {pc : Nat} {Ls : Array Slot} {z : Int32} {rest : List Value} (hret : meth.sig.returnType = some .int) (hd : decode c.code pc = .ok (.ireturn, 1))
    (hq : Q (some (.int z)) T.heap locs) (hc : cells ≤ CC) (hs : slots ≤ SS) : Done p e s below CC SS Q T (mkF m pc Ls (.int z :: rest)) := by
  refine Done.ret X hlk (fun h => by rw [hret] at h; cases h) (fun fs hl => ?_) hq hc hs
  have hm' : T.vm.method? m = some meth := X.method'
  have hn : narrow .int (.int z) = .int z := rfl
  show Steps p.tables e below (T.setTop { method := m, pc := pc, locals := Ls, stack := _ :: rest, locked := none }) _
  jvm_step X.here [X.here.top, hx, hd, hm', hret, hn]
  first | (intro acts; rw [hl _ acts rfl rfl rfl]) | rw [hl _ _ rfl rfl rfl]
  exact Steps.refl _
theorem Done.retJ (X : Stand p l e R s m args below meth c T locs cells slots) (hx : p.tables.exec = Jvm.exec) (hlk : meth.locks = false) {pc : Nat} {Ls : Array Slot} {z : Int64} {rest : List Value} (hret : meth.sig.returnType = some .long) (hd : decode c.code pc = .ok (.lreturn, 1))
    (hq : Q (some (.long z)) T.heap locs) (hc : cells ≤ CC) (hs : slots ≤ SS) : Done p e s below CC SS Q T (mkF m pc Ls (.long z :: rest)) := by
  refine Done.ret X hlk (fun h => by rw [hret] at h; cases h) (fun fs hl => ?_) hq hc hs
  have hm' : T.vm.method? m = some meth := X.method'
  show Steps p.tables e below (T.setTop { method := m, pc := pc, locals := Ls, stack := _ :: rest, locked := none }) _
  jvm_step X.here [X.here.top, hx, hd, hm', hret]
  first | (intro acts; rw [hl _ acts rfl rfl rfl]) | rw [hl _ _ rfl rfl rfl]
  exact Steps.refl _
theorem Done.retR (X : Stand p l e R s m args below meth c T locs cells slots) (hx : p.tables.exec = Jvm.exec) (hlk : meth.locks = false) {pc : Nat} {Ls : Array Slot} {v : Value} {t : FieldType} {rest : List Value} (hret : meth.sig.returnType = some t) (ht : t.isReference = true) (hv : v.isRef = true) (hd : decode c.code pc = .ok (.areturn, 1))
    (hq : Q (some v) T.heap locs) (hc : cells ≤ CC) (hs : slots ≤ SS) : Done p e s below CC SS Q T (mkF m pc Ls (v :: rest)) := by
  refine Done.ret X hlk (fun h => by rw [hret] at h; cases h) (fun fs hl => ?_) hq hc hs
  have hm' : T.vm.method? m = some meth := X.method'
  show Steps p.tables e below (T.setTop { method := m, pc := pc, locals := Ls, stack := _ :: rest, locked := none }) _
  jvm_step X.here [X.here.top, hx, hd, hm', hret, ht, hv]
  first | (intro acts; rw [hl _ acts rfl rfl rfl]) | rw [hl _ _ rfl rfl rfl]
  exact Steps.refl _
theorem Done.retV (X : Stand p l e R s m args below meth c T locs cells slots) (hx : p.tables.exec = Jvm.exec) (hlk : meth.locks = false) {pc : Nat} {Ls : Array Slot} (hret : meth.sig.returnType = none) (hd : decode c.code pc = .ok (.return_, 1))
    (hq : Q none T.heap locs) (hc : cells ≤ CC) (hs : slots ≤ SS) : Done p e s below CC SS Q T (mkF m pc Ls []) :=
  Done.ret X hlk (fun _ => rfl) (fun fs hl => X.returnOut hx hret hd hl) hq hc hs
theorem Done.retN (X : Stand p l e R s m args below meth c T locs cells slots) (hx : p.tables.exec = Jvm.exec) (hlk : meth.locks = false) {pc : Nat} {Ls : Array Slot} {z z' : Int32} {t : FieldType} {rest : List Value} (hret : meth.sig.returnType = some t) (ht : t = .boolean ∨ t = .byte ∨ t = .char ∨ t = .short) (hz : nar t z = z')
    (hd : decode c.code pc = .ok (.ireturn, 1)) (hq : Q (some (.int z')) T.heap locs) (hc : cells ≤ CC) (hs : slots ≤ SS) : Done p e s below CC SS Q T (mkF m pc Ls (.int z :: rest)) := by
  subst hz
  exact Done.ret X hlk (fun h => by rw [hret] at h; cases h) (fun fs hl => Jvm.RoadKit.retN X hx hret ht hd hl) hq hc hs
theorem own_backG {rc rs : Nat} {rest : List Value} {Q0 : Option Value → Heap → List Loc → Prop} (h : ∃ (v : Option Value) (vm₁ : Vm) (B : Pt), s.WarmedH vm₁ ∧ Stand p l e R s m args below meth c B.U B.locs B.cells B.slots ∧ (∃ L, Q0 v B.U.heap L ∧ B.locs = locs ++ L ∧ B.cells = cells + rc ∧ B.slots = slots + rs) ∧
      ∀ target, Steps p.tables e below (B.U.setTop { g with pc := g.pc + 3, stack := v.toList ++ rest }) target → Steps p.tables e below (T.setTop g) target) :
    ∃ v T' Lc, Stand p l e R s m args below meth c T' (locs ++ Lc) (cells + rc) (slots + rs) ∧ Q0 v T'.heap Lc ∧ ∀ target, Steps p.tables e below (T'.setTop { g with pc := g.pc + 3, stack := v.toList ++ rest }) target → Steps p.tables e below (T.setTop g) target := by
  obtain ⟨v, vm, ⟨U, L, k, n⟩, -, X, ⟨Lc, hQ, rfl, rfl, rfl⟩, st⟩ := h
  exact ⟨v, U, Lc, X, hQ, st⟩
theorem own_backV {rc rs : Nat} {rest : List Value} {Q0 : Option Value → Heap → List Loc → Prop} (h : ∃ (v : Option Value) (vm₁ : Vm) (B : Pt), s.WarmedH vm₁ ∧ Stand p l e R s m args below meth c B.U B.locs B.cells B.slots ∧ (∃ L, Q0 v B.U.heap L ∧ B.locs = locs ++ L ∧ B.cells = cells + rc ∧ B.slots = slots + rs) ∧
      Steps p.tables e below (T.setTop g) (B.U.setTop { g with pc := g.pc + 3, stack := v.toList ++ rest })) :
    ∃ v T' Lc, Stand p l e R s m args below meth c T' (locs ++ Lc) (cells + rc) (slots + rs) ∧ Q0 v T'.heap Lc ∧ ∀ target, Steps p.tables e below (T'.setTop { g with pc := g.pc + 3, stack := v.toList ++ rest }) target → Steps p.tables e below (T.setTop g) target := by
  obtain ⟨v, vm, ⟨U, L, k, n⟩, -, X, ⟨Lc, hQ, rfl, rfl, rfl⟩, st⟩ := h
  exact ⟨v, U, Lc, X, hQ, fun _ k => st.trans k⟩
theorem own_backI {rc rs : Nat} {rest : List Value} {Q0 : Option Value → Heap → List Loc → Prop} (h : ∃ (v : Option Value) (vm₁ : Vm) (B : Pt), s.WarmedH vm₁ ∧ Stand p l e R s m args below meth c B.U B.locs B.cells B.slots ∧ (∃ L, Q0 v B.U.heap L ∧ B.locs = locs ++ L ∧ B.cells = cells + rc ∧ B.slots = slots + rs) ∧
      Steps p.tables e below (T.setTop g) (B.U.setTop { g with pc := g.pc + 5, stack := v.toList ++ rest })) :
    ∃ v T' Lc, Stand p l e R s m args below meth c T' (locs ++ Lc) (cells + rc) (slots + rs) ∧ Q0 v T'.heap Lc ∧ ∀ target, Steps p.tables e below (T'.setTop { g with pc := g.pc + 5, stack := v.toList ++ rest }) target → Steps p.tables e below (T.setTop g) target := by
  obtain ⟨v, vm, ⟨U, L, k, n⟩, -, X, ⟨Lc, hQ, rfl, rfl, rfl⟩, st⟩ := h
  exact ⟨v, U, Lc, X, hQ, fun _ k => st.trans k⟩
theorem own_narB (x : Int32) : nar .byte x.toInt8.toInt32 = x.toInt8.toInt32 := by simp [nar]
end Own
end Jvm.RoadKit
namespace Jvm.RoadKit
open Sem ClassFile Op Lib Jvm.Stand Jvm.Free Jvm.LawKit
section OwnA
variable {p : Program} {l : Launch} {e : Env} {R : Room} {s : State} {m : MethodId} {args : Array Value} {below : List Frame} {meth : Method} {c : Code} {T T' : State} {locs : List Loc} {cells slots : Nat} {CC SS : Nat} {Q : Option Value → Heap → List Loc → Prop} {g g' : JFrame} {Z : State} {h h' : Heap} {a b : Addr} {ty : FieldType} {n : Nat} {f f' : Nat → Int32} {ws : List Addr} {sl : Nat} {v : Value}
/-- an array of n places at a; place i holds f i -/
def Ari (Z : State) (h : Heap) (a : Addr) (ty : FieldType) (n : Nat) (f : Nat → Int32) : Prop := ∃ cl : Cell, Arr Z h a cl ty ∧ cl.slots.size = n ∧ n < 2 ^ 31 ∧ ∀ i, i < n → cl.slots[i]? = some (.int (f i))
theorem Ari.lt (F : Ari Z h a ty n f) : a < h.size := by obtain ⟨_, A, -⟩ := F; exact A.lt
theorem Ari.ext (F : Ari Z h a ty n f) (E : Ext h h') : Ari Z h' a ty n f := by obtain ⟨cl, A, r⟩ := F; exact ⟨cl, A.ext E, r⟩
theorem Ari.other (F : Ari Z h b ty n f) (W : Wr h h' a sl v) (q : b ≠ a) : Ari Z h' b ty n f := by obtain ⟨cl, A, r⟩ := F; exact ⟨cl, A.other W q, r⟩
theorem Ari.keep (F : Ari Z h a ty n f) (K : Keep h h' ws) (q : a ∉ ws) : Ari Z h' a ty n f := by obtain ⟨cl, A, r⟩ := F; exact ⟨cl, ⟨K.2.1 a cl A.1 q, A.2⟩, r⟩
theorem Ari.congr (F : Ari Z h a ty n f) (q : ∀ i, i < n → f i = f' i) : Ari Z h a ty n f' := by obtain ⟨cl, A, r1, r2, r⟩ := F; exact ⟨cl, A, r1, r2, fun i hi => by rw [r i hi, q i hi]⟩
theorem Ari.small (F : Ari Z h a ty n f) : n < 2 ^ 31 := by obtain ⟨_, _, _, r, _⟩ := F; exact r
theorem Ari.set {j : Nat} {w : Int32} (F : Ari Z h a ty n f) (W : Wr h h' a j (.int w)) : Ari Z h' a ty n (fun i => if i = j then w else f i) := by
  obtain ⟨cl, A, r1, r2, r⟩ := F
  refine ⟨_, A.same W, by rw [sz_set]; exact r1, r2, fun i hi => ?_⟩
  by_cases u : i = j
  · subst u; simp [Cell.setSlot, r1, hi]
  · have := r i hi; simp only [Cell.setSlot, if_neg u]; rw [Array.getElem?_setIfInBounds_ne (Ne.symm u)]; exact this
theorem Ari.new {k : ClassId} {z : Int32} (A : Arr Z h a (newA k ty z) ty) (q : ¬ z < 0) (hz : z.toNatClampNeg = n) (hd : defaultValue ty = .int 0) : Ari Z h a ty n (fun _ => 0) :=
  ⟨_, A, by rw [sz_new, hz], by have := (back32 q).2; rw [hz] at this; exact this, fun i hi => by simp [newA, hz, hi, hd]⟩
theorem Ari.inb {cl : Cell} {j : Int32} {i : Nat} (hs : cl.slots.size = n) (hj : ¬ j < 0) (hi : j.toNatClampNeg = i) (hn : i < n) : ¬ (j < 0 ∨ cl.slots.size ≤ j.toNatClampNeg) := by
  rintro (q | q)
  · exact hj q
  · rw [hs, hi] at q; omega
theorem own_stB (X : Stand p l e R s m args below meth c T locs cells slots) (hx : p.tables.exec = Jvm.exec) (hZ : Z.Warmed39 s.vm) (eT : T.heap = h) (F : Ari Z h a .byte n f) {j x : Int32} (i : Nat) (hj : ¬ j < 0) (hi : j.toNatClampNeg = i) (hn : i < n) {g : JFrame} (hg : g.method = m) {rest : List Value} (hs : g.stack = .int x :: .int j :: .ref a :: rest) (hd : decode c.code g.pc = .ok (.bastore, 1)) :
    ∃ T' h', Stand p l e R s m args below meth c T' (locs ++ [⟨a, i⟩]) cells slots ∧ T'.heap = h' ∧ Wr h h' a i (.int (nar .byte x)) ∧ Ari Z h' a .byte n (fun k => if k = i then nar .byte x else f k) ∧ ∀ target, Steps p.tables e below (T'.setTop { g with pc := g.pc + 1, stack := rest }) target → Steps p.tables e below (T.setTop g) target := by
  obtain ⟨cl, A, r1, r2, r⟩ := F
  obtain ⟨T', h', X', e', W, st⟩ := stB X hx hZ eT A (j := j) (x := x) (Ari.inb r1 hj hi hn) hg hs hd
  rw [hi] at X' W
  exact ⟨T', h', X', e', W, Ari.set ⟨cl, A, r1, r2, r⟩ W, st⟩
theorem Done.ldB (X : Stand p l e R s m args below meth c T locs cells slots) (hx : p.tables.exec = Jvm.exec) (hZ : Z.Warmed39 s.vm) (eT : T.heap = h) (F : Ari Z h a .byte n f) {j w : Int32} (i : Nat) (hj : ¬ j < 0) (hi : j.toNatClampNeg = i) (hn : i < n) (hw : f i = w) {pc : Nat} {Ls : Array Slot} {rest : List Value} (hd : decode c.code pc = .ok (.baload, 1))
    (k : Done p e s below CC SS Q T (mkF m (pc + 1) Ls (.int w :: rest))) : Done p e s below CC SS Q T (mkF m pc Ls (.int j :: .ref a :: rest)) := by
  obtain ⟨cl, A, r1, r2, r⟩ := F
  refine Done.go (fun t kk => X.baloadBytes hx (j := j) (v := .int w) (by rw [eT]; exact A.1) (State.isArrayOf_alike hZ.alike A.2.1) A.2.2 (Ari.inb r1 hj hi hn) (by rw [hi, ← hw]; exact r i hn) (g := (mkF m pc Ls (.int j :: .ref a :: rest))) rfl rfl hd t kk) k
theorem Done.len (X : Stand p l e R s m args below meth c T locs cells slots) (hx : p.tables.exec = Jvm.exec) (hZ : Z.Warmed39 s.vm) (eT : T.heap = h) (F : Ari Z h a ty n f) {z : Int32} (hz : n.toInt32 = z) {pc : Nat} {Ls : Array Slot} {rest : List Value} (hd : decode c.code pc = .ok (.arraylength, 1))
    (k : Done p e s below CC SS Q T (mkF m (pc + 1) Ls (.int z :: rest))) : Done p e s below CC SS Q T (mkF m pc Ls (.ref a :: rest)) := by
  obtain ⟨cl, A, r1, r2, r⟩ := F
  subst r1 hz
  exact Done.go (fun t kk => X.arraylength hx (by rw [eT]; exact A.1) (State.isArrayOf_alike hZ.alike A.2.1) (g := (mkF m pc Ls (.ref a :: rest))) rfl rfl hd t kk) k
theorem own_nt {a b : Prop} (h : a ↔ b) (q : ¬ a) : ¬ b := fun r => q (h.mpr r)
theorem own_lt32 {x y : Int32} (hx : ¬ x < 0) (hy : ¬ y < 0) : x < y ↔ x.toNatClampNeg < y.toNatClampNeg := by
  have h0 : (0 : Int32).toInt = 0 := rfl
  rw [Int32.lt_iff_toInt_lt, h0] at hx hy
  rw [Int32.lt_iff_toInt_lt]
  simp only [Int32.toNatClampNeg]; omega
theorem own_mask (x m : Int32) (k : Nat) (hk : k ≤ 31) (hm : m.toBitVec.toNat = 2 ^ k - 1) : ¬ (x &&& m) < 0 ∧ (x &&& m).toNatClampNeg < 2 ^ k := by
  have h := c_mask x m k hk hm
  have hp : (0 : Int) < (2 ^ k : Nat) := by exact_mod_cast Nat.two_pow_pos k
  have h1 := Int.emod_nonneg x.toInt (Int.ne_of_gt hp)
  have h2 := Int.emod_lt_of_pos x.toInt hp
  have h0 : (0 : Int32).toInt = 0 := rfl
  rw [Int32.lt_iff_toInt_lt, h0]
  simp only [Int32.toNatClampNeg]
  constructor
  · omega
  · rw [h]; omega
end OwnA
end Jvm.RoadKit
namespace Jvm.Pilot.@@N@@
open Jvm Jvm.ClassFile Sem Op Lib Jvm.Free Jvm.Stand Jvm.LawKit Jvm.RoadKit Bundle Jvm.Pilot.@@N@@.Jvm.D
def own_sh (v : Int64) (k : Nat) : Int64 := Int64.ofBitVec (v.toBitVec >>> (7 * k))
theorem own_sh_zero (v : Int64) : own_sh v 0 = v := by simp [own_sh]
theorem own_sh_succ (v : Int64) (k : Nat) : (((own_sh v k).toUInt64 >>> ((7 : Int32) &&& 0x3f).toInt64.toUInt64).toInt64) = own_sh v (k + 1) := by
  have h : ((7 : Int32) &&& 0x3f).toInt64.toUInt64 = 7 := by decide
  rw [h]
  apply Int64.toBitVec_inj.mp
  simp [own_sh, Nat.mul_add, BitVec.shiftRight_add]
theorem own_pow (k : Nat) : (2 : Nat) ^ (7 * k) = 128 ^ k := by rw [Nat.pow_mul]
theorem own_sh_toInt {v : Int64} (hv : 0 ≤ v.toInt) (k : Nat) : (own_sh v k).toInt = v.toInt / ((128 ^ k : Nat) : Int) := by
  have hb := v.toBitVec.isLt
  have e : v.toInt = (v.toBitVec.toNat : Int) := by
    change 0 ≤ v.toBitVec.toInt at hv
    show v.toBitVec.toInt = _
    rw [BitVec.toInt_eq_toNat_cond] at hv ⊢
    split at hv <;> omega
  have hl : v.toBitVec.toNat < 2 ^ 63 := by
    have := v.toInt_lt; rw [e] at this; omega
  rw [own_sh, Int64.toInt_ofBitVec, BitVec.toInt_eq_toNat_cond, BitVec.toNat_ushiftRight, Nat.shiftRight_eq_div_pow, own_pow]
  have : v.toBitVec.toNat / 128 ^ k ≤ v.toBitVec.toNat := Nat.div_le_self _ _
  rw [if_pos (by omega), e]; rfl
def own_isN (v : Int64) (N : Nat) : Prop := v.toInt < ((128 ^ N : Nat) : Int) ∧ (N = 1 ∨ ((128 ^ (N - 1) : Nat) : Int) ≤ v.toInt)
theorem own_isN_last {v : Int64} (hv : 0 ≤ v.toInt) {k : Nat} (h : (own_sh v k).toInt < 128) (hk : k = 0 ∨ ((128 ^ k : Nat) : Int) ≤ v.toInt) : own_isN v (k + 1) := by
  rw [own_sh_toInt hv] at h
  have hp : (0 : Int) < ((128 ^ k : Nat) : Int) := by exact_mod_cast Nat.pow_pos (by decide)
  have h2 := Int.lt_mul_of_ediv_lt hp h
  refine ⟨?_, ?_⟩
  · rw [Nat.pow_succ, Nat.mul_comm]; push_cast; push_cast at h2; exact h2
  · rcases hk with rfl | hk
    · left; rfl
    · right; exact hk
theorem own_more {v : Int64} (hv : 0 ≤ v.toInt) {k : Nat} (h : ¬ (own_sh v k).toInt < 128) : ((128 ^ (k + 1) : Nat) : Int) ≤ v.toInt := by
  rw [own_sh_toInt hv] at h
  have hp : (0 : Int) < ((128 ^ k : Nat) : Int) := by exact_mod_cast Nat.pow_pos (by decide)
  have h2 := Int.mul_le_of_le_ediv hp (Int.not_lt.mp h)
  rw [Nat.pow_succ, Nat.mul_comm]; push_cast; push_cast at h2; exact h2
theorem own_end {v : Int64} (hv : 0 ≤ v.toInt) {k : Nat} (h : v.toInt < ((128 ^ (k + 1) : Nat) : Int)) : (own_sh v k).toInt < 128 := by
  rcases Decidable.em ((own_sh v k).toInt < 128) with q | q
  · exact q
  · have := own_more hv q; omega
theorem own_uniq {v : Int64} {N M : Nat} (hN : 1 ≤ N) (hM : 1 ≤ M) (h1 : own_isN v N) (h2 : own_isN v M) : N = M := by
  have key : ∀ {N M : Nat}, 1 ≤ N → own_isN v N → own_isN v M → ¬ N < M := by
    intro N M hN h1 h2 hlt
    have p : 128 ^ N ≤ 128 ^ (M - 1) := Nat.pow_le_pow_right (by decide) (by omega)
    rcases h2.2 with r | r
    · omega
    · have := h1.1; omega
  have := key hN h1 h2; have := key hM h2 h1; omega
def own_hi (x : Int64) : Int32 := ((x ||| (128 : Int64)).toInt32).toInt8.toInt32
def own_lo (x : Int64) : Int32 := (x.toInt32).toInt8.toInt32
theorem own_b8 : ∀ y : BitVec 8, y ||| 128 = (y &&& 127) ||| 128 := by decide
theorem own_hi_eq (x : Int64) : ((((x &&& (127 : Int64)).toInt32) ||| (128 : Int32)).toInt8.toInt32) = own_hi x := by
  unfold own_hi
  congr 1
  apply Int8.toBitVec_inj.mp
  simp
  exact (own_b8 _).symm
theorem own_lo_eq {x : Int64} (h0 : 0 ≤ x.toInt) (h : x.toInt < 128) : (((x &&& (127 : Int64)).toInt32).toInt8.toInt32) = own_lo x := by
  unfold own_lo
  have e : x &&& 127 = x := by
    apply Int64.toBitVec_inj.mp
    apply BitVec.eq_of_toNat_eq
    change 0 ≤ x.toBitVec.toInt at h0
    change x.toBitVec.toInt < 128 at h
    have hb := x.toBitVec.isLt
    have : x.toBitVec.toNat < 2 ^ 7 := by
      rw [BitVec.toInt_eq_toNat_cond] at h0 h
      split at h0 <;> omega
    rw [Int64.toBitVec_and, BitVec.toNat_and]
    show x.toBitVec.toNat &&& (2 ^ 7 - 1) = _
    rw [Nat.and_two_pow_sub_one_eq_mod, Nat.mod_eq_of_lt this]
  rw [e]
theorem own_shk (v : Int64) (k : Nat) (hk : k ≤ 8) : ((v.toUInt64 >>> (((7 : Int32) * (Int32.ofNat k)) &&& 0x3f).toInt64.toUInt64).toInt64) = own_sh v k := by
  have h : ((((7 : Int32) * (Int32.ofNat k)) &&& 0x3f).toInt64.toUInt64) = UInt64.ofNat (7 * k) := by
    match k, hk with
    | 0, _ | 1, _ | 2, _ | 3, _ | 4, _ | 5, _ | 6, _ | 7, _ | 8, _ => decide
  rw [h]
  apply Int64.toBitVec_inj.mp
  have : (7 * k) % 64 = 7 * k := by omega
  simp [own_sh, this]

def own_enc (f : Nat → Int32) (v : Int64) (A k : Nat) : Nat → Int32 := fun i => if A ≤ i ∧ i < A + k then own_hi (own_sh v (i - A)) else f i
def own_fin (f : Nat → Int32) (v : Int64) (A N : Nat) : Nat → Int32 := fun i => if A ≤ i ∧ i < A + N then (if i + 1 = A + N then own_lo (own_sh v (i - A)) else own_hi (own_sh v (i - A))) else f i
theorem own_enc_zero (f : Nat → Int32) (v : Int64) (A : Nat) : own_enc f v A 0 = f := by
  funext i; exact if_neg (by omega)
theorem own_enc_succ (f : Nat → Int32) (v : Int64) (A k i : Nat) : (if i = A + k then own_hi (own_sh v k) else own_enc f v A k i) = own_enc f v A (k + 1) i := by
  unfold own_enc
  by_cases q : i = A + k
  · subst q
    rw [if_pos rfl, if_pos ⟨by omega, by omega⟩, Nat.add_sub_cancel_left]
  · rw [if_neg q]
    by_cases r : A ≤ i ∧ i < A + k
    · rw [if_pos r, if_pos ⟨by omega, by omega⟩]
    · rw [if_neg r, if_neg (by omega)]
theorem own_enc_fin (f : Nat → Int32) (v : Int64) (A k i : Nat) : (if i = A + k then own_lo (own_sh v k) else own_enc f v A k i) = own_fin f v A (k + 1) i := by
  unfold own_enc own_fin
  by_cases q : i = A + k
  · subst q
    rw [if_pos rfl, if_pos ⟨by omega, by omega⟩, if_pos (by omega), Nat.add_sub_cancel_left]
  · rw [if_neg q]
    by_cases r : A ≤ i ∧ i < A + k
    · rw [if_pos r, if_pos ⟨by omega, by omega⟩, if_neg (by omega)]
    · rw [if_neg r, if_neg (by omega)]
theorem own_ix {j : Int32} {i : Nat} (h : j.toInt = (i : Int)) : ¬ j < 0 ∧ j.toNatClampNeg = i := by
  rw [Int32.lt_iff_toInt_lt]
  have h0 : (0 : Int32).toInt = 0 := rfl
  simp only [Int32.toNatClampNeg]
  constructor <;> omega
theorem own_inc {j : Int32} {i : Nat} (h : j.toInt = (i : Int)) (hi : i < 1000000) : (j + 1).toInt = ((i + 1 : Nat) : Int) := by
  have a := c_iadd j 1
  have r := rng32 (j + 1)
  have e : (1 : Int32).toInt = 1 := rfl
  rw [e] at a; omega
theorem own_cmpL (x y : Int64) : lcmpW x y < 0 ↔ x.toInt < y.toInt := by rw [lw_lt, Int64.lt_iff_toInt_lt]
theorem own_vv (r : Int64) (s : Int32) : 0 ≤ (((r &&& (9223372036854775807 : Int64)).toUInt64 >>> (s &&& 0x3f).toInt64.toUInt64).toInt64).toInt := by
  have h1 : 0 ≤ (r &&& (9223372036854775807 : Int64)).toInt := (c_andSL r 9223372036854775807).2.2 (by decide)
  generalize r &&& (9223372036854775807 : Int64) = x at h1
  generalize (s &&& 0x3f).toInt64.toUInt64 = y
  have hb := x.toBitVec.isLt
  change 0 ≤ x.toBitVec.toInt at h1
  show 0 ≤ (x.toBitVec >>> (y.toBitVec % 64)).toInt
  rw [BitVec.toInt_eq_toNat_cond] at h1 ⊢
  have h2 : x.toBitVec.toNat < 2 ^ 63 := by split at h1 <;> omega
  have h3 : (x.toBitVec >>> (y.toBitVec % 64)).toNat ≤ x.toBitVec.toNat := by
    rw [BitVec.ushiftRight_eq', BitVec.toNat_ushiftRight, Nat.shiftRight_eq_div_pow]; exact Nat.div_le_self _ _
  rw [if_pos (by omega)]; omega
theorem own_lt63 (v : Int64) : v.toInt < ((128 ^ 9 : Nat) : Int) := by
  rw [show ((128 ^ 9 : Nat) : Int) = 2 ^ 63 from by decide]; exact v.toInt_lt
theorem own_sub {x y : Int32} {a b : Nat} (hx : x.toInt = (a : Int)) (hy : y.toInt = (b : Int)) : (x - y).toInt = (a : Int) - (b : Int) := by
  have q := c_isub x y
  have r := rng32 (x - y)
  have r1 := rng32 x
  have r2 := rng32 y
  omega
theorem own_add {x y : Int32} {a b : Nat} (hx : x.toInt = (a : Int)) (hy : y.toInt = (b : Int)) (hs : a + b < 1000000) : (x + y).toInt = ((a + b : Nat) : Int) := by
  have q := c_iadd x y
  have r := rng32 (x + y)
  omega
theorem own_ofNat {x : Int32} {a : Nat} (hx : x.toInt = (a : Int)) : x = Int32.ofNat a := by
  apply Int32.toInt_inj.mp
  have r := rng32 x
  rw [hx]; exact (Int32.toInt_ofNat_of_lt (by omega)).symm
theorem own_pd0 : parseMethodDescriptor "(J[BI)I" = some ⟨[.long, (.array .byte), .int], some .int⟩ := by decide +kernel
theorem own_pd1 : parseMethodDescriptor "(J)I" = some ⟨[.long], some .int⟩ := by decide +kernel
theorem own_pd2 : parseMethodDescriptor "([BIJIIB)Z" = some ⟨[(.array .byte), .int, .long, .int, .int, .byte], some .boolean⟩ := by decide +kernel
def QE (Z : State) (v : Int64) (a1 : Addr) (n : Nat) (f : Nat → Int32) (A B : Nat) (h0 : Heap) (n0 : Nat) (r : Option Value) (h : Heap) (L : List Loc) : Prop := ∃ (z : Int32) (N : Nat), r = some (.int z) ∧ z.toInt = ((A + N : Nat) : Int) ∧ 1 ≤ N ∧ N ≤ B ∧ own_isN v N ∧ Fr n0 L ∧ Keep h0 h [a1] ∧ Ari Z h a1 .byte n (own_fin f v A N)
theorem d1_0 : decode prog_97_method_2_code 0 = .ok (.iload_n 3, 1) := by decide +kernel
theorem d1_1 : decode prog_97_method_2_code 1 = .ok (.istore 4, 2) := by decide +kernel
theorem d1_3 : decode prog_97_method_2_code 3 = .ok (.lload_n 0, 1) := by decide +kernel
theorem d1_4 : decode prog_97_method_2_code 4 = .ok (.lstore 5, 2) := by decide +kernel
theorem d1_6 : decode prog_97_method_2_code 6 = .ok (.lload 5, 2) := by decide +kernel
theorem d1_8 : decode prog_97_method_2_code 8 = .ok (.ldc2_w 13, 3) := by decide +kernel
theorem d1_11 : decode prog_97_method_2_code 11 = .ok (.lcmp, 1) := by decide +kernel
theorem d1_12 : decode prog_97_method_2_code 12 = .ok (.ifCond .lt 28, 3) := by decide +kernel
theorem d1_15 : decode prog_97_method_2_code 15 = .ok (.aload_n 2, 1) := by decide +kernel
theorem d1_16 : decode prog_97_method_2_code 16 = .ok (.iload 4, 2) := by decide +kernel
theorem d1_18 : decode prog_97_method_2_code 18 = .ok (.iinc 4 1, 3) := by decide +kernel
theorem d1_21 : decode prog_97_method_2_code 21 = .ok (.lload 5, 2) := by decide +kernel
theorem d1_23 : decode prog_97_method_2_code 23 = .ok (.ldc2_w 13, 3) := by decide +kernel
theorem d1_26 : decode prog_97_method_2_code 26 = .ok (.lor, 1) := by decide +kernel
theorem d1_27 : decode prog_97_method_2_code 27 = .ok (.l2i, 1) := by decide +kernel
theorem d1_28 : decode prog_97_method_2_code 28 = .ok (.i2b, 1) := by decide +kernel
theorem d1_29 : decode prog_97_method_2_code 29 = .ok (.bastore, 1) := by decide +kernel
theorem d1_30 : decode prog_97_method_2_code 30 = .ok (.lload 5, 2) := by decide +kernel
theorem d1_32 : decode prog_97_method_2_code 32 = .ok (.bipush 7, 2) := by decide +kernel
theorem d1_34 : decode prog_97_method_2_code 34 = .ok (.lushr, 1) := by decide +kernel
theorem d1_35 : decode prog_97_method_2_code 35 = .ok (.lstore 5, 2) := by decide +kernel
theorem d1_37 : decode prog_97_method_2_code 37 = .ok (.goto (-31), 3) := by decide +kernel
theorem d1_40 : decode prog_97_method_2_code 40 = .ok (.aload_n 2, 1) := by decide +kernel
theorem d1_41 : decode prog_97_method_2_code 41 = .ok (.iload 4, 2) := by decide +kernel
theorem d1_43 : decode prog_97_method_2_code 43 = .ok (.iinc 4 1, 3) := by decide +kernel
theorem d1_46 : decode prog_97_method_2_code 46 = .ok (.lload 5, 2) := by decide +kernel
theorem d1_48 : decode prog_97_method_2_code 48 = .ok (.l2i, 1) := by decide +kernel
theorem d1_49 : decode prog_97_method_2_code 49 = .ok (.i2b, 1) := by decide +kernel
theorem d1_50 : decode prog_97_method_2_code 50 = .ok (.bastore, 1) := by decide +kernel
theorem d1_51 : decode prog_97_method_2_code 51 = .ok (.iload 4, 2) := by decide +kernel
theorem d1_53 : decode prog_97_method_2_code 53 = .ok (.ireturn, 1) := by decide +kernel
theorem own_pn0 : plainName "com/example/pivotwise/pivotwise/index/ByteEncoder" = true := by first | (simp [plainName, overriddenIn]; done) | decide +kernel
theorem ef_rmE (m : MethodId) (v : Int64) (a1 : Addr) (pa : Int32) : entryFrame m #[(.long v), (.ref a1), (.int pa)] 7 = mkF m 0 #[.val (.long v), .second, .val (.ref a1), .val (.int pa), .unset, .unset, .unset] [] := by first | (simp [entryFrame, mkF, argsToLocals, Value.category]; done) | rfl
set_option maxRecDepth 65536 in
set_option maxHeartbeats 40000000 in
theorem rmE (l : Launch) (Z : State) (a0 : Array Value) (hw : ∀ d ∈ tables_1, d.before a0 Z = true) (ws : List Jvm.Cond) (v : Int64) (a1 : Addr) (pa : Int32) (n : Nat) (f : Nat → Int32) (A : Nat) (B : Nat) (h0 : Heap) (n0 : Nat) (Z0 : n0 ≤ h0.size) (V0 : Ari Z h0 a1 .byte n f) (g1 : n0 ≤ a1) (hA : pa.toInt = (A : Int)) (hv : 0 ≤ v.toInt) (hB : v.toInt < ((128 ^ B : Nat) : Int)) (hn : A + B ≤ n) (hn2 : n < 1000) (hB1 : 1 ≤ B) :
    MetFree l (⟨"com/example/pivotwise/pivotwise/index/ByteEncoder", "encode", "(J[BI)I"⟩ : MethodName) (head1 (Jvm.Cond.code (⟨"com/example/pivotwise/pivotwise/index/ByteEncoder", "encode", "(J[BI)I"⟩ : MethodName) prog_97_method_2_code 7 (some .int) :: ws) ({ frames := 0, cells := 0, slots := 0, locals := 0 } : Room)) (fun a U => a = #[(.long v), (.ref a1), (.int pa)] ∧ Z.Warmed39 U.vm ∧ U.heap = h0) (fun _ _ _ _ _ => True) (fun _ U o U' => ∃ vr Lr, o = .returned vr ∧ QE Z v a1 n f A B h0 n0 vr U'.heap Lr ∧ FrameEnd U o U' Lr 0 0) := by
  refine MetFree.of_bodySF (plainFor_of_name own_pn0) hisR ?_
  intro p e s m args below meth c s₁ Bd hml0 hP hK
  obtain ⟨rfl, hZ, hh⟩ := hP
  have hx := Bd.exec
  have hby := Bd.bytes
  have hml : c.maxLocals = 7 := hml0
  have hown : s.vm.findClass "com/example/pivotwise/pivotwise/index/ByteEncoder" = some m.cls := findClass_of_methodNamed Bd.named
  have hnm := (name_of_methodNamed Bd.named Bd.method).1
  have hlk : meth.locks = false := Bd.notSynchronized
  have hrt := Bd.returns
  have X0 : Stand p l e ({ frames := 0, cells := 0, slots := 0, locals := 0 } : Room) s m #[(.long v), (.ref a1), (.int pa)] below meth c s₁ [] 0 0 := Stand.of_body Bd
  have e0 : s₁.heap = h0 := by rw [← hh, Bd.state]; rfl
  have N0 := Fr.nil n0
  show Done p e s below 0 0 (QE Z v a1 n f A B h0 n0) s₁ (entryFrame m #[(.long v), (.ref a1), (.int pa)] 7)
  rw [ef_rmE]
  have loop : ∀ (d k : Nat) (T1 : State) (h1 : Heap) (L1 : List Loc) (pos : Int32), d + 1 + k = B → Stand p l e ({ frames := 0, cells := 0, slots := 0, locals := 0 } : Room) s m #[(.long v), (.ref a1), (.int pa)] below meth c T1 L1 0 0 → T1.heap = h1 → Fr n0 L1 → n0 ≤ h1.size → Keep h0 h1 [a1] → Ari Z h1 a1 .byte n (own_enc f v A k) → pos.toInt = ((A + k : Nat) : Int) → (k = 0 ∨ ((128 ^ k : Nat) : Int) ≤ v.toInt) → Done p e s below 0 0 (QE Z v a1 n f A B h0 n0) T1 (mkF m 6 #[.val (.long v), .second, .val (.ref a1), .val (.int pa), .val (.int pos), .val (.long (own_sh v k)), .second] []) := by
    intro d
    induction d with
    | zero =>
      intro k T1 h1 L1 pos hd X1 e1 N1 z1 K1 V1 hpos hk
      obtain ⟨hp0, hpn⟩ := own_ix hpos
      have hlt : (own_sh v k).toInt < 128 ↔ own_sh v k < 128 := by rw [Int64.lt_iff_toInt_lt]; rfl
      have hsm : (own_sh v k).toInt < 128 := own_end hv (by rw [show k + 1 = B from (by omega)]; exact hB)
      show Done p e s below _ _ _ T1 (mkF m 6 #[.val (.long v), .second, .val (.ref a1), .val (.int pa), .val (.int pos), .val (.long (own_sh v k)), .second] [])
      refine Done.go (fun _ kt_ => XS.lload X1.here hx rfl (hb hby d1_6) rfl kt_) ?_
      show Done p e s below _ _ _ T1 (mkF m 8 #[.val (.long v), .second, .val (.ref a1), .val (.int pa), .val (.int pos), .val (.long (own_sh v k)), .second] [(.long (own_sh v k))])
      refine Done.go (fun t_ kt_ => X1.ldc2Long hx hown (mvT hZ (hw _ (List.mem_of_getElem? (i := 6) rfl))) (g := (mkF m 8 #[.val (.long v), .second, .val (.ref a1), .val (.int pa), .val (.int pos), .val (.long (own_sh v k)), .second] [(.long (own_sh v k))])) rfl (hb hby d1_8) t_ kt_) ?_
      show Done p e s below _ _ _ T1 (mkF m 11 #[.val (.long v), .second, .val (.ref a1), .val (.int pa), .val (.int pos), .val (.long (own_sh v k)), .second] [(.long (128 : Int64)), (.long (own_sh v k))])
      refine Done.go (fun _ kt_ => XS.lcmp X1.here hx rfl (hb hby d1_11) rfl kt_) ?_
      show Done p e s below _ _ _ T1 (mkF m 12 #[.val (.long v), .second, .val (.ref a1), .val (.int pa), .val (.int pos), .val (.long (own_sh v k)), .second] [(.int (lcmpW (own_sh v k) (128 : Int64)))])
      refine Done.go (fun _ kt_ => XS.ifYes X1.here hx rfl (pc0 := 12) (pc' := 40) rfl (hb hby d1_12) rfl ((if0 _ _).trans (tlt ((lw_lt _ _).mpr (hlt.mp hsm))).1) (by decide) (by decide) kt_) ?_
      show Done p e s below _ _ _ T1 (mkF m 40 #[.val (.long v), .second, .val (.ref a1), .val (.int pa), .val (.int pos), .val (.long (own_sh v k)), .second] [])
      refine Done.go (fun _ kt_ => XS.aloadN X1.here hx rfl (hb hby d1_40) rfl rfl kt_) ?_
      show Done p e s below _ _ _ T1 (mkF m 41 #[.val (.long v), .second, .val (.ref a1), .val (.int pa), .val (.int pos), .val (.long (own_sh v k)), .second] [(.ref a1)])
      refine Done.go (fun _ kt_ => XS.iload X1.here hx rfl (hb hby d1_41) rfl kt_) ?_
      show Done p e s below _ _ _ T1 (mkF m 43 #[.val (.long v), .second, .val (.ref a1), .val (.int pa), .val (.int pos), .val (.long (own_sh v k)), .second] [(.int pos), (.ref a1)])
      refine Done.go (fun _ kt_ => XS.iinc X1.here hx rfl (hb hby d1_43) rfl (l' := #[.val (.long v), .second, .val (.ref a1), .val (.int pa), .val (.int (pos + (1 : Int32))), .val (.long (own_sh v k)), .second]) rfl kt_) ?_
      show Done p e s below _ _ _ T1 (mkF m 46 #[.val (.long v), .second, .val (.ref a1), .val (.int pa), .val (.int (pos + (1 : Int32))), .val (.long (own_sh v k)), .second] [(.int pos), (.ref a1)])
      refine Done.go (fun _ kt_ => XS.lload X1.here hx rfl (hb hby d1_46) rfl kt_) ?_
      show Done p e s below _ _ _ T1 (mkF m 48 #[.val (.long v), .second, .val (.ref a1), .val (.int pa), .val (.int (pos + (1 : Int32))), .val (.long (own_sh v k)), .second] [(.long (own_sh v k)), (.int pos), (.ref a1)])
      refine Done.go (fun _ kt_ => XS.l2i X1.here hx rfl (hb hby d1_48) rfl kt_) ?_
      show Done p e s below _ _ _ T1 (mkF m 49 #[.val (.long v), .second, .val (.ref a1), .val (.int pa), .val (.int (pos + (1 : Int32))), .val (.long (own_sh v k)), .second] [(.int ((own_sh v k).toInt32)), (.int pos), (.ref a1)])
      refine Done.go (fun _ kt_ => XS.i2b X1.here hx rfl (hb hby d1_49) rfl kt_) ?_
      show Done p e s below _ _ _ T1 (mkF m 50 #[.val (.long v), .second, .val (.ref a1), .val (.int pa), .val (.int (pos + (1 : Int32))), .val (.long (own_sh v k)), .second] [(.int (((own_sh v k).toInt32).toInt8.toInt32)), (.int pos), (.ref a1)])
      obtain ⟨T1, h1, X1, e1, W1, V1, st1⟩ := own_stB X1 hx hZ e1 V1 (j := pos) (A + k) hp0 hpn (by omega) (g := (mkF m 50 #[.val (.long v), .second, .val (.ref a1), .val (.int pa), .val (.int (pos + (1 : Int32))), .val (.long (own_sh v k)), .second] [(.int (((own_sh v k).toInt32).toInt8.toInt32)), (.int pos), (.ref a1)])) rfl rfl (hb hby d1_50)
      have N1 := Fr.snoc X1 N1 g1
      have Z1 : n0 ≤ h1.size := by rw [W1.size]; exact z1
      have K1 : Keep h0 h1 [a1] := K1.wr W1 (Or.inl (List.mem_of_getElem? (i := 0) rfl))
      obtain ⟨Lh1, X1h, N1h⟩ : ∃ L, Stand p l e ({ frames := 0, cells := 0, slots := 0, locals := 0 } : Room) s m #[(.long v), (.ref a1), (.int pa)] below meth c T1 L 0 0 ∧ Fr n0 L := ⟨_, X1, N1⟩
      clear X1 N1 z1
      refine Done.go st1 ?_
      clear st1
      show Done p e s below _ _ _ T1 (mkF m 51 #[.val (.long v), .second, .val (.ref a1), .val (.int pa), .val (.int (pos + (1 : Int32))), .val (.long (own_sh v k)), .second] [])
      refine Done.go (fun _ kt_ => XS.iload X1h.here hx rfl (hb hby d1_51) rfl kt_) ?_
      show Done p e s below _ _ _ T1 (mkF m 53 #[.val (.long v), .second, .val (.ref a1), .val (.int pa), .val (.int (pos + (1 : Int32))), .val (.long (own_sh v k)), .second] [(.int (pos + (1 : Int32)))])
      refine Done.retI X1h hx hlk hrt (hb hby d1_53) ?_ (by first | decide | omega) (by first | decide | omega)
      rw [e1]
      refine ⟨_, k + 1, rfl, own_inc (i := A + k) hpos (by omega), by omega, by omega, own_isN_last hv (hsm) hk, N1h, K1, ?_⟩
      exact V1.congr (fun i _ => by rw [own_narB]; exact own_enc_fin f v A k i)
    | succ d ih =>
      intro k T1 h1 L1 pos hd X1 e1 N1 z1 K1 V1 hpos hk
      obtain ⟨hp0, hpn⟩ := own_ix hpos
      have hlt : (own_sh v k).toInt < 128 ↔ own_sh v k < 128 := by rw [Int64.lt_iff_toInt_lt]; rfl
      show Done p e s below _ _ _ T1 (mkF m 6 #[.val (.long v), .second, .val (.ref a1), .val (.int pa), .val (.int pos), .val (.long (own_sh v k)), .second] [])
      refine Done.go (fun _ kt_ => XS.lload X1.here hx rfl (hb hby d1_6) rfl kt_) ?_
      show Done p e s below _ _ _ T1 (mkF m 8 #[.val (.long v), .second, .val (.ref a1), .val (.int pa), .val (.int pos), .val (.long (own_sh v k)), .second] [(.long (own_sh v k))])
      refine Done.go (fun t_ kt_ => X1.ldc2Long hx hown (mvT hZ (hw _ (List.mem_of_getElem? (i := 6) rfl))) (g := (mkF m 8 #[.val (.long v), .second, .val (.ref a1), .val (.int pa), .val (.int pos), .val (.long (own_sh v k)), .second] [(.long (own_sh v k))])) rfl (hb hby d1_8) t_ kt_) ?_
      show Done p e s below _ _ _ T1 (mkF m 11 #[.val (.long v), .second, .val (.ref a1), .val (.int pa), .val (.int pos), .val (.long (own_sh v k)), .second] [(.long (128 : Int64)), (.long (own_sh v k))])
      refine Done.go (fun _ kt_ => XS.lcmp X1.here hx rfl (hb hby d1_11) rfl kt_) ?_
      show Done p e s below _ _ _ T1 (mkF m 12 #[.val (.long v), .second, .val (.ref a1), .val (.int pa), .val (.int pos), .val (.long (own_sh v k)), .second] [(.int (lcmpW (own_sh v k) (128 : Int64)))])
      by_cases hc12 : (lcmpW (own_sh v k) (128 : Int64)) < (0 : Int32)
      · skip
        refine Done.go (fun _ kt_ => XS.ifYes X1.here hx rfl (pc0 := 12) (pc' := 40) rfl (hb hby d1_12) rfl ((if0 _ _).trans (tlt hc12).1) (by decide) (by decide) kt_) ?_
        show Done p e s below _ _ _ T1 (mkF m 40 #[.val (.long v), .second, .val (.ref a1), .val (.int pa), .val (.int pos), .val (.long (own_sh v k)), .second] [])
        refine Done.go (fun _ kt_ => XS.aloadN X1.here hx rfl (hb hby d1_40) rfl rfl kt_) ?_
        show Done p e s below _ _ _ T1 (mkF m 41 #[.val (.long v), .second, .val (.ref a1), .val (.int pa), .val (.int pos), .val (.long (own_sh v k)), .second] [(.ref a1)])
        refine Done.go (fun _ kt_ => XS.iload X1.here hx rfl (hb hby d1_41) rfl kt_) ?_
        show Done p e s below _ _ _ T1 (mkF m 43 #[.val (.long v), .second, .val (.ref a1), .val (.int pa), .val (.int pos), .val (.long (own_sh v k)), .second] [(.int pos), (.ref a1)])
        refine Done.go (fun _ kt_ => XS.iinc X1.here hx rfl (hb hby d1_43) rfl (l' := #[.val (.long v), .second, .val (.ref a1), .val (.int pa), .val (.int (pos + (1 : Int32))), .val (.long (own_sh v k)), .second]) rfl kt_) ?_
        show Done p e s below _ _ _ T1 (mkF m 46 #[.val (.long v), .second, .val (.ref a1), .val (.int pa), .val (.int (pos + (1 : Int32))), .val (.long (own_sh v k)), .second] [(.int pos), (.ref a1)])
        refine Done.go (fun _ kt_ => XS.lload X1.here hx rfl (hb hby d1_46) rfl kt_) ?_
        show Done p e s below _ _ _ T1 (mkF m 48 #[.val (.long v), .second, .val (.ref a1), .val (.int pa), .val (.int (pos + (1 : Int32))), .val (.long (own_sh v k)), .second] [(.long (own_sh v k)), (.int pos), (.ref a1)])
        refine Done.go (fun _ kt_ => XS.l2i X1.here hx rfl (hb hby d1_48) rfl kt_) ?_
        show Done p e s below _ _ _ T1 (mkF m 49 #[.val (.long v), .second, .val (.ref a1), .val (.int pa), .val (.int (pos + (1 : Int32))), .val (.long (own_sh v k)), .second] [(.int ((own_sh v k).toInt32)), (.int pos), (.ref a1)])
        refine Done.go (fun _ kt_ => XS.i2b X1.here hx rfl (hb hby d1_49) rfl kt_) ?_
        show Done p e s below _ _ _ T1 (mkF m 50 #[.val (.long v), .second, .val (.ref a1), .val (.int pa), .val (.int (pos + (1 : Int32))), .val (.long (own_sh v k)), .second] [(.int (((own_sh v k).toInt32).toInt8.toInt32)), (.int pos), (.ref a1)])
        obtain ⟨T2, h2, X2, e2, W2, V2, st2⟩ := own_stB X1 hx hZ e1 V1 (j := pos) (A + k) hp0 hpn (by omega) (g := (mkF m 50 #[.val (.long v), .second, .val (.ref a1), .val (.int pa), .val (.int (pos + (1 : Int32))), .val (.long (own_sh v k)), .second] [(.int (((own_sh v k).toInt32).toInt8.toInt32)), (.int pos), (.ref a1)])) rfl rfl (hb hby d1_50)
        have N2 := Fr.snoc X2 N1 g1
        have Z2 : n0 ≤ h2.size := by rw [W2.size]; exact z1
        have K2 : Keep h0 h2 [a1] := K1.wr W2 (Or.inl (List.mem_of_getElem? (i := 0) rfl))
        obtain ⟨Lh2, X2h, N2h⟩ : ∃ L, Stand p l e ({ frames := 0, cells := 0, slots := 0, locals := 0 } : Room) s m #[(.long v), (.ref a1), (.int pa)] below meth c T2 L 0 0 ∧ Fr n0 L := ⟨_, X2, N2⟩
        clear X2 N2 X1 e1 N1 z1 K1
        refine Done.go st2 ?_
        clear st2
        show Done p e s below _ _ _ T2 (mkF m 51 #[.val (.long v), .second, .val (.ref a1), .val (.int pa), .val (.int (pos + (1 : Int32))), .val (.long (own_sh v k)), .second] [])
        refine Done.go (fun _ kt_ => XS.iload X2h.here hx rfl (hb hby d1_51) rfl kt_) ?_
        show Done p e s below _ _ _ T2 (mkF m 53 #[.val (.long v), .second, .val (.ref a1), .val (.int pa), .val (.int (pos + (1 : Int32))), .val (.long (own_sh v k)), .second] [(.int (pos + (1 : Int32)))])
        refine Done.retI X2h hx hlk hrt (hb hby d1_53) ?_ (by first | decide | omega) (by first | decide | omega)
        rw [e2]
        refine ⟨_, k + 1, rfl, own_inc (i := A + k) hpos (by omega), by omega, by omega, own_isN_last hv (hlt.mpr ((lw_lt _ _).mp hc12)) hk, N2h, K2, ?_⟩
        exact V2.congr (fun i _ => by rw [own_narB]; exact own_enc_fin f v A k i)
      · skip
        refine Done.go (fun _ kt_ => XS.ifNo X1.here hx rfl (hb hby d1_12) rfl ((if0 _ _).trans (flt hc12).1) kt_) ?_
        show Done p e s below _ _ _ T1 (mkF m 15 #[.val (.long v), .second, .val (.ref a1), .val (.int pa), .val (.int pos), .val (.long (own_sh v k)), .second] [])
        refine Done.go (fun _ kt_ => XS.aloadN X1.here hx rfl (hb hby d1_15) rfl rfl kt_) ?_
        show Done p e s below _ _ _ T1 (mkF m 16 #[.val (.long v), .second, .val (.ref a1), .val (.int pa), .val (.int pos), .val (.long (own_sh v k)), .second] [(.ref a1)])
        refine Done.go (fun _ kt_ => XS.iload X1.here hx rfl (hb hby d1_16) rfl kt_) ?_
        show Done p e s below _ _ _ T1 (mkF m 18 #[.val (.long v), .second, .val (.ref a1), .val (.int pa), .val (.int pos), .val (.long (own_sh v k)), .second] [(.int pos), (.ref a1)])
        refine Done.go (fun _ kt_ => XS.iinc X1.here hx rfl (hb hby d1_18) rfl (l' := #[.val (.long v), .second, .val (.ref a1), .val (.int pa), .val (.int (pos + (1 : Int32))), .val (.long (own_sh v k)), .second]) rfl kt_) ?_
        show Done p e s below _ _ _ T1 (mkF m 21 #[.val (.long v), .second, .val (.ref a1), .val (.int pa), .val (.int (pos + (1 : Int32))), .val (.long (own_sh v k)), .second] [(.int pos), (.ref a1)])
        refine Done.go (fun _ kt_ => XS.lload X1.here hx rfl (hb hby d1_21) rfl kt_) ?_
        show Done p e s below _ _ _ T1 (mkF m 23 #[.val (.long v), .second, .val (.ref a1), .val (.int pa), .val (.int (pos + (1 : Int32))), .val (.long (own_sh v k)), .second] [(.long (own_sh v k)), (.int pos), (.ref a1)])
        refine Done.go (fun t_ kt_ => X1.ldc2Long hx hown (mvT hZ (hw _ (List.mem_of_getElem? (i := 6) rfl))) (g := (mkF m 23 #[.val (.long v), .second, .val (.ref a1), .val (.int pa), .val (.int (pos + (1 : Int32))), .val (.long (own_sh v k)), .second] [(.long (own_sh v k)), (.int pos), (.ref a1)])) rfl (hb hby d1_23) t_ kt_) ?_
        show Done p e s below _ _ _ T1 (mkF m 26 #[.val (.long v), .second, .val (.ref a1), .val (.int pa), .val (.int (pos + (1 : Int32))), .val (.long (own_sh v k)), .second] [(.long (128 : Int64)), (.long (own_sh v k)), (.int pos), (.ref a1)])
        refine Done.go (fun _ kt_ => XS.lor X1.here hx rfl (hb hby d1_26) rfl kt_) ?_
        show Done p e s below _ _ _ T1 (mkF m 27 #[.val (.long v), .second, .val (.ref a1), .val (.int pa), .val (.int (pos + (1 : Int32))), .val (.long (own_sh v k)), .second] [(.long ((own_sh v k) ||| (128 : Int64))), (.int pos), (.ref a1)])
        refine Done.go (fun _ kt_ => XS.l2i X1.here hx rfl (hb hby d1_27) rfl kt_) ?_
        show Done p e s below _ _ _ T1 (mkF m 28 #[.val (.long v), .second, .val (.ref a1), .val (.int pa), .val (.int (pos + (1 : Int32))), .val (.long (own_sh v k)), .second] [(.int (((own_sh v k) ||| (128 : Int64)).toInt32)), (.int pos), (.ref a1)])
        refine Done.go (fun _ kt_ => XS.i2b X1.here hx rfl (hb hby d1_28) rfl kt_) ?_
        show Done p e s below _ _ _ T1 (mkF m 29 #[.val (.long v), .second, .val (.ref a1), .val (.int pa), .val (.int (pos + (1 : Int32))), .val (.long (own_sh v k)), .second] [(.int ((((own_sh v k) ||| (128 : Int64)).toInt32).toInt8.toInt32)), (.int pos), (.ref a1)])
        obtain ⟨T3, h3, X3, e3, W3, V3, st3⟩ := own_stB X1 hx hZ e1 V1 (j := pos) (A + k) hp0 hpn (by omega) (g := (mkF m 29 #[.val (.long v), .second, .val (.ref a1), .val (.int pa), .val (.int (pos + (1 : Int32))), .val (.long (own_sh v k)), .second] [(.int ((((own_sh v k) ||| (128 : Int64)).toInt32).toInt8.toInt32)), (.int pos), (.ref a1)])) rfl rfl (hb hby d1_29)
        have N3 := Fr.snoc X3 N1 g1
        have Z3 : n0 ≤ h3.size := by rw [W3.size]; exact z1
        have K3 : Keep h0 h3 [a1] := K1.wr W3 (Or.inl (List.mem_of_getElem? (i := 0) rfl))
        obtain ⟨Lh3, X3h, N3h⟩ : ∃ L, Stand p l e ({ frames := 0, cells := 0, slots := 0, locals := 0 } : Room) s m #[(.long v), (.ref a1), (.int pa)] below meth c T3 L 0 0 ∧ Fr n0 L := ⟨_, X3, N3⟩
        clear X3 N3 X1 e1 N1 z1 K1
        refine Done.go st3 ?_
        clear st3
        show Done p e s below _ _ _ T3 (mkF m 30 #[.val (.long v), .second, .val (.ref a1), .val (.int pa), .val (.int (pos + (1 : Int32))), .val (.long (own_sh v k)), .second] [])
        refine Done.go (fun _ kt_ => XS.lload X3h.here hx rfl (hb hby d1_30) rfl kt_) ?_
        show Done p e s below _ _ _ T3 (mkF m 32 #[.val (.long v), .second, .val (.ref a1), .val (.int pa), .val (.int (pos + (1 : Int32))), .val (.long (own_sh v k)), .second] [(.long (own_sh v k))])
        refine Done.go (fun _ kt_ => XS.bipush X3h.here hx rfl (hb hby d1_32) kt_) ?_
        show Done p e s below _ _ _ T3 (mkF m 34 #[.val (.long v), .second, .val (.ref a1), .val (.int pa), .val (.int (pos + (1 : Int32))), .val (.long (own_sh v k)), .second] [(.int (7 : Int32)), (.long (own_sh v k))])
        refine Done.go (fun _ kt_ => XS.lushr X3h.here hx rfl (hb hby d1_34) rfl kt_) ?_
        show Done p e s below _ _ _ T3 (mkF m 35 #[.val (.long v), .second, .val (.ref a1), .val (.int pa), .val (.int (pos + (1 : Int32))), .val (.long (own_sh v k)), .second] [(.long (((own_sh v k).toUInt64 >>> ((7 : Int32) &&& 0x3f).toInt64.toUInt64).toInt64))])
        refine Done.go (fun _ kt_ => XS.lstore X3h.here hx rfl (hb hby d1_35) rfl (l' := #[.val (.long v), .second, .val (.ref a1), .val (.int pa), .val (.int (pos + (1 : Int32))), .val (.long (((own_sh v k).toUInt64 >>> ((7 : Int32) &&& 0x3f).toInt64.toUInt64).toInt64)), .second]) rfl kt_) ?_
        show Done p e s below _ _ _ T3 (mkF m 37 #[.val (.long v), .second, .val (.ref a1), .val (.int pa), .val (.int (pos + (1 : Int32))), .val (.long (((own_sh v k).toUInt64 >>> ((7 : Int32) &&& 0x3f).toInt64.toUInt64).toInt64)), .second] [])
        refine Done.go (fun _ kt_ => XS.goto X3h.here hx rfl (pc0 := 37) (pc' := 6) rfl (hb hby d1_37) (by decide) (by decide) kt_) ?_
        show Done p e s below _ _ _ T3 (mkF m 6 #[.val (.long v), .second, .val (.ref a1), .val (.int pa), .val (.int (pos + (1 : Int32))), .val (.long (((own_sh v k).toUInt64 >>> ((7 : Int32) &&& 0x3f).toInt64.toUInt64).toInt64)), .second] [])
        rw [own_sh_succ]
        refine ih (k + 1) _ _ _ _ (by omega) X3h e3 N3h Z3 K3 (V3.congr (fun i _ => by rw [own_narB]; exact own_enc_succ f v A k i)) (own_inc (i := A + k) hpos (by omega)) (Or.inr (own_more hv (fun q => hc12 ((lw_lt _ _).mpr (hlt.mp q)))))
  show Done p e s below _ _ _ s₁ (mkF m 0 #[.val (.long v), .second, .val (.ref a1), .val (.int pa), .unset, .unset, .unset] [])
  refine Done.go (fun _ kt_ => XS.iloadN X0.here hx rfl (hb hby d1_0) rfl kt_) ?_
  show Done p e s below _ _ _ s₁ (mkF m 1 #[.val (.long v), .second, .val (.ref a1), .val (.int pa), .unset, .unset, .unset] [(.int pa)])
  refine Done.go (fun _ kt_ => XS.istore X0.here hx rfl (hb hby d1_1) rfl (l' := #[.val (.long v), .second, .val (.ref a1), .val (.int pa), .val (.int pa), .unset, .unset]) rfl kt_) ?_
  show Done p e s below _ _ _ s₁ (mkF m 3 #[.val (.long v), .second, .val (.ref a1), .val (.int pa), .val (.int pa), .unset, .unset] [])
  refine Done.go (fun _ kt_ => XS.lloadN X0.here hx rfl (hb hby d1_3) rfl kt_) ?_
  show Done p e s below _ _ _ s₁ (mkF m 4 #[.val (.long v), .second, .val (.ref a1), .val (.int pa), .val (.int pa), .unset, .unset] [(.long v)])
  refine Done.go (fun _ kt_ => XS.lstore X0.here hx rfl (hb hby d1_4) rfl (l' := #[.val (.long v), .second, .val (.ref a1), .val (.int pa), .val (.int pa), .val (.long v), .second]) rfl kt_) ?_
  show Done p e s below _ _ _ s₁ (mkF m 6 #[.val (.long v), .second, .val (.ref a1), .val (.int pa), .val (.int pa), .val (.long v), .second] [])
  have e1 := own_sh_zero v
  have q := loop (B - 1) 0 _ _ _ pa (by omega) X0 e0 N0 Z0 (Keep.refl _ _) (by rw [own_enc_zero]; exact V0) (by rw [hA]; rfl) (Or.inl rfl)
  rw [own_sh_zero] at q
  exact q
def Q2 (v : Int64) (h0 : Heap) (n0 : Nat) (r : Option Value) (h : Heap) (L : List Loc) : Prop := ∃ (z : Int32) (N : Nat), r = some (.int z) ∧ z.toInt = (N : Int) ∧ 1 ≤ N ∧ N ≤ 9 ∧ own_isN v N ∧ Fr n0 L ∧ h = h0
theorem d2_0 : decode method_3_code 0 = .ok (.lload_n 0, 1) := by decide +kernel
theorem d2_1 : decode method_3_code 1 = .ok (.ldc2_w 27, 3) := by decide +kernel
theorem d2_4 : decode method_3_code 4 = .ok (.lcmp, 1) := by decide +kernel
theorem d2_5 : decode method_3_code 5 = .ok (.ifCond .ge 5, 3) := by decide +kernel
theorem d2_8 : decode method_3_code 8 = .ok (.iconst 1, 1) := by decide +kernel
theorem d2_9 : decode method_3_code 9 = .ok (.ireturn, 1) := by decide +kernel
theorem d2_10 : decode method_3_code 10 = .ok (.lload_n 0, 1) := by decide +kernel
theorem d2_11 : decode method_3_code 11 = .ok (.ldc2_w 29, 3) := by decide +kernel
theorem d2_14 : decode method_3_code 14 = .ok (.lcmp, 1) := by decide +kernel
theorem d2_15 : decode method_3_code 15 = .ok (.ifCond .ge 5, 3) := by decide +kernel
theorem d2_18 : decode method_3_code 18 = .ok (.iconst 2, 1) := by decide +kernel
theorem d2_19 : decode method_3_code 19 = .ok (.ireturn, 1) := by decide +kernel
theorem d2_20 : decode method_3_code 20 = .ok (.lload_n 0, 1) := by decide +kernel
theorem d2_21 : decode method_3_code 21 = .ok (.ldc2_w 31, 3) := by decide +kernel
theorem d2_24 : decode method_3_code 24 = .ok (.lcmp, 1) := by decide +kernel
theorem d2_25 : decode method_3_code 25 = .ok (.ifCond .ge 5, 3) := by decide +kernel
theorem d2_28 : decode method_3_code 28 = .ok (.iconst 3, 1) := by decide +kernel
theorem d2_29 : decode method_3_code 29 = .ok (.ireturn, 1) := by decide +kernel
theorem d2_30 : decode method_3_code 30 = .ok (.lload_n 0, 1) := by decide +kernel
theorem d2_31 : decode method_3_code 31 = .ok (.ldc2_w 33, 3) := by decide +kernel
theorem d2_34 : decode method_3_code 34 = .ok (.lcmp, 1) := by decide +kernel
theorem d2_35 : decode method_3_code 35 = .ok (.ifCond .ge 5, 3) := by decide +kernel
theorem d2_38 : decode method_3_code 38 = .ok (.iconst 4, 1) := by decide +kernel
theorem d2_39 : decode method_3_code 39 = .ok (.ireturn, 1) := by decide +kernel
theorem d2_40 : decode method_3_code 40 = .ok (.lload_n 0, 1) := by decide +kernel
theorem d2_41 : decode method_3_code 41 = .ok (.ldc2_w 35, 3) := by decide +kernel
theorem d2_44 : decode method_3_code 44 = .ok (.lcmp, 1) := by decide +kernel
theorem d2_45 : decode method_3_code 45 = .ok (.ifCond .ge 5, 3) := by decide +kernel
theorem d2_48 : decode method_3_code 48 = .ok (.iconst 5, 1) := by decide +kernel
theorem d2_49 : decode method_3_code 49 = .ok (.ireturn, 1) := by decide +kernel
theorem d2_50 : decode method_3_code 50 = .ok (.lload_n 0, 1) := by decide +kernel
theorem d2_51 : decode method_3_code 51 = .ok (.ldc2_w 37, 3) := by decide +kernel
theorem d2_54 : decode method_3_code 54 = .ok (.lcmp, 1) := by decide +kernel
theorem d2_55 : decode method_3_code 55 = .ok (.ifCond .ge 6, 3) := by decide +kernel
theorem d2_58 : decode method_3_code 58 = .ok (.bipush 6, 2) := by decide +kernel
theorem d2_60 : decode method_3_code 60 = .ok (.ireturn, 1) := by decide +kernel
theorem d2_61 : decode method_3_code 61 = .ok (.lload_n 0, 1) := by decide +kernel
theorem d2_62 : decode method_3_code 62 = .ok (.ldc2_w 39, 3) := by decide +kernel
theorem d2_65 : decode method_3_code 65 = .ok (.lcmp, 1) := by decide +kernel
theorem d2_66 : decode method_3_code 66 = .ok (.ifCond .ge 6, 3) := by decide +kernel
theorem d2_69 : decode method_3_code 69 = .ok (.bipush 7, 2) := by decide +kernel
theorem d2_71 : decode method_3_code 71 = .ok (.ireturn, 1) := by decide +kernel
theorem d2_72 : decode method_3_code 72 = .ok (.lload_n 0, 1) := by decide +kernel
theorem d2_73 : decode method_3_code 73 = .ok (.ldc2_w 41, 3) := by decide +kernel
theorem d2_76 : decode method_3_code 76 = .ok (.lcmp, 1) := by decide +kernel
theorem d2_77 : decode method_3_code 77 = .ok (.ifCond .ge 6, 3) := by decide +kernel
theorem d2_80 : decode method_3_code 80 = .ok (.bipush 8, 2) := by decide +kernel
theorem d2_82 : decode method_3_code 82 = .ok (.ireturn, 1) := by decide +kernel
theorem d2_83 : decode method_3_code 83 = .ok (.bipush 9, 2) := by decide +kernel
theorem d2_85 : decode method_3_code 85 = .ok (.ireturn, 1) := by decide +kernel
theorem own_pn1 : plainName "com/example/pivotwise/pivotwise/index/ByteEncoderEncodePinLaw" = true := by first | (simp [plainName, overriddenIn]; done) | decide +kernel
theorem ef_rm2 (m : MethodId) (v : Int64) : entryFrame m #[(.long v)] 2 = mkF m 0 #[.val (.long v), .second] [] := by first | (simp [entryFrame, mkF, argsToLocals, Value.category]; done) | rfl
set_option maxRecDepth 65536 in
set_option maxHeartbeats 40000000 in
theorem rm2 (l : Launch) (Z : State) (a0 : Array Value) (hw : ∀ d ∈ tables_1, d.before a0 Z = true) (ws : List Jvm.Cond) (v : Int64) (h0 : Heap) (n0 : Nat) (Z0 : n0 ≤ h0.size) :
    MetFree l (⟨"com/example/pivotwise/pivotwise/index/ByteEncoderEncodePinLaw", "length", "(J)I"⟩ : MethodName) (head1 (Jvm.Cond.code (⟨"com/example/pivotwise/pivotwise/index/ByteEncoderEncodePinLaw", "length", "(J)I"⟩ : MethodName) method_3_code 2 (some .int) :: ws) ({ frames := 0, cells := 0, slots := 0, locals := 0 } : Room)) (fun a U => a = #[(.long v)] ∧ Z.Warmed39 U.vm ∧ U.heap = h0) (fun _ _ _ _ _ => True) (fun _ U o U' => ∃ vr Lr, o = .returned vr ∧ Q2 v h0 n0 vr U'.heap Lr ∧ FrameEnd U o U' Lr 0 0) := by
  refine MetFree.of_bodySF (plainFor_of_name own_pn1) hisR ?_
  intro p e s m args below meth c s₁ Bd hml0 hP hK
  obtain ⟨rfl, hZ, hh⟩ := hP
  have hx := Bd.exec
  have hby := Bd.bytes
  have hml : c.maxLocals = 2 := hml0
  have hown : s.vm.findClass "com/example/pivotwise/pivotwise/index/ByteEncoderEncodePinLaw" = some m.cls := findClass_of_methodNamed Bd.named
  have hnm := (name_of_methodNamed Bd.named Bd.method).1
  have hlk : meth.locks = false := Bd.notSynchronized
  have hrt := Bd.returns
  have X0 : Stand p l e ({ frames := 0, cells := 0, slots := 0, locals := 0 } : Room) s m #[(.long v)] below meth c s₁ [] 0 0 := Stand.of_body Bd
  have e0 : s₁.heap = h0 := by rw [← hh, Bd.state]; rfl
  have N0 := Fr.nil n0
  show Done p e s below 0 0 (Q2 v h0 n0) s₁ (entryFrame m #[(.long v)] 2)
  rw [ef_rm2]
  show Done p e s below _ _ _ s₁ (mkF m 0 #[.val (.long v), .second] [])
  refine Done.go (fun _ kt_ => XS.lloadN X0.here hx rfl (hb hby d2_0) rfl kt_) ?_
  show Done p e s below _ _ _ s₁ (mkF m 1 #[.val (.long v), .second] [(.long v)])
  refine Done.go (fun t_ kt_ => X0.ldc2Long hx hown (mvT hZ (hw _ (List.mem_of_getElem? (i := 11) rfl))) (g := (mkF m 1 #[.val (.long v), .second] [(.long v)])) rfl (hb hby d2_1) t_ kt_) ?_
  show Done p e s below _ _ _ s₁ (mkF m 4 #[.val (.long v), .second] [(.long (128 : Int64)), (.long v)])
  refine Done.go (fun _ kt_ => XS.lcmp X0.here hx rfl (hb hby d2_4) rfl kt_) ?_
  show Done p e s below _ _ _ s₁ (mkF m 5 #[.val (.long v), .second] [(.int (lcmpW v (128 : Int64)))])
  by_cases hc5 : (lcmpW v (128 : Int64)) < (0 : Int32)
  · skip
    refine Done.go (fun _ kt_ => XS.ifNo X0.here hx rfl (hb hby d2_5) rfl ((if0 _ _).trans (tlt hc5).2.1) kt_) ?_
    show Done p e s below _ _ _ s₁ (mkF m 8 #[.val (.long v), .second] [])
    refine Done.go (fun _ kt_ => XS.iconst X0.here hx rfl (hb hby d2_8) kt_) ?_
    show Done p e s below _ _ _ s₁ (mkF m 9 #[.val (.long v), .second] [(.int (1 : Int32))])
    refine Done.retI X0 hx hlk hrt (hb hby d2_9) ?_ (by first | decide | omega) (by first | decide | omega)
    rw [e0]
    refine ⟨_, 1, rfl, by decide, by decide, by decide, ⟨?_, ?_⟩, N0, rfl⟩
    · exact by have q := (own_cmpL _ _).mp hc5; rw [show (128 : Int64).toInt = 128 from (by decide)] at q; exact q
    · exact Or.inl rfl
  · skip
    refine Done.go (fun _ kt_ => XS.ifYes X0.here hx rfl (pc0 := 5) (pc' := 10) rfl (hb hby d2_5) rfl ((if0 _ _).trans (flt hc5).2.1) (by decide) (by decide) kt_) ?_
    show Done p e s below _ _ _ s₁ (mkF m 10 #[.val (.long v), .second] [])
    refine Done.go (fun _ kt_ => XS.lloadN X0.here hx rfl (hb hby d2_10) rfl kt_) ?_
    show Done p e s below _ _ _ s₁ (mkF m 11 #[.val (.long v), .second] [(.long v)])
    refine Done.go (fun t_ kt_ => X0.ldc2Long hx hown (mvT hZ (hw _ (List.mem_of_getElem? (i := 16) rfl))) (g := (mkF m 11 #[.val (.long v), .second] [(.long v)])) rfl (hb hby d2_11) t_ kt_) ?_
    show Done p e s below _ _ _ s₁ (mkF m 14 #[.val (.long v), .second] [(.long (16384 : Int64)), (.long v)])
    refine Done.go (fun _ kt_ => XS.lcmp X0.here hx rfl (hb hby d2_14) rfl kt_) ?_
    show Done p e s below _ _ _ s₁ (mkF m 15 #[.val (.long v), .second] [(.int (lcmpW v (16384 : Int64)))])
    by_cases hc15 : (lcmpW v (16384 : Int64)) < (0 : Int32)
    · skip
      refine Done.go (fun _ kt_ => XS.ifNo X0.here hx rfl (hb hby d2_15) rfl ((if0 _ _).trans (tlt hc15).2.1) kt_) ?_
      show Done p e s below _ _ _ s₁ (mkF m 18 #[.val (.long v), .second] [])
      refine Done.go (fun _ kt_ => XS.iconst X0.here hx rfl (hb hby d2_18) kt_) ?_
      show Done p e s below _ _ _ s₁ (mkF m 19 #[.val (.long v), .second] [(.int (2 : Int32))])
      refine Done.retI X0 hx hlk hrt (hb hby d2_19) ?_ (by first | decide | omega) (by first | decide | omega)
      rw [e0]
      refine ⟨_, 2, rfl, by decide, by decide, by decide, ⟨?_, ?_⟩, N0, rfl⟩
      · exact by have q := (own_cmpL _ _).mp hc15; rw [show (16384 : Int64).toInt = 16384 from (by decide)] at q; exact q
      · exact Or.inr (by have q := own_nt (own_cmpL _ _) hc5; rw [show (128 : Int64).toInt = 128 from (by decide)] at q; exact Int.not_lt.mp q)
    · skip
      refine Done.go (fun _ kt_ => XS.ifYes X0.here hx rfl (pc0 := 15) (pc' := 20) rfl (hb hby d2_15) rfl ((if0 _ _).trans (flt hc15).2.1) (by decide) (by decide) kt_) ?_
      show Done p e s below _ _ _ s₁ (mkF m 20 #[.val (.long v), .second] [])
      refine Done.go (fun _ kt_ => XS.lloadN X0.here hx rfl (hb hby d2_20) rfl kt_) ?_
      show Done p e s below _ _ _ s₁ (mkF m 21 #[.val (.long v), .second] [(.long v)])
      refine Done.go (fun t_ kt_ => X0.ldc2Long hx hown (mvT hZ (hw _ (List.mem_of_getElem? (i := 17) rfl))) (g := (mkF m 21 #[.val (.long v), .second] [(.long v)])) rfl (hb hby d2_21) t_ kt_) ?_
      show Done p e s below _ _ _ s₁ (mkF m 24 #[.val (.long v), .second] [(.long (2097152 : Int64)), (.long v)])
      refine Done.go (fun _ kt_ => XS.lcmp X0.here hx rfl (hb hby d2_24) rfl kt_) ?_
      show Done p e s below _ _ _ s₁ (mkF m 25 #[.val (.long v), .second] [(.int (lcmpW v (2097152 : Int64)))])
      by_cases hc25 : (lcmpW v (2097152 : Int64)) < (0 : Int32)
      · skip
        refine Done.go (fun _ kt_ => XS.ifNo X0.here hx rfl (hb hby d2_25) rfl ((if0 _ _).trans (tlt hc25).2.1) kt_) ?_
        show Done p e s below _ _ _ s₁ (mkF m 28 #[.val (.long v), .second] [])
        refine Done.go (fun _ kt_ => XS.iconst X0.here hx rfl (hb hby d2_28) kt_) ?_
        show Done p e s below _ _ _ s₁ (mkF m 29 #[.val (.long v), .second] [(.int (3 : Int32))])
        refine Done.retI X0 hx hlk hrt (hb hby d2_29) ?_ (by first | decide | omega) (by first | decide | omega)
        rw [e0]
        refine ⟨_, 3, rfl, by decide, by decide, by decide, ⟨?_, ?_⟩, N0, rfl⟩
        · exact by have q := (own_cmpL _ _).mp hc25; rw [show (2097152 : Int64).toInt = 2097152 from (by decide)] at q; exact q
        · exact Or.inr (by have q := own_nt (own_cmpL _ _) hc15; rw [show (16384 : Int64).toInt = 16384 from (by decide)] at q; exact Int.not_lt.mp q)
      · skip
        refine Done.go (fun _ kt_ => XS.ifYes X0.here hx rfl (pc0 := 25) (pc' := 30) rfl (hb hby d2_25) rfl ((if0 _ _).trans (flt hc25).2.1) (by decide) (by decide) kt_) ?_
        show Done p e s below _ _ _ s₁ (mkF m 30 #[.val (.long v), .second] [])
        refine Done.go (fun _ kt_ => XS.lloadN X0.here hx rfl (hb hby d2_30) rfl kt_) ?_
        show Done p e s below _ _ _ s₁ (mkF m 31 #[.val (.long v), .second] [(.long v)])
        refine Done.go (fun t_ kt_ => X0.ldc2Long hx hown (mvT hZ (hw _ (List.mem_of_getElem? (i := 18) rfl))) (g := (mkF m 31 #[.val (.long v), .second] [(.long v)])) rfl (hb hby d2_31) t_ kt_) ?_
        show Done p e s below _ _ _ s₁ (mkF m 34 #[.val (.long v), .second] [(.long (268435456 : Int64)), (.long v)])
        refine Done.go (fun _ kt_ => XS.lcmp X0.here hx rfl (hb hby d2_34) rfl kt_) ?_
        show Done p e s below _ _ _ s₁ (mkF m 35 #[.val (.long v), .second] [(.int (lcmpW v (268435456 : Int64)))])
        by_cases hc35 : (lcmpW v (268435456 : Int64)) < (0 : Int32)
        · skip
          refine Done.go (fun _ kt_ => XS.ifNo X0.here hx rfl (hb hby d2_35) rfl ((if0 _ _).trans (tlt hc35).2.1) kt_) ?_
          show Done p e s below _ _ _ s₁ (mkF m 38 #[.val (.long v), .second] [])
          refine Done.go (fun _ kt_ => XS.iconst X0.here hx rfl (hb hby d2_38) kt_) ?_
          show Done p e s below _ _ _ s₁ (mkF m 39 #[.val (.long v), .second] [(.int (4 : Int32))])
          refine Done.retI X0 hx hlk hrt (hb hby d2_39) ?_ (by first | decide | omega) (by first | decide | omega)
          rw [e0]
          refine ⟨_, 4, rfl, by decide, by decide, by decide, ⟨?_, ?_⟩, N0, rfl⟩
          · exact by have q := (own_cmpL _ _).mp hc35; rw [show (268435456 : Int64).toInt = 268435456 from (by decide)] at q; exact q
          · exact Or.inr (by have q := own_nt (own_cmpL _ _) hc25; rw [show (2097152 : Int64).toInt = 2097152 from (by decide)] at q; exact Int.not_lt.mp q)
        · skip
          refine Done.go (fun _ kt_ => XS.ifYes X0.here hx rfl (pc0 := 35) (pc' := 40) rfl (hb hby d2_35) rfl ((if0 _ _).trans (flt hc35).2.1) (by decide) (by decide) kt_) ?_
          show Done p e s below _ _ _ s₁ (mkF m 40 #[.val (.long v), .second] [])
          refine Done.go (fun _ kt_ => XS.lloadN X0.here hx rfl (hb hby d2_40) rfl kt_) ?_
          show Done p e s below _ _ _ s₁ (mkF m 41 #[.val (.long v), .second] [(.long v)])
          refine Done.go (fun t_ kt_ => X0.ldc2Long hx hown (mvT hZ (hw _ (List.mem_of_getElem? (i := 19) rfl))) (g := (mkF m 41 #[.val (.long v), .second] [(.long v)])) rfl (hb hby d2_41) t_ kt_) ?_
          show Done p e s below _ _ _ s₁ (mkF m 44 #[.val (.long v), .second] [(.long (34359738368 : Int64)), (.long v)])
          refine Done.go (fun _ kt_ => XS.lcmp X0.here hx rfl (hb hby d2_44) rfl kt_) ?_
          show Done p e s below _ _ _ s₁ (mkF m 45 #[.val (.long v), .second] [(.int (lcmpW v (34359738368 : Int64)))])
          by_cases hc45 : (lcmpW v (34359738368 : Int64)) < (0 : Int32)
          · skip
            refine Done.go (fun _ kt_ => XS.ifNo X0.here hx rfl (hb hby d2_45) rfl ((if0 _ _).trans (tlt hc45).2.1) kt_) ?_
            show Done p e s below _ _ _ s₁ (mkF m 48 #[.val (.long v), .second] [])
            refine Done.go (fun _ kt_ => XS.iconst X0.here hx rfl (hb hby d2_48) kt_) ?_
            show Done p e s below _ _ _ s₁ (mkF m 49 #[.val (.long v), .second] [(.int (5 : Int32))])
            refine Done.retI X0 hx hlk hrt (hb hby d2_49) ?_ (by first | decide | omega) (by first | decide | omega)
            rw [e0]
            refine ⟨_, 5, rfl, by decide, by decide, by decide, ⟨?_, ?_⟩, N0, rfl⟩
            · exact by have q := (own_cmpL _ _).mp hc45; rw [show (34359738368 : Int64).toInt = 34359738368 from (by decide)] at q; exact q
            · exact Or.inr (by have q := own_nt (own_cmpL _ _) hc35; rw [show (268435456 : Int64).toInt = 268435456 from (by decide)] at q; exact Int.not_lt.mp q)
          · skip
            refine Done.go (fun _ kt_ => XS.ifYes X0.here hx rfl (pc0 := 45) (pc' := 50) rfl (hb hby d2_45) rfl ((if0 _ _).trans (flt hc45).2.1) (by decide) (by decide) kt_) ?_
            show Done p e s below _ _ _ s₁ (mkF m 50 #[.val (.long v), .second] [])
            refine Done.go (fun _ kt_ => XS.lloadN X0.here hx rfl (hb hby d2_50) rfl kt_) ?_
            show Done p e s below _ _ _ s₁ (mkF m 51 #[.val (.long v), .second] [(.long v)])
            refine Done.go (fun t_ kt_ => X0.ldc2Long hx hown (mvT hZ (hw _ (List.mem_of_getElem? (i := 20) rfl))) (g := (mkF m 51 #[.val (.long v), .second] [(.long v)])) rfl (hb hby d2_51) t_ kt_) ?_
            show Done p e s below _ _ _ s₁ (mkF m 54 #[.val (.long v), .second] [(.long (4398046511104 : Int64)), (.long v)])
            refine Done.go (fun _ kt_ => XS.lcmp X0.here hx rfl (hb hby d2_54) rfl kt_) ?_
            show Done p e s below _ _ _ s₁ (mkF m 55 #[.val (.long v), .second] [(.int (lcmpW v (4398046511104 : Int64)))])
            by_cases hc55 : (lcmpW v (4398046511104 : Int64)) < (0 : Int32)
            · skip
              refine Done.go (fun _ kt_ => XS.ifNo X0.here hx rfl (hb hby d2_55) rfl ((if0 _ _).trans (tlt hc55).2.1) kt_) ?_
              show Done p e s below _ _ _ s₁ (mkF m 58 #[.val (.long v), .second] [])
              refine Done.go (fun _ kt_ => XS.bipush X0.here hx rfl (hb hby d2_58) kt_) ?_
              show Done p e s below _ _ _ s₁ (mkF m 60 #[.val (.long v), .second] [(.int (6 : Int32))])
              refine Done.retI X0 hx hlk hrt (hb hby d2_60) ?_ (by first | decide | omega) (by first | decide | omega)
              rw [e0]
              refine ⟨_, 6, rfl, by decide, by decide, by decide, ⟨?_, ?_⟩, N0, rfl⟩
              · exact by have q := (own_cmpL _ _).mp hc55; rw [show (4398046511104 : Int64).toInt = 4398046511104 from (by decide)] at q; exact q
              · exact Or.inr (by have q := own_nt (own_cmpL _ _) hc45; rw [show (34359738368 : Int64).toInt = 34359738368 from (by decide)] at q; exact Int.not_lt.mp q)
            · skip
              refine Done.go (fun _ kt_ => XS.ifYes X0.here hx rfl (pc0 := 55) (pc' := 61) rfl (hb hby d2_55) rfl ((if0 _ _).trans (flt hc55).2.1) (by decide) (by decide) kt_) ?_
              show Done p e s below _ _ _ s₁ (mkF m 61 #[.val (.long v), .second] [])
              refine Done.go (fun _ kt_ => XS.lloadN X0.here hx rfl (hb hby d2_61) rfl kt_) ?_
              show Done p e s below _ _ _ s₁ (mkF m 62 #[.val (.long v), .second] [(.long v)])
              refine Done.go (fun t_ kt_ => X0.ldc2Long hx hown (mvT hZ (hw _ (List.mem_of_getElem? (i := 21) rfl))) (g := (mkF m 62 #[.val (.long v), .second] [(.long v)])) rfl (hb hby d2_62) t_ kt_) ?_
              show Done p e s below _ _ _ s₁ (mkF m 65 #[.val (.long v), .second] [(.long (562949953421312 : Int64)), (.long v)])
              refine Done.go (fun _ kt_ => XS.lcmp X0.here hx rfl (hb hby d2_65) rfl kt_) ?_
              show Done p e s below _ _ _ s₁ (mkF m 66 #[.val (.long v), .second] [(.int (lcmpW v (562949953421312 : Int64)))])
              by_cases hc66 : (lcmpW v (562949953421312 : Int64)) < (0 : Int32)
              · skip
                refine Done.go (fun _ kt_ => XS.ifNo X0.here hx rfl (hb hby d2_66) rfl ((if0 _ _).trans (tlt hc66).2.1) kt_) ?_
                show Done p e s below _ _ _ s₁ (mkF m 69 #[.val (.long v), .second] [])
                refine Done.go (fun _ kt_ => XS.bipush X0.here hx rfl (hb hby d2_69) kt_) ?_
                show Done p e s below _ _ _ s₁ (mkF m 71 #[.val (.long v), .second] [(.int (7 : Int32))])
                refine Done.retI X0 hx hlk hrt (hb hby d2_71) ?_ (by first | decide | omega) (by first | decide | omega)
                rw [e0]
                refine ⟨_, 7, rfl, by decide, by decide, by decide, ⟨?_, ?_⟩, N0, rfl⟩
                · exact by have q := (own_cmpL _ _).mp hc66; rw [show (562949953421312 : Int64).toInt = 562949953421312 from (by decide)] at q; exact q
                · exact Or.inr (by have q := own_nt (own_cmpL _ _) hc55; rw [show (4398046511104 : Int64).toInt = 4398046511104 from (by decide)] at q; exact Int.not_lt.mp q)
              · skip
                refine Done.go (fun _ kt_ => XS.ifYes X0.here hx rfl (pc0 := 66) (pc' := 72) rfl (hb hby d2_66) rfl ((if0 _ _).trans (flt hc66).2.1) (by decide) (by decide) kt_) ?_
                show Done p e s below _ _ _ s₁ (mkF m 72 #[.val (.long v), .second] [])
                refine Done.go (fun _ kt_ => XS.lloadN X0.here hx rfl (hb hby d2_72) rfl kt_) ?_
                show Done p e s below _ _ _ s₁ (mkF m 73 #[.val (.long v), .second] [(.long v)])
                refine Done.go (fun t_ kt_ => X0.ldc2Long hx hown (mvT hZ (hw _ (List.mem_of_getElem? (i := 22) rfl))) (g := (mkF m 73 #[.val (.long v), .second] [(.long v)])) rfl (hb hby d2_73) t_ kt_) ?_
                show Done p e s below _ _ _ s₁ (mkF m 76 #[.val (.long v), .second] [(.long (72057594037927936 : Int64)), (.long v)])
                refine Done.go (fun _ kt_ => XS.lcmp X0.here hx rfl (hb hby d2_76) rfl kt_) ?_
                show Done p e s below _ _ _ s₁ (mkF m 77 #[.val (.long v), .second] [(.int (lcmpW v (72057594037927936 : Int64)))])
                by_cases hc77 : (lcmpW v (72057594037927936 : Int64)) < (0 : Int32)
                · skip
                  refine Done.go (fun _ kt_ => XS.ifNo X0.here hx rfl (hb hby d2_77) rfl ((if0 _ _).trans (tlt hc77).2.1) kt_) ?_
                  show Done p e s below _ _ _ s₁ (mkF m 80 #[.val (.long v), .second] [])
                  refine Done.go (fun _ kt_ => XS.bipush X0.here hx rfl (hb hby d2_80) kt_) ?_
                  show Done p e s below _ _ _ s₁ (mkF m 82 #[.val (.long v), .second] [(.int (8 : Int32))])
                  refine Done.retI X0 hx hlk hrt (hb hby d2_82) ?_ (by first | decide | omega) (by first | decide | omega)
                  rw [e0]
                  refine ⟨_, 8, rfl, by decide, by decide, by decide, ⟨?_, ?_⟩, N0, rfl⟩
                  · exact by have q := (own_cmpL _ _).mp hc77; rw [show (72057594037927936 : Int64).toInt = 72057594037927936 from (by decide)] at q; exact q
                  · exact Or.inr (by have q := own_nt (own_cmpL _ _) hc66; rw [show (562949953421312 : Int64).toInt = 562949953421312 from (by decide)] at q; exact Int.not_lt.mp q)
                · skip
                  refine Done.go (fun _ kt_ => XS.ifYes X0.here hx rfl (pc0 := 77) (pc' := 83) rfl (hb hby d2_77) rfl ((if0 _ _).trans (flt hc77).2.1) (by decide) (by decide) kt_) ?_
                  show Done p e s below _ _ _ s₁ (mkF m 83 #[.val (.long v), .second] [])
                  refine Done.go (fun _ kt_ => XS.bipush X0.here hx rfl (hb hby d2_83) kt_) ?_
                  show Done p e s below _ _ _ s₁ (mkF m 85 #[.val (.long v), .second] [(.int (9 : Int32))])
                  refine Done.retI X0 hx hlk hrt (hb hby d2_85) ?_ (by first | decide | omega) (by first | decide | omega)
                  rw [e0]
                  refine ⟨_, 9, rfl, by decide, by decide, by decide, ⟨?_, ?_⟩, N0, rfl⟩
                  · exact own_lt63 v
                  · exact Or.inr (by have q := own_nt (own_cmpL _ _) hc77; rw [show (72057594037927936 : Int64).toInt = 72057594037927936 from (by decide)] at q; exact Int.not_lt.mp q)
def Q3 (h0 : Heap) (n0 : Nat) (r : Option Value) (h : Heap) (L : List Loc) : Prop := r = some (.int 1) ∧ Fr n0 L ∧ h = h0
theorem d3_0 : decode method_4_code 0 = .ok (.iload_n 1, 1) := by decide +kernel
theorem d3_1 : decode method_4_code 1 = .ok (.iload 4, 2) := by decide +kernel
theorem d3_3 : decode method_4_code 3 = .ok (.isub, 1) := by decide +kernel
theorem d3_4 : decode method_4_code 4 = .ok (.istore 7, 2) := by decide +kernel
theorem d3_6 : decode method_4_code 6 = .ok (.iload 7, 2) := by decide +kernel
theorem d3_8 : decode method_4_code 8 = .ok (.ifCond .lt 10, 3) := by decide +kernel
theorem d3_11 : decode method_4_code 11 = .ok (.iload 7, 2) := by decide +kernel
theorem d3_13 : decode method_4_code 13 = .ok (.iload 5, 2) := by decide +kernel
theorem d3_15 : decode method_4_code 15 = .ok (.if_icmp .lt 17, 3) := by decide +kernel
theorem d3_18 : decode method_4_code 18 = .ok (.aload_n 0, 1) := by decide +kernel
theorem d3_19 : decode method_4_code 19 = .ok (.iload_n 1, 1) := by decide +kernel
theorem d3_20 : decode method_4_code 20 = .ok (.baload, 1) := by decide +kernel
theorem d3_21 : decode method_4_code 21 = .ok (.iload 6, 2) := by decide +kernel
theorem d3_23 : decode method_4_code 23 = .ok (.if_icmp .ne 7, 3) := by decide +kernel
theorem d3_26 : decode method_4_code 26 = .ok (.iconst 1, 1) := by decide +kernel
theorem d3_27 : decode method_4_code 27 = .ok (.goto 4, 3) := by decide +kernel
theorem d3_30 : decode method_4_code 30 = .ok (.iconst 0, 1) := by decide +kernel
theorem d3_31 : decode method_4_code 31 = .ok (.ireturn, 1) := by decide +kernel
theorem d3_32 : decode method_4_code 32 = .ok (.lload_n 2, 1) := by decide +kernel
theorem d3_33 : decode method_4_code 33 = .ok (.bipush 7, 2) := by decide +kernel
theorem d3_35 : decode method_4_code 35 = .ok (.iload 7, 2) := by decide +kernel
theorem d3_37 : decode method_4_code 37 = .ok (.imul, 1) := by decide +kernel
theorem d3_38 : decode method_4_code 38 = .ok (.lushr, 1) := by decide +kernel
theorem d3_39 : decode method_4_code 39 = .ok (.ldc2_w 43, 3) := by decide +kernel
theorem d3_42 : decode method_4_code 42 = .ok (.land, 1) := by decide +kernel
theorem d3_43 : decode method_4_code 43 = .ok (.l2i, 1) := by decide +kernel
theorem d3_44 : decode method_4_code 44 = .ok (.istore 8, 2) := by decide +kernel
theorem d3_46 : decode method_4_code 46 = .ok (.iload 7, 2) := by decide +kernel
theorem d3_48 : decode method_4_code 48 = .ok (.iload 5, 2) := by decide +kernel
theorem d3_50 : decode method_4_code 50 = .ok (.iconst 1, 1) := by decide +kernel
theorem d3_51 : decode method_4_code 51 = .ok (.isub, 1) := by decide +kernel
theorem d3_52 : decode method_4_code 52 = .ok (.if_icmp .ge 11, 3) := by decide +kernel
theorem d3_55 : decode method_4_code 55 = .ok (.iload 8, 2) := by decide +kernel
theorem d3_57 : decode method_4_code 57 = .ok (.sipush 128, 3) := by decide +kernel
theorem d3_60 : decode method_4_code 60 = .ok (.ior, 1) := by decide +kernel
theorem d3_61 : decode method_4_code 61 = .ok (.istore 8, 2) := by decide +kernel
theorem d3_63 : decode method_4_code 63 = .ok (.aload_n 0, 1) := by decide +kernel
theorem d3_64 : decode method_4_code 64 = .ok (.iload_n 1, 1) := by decide +kernel
theorem d3_65 : decode method_4_code 65 = .ok (.baload, 1) := by decide +kernel
theorem d3_66 : decode method_4_code 66 = .ok (.iload 8, 2) := by decide +kernel
theorem d3_68 : decode method_4_code 68 = .ok (.i2b, 1) := by decide +kernel
theorem d3_69 : decode method_4_code 69 = .ok (.if_icmp .ne 7, 3) := by decide +kernel
theorem d3_72 : decode method_4_code 72 = .ok (.iconst 1, 1) := by decide +kernel
theorem d3_73 : decode method_4_code 73 = .ok (.goto 4, 3) := by decide +kernel
theorem d3_76 : decode method_4_code 76 = .ok (.iconst 0, 1) := by decide +kernel
theorem d3_77 : decode method_4_code 77 = .ok (.ireturn, 1) := by decide +kernel
theorem ef_rm3 (m : MethodId) (a1 : Addr) (pi : Int32) (v : Int64) (pa : Int32) (pl : Int32) (fb : Int32) : entryFrame m #[(.ref a1), (.int pi), (.long v), (.int pa), (.int pl), (.int fb)] 9 = mkF m 0 #[.val (.ref a1), .val (.int pi), .val (.long v), .second, .val (.int pa), .val (.int pl), .val (.int fb), .unset, .unset] [] := by first | (simp [entryFrame, mkF, argsToLocals, Value.category]; done) | rfl
set_option maxRecDepth 65536 in
set_option maxHeartbeats 40000000 in
theorem rm3 (l : Launch) (Z : State) (a0 : Array Value) (hw : ∀ d ∈ tables_1, d.before a0 Z = true) (ws : List Jvm.Cond) (a1 : Addr) (pi : Int32) (v : Int64) (pa : Int32) (pl : Int32) (fb : Int32) (n : Nat) (i : Nat) (A : Nat) (N : Nat) (h0 : Heap) (n0 : Nat) (Z0 : n0 ≤ h0.size) (V0 : Ari Z h0 a1 .byte n (own_fin (fun _ => fb) v A N)) (hi : pi.toInt = (i : Int)) (hA : pa.toInt = (A : Int)) (hl : pl.toInt = (N : Int)) (hn : i < n) (hN : 1 ≤ N) (hN9 : N ≤ 9) (hv : 0 ≤ v.toInt) (hf : own_isN v N) :
    MetFree l (⟨"com/example/pivotwise/pivotwise/index/ByteEncoderEncodePinLaw", "ok", "([BIJIIB)Z"⟩ : MethodName) (head1 (Jvm.Cond.code (⟨"com/example/pivotwise/pivotwise/index/ByteEncoderEncodePinLaw", "ok", "([BIJIIB)Z"⟩ : MethodName) method_4_code 9 (some .boolean) :: ws) ({ frames := 0, cells := 0, slots := 0, locals := 0 } : Room)) (fun a U => a = #[(.ref a1), (.int pi), (.long v), (.int pa), (.int pl), (.int fb)] ∧ Z.Warmed39 U.vm ∧ U.heap = h0) (fun _ _ _ _ _ => True) (fun _ U o U' => ∃ vr Lr, o = .returned vr ∧ Q3 h0 n0 vr U'.heap Lr ∧ FrameEnd U o U' Lr 0 0) := by
  refine MetFree.of_bodySF (plainFor_of_name own_pn1) hisR ?_
  intro p e s m args below meth c s₁ Bd hml0 hP hK
  obtain ⟨rfl, hZ, hh⟩ := hP
  have hx := Bd.exec
  have hby := Bd.bytes
  have hml : c.maxLocals = 9 := hml0
  have hown : s.vm.findClass "com/example/pivotwise/pivotwise/index/ByteEncoderEncodePinLaw" = some m.cls := findClass_of_methodNamed Bd.named
  have hnm := (name_of_methodNamed Bd.named Bd.method).1
  have hlk : meth.locks = false := Bd.notSynchronized
  have hrt := Bd.returns
  have X0 : Stand p l e ({ frames := 0, cells := 0, slots := 0, locals := 0 } : Room) s m #[(.ref a1), (.int pi), (.long v), (.int pa), (.int pl), (.int fb)] below meth c s₁ [] 0 0 := Stand.of_body Bd
  have e0 : s₁.heap = h0 := by rw [← hh, Bd.state]; rfl
  have N0 := Fr.nil n0
  show Done p e s below 0 0 (Q3 h0 n0) s₁ (entryFrame m #[(.ref a1), (.int pi), (.long v), (.int pa), (.int pl), (.int fb)] 9)
  rw [ef_rm3]
  show Done p e s below _ _ _ s₁ (mkF m 0 #[.val (.ref a1), .val (.int pi), .val (.long v), .second, .val (.int pa), .val (.int pl), .val (.int fb), .unset, .unset] [])
  refine Done.go (fun _ kt_ => XS.iloadN X0.here hx rfl (hb hby d3_0) rfl kt_) ?_
  show Done p e s below _ _ _ s₁ (mkF m 1 #[.val (.ref a1), .val (.int pi), .val (.long v), .second, .val (.int pa), .val (.int pl), .val (.int fb), .unset, .unset] [(.int pi)])
  refine Done.go (fun _ kt_ => XS.iload X0.here hx rfl (hb hby d3_1) rfl kt_) ?_
  show Done p e s below _ _ _ s₁ (mkF m 3 #[.val (.ref a1), .val (.int pi), .val (.long v), .second, .val (.int pa), .val (.int pl), .val (.int fb), .unset, .unset] [(.int pa), (.int pi)])
  refine Done.go (fun _ kt_ => XS.isub X0.here hx rfl (hb hby d3_3) rfl kt_) ?_
  show Done p e s below _ _ _ s₁ (mkF m 4 #[.val (.ref a1), .val (.int pi), .val (.long v), .second, .val (.int pa), .val (.int pl), .val (.int fb), .unset, .unset] [(.int (pi - pa))])
  refine Done.go (fun _ kt_ => XS.istore X0.here hx rfl (hb hby d3_4) rfl (l' := #[.val (.ref a1), .val (.int pi), .val (.long v), .second, .val (.int pa), .val (.int pl), .val (.int fb), .val (.int (pi - pa)), .unset]) rfl kt_) ?_
  have hkk := own_sub hi hA
  show Done p e s below _ _ _ s₁ (mkF m 6 #[.val (.ref a1), .val (.int pi), .val (.long v), .second, .val (.int pa), .val (.int pl), .val (.int fb), .val (.int (pi - pa)), .unset] [])
  generalize h_kk : (pi - pa) = kk
  rw [h_kk] at hkk
  have i0 : (0 : Int32).toInt = 0 := rfl
  have i1 : (1 : Int32).toInt = 1 := rfl
  show Done p e s below _ _ _ s₁ (mkF m 6 #[.val (.ref a1), .val (.int pi), .val (.long v), .second, .val (.int pa), .val (.int pl), .val (.int fb), .val (.int kk), .unset] [])
  refine Done.go (fun _ kt_ => XS.iload X0.here hx rfl (hb hby d3_6) rfl kt_) ?_
  show Done p e s below _ _ _ s₁ (mkF m 8 #[.val (.ref a1), .val (.int pi), .val (.long v), .second, .val (.int pa), .val (.int pl), .val (.int fb), .val (.int kk), .unset] [(.int kk)])
  by_cases hc8 : kk < (0 : Int32)
  · skip
    refine Done.go (fun _ kt_ => XS.ifYes X0.here hx rfl (pc0 := 8) (pc' := 18) rfl (hb hby d3_8) rfl ((if0 _ _).trans (tlt hc8).1) (by decide) (by decide) kt_) ?_
    show Done p e s below _ _ _ s₁ (mkF m 18 #[.val (.ref a1), .val (.int pi), .val (.long v), .second, .val (.int pa), .val (.int pl), .val (.int fb), .val (.int kk), .unset] [])
    refine Done.go (fun _ kt_ => XS.aloadN X0.here hx rfl (hb hby d3_18) rfl rfl kt_) ?_
    show Done p e s below _ _ _ s₁ (mkF m 19 #[.val (.ref a1), .val (.int pi), .val (.long v), .second, .val (.int pa), .val (.int pl), .val (.int fb), .val (.int kk), .unset] [(.ref a1)])
    refine Done.go (fun _ kt_ => XS.iloadN X0.here hx rfl (hb hby d3_19) rfl kt_) ?_
    show Done p e s below _ _ _ s₁ (mkF m 20 #[.val (.ref a1), .val (.int pi), .val (.long v), .second, .val (.int pa), .val (.int pl), .val (.int fb), .val (.int kk), .unset] [(.int pi), (.ref a1)])
    refine Done.ldB X0 hx hZ e0 V0 (j := pi) (w := fb) i (own_ix hi).1 (own_ix hi).2 hn (if_neg (by rw [Int32.lt_iff_toInt_lt] at hc8; omega)) (hb hby d3_20) ?_
    show Done p e s below _ _ _ s₁ (mkF m 21 #[.val (.ref a1), .val (.int pi), .val (.long v), .second, .val (.int pa), .val (.int pl), .val (.int fb), .val (.int kk), .unset] [(.int fb)])
    refine Done.go (fun _ kt_ => XS.iload X0.here hx rfl (hb hby d3_21) rfl kt_) ?_
    show Done p e s below _ _ _ s₁ (mkF m 23 #[.val (.ref a1), .val (.int pi), .val (.long v), .second, .val (.int pa), .val (.int pl), .val (.int fb), .val (.int kk), .unset] [(.int fb), (.int fb)])
    refine Done.go (fun _ kt_ => XS.icmpNo X0.here hx rfl (hb hby d3_23) rfl (teq rfl).2 kt_) ?_
    show Done p e s below _ _ _ s₁ (mkF m 26 #[.val (.ref a1), .val (.int pi), .val (.long v), .second, .val (.int pa), .val (.int pl), .val (.int fb), .val (.int kk), .unset] [])
    refine Done.go (fun _ kt_ => XS.iconst X0.here hx rfl (hb hby d3_26) kt_) ?_
    show Done p e s below _ _ _ s₁ (mkF m 27 #[.val (.ref a1), .val (.int pi), .val (.long v), .second, .val (.int pa), .val (.int pl), .val (.int fb), .val (.int kk), .unset] [(.int (1 : Int32))])
    refine Done.go (fun _ kt_ => XS.goto X0.here hx rfl (pc0 := 27) (pc' := 31) rfl (hb hby d3_27) (by decide) (by decide) kt_) ?_
    show Done p e s below _ _ _ s₁ (mkF m 31 #[.val (.ref a1), .val (.int pi), .val (.long v), .second, .val (.int pa), .val (.int pl), .val (.int fb), .val (.int kk), .unset] [(.int (1 : Int32))])
    refine Done.retN X0 hx hlk (t := .boolean) hrt (by simp) (z' := (1 : Int32)) rfl (hb hby d3_31) ?_ (by first | decide | omega) (by first | decide | omega)
    rw [e0]
    exact ⟨rfl, N0, rfl⟩
  · skip
    refine Done.go (fun _ kt_ => XS.ifNo X0.here hx rfl (hb hby d3_8) rfl ((if0 _ _).trans (flt hc8).1) kt_) ?_
    show Done p e s below _ _ _ s₁ (mkF m 11 #[.val (.ref a1), .val (.int pi), .val (.long v), .second, .val (.int pa), .val (.int pl), .val (.int fb), .val (.int kk), .unset] [])
    refine Done.go (fun _ kt_ => XS.iload X0.here hx rfl (hb hby d3_11) rfl kt_) ?_
    show Done p e s below _ _ _ s₁ (mkF m 13 #[.val (.ref a1), .val (.int pi), .val (.long v), .second, .val (.int pa), .val (.int pl), .val (.int fb), .val (.int kk), .unset] [(.int kk)])
    refine Done.go (fun _ kt_ => XS.iload X0.here hx rfl (hb hby d3_13) rfl kt_) ?_
    show Done p e s below _ _ _ s₁ (mkF m 15 #[.val (.ref a1), .val (.int pi), .val (.long v), .second, .val (.int pa), .val (.int pl), .val (.int fb), .val (.int kk), .unset] [(.int pl), (.int kk)])
    by_cases hc15 : kk < pl
    · skip
      refine Done.go (fun _ kt_ => XS.icmpYes X0.here hx rfl (pc0 := 15) (pc' := 32) rfl (hb hby d3_15) rfl (tlt hc15).1 (by decide) (by decide) kt_) ?_
      show Done p e s below _ _ _ s₁ (mkF m 32 #[.val (.ref a1), .val (.int pi), .val (.long v), .second, .val (.int pa), .val (.int pl), .val (.int fb), .val (.int kk), .unset] [])
      refine Done.go (fun _ kt_ => XS.lloadN X0.here hx rfl (hb hby d3_32) rfl kt_) ?_
      show Done p e s below _ _ _ s₁ (mkF m 33 #[.val (.ref a1), .val (.int pi), .val (.long v), .second, .val (.int pa), .val (.int pl), .val (.int fb), .val (.int kk), .unset] [(.long v)])
      refine Done.go (fun _ kt_ => XS.bipush X0.here hx rfl (hb hby d3_33) kt_) ?_
      show Done p e s below _ _ _ s₁ (mkF m 35 #[.val (.ref a1), .val (.int pi), .val (.long v), .second, .val (.int pa), .val (.int pl), .val (.int fb), .val (.int kk), .unset] [(.int (7 : Int32)), (.long v)])
      refine Done.go (fun _ kt_ => XS.iload X0.here hx rfl (hb hby d3_35) rfl kt_) ?_
      show Done p e s below _ _ _ s₁ (mkF m 37 #[.val (.ref a1), .val (.int pi), .val (.long v), .second, .val (.int pa), .val (.int pl), .val (.int fb), .val (.int kk), .unset] [(.int kk), (.int (7 : Int32)), (.long v)])
      refine Done.go (fun _ kt_ => XS.imul X0.here hx rfl (hb hby d3_37) rfl kt_) ?_
      show Done p e s below _ _ _ s₁ (mkF m 38 #[.val (.ref a1), .val (.int pi), .val (.long v), .second, .val (.int pa), .val (.int pl), .val (.int fb), .val (.int kk), .unset] [(.int ((7 : Int32) * kk)), (.long v)])
      refine Done.go (fun _ kt_ => XS.lushr X0.here hx rfl (hb hby d3_38) rfl kt_) ?_
      show Done p e s below _ _ _ s₁ (mkF m 39 #[.val (.ref a1), .val (.int pi), .val (.long v), .second, .val (.int pa), .val (.int pl), .val (.int fb), .val (.int kk), .unset] [(.long ((v.toUInt64 >>> (((7 : Int32) * kk) &&& 0x3f).toInt64.toUInt64).toInt64))])
      refine Done.go (fun t_ kt_ => X0.ldc2Long hx hown (mvT hZ (hw _ (List.mem_of_getElem? (i := 15) rfl))) (g := (mkF m 39 #[.val (.ref a1), .val (.int pi), .val (.long v), .second, .val (.int pa), .val (.int pl), .val (.int fb), .val (.int kk), .unset] [(.long ((v.toUInt64 >>> (((7 : Int32) * kk) &&& 0x3f).toInt64.toUInt64).toInt64))])) rfl (hb hby d3_39) t_ kt_) ?_
      show Done p e s below _ _ _ s₁ (mkF m 42 #[.val (.ref a1), .val (.int pi), .val (.long v), .second, .val (.int pa), .val (.int pl), .val (.int fb), .val (.int kk), .unset] [(.long (127 : Int64)), (.long ((v.toUInt64 >>> (((7 : Int32) * kk) &&& 0x3f).toInt64.toUInt64).toInt64))])
      refine Done.go (fun _ kt_ => XS.land X0.here hx rfl (hb hby d3_42) rfl kt_) ?_
      show Done p e s below _ _ _ s₁ (mkF m 43 #[.val (.ref a1), .val (.int pi), .val (.long v), .second, .val (.int pa), .val (.int pl), .val (.int fb), .val (.int kk), .unset] [(.long (((v.toUInt64 >>> (((7 : Int32) * kk) &&& 0x3f).toInt64.toUInt64).toInt64) &&& (127 : Int64)))])
      refine Done.go (fun _ kt_ => XS.l2i X0.here hx rfl (hb hby d3_43) rfl kt_) ?_
      rw [Int32.lt_iff_toInt_lt] at hc8 hc15
      obtain ⟨K, hK⟩ : ∃ K : Nat, i = A + K := ⟨i - A, by omega⟩
      have hkK : kk = Int32.ofNat K := own_ofNat (by omega)
      show Done p e s below _ _ _ s₁ (mkF m 44 #[.val (.ref a1), .val (.int pi), .val (.long v), .second, .val (.int pa), .val (.int pl), .val (.int fb), .val (.int kk), .unset] [(.int ((((v.toUInt64 >>> (((7 : Int32) * kk) &&& 0x3f).toInt64.toUInt64).toInt64) &&& (127 : Int64)).toInt32))])
      have hsh : ((v.toUInt64 >>> (((7 : Int32) * kk) &&& 0x3f).toInt64.toUInt64).toInt64) = own_sh v K := by rw [hkK]; exact own_shk v K (by omega)
      rw [hsh]
      show Done p e s below _ _ _ s₁ (mkF m 44 #[.val (.ref a1), .val (.int pi), .val (.long v), .second, .val (.int pa), .val (.int pl), .val (.int fb), .val (.int kk), .unset] [(.int (((own_sh v K) &&& (127 : Int64)).toInt32))])
      refine Done.go (fun _ kt_ => XS.istore X0.here hx rfl (hb hby d3_44) rfl (l' := #[.val (.ref a1), .val (.int pi), .val (.long v), .second, .val (.int pa), .val (.int pl), .val (.int fb), .val (.int kk), .val (.int (((own_sh v K) &&& (127 : Int64)).toInt32))]) rfl kt_) ?_
      show Done p e s below _ _ _ s₁ (mkF m 46 #[.val (.ref a1), .val (.int pi), .val (.long v), .second, .val (.int pa), .val (.int pl), .val (.int fb), .val (.int kk), .val (.int (((own_sh v K) &&& (127 : Int64)).toInt32))] [])
      refine Done.go (fun _ kt_ => XS.iload X0.here hx rfl (hb hby d3_46) rfl kt_) ?_
      show Done p e s below _ _ _ s₁ (mkF m 48 #[.val (.ref a1), .val (.int pi), .val (.long v), .second, .val (.int pa), .val (.int pl), .val (.int fb), .val (.int kk), .val (.int (((own_sh v K) &&& (127 : Int64)).toInt32))] [(.int kk)])
      refine Done.go (fun _ kt_ => XS.iload X0.here hx rfl (hb hby d3_48) rfl kt_) ?_
      show Done p e s below _ _ _ s₁ (mkF m 50 #[.val (.ref a1), .val (.int pi), .val (.long v), .second, .val (.int pa), .val (.int pl), .val (.int fb), .val (.int kk), .val (.int (((own_sh v K) &&& (127 : Int64)).toInt32))] [(.int pl), (.int kk)])
      refine Done.go (fun _ kt_ => XS.iconst X0.here hx rfl (hb hby d3_50) kt_) ?_
      show Done p e s below _ _ _ s₁ (mkF m 51 #[.val (.ref a1), .val (.int pi), .val (.long v), .second, .val (.int pa), .val (.int pl), .val (.int fb), .val (.int kk), .val (.int (((own_sh v K) &&& (127 : Int64)).toInt32))] [(.int (1 : Int32)), (.int pl), (.int kk)])
      refine Done.go (fun _ kt_ => XS.isub X0.here hx rfl (hb hby d3_51) rfl kt_) ?_
      show Done p e s below _ _ _ s₁ (mkF m 52 #[.val (.ref a1), .val (.int pi), .val (.long v), .second, .val (.int pa), .val (.int pl), .val (.int fb), .val (.int kk), .val (.int (((own_sh v K) &&& (127 : Int64)).toInt32))] [(.int (pl - (1 : Int32))), (.int kk)])
      by_cases hc52 : kk < (pl - (1 : Int32))
      · skip
        refine Done.go (fun _ kt_ => XS.icmpNo X0.here hx rfl (hb hby d3_52) rfl (tlt hc52).2.1 kt_) ?_
        show Done p e s below _ _ _ s₁ (mkF m 55 #[.val (.ref a1), .val (.int pi), .val (.long v), .second, .val (.int pa), .val (.int pl), .val (.int fb), .val (.int kk), .val (.int (((own_sh v K) &&& (127 : Int64)).toInt32))] [])
        refine Done.go (fun _ kt_ => XS.iload X0.here hx rfl (hb hby d3_55) rfl kt_) ?_
        show Done p e s below _ _ _ s₁ (mkF m 57 #[.val (.ref a1), .val (.int pi), .val (.long v), .second, .val (.int pa), .val (.int pl), .val (.int fb), .val (.int kk), .val (.int (((own_sh v K) &&& (127 : Int64)).toInt32))] [(.int (((own_sh v K) &&& (127 : Int64)).toInt32))])
        refine Done.go (fun _ kt_ => XS.sipush X0.here hx rfl (hb hby d3_57) kt_) ?_
        show Done p e s below _ _ _ s₁ (mkF m 60 #[.val (.ref a1), .val (.int pi), .val (.long v), .second, .val (.int pa), .val (.int pl), .val (.int fb), .val (.int kk), .val (.int (((own_sh v K) &&& (127 : Int64)).toInt32))] [(.int (128 : Int32)), (.int (((own_sh v K) &&& (127 : Int64)).toInt32))])
        refine Done.go (fun _ kt_ => XS.ior X0.here hx rfl (hb hby d3_60) rfl kt_) ?_
        show Done p e s below _ _ _ s₁ (mkF m 61 #[.val (.ref a1), .val (.int pi), .val (.long v), .second, .val (.int pa), .val (.int pl), .val (.int fb), .val (.int kk), .val (.int (((own_sh v K) &&& (127 : Int64)).toInt32))] [(.int ((((own_sh v K) &&& (127 : Int64)).toInt32) ||| (128 : Int32)))])
        refine Done.go (fun _ kt_ => XS.istore X0.here hx rfl (hb hby d3_61) rfl (l' := #[.val (.ref a1), .val (.int pi), .val (.long v), .second, .val (.int pa), .val (.int pl), .val (.int fb), .val (.int kk), .val (.int ((((own_sh v K) &&& (127 : Int64)).toInt32) ||| (128 : Int32)))]) rfl kt_) ?_
        have hl1 : (pl - (1 : Int32)).toInt = (N : Int) - 1 := by
          have q := c_isub pl 1
          have r := rng32 (pl - 1)
          have r1 := rng32 pl
          omega
        rw [Int32.lt_iff_toInt_lt, hl1] at hc52
        show Done p e s below _ _ _ s₁ (mkF m 63 #[.val (.ref a1), .val (.int pi), .val (.long v), .second, .val (.int pa), .val (.int pl), .val (.int fb), .val (.int kk), .val (.int ((((own_sh v K) &&& (127 : Int64)).toInt32) ||| (128 : Int32)))] [])
        refine Done.go (fun _ kt_ => XS.aloadN X0.here hx rfl (hb hby d3_63) rfl rfl kt_) ?_
        show Done p e s below _ _ _ s₁ (mkF m 64 #[.val (.ref a1), .val (.int pi), .val (.long v), .second, .val (.int pa), .val (.int pl), .val (.int fb), .val (.int kk), .val (.int ((((own_sh v K) &&& (127 : Int64)).toInt32) ||| (128 : Int32)))] [(.ref a1)])
        refine Done.go (fun _ kt_ => XS.iloadN X0.here hx rfl (hb hby d3_64) rfl kt_) ?_
        show Done p e s below _ _ _ s₁ (mkF m 65 #[.val (.ref a1), .val (.int pi), .val (.long v), .second, .val (.int pa), .val (.int pl), .val (.int fb), .val (.int kk), .val (.int ((((own_sh v K) &&& (127 : Int64)).toInt32) ||| (128 : Int32)))] [(.int pi), (.ref a1)])
        refine Done.ldB X0 hx hZ e0 V0 (j := pi) (w := (own_hi (own_sh v K))) i (own_ix hi).1 (own_ix hi).2 hn (by subst hK; unfold own_fin; rw [if_pos ⟨by omega, by omega⟩, if_neg (by omega), Nat.add_sub_cancel_left]) (hb hby d3_65) ?_
        show Done p e s below _ _ _ s₁ (mkF m 66 #[.val (.ref a1), .val (.int pi), .val (.long v), .second, .val (.int pa), .val (.int pl), .val (.int fb), .val (.int kk), .val (.int ((((own_sh v K) &&& (127 : Int64)).toInt32) ||| (128 : Int32)))] [(.int (own_hi (own_sh v K)))])
        refine Done.go (fun _ kt_ => XS.iload X0.here hx rfl (hb hby d3_66) rfl kt_) ?_
        show Done p e s below _ _ _ s₁ (mkF m 68 #[.val (.ref a1), .val (.int pi), .val (.long v), .second, .val (.int pa), .val (.int pl), .val (.int fb), .val (.int kk), .val (.int ((((own_sh v K) &&& (127 : Int64)).toInt32) ||| (128 : Int32)))] [(.int ((((own_sh v K) &&& (127 : Int64)).toInt32) ||| (128 : Int32))), (.int (own_hi (own_sh v K)))])
        refine Done.go (fun _ kt_ => XS.i2b X0.here hx rfl (hb hby d3_68) rfl kt_) ?_
        show Done p e s below _ _ _ s₁ (mkF m 69 #[.val (.ref a1), .val (.int pi), .val (.long v), .second, .val (.int pa), .val (.int pl), .val (.int fb), .val (.int kk), .val (.int ((((own_sh v K) &&& (127 : Int64)).toInt32) ||| (128 : Int32)))] [(.int (((((own_sh v K) &&& (127 : Int64)).toInt32) ||| (128 : Int32)).toInt8.toInt32)), (.int (own_hi (own_sh v K)))])
        refine Done.go (fun _ kt_ => XS.icmpNo X0.here hx rfl (hb hby d3_69) rfl (teq (own_hi_eq _).symm).2 kt_) ?_
        show Done p e s below _ _ _ s₁ (mkF m 72 #[.val (.ref a1), .val (.int pi), .val (.long v), .second, .val (.int pa), .val (.int pl), .val (.int fb), .val (.int kk), .val (.int ((((own_sh v K) &&& (127 : Int64)).toInt32) ||| (128 : Int32)))] [])
        refine Done.go (fun _ kt_ => XS.iconst X0.here hx rfl (hb hby d3_72) kt_) ?_
        show Done p e s below _ _ _ s₁ (mkF m 73 #[.val (.ref a1), .val (.int pi), .val (.long v), .second, .val (.int pa), .val (.int pl), .val (.int fb), .val (.int kk), .val (.int ((((own_sh v K) &&& (127 : Int64)).toInt32) ||| (128 : Int32)))] [(.int (1 : Int32))])
        refine Done.go (fun _ kt_ => XS.goto X0.here hx rfl (pc0 := 73) (pc' := 77) rfl (hb hby d3_73) (by decide) (by decide) kt_) ?_
        show Done p e s below _ _ _ s₁ (mkF m 77 #[.val (.ref a1), .val (.int pi), .val (.long v), .second, .val (.int pa), .val (.int pl), .val (.int fb), .val (.int kk), .val (.int ((((own_sh v K) &&& (127 : Int64)).toInt32) ||| (128 : Int32)))] [(.int (1 : Int32))])
        refine Done.retN X0 hx hlk (t := .boolean) hrt (by simp) (z' := (1 : Int32)) rfl (hb hby d3_77) ?_ (by first | decide | omega) (by first | decide | omega)
        rw [e0]
        exact ⟨rfl, N0, rfl⟩
      · skip
        refine Done.go (fun _ kt_ => XS.icmpYes X0.here hx rfl (pc0 := 52) (pc' := 63) rfl (hb hby d3_52) rfl (flt hc52).2.1 (by decide) (by decide) kt_) ?_
        have hl1 : (pl - (1 : Int32)).toInt = (N : Int) - 1 := by
          have q := c_isub pl 1
          have r := rng32 (pl - 1)
          have r1 := rng32 pl
          omega
        rw [Int32.lt_iff_toInt_lt, hl1] at hc52
        show Done p e s below _ _ _ s₁ (mkF m 63 #[.val (.ref a1), .val (.int pi), .val (.long v), .second, .val (.int pa), .val (.int pl), .val (.int fb), .val (.int kk), .val (.int (((own_sh v K) &&& (127 : Int64)).toInt32))] [])
        refine Done.go (fun _ kt_ => XS.aloadN X0.here hx rfl (hb hby d3_63) rfl rfl kt_) ?_
        show Done p e s below _ _ _ s₁ (mkF m 64 #[.val (.ref a1), .val (.int pi), .val (.long v), .second, .val (.int pa), .val (.int pl), .val (.int fb), .val (.int kk), .val (.int (((own_sh v K) &&& (127 : Int64)).toInt32))] [(.ref a1)])
        refine Done.go (fun _ kt_ => XS.iloadN X0.here hx rfl (hb hby d3_64) rfl kt_) ?_
        show Done p e s below _ _ _ s₁ (mkF m 65 #[.val (.ref a1), .val (.int pi), .val (.long v), .second, .val (.int pa), .val (.int pl), .val (.int fb), .val (.int kk), .val (.int (((own_sh v K) &&& (127 : Int64)).toInt32))] [(.int pi), (.ref a1)])
        refine Done.ldB X0 hx hZ e0 V0 (j := pi) (w := (own_lo (own_sh v K))) i (own_ix hi).1 (own_ix hi).2 hn (by subst hK; unfold own_fin; rw [if_pos ⟨by omega, by omega⟩, if_pos (by omega), Nat.add_sub_cancel_left]) (hb hby d3_65) ?_
        show Done p e s below _ _ _ s₁ (mkF m 66 #[.val (.ref a1), .val (.int pi), .val (.long v), .second, .val (.int pa), .val (.int pl), .val (.int fb), .val (.int kk), .val (.int (((own_sh v K) &&& (127 : Int64)).toInt32))] [(.int (own_lo (own_sh v K)))])
        refine Done.go (fun _ kt_ => XS.iload X0.here hx rfl (hb hby d3_66) rfl kt_) ?_
        show Done p e s below _ _ _ s₁ (mkF m 68 #[.val (.ref a1), .val (.int pi), .val (.long v), .second, .val (.int pa), .val (.int pl), .val (.int fb), .val (.int kk), .val (.int (((own_sh v K) &&& (127 : Int64)).toInt32))] [(.int (((own_sh v K) &&& (127 : Int64)).toInt32)), (.int (own_lo (own_sh v K)))])
        refine Done.go (fun _ kt_ => XS.i2b X0.here hx rfl (hb hby d3_68) rfl kt_) ?_
        show Done p e s below _ _ _ s₁ (mkF m 69 #[.val (.ref a1), .val (.int pi), .val (.long v), .second, .val (.int pa), .val (.int pl), .val (.int fb), .val (.int kk), .val (.int (((own_sh v K) &&& (127 : Int64)).toInt32))] [(.int ((((own_sh v K) &&& (127 : Int64)).toInt32).toInt8.toInt32)), (.int (own_lo (own_sh v K)))])
        refine Done.go (fun _ kt_ => XS.icmpNo X0.here hx rfl (hb hby d3_69) rfl (teq (own_lo_eq (by rw [own_sh_toInt hv]; exact Int.ediv_nonneg hv (Int.natCast_nonneg _)) (own_end hv (by rw [show K + 1 = N from (by omega)]; exact hf.1))).symm).2 kt_) ?_
        show Done p e s below _ _ _ s₁ (mkF m 72 #[.val (.ref a1), .val (.int pi), .val (.long v), .second, .val (.int pa), .val (.int pl), .val (.int fb), .val (.int kk), .val (.int (((own_sh v K) &&& (127 : Int64)).toInt32))] [])
        refine Done.go (fun _ kt_ => XS.iconst X0.here hx rfl (hb hby d3_72) kt_) ?_
        show Done p e s below _ _ _ s₁ (mkF m 73 #[.val (.ref a1), .val (.int pi), .val (.long v), .second, .val (.int pa), .val (.int pl), .val (.int fb), .val (.int kk), .val (.int (((own_sh v K) &&& (127 : Int64)).toInt32))] [(.int (1 : Int32))])
        refine Done.go (fun _ kt_ => XS.goto X0.here hx rfl (pc0 := 73) (pc' := 77) rfl (hb hby d3_73) (by decide) (by decide) kt_) ?_
        show Done p e s below _ _ _ s₁ (mkF m 77 #[.val (.ref a1), .val (.int pi), .val (.long v), .second, .val (.int pa), .val (.int pl), .val (.int fb), .val (.int kk), .val (.int (((own_sh v K) &&& (127 : Int64)).toInt32))] [(.int (1 : Int32))])
        refine Done.retN X0 hx hlk (t := .boolean) hrt (by simp) (z' := (1 : Int32)) rfl (hb hby d3_77) ?_ (by first | decide | omega) (by first | decide | omega)
        rw [e0]
        exact ⟨rfl, N0, rfl⟩
    · skip
      refine Done.go (fun _ kt_ => XS.icmpNo X0.here hx rfl (hb hby d3_15) rfl (flt hc15).1 kt_) ?_
      show Done p e s below _ _ _ s₁ (mkF m 18 #[.val (.ref a1), .val (.int pi), .val (.long v), .second, .val (.int pa), .val (.int pl), .val (.int fb), .val (.int kk), .unset] [])
      refine Done.go (fun _ kt_ => XS.aloadN X0.here hx rfl (hb hby d3_18) rfl rfl kt_) ?_
      show Done p e s below _ _ _ s₁ (mkF m 19 #[.val (.ref a1), .val (.int pi), .val (.long v), .second, .val (.int pa), .val (.int pl), .val (.int fb), .val (.int kk), .unset] [(.ref a1)])
      refine Done.go (fun _ kt_ => XS.iloadN X0.here hx rfl (hb hby d3_19) rfl kt_) ?_
      show Done p e s below _ _ _ s₁ (mkF m 20 #[.val (.ref a1), .val (.int pi), .val (.long v), .second, .val (.int pa), .val (.int pl), .val (.int fb), .val (.int kk), .unset] [(.int pi), (.ref a1)])
      refine Done.ldB X0 hx hZ e0 V0 (j := pi) (w := fb) i (own_ix hi).1 (own_ix hi).2 hn (if_neg (by rw [Int32.lt_iff_toInt_lt] at hc8 hc15; omega)) (hb hby d3_20) ?_
      show Done p e s below _ _ _ s₁ (mkF m 21 #[.val (.ref a1), .val (.int pi), .val (.long v), .second, .val (.int pa), .val (.int pl), .val (.int fb), .val (.int kk), .unset] [(.int fb)])
      refine Done.go (fun _ kt_ => XS.iload X0.here hx rfl (hb hby d3_21) rfl kt_) ?_
      show Done p e s below _ _ _ s₁ (mkF m 23 #[.val (.ref a1), .val (.int pi), .val (.long v), .second, .val (.int pa), .val (.int pl), .val (.int fb), .val (.int kk), .unset] [(.int fb), (.int fb)])
      refine Done.go (fun _ kt_ => XS.icmpNo X0.here hx rfl (hb hby d3_23) rfl (teq rfl).2 kt_) ?_
      show Done p e s below _ _ _ s₁ (mkF m 26 #[.val (.ref a1), .val (.int pi), .val (.long v), .second, .val (.int pa), .val (.int pl), .val (.int fb), .val (.int kk), .unset] [])
      refine Done.go (fun _ kt_ => XS.iconst X0.here hx rfl (hb hby d3_26) kt_) ?_
      show Done p e s below _ _ _ s₁ (mkF m 27 #[.val (.ref a1), .val (.int pi), .val (.long v), .second, .val (.int pa), .val (.int pl), .val (.int fb), .val (.int kk), .unset] [(.int (1 : Int32))])
      refine Done.go (fun _ kt_ => XS.goto X0.here hx rfl (pc0 := 27) (pc' := 31) rfl (hb hby d3_27) (by decide) (by decide) kt_) ?_
      show Done p e s below _ _ _ s₁ (mkF m 31 #[.val (.ref a1), .val (.int pi), .val (.long v), .second, .val (.int pa), .val (.int pl), .val (.int fb), .val (.int kk), .unset] [(.int (1 : Int32))])
      refine Done.retN X0 hx hlk (t := .boolean) hrt (by simp) (z' := (1 : Int32)) rfl (hb hby d3_31) ?_ (by first | decide | omega) (by first | decide | omega)
      rw [e0]
      exact ⟨rfl, N0, rfl⟩
def Q0 (n0 : Nat) (v : Option Value) (h : Heap) (L : List Loc) : Prop := v = some (.int 1) ∧ Fr n0 L
theorem ef_rm0 (m : MethodId) (q0 : Int64) (p1 : Int32) (p2 : Int32) (p3 : Int32) : entryFrame m #[(.long q0), (.int p1), (.int p2), (.int p3)] maxLocals = mkF m 0 #[.val (.long q0), .second, .val (.int p1), .val (.int p2), .val (.int p3), .unset, .unset, .unset, .unset, .unset, .unset, .unset] [] := by first | (simp [entryFrame, mkF, argsToLocals, Value.category, maxLocals]; done) | rfl
set_option maxRecDepth 65536 in
set_option maxHeartbeats 40000000 in
theorem rm0 (l : Launch) (Z : State) (a0 : Array Value) (hw : ∀ d ∈ tables_1, d.before a0 Z = true) (ws : List Jvm.Cond) (q0 : Int64) (p1 : Int32) (p2 : Int32) (p3 : Int32) (h0 : Heap) (n0 : Nat) (Z0 : n0 ≤ h0.size) :
    MetFree l x (head1 (Jvm.Cond.code x code maxLocals ret :: ws) room_1) (fun a U => a = #[(.long q0), (.int p1), (.int p2), (.int p3)] ∧ Z.Warmed39 U.vm ∧ U.heap = h0) (fun _ _ _ _ _ => True) (fun _ U o U' => ∃ vr Lr, o = .returned vr ∧ Q0 n0 vr U'.heap Lr ∧ FrameEnd U o U' Lr 16 128) := by
  refine MetFree.of_bodySF (plainFor_of_name own_pn1) hisR ?_
  intro p e s m args below meth c s₁ Bd hml0 hP hK
  obtain ⟨rfl, hZ, hh⟩ := hP
  have hx := Bd.exec
  have hby := Bd.bytes
  have hml : c.maxLocals = 12 := hml0
  have hown : s.vm.findClass "com/example/pivotwise/pivotwise/index/ByteEncoderEncodePinLaw" = some m.cls := findClass_of_methodNamed Bd.named
  have hnm := (name_of_methodNamed Bd.named Bd.method).1
  have hlk : meth.locks = false := Bd.notSynchronized
  have hrt := Bd.returns
  have X0 : Stand p l e room_1 s m #[(.long q0), (.int p1), (.int p2), (.int p3)] below meth c s₁ [] 0 0 := Stand.of_body Bd
  have e0 : s₁.heap = h0 := by rw [← hh, Bd.state]; rfl
  have N0 := Fr.nil n0
  show Done p e s below 16 128 (Q0 n0) s₁ (entryFrame m #[(.long q0), (.int p1), (.int p2), (.int p3)] maxLocals)
  rw [ef_rm0]
  show Done p e s below _ _ _ s₁ (mkF m 0 #[.val (.long q0), .second, .val (.int p1), .val (.int p2), .val (.int p3), .unset, .unset, .unset, .unset, .unset, .unset, .unset] [])
  refine Done.go (fun _ kt_ => XS.lloadN X0.here hx rfl (hb hby at_0) rfl kt_) ?_
  show Done p e s below _ _ _ s₁ (mkF m 1 #[.val (.long q0), .second, .val (.int p1), .val (.int p2), .val (.int p3), .unset, .unset, .unset, .unset, .unset, .unset, .unset] [(.long q0)])
  refine Done.go (fun t_ kt_ => X0.ldc2Long hx hown (mvT hZ (hw _ (List.mem_of_getElem? (i := 0) rfl))) (g := (mkF m 1 #[.val (.long q0), .second, .val (.int p1), .val (.int p2), .val (.int p3), .unset, .unset, .unset, .unset, .unset, .unset, .unset] [(.long q0)])) rfl (hb hby at_1) t_ kt_) ?_
  show Done p e s below _ _ _ s₁ (mkF m 4 #[.val (.long q0), .second, .val (.int p1), .val (.int p2), .val (.int p3), .unset, .unset, .unset, .unset, .unset, .unset, .unset] [(.long (9223372036854775807 : Int64)), (.long q0)])
  refine Done.go (fun _ kt_ => XS.land X0.here hx rfl (hb hby at_4) rfl kt_) ?_
  show Done p e s below _ _ _ s₁ (mkF m 5 #[.val (.long q0), .second, .val (.int p1), .val (.int p2), .val (.int p3), .unset, .unset, .unset, .unset, .unset, .unset, .unset] [(.long (q0 &&& (9223372036854775807 : Int64)))])
  refine Done.go (fun _ kt_ => XS.iloadN X0.here hx rfl (hb hby at_5) rfl kt_) ?_
  show Done p e s below _ _ _ s₁ (mkF m 6 #[.val (.long q0), .second, .val (.int p1), .val (.int p2), .val (.int p3), .unset, .unset, .unset, .unset, .unset, .unset, .unset] [(.int p1), (.long (q0 &&& (9223372036854775807 : Int64)))])
  refine Done.go (fun _ kt_ => XS.bipush X0.here hx rfl (hb hby at_6) kt_) ?_
  show Done p e s below _ _ _ s₁ (mkF m 8 #[.val (.long q0), .second, .val (.int p1), .val (.int p2), .val (.int p3), .unset, .unset, .unset, .unset, .unset, .unset, .unset] [(.int (63 : Int32)), (.int p1), (.long (q0 &&& (9223372036854775807 : Int64)))])
  refine Done.go (fun _ kt_ => XS.iand X0.here hx rfl (hb hby at_8) rfl kt_) ?_
  show Done p e s below _ _ _ s₁ (mkF m 9 #[.val (.long q0), .second, .val (.int p1), .val (.int p2), .val (.int p3), .unset, .unset, .unset, .unset, .unset, .unset, .unset] [(.int (p1 &&& (63 : Int32))), (.long (q0 &&& (9223372036854775807 : Int64)))])
  refine Done.go (fun _ kt_ => XS.lushr X0.here hx rfl (hb hby at_9) rfl kt_) ?_
  show Done p e s below _ _ _ s₁ (mkF m 10 #[.val (.long q0), .second, .val (.int p1), .val (.int p2), .val (.int p3), .unset, .unset, .unset, .unset, .unset, .unset, .unset] [(.long (((q0 &&& (9223372036854775807 : Int64)).toUInt64 >>> ((p1 &&& (63 : Int32)) &&& 0x3f).toInt64.toUInt64).toInt64))])
  refine Done.go (fun _ kt_ => XS.lstore X0.here hx rfl (hb hby at_10) rfl (l' := #[.val (.long q0), .second, .val (.int p1), .val (.int p2), .val (.int p3), .val (.long (((q0 &&& (9223372036854775807 : Int64)).toUInt64 >>> ((p1 &&& (63 : Int32)) &&& 0x3f).toInt64.toUInt64).toInt64)), .second, .unset, .unset, .unset, .unset, .unset]) rfl kt_) ?_
  have hv := own_vv q0 (p1 &&& (63 : Int32))
  show Done p e s below _ _ _ s₁ (mkF m 12 #[.val (.long q0), .second, .val (.int p1), .val (.int p2), .val (.int p3), .val (.long (((q0 &&& (9223372036854775807 : Int64)).toUInt64 >>> ((p1 &&& (63 : Int32)) &&& 0x3f).toInt64.toUInt64).toInt64)), .second, .unset, .unset, .unset, .unset, .unset] [])
  generalize h_v : (((q0 &&& (9223372036854775807 : Int64)).toUInt64 >>> ((p1 &&& (63 : Int32)) &&& 0x3f).toInt64.toUInt64).toInt64) = v
  rw [h_v] at hv
  show Done p e s below _ _ _ s₁ (mkF m 12 #[.val (.long q0), .second, .val (.int p1), .val (.int p2), .val (.int p3), .val (.long v), .second, .unset, .unset, .unset, .unset, .unset] [])
  refine Done.go (fun _ kt_ => XS.iloadN X0.here hx rfl (hb hby at_12) rfl kt_) ?_
  show Done p e s below _ _ _ s₁ (mkF m 13 #[.val (.long q0), .second, .val (.int p1), .val (.int p2), .val (.int p3), .val (.long v), .second, .unset, .unset, .unset, .unset, .unset] [(.int p2)])
  refine Done.go (fun _ kt_ => XS.iconst X0.here hx rfl (hb hby at_13) kt_) ?_
  show Done p e s below _ _ _ s₁ (mkF m 14 #[.val (.long q0), .second, .val (.int p1), .val (.int p2), .val (.int p3), .val (.long v), .second, .unset, .unset, .unset, .unset, .unset] [(.int (3 : Int32)), (.int p2)])
  refine Done.go (fun _ kt_ => XS.iand X0.here hx rfl (hb hby at_14) rfl kt_) ?_
  show Done p e s below _ _ _ s₁ (mkF m 15 #[.val (.long q0), .second, .val (.int p1), .val (.int p2), .val (.int p3), .val (.long v), .second, .unset, .unset, .unset, .unset, .unset] [(.int (p2 &&& (3 : Int32)))])
  refine Done.go (fun _ kt_ => XS.istore X0.here hx rfl (hb hby at_15) rfl (l' := #[.val (.long q0), .second, .val (.int p1), .val (.int p2), .val (.int p3), .val (.long v), .second, .val (.int (p2 &&& (3 : Int32))), .unset, .unset, .unset, .unset]) rfl kt_) ?_
  have hA := c_mask p2 3 2 (by decide) (by decide)
  show Done p e s below _ _ _ s₁ (mkF m 17 #[.val (.long q0), .second, .val (.int p1), .val (.int p2), .val (.int p3), .val (.long v), .second, .val (.int (p2 &&& (3 : Int32))), .unset, .unset, .unset, .unset] [])
  generalize h_pa : (p2 &&& (3 : Int32)) = pa
  rw [h_pa] at hA
  obtain ⟨A, hA⟩ : ∃ A : Nat, pa.toInt = (A : Int) := ⟨pa.toInt.toNat, by omega⟩
  have hA3 : A ≤ 3 := by omega
  show Done p e s below _ _ _ s₁ (mkF m 17 #[.val (.long q0), .second, .val (.int p1), .val (.int p2), .val (.int p3), .val (.long v), .second, .val (.int pa), .unset, .unset, .unset, .unset] [])
  refine Done.go (fun _ kt_ => XS.iload X0.here hx rfl (hb hby at_17) rfl kt_) ?_
  show Done p e s below _ _ _ s₁ (mkF m 19 #[.val (.long q0), .second, .val (.int p1), .val (.int p2), .val (.int p3), .val (.long v), .second, .val (.int pa), .unset, .unset, .unset, .unset] [(.int p3)])
  refine Done.go (fun _ kt_ => XS.i2b X0.here hx rfl (hb hby at_19) rfl kt_) ?_
  show Done p e s below _ _ _ s₁ (mkF m 20 #[.val (.long q0), .second, .val (.int p1), .val (.int p2), .val (.int p3), .val (.long v), .second, .val (.int pa), .unset, .unset, .unset, .unset] [(.int (p3.toInt8.toInt32))])
  refine Done.go (fun _ kt_ => XS.istore X0.here hx rfl (hb hby at_20) rfl (l' := #[.val (.long q0), .second, .val (.int p1), .val (.int p2), .val (.int p3), .val (.long v), .second, .val (.int pa), .val (.int (p3.toInt8.toInt32)), .unset, .unset, .unset]) rfl kt_) ?_
  have hfb := own_narB p3
  show Done p e s below _ _ _ s₁ (mkF m 22 #[.val (.long q0), .second, .val (.int p1), .val (.int p2), .val (.int p3), .val (.long v), .second, .val (.int pa), .val (.int (p3.toInt8.toInt32)), .unset, .unset, .unset] [])
  generalize h_fb : (p3.toInt8.toInt32) = fb
  rw [h_fb] at hfb
  show Done p e s below _ _ _ s₁ (mkF m 22 #[.val (.long q0), .second, .val (.int p1), .val (.int p2), .val (.int p3), .val (.long v), .second, .val (.int pa), .val (.int fb), .unset, .unset, .unset] [])
  refine Done.go (fun _ kt_ => XS.bipush X0.here hx rfl (hb hby at_22) kt_) ?_
  show Done p e s below _ _ _ s₁ (mkF m 24 #[.val (.long q0), .second, .val (.int p1), .val (.int p2), .val (.int p3), .val (.long v), .second, .val (.int pa), .val (.int fb), .unset, .unset, .unset] [(.int (16 : Int32))])
  obtain ⟨T4, h4, k4, X4, e4, E4, A4, st4⟩ := newP X0 hx hZ (hw _ (List.mem_of_getElem? (i := 1) rfl)) e0 (g := (mkF m 24 #[.val (.long q0), .second, .val (.int p1), .val (.int p2), .val (.int p3), .val (.long v), .second, .val (.int pa), .val (.int fb), .unset, .unset, .unset] [(.int (16 : Int32))])) rfl (hb hby at_24) rfl (by decide) (cap := 16) (by decide) (by decide) (by first | decide | omega) (by first | decide | omega)
  obtain ⟨b4, g4⟩ : ∃ z, z = h0.size := ⟨_, rfl⟩
  rw [← g4] at A4 st4
  have gz_b4 : n0 ≤ b4 := Nat.le_trans Z0 (Nat.le_of_eq g4.symm)
  have Z4 : n0 ≤ h4.size := Nat.le_trans Z0 E4.1
  obtain ⟨Lh4, X4h, N4h⟩ : ∃ L, Stand p l e room_1 s m #[(.long q0), (.int p1), (.int p2), (.int p3)] below meth c T4 L 1 16 ∧ Fr n0 L := ⟨_, X4, N0⟩
  clear X4
  have V4 := Ari.new A4 (by decide) (n := 16) rfl rfl
  refine Done.go st4 ?_
  clear st4
  show Done p e s below _ _ _ T4 (mkF m 26 #[.val (.long q0), .second, .val (.int p1), .val (.int p2), .val (.int p3), .val (.long v), .second, .val (.int pa), .val (.int fb), .unset, .unset, .unset] [(.ref b4)])
  refine Done.go (fun _ kt_ => XS.astore X4h.here hx rfl (hb hby at_26) rfl rfl (l' := #[.val (.long q0), .second, .val (.int p1), .val (.int p2), .val (.int p3), .val (.long v), .second, .val (.int pa), .val (.int fb), .val (.ref b4), .unset, .unset]) rfl kt_) ?_
  show Done p e s below _ _ _ T4 (mkF m 28 #[.val (.long q0), .second, .val (.int p1), .val (.int p2), .val (.int p3), .val (.long v), .second, .val (.int pa), .val (.int fb), .val (.ref b4), .unset, .unset] [])
  refine Done.go (fun _ kt_ => XS.aload X4h.here hx rfl (hb hby at_28) rfl rfl kt_) ?_
  show Done p e s below _ _ _ T4 (mkF m 30 #[.val (.long q0), .second, .val (.int p1), .val (.int p2), .val (.int p3), .val (.long v), .second, .val (.int pa), .val (.int fb), .val (.ref b4), .unset, .unset] [(.ref b4)])
  refine Done.go (fun _ kt_ => XS.iconst X4h.here hx rfl (hb hby at_30) kt_) ?_
  show Done p e s below _ _ _ T4 (mkF m 31 #[.val (.long q0), .second, .val (.int p1), .val (.int p2), .val (.int p3), .val (.long v), .second, .val (.int pa), .val (.int fb), .val (.ref b4), .unset, .unset] [(.int (0 : Int32)), (.ref b4)])
  refine Done.go (fun _ kt_ => XS.iload X4h.here hx rfl (hb hby at_31) rfl kt_) ?_
  show Done p e s below _ _ _ T4 (mkF m 33 #[.val (.long q0), .second, .val (.int p1), .val (.int p2), .val (.int p3), .val (.long v), .second, .val (.int pa), .val (.int fb), .val (.ref b4), .unset, .unset] [(.int fb), (.int (0 : Int32)), (.ref b4)])
  obtain ⟨T5, h5, X5, e5, W5, V5, st5⟩ := own_stB X4h hx hZ e4 V4 (j := (0 : Int32)) 0 (by decide) rfl (by omega) (g := (mkF m 33 #[.val (.long q0), .second, .val (.int p1), .val (.int p2), .val (.int p3), .val (.long v), .second, .val (.int pa), .val (.int fb), .val (.ref b4), .unset, .unset] [(.int fb), (.int (0 : Int32)), (.ref b4)])) rfl rfl (hb hby at_33)
  have N5 := Fr.snoc X5 N4h gz_b4
  have Z5 : n0 ≤ h5.size := by rw [W5.size]; exact Z4
  obtain ⟨Lh5, X5h, N5h⟩ : ∃ L, Stand p l e room_1 s m #[(.long q0), (.int p1), (.int p2), (.int p3)] below meth c T5 L 1 16 ∧ Fr n0 L := ⟨_, X5, N5⟩
  clear X5 N5 X4h e4 N4h Z4
  refine Done.go st5 ?_
  clear st5
  show Done p e s below _ _ _ T5 (mkF m 34 #[.val (.long q0), .second, .val (.int p1), .val (.int p2), .val (.int p3), .val (.long v), .second, .val (.int pa), .val (.int fb), .val (.ref b4), .unset, .unset] [])
  refine Done.go (fun _ kt_ => XS.aload X5h.here hx rfl (hb hby at_34) rfl rfl kt_) ?_
  show Done p e s below _ _ _ T5 (mkF m 36 #[.val (.long q0), .second, .val (.int p1), .val (.int p2), .val (.int p3), .val (.long v), .second, .val (.int pa), .val (.int fb), .val (.ref b4), .unset, .unset] [(.ref b4)])
  refine Done.go (fun _ kt_ => XS.iconst X5h.here hx rfl (hb hby at_36) kt_) ?_
  show Done p e s below _ _ _ T5 (mkF m 37 #[.val (.long q0), .second, .val (.int p1), .val (.int p2), .val (.int p3), .val (.long v), .second, .val (.int pa), .val (.int fb), .val (.ref b4), .unset, .unset] [(.int (1 : Int32)), (.ref b4)])
  refine Done.go (fun _ kt_ => XS.iload X5h.here hx rfl (hb hby at_37) rfl kt_) ?_
  show Done p e s below _ _ _ T5 (mkF m 39 #[.val (.long q0), .second, .val (.int p1), .val (.int p2), .val (.int p3), .val (.long v), .second, .val (.int pa), .val (.int fb), .val (.ref b4), .unset, .unset] [(.int fb), (.int (1 : Int32)), (.ref b4)])
  obtain ⟨T6, h6, X6, e6, W6, V6, st6⟩ := own_stB X5h hx hZ e5 V5 (j := (1 : Int32)) 1 (by decide) rfl (by omega) (g := (mkF m 39 #[.val (.long q0), .second, .val (.int p1), .val (.int p2), .val (.int p3), .val (.long v), .second, .val (.int pa), .val (.int fb), .val (.ref b4), .unset, .unset] [(.int fb), (.int (1 : Int32)), (.ref b4)])) rfl rfl (hb hby at_39)
  have N6 := Fr.snoc X6 N5h gz_b4
  have Z6 : n0 ≤ h6.size := by rw [W6.size]; exact Z5
  obtain ⟨Lh6, X6h, N6h⟩ : ∃ L, Stand p l e room_1 s m #[(.long q0), (.int p1), (.int p2), (.int p3)] below meth c T6 L 1 16 ∧ Fr n0 L := ⟨_, X6, N6⟩
  clear X6 N6 X5h e5 N5h Z5
  refine Done.go st6 ?_
  clear st6
  show Done p e s below _ _ _ T6 (mkF m 40 #[.val (.long q0), .second, .val (.int p1), .val (.int p2), .val (.int p3), .val (.long v), .second, .val (.int pa), .val (.int fb), .val (.ref b4), .unset, .unset] [])
  refine Done.go (fun _ kt_ => XS.aload X6h.here hx rfl (hb hby at_40) rfl rfl kt_) ?_
  show Done p e s below _ _ _ T6 (mkF m 42 #[.val (.long q0), .second, .val (.int p1), .val (.int p2), .val (.int p3), .val (.long v), .second, .val (.int pa), .val (.int fb), .val (.ref b4), .unset, .unset] [(.ref b4)])
  refine Done.go (fun _ kt_ => XS.iconst X6h.here hx rfl (hb hby at_42) kt_) ?_
  show Done p e s below _ _ _ T6 (mkF m 43 #[.val (.long q0), .second, .val (.int p1), .val (.int p2), .val (.int p3), .val (.long v), .second, .val (.int pa), .val (.int fb), .val (.ref b4), .unset, .unset] [(.int (2 : Int32)), (.ref b4)])
  refine Done.go (fun _ kt_ => XS.iload X6h.here hx rfl (hb hby at_43) rfl kt_) ?_
  show Done p e s below _ _ _ T6 (mkF m 45 #[.val (.long q0), .second, .val (.int p1), .val (.int p2), .val (.int p3), .val (.long v), .second, .val (.int pa), .val (.int fb), .val (.ref b4), .unset, .unset] [(.int fb), (.int (2 : Int32)), (.ref b4)])
  obtain ⟨T7, h7, X7, e7, W7, V7, st7⟩ := own_stB X6h hx hZ e6 V6 (j := (2 : Int32)) 2 (by decide) rfl (by omega) (g := (mkF m 45 #[.val (.long q0), .second, .val (.int p1), .val (.int p2), .val (.int p3), .val (.long v), .second, .val (.int pa), .val (.int fb), .val (.ref b4), .unset, .unset] [(.int fb), (.int (2 : Int32)), (.ref b4)])) rfl rfl (hb hby at_45)
  have N7 := Fr.snoc X7 N6h gz_b4
  have Z7 : n0 ≤ h7.size := by rw [W7.size]; exact Z6
  obtain ⟨Lh7, X7h, N7h⟩ : ∃ L, Stand p l e room_1 s m #[(.long q0), (.int p1), (.int p2), (.int p3)] below meth c T7 L 1 16 ∧ Fr n0 L := ⟨_, X7, N7⟩
  clear X7 N7 X6h e6 N6h Z6
  refine Done.go st7 ?_
  clear st7
  show Done p e s below _ _ _ T7 (mkF m 46 #[.val (.long q0), .second, .val (.int p1), .val (.int p2), .val (.int p3), .val (.long v), .second, .val (.int pa), .val (.int fb), .val (.ref b4), .unset, .unset] [])
  refine Done.go (fun _ kt_ => XS.aload X7h.here hx rfl (hb hby at_46) rfl rfl kt_) ?_
  show Done p e s below _ _ _ T7 (mkF m 48 #[.val (.long q0), .second, .val (.int p1), .val (.int p2), .val (.int p3), .val (.long v), .second, .val (.int pa), .val (.int fb), .val (.ref b4), .unset, .unset] [(.ref b4)])
  refine Done.go (fun _ kt_ => XS.iconst X7h.here hx rfl (hb hby at_48) kt_) ?_
  show Done p e s below _ _ _ T7 (mkF m 49 #[.val (.long q0), .second, .val (.int p1), .val (.int p2), .val (.int p3), .val (.long v), .second, .val (.int pa), .val (.int fb), .val (.ref b4), .unset, .unset] [(.int (3 : Int32)), (.ref b4)])
  refine Done.go (fun _ kt_ => XS.iload X7h.here hx rfl (hb hby at_49) rfl kt_) ?_
  show Done p e s below _ _ _ T7 (mkF m 51 #[.val (.long q0), .second, .val (.int p1), .val (.int p2), .val (.int p3), .val (.long v), .second, .val (.int pa), .val (.int fb), .val (.ref b4), .unset, .unset] [(.int fb), (.int (3 : Int32)), (.ref b4)])
  obtain ⟨T8, h8, X8, e8, W8, V8, st8⟩ := own_stB X7h hx hZ e7 V7 (j := (3 : Int32)) 3 (by decide) rfl (by omega) (g := (mkF m 51 #[.val (.long q0), .second, .val (.int p1), .val (.int p2), .val (.int p3), .val (.long v), .second, .val (.int pa), .val (.int fb), .val (.ref b4), .unset, .unset] [(.int fb), (.int (3 : Int32)), (.ref b4)])) rfl rfl (hb hby at_51)
  have N8 := Fr.snoc X8 N7h gz_b4
  have Z8 : n0 ≤ h8.size := by rw [W8.size]; exact Z7
  obtain ⟨Lh8, X8h, N8h⟩ : ∃ L, Stand p l e room_1 s m #[(.long q0), (.int p1), (.int p2), (.int p3)] below meth c T8 L 1 16 ∧ Fr n0 L := ⟨_, X8, N8⟩
  clear X8 N8 X7h e7 N7h Z7
  refine Done.go st8 ?_
  clear st8
  show Done p e s below _ _ _ T8 (mkF m 52 #[.val (.long q0), .second, .val (.int p1), .val (.int p2), .val (.int p3), .val (.long v), .second, .val (.int pa), .val (.int fb), .val (.ref b4), .unset, .unset] [])
  refine Done.go (fun _ kt_ => XS.aload X8h.here hx rfl (hb hby at_52) rfl rfl kt_) ?_
  show Done p e s below _ _ _ T8 (mkF m 54 #[.val (.long q0), .second, .val (.int p1), .val (.int p2), .val (.int p3), .val (.long v), .second, .val (.int pa), .val (.int fb), .val (.ref b4), .unset, .unset] [(.ref b4)])
  refine Done.go (fun _ kt_ => XS.iconst X8h.here hx rfl (hb hby at_54) kt_) ?_
  show Done p e s below _ _ _ T8 (mkF m 55 #[.val (.long q0), .second, .val (.int p1), .val (.int p2), .val (.int p3), .val (.long v), .second, .val (.int pa), .val (.int fb), .val (.ref b4), .unset, .unset] [(.int (4 : Int32)), (.ref b4)])
  refine Done.go (fun _ kt_ => XS.iload X8h.here hx rfl (hb hby at_55) rfl kt_) ?_
  show Done p e s below _ _ _ T8 (mkF m 57 #[.val (.long q0), .second, .val (.int p1), .val (.int p2), .val (.int p3), .val (.long v), .second, .val (.int pa), .val (.int fb), .val (.ref b4), .unset, .unset] [(.int fb), (.int (4 : Int32)), (.ref b4)])
  obtain ⟨T9, h9, X9, e9, W9, V9, st9⟩ := own_stB X8h hx hZ e8 V8 (j := (4 : Int32)) 4 (by decide) rfl (by omega) (g := (mkF m 57 #[.val (.long q0), .second, .val (.int p1), .val (.int p2), .val (.int p3), .val (.long v), .second, .val (.int pa), .val (.int fb), .val (.ref b4), .unset, .unset] [(.int fb), (.int (4 : Int32)), (.ref b4)])) rfl rfl (hb hby at_57)
  have N9 := Fr.snoc X9 N8h gz_b4
  have Z9 : n0 ≤ h9.size := by rw [W9.size]; exact Z8
  obtain ⟨Lh9, X9h, N9h⟩ : ∃ L, Stand p l e room_1 s m #[(.long q0), (.int p1), (.int p2), (.int p3)] below meth c T9 L 1 16 ∧ Fr n0 L := ⟨_, X9, N9⟩
  clear X9 N9 X8h e8 N8h Z8
  refine Done.go st9 ?_
  clear st9
  show Done p e s below _ _ _ T9 (mkF m 58 #[.val (.long q0), .second, .val (.int p1), .val (.int p2), .val (.int p3), .val (.long v), .second, .val (.int pa), .val (.int fb), .val (.ref b4), .unset, .unset] [])
  refine Done.go (fun _ kt_ => XS.aload X9h.here hx rfl (hb hby at_58) rfl rfl kt_) ?_
  show Done p e s below _ _ _ T9 (mkF m 60 #[.val (.long q0), .second, .val (.int p1), .val (.int p2), .val (.int p3), .val (.long v), .second, .val (.int pa), .val (.int fb), .val (.ref b4), .unset, .unset] [(.ref b4)])
  refine Done.go (fun _ kt_ => XS.iconst X9h.here hx rfl (hb hby at_60) kt_) ?_
  show Done p e s below _ _ _ T9 (mkF m 61 #[.val (.long q0), .second, .val (.int p1), .val (.int p2), .val (.int p3), .val (.long v), .second, .val (.int pa), .val (.int fb), .val (.ref b4), .unset, .unset] [(.int (5 : Int32)), (.ref b4)])
  refine Done.go (fun _ kt_ => XS.iload X9h.here hx rfl (hb hby at_61) rfl kt_) ?_
  show Done p e s below _ _ _ T9 (mkF m 63 #[.val (.long q0), .second, .val (.int p1), .val (.int p2), .val (.int p3), .val (.long v), .second, .val (.int pa), .val (.int fb), .val (.ref b4), .unset, .unset] [(.int fb), (.int (5 : Int32)), (.ref b4)])
  obtain ⟨T10, h10, X10, e10, W10, V10, st10⟩ := own_stB X9h hx hZ e9 V9 (j := (5 : Int32)) 5 (by decide) rfl (by omega) (g := (mkF m 63 #[.val (.long q0), .second, .val (.int p1), .val (.int p2), .val (.int p3), .val (.long v), .second, .val (.int pa), .val (.int fb), .val (.ref b4), .unset, .unset] [(.int fb), (.int (5 : Int32)), (.ref b4)])) rfl rfl (hb hby at_63)
  have N10 := Fr.snoc X10 N9h gz_b4
  have Z10 : n0 ≤ h10.size := by rw [W10.size]; exact Z9
  obtain ⟨Lh10, X10h, N10h⟩ : ∃ L, Stand p l e room_1 s m #[(.long q0), (.int p1), (.int p2), (.int p3)] below meth c T10 L 1 16 ∧ Fr n0 L := ⟨_, X10, N10⟩
  clear X10 N10 X9h e9 N9h Z9
  refine Done.go st10 ?_
  clear st10
  show Done p e s below _ _ _ T10 (mkF m 64 #[.val (.long q0), .second, .val (.int p1), .val (.int p2), .val (.int p3), .val (.long v), .second, .val (.int pa), .val (.int fb), .val (.ref b4), .unset, .unset] [])
  refine Done.go (fun _ kt_ => XS.aload X10h.here hx rfl (hb hby at_64) rfl rfl kt_) ?_
  show Done p e s below _ _ _ T10 (mkF m 66 #[.val (.long q0), .second, .val (.int p1), .val (.int p2), .val (.int p3), .val (.long v), .second, .val (.int pa), .val (.int fb), .val (.ref b4), .unset, .unset] [(.ref b4)])
  refine Done.go (fun _ kt_ => XS.bipush X10h.here hx rfl (hb hby at_66) kt_) ?_
  show Done p e s below _ _ _ T10 (mkF m 68 #[.val (.long q0), .second, .val (.int p1), .val (.int p2), .val (.int p3), .val (.long v), .second, .val (.int pa), .val (.int fb), .val (.ref b4), .unset, .unset] [(.int (6 : Int32)), (.ref b4)])
  refine Done.go (fun _ kt_ => XS.iload X10h.here hx rfl (hb hby at_68) rfl kt_) ?_
  show Done p e s below _ _ _ T10 (mkF m 70 #[.val (.long q0), .second, .val (.int p1), .val (.int p2), .val (.int p3), .val (.long v), .second, .val (.int pa), .val (.int fb), .val (.ref b4), .unset, .unset] [(.int fb), (.int (6 : Int32)), (.ref b4)])
  obtain ⟨T11, h11, X11, e11, W11, V11, st11⟩ := own_stB X10h hx hZ e10 V10 (j := (6 : Int32)) 6 (by decide) rfl (by omega) (g := (mkF m 70 #[.val (.long q0), .second, .val (.int p1), .val (.int p2), .val (.int p3), .val (.long v), .second, .val (.int pa), .val (.int fb), .val (.ref b4), .unset, .unset] [(.int fb), (.int (6 : Int32)), (.ref b4)])) rfl rfl (hb hby at_70)
  have N11 := Fr.snoc X11 N10h gz_b4
  have Z11 : n0 ≤ h11.size := by rw [W11.size]; exact Z10
  obtain ⟨Lh11, X11h, N11h⟩ : ∃ L, Stand p l e room_1 s m #[(.long q0), (.int p1), (.int p2), (.int p3)] below meth c T11 L 1 16 ∧ Fr n0 L := ⟨_, X11, N11⟩
  clear X11 N11 X10h e10 N10h Z10
  refine Done.go st11 ?_
  clear st11
  show Done p e s below _ _ _ T11 (mkF m 71 #[.val (.long q0), .second, .val (.int p1), .val (.int p2), .val (.int p3), .val (.long v), .second, .val (.int pa), .val (.int fb), .val (.ref b4), .unset, .unset] [])
  refine Done.go (fun _ kt_ => XS.aload X11h.here hx rfl (hb hby at_71) rfl rfl kt_) ?_
  show Done p e s below _ _ _ T11 (mkF m 73 #[.val (.long q0), .second, .val (.int p1), .val (.int p2), .val (.int p3), .val (.long v), .second, .val (.int pa), .val (.int fb), .val (.ref b4), .unset, .unset] [(.ref b4)])
  refine Done.go (fun _ kt_ => XS.bipush X11h.here hx rfl (hb hby at_73) kt_) ?_
  show Done p e s below _ _ _ T11 (mkF m 75 #[.val (.long q0), .second, .val (.int p1), .val (.int p2), .val (.int p3), .val (.long v), .second, .val (.int pa), .val (.int fb), .val (.ref b4), .unset, .unset] [(.int (7 : Int32)), (.ref b4)])
  refine Done.go (fun _ kt_ => XS.iload X11h.here hx rfl (hb hby at_75) rfl kt_) ?_
  show Done p e s below _ _ _ T11 (mkF m 77 #[.val (.long q0), .second, .val (.int p1), .val (.int p2), .val (.int p3), .val (.long v), .second, .val (.int pa), .val (.int fb), .val (.ref b4), .unset, .unset] [(.int fb), (.int (7 : Int32)), (.ref b4)])
  obtain ⟨T12, h12, X12, e12, W12, V12, st12⟩ := own_stB X11h hx hZ e11 V11 (j := (7 : Int32)) 7 (by decide) rfl (by omega) (g := (mkF m 77 #[.val (.long q0), .second, .val (.int p1), .val (.int p2), .val (.int p3), .val (.long v), .second, .val (.int pa), .val (.int fb), .val (.ref b4), .unset, .unset] [(.int fb), (.int (7 : Int32)), (.ref b4)])) rfl rfl (hb hby at_77)
  have N12 := Fr.snoc X12 N11h gz_b4
  have Z12 : n0 ≤ h12.size := by rw [W12.size]; exact Z11
  obtain ⟨Lh12, X12h, N12h⟩ : ∃ L, Stand p l e room_1 s m #[(.long q0), (.int p1), (.int p2), (.int p3)] below meth c T12 L 1 16 ∧ Fr n0 L := ⟨_, X12, N12⟩
  clear X12 N12 X11h e11 N11h Z11
  refine Done.go st12 ?_
  clear st12
  show Done p e s below _ _ _ T12 (mkF m 78 #[.val (.long q0), .second, .val (.int p1), .val (.int p2), .val (.int p3), .val (.long v), .second, .val (.int pa), .val (.int fb), .val (.ref b4), .unset, .unset] [])
  refine Done.go (fun _ kt_ => XS.aload X12h.here hx rfl (hb hby at_78) rfl rfl kt_) ?_
  show Done p e s below _ _ _ T12 (mkF m 80 #[.val (.long q0), .second, .val (.int p1), .val (.int p2), .val (.int p3), .val (.long v), .second, .val (.int pa), .val (.int fb), .val (.ref b4), .unset, .unset] [(.ref b4)])
  refine Done.go (fun _ kt_ => XS.bipush X12h.here hx rfl (hb hby at_80) kt_) ?_
  show Done p e s below _ _ _ T12 (mkF m 82 #[.val (.long q0), .second, .val (.int p1), .val (.int p2), .val (.int p3), .val (.long v), .second, .val (.int pa), .val (.int fb), .val (.ref b4), .unset, .unset] [(.int (8 : Int32)), (.ref b4)])
  refine Done.go (fun _ kt_ => XS.iload X12h.here hx rfl (hb hby at_82) rfl kt_) ?_
  show Done p e s below _ _ _ T12 (mkF m 84 #[.val (.long q0), .second, .val (.int p1), .val (.int p2), .val (.int p3), .val (.long v), .second, .val (.int pa), .val (.int fb), .val (.ref b4), .unset, .unset] [(.int fb), (.int (8 : Int32)), (.ref b4)])
  obtain ⟨T13, h13, X13, e13, W13, V13, st13⟩ := own_stB X12h hx hZ e12 V12 (j := (8 : Int32)) 8 (by decide) rfl (by omega) (g := (mkF m 84 #[.val (.long q0), .second, .val (.int p1), .val (.int p2), .val (.int p3), .val (.long v), .second, .val (.int pa), .val (.int fb), .val (.ref b4), .unset, .unset] [(.int fb), (.int (8 : Int32)), (.ref b4)])) rfl rfl (hb hby at_84)
  have N13 := Fr.snoc X13 N12h gz_b4
  have Z13 : n0 ≤ h13.size := by rw [W13.size]; exact Z12
  obtain ⟨Lh13, X13h, N13h⟩ : ∃ L, Stand p l e room_1 s m #[(.long q0), (.int p1), (.int p2), (.int p3)] below meth c T13 L 1 16 ∧ Fr n0 L := ⟨_, X13, N13⟩
  clear X13 N13 X12h e12 N12h Z12
  refine Done.go st13 ?_
  clear st13
  show Done p e s below _ _ _ T13 (mkF m 85 #[.val (.long q0), .second, .val (.int p1), .val (.int p2), .val (.int p3), .val (.long v), .second, .val (.int pa), .val (.int fb), .val (.ref b4), .unset, .unset] [])
  refine Done.go (fun _ kt_ => XS.aload X13h.here hx rfl (hb hby at_85) rfl rfl kt_) ?_
  show Done p e s below _ _ _ T13 (mkF m 87 #[.val (.long q0), .second, .val (.int p1), .val (.int p2), .val (.int p3), .val (.long v), .second, .val (.int pa), .val (.int fb), .val (.ref b4), .unset, .unset] [(.ref b4)])
  refine Done.go (fun _ kt_ => XS.bipush X13h.here hx rfl (hb hby at_87) kt_) ?_
  show Done p e s below _ _ _ T13 (mkF m 89 #[.val (.long q0), .second, .val (.int p1), .val (.int p2), .val (.int p3), .val (.long v), .second, .val (.int pa), .val (.int fb), .val (.ref b4), .unset, .unset] [(.int (9 : Int32)), (.ref b4)])
  refine Done.go (fun _ kt_ => XS.iload X13h.here hx rfl (hb hby at_89) rfl kt_) ?_
  show Done p e s below _ _ _ T13 (mkF m 91 #[.val (.long q0), .second, .val (.int p1), .val (.int p2), .val (.int p3), .val (.long v), .second, .val (.int pa), .val (.int fb), .val (.ref b4), .unset, .unset] [(.int fb), (.int (9 : Int32)), (.ref b4)])
  obtain ⟨T14, h14, X14, e14, W14, V14, st14⟩ := own_stB X13h hx hZ e13 V13 (j := (9 : Int32)) 9 (by decide) rfl (by omega) (g := (mkF m 91 #[.val (.long q0), .second, .val (.int p1), .val (.int p2), .val (.int p3), .val (.long v), .second, .val (.int pa), .val (.int fb), .val (.ref b4), .unset, .unset] [(.int fb), (.int (9 : Int32)), (.ref b4)])) rfl rfl (hb hby at_91)
  have N14 := Fr.snoc X14 N13h gz_b4
  have Z14 : n0 ≤ h14.size := by rw [W14.size]; exact Z13
  obtain ⟨Lh14, X14h, N14h⟩ : ∃ L, Stand p l e room_1 s m #[(.long q0), (.int p1), (.int p2), (.int p3)] below meth c T14 L 1 16 ∧ Fr n0 L := ⟨_, X14, N14⟩
  clear X14 N14 X13h e13 N13h Z13
  refine Done.go st14 ?_
  clear st14
  show Done p e s below _ _ _ T14 (mkF m 92 #[.val (.long q0), .second, .val (.int p1), .val (.int p2), .val (.int p3), .val (.long v), .second, .val (.int pa), .val (.int fb), .val (.ref b4), .unset, .unset] [])
  refine Done.go (fun _ kt_ => XS.aload X14h.here hx rfl (hb hby at_92) rfl rfl kt_) ?_
  show Done p e s below _ _ _ T14 (mkF m 94 #[.val (.long q0), .second, .val (.int p1), .val (.int p2), .val (.int p3), .val (.long v), .second, .val (.int pa), .val (.int fb), .val (.ref b4), .unset, .unset] [(.ref b4)])
  refine Done.go (fun _ kt_ => XS.bipush X14h.here hx rfl (hb hby at_94) kt_) ?_
  show Done p e s below _ _ _ T14 (mkF m 96 #[.val (.long q0), .second, .val (.int p1), .val (.int p2), .val (.int p3), .val (.long v), .second, .val (.int pa), .val (.int fb), .val (.ref b4), .unset, .unset] [(.int (10 : Int32)), (.ref b4)])
  refine Done.go (fun _ kt_ => XS.iload X14h.here hx rfl (hb hby at_96) rfl kt_) ?_
  show Done p e s below _ _ _ T14 (mkF m 98 #[.val (.long q0), .second, .val (.int p1), .val (.int p2), .val (.int p3), .val (.long v), .second, .val (.int pa), .val (.int fb), .val (.ref b4), .unset, .unset] [(.int fb), (.int (10 : Int32)), (.ref b4)])
  obtain ⟨T15, h15, X15, e15, W15, V15, st15⟩ := own_stB X14h hx hZ e14 V14 (j := (10 : Int32)) 10 (by decide) rfl (by omega) (g := (mkF m 98 #[.val (.long q0), .second, .val (.int p1), .val (.int p2), .val (.int p3), .val (.long v), .second, .val (.int pa), .val (.int fb), .val (.ref b4), .unset, .unset] [(.int fb), (.int (10 : Int32)), (.ref b4)])) rfl rfl (hb hby at_98)
  have N15 := Fr.snoc X15 N14h gz_b4
  have Z15 : n0 ≤ h15.size := by rw [W15.size]; exact Z14
  obtain ⟨Lh15, X15h, N15h⟩ : ∃ L, Stand p l e room_1 s m #[(.long q0), (.int p1), (.int p2), (.int p3)] below meth c T15 L 1 16 ∧ Fr n0 L := ⟨_, X15, N15⟩
  clear X15 N15 X14h e14 N14h Z14
  refine Done.go st15 ?_
  clear st15
  show Done p e s below _ _ _ T15 (mkF m 99 #[.val (.long q0), .second, .val (.int p1), .val (.int p2), .val (.int p3), .val (.long v), .second, .val (.int pa), .val (.int fb), .val (.ref b4), .unset, .unset] [])
  refine Done.go (fun _ kt_ => XS.aload X15h.here hx rfl (hb hby at_99) rfl rfl kt_) ?_
  show Done p e s below _ _ _ T15 (mkF m 101 #[.val (.long q0), .second, .val (.int p1), .val (.int p2), .val (.int p3), .val (.long v), .second, .val (.int pa), .val (.int fb), .val (.ref b4), .unset, .unset] [(.ref b4)])
  refine Done.go (fun _ kt_ => XS.bipush X15h.here hx rfl (hb hby at_101) kt_) ?_
  show Done p e s below _ _ _ T15 (mkF m 103 #[.val (.long q0), .second, .val (.int p1), .val (.int p2), .val (.int p3), .val (.long v), .second, .val (.int pa), .val (.int fb), .val (.ref b4), .unset, .unset] [(.int (11 : Int32)), (.ref b4)])
  refine Done.go (fun _ kt_ => XS.iload X15h.here hx rfl (hb hby at_103) rfl kt_) ?_
  show Done p e s below _ _ _ T15 (mkF m 105 #[.val (.long q0), .second, .val (.int p1), .val (.int p2), .val (.int p3), .val (.long v), .second, .val (.int pa), .val (.int fb), .val (.ref b4), .unset, .unset] [(.int fb), (.int (11 : Int32)), (.ref b4)])
  obtain ⟨T16, h16, X16, e16, W16, V16, st16⟩ := own_stB X15h hx hZ e15 V15 (j := (11 : Int32)) 11 (by decide) rfl (by omega) (g := (mkF m 105 #[.val (.long q0), .second, .val (.int p1), .val (.int p2), .val (.int p3), .val (.long v), .second, .val (.int pa), .val (.int fb), .val (.ref b4), .unset, .unset] [(.int fb), (.int (11 : Int32)), (.ref b4)])) rfl rfl (hb hby at_105)
  have N16 := Fr.snoc X16 N15h gz_b4
  have Z16 : n0 ≤ h16.size := by rw [W16.size]; exact Z15
  obtain ⟨Lh16, X16h, N16h⟩ : ∃ L, Stand p l e room_1 s m #[(.long q0), (.int p1), (.int p2), (.int p3)] below meth c T16 L 1 16 ∧ Fr n0 L := ⟨_, X16, N16⟩
  clear X16 N16 X15h e15 N15h Z15
  refine Done.go st16 ?_
  clear st16
  show Done p e s below _ _ _ T16 (mkF m 106 #[.val (.long q0), .second, .val (.int p1), .val (.int p2), .val (.int p3), .val (.long v), .second, .val (.int pa), .val (.int fb), .val (.ref b4), .unset, .unset] [])
  refine Done.go (fun _ kt_ => XS.aload X16h.here hx rfl (hb hby at_106) rfl rfl kt_) ?_
  show Done p e s below _ _ _ T16 (mkF m 108 #[.val (.long q0), .second, .val (.int p1), .val (.int p2), .val (.int p3), .val (.long v), .second, .val (.int pa), .val (.int fb), .val (.ref b4), .unset, .unset] [(.ref b4)])
  refine Done.go (fun _ kt_ => XS.bipush X16h.here hx rfl (hb hby at_108) kt_) ?_
  show Done p e s below _ _ _ T16 (mkF m 110 #[.val (.long q0), .second, .val (.int p1), .val (.int p2), .val (.int p3), .val (.long v), .second, .val (.int pa), .val (.int fb), .val (.ref b4), .unset, .unset] [(.int (12 : Int32)), (.ref b4)])
  refine Done.go (fun _ kt_ => XS.iload X16h.here hx rfl (hb hby at_110) rfl kt_) ?_
  show Done p e s below _ _ _ T16 (mkF m 112 #[.val (.long q0), .second, .val (.int p1), .val (.int p2), .val (.int p3), .val (.long v), .second, .val (.int pa), .val (.int fb), .val (.ref b4), .unset, .unset] [(.int fb), (.int (12 : Int32)), (.ref b4)])
  obtain ⟨T17, h17, X17, e17, W17, V17, st17⟩ := own_stB X16h hx hZ e16 V16 (j := (12 : Int32)) 12 (by decide) rfl (by omega) (g := (mkF m 112 #[.val (.long q0), .second, .val (.int p1), .val (.int p2), .val (.int p3), .val (.long v), .second, .val (.int pa), .val (.int fb), .val (.ref b4), .unset, .unset] [(.int fb), (.int (12 : Int32)), (.ref b4)])) rfl rfl (hb hby at_112)
  have N17 := Fr.snoc X17 N16h gz_b4
  have Z17 : n0 ≤ h17.size := by rw [W17.size]; exact Z16
  obtain ⟨Lh17, X17h, N17h⟩ : ∃ L, Stand p l e room_1 s m #[(.long q0), (.int p1), (.int p2), (.int p3)] below meth c T17 L 1 16 ∧ Fr n0 L := ⟨_, X17, N17⟩
  clear X17 N17 X16h e16 N16h Z16
  refine Done.go st17 ?_
  clear st17
  show Done p e s below _ _ _ T17 (mkF m 113 #[.val (.long q0), .second, .val (.int p1), .val (.int p2), .val (.int p3), .val (.long v), .second, .val (.int pa), .val (.int fb), .val (.ref b4), .unset, .unset] [])
  refine Done.go (fun _ kt_ => XS.aload X17h.here hx rfl (hb hby at_113) rfl rfl kt_) ?_
  show Done p e s below _ _ _ T17 (mkF m 115 #[.val (.long q0), .second, .val (.int p1), .val (.int p2), .val (.int p3), .val (.long v), .second, .val (.int pa), .val (.int fb), .val (.ref b4), .unset, .unset] [(.ref b4)])
  refine Done.go (fun _ kt_ => XS.bipush X17h.here hx rfl (hb hby at_115) kt_) ?_
  show Done p e s below _ _ _ T17 (mkF m 117 #[.val (.long q0), .second, .val (.int p1), .val (.int p2), .val (.int p3), .val (.long v), .second, .val (.int pa), .val (.int fb), .val (.ref b4), .unset, .unset] [(.int (13 : Int32)), (.ref b4)])
  refine Done.go (fun _ kt_ => XS.iload X17h.here hx rfl (hb hby at_117) rfl kt_) ?_
  show Done p e s below _ _ _ T17 (mkF m 119 #[.val (.long q0), .second, .val (.int p1), .val (.int p2), .val (.int p3), .val (.long v), .second, .val (.int pa), .val (.int fb), .val (.ref b4), .unset, .unset] [(.int fb), (.int (13 : Int32)), (.ref b4)])
  obtain ⟨T18, h18, X18, e18, W18, V18, st18⟩ := own_stB X17h hx hZ e17 V17 (j := (13 : Int32)) 13 (by decide) rfl (by omega) (g := (mkF m 119 #[.val (.long q0), .second, .val (.int p1), .val (.int p2), .val (.int p3), .val (.long v), .second, .val (.int pa), .val (.int fb), .val (.ref b4), .unset, .unset] [(.int fb), (.int (13 : Int32)), (.ref b4)])) rfl rfl (hb hby at_119)
  have N18 := Fr.snoc X18 N17h gz_b4
  have Z18 : n0 ≤ h18.size := by rw [W18.size]; exact Z17
  obtain ⟨Lh18, X18h, N18h⟩ : ∃ L, Stand p l e room_1 s m #[(.long q0), (.int p1), (.int p2), (.int p3)] below meth c T18 L 1 16 ∧ Fr n0 L := ⟨_, X18, N18⟩
  clear X18 N18 X17h e17 N17h Z17
  refine Done.go st18 ?_
  clear st18
  show Done p e s below _ _ _ T18 (mkF m 120 #[.val (.long q0), .second, .val (.int p1), .val (.int p2), .val (.int p3), .val (.long v), .second, .val (.int pa), .val (.int fb), .val (.ref b4), .unset, .unset] [])
  refine Done.go (fun _ kt_ => XS.aload X18h.here hx rfl (hb hby at_120) rfl rfl kt_) ?_
  show Done p e s below _ _ _ T18 (mkF m 122 #[.val (.long q0), .second, .val (.int p1), .val (.int p2), .val (.int p3), .val (.long v), .second, .val (.int pa), .val (.int fb), .val (.ref b4), .unset, .unset] [(.ref b4)])
  refine Done.go (fun _ kt_ => XS.bipush X18h.here hx rfl (hb hby at_122) kt_) ?_
  show Done p e s below _ _ _ T18 (mkF m 124 #[.val (.long q0), .second, .val (.int p1), .val (.int p2), .val (.int p3), .val (.long v), .second, .val (.int pa), .val (.int fb), .val (.ref b4), .unset, .unset] [(.int (14 : Int32)), (.ref b4)])
  refine Done.go (fun _ kt_ => XS.iload X18h.here hx rfl (hb hby at_124) rfl kt_) ?_
  show Done p e s below _ _ _ T18 (mkF m 126 #[.val (.long q0), .second, .val (.int p1), .val (.int p2), .val (.int p3), .val (.long v), .second, .val (.int pa), .val (.int fb), .val (.ref b4), .unset, .unset] [(.int fb), (.int (14 : Int32)), (.ref b4)])
  obtain ⟨T19, h19, X19, e19, W19, V19, st19⟩ := own_stB X18h hx hZ e18 V18 (j := (14 : Int32)) 14 (by decide) rfl (by omega) (g := (mkF m 126 #[.val (.long q0), .second, .val (.int p1), .val (.int p2), .val (.int p3), .val (.long v), .second, .val (.int pa), .val (.int fb), .val (.ref b4), .unset, .unset] [(.int fb), (.int (14 : Int32)), (.ref b4)])) rfl rfl (hb hby at_126)
  have N19 := Fr.snoc X19 N18h gz_b4
  have Z19 : n0 ≤ h19.size := by rw [W19.size]; exact Z18
  obtain ⟨Lh19, X19h, N19h⟩ : ∃ L, Stand p l e room_1 s m #[(.long q0), (.int p1), (.int p2), (.int p3)] below meth c T19 L 1 16 ∧ Fr n0 L := ⟨_, X19, N19⟩
  clear X19 N19 X18h e18 N18h Z18
  refine Done.go st19 ?_
  clear st19
  show Done p e s below _ _ _ T19 (mkF m 127 #[.val (.long q0), .second, .val (.int p1), .val (.int p2), .val (.int p3), .val (.long v), .second, .val (.int pa), .val (.int fb), .val (.ref b4), .unset, .unset] [])
  refine Done.go (fun _ kt_ => XS.aload X19h.here hx rfl (hb hby at_127) rfl rfl kt_) ?_
  show Done p e s below _ _ _ T19 (mkF m 129 #[.val (.long q0), .second, .val (.int p1), .val (.int p2), .val (.int p3), .val (.long v), .second, .val (.int pa), .val (.int fb), .val (.ref b4), .unset, .unset] [(.ref b4)])
  refine Done.go (fun _ kt_ => XS.bipush X19h.here hx rfl (hb hby at_129) kt_) ?_
  show Done p e s below _ _ _ T19 (mkF m 131 #[.val (.long q0), .second, .val (.int p1), .val (.int p2), .val (.int p3), .val (.long v), .second, .val (.int pa), .val (.int fb), .val (.ref b4), .unset, .unset] [(.int (15 : Int32)), (.ref b4)])
  refine Done.go (fun _ kt_ => XS.iload X19h.here hx rfl (hb hby at_131) rfl kt_) ?_
  show Done p e s below _ _ _ T19 (mkF m 133 #[.val (.long q0), .second, .val (.int p1), .val (.int p2), .val (.int p3), .val (.long v), .second, .val (.int pa), .val (.int fb), .val (.ref b4), .unset, .unset] [(.int fb), (.int (15 : Int32)), (.ref b4)])
  obtain ⟨T20, h20, X20, e20, W20, V20, st20⟩ := own_stB X19h hx hZ e19 V19 (j := (15 : Int32)) 15 (by decide) rfl (by omega) (g := (mkF m 133 #[.val (.long q0), .second, .val (.int p1), .val (.int p2), .val (.int p3), .val (.long v), .second, .val (.int pa), .val (.int fb), .val (.ref b4), .unset, .unset] [(.int fb), (.int (15 : Int32)), (.ref b4)])) rfl rfl (hb hby at_133)
  have N20 := Fr.snoc X20 N19h gz_b4
  have Z20 : n0 ≤ h20.size := by rw [W20.size]; exact Z19
  obtain ⟨Lh20, X20h, N20h⟩ : ∃ L, Stand p l e room_1 s m #[(.long q0), (.int p1), (.int p2), (.int p3)] below meth c T20 L 1 16 ∧ Fr n0 L := ⟨_, X20, N20⟩
  clear X20 N20 X19h e19 N19h Z19
  refine Done.go st20 ?_
  clear st20
  have VF : Ari Z h20 b4 .byte 16 (fun _ => fb) := V20.congr (fun i hi => by
    simp only [hfb]
    match i, hi with
    | 0, _ | 1, _ | 2, _ | 3, _ | 4, _ | 5, _ | 6, _ | 7, _ | 8, _ | 9, _ | 10, _ | 11, _ | 12, _ | 13, _ | 14, _ | 15, _ => rfl
    | i + 16, hi => omega)
  show Done p e s below _ _ _ T20 (mkF m 134 #[.val (.long q0), .second, .val (.int p1), .val (.int p2), .val (.int p3), .val (.long v), .second, .val (.int pa), .val (.int fb), .val (.ref b4), .unset, .unset] [])
  refine Done.go (fun _ kt_ => XS.lload X20h.here hx rfl (hb hby at_134) rfl kt_) ?_
  show Done p e s below _ _ _ T20 (mkF m 136 #[.val (.long q0), .second, .val (.int p1), .val (.int p2), .val (.int p3), .val (.long v), .second, .val (.int pa), .val (.int fb), .val (.ref b4), .unset, .unset] [(.long v)])
  refine Done.go (fun _ kt_ => XS.aload X20h.here hx rfl (hb hby at_136) rfl rfl kt_) ?_
  show Done p e s below _ _ _ T20 (mkF m 138 #[.val (.long q0), .second, .val (.int p1), .val (.int p2), .val (.int p3), .val (.long v), .second, .val (.int pa), .val (.int fb), .val (.ref b4), .unset, .unset] [(.ref b4), (.long v)])
  refine Done.go (fun _ kt_ => XS.iload X20h.here hx rfl (hb hby at_138) rfl kt_) ?_
  show Done p e s below _ _ _ T20 (mkF m 140 #[.val (.long q0), .second, .val (.int p1), .val (.int p2), .val (.int p3), .val (.long v), .second, .val (.int pa), .val (.int fb), .val (.ref b4), .unset, .unset] [(.int pa), (.ref b4), (.long v)])
  obtain ⟨v21, T21, Lc21, X21, hQ21, st21⟩ := own_backG (Jvm.LawKit.callS X20h hx (y := (⟨"com/example/pivotwise/pivotwise/index/ByteEncoder", "encode", "(J[BI)I"⟩ : MethodName)) hown (mvT hZ (hw _ (List.mem_of_getElem? (i := 2) rfl))) (mvT hZ (hw _ (List.mem_of_getElem? (i := 3) rfl))) (mvT hZ (hw _ (List.mem_of_getElem? (i := 4) rfl))) (mvT hZ (hw _ (List.mem_of_getElem? (i := 5) rfl))) (by decide) (backOf (W := 0) (rmE l Z a0 hw [] v b4 pa 16 (fun _ => fb) A 9 h20 n0 Z20 VF gz_b4 hA hv (own_lt63 v) (by omega) (by decide) (by decide)) hZ (hw _ (List.mem_of_getElem? (i := 5) rfl)) (hw _ (List.mem_of_getElem? (i := 4) rfl)) (by decide) (by decide)) (g := (mkF m 140 #[.val (.long q0), .second, .val (.int p1), .val (.int p2), .val (.int p3), .val (.long v), .second, .val (.int pa), .val (.int fb), .val (.ref b4), .unset, .unset] [(.int pa), (.ref b4), (.long v)])) rfl (by rw [hml]; rfl) (argsL := [(.long v), (.ref b4), (.int pa)]) (rest := []) (lenOf own_pd0 rfl) rfl (by show 2 * 0 + _ ≤ _; exact Nat.le_of_eq rfl) (hb hby at_140) (fun _ _ => ⟨rfl, e20, (by first | decide | omega : 1 + 0 ≤ _), (by first | decide | omega : 16 + 0 ≤ _)⟩))
  obtain ⟨ze, N, rfl, hze, hN1, hN9, hf, N21q, K21k, VE⟩ := hQ21
  refine Done.go st21 ?_
  clear st21
  have N21 := Fr.app N20h N21q
  clear N21q
  have Z21 : n0 ≤ T21.heap.size := Nat.le_trans Z20 K21k.1
  obtain ⟨Lh21, X21h, N21h⟩ : ∃ L, Stand p l e room_1 s m #[(.long q0), (.int p1), (.int p2), (.int p3)] below meth c T21 L 1 16 ∧ Fr n0 L := ⟨_, X21, N21⟩
  clear X21 N21 X20h e20 N20h Z20
  show Done p e s below _ _ _ T21 (mkF m 143 #[.val (.long q0), .second, .val (.int p1), .val (.int p2), .val (.int p3), .val (.long v), .second, .val (.int pa), .val (.int fb), .val (.ref b4), .unset, .unset] [(.int ze)])
  refine Done.go (fun _ kt_ => XS.istore X21h.here hx rfl (hb hby at_143) rfl (l' := #[.val (.long q0), .second, .val (.int p1), .val (.int p2), .val (.int p3), .val (.long v), .second, .val (.int pa), .val (.int fb), .val (.ref b4), .val (.int ze), .unset]) rfl kt_) ?_
  show Done p e s below _ _ _ T21 (mkF m 145 #[.val (.long q0), .second, .val (.int p1), .val (.int p2), .val (.int p3), .val (.long v), .second, .val (.int pa), .val (.int fb), .val (.ref b4), .val (.int ze), .unset] [])
  refine Done.go (fun _ kt_ => XS.lload X21h.here hx rfl (hb hby at_145) rfl kt_) ?_
  show Done p e s below _ _ _ T21 (mkF m 147 #[.val (.long q0), .second, .val (.int p1), .val (.int p2), .val (.int p3), .val (.long v), .second, .val (.int pa), .val (.int fb), .val (.ref b4), .val (.int ze), .unset] [(.long v)])
  obtain ⟨v22, T22, Lc22, X22, hQ22, st22⟩ := own_backG (Jvm.LawKit.callS X21h hx (y := (⟨"com/example/pivotwise/pivotwise/index/ByteEncoderEncodePinLaw", "length", "(J)I"⟩ : MethodName)) hown (mvT hZ (hw _ (List.mem_of_getElem? (i := 7) rfl))) (mvT hZ (hw _ (List.mem_of_getElem? (i := 8) rfl))) (mvT hZ (hw _ (List.mem_of_getElem? (i := 9) rfl))) (mvT hZ (hw _ (List.mem_of_getElem? (i := 10) rfl))) (by decide) (backOf (W := 0) (rm2 l Z a0 hw [] v T21.heap n0 Z21) hZ (hw _ (List.mem_of_getElem? (i := 10) rfl)) (hw _ (List.mem_of_getElem? (i := 9) rfl)) (by decide) (by decide)) (g := (mkF m 147 #[.val (.long q0), .second, .val (.int p1), .val (.int p2), .val (.int p3), .val (.long v), .second, .val (.int pa), .val (.int fb), .val (.ref b4), .val (.int ze), .unset] [(.long v)])) rfl (by rw [hml]; rfl) (argsL := [(.long v)]) (rest := []) (lenOf own_pd1 rfl) rfl (by show 2 * 0 + _ ≤ _; exact Nat.le_of_eq rfl) (hb hby at_147) (fun _ _ => ⟨rfl, rfl, (by first | decide | omega : 1 + 0 ≤ _), (by first | decide | omega : 16 + 0 ≤ _)⟩))
  obtain ⟨pl, M, rfl, hpl, hM1, hM9, hfM, N22q, e22⟩ := hQ22
  refine Done.go st22 ?_
  clear st22
  have N22 := Fr.app N21h N22q
  clear N22q
  obtain ⟨Lh22, X22h, N22h⟩ : ∃ L, Stand p l e room_1 s m #[(.long q0), (.int p1), (.int p2), (.int p3)] below meth c T22 L 1 16 ∧ Fr n0 L := ⟨_, X22, N22⟩
  clear X22 N22 X21h N21h
  have hNM : M = N := own_uniq hM1 hN1 hfM hf
  rw [hNM] at hpl
  show Done p e s below _ _ _ T22 (mkF m 150 #[.val (.long q0), .second, .val (.int p1), .val (.int p2), .val (.int p3), .val (.long v), .second, .val (.int pa), .val (.int fb), .val (.ref b4), .val (.int ze), .unset] [(.int pl)])
  refine Done.go (fun _ kt_ => XS.istore X22h.here hx rfl (hb hby at_150) rfl (l' := #[.val (.long q0), .second, .val (.int p1), .val (.int p2), .val (.int p3), .val (.long v), .second, .val (.int pa), .val (.int fb), .val (.ref b4), .val (.int ze), .val (.int pl)]) rfl kt_) ?_
  show Done p e s below _ _ _ T22 (mkF m 152 #[.val (.long q0), .second, .val (.int p1), .val (.int p2), .val (.int p3), .val (.long v), .second, .val (.int pa), .val (.int fb), .val (.ref b4), .val (.int ze), .val (.int pl)] [])
  refine Done.go (fun _ kt_ => XS.iload X22h.here hx rfl (hb hby at_152) rfl kt_) ?_
  show Done p e s below _ _ _ T22 (mkF m 154 #[.val (.long q0), .second, .val (.int p1), .val (.int p2), .val (.int p3), .val (.long v), .second, .val (.int pa), .val (.int fb), .val (.ref b4), .val (.int ze), .val (.int pl)] [(.int ze)])
  refine Done.go (fun _ kt_ => XS.iload X22h.here hx rfl (hb hby at_154) rfl kt_) ?_
  show Done p e s below _ _ _ T22 (mkF m 156 #[.val (.long q0), .second, .val (.int p1), .val (.int p2), .val (.int p3), .val (.long v), .second, .val (.int pa), .val (.int fb), .val (.ref b4), .val (.int ze), .val (.int pl)] [(.int pa), (.int ze)])
  refine Done.go (fun _ kt_ => XS.iload X22h.here hx rfl (hb hby at_156) rfl kt_) ?_
  show Done p e s below _ _ _ T22 (mkF m 158 #[.val (.long q0), .second, .val (.int p1), .val (.int p2), .val (.int p3), .val (.long v), .second, .val (.int pa), .val (.int fb), .val (.ref b4), .val (.int ze), .val (.int pl)] [(.int pl), (.int pa), (.int ze)])
  refine Done.go (fun _ kt_ => XS.iadd X22h.here hx rfl (hb hby at_158) rfl kt_) ?_
  show Done p e s below _ _ _ T22 (mkF m 159 #[.val (.long q0), .second, .val (.int p1), .val (.int p2), .val (.int p3), .val (.long v), .second, .val (.int pa), .val (.int fb), .val (.ref b4), .val (.int ze), .val (.int pl)] [(.int (pa + pl)), (.int ze)])
  refine Done.go (fun _ kt_ => XS.icmpYes X22h.here hx rfl (pc0 := 159) (pc' := 164) rfl (hb hby at_159) rfl (teq (Int32.toInt_inj.mp (by rw [hze, own_add hA hpl (by omega)]))).1 (by decide) (by decide) kt_) ?_
  show Done p e s below _ _ _ T22 (mkF m 164 #[.val (.long q0), .second, .val (.int p1), .val (.int p2), .val (.int p3), .val (.long v), .second, .val (.int pa), .val (.int fb), .val (.ref b4), .val (.int ze), .val (.int pl)] [])
  refine Done.go (fun _ kt_ => XS.aload X22h.here hx rfl (hb hby at_164) rfl rfl kt_) ?_
  show Done p e s below _ _ _ T22 (mkF m 166 #[.val (.long q0), .second, .val (.int p1), .val (.int p2), .val (.int p3), .val (.long v), .second, .val (.int pa), .val (.int fb), .val (.ref b4), .val (.int ze), .val (.int pl)] [(.ref b4)])
  refine Done.go (fun _ kt_ => XS.iconst X22h.here hx rfl (hb hby at_166) kt_) ?_
  show Done p e s below _ _ _ T22 (mkF m 167 #[.val (.long q0), .second, .val (.int p1), .val (.int p2), .val (.int p3), .val (.long v), .second, .val (.int pa), .val (.int fb), .val (.ref b4), .val (.int ze), .val (.int pl)] [(.int (0 : Int32)), (.ref b4)])
  refine Done.go (fun _ kt_ => XS.lload X22h.here hx rfl (hb hby at_167) rfl kt_) ?_
  show Done p e s below _ _ _ T22 (mkF m 169 #[.val (.long q0), .second, .val (.int p1), .val (.int p2), .val (.int p3), .val (.long v), .second, .val (.int pa), .val (.int fb), .val (.ref b4), .val (.int ze), .val (.int pl)] [(.long v), (.int (0 : Int32)), (.ref b4)])
  refine Done.go (fun _ kt_ => XS.iload X22h.here hx rfl (hb hby at_169) rfl kt_) ?_
  show Done p e s below _ _ _ T22 (mkF m 171 #[.val (.long q0), .second, .val (.int p1), .val (.int p2), .val (.int p3), .val (.long v), .second, .val (.int pa), .val (.int fb), .val (.ref b4), .val (.int ze), .val (.int pl)] [(.int pa), (.long v), (.int (0 : Int32)), (.ref b4)])
  refine Done.go (fun _ kt_ => XS.iload X22h.here hx rfl (hb hby at_171) rfl kt_) ?_
  show Done p e s below _ _ _ T22 (mkF m 173 #[.val (.long q0), .second, .val (.int p1), .val (.int p2), .val (.int p3), .val (.long v), .second, .val (.int pa), .val (.int fb), .val (.ref b4), .val (.int ze), .val (.int pl)] [(.int pl), (.int pa), (.long v), (.int (0 : Int32)), (.ref b4)])
  refine Done.go (fun _ kt_ => XS.iload X22h.here hx rfl (hb hby at_173) rfl kt_) ?_
  show Done p e s below _ _ _ T22 (mkF m 175 #[.val (.long q0), .second, .val (.int p1), .val (.int p2), .val (.int p3), .val (.long v), .second, .val (.int pa), .val (.int fb), .val (.ref b4), .val (.int ze), .val (.int pl)] [(.int fb), (.int pl), (.int pa), (.long v), (.int (0 : Int32)), (.ref b4)])
  obtain ⟨v23, T23, Lc23, X23, hQ23, st23⟩ := own_backG (Jvm.LawKit.callS X22h hx (y := (⟨"com/example/pivotwise/pivotwise/index/ByteEncoderEncodePinLaw", "ok", "([BIJIIB)Z"⟩ : MethodName)) hown (mvT hZ (hw _ (List.mem_of_getElem? (i := 12) rfl))) (mvT hZ (hw _ (List.mem_of_getElem? (i := 13) rfl))) (mvT hZ (hw _ (List.mem_of_getElem? (i := 9) rfl))) (mvT hZ (hw _ (List.mem_of_getElem? (i := 14) rfl))) (by decide) (backOf (W := 0) (rm3 l Z a0 hw [] b4 (0 : Int32) v pa pl fb 16 0 A N T21.heap n0 Z21 VE (by decide) hA hpl (by decide) hN1 hN9 hv hf) hZ (hw _ (List.mem_of_getElem? (i := 14) rfl)) (hw _ (List.mem_of_getElem? (i := 9) rfl)) (by decide) (by decide)) (g := (mkF m 175 #[.val (.long q0), .second, .val (.int p1), .val (.int p2), .val (.int p3), .val (.long v), .second, .val (.int pa), .val (.int fb), .val (.ref b4), .val (.int ze), .val (.int pl)] [(.int fb), (.int pl), (.int pa), (.long v), (.int (0 : Int32)), (.ref b4)])) rfl (by rw [hml]; rfl) (argsL := [(.ref b4), (.int (0 : Int32)), (.long v), (.int pa), (.int pl), (.int fb)]) (rest := []) (lenOf own_pd2 rfl) rfl (by show 2 * 0 + _ ≤ _; exact Nat.le_of_eq rfl) (hb hby at_175) (fun _ _ => ⟨rfl, e22, (by first | decide | omega : 1 + 0 ≤ _), (by first | decide | omega : 16 + 0 ≤ _)⟩))
  obtain ⟨rfl, N23q, e23⟩ := hQ23
  refine Done.go st23 ?_
  clear st23
  have N23 := Fr.app N22h N23q
  clear N23q
  obtain ⟨Lh23, X23h, N23h⟩ : ∃ L, Stand p l e room_1 s m #[(.long q0), (.int p1), (.int p2), (.int p3)] below meth c T23 L 1 16 ∧ Fr n0 L := ⟨_, X23, N23⟩
  clear X23 N23 X22h e22 N22h
  show Done p e s below _ _ _ T23 (mkF m 178 #[.val (.long q0), .second, .val (.int p1), .val (.int p2), .val (.int p3), .val (.long v), .second, .val (.int pa), .val (.int fb), .val (.ref b4), .val (.int ze), .val (.int pl)] [(.int (1 : Int32))])
  refine Done.go (fun _ kt_ => XS.ifNo X23h.here hx rfl (hb hby at_178) rfl ((if0 _ _).trans (feq (by decide)).1) kt_) ?_
  show Done p e s below _ _ _ T23 (mkF m 181 #[.val (.long q0), .second, .val (.int p1), .val (.int p2), .val (.int p3), .val (.long v), .second, .val (.int pa), .val (.int fb), .val (.ref b4), .val (.int ze), .val (.int pl)] [])
  refine Done.go (fun _ kt_ => XS.aload X23h.here hx rfl (hb hby at_181) rfl rfl kt_) ?_
  show Done p e s below _ _ _ T23 (mkF m 183 #[.val (.long q0), .second, .val (.int p1), .val (.int p2), .val (.int p3), .val (.long v), .second, .val (.int pa), .val (.int fb), .val (.ref b4), .val (.int ze), .val (.int pl)] [(.ref b4)])
  refine Done.go (fun _ kt_ => XS.iconst X23h.here hx rfl (hb hby at_183) kt_) ?_
  show Done p e s below _ _ _ T23 (mkF m 184 #[.val (.long q0), .second, .val (.int p1), .val (.int p2), .val (.int p3), .val (.long v), .second, .val (.int pa), .val (.int fb), .val (.ref b4), .val (.int ze), .val (.int pl)] [(.int (1 : Int32)), (.ref b4)])
  refine Done.go (fun _ kt_ => XS.lload X23h.here hx rfl (hb hby at_184) rfl kt_) ?_
  show Done p e s below _ _ _ T23 (mkF m 186 #[.val (.long q0), .second, .val (.int p1), .val (.int p2), .val (.int p3), .val (.long v), .second, .val (.int pa), .val (.int fb), .val (.ref b4), .val (.int ze), .val (.int pl)] [(.long v), (.int (1 : Int32)), (.ref b4)])
  refine Done.go (fun _ kt_ => XS.iload X23h.here hx rfl (hb hby at_186) rfl kt_) ?_
  show Done p e s below _ _ _ T23 (mkF m 188 #[.val (.long q0), .second, .val (.int p1), .val (.int p2), .val (.int p3), .val (.long v), .second, .val (.int pa), .val (.int fb), .val (.ref b4), .val (.int ze), .val (.int pl)] [(.int pa), (.long v), (.int (1 : Int32)), (.ref b4)])
  refine Done.go (fun _ kt_ => XS.iload X23h.here hx rfl (hb hby at_188) rfl kt_) ?_
  show Done p e s below _ _ _ T23 (mkF m 190 #[.val (.long q0), .second, .val (.int p1), .val (.int p2), .val (.int p3), .val (.long v), .second, .val (.int pa), .val (.int fb), .val (.ref b4), .val (.int ze), .val (.int pl)] [(.int pl), (.int pa), (.long v), (.int (1 : Int32)), (.ref b4)])
  refine Done.go (fun _ kt_ => XS.iload X23h.here hx rfl (hb hby at_190) rfl kt_) ?_
  show Done p e s below _ _ _ T23 (mkF m 192 #[.val (.long q0), .second, .val (.int p1), .val (.int p2), .val (.int p3), .val (.long v), .second, .val (.int pa), .val (.int fb), .val (.ref b4), .val (.int ze), .val (.int pl)] [(.int fb), (.int pl), (.int pa), (.long v), (.int (1 : Int32)), (.ref b4)])
  obtain ⟨v24, T24, Lc24, X24, hQ24, st24⟩ := own_backG (Jvm.LawKit.callS X23h hx (y := (⟨"com/example/pivotwise/pivotwise/index/ByteEncoderEncodePinLaw", "ok", "([BIJIIB)Z"⟩ : MethodName)) hown (mvT hZ (hw _ (List.mem_of_getElem? (i := 12) rfl))) (mvT hZ (hw _ (List.mem_of_getElem? (i := 13) rfl))) (mvT hZ (hw _ (List.mem_of_getElem? (i := 9) rfl))) (mvT hZ (hw _ (List.mem_of_getElem? (i := 14) rfl))) (by decide) (backOf (W := 0) (rm3 l Z a0 hw [] b4 (1 : Int32) v pa pl fb 16 1 A N T21.heap n0 Z21 VE (by decide) hA hpl (by decide) hN1 hN9 hv hf) hZ (hw _ (List.mem_of_getElem? (i := 14) rfl)) (hw _ (List.mem_of_getElem? (i := 9) rfl)) (by decide) (by decide)) (g := (mkF m 192 #[.val (.long q0), .second, .val (.int p1), .val (.int p2), .val (.int p3), .val (.long v), .second, .val (.int pa), .val (.int fb), .val (.ref b4), .val (.int ze), .val (.int pl)] [(.int fb), (.int pl), (.int pa), (.long v), (.int (1 : Int32)), (.ref b4)])) rfl (by rw [hml]; rfl) (argsL := [(.ref b4), (.int (1 : Int32)), (.long v), (.int pa), (.int pl), (.int fb)]) (rest := []) (lenOf own_pd2 rfl) rfl (by show 2 * 0 + _ ≤ _; exact Nat.le_of_eq rfl) (hb hby at_192) (fun _ _ => ⟨rfl, e23, (by first | decide | omega : 1 + 0 ≤ _), (by first | decide | omega : 16 + 0 ≤ _)⟩))
  obtain ⟨rfl, N24q, e24⟩ := hQ24
  refine Done.go st24 ?_
  clear st24
  have N24 := Fr.app N23h N24q
  clear N24q
  obtain ⟨Lh24, X24h, N24h⟩ : ∃ L, Stand p l e room_1 s m #[(.long q0), (.int p1), (.int p2), (.int p3)] below meth c T24 L 1 16 ∧ Fr n0 L := ⟨_, X24, N24⟩
  clear X24 N24 X23h e23 N23h
  show Done p e s below _ _ _ T24 (mkF m 195 #[.val (.long q0), .second, .val (.int p1), .val (.int p2), .val (.int p3), .val (.long v), .second, .val (.int pa), .val (.int fb), .val (.ref b4), .val (.int ze), .val (.int pl)] [(.int (1 : Int32))])
  refine Done.go (fun _ kt_ => XS.ifNo X24h.here hx rfl (hb hby at_195) rfl ((if0 _ _).trans (feq (by decide)).1) kt_) ?_
  show Done p e s below _ _ _ T24 (mkF m 198 #[.val (.long q0), .second, .val (.int p1), .val (.int p2), .val (.int p3), .val (.long v), .second, .val (.int pa), .val (.int fb), .val (.ref b4), .val (.int ze), .val (.int pl)] [])
  refine Done.go (fun _ kt_ => XS.aload X24h.here hx rfl (hb hby at_198) rfl rfl kt_) ?_
  show Done p e s below _ _ _ T24 (mkF m 200 #[.val (.long q0), .second, .val (.int p1), .val (.int p2), .val (.int p3), .val (.long v), .second, .val (.int pa), .val (.int fb), .val (.ref b4), .val (.int ze), .val (.int pl)] [(.ref b4)])
  refine Done.go (fun _ kt_ => XS.iconst X24h.here hx rfl (hb hby at_200) kt_) ?_
  show Done p e s below _ _ _ T24 (mkF m 201 #[.val (.long q0), .second, .val (.int p1), .val (.int p2), .val (.int p3), .val (.long v), .second, .val (.int pa), .val (.int fb), .val (.ref b4), .val (.int ze), .val (.int pl)] [(.int (2 : Int32)), (.ref b4)])
  refine Done.go (fun _ kt_ => XS.lload X24h.here hx rfl (hb hby at_201) rfl kt_) ?_
  show Done p e s below _ _ _ T24 (mkF m 203 #[.val (.long q0), .second, .val (.int p1), .val (.int p2), .val (.int p3), .val (.long v), .second, .val (.int pa), .val (.int fb), .val (.ref b4), .val (.int ze), .val (.int pl)] [(.long v), (.int (2 : Int32)), (.ref b4)])
  refine Done.go (fun _ kt_ => XS.iload X24h.here hx rfl (hb hby at_203) rfl kt_) ?_
  show Done p e s below _ _ _ T24 (mkF m 205 #[.val (.long q0), .second, .val (.int p1), .val (.int p2), .val (.int p3), .val (.long v), .second, .val (.int pa), .val (.int fb), .val (.ref b4), .val (.int ze), .val (.int pl)] [(.int pa), (.long v), (.int (2 : Int32)), (.ref b4)])
  refine Done.go (fun _ kt_ => XS.iload X24h.here hx rfl (hb hby at_205) rfl kt_) ?_
  show Done p e s below _ _ _ T24 (mkF m 207 #[.val (.long q0), .second, .val (.int p1), .val (.int p2), .val (.int p3), .val (.long v), .second, .val (.int pa), .val (.int fb), .val (.ref b4), .val (.int ze), .val (.int pl)] [(.int pl), (.int pa), (.long v), (.int (2 : Int32)), (.ref b4)])
  refine Done.go (fun _ kt_ => XS.iload X24h.here hx rfl (hb hby at_207) rfl kt_) ?_
  show Done p e s below _ _ _ T24 (mkF m 209 #[.val (.long q0), .second, .val (.int p1), .val (.int p2), .val (.int p3), .val (.long v), .second, .val (.int pa), .val (.int fb), .val (.ref b4), .val (.int ze), .val (.int pl)] [(.int fb), (.int pl), (.int pa), (.long v), (.int (2 : Int32)), (.ref b4)])
  obtain ⟨v25, T25, Lc25, X25, hQ25, st25⟩ := own_backG (Jvm.LawKit.callS X24h hx (y := (⟨"com/example/pivotwise/pivotwise/index/ByteEncoderEncodePinLaw", "ok", "([BIJIIB)Z"⟩ : MethodName)) hown (mvT hZ (hw _ (List.mem_of_getElem? (i := 12) rfl))) (mvT hZ (hw _ (List.mem_of_getElem? (i := 13) rfl))) (mvT hZ (hw _ (List.mem_of_getElem? (i := 9) rfl))) (mvT hZ (hw _ (List.mem_of_getElem? (i := 14) rfl))) (by decide) (backOf (W := 0) (rm3 l Z a0 hw [] b4 (2 : Int32) v pa pl fb 16 2 A N T21.heap n0 Z21 VE (by decide) hA hpl (by decide) hN1 hN9 hv hf) hZ (hw _ (List.mem_of_getElem? (i := 14) rfl)) (hw _ (List.mem_of_getElem? (i := 9) rfl)) (by decide) (by decide)) (g := (mkF m 209 #[.val (.long q0), .second, .val (.int p1), .val (.int p2), .val (.int p3), .val (.long v), .second, .val (.int pa), .val (.int fb), .val (.ref b4), .val (.int ze), .val (.int pl)] [(.int fb), (.int pl), (.int pa), (.long v), (.int (2 : Int32)), (.ref b4)])) rfl (by rw [hml]; rfl) (argsL := [(.ref b4), (.int (2 : Int32)), (.long v), (.int pa), (.int pl), (.int fb)]) (rest := []) (lenOf own_pd2 rfl) rfl (by show 2 * 0 + _ ≤ _; exact Nat.le_of_eq rfl) (hb hby at_209) (fun _ _ => ⟨rfl, e24, (by first | decide | omega : 1 + 0 ≤ _), (by first | decide | omega : 16 + 0 ≤ _)⟩))
  obtain ⟨rfl, N25q, e25⟩ := hQ25
  refine Done.go st25 ?_
  clear st25
  have N25 := Fr.app N24h N25q
  clear N25q
  obtain ⟨Lh25, X25h, N25h⟩ : ∃ L, Stand p l e room_1 s m #[(.long q0), (.int p1), (.int p2), (.int p3)] below meth c T25 L 1 16 ∧ Fr n0 L := ⟨_, X25, N25⟩
  clear X25 N25 X24h e24 N24h
  show Done p e s below _ _ _ T25 (mkF m 212 #[.val (.long q0), .second, .val (.int p1), .val (.int p2), .val (.int p3), .val (.long v), .second, .val (.int pa), .val (.int fb), .val (.ref b4), .val (.int ze), .val (.int pl)] [(.int (1 : Int32))])
  refine Done.go (fun _ kt_ => XS.ifNo X25h.here hx rfl (hb hby at_212) rfl ((if0 _ _).trans (feq (by decide)).1) kt_) ?_
  show Done p e s below _ _ _ T25 (mkF m 215 #[.val (.long q0), .second, .val (.int p1), .val (.int p2), .val (.int p3), .val (.long v), .second, .val (.int pa), .val (.int fb), .val (.ref b4), .val (.int ze), .val (.int pl)] [])
  refine Done.go (fun _ kt_ => XS.aload X25h.here hx rfl (hb hby at_215) rfl rfl kt_) ?_
  show Done p e s below _ _ _ T25 (mkF m 217 #[.val (.long q0), .second, .val (.int p1), .val (.int p2), .val (.int p3), .val (.long v), .second, .val (.int pa), .val (.int fb), .val (.ref b4), .val (.int ze), .val (.int pl)] [(.ref b4)])
  refine Done.go (fun _ kt_ => XS.iconst X25h.here hx rfl (hb hby at_217) kt_) ?_
  show Done p e s below _ _ _ T25 (mkF m 218 #[.val (.long q0), .second, .val (.int p1), .val (.int p2), .val (.int p3), .val (.long v), .second, .val (.int pa), .val (.int fb), .val (.ref b4), .val (.int ze), .val (.int pl)] [(.int (3 : Int32)), (.ref b4)])
  refine Done.go (fun _ kt_ => XS.lload X25h.here hx rfl (hb hby at_218) rfl kt_) ?_
  show Done p e s below _ _ _ T25 (mkF m 220 #[.val (.long q0), .second, .val (.int p1), .val (.int p2), .val (.int p3), .val (.long v), .second, .val (.int pa), .val (.int fb), .val (.ref b4), .val (.int ze), .val (.int pl)] [(.long v), (.int (3 : Int32)), (.ref b4)])
  refine Done.go (fun _ kt_ => XS.iload X25h.here hx rfl (hb hby at_220) rfl kt_) ?_
  show Done p e s below _ _ _ T25 (mkF m 222 #[.val (.long q0), .second, .val (.int p1), .val (.int p2), .val (.int p3), .val (.long v), .second, .val (.int pa), .val (.int fb), .val (.ref b4), .val (.int ze), .val (.int pl)] [(.int pa), (.long v), (.int (3 : Int32)), (.ref b4)])
  refine Done.go (fun _ kt_ => XS.iload X25h.here hx rfl (hb hby at_222) rfl kt_) ?_
  show Done p e s below _ _ _ T25 (mkF m 224 #[.val (.long q0), .second, .val (.int p1), .val (.int p2), .val (.int p3), .val (.long v), .second, .val (.int pa), .val (.int fb), .val (.ref b4), .val (.int ze), .val (.int pl)] [(.int pl), (.int pa), (.long v), (.int (3 : Int32)), (.ref b4)])
  refine Done.go (fun _ kt_ => XS.iload X25h.here hx rfl (hb hby at_224) rfl kt_) ?_
  show Done p e s below _ _ _ T25 (mkF m 226 #[.val (.long q0), .second, .val (.int p1), .val (.int p2), .val (.int p3), .val (.long v), .second, .val (.int pa), .val (.int fb), .val (.ref b4), .val (.int ze), .val (.int pl)] [(.int fb), (.int pl), (.int pa), (.long v), (.int (3 : Int32)), (.ref b4)])
  obtain ⟨v26, T26, Lc26, X26, hQ26, st26⟩ := own_backG (Jvm.LawKit.callS X25h hx (y := (⟨"com/example/pivotwise/pivotwise/index/ByteEncoderEncodePinLaw", "ok", "([BIJIIB)Z"⟩ : MethodName)) hown (mvT hZ (hw _ (List.mem_of_getElem? (i := 12) rfl))) (mvT hZ (hw _ (List.mem_of_getElem? (i := 13) rfl))) (mvT hZ (hw _ (List.mem_of_getElem? (i := 9) rfl))) (mvT hZ (hw _ (List.mem_of_getElem? (i := 14) rfl))) (by decide) (backOf (W := 0) (rm3 l Z a0 hw [] b4 (3 : Int32) v pa pl fb 16 3 A N T21.heap n0 Z21 VE (by decide) hA hpl (by decide) hN1 hN9 hv hf) hZ (hw _ (List.mem_of_getElem? (i := 14) rfl)) (hw _ (List.mem_of_getElem? (i := 9) rfl)) (by decide) (by decide)) (g := (mkF m 226 #[.val (.long q0), .second, .val (.int p1), .val (.int p2), .val (.int p3), .val (.long v), .second, .val (.int pa), .val (.int fb), .val (.ref b4), .val (.int ze), .val (.int pl)] [(.int fb), (.int pl), (.int pa), (.long v), (.int (3 : Int32)), (.ref b4)])) rfl (by rw [hml]; rfl) (argsL := [(.ref b4), (.int (3 : Int32)), (.long v), (.int pa), (.int pl), (.int fb)]) (rest := []) (lenOf own_pd2 rfl) rfl (by show 2 * 0 + _ ≤ _; exact Nat.le_of_eq rfl) (hb hby at_226) (fun _ _ => ⟨rfl, e25, (by first | decide | omega : 1 + 0 ≤ _), (by first | decide | omega : 16 + 0 ≤ _)⟩))
  obtain ⟨rfl, N26q, e26⟩ := hQ26
  refine Done.go st26 ?_
  clear st26
  have N26 := Fr.app N25h N26q
  clear N26q
  obtain ⟨Lh26, X26h, N26h⟩ : ∃ L, Stand p l e room_1 s m #[(.long q0), (.int p1), (.int p2), (.int p3)] below meth c T26 L 1 16 ∧ Fr n0 L := ⟨_, X26, N26⟩
  clear X26 N26 X25h e25 N25h
  show Done p e s below _ _ _ T26 (mkF m 229 #[.val (.long q0), .second, .val (.int p1), .val (.int p2), .val (.int p3), .val (.long v), .second, .val (.int pa), .val (.int fb), .val (.ref b4), .val (.int ze), .val (.int pl)] [(.int (1 : Int32))])
  refine Done.go (fun _ kt_ => XS.ifNo X26h.here hx rfl (hb hby at_229) rfl ((if0 _ _).trans (feq (by decide)).1) kt_) ?_
  show Done p e s below _ _ _ T26 (mkF m 232 #[.val (.long q0), .second, .val (.int p1), .val (.int p2), .val (.int p3), .val (.long v), .second, .val (.int pa), .val (.int fb), .val (.ref b4), .val (.int ze), .val (.int pl)] [])
  refine Done.go (fun _ kt_ => XS.aload X26h.here hx rfl (hb hby at_232) rfl rfl kt_) ?_
  show Done p e s below _ _ _ T26 (mkF m 234 #[.val (.long q0), .second, .val (.int p1), .val (.int p2), .val (.int p3), .val (.long v), .second, .val (.int pa), .val (.int fb), .val (.ref b4), .val (.int ze), .val (.int pl)] [(.ref b4)])
  refine Done.go (fun _ kt_ => XS.iconst X26h.here hx rfl (hb hby at_234) kt_) ?_
  show Done p e s below _ _ _ T26 (mkF m 235 #[.val (.long q0), .second, .val (.int p1), .val (.int p2), .val (.int p3), .val (.long v), .second, .val (.int pa), .val (.int fb), .val (.ref b4), .val (.int ze), .val (.int pl)] [(.int (4 : Int32)), (.ref b4)])
  refine Done.go (fun _ kt_ => XS.lload X26h.here hx rfl (hb hby at_235) rfl kt_) ?_
  show Done p e s below _ _ _ T26 (mkF m 237 #[.val (.long q0), .second, .val (.int p1), .val (.int p2), .val (.int p3), .val (.long v), .second, .val (.int pa), .val (.int fb), .val (.ref b4), .val (.int ze), .val (.int pl)] [(.long v), (.int (4 : Int32)), (.ref b4)])
  refine Done.go (fun _ kt_ => XS.iload X26h.here hx rfl (hb hby at_237) rfl kt_) ?_
  show Done p e s below _ _ _ T26 (mkF m 239 #[.val (.long q0), .second, .val (.int p1), .val (.int p2), .val (.int p3), .val (.long v), .second, .val (.int pa), .val (.int fb), .val (.ref b4), .val (.int ze), .val (.int pl)] [(.int pa), (.long v), (.int (4 : Int32)), (.ref b4)])
  refine Done.go (fun _ kt_ => XS.iload X26h.here hx rfl (hb hby at_239) rfl kt_) ?_
  show Done p e s below _ _ _ T26 (mkF m 241 #[.val (.long q0), .second, .val (.int p1), .val (.int p2), .val (.int p3), .val (.long v), .second, .val (.int pa), .val (.int fb), .val (.ref b4), .val (.int ze), .val (.int pl)] [(.int pl), (.int pa), (.long v), (.int (4 : Int32)), (.ref b4)])
  refine Done.go (fun _ kt_ => XS.iload X26h.here hx rfl (hb hby at_241) rfl kt_) ?_
  show Done p e s below _ _ _ T26 (mkF m 243 #[.val (.long q0), .second, .val (.int p1), .val (.int p2), .val (.int p3), .val (.long v), .second, .val (.int pa), .val (.int fb), .val (.ref b4), .val (.int ze), .val (.int pl)] [(.int fb), (.int pl), (.int pa), (.long v), (.int (4 : Int32)), (.ref b4)])
  obtain ⟨v27, T27, Lc27, X27, hQ27, st27⟩ := own_backG (Jvm.LawKit.callS X26h hx (y := (⟨"com/example/pivotwise/pivotwise/index/ByteEncoderEncodePinLaw", "ok", "([BIJIIB)Z"⟩ : MethodName)) hown (mvT hZ (hw _ (List.mem_of_getElem? (i := 12) rfl))) (mvT hZ (hw _ (List.mem_of_getElem? (i := 13) rfl))) (mvT hZ (hw _ (List.mem_of_getElem? (i := 9) rfl))) (mvT hZ (hw _ (List.mem_of_getElem? (i := 14) rfl))) (by decide) (backOf (W := 0) (rm3 l Z a0 hw [] b4 (4 : Int32) v pa pl fb 16 4 A N T21.heap n0 Z21 VE (by decide) hA hpl (by decide) hN1 hN9 hv hf) hZ (hw _ (List.mem_of_getElem? (i := 14) rfl)) (hw _ (List.mem_of_getElem? (i := 9) rfl)) (by decide) (by decide)) (g := (mkF m 243 #[.val (.long q0), .second, .val (.int p1), .val (.int p2), .val (.int p3), .val (.long v), .second, .val (.int pa), .val (.int fb), .val (.ref b4), .val (.int ze), .val (.int pl)] [(.int fb), (.int pl), (.int pa), (.long v), (.int (4 : Int32)), (.ref b4)])) rfl (by rw [hml]; rfl) (argsL := [(.ref b4), (.int (4 : Int32)), (.long v), (.int pa), (.int pl), (.int fb)]) (rest := []) (lenOf own_pd2 rfl) rfl (by show 2 * 0 + _ ≤ _; exact Nat.le_of_eq rfl) (hb hby at_243) (fun _ _ => ⟨rfl, e26, (by first | decide | omega : 1 + 0 ≤ _), (by first | decide | omega : 16 + 0 ≤ _)⟩))
  obtain ⟨rfl, N27q, e27⟩ := hQ27
  refine Done.go st27 ?_
  clear st27
  have N27 := Fr.app N26h N27q
  clear N27q
  obtain ⟨Lh27, X27h, N27h⟩ : ∃ L, Stand p l e room_1 s m #[(.long q0), (.int p1), (.int p2), (.int p3)] below meth c T27 L 1 16 ∧ Fr n0 L := ⟨_, X27, N27⟩
  clear X27 N27 X26h e26 N26h
  show Done p e s below _ _ _ T27 (mkF m 246 #[.val (.long q0), .second, .val (.int p1), .val (.int p2), .val (.int p3), .val (.long v), .second, .val (.int pa), .val (.int fb), .val (.ref b4), .val (.int ze), .val (.int pl)] [(.int (1 : Int32))])
  refine Done.go (fun _ kt_ => XS.ifNo X27h.here hx rfl (hb hby at_246) rfl ((if0 _ _).trans (feq (by decide)).1) kt_) ?_
  show Done p e s below _ _ _ T27 (mkF m 249 #[.val (.long q0), .second, .val (.int p1), .val (.int p2), .val (.int p3), .val (.long v), .second, .val (.int pa), .val (.int fb), .val (.ref b4), .val (.int ze), .val (.int pl)] [])
  refine Done.go (fun _ kt_ => XS.aload X27h.here hx rfl (hb hby at_249) rfl rfl kt_) ?_
  show Done p e s below _ _ _ T27 (mkF m 251 #[.val (.long q0), .second, .val (.int p1), .val (.int p2), .val (.int p3), .val (.long v), .second, .val (.int pa), .val (.int fb), .val (.ref b4), .val (.int ze), .val (.int pl)] [(.ref b4)])
  refine Done.go (fun _ kt_ => XS.iconst X27h.here hx rfl (hb hby at_251) kt_) ?_
  show Done p e s below _ _ _ T27 (mkF m 252 #[.val (.long q0), .second, .val (.int p1), .val (.int p2), .val (.int p3), .val (.long v), .second, .val (.int pa), .val (.int fb), .val (.ref b4), .val (.int ze), .val (.int pl)] [(.int (5 : Int32)), (.ref b4)])
  refine Done.go (fun _ kt_ => XS.lload X27h.here hx rfl (hb hby at_252) rfl kt_) ?_
  show Done p e s below _ _ _ T27 (mkF m 254 #[.val (.long q0), .second, .val (.int p1), .val (.int p2), .val (.int p3), .val (.long v), .second, .val (.int pa), .val (.int fb), .val (.ref b4), .val (.int ze), .val (.int pl)] [(.long v), (.int (5 : Int32)), (.ref b4)])
  refine Done.go (fun _ kt_ => XS.iload X27h.here hx rfl (hb hby at_254) rfl kt_) ?_
  show Done p e s below _ _ _ T27 (mkF m 256 #[.val (.long q0), .second, .val (.int p1), .val (.int p2), .val (.int p3), .val (.long v), .second, .val (.int pa), .val (.int fb), .val (.ref b4), .val (.int ze), .val (.int pl)] [(.int pa), (.long v), (.int (5 : Int32)), (.ref b4)])
  refine Done.go (fun _ kt_ => XS.iload X27h.here hx rfl (hb hby at_256) rfl kt_) ?_
  show Done p e s below _ _ _ T27 (mkF m 258 #[.val (.long q0), .second, .val (.int p1), .val (.int p2), .val (.int p3), .val (.long v), .second, .val (.int pa), .val (.int fb), .val (.ref b4), .val (.int ze), .val (.int pl)] [(.int pl), (.int pa), (.long v), (.int (5 : Int32)), (.ref b4)])
  refine Done.go (fun _ kt_ => XS.iload X27h.here hx rfl (hb hby at_258) rfl kt_) ?_
  show Done p e s below _ _ _ T27 (mkF m 260 #[.val (.long q0), .second, .val (.int p1), .val (.int p2), .val (.int p3), .val (.long v), .second, .val (.int pa), .val (.int fb), .val (.ref b4), .val (.int ze), .val (.int pl)] [(.int fb), (.int pl), (.int pa), (.long v), (.int (5 : Int32)), (.ref b4)])
  obtain ⟨v28, T28, Lc28, X28, hQ28, st28⟩ := own_backG (Jvm.LawKit.callS X27h hx (y := (⟨"com/example/pivotwise/pivotwise/index/ByteEncoderEncodePinLaw", "ok", "([BIJIIB)Z"⟩ : MethodName)) hown (mvT hZ (hw _ (List.mem_of_getElem? (i := 12) rfl))) (mvT hZ (hw _ (List.mem_of_getElem? (i := 13) rfl))) (mvT hZ (hw _ (List.mem_of_getElem? (i := 9) rfl))) (mvT hZ (hw _ (List.mem_of_getElem? (i := 14) rfl))) (by decide) (backOf (W := 0) (rm3 l Z a0 hw [] b4 (5 : Int32) v pa pl fb 16 5 A N T21.heap n0 Z21 VE (by decide) hA hpl (by decide) hN1 hN9 hv hf) hZ (hw _ (List.mem_of_getElem? (i := 14) rfl)) (hw _ (List.mem_of_getElem? (i := 9) rfl)) (by decide) (by decide)) (g := (mkF m 260 #[.val (.long q0), .second, .val (.int p1), .val (.int p2), .val (.int p3), .val (.long v), .second, .val (.int pa), .val (.int fb), .val (.ref b4), .val (.int ze), .val (.int pl)] [(.int fb), (.int pl), (.int pa), (.long v), (.int (5 : Int32)), (.ref b4)])) rfl (by rw [hml]; rfl) (argsL := [(.ref b4), (.int (5 : Int32)), (.long v), (.int pa), (.int pl), (.int fb)]) (rest := []) (lenOf own_pd2 rfl) rfl (by show 2 * 0 + _ ≤ _; exact Nat.le_of_eq rfl) (hb hby at_260) (fun _ _ => ⟨rfl, e27, (by first | decide | omega : 1 + 0 ≤ _), (by first | decide | omega : 16 + 0 ≤ _)⟩))
  obtain ⟨rfl, N28q, e28⟩ := hQ28
  refine Done.go st28 ?_
  clear st28
  have N28 := Fr.app N27h N28q
  clear N28q
  obtain ⟨Lh28, X28h, N28h⟩ : ∃ L, Stand p l e room_1 s m #[(.long q0), (.int p1), (.int p2), (.int p3)] below meth c T28 L 1 16 ∧ Fr n0 L := ⟨_, X28, N28⟩
  clear X28 N28 X27h e27 N27h
  show Done p e s below _ _ _ T28 (mkF m 263 #[.val (.long q0), .second, .val (.int p1), .val (.int p2), .val (.int p3), .val (.long v), .second, .val (.int pa), .val (.int fb), .val (.ref b4), .val (.int ze), .val (.int pl)] [(.int (1 : Int32))])
  refine Done.go (fun _ kt_ => XS.ifNo X28h.here hx rfl (hb hby at_263) rfl ((if0 _ _).trans (feq (by decide)).1) kt_) ?_
  show Done p e s below _ _ _ T28 (mkF m 266 #[.val (.long q0), .second, .val (.int p1), .val (.int p2), .val (.int p3), .val (.long v), .second, .val (.int pa), .val (.int fb), .val (.ref b4), .val (.int ze), .val (.int pl)] [])
  refine Done.go (fun _ kt_ => XS.aload X28h.here hx rfl (hb hby at_266) rfl rfl kt_) ?_
  show Done p e s below _ _ _ T28 (mkF m 268 #[.val (.long q0), .second, .val (.int p1), .val (.int p2), .val (.int p3), .val (.long v), .second, .val (.int pa), .val (.int fb), .val (.ref b4), .val (.int ze), .val (.int pl)] [(.ref b4)])
  refine Done.go (fun _ kt_ => XS.bipush X28h.here hx rfl (hb hby at_268) kt_) ?_
  show Done p e s below _ _ _ T28 (mkF m 270 #[.val (.long q0), .second, .val (.int p1), .val (.int p2), .val (.int p3), .val (.long v), .second, .val (.int pa), .val (.int fb), .val (.ref b4), .val (.int ze), .val (.int pl)] [(.int (6 : Int32)), (.ref b4)])
  refine Done.go (fun _ kt_ => XS.lload X28h.here hx rfl (hb hby at_270) rfl kt_) ?_
  show Done p e s below _ _ _ T28 (mkF m 272 #[.val (.long q0), .second, .val (.int p1), .val (.int p2), .val (.int p3), .val (.long v), .second, .val (.int pa), .val (.int fb), .val (.ref b4), .val (.int ze), .val (.int pl)] [(.long v), (.int (6 : Int32)), (.ref b4)])
  refine Done.go (fun _ kt_ => XS.iload X28h.here hx rfl (hb hby at_272) rfl kt_) ?_
  show Done p e s below _ _ _ T28 (mkF m 274 #[.val (.long q0), .second, .val (.int p1), .val (.int p2), .val (.int p3), .val (.long v), .second, .val (.int pa), .val (.int fb), .val (.ref b4), .val (.int ze), .val (.int pl)] [(.int pa), (.long v), (.int (6 : Int32)), (.ref b4)])
  refine Done.go (fun _ kt_ => XS.iload X28h.here hx rfl (hb hby at_274) rfl kt_) ?_
  show Done p e s below _ _ _ T28 (mkF m 276 #[.val (.long q0), .second, .val (.int p1), .val (.int p2), .val (.int p3), .val (.long v), .second, .val (.int pa), .val (.int fb), .val (.ref b4), .val (.int ze), .val (.int pl)] [(.int pl), (.int pa), (.long v), (.int (6 : Int32)), (.ref b4)])
  refine Done.go (fun _ kt_ => XS.iload X28h.here hx rfl (hb hby at_276) rfl kt_) ?_
  show Done p e s below _ _ _ T28 (mkF m 278 #[.val (.long q0), .second, .val (.int p1), .val (.int p2), .val (.int p3), .val (.long v), .second, .val (.int pa), .val (.int fb), .val (.ref b4), .val (.int ze), .val (.int pl)] [(.int fb), (.int pl), (.int pa), (.long v), (.int (6 : Int32)), (.ref b4)])
  obtain ⟨v29, T29, Lc29, X29, hQ29, st29⟩ := own_backG (Jvm.LawKit.callS X28h hx (y := (⟨"com/example/pivotwise/pivotwise/index/ByteEncoderEncodePinLaw", "ok", "([BIJIIB)Z"⟩ : MethodName)) hown (mvT hZ (hw _ (List.mem_of_getElem? (i := 12) rfl))) (mvT hZ (hw _ (List.mem_of_getElem? (i := 13) rfl))) (mvT hZ (hw _ (List.mem_of_getElem? (i := 9) rfl))) (mvT hZ (hw _ (List.mem_of_getElem? (i := 14) rfl))) (by decide) (backOf (W := 0) (rm3 l Z a0 hw [] b4 (6 : Int32) v pa pl fb 16 6 A N T21.heap n0 Z21 VE (by decide) hA hpl (by decide) hN1 hN9 hv hf) hZ (hw _ (List.mem_of_getElem? (i := 14) rfl)) (hw _ (List.mem_of_getElem? (i := 9) rfl)) (by decide) (by decide)) (g := (mkF m 278 #[.val (.long q0), .second, .val (.int p1), .val (.int p2), .val (.int p3), .val (.long v), .second, .val (.int pa), .val (.int fb), .val (.ref b4), .val (.int ze), .val (.int pl)] [(.int fb), (.int pl), (.int pa), (.long v), (.int (6 : Int32)), (.ref b4)])) rfl (by rw [hml]; rfl) (argsL := [(.ref b4), (.int (6 : Int32)), (.long v), (.int pa), (.int pl), (.int fb)]) (rest := []) (lenOf own_pd2 rfl) rfl (by show 2 * 0 + _ ≤ _; exact Nat.le_of_eq rfl) (hb hby at_278) (fun _ _ => ⟨rfl, e28, (by first | decide | omega : 1 + 0 ≤ _), (by first | decide | omega : 16 + 0 ≤ _)⟩))
  obtain ⟨rfl, N29q, e29⟩ := hQ29
  refine Done.go st29 ?_
  clear st29
  have N29 := Fr.app N28h N29q
  clear N29q
  obtain ⟨Lh29, X29h, N29h⟩ : ∃ L, Stand p l e room_1 s m #[(.long q0), (.int p1), (.int p2), (.int p3)] below meth c T29 L 1 16 ∧ Fr n0 L := ⟨_, X29, N29⟩
  clear X29 N29 X28h e28 N28h
  show Done p e s below _ _ _ T29 (mkF m 281 #[.val (.long q0), .second, .val (.int p1), .val (.int p2), .val (.int p3), .val (.long v), .second, .val (.int pa), .val (.int fb), .val (.ref b4), .val (.int ze), .val (.int pl)] [(.int (1 : Int32))])
  refine Done.go (fun _ kt_ => XS.ifNo X29h.here hx rfl (hb hby at_281) rfl ((if0 _ _).trans (feq (by decide)).1) kt_) ?_
  show Done p e s below _ _ _ T29 (mkF m 284 #[.val (.long q0), .second, .val (.int p1), .val (.int p2), .val (.int p3), .val (.long v), .second, .val (.int pa), .val (.int fb), .val (.ref b4), .val (.int ze), .val (.int pl)] [])
  refine Done.go (fun _ kt_ => XS.aload X29h.here hx rfl (hb hby at_284) rfl rfl kt_) ?_
  show Done p e s below _ _ _ T29 (mkF m 286 #[.val (.long q0), .second, .val (.int p1), .val (.int p2), .val (.int p3), .val (.long v), .second, .val (.int pa), .val (.int fb), .val (.ref b4), .val (.int ze), .val (.int pl)] [(.ref b4)])
  refine Done.go (fun _ kt_ => XS.bipush X29h.here hx rfl (hb hby at_286) kt_) ?_
  show Done p e s below _ _ _ T29 (mkF m 288 #[.val (.long q0), .second, .val (.int p1), .val (.int p2), .val (.int p3), .val (.long v), .second, .val (.int pa), .val (.int fb), .val (.ref b4), .val (.int ze), .val (.int pl)] [(.int (7 : Int32)), (.ref b4)])
  refine Done.go (fun _ kt_ => XS.lload X29h.here hx rfl (hb hby at_288) rfl kt_) ?_
  show Done p e s below _ _ _ T29 (mkF m 290 #[.val (.long q0), .second, .val (.int p1), .val (.int p2), .val (.int p3), .val (.long v), .second, .val (.int pa), .val (.int fb), .val (.ref b4), .val (.int ze), .val (.int pl)] [(.long v), (.int (7 : Int32)), (.ref b4)])
  refine Done.go (fun _ kt_ => XS.iload X29h.here hx rfl (hb hby at_290) rfl kt_) ?_
  show Done p e s below _ _ _ T29 (mkF m 292 #[.val (.long q0), .second, .val (.int p1), .val (.int p2), .val (.int p3), .val (.long v), .second, .val (.int pa), .val (.int fb), .val (.ref b4), .val (.int ze), .val (.int pl)] [(.int pa), (.long v), (.int (7 : Int32)), (.ref b4)])
  refine Done.go (fun _ kt_ => XS.iload X29h.here hx rfl (hb hby at_292) rfl kt_) ?_
  show Done p e s below _ _ _ T29 (mkF m 294 #[.val (.long q0), .second, .val (.int p1), .val (.int p2), .val (.int p3), .val (.long v), .second, .val (.int pa), .val (.int fb), .val (.ref b4), .val (.int ze), .val (.int pl)] [(.int pl), (.int pa), (.long v), (.int (7 : Int32)), (.ref b4)])
  refine Done.go (fun _ kt_ => XS.iload X29h.here hx rfl (hb hby at_294) rfl kt_) ?_
  show Done p e s below _ _ _ T29 (mkF m 296 #[.val (.long q0), .second, .val (.int p1), .val (.int p2), .val (.int p3), .val (.long v), .second, .val (.int pa), .val (.int fb), .val (.ref b4), .val (.int ze), .val (.int pl)] [(.int fb), (.int pl), (.int pa), (.long v), (.int (7 : Int32)), (.ref b4)])
  obtain ⟨v30, T30, Lc30, X30, hQ30, st30⟩ := own_backG (Jvm.LawKit.callS X29h hx (y := (⟨"com/example/pivotwise/pivotwise/index/ByteEncoderEncodePinLaw", "ok", "([BIJIIB)Z"⟩ : MethodName)) hown (mvT hZ (hw _ (List.mem_of_getElem? (i := 12) rfl))) (mvT hZ (hw _ (List.mem_of_getElem? (i := 13) rfl))) (mvT hZ (hw _ (List.mem_of_getElem? (i := 9) rfl))) (mvT hZ (hw _ (List.mem_of_getElem? (i := 14) rfl))) (by decide) (backOf (W := 0) (rm3 l Z a0 hw [] b4 (7 : Int32) v pa pl fb 16 7 A N T21.heap n0 Z21 VE (by decide) hA hpl (by decide) hN1 hN9 hv hf) hZ (hw _ (List.mem_of_getElem? (i := 14) rfl)) (hw _ (List.mem_of_getElem? (i := 9) rfl)) (by decide) (by decide)) (g := (mkF m 296 #[.val (.long q0), .second, .val (.int p1), .val (.int p2), .val (.int p3), .val (.long v), .second, .val (.int pa), .val (.int fb), .val (.ref b4), .val (.int ze), .val (.int pl)] [(.int fb), (.int pl), (.int pa), (.long v), (.int (7 : Int32)), (.ref b4)])) rfl (by rw [hml]; rfl) (argsL := [(.ref b4), (.int (7 : Int32)), (.long v), (.int pa), (.int pl), (.int fb)]) (rest := []) (lenOf own_pd2 rfl) rfl (by show 2 * 0 + _ ≤ _; exact Nat.le_of_eq rfl) (hb hby at_296) (fun _ _ => ⟨rfl, e29, (by first | decide | omega : 1 + 0 ≤ _), (by first | decide | omega : 16 + 0 ≤ _)⟩))
  obtain ⟨rfl, N30q, e30⟩ := hQ30
  refine Done.go st30 ?_
  clear st30
  have N30 := Fr.app N29h N30q
  clear N30q
  obtain ⟨Lh30, X30h, N30h⟩ : ∃ L, Stand p l e room_1 s m #[(.long q0), (.int p1), (.int p2), (.int p3)] below meth c T30 L 1 16 ∧ Fr n0 L := ⟨_, X30, N30⟩
  clear X30 N30 X29h e29 N29h
  show Done p e s below _ _ _ T30 (mkF m 299 #[.val (.long q0), .second, .val (.int p1), .val (.int p2), .val (.int p3), .val (.long v), .second, .val (.int pa), .val (.int fb), .val (.ref b4), .val (.int ze), .val (.int pl)] [(.int (1 : Int32))])
  refine Done.go (fun _ kt_ => XS.ifNo X30h.here hx rfl (hb hby at_299) rfl ((if0 _ _).trans (feq (by decide)).1) kt_) ?_
  show Done p e s below _ _ _ T30 (mkF m 302 #[.val (.long q0), .second, .val (.int p1), .val (.int p2), .val (.int p3), .val (.long v), .second, .val (.int pa), .val (.int fb), .val (.ref b4), .val (.int ze), .val (.int pl)] [])
  refine Done.go (fun _ kt_ => XS.aload X30h.here hx rfl (hb hby at_302) rfl rfl kt_) ?_
  show Done p e s below _ _ _ T30 (mkF m 304 #[.val (.long q0), .second, .val (.int p1), .val (.int p2), .val (.int p3), .val (.long v), .second, .val (.int pa), .val (.int fb), .val (.ref b4), .val (.int ze), .val (.int pl)] [(.ref b4)])
  refine Done.go (fun _ kt_ => XS.bipush X30h.here hx rfl (hb hby at_304) kt_) ?_
  show Done p e s below _ _ _ T30 (mkF m 306 #[.val (.long q0), .second, .val (.int p1), .val (.int p2), .val (.int p3), .val (.long v), .second, .val (.int pa), .val (.int fb), .val (.ref b4), .val (.int ze), .val (.int pl)] [(.int (8 : Int32)), (.ref b4)])
  refine Done.go (fun _ kt_ => XS.lload X30h.here hx rfl (hb hby at_306) rfl kt_) ?_
  show Done p e s below _ _ _ T30 (mkF m 308 #[.val (.long q0), .second, .val (.int p1), .val (.int p2), .val (.int p3), .val (.long v), .second, .val (.int pa), .val (.int fb), .val (.ref b4), .val (.int ze), .val (.int pl)] [(.long v), (.int (8 : Int32)), (.ref b4)])
  refine Done.go (fun _ kt_ => XS.iload X30h.here hx rfl (hb hby at_308) rfl kt_) ?_
  show Done p e s below _ _ _ T30 (mkF m 310 #[.val (.long q0), .second, .val (.int p1), .val (.int p2), .val (.int p3), .val (.long v), .second, .val (.int pa), .val (.int fb), .val (.ref b4), .val (.int ze), .val (.int pl)] [(.int pa), (.long v), (.int (8 : Int32)), (.ref b4)])
  refine Done.go (fun _ kt_ => XS.iload X30h.here hx rfl (hb hby at_310) rfl kt_) ?_
  show Done p e s below _ _ _ T30 (mkF m 312 #[.val (.long q0), .second, .val (.int p1), .val (.int p2), .val (.int p3), .val (.long v), .second, .val (.int pa), .val (.int fb), .val (.ref b4), .val (.int ze), .val (.int pl)] [(.int pl), (.int pa), (.long v), (.int (8 : Int32)), (.ref b4)])
  refine Done.go (fun _ kt_ => XS.iload X30h.here hx rfl (hb hby at_312) rfl kt_) ?_
  show Done p e s below _ _ _ T30 (mkF m 314 #[.val (.long q0), .second, .val (.int p1), .val (.int p2), .val (.int p3), .val (.long v), .second, .val (.int pa), .val (.int fb), .val (.ref b4), .val (.int ze), .val (.int pl)] [(.int fb), (.int pl), (.int pa), (.long v), (.int (8 : Int32)), (.ref b4)])
  obtain ⟨v31, T31, Lc31, X31, hQ31, st31⟩ := own_backG (Jvm.LawKit.callS X30h hx (y := (⟨"com/example/pivotwise/pivotwise/index/ByteEncoderEncodePinLaw", "ok", "([BIJIIB)Z"⟩ : MethodName)) hown (mvT hZ (hw _ (List.mem_of_getElem? (i := 12) rfl))) (mvT hZ (hw _ (List.mem_of_getElem? (i := 13) rfl))) (mvT hZ (hw _ (List.mem_of_getElem? (i := 9) rfl))) (mvT hZ (hw _ (List.mem_of_getElem? (i := 14) rfl))) (by decide) (backOf (W := 0) (rm3 l Z a0 hw [] b4 (8 : Int32) v pa pl fb 16 8 A N T21.heap n0 Z21 VE (by decide) hA hpl (by decide) hN1 hN9 hv hf) hZ (hw _ (List.mem_of_getElem? (i := 14) rfl)) (hw _ (List.mem_of_getElem? (i := 9) rfl)) (by decide) (by decide)) (g := (mkF m 314 #[.val (.long q0), .second, .val (.int p1), .val (.int p2), .val (.int p3), .val (.long v), .second, .val (.int pa), .val (.int fb), .val (.ref b4), .val (.int ze), .val (.int pl)] [(.int fb), (.int pl), (.int pa), (.long v), (.int (8 : Int32)), (.ref b4)])) rfl (by rw [hml]; rfl) (argsL := [(.ref b4), (.int (8 : Int32)), (.long v), (.int pa), (.int pl), (.int fb)]) (rest := []) (lenOf own_pd2 rfl) rfl (by show 2 * 0 + _ ≤ _; exact Nat.le_of_eq rfl) (hb hby at_314) (fun _ _ => ⟨rfl, e30, (by first | decide | omega : 1 + 0 ≤ _), (by first | decide | omega : 16 + 0 ≤ _)⟩))
  obtain ⟨rfl, N31q, e31⟩ := hQ31
  refine Done.go st31 ?_
  clear st31
  have N31 := Fr.app N30h N31q
  clear N31q
  obtain ⟨Lh31, X31h, N31h⟩ : ∃ L, Stand p l e room_1 s m #[(.long q0), (.int p1), (.int p2), (.int p3)] below meth c T31 L 1 16 ∧ Fr n0 L := ⟨_, X31, N31⟩
  clear X31 N31 X30h e30 N30h
  show Done p e s below _ _ _ T31 (mkF m 317 #[.val (.long q0), .second, .val (.int p1), .val (.int p2), .val (.int p3), .val (.long v), .second, .val (.int pa), .val (.int fb), .val (.ref b4), .val (.int ze), .val (.int pl)] [(.int (1 : Int32))])
  refine Done.go (fun _ kt_ => XS.ifNo X31h.here hx rfl (hb hby at_317) rfl ((if0 _ _).trans (feq (by decide)).1) kt_) ?_
  show Done p e s below _ _ _ T31 (mkF m 320 #[.val (.long q0), .second, .val (.int p1), .val (.int p2), .val (.int p3), .val (.long v), .second, .val (.int pa), .val (.int fb), .val (.ref b4), .val (.int ze), .val (.int pl)] [])
  refine Done.go (fun _ kt_ => XS.aload X31h.here hx rfl (hb hby at_320) rfl rfl kt_) ?_
  show Done p e s below _ _ _ T31 (mkF m 322 #[.val (.long q0), .second, .val (.int p1), .val (.int p2), .val (.int p3), .val (.long v), .second, .val (.int pa), .val (.int fb), .val (.ref b4), .val (.int ze), .val (.int pl)] [(.ref b4)])
  refine Done.go (fun _ kt_ => XS.bipush X31h.here hx rfl (hb hby at_322) kt_) ?_
  show Done p e s below _ _ _ T31 (mkF m 324 #[.val (.long q0), .second, .val (.int p1), .val (.int p2), .val (.int p3), .val (.long v), .second, .val (.int pa), .val (.int fb), .val (.ref b4), .val (.int ze), .val (.int pl)] [(.int (9 : Int32)), (.ref b4)])
  refine Done.go (fun _ kt_ => XS.lload X31h.here hx rfl (hb hby at_324) rfl kt_) ?_
  show Done p e s below _ _ _ T31 (mkF m 326 #[.val (.long q0), .second, .val (.int p1), .val (.int p2), .val (.int p3), .val (.long v), .second, .val (.int pa), .val (.int fb), .val (.ref b4), .val (.int ze), .val (.int pl)] [(.long v), (.int (9 : Int32)), (.ref b4)])
  refine Done.go (fun _ kt_ => XS.iload X31h.here hx rfl (hb hby at_326) rfl kt_) ?_
  show Done p e s below _ _ _ T31 (mkF m 328 #[.val (.long q0), .second, .val (.int p1), .val (.int p2), .val (.int p3), .val (.long v), .second, .val (.int pa), .val (.int fb), .val (.ref b4), .val (.int ze), .val (.int pl)] [(.int pa), (.long v), (.int (9 : Int32)), (.ref b4)])
  refine Done.go (fun _ kt_ => XS.iload X31h.here hx rfl (hb hby at_328) rfl kt_) ?_
  show Done p e s below _ _ _ T31 (mkF m 330 #[.val (.long q0), .second, .val (.int p1), .val (.int p2), .val (.int p3), .val (.long v), .second, .val (.int pa), .val (.int fb), .val (.ref b4), .val (.int ze), .val (.int pl)] [(.int pl), (.int pa), (.long v), (.int (9 : Int32)), (.ref b4)])
  refine Done.go (fun _ kt_ => XS.iload X31h.here hx rfl (hb hby at_330) rfl kt_) ?_
  show Done p e s below _ _ _ T31 (mkF m 332 #[.val (.long q0), .second, .val (.int p1), .val (.int p2), .val (.int p3), .val (.long v), .second, .val (.int pa), .val (.int fb), .val (.ref b4), .val (.int ze), .val (.int pl)] [(.int fb), (.int pl), (.int pa), (.long v), (.int (9 : Int32)), (.ref b4)])
  obtain ⟨v32, T32, Lc32, X32, hQ32, st32⟩ := own_backG (Jvm.LawKit.callS X31h hx (y := (⟨"com/example/pivotwise/pivotwise/index/ByteEncoderEncodePinLaw", "ok", "([BIJIIB)Z"⟩ : MethodName)) hown (mvT hZ (hw _ (List.mem_of_getElem? (i := 12) rfl))) (mvT hZ (hw _ (List.mem_of_getElem? (i := 13) rfl))) (mvT hZ (hw _ (List.mem_of_getElem? (i := 9) rfl))) (mvT hZ (hw _ (List.mem_of_getElem? (i := 14) rfl))) (by decide) (backOf (W := 0) (rm3 l Z a0 hw [] b4 (9 : Int32) v pa pl fb 16 9 A N T21.heap n0 Z21 VE (by decide) hA hpl (by decide) hN1 hN9 hv hf) hZ (hw _ (List.mem_of_getElem? (i := 14) rfl)) (hw _ (List.mem_of_getElem? (i := 9) rfl)) (by decide) (by decide)) (g := (mkF m 332 #[.val (.long q0), .second, .val (.int p1), .val (.int p2), .val (.int p3), .val (.long v), .second, .val (.int pa), .val (.int fb), .val (.ref b4), .val (.int ze), .val (.int pl)] [(.int fb), (.int pl), (.int pa), (.long v), (.int (9 : Int32)), (.ref b4)])) rfl (by rw [hml]; rfl) (argsL := [(.ref b4), (.int (9 : Int32)), (.long v), (.int pa), (.int pl), (.int fb)]) (rest := []) (lenOf own_pd2 rfl) rfl (by show 2 * 0 + _ ≤ _; exact Nat.le_of_eq rfl) (hb hby at_332) (fun _ _ => ⟨rfl, e31, (by first | decide | omega : 1 + 0 ≤ _), (by first | decide | omega : 16 + 0 ≤ _)⟩))
  obtain ⟨rfl, N32q, e32⟩ := hQ32
  refine Done.go st32 ?_
  clear st32
  have N32 := Fr.app N31h N32q
  clear N32q
  obtain ⟨Lh32, X32h, N32h⟩ : ∃ L, Stand p l e room_1 s m #[(.long q0), (.int p1), (.int p2), (.int p3)] below meth c T32 L 1 16 ∧ Fr n0 L := ⟨_, X32, N32⟩
  clear X32 N32 X31h e31 N31h
  show Done p e s below _ _ _ T32 (mkF m 335 #[.val (.long q0), .second, .val (.int p1), .val (.int p2), .val (.int p3), .val (.long v), .second, .val (.int pa), .val (.int fb), .val (.ref b4), .val (.int ze), .val (.int pl)] [(.int (1 : Int32))])
  refine Done.go (fun _ kt_ => XS.ifNo X32h.here hx rfl (hb hby at_335) rfl ((if0 _ _).trans (feq (by decide)).1) kt_) ?_
  show Done p e s below _ _ _ T32 (mkF m 338 #[.val (.long q0), .second, .val (.int p1), .val (.int p2), .val (.int p3), .val (.long v), .second, .val (.int pa), .val (.int fb), .val (.ref b4), .val (.int ze), .val (.int pl)] [])
  refine Done.go (fun _ kt_ => XS.aload X32h.here hx rfl (hb hby at_338) rfl rfl kt_) ?_
  show Done p e s below _ _ _ T32 (mkF m 340 #[.val (.long q0), .second, .val (.int p1), .val (.int p2), .val (.int p3), .val (.long v), .second, .val (.int pa), .val (.int fb), .val (.ref b4), .val (.int ze), .val (.int pl)] [(.ref b4)])
  refine Done.go (fun _ kt_ => XS.bipush X32h.here hx rfl (hb hby at_340) kt_) ?_
  show Done p e s below _ _ _ T32 (mkF m 342 #[.val (.long q0), .second, .val (.int p1), .val (.int p2), .val (.int p3), .val (.long v), .second, .val (.int pa), .val (.int fb), .val (.ref b4), .val (.int ze), .val (.int pl)] [(.int (10 : Int32)), (.ref b4)])
  refine Done.go (fun _ kt_ => XS.lload X32h.here hx rfl (hb hby at_342) rfl kt_) ?_
  show Done p e s below _ _ _ T32 (mkF m 344 #[.val (.long q0), .second, .val (.int p1), .val (.int p2), .val (.int p3), .val (.long v), .second, .val (.int pa), .val (.int fb), .val (.ref b4), .val (.int ze), .val (.int pl)] [(.long v), (.int (10 : Int32)), (.ref b4)])
  refine Done.go (fun _ kt_ => XS.iload X32h.here hx rfl (hb hby at_344) rfl kt_) ?_
  show Done p e s below _ _ _ T32 (mkF m 346 #[.val (.long q0), .second, .val (.int p1), .val (.int p2), .val (.int p3), .val (.long v), .second, .val (.int pa), .val (.int fb), .val (.ref b4), .val (.int ze), .val (.int pl)] [(.int pa), (.long v), (.int (10 : Int32)), (.ref b4)])
  refine Done.go (fun _ kt_ => XS.iload X32h.here hx rfl (hb hby at_346) rfl kt_) ?_
  show Done p e s below _ _ _ T32 (mkF m 348 #[.val (.long q0), .second, .val (.int p1), .val (.int p2), .val (.int p3), .val (.long v), .second, .val (.int pa), .val (.int fb), .val (.ref b4), .val (.int ze), .val (.int pl)] [(.int pl), (.int pa), (.long v), (.int (10 : Int32)), (.ref b4)])
  refine Done.go (fun _ kt_ => XS.iload X32h.here hx rfl (hb hby at_348) rfl kt_) ?_
  show Done p e s below _ _ _ T32 (mkF m 350 #[.val (.long q0), .second, .val (.int p1), .val (.int p2), .val (.int p3), .val (.long v), .second, .val (.int pa), .val (.int fb), .val (.ref b4), .val (.int ze), .val (.int pl)] [(.int fb), (.int pl), (.int pa), (.long v), (.int (10 : Int32)), (.ref b4)])
  obtain ⟨v33, T33, Lc33, X33, hQ33, st33⟩ := own_backG (Jvm.LawKit.callS X32h hx (y := (⟨"com/example/pivotwise/pivotwise/index/ByteEncoderEncodePinLaw", "ok", "([BIJIIB)Z"⟩ : MethodName)) hown (mvT hZ (hw _ (List.mem_of_getElem? (i := 12) rfl))) (mvT hZ (hw _ (List.mem_of_getElem? (i := 13) rfl))) (mvT hZ (hw _ (List.mem_of_getElem? (i := 9) rfl))) (mvT hZ (hw _ (List.mem_of_getElem? (i := 14) rfl))) (by decide) (backOf (W := 0) (rm3 l Z a0 hw [] b4 (10 : Int32) v pa pl fb 16 10 A N T21.heap n0 Z21 VE (by decide) hA hpl (by decide) hN1 hN9 hv hf) hZ (hw _ (List.mem_of_getElem? (i := 14) rfl)) (hw _ (List.mem_of_getElem? (i := 9) rfl)) (by decide) (by decide)) (g := (mkF m 350 #[.val (.long q0), .second, .val (.int p1), .val (.int p2), .val (.int p3), .val (.long v), .second, .val (.int pa), .val (.int fb), .val (.ref b4), .val (.int ze), .val (.int pl)] [(.int fb), (.int pl), (.int pa), (.long v), (.int (10 : Int32)), (.ref b4)])) rfl (by rw [hml]; rfl) (argsL := [(.ref b4), (.int (10 : Int32)), (.long v), (.int pa), (.int pl), (.int fb)]) (rest := []) (lenOf own_pd2 rfl) rfl (by show 2 * 0 + _ ≤ _; exact Nat.le_of_eq rfl) (hb hby at_350) (fun _ _ => ⟨rfl, e32, (by first | decide | omega : 1 + 0 ≤ _), (by first | decide | omega : 16 + 0 ≤ _)⟩))
  obtain ⟨rfl, N33q, e33⟩ := hQ33
  refine Done.go st33 ?_
  clear st33
  have N33 := Fr.app N32h N33q
  clear N33q
  obtain ⟨Lh33, X33h, N33h⟩ : ∃ L, Stand p l e room_1 s m #[(.long q0), (.int p1), (.int p2), (.int p3)] below meth c T33 L 1 16 ∧ Fr n0 L := ⟨_, X33, N33⟩
  clear X33 N33 X32h e32 N32h
  show Done p e s below _ _ _ T33 (mkF m 353 #[.val (.long q0), .second, .val (.int p1), .val (.int p2), .val (.int p3), .val (.long v), .second, .val (.int pa), .val (.int fb), .val (.ref b4), .val (.int ze), .val (.int pl)] [(.int (1 : Int32))])
  refine Done.go (fun _ kt_ => XS.ifNo X33h.here hx rfl (hb hby at_353) rfl ((if0 _ _).trans (feq (by decide)).1) kt_) ?_
  show Done p e s below _ _ _ T33 (mkF m 356 #[.val (.long q0), .second, .val (.int p1), .val (.int p2), .val (.int p3), .val (.long v), .second, .val (.int pa), .val (.int fb), .val (.ref b4), .val (.int ze), .val (.int pl)] [])
  refine Done.go (fun _ kt_ => XS.aload X33h.here hx rfl (hb hby at_356) rfl rfl kt_) ?_
  show Done p e s below _ _ _ T33 (mkF m 358 #[.val (.long q0), .second, .val (.int p1), .val (.int p2), .val (.int p3), .val (.long v), .second, .val (.int pa), .val (.int fb), .val (.ref b4), .val (.int ze), .val (.int pl)] [(.ref b4)])
  refine Done.go (fun _ kt_ => XS.bipush X33h.here hx rfl (hb hby at_358) kt_) ?_
  show Done p e s below _ _ _ T33 (mkF m 360 #[.val (.long q0), .second, .val (.int p1), .val (.int p2), .val (.int p3), .val (.long v), .second, .val (.int pa), .val (.int fb), .val (.ref b4), .val (.int ze), .val (.int pl)] [(.int (11 : Int32)), (.ref b4)])
  refine Done.go (fun _ kt_ => XS.lload X33h.here hx rfl (hb hby at_360) rfl kt_) ?_
  show Done p e s below _ _ _ T33 (mkF m 362 #[.val (.long q0), .second, .val (.int p1), .val (.int p2), .val (.int p3), .val (.long v), .second, .val (.int pa), .val (.int fb), .val (.ref b4), .val (.int ze), .val (.int pl)] [(.long v), (.int (11 : Int32)), (.ref b4)])
  refine Done.go (fun _ kt_ => XS.iload X33h.here hx rfl (hb hby at_362) rfl kt_) ?_
  show Done p e s below _ _ _ T33 (mkF m 364 #[.val (.long q0), .second, .val (.int p1), .val (.int p2), .val (.int p3), .val (.long v), .second, .val (.int pa), .val (.int fb), .val (.ref b4), .val (.int ze), .val (.int pl)] [(.int pa), (.long v), (.int (11 : Int32)), (.ref b4)])
  refine Done.go (fun _ kt_ => XS.iload X33h.here hx rfl (hb hby at_364) rfl kt_) ?_
  show Done p e s below _ _ _ T33 (mkF m 366 #[.val (.long q0), .second, .val (.int p1), .val (.int p2), .val (.int p3), .val (.long v), .second, .val (.int pa), .val (.int fb), .val (.ref b4), .val (.int ze), .val (.int pl)] [(.int pl), (.int pa), (.long v), (.int (11 : Int32)), (.ref b4)])
  refine Done.go (fun _ kt_ => XS.iload X33h.here hx rfl (hb hby at_366) rfl kt_) ?_
  show Done p e s below _ _ _ T33 (mkF m 368 #[.val (.long q0), .second, .val (.int p1), .val (.int p2), .val (.int p3), .val (.long v), .second, .val (.int pa), .val (.int fb), .val (.ref b4), .val (.int ze), .val (.int pl)] [(.int fb), (.int pl), (.int pa), (.long v), (.int (11 : Int32)), (.ref b4)])
  obtain ⟨v34, T34, Lc34, X34, hQ34, st34⟩ := own_backG (Jvm.LawKit.callS X33h hx (y := (⟨"com/example/pivotwise/pivotwise/index/ByteEncoderEncodePinLaw", "ok", "([BIJIIB)Z"⟩ : MethodName)) hown (mvT hZ (hw _ (List.mem_of_getElem? (i := 12) rfl))) (mvT hZ (hw _ (List.mem_of_getElem? (i := 13) rfl))) (mvT hZ (hw _ (List.mem_of_getElem? (i := 9) rfl))) (mvT hZ (hw _ (List.mem_of_getElem? (i := 14) rfl))) (by decide) (backOf (W := 0) (rm3 l Z a0 hw [] b4 (11 : Int32) v pa pl fb 16 11 A N T21.heap n0 Z21 VE (by decide) hA hpl (by decide) hN1 hN9 hv hf) hZ (hw _ (List.mem_of_getElem? (i := 14) rfl)) (hw _ (List.mem_of_getElem? (i := 9) rfl)) (by decide) (by decide)) (g := (mkF m 368 #[.val (.long q0), .second, .val (.int p1), .val (.int p2), .val (.int p3), .val (.long v), .second, .val (.int pa), .val (.int fb), .val (.ref b4), .val (.int ze), .val (.int pl)] [(.int fb), (.int pl), (.int pa), (.long v), (.int (11 : Int32)), (.ref b4)])) rfl (by rw [hml]; rfl) (argsL := [(.ref b4), (.int (11 : Int32)), (.long v), (.int pa), (.int pl), (.int fb)]) (rest := []) (lenOf own_pd2 rfl) rfl (by show 2 * 0 + _ ≤ _; exact Nat.le_of_eq rfl) (hb hby at_368) (fun _ _ => ⟨rfl, e33, (by first | decide | omega : 1 + 0 ≤ _), (by first | decide | omega : 16 + 0 ≤ _)⟩))
  obtain ⟨rfl, N34q, e34⟩ := hQ34
  refine Done.go st34 ?_
  clear st34
  have N34 := Fr.app N33h N34q
  clear N34q
  obtain ⟨Lh34, X34h, N34h⟩ : ∃ L, Stand p l e room_1 s m #[(.long q0), (.int p1), (.int p2), (.int p3)] below meth c T34 L 1 16 ∧ Fr n0 L := ⟨_, X34, N34⟩
  clear X34 N34 X33h e33 N33h
  show Done p e s below _ _ _ T34 (mkF m 371 #[.val (.long q0), .second, .val (.int p1), .val (.int p2), .val (.int p3), .val (.long v), .second, .val (.int pa), .val (.int fb), .val (.ref b4), .val (.int ze), .val (.int pl)] [(.int (1 : Int32))])
  refine Done.go (fun _ kt_ => XS.ifNo X34h.here hx rfl (hb hby at_371) rfl ((if0 _ _).trans (feq (by decide)).1) kt_) ?_
  show Done p e s below _ _ _ T34 (mkF m 374 #[.val (.long q0), .second, .val (.int p1), .val (.int p2), .val (.int p3), .val (.long v), .second, .val (.int pa), .val (.int fb), .val (.ref b4), .val (.int ze), .val (.int pl)] [])
  refine Done.go (fun _ kt_ => XS.aload X34h.here hx rfl (hb hby at_374) rfl rfl kt_) ?_
  show Done p e s below _ _ _ T34 (mkF m 376 #[.val (.long q0), .second, .val (.int p1), .val (.int p2), .val (.int p3), .val (.long v), .second, .val (.int pa), .val (.int fb), .val (.ref b4), .val (.int ze), .val (.int pl)] [(.ref b4)])
  refine Done.go (fun _ kt_ => XS.bipush X34h.here hx rfl (hb hby at_376) kt_) ?_
  show Done p e s below _ _ _ T34 (mkF m 378 #[.val (.long q0), .second, .val (.int p1), .val (.int p2), .val (.int p3), .val (.long v), .second, .val (.int pa), .val (.int fb), .val (.ref b4), .val (.int ze), .val (.int pl)] [(.int (12 : Int32)), (.ref b4)])
  refine Done.go (fun _ kt_ => XS.lload X34h.here hx rfl (hb hby at_378) rfl kt_) ?_
  show Done p e s below _ _ _ T34 (mkF m 380 #[.val (.long q0), .second, .val (.int p1), .val (.int p2), .val (.int p3), .val (.long v), .second, .val (.int pa), .val (.int fb), .val (.ref b4), .val (.int ze), .val (.int pl)] [(.long v), (.int (12 : Int32)), (.ref b4)])
  refine Done.go (fun _ kt_ => XS.iload X34h.here hx rfl (hb hby at_380) rfl kt_) ?_
  show Done p e s below _ _ _ T34 (mkF m 382 #[.val (.long q0), .second, .val (.int p1), .val (.int p2), .val (.int p3), .val (.long v), .second, .val (.int pa), .val (.int fb), .val (.ref b4), .val (.int ze), .val (.int pl)] [(.int pa), (.long v), (.int (12 : Int32)), (.ref b4)])
  refine Done.go (fun _ kt_ => XS.iload X34h.here hx rfl (hb hby at_382) rfl kt_) ?_
  show Done p e s below _ _ _ T34 (mkF m 384 #[.val (.long q0), .second, .val (.int p1), .val (.int p2), .val (.int p3), .val (.long v), .second, .val (.int pa), .val (.int fb), .val (.ref b4), .val (.int ze), .val (.int pl)] [(.int pl), (.int pa), (.long v), (.int (12 : Int32)), (.ref b4)])
  refine Done.go (fun _ kt_ => XS.iload X34h.here hx rfl (hb hby at_384) rfl kt_) ?_
  show Done p e s below _ _ _ T34 (mkF m 386 #[.val (.long q0), .second, .val (.int p1), .val (.int p2), .val (.int p3), .val (.long v), .second, .val (.int pa), .val (.int fb), .val (.ref b4), .val (.int ze), .val (.int pl)] [(.int fb), (.int pl), (.int pa), (.long v), (.int (12 : Int32)), (.ref b4)])
  obtain ⟨v35, T35, Lc35, X35, hQ35, st35⟩ := own_backG (Jvm.LawKit.callS X34h hx (y := (⟨"com/example/pivotwise/pivotwise/index/ByteEncoderEncodePinLaw", "ok", "([BIJIIB)Z"⟩ : MethodName)) hown (mvT hZ (hw _ (List.mem_of_getElem? (i := 12) rfl))) (mvT hZ (hw _ (List.mem_of_getElem? (i := 13) rfl))) (mvT hZ (hw _ (List.mem_of_getElem? (i := 9) rfl))) (mvT hZ (hw _ (List.mem_of_getElem? (i := 14) rfl))) (by decide) (backOf (W := 0) (rm3 l Z a0 hw [] b4 (12 : Int32) v pa pl fb 16 12 A N T21.heap n0 Z21 VE (by decide) hA hpl (by decide) hN1 hN9 hv hf) hZ (hw _ (List.mem_of_getElem? (i := 14) rfl)) (hw _ (List.mem_of_getElem? (i := 9) rfl)) (by decide) (by decide)) (g := (mkF m 386 #[.val (.long q0), .second, .val (.int p1), .val (.int p2), .val (.int p3), .val (.long v), .second, .val (.int pa), .val (.int fb), .val (.ref b4), .val (.int ze), .val (.int pl)] [(.int fb), (.int pl), (.int pa), (.long v), (.int (12 : Int32)), (.ref b4)])) rfl (by rw [hml]; rfl) (argsL := [(.ref b4), (.int (12 : Int32)), (.long v), (.int pa), (.int pl), (.int fb)]) (rest := []) (lenOf own_pd2 rfl) rfl (by show 2 * 0 + _ ≤ _; exact Nat.le_of_eq rfl) (hb hby at_386) (fun _ _ => ⟨rfl, e34, (by first | decide | omega : 1 + 0 ≤ _), (by first | decide | omega : 16 + 0 ≤ _)⟩))
  obtain ⟨rfl, N35q, e35⟩ := hQ35
  refine Done.go st35 ?_
  clear st35
  have N35 := Fr.app N34h N35q
  clear N35q
  obtain ⟨Lh35, X35h, N35h⟩ : ∃ L, Stand p l e room_1 s m #[(.long q0), (.int p1), (.int p2), (.int p3)] below meth c T35 L 1 16 ∧ Fr n0 L := ⟨_, X35, N35⟩
  clear X35 N35 X34h e34 N34h
  show Done p e s below _ _ _ T35 (mkF m 389 #[.val (.long q0), .second, .val (.int p1), .val (.int p2), .val (.int p3), .val (.long v), .second, .val (.int pa), .val (.int fb), .val (.ref b4), .val (.int ze), .val (.int pl)] [(.int (1 : Int32))])
  refine Done.go (fun _ kt_ => XS.ifNo X35h.here hx rfl (hb hby at_389) rfl ((if0 _ _).trans (feq (by decide)).1) kt_) ?_
  show Done p e s below _ _ _ T35 (mkF m 392 #[.val (.long q0), .second, .val (.int p1), .val (.int p2), .val (.int p3), .val (.long v), .second, .val (.int pa), .val (.int fb), .val (.ref b4), .val (.int ze), .val (.int pl)] [])
  refine Done.go (fun _ kt_ => XS.aload X35h.here hx rfl (hb hby at_392) rfl rfl kt_) ?_
  show Done p e s below _ _ _ T35 (mkF m 394 #[.val (.long q0), .second, .val (.int p1), .val (.int p2), .val (.int p3), .val (.long v), .second, .val (.int pa), .val (.int fb), .val (.ref b4), .val (.int ze), .val (.int pl)] [(.ref b4)])
  refine Done.go (fun _ kt_ => XS.bipush X35h.here hx rfl (hb hby at_394) kt_) ?_
  show Done p e s below _ _ _ T35 (mkF m 396 #[.val (.long q0), .second, .val (.int p1), .val (.int p2), .val (.int p3), .val (.long v), .second, .val (.int pa), .val (.int fb), .val (.ref b4), .val (.int ze), .val (.int pl)] [(.int (13 : Int32)), (.ref b4)])
  refine Done.go (fun _ kt_ => XS.lload X35h.here hx rfl (hb hby at_396) rfl kt_) ?_
  show Done p e s below _ _ _ T35 (mkF m 398 #[.val (.long q0), .second, .val (.int p1), .val (.int p2), .val (.int p3), .val (.long v), .second, .val (.int pa), .val (.int fb), .val (.ref b4), .val (.int ze), .val (.int pl)] [(.long v), (.int (13 : Int32)), (.ref b4)])
  refine Done.go (fun _ kt_ => XS.iload X35h.here hx rfl (hb hby at_398) rfl kt_) ?_
  show Done p e s below _ _ _ T35 (mkF m 400 #[.val (.long q0), .second, .val (.int p1), .val (.int p2), .val (.int p3), .val (.long v), .second, .val (.int pa), .val (.int fb), .val (.ref b4), .val (.int ze), .val (.int pl)] [(.int pa), (.long v), (.int (13 : Int32)), (.ref b4)])
  refine Done.go (fun _ kt_ => XS.iload X35h.here hx rfl (hb hby at_400) rfl kt_) ?_
  show Done p e s below _ _ _ T35 (mkF m 402 #[.val (.long q0), .second, .val (.int p1), .val (.int p2), .val (.int p3), .val (.long v), .second, .val (.int pa), .val (.int fb), .val (.ref b4), .val (.int ze), .val (.int pl)] [(.int pl), (.int pa), (.long v), (.int (13 : Int32)), (.ref b4)])
  refine Done.go (fun _ kt_ => XS.iload X35h.here hx rfl (hb hby at_402) rfl kt_) ?_
  show Done p e s below _ _ _ T35 (mkF m 404 #[.val (.long q0), .second, .val (.int p1), .val (.int p2), .val (.int p3), .val (.long v), .second, .val (.int pa), .val (.int fb), .val (.ref b4), .val (.int ze), .val (.int pl)] [(.int fb), (.int pl), (.int pa), (.long v), (.int (13 : Int32)), (.ref b4)])
  obtain ⟨v36, T36, Lc36, X36, hQ36, st36⟩ := own_backG (Jvm.LawKit.callS X35h hx (y := (⟨"com/example/pivotwise/pivotwise/index/ByteEncoderEncodePinLaw", "ok", "([BIJIIB)Z"⟩ : MethodName)) hown (mvT hZ (hw _ (List.mem_of_getElem? (i := 12) rfl))) (mvT hZ (hw _ (List.mem_of_getElem? (i := 13) rfl))) (mvT hZ (hw _ (List.mem_of_getElem? (i := 9) rfl))) (mvT hZ (hw _ (List.mem_of_getElem? (i := 14) rfl))) (by decide) (backOf (W := 0) (rm3 l Z a0 hw [] b4 (13 : Int32) v pa pl fb 16 13 A N T21.heap n0 Z21 VE (by decide) hA hpl (by decide) hN1 hN9 hv hf) hZ (hw _ (List.mem_of_getElem? (i := 14) rfl)) (hw _ (List.mem_of_getElem? (i := 9) rfl)) (by decide) (by decide)) (g := (mkF m 404 #[.val (.long q0), .second, .val (.int p1), .val (.int p2), .val (.int p3), .val (.long v), .second, .val (.int pa), .val (.int fb), .val (.ref b4), .val (.int ze), .val (.int pl)] [(.int fb), (.int pl), (.int pa), (.long v), (.int (13 : Int32)), (.ref b4)])) rfl (by rw [hml]; rfl) (argsL := [(.ref b4), (.int (13 : Int32)), (.long v), (.int pa), (.int pl), (.int fb)]) (rest := []) (lenOf own_pd2 rfl) rfl (by show 2 * 0 + _ ≤ _; exact Nat.le_of_eq rfl) (hb hby at_404) (fun _ _ => ⟨rfl, e35, (by first | decide | omega : 1 + 0 ≤ _), (by first | decide | omega : 16 + 0 ≤ _)⟩))
  obtain ⟨rfl, N36q, e36⟩ := hQ36
  refine Done.go st36 ?_
  clear st36
  have N36 := Fr.app N35h N36q
  clear N36q
  obtain ⟨Lh36, X36h, N36h⟩ : ∃ L, Stand p l e room_1 s m #[(.long q0), (.int p1), (.int p2), (.int p3)] below meth c T36 L 1 16 ∧ Fr n0 L := ⟨_, X36, N36⟩
  clear X36 N36 X35h e35 N35h
  show Done p e s below _ _ _ T36 (mkF m 407 #[.val (.long q0), .second, .val (.int p1), .val (.int p2), .val (.int p3), .val (.long v), .second, .val (.int pa), .val (.int fb), .val (.ref b4), .val (.int ze), .val (.int pl)] [(.int (1 : Int32))])
  refine Done.go (fun _ kt_ => XS.ifNo X36h.here hx rfl (hb hby at_407) rfl ((if0 _ _).trans (feq (by decide)).1) kt_) ?_
  show Done p e s below _ _ _ T36 (mkF m 410 #[.val (.long q0), .second, .val (.int p1), .val (.int p2), .val (.int p3), .val (.long v), .second, .val (.int pa), .val (.int fb), .val (.ref b4), .val (.int ze), .val (.int pl)] [])
  refine Done.go (fun _ kt_ => XS.aload X36h.here hx rfl (hb hby at_410) rfl rfl kt_) ?_
  show Done p e s below _ _ _ T36 (mkF m 412 #[.val (.long q0), .second, .val (.int p1), .val (.int p2), .val (.int p3), .val (.long v), .second, .val (.int pa), .val (.int fb), .val (.ref b4), .val (.int ze), .val (.int pl)] [(.ref b4)])
  refine Done.go (fun _ kt_ => XS.bipush X36h.here hx rfl (hb hby at_412) kt_) ?_
  show Done p e s below _ _ _ T36 (mkF m 414 #[.val (.long q0), .second, .val (.int p1), .val (.int p2), .val (.int p3), .val (.long v), .second, .val (.int pa), .val (.int fb), .val (.ref b4), .val (.int ze), .val (.int pl)] [(.int (14 : Int32)), (.ref b4)])
  refine Done.go (fun _ kt_ => XS.lload X36h.here hx rfl (hb hby at_414) rfl kt_) ?_
  show Done p e s below _ _ _ T36 (mkF m 416 #[.val (.long q0), .second, .val (.int p1), .val (.int p2), .val (.int p3), .val (.long v), .second, .val (.int pa), .val (.int fb), .val (.ref b4), .val (.int ze), .val (.int pl)] [(.long v), (.int (14 : Int32)), (.ref b4)])
  refine Done.go (fun _ kt_ => XS.iload X36h.here hx rfl (hb hby at_416) rfl kt_) ?_
  show Done p e s below _ _ _ T36 (mkF m 418 #[.val (.long q0), .second, .val (.int p1), .val (.int p2), .val (.int p3), .val (.long v), .second, .val (.int pa), .val (.int fb), .val (.ref b4), .val (.int ze), .val (.int pl)] [(.int pa), (.long v), (.int (14 : Int32)), (.ref b4)])
  refine Done.go (fun _ kt_ => XS.iload X36h.here hx rfl (hb hby at_418) rfl kt_) ?_
  show Done p e s below _ _ _ T36 (mkF m 420 #[.val (.long q0), .second, .val (.int p1), .val (.int p2), .val (.int p3), .val (.long v), .second, .val (.int pa), .val (.int fb), .val (.ref b4), .val (.int ze), .val (.int pl)] [(.int pl), (.int pa), (.long v), (.int (14 : Int32)), (.ref b4)])
  refine Done.go (fun _ kt_ => XS.iload X36h.here hx rfl (hb hby at_420) rfl kt_) ?_
  show Done p e s below _ _ _ T36 (mkF m 422 #[.val (.long q0), .second, .val (.int p1), .val (.int p2), .val (.int p3), .val (.long v), .second, .val (.int pa), .val (.int fb), .val (.ref b4), .val (.int ze), .val (.int pl)] [(.int fb), (.int pl), (.int pa), (.long v), (.int (14 : Int32)), (.ref b4)])
  obtain ⟨v37, T37, Lc37, X37, hQ37, st37⟩ := own_backG (Jvm.LawKit.callS X36h hx (y := (⟨"com/example/pivotwise/pivotwise/index/ByteEncoderEncodePinLaw", "ok", "([BIJIIB)Z"⟩ : MethodName)) hown (mvT hZ (hw _ (List.mem_of_getElem? (i := 12) rfl))) (mvT hZ (hw _ (List.mem_of_getElem? (i := 13) rfl))) (mvT hZ (hw _ (List.mem_of_getElem? (i := 9) rfl))) (mvT hZ (hw _ (List.mem_of_getElem? (i := 14) rfl))) (by decide) (backOf (W := 0) (rm3 l Z a0 hw [] b4 (14 : Int32) v pa pl fb 16 14 A N T21.heap n0 Z21 VE (by decide) hA hpl (by decide) hN1 hN9 hv hf) hZ (hw _ (List.mem_of_getElem? (i := 14) rfl)) (hw _ (List.mem_of_getElem? (i := 9) rfl)) (by decide) (by decide)) (g := (mkF m 422 #[.val (.long q0), .second, .val (.int p1), .val (.int p2), .val (.int p3), .val (.long v), .second, .val (.int pa), .val (.int fb), .val (.ref b4), .val (.int ze), .val (.int pl)] [(.int fb), (.int pl), (.int pa), (.long v), (.int (14 : Int32)), (.ref b4)])) rfl (by rw [hml]; rfl) (argsL := [(.ref b4), (.int (14 : Int32)), (.long v), (.int pa), (.int pl), (.int fb)]) (rest := []) (lenOf own_pd2 rfl) rfl (by show 2 * 0 + _ ≤ _; exact Nat.le_of_eq rfl) (hb hby at_422) (fun _ _ => ⟨rfl, e36, (by first | decide | omega : 1 + 0 ≤ _), (by first | decide | omega : 16 + 0 ≤ _)⟩))
  obtain ⟨rfl, N37q, e37⟩ := hQ37
  refine Done.go st37 ?_
  clear st37
  have N37 := Fr.app N36h N37q
  clear N37q
  obtain ⟨Lh37, X37h, N37h⟩ : ∃ L, Stand p l e room_1 s m #[(.long q0), (.int p1), (.int p2), (.int p3)] below meth c T37 L 1 16 ∧ Fr n0 L := ⟨_, X37, N37⟩
  clear X37 N37 X36h e36 N36h
  show Done p e s below _ _ _ T37 (mkF m 425 #[.val (.long q0), .second, .val (.int p1), .val (.int p2), .val (.int p3), .val (.long v), .second, .val (.int pa), .val (.int fb), .val (.ref b4), .val (.int ze), .val (.int pl)] [(.int (1 : Int32))])
  refine Done.go (fun _ kt_ => XS.ifNo X37h.here hx rfl (hb hby at_425) rfl ((if0 _ _).trans (feq (by decide)).1) kt_) ?_
  show Done p e s below _ _ _ T37 (mkF m 428 #[.val (.long q0), .second, .val (.int p1), .val (.int p2), .val (.int p3), .val (.long v), .second, .val (.int pa), .val (.int fb), .val (.ref b4), .val (.int ze), .val (.int pl)] [])
  refine Done.go (fun _ kt_ => XS.aload X37h.here hx rfl (hb hby at_428) rfl rfl kt_) ?_
  show Done p e s below _ _ _ T37 (mkF m 430 #[.val (.long q0), .second, .val (.int p1), .val (.int p2), .val (.int p3), .val (.long v), .second, .val (.int pa), .val (.int fb), .val (.ref b4), .val (.int ze), .val (.int pl)] [(.ref b4)])
  refine Done.go (fun _ kt_ => XS.bipush X37h.here hx rfl (hb hby at_430) kt_) ?_
  show Done p e s below _ _ _ T37 (mkF m 432 #[.val (.long q0), .second, .val (.int p1), .val (.int p2), .val (.int p3), .val (.long v), .second, .val (.int pa), .val (.int fb), .val (.ref b4), .val (.int ze), .val (.int pl)] [(.int (15 : Int32)), (.ref b4)])
  refine Done.go (fun _ kt_ => XS.lload X37h.here hx rfl (hb hby at_432) rfl kt_) ?_
  show Done p e s below _ _ _ T37 (mkF m 434 #[.val (.long q0), .second, .val (.int p1), .val (.int p2), .val (.int p3), .val (.long v), .second, .val (.int pa), .val (.int fb), .val (.ref b4), .val (.int ze), .val (.int pl)] [(.long v), (.int (15 : Int32)), (.ref b4)])
  refine Done.go (fun _ kt_ => XS.iload X37h.here hx rfl (hb hby at_434) rfl kt_) ?_
  show Done p e s below _ _ _ T37 (mkF m 436 #[.val (.long q0), .second, .val (.int p1), .val (.int p2), .val (.int p3), .val (.long v), .second, .val (.int pa), .val (.int fb), .val (.ref b4), .val (.int ze), .val (.int pl)] [(.int pa), (.long v), (.int (15 : Int32)), (.ref b4)])
  refine Done.go (fun _ kt_ => XS.iload X37h.here hx rfl (hb hby at_436) rfl kt_) ?_
  show Done p e s below _ _ _ T37 (mkF m 438 #[.val (.long q0), .second, .val (.int p1), .val (.int p2), .val (.int p3), .val (.long v), .second, .val (.int pa), .val (.int fb), .val (.ref b4), .val (.int ze), .val (.int pl)] [(.int pl), (.int pa), (.long v), (.int (15 : Int32)), (.ref b4)])
  refine Done.go (fun _ kt_ => XS.iload X37h.here hx rfl (hb hby at_438) rfl kt_) ?_
  show Done p e s below _ _ _ T37 (mkF m 440 #[.val (.long q0), .second, .val (.int p1), .val (.int p2), .val (.int p3), .val (.long v), .second, .val (.int pa), .val (.int fb), .val (.ref b4), .val (.int ze), .val (.int pl)] [(.int fb), (.int pl), (.int pa), (.long v), (.int (15 : Int32)), (.ref b4)])
  obtain ⟨v38, T38, Lc38, X38, hQ38, st38⟩ := own_backG (Jvm.LawKit.callS X37h hx (y := (⟨"com/example/pivotwise/pivotwise/index/ByteEncoderEncodePinLaw", "ok", "([BIJIIB)Z"⟩ : MethodName)) hown (mvT hZ (hw _ (List.mem_of_getElem? (i := 12) rfl))) (mvT hZ (hw _ (List.mem_of_getElem? (i := 13) rfl))) (mvT hZ (hw _ (List.mem_of_getElem? (i := 9) rfl))) (mvT hZ (hw _ (List.mem_of_getElem? (i := 14) rfl))) (by decide) (backOf (W := 0) (rm3 l Z a0 hw [] b4 (15 : Int32) v pa pl fb 16 15 A N T21.heap n0 Z21 VE (by decide) hA hpl (by decide) hN1 hN9 hv hf) hZ (hw _ (List.mem_of_getElem? (i := 14) rfl)) (hw _ (List.mem_of_getElem? (i := 9) rfl)) (by decide) (by decide)) (g := (mkF m 440 #[.val (.long q0), .second, .val (.int p1), .val (.int p2), .val (.int p3), .val (.long v), .second, .val (.int pa), .val (.int fb), .val (.ref b4), .val (.int ze), .val (.int pl)] [(.int fb), (.int pl), (.int pa), (.long v), (.int (15 : Int32)), (.ref b4)])) rfl (by rw [hml]; rfl) (argsL := [(.ref b4), (.int (15 : Int32)), (.long v), (.int pa), (.int pl), (.int fb)]) (rest := []) (lenOf own_pd2 rfl) rfl (by show 2 * 0 + _ ≤ _; exact Nat.le_of_eq rfl) (hb hby at_440) (fun _ _ => ⟨rfl, e37, (by first | decide | omega : 1 + 0 ≤ _), (by first | decide | omega : 16 + 0 ≤ _)⟩))
  obtain ⟨rfl, N38q, e38⟩ := hQ38
  refine Done.go st38 ?_
  clear st38
  have N38 := Fr.app N37h N38q
  clear N38q
  obtain ⟨Lh38, X38h, N38h⟩ : ∃ L, Stand p l e room_1 s m #[(.long q0), (.int p1), (.int p2), (.int p3)] below meth c T38 L 1 16 ∧ Fr n0 L := ⟨_, X38, N38⟩
  clear X38 N38 X37h e37 N37h
  show Done p e s below _ _ _ T38 (mkF m 443 #[.val (.long q0), .second, .val (.int p1), .val (.int p2), .val (.int p3), .val (.long v), .second, .val (.int pa), .val (.int fb), .val (.ref b4), .val (.int ze), .val (.int pl)] [(.int (1 : Int32))])
  refine Done.go (fun _ kt_ => XS.ifNo X38h.here hx rfl (hb hby at_443) rfl ((if0 _ _).trans (feq (by decide)).1) kt_) ?_
  show Done p e s below _ _ _ T38 (mkF m 446 #[.val (.long q0), .second, .val (.int p1), .val (.int p2), .val (.int p3), .val (.long v), .second, .val (.int pa), .val (.int fb), .val (.ref b4), .val (.int ze), .val (.int pl)] [])
  refine Done.go (fun _ kt_ => XS.iconst X38h.here hx rfl (hb hby at_446) kt_) ?_
  show Done p e s below _ _ _ T38 (mkF m 447 #[.val (.long q0), .second, .val (.int p1), .val (.int p2), .val (.int p3), .val (.long v), .second, .val (.int pa), .val (.int fb), .val (.ref b4), .val (.int ze), .val (.int pl)] [(.int (1 : Int32))])
  refine Done.go (fun _ kt_ => XS.goto X38h.here hx rfl (pc0 := 447) (pc' := 451) rfl (hb hby at_447) (by decide) (by decide) kt_) ?_
  show Done p e s below _ _ _ T38 (mkF m 451 #[.val (.long q0), .second, .val (.int p1), .val (.int p2), .val (.int p3), .val (.long v), .second, .val (.int pa), .val (.int fb), .val (.ref b4), .val (.int ze), .val (.int pl)] [(.int (1 : Int32))])
  refine Done.retN X38h hx hlk (t := .boolean) hrt (by simp) (z' := (1 : Int32)) rfl (hb hby at_451) ?_ (by first | decide | omega) (by first | decide | omega)
  rw [e38]
  exact ⟨rfl, N38h⟩
set_option maxRecDepth 65536 in
set_option maxHeartbeats 40000000 in
theorem comes_1 {Post : Tables → Env → Array Value → State → Outcome → State → Prop} (hpost : ∀ tb e args s v u, (limb_1_1.after args s (.returned v) u = true ∧ limb_1_2.after args s (.returned v) u = true ∧ True) → FrameEnd s (.returned v) u (Jvm.fieldLocs frame_1_writes args s ++ Jvm.arrayLocs frame_1_arrays args s ++ Jvm.staticLocs frame_1_statics s) 16 128 → Post tb e args s (.returned v) u) :
    ArmFor flags0 classFile x code maxLocals ret World_1 tables_1 room_1 Calls_1 rest_1 Pre_1 Post := by
  intro l hfl _ _ p e ha hc hk s m args below hf hA hF happ hP
  obtain ⟨hcalls, hrest, hpre⟩ := hP
  obtain ⟨-, -, -, hnamed, -, -, -, hat⟩ := (Spec.applies_iff hf).mp happ
  obtain ⟨hg, hn⟩ := and_e (Cond.before_iff.mp (show (Jvm.Cond.and given_1 narrow_1).before args s = true from hpre))
  obtain ⟨hcount, hg⟩ := and_e hg
  obtain ⟨hv0, hg⟩ := and_e hg
  obtain ⟨hv1, hg⟩ := and_e hg
  obtain ⟨hv2, hg⟩ := and_e hg
  have hv3 := hg
  obtain ⟨w0, w1, w2, w3, rfl⟩ : ∃ w0 w1 w2 w3 : Value, args = #[w0, w1, w2, w3] := by
    have hs : args.size = 4 := by simpa [Cond.value, given_1] using hcount
    obtain ⟨L⟩ := args
    match L, hs with
    | [w0, w1, w2, w3], _ => exact ⟨w0, w1, w2, w3, rfl⟩
  have hw := fun d (hd : d ∈ tables_1) => atoms_spec (ws := Jvm.Cond.code x code maxLocals ret :: tables_1) hat d (List.mem_cons_of_mem _ hd)
  have hfit : Fit s := fun {y c} hc i hi => by
    obtain ⟨ha, rfl⟩ := Array.getElem?_eq_some_iff.mp hc
    have q := List.all_eq_true.mp ((Array.all_eq_true_iff_forall_mem.mp hF) _ (Array.getElem_mem ha)) i (List.mem_range.mpr hi)
    simpa [Array.getElem?_eq_getElem hi] using q
  obtain ⟨i0, ei0⟩ := isL_v hv0
  obtain rfl : w0 = (.long i0) := Option.some.inj ei0
  obtain ⟨i1, ei1⟩ := is_v hv1
  obtain rfl : w1 = (.int i1) := Option.some.inj ei1
  obtain ⟨i2, ei2⟩ := is_v hv2
  obtain rfl : w2 = (.int i2) := Option.some.inj ei2
  obtain ⟨i3, ei3⟩ := is_v hv3
  obtain rfl : w3 = (.int i3) := Option.some.inj ei3
  obtain ⟨n, o, h1, h2, h3, _, L, rfl, ⟨rfl, N⟩, hq⟩ := rm0 l s _ hw tables_1 i0 i1 i2 i3 s.heap s.heap.size (Nat.le_refl _)  p e ha hc hk s m _ below hf ((Spec.applies_iff_loose hf).mp happ).1 ⟨rfl, State.Warmed39.refl s, rfl⟩ trivial
  refine ⟨n, _, h1, h2, h3, hpost _ _ _ _ _ _ ⟨Cond.after_iff.mpr rfl, Cond.after_iff.mpr (eq_i res_at (Term.int_eval (1)) rfl), trivial⟩ ⟨hq.1, hq.2.1, (hq.2.2.sift fun y hy => Or.inr (N y hy)).mono (by decide) (by decide)⟩⟩
theorem main_1_1 : Claimed_1_1 := comes_1 fun _ _ _ _ _ _ h hF => ⟨h.1, hF⟩
theorem main_1_2 : Claimed_1_2 := comes_1 fun _ _ _ _ _ _ h hF => ⟨h.2.1, hF⟩
end Jvm.Pilot.@@N@@
namespace Jvm.Pilot.@@N@@
open Jvm Jvm.ClassFile Sem Op Lib Jvm.Free Jvm.Stand Jvm.Pilot.@@N@@.Jvm.D
/-! MADE BY PROGRAM (witnessworld.py) out of the Statement's table words and the real class files: 9 classes; the members and pool entries that the words name. The judged class is class 1, her method 1. -/
namespace start1
open Jvm.ClassFile
def u (s : String) : CpInfo := .utf8 (stringToUtf16 s)
/-- a pool by its gaps: so many unusable entries, then the entry; so many at the end -/
def gap : Nat → List CpInfo → List CpInfo
  | 0, r => r
  | n + 1, r => .unusable :: gap n r
def poolList (es : List (Nat × CpInfo)) (last : Nat) : List CpInfo := es.foldr (fun e r => gap e.1 (e.2 :: r)) (gap last [])
def pool (es : List (Nat × CpInfo)) (last : Nat) : Array CpInfo := ⟨poolList es last⟩
def fileOf (pool : Array CpInfo) (this : Nat) (attrs : Array Attribute := #[]) (ms : Array MethodInfo := #[]) (fl : Nat := 33) (sup : Nat := 0) (ifs : Array Nat := #[]) (fds : Array FieldInfo := #[]) : ClassFile where
  minorVersion := 0
  majorVersion := 65
  constantPool := pool
  accessFlags := fl
  thisClass := this
  superClass := sup
  interfaces := ifs
  fields := fds
  methods := ms
  attributes := attrs
def plain (name : String) (sup : Option ClassId) : Class where
  name := name
  kind := .ordinary
  loader := none
  accessFlags := 33
  super := sup
  interfaces := #[]
  cf := none
  fields := #[]
  methods := #[]
  instanceTypes := #[]
  staticTypes := #[]
  resolved := #[]
  callSites := []
  init := .initialized
  statics := none
  mirror := none

def pool0 : Array CpInfo := pool [(5, u "<init>"), (0, u "()V"), (1, .class_ 10), (1, u "java/lang/Object")] 113

def k0m0 : Method := { name := "<init>", desc := "()V", sig := { parameters := [], returnType := none }, accessFlags := 1, code := none }
/-- java/lang/Object -/
def k0 : Class := { plain "java/lang/Object" none with
  accessFlags := 33
  interfaces := #[]
  cf := some (fileOf pool0 8 #[] #[{ accessFlags := 1, nameIndex := 5, descriptorIndex := 6, attributes := #[] }] 33 0 #[] #[])
  fields := #[]
  methods := #[k0m0]
  instanceTypes := #[]
  staticTypes := #[]
  resolved := Array.replicate 124 none
  statics := none }

def pool1 : Array CpInfo := pool [(2, .class_ 4), (1, u "java/lang/Object"), (0, u "<init>"), (0, u "()V"), (2, .long 9223372036854775807), (1, .methodref 12 13), (0, .class_ 14), (0, .nameAndType 15 16), (0, u "com/example/pivotwise/pivotwise/index/ByteEncoder"), (0, u "encode"), (0, u "(J[BI)I"), (0, .methodref 18 19), (0, .class_ 20), (0, .nameAndType 21 22), (0, u "com/example/pivotwise/pivotwise/index/ByteEncoderEncodePinLaw"), (0, u "length"), (0, u "(J)I"), (0, .methodref 18 24), (0, .nameAndType 25 26), (0, u "ok"), (0, u "([BIJIIB)Z"), (0, .long 128), (1, .long 16384), (1, .long 2097152), (1, .long 268435456), (1, .long 34359738368), (1, .long 4398046511104), (1, .long 562949953421312), (1, .long 72057594037927936), (1, .long 127), (3, u "law"), (0, u "(JIII)Z")] 5

def k1m0 : Method := { name := "<init>", desc := "()V", sig := { parameters := [], returnType := none }, accessFlags := 1, code := none }
def k1c1 : Code := { maxStack := 7, maxLocals := 12, code := code, exceptionTable := #[], attributes := #[] }
def k1m1 : Method := { name := "law", desc := "(JIII)Z", sig := { parameters := [.long, .int, .int, .int], returnType := some .boolean }, accessFlags := 9, code := some k1c1 }
def k1c2 : Code := { maxStack := 4, maxLocals := 2, code := method_3_code, exceptionTable := #[], attributes := #[] }
def k1m2 : Method := { name := "length", desc := "(J)I", sig := { parameters := [.long], returnType := some .int }, accessFlags := 10, code := some k1c2 }
def k1c3 : Code := { maxStack := 4, maxLocals := 9, code := method_4_code, exceptionTable := #[], attributes := #[] }
def k1m3 : Method := { name := "ok", desc := "([BIJIIB)Z", sig := { parameters := [(.array .byte), .int, .long, .int, .int, .byte], returnType := some .boolean }, accessFlags := 10, code := some k1c3 }
/-- com/example/pivotwise/pivotwise/index/ByteEncoderEncodePinLaw -/
def k1 : Class := { plain "com/example/pivotwise/pivotwise/index/ByteEncoderEncodePinLaw" (some 0) with
  accessFlags := 49
  interfaces := #[]
  cf := some (fileOf pool1 18 #[] #[{ accessFlags := 1, nameIndex := 5, descriptorIndex := 6, attributes := #[] }, { accessFlags := 9, nameIndex := 47, descriptorIndex := 48, attributes := #[] }, { accessFlags := 10, nameIndex := 21, descriptorIndex := 22, attributes := #[] }, { accessFlags := 10, nameIndex := 25, descriptorIndex := 26, attributes := #[] }] 49 2 #[] #[])
  fields := #[]
  methods := #[k1m0, k1m1, k1m2, k1m3]
  instanceTypes := #[]
  staticTypes := #[]
  resolved := Array.replicate 54 none
  statics := none }

def pool2 : Array CpInfo := pool [(2, .class_ 4), (1, u "java/lang/Object"), (3, .class_ 10), (1, u "com/example/pivotwise/pivotwise/index/ByteEncoder"), (0, u "bytes"), (0, u "[B"), (0, .long 128), (40, u "size"), (0, u "I"), (24, .class_ 82), (1, u "com/example/pivotwise/pivotwise/index/ByteEncoder$Entries"), (23, u "FIXED_WIDTH_ORDER"), (0, u "Ljava/nio/ByteOrder;"), (49, u "encode"), (0, u "(J[BI)I")] 44

def k2c0 : Code := { maxStack := 6, maxLocals := 7, code := prog_97_method_2_code, exceptionTable := #[], attributes := #[] }
def k2m0 : Method := { name := "encode", desc := "(J[BI)I", sig := { parameters := [.long, (.array .byte), .int], returnType := some .int }, accessFlags := 8, code := some k2c0 }
/-- com/example/pivotwise/pivotwise/index/ByteEncoder -/
def k2 : Class := { plain "com/example/pivotwise/pivotwise/index/ByteEncoder" (some 0) with
  accessFlags := 48
  interfaces := #[]
  cf := some (fileOf pool2 8 #[.nestMembers #[80]] #[{ accessFlags := 8, nameIndex := 157, descriptorIndex := 158, attributes := #[] }] 48 2 #[] #[{ accessFlags := 24, nameIndex := 106, descriptorIndex := 107, attributes := #[] }, { accessFlags := 2, nameIndex := 11, descriptorIndex := 12, attributes := #[] }, { accessFlags := 2, nameIndex := 54, descriptorIndex := 55, attributes := #[] }])
  fields := #[{ name := "FIXED_WIDTH_ORDER", type := (.object "java/nio/ByteOrder"), accessFlags := 24, slot := 0, constantValue := 0 }, { name := "bytes", type := (.array .byte), accessFlags := 2, slot := 0, constantValue := 0 }, { name := "size", type := .int, accessFlags := 2, slot := 1, constantValue := 0 }]
  methods := #[k2m0]
  instanceTypes := #[(.array .byte), .int]
  staticTypes := #[(.object "java/nio/ByteOrder")]
  resolved := Array.replicate 203 none
  statics := none }

def pool3 : Array CpInfo := pool [(1, u "java/lang/Cloneable"), (0, .class_ 1), (0, u "java/lang/Object"), (0, .class_ 3)] 3

/-- java/lang/Cloneable -/
def k3 : Class := { plain "java/lang/Cloneable" (some 0) with
  accessFlags := 1537
  interfaces := #[]
  cf := some (fileOf pool3 2 #[] #[] 1537 4 #[] #[])
  fields := #[]
  methods := #[]
  instanceTypes := #[]
  staticTypes := #[]
  resolved := Array.replicate 8 none
  statics := none }

def pool4 : Array CpInfo := pool [(1, u "java/io/Serializable"), (0, .class_ 1), (0, u "java/lang/Object"), (0, .class_ 3)] 3

/-- java/io/Serializable -/
def k4 : Class := { plain "java/io/Serializable" (some 0) with
  accessFlags := 1537
  interfaces := #[]
  cf := some (fileOf pool4 2 #[] #[] 1537 4 #[] #[])
  fields := #[]
  methods := #[]
  instanceTypes := #[]
  staticTypes := #[]
  resolved := Array.replicate 8 none
  statics := none }

/-- the primitive byte -/
def k5 : Class := { plain "byte" none with kind := .primitive 'B', accessFlags := 0x411 }
/-- [B -/
def k6 : Class := { plain "[B" (some 0) with kind := .array 5 .byte, interfaces := #[3, 4], accessFlags := 1041 }

/-- the primitive int -/
def k7 : Class := { plain "int" none with kind := .primitive 'I', accessFlags := 0x411 }
/-- [I -/
def k8 : Class := { plain "[I" (some 0) with kind := .array 7 .int, interfaces := #[3, 4], accessFlags := 1041 }

def heap : Heap := #[]
def classes : Array Class := #[k0, k1, k2, k3, k4, k5, k6, k7, k8]
def interned : List (Array UInt16 × Addr) := []
def slotsUsed : Nat := 0
def theMethod : MethodId := ⟨1, 1⟩
def args0 : Array Value := #[.long 300, .int 0, .int 1, .int 5]
def aboutOver (below : List Frame) : State where
  vm := { classes := classes, interned := interned.toArray }
  heap := heap
  slotsUsed := slotsUsed
  threads := #[{ frames := .invoking theMethod args0 :: below }]
def below0 : List Frame := [.native { method := ⟨0, 0⟩, args := #[] }]
def about1 : State := aboutOver below0
def p0 : Program := .bare "" "" ""
def e0 : Env := launch0.env 0 0 0
theorem w_frames : about1.frames = Frame.invoking theMethod args0 :: below0 := rfl
set_option maxRecDepth 65536 in
theorem w_args : argsFit about1.vm theMethod args0 = true := by decide +kernel
set_option maxRecDepth 65536 in
theorem w_heap : heapFits about1 = true := by decide +kernel
set_option maxRecDepth 65536 in
theorem w_runnable : about1.curStatus? = some .runnable := by decide +kernel
set_option maxRecDepth 65536 in
theorem w_alone : about1.alone = true := by decide +kernel
set_option maxRecDepth 65536 in
theorem w_named : about1.methodNamed? x = some theMethod := by decide +kernel
set_option maxRecDepth 65536 in
theorem w_hears : about1.hears theMethod below0 = true := by decide +kernel
set_option maxRecDepth 65536 in
theorem w_ripe : about1.ripe theMethod args0 below0 = true := by decide +kernel
theorem w_running : about1.status = .running := rfl
set_option maxRecDepth 65536 in
theorem w_room : about1.hasRoom e0.platform room_1 = true :=
  launch0.hasRoom_least _ room_1 (by decide +kernel) (by decide +kernel) (by decide +kernel) (by decide +kernel) (by decide +kernel) (by decide +kernel)
theorem allAtoms_all (ts : List Jvm.Cond) (a : Array Jvm.Value) (st : Jvm.State) : (allAtoms ts).before a st = ts.all (fun c => c.before a st) := by
  induction ts with
  | nil => rfl
  | cons c t ih =>
    show (Jvm.Cond.and c (allAtoms t)).before a st = _
    rw [Jvm.Cond.before_and, ih, List.all_cons]
def words1 : List Jvm.Cond := Jvm.Cond.code x code maxLocals ret :: tables_1
/-- a 'code' word, met by the world's own term for the bytes: nothing is compared byte by byte -/
theorem code_word {y : MethodName} {bytes : ByteArray} {mx : Nat} {rt : Option FieldType} {a : Array Value} {s : State} {m : MethodId} {meth : Method} {c : Code} (h1 : s.methodNamed? y = some m) (h2 : s.vm.method? m = some meth) (h3 : meth.code = some c) (h4 : c.code = bytes)
    (h5 : (c.maxLocals == mx && c.exceptionTable.isEmpty && decide (c.maxStack ≤ mostOperands) && decide (meth.sig.returnType = rt) && !meth.locks && decide (parseMethodDescriptor y.desc = some meth.sig)) = true) : (Jvm.Cond.code y bytes mx rt).before a s = true := by
  simp only [Bool.and_eq_true, beq_iff_eq, Bool.not_eq_true', decide_eq_true_eq] at h5
  obtain ⟨⟨⟨⟨⟨g1, g2⟩, g3⟩, g4⟩, g5⟩, g6⟩ := h5
  simp [Cond.before, Cond.holds, Cond.value, h1, h2, h3, h4, g1, g2, g3, g4, g5, g6]
def isCode : Jvm.Cond → Bool
  | .code _ _ _ _ => true
  | _ => false
theorem all_split {L : List Jvm.Cond} {P : Jvm.Cond → Bool} (h1 : L.all (fun c => isCode c || P c) = true) (h2 : ∀ c ∈ L.filter isCode, P c = true) : L.all P = true := by
  refine List.all_eq_true.mpr fun c hc => ?_
  have h := List.all_eq_true.mp h1 c hc
  rcases Bool.eq_false_or_eq_true (isCode c) with hi | hi
  · exact h2 c (List.mem_filter.mpr ⟨hc, hi⟩)
  · simpa [hi] using h
set_option maxRecDepth 65536 in
theorem w_c0 : (Jvm.Cond.code x code maxLocals ret).before args0 about1 = true := code_word (m := ⟨1, 1⟩) (meth := k1m1) (c := k1c1) (by decide +kernel) rfl rfl rfl (by decide +kernel)
set_option maxRecDepth 65536 in
theorem w_c1 : (Jvm.Cond.code ({ cls := "com/example/pivotwise/pivotwise/index/ByteEncoder", name := "encode", desc := "(J[BI)I" } : Jvm.MethodName) prog_97_method_2_code (7 : Nat) (Option.some Jvm.ClassFile.FieldType.int)).before args0 about1 = true := code_word (m := ⟨2, 0⟩) (meth := k2m0) (c := k2c0) (by decide +kernel) rfl rfl rfl (by decide +kernel)
set_option maxRecDepth 65536 in
theorem w_c2 : (Jvm.Cond.code ({ cls := "com/example/pivotwise/pivotwise/index/ByteEncoderEncodePinLaw", name := "length", desc := "(J)I" } : Jvm.MethodName) method_3_code (2 : Nat) (Option.some Jvm.ClassFile.FieldType.int)).before args0 about1 = true := code_word (m := ⟨1, 2⟩) (meth := k1m2) (c := k1c2) (by decide +kernel) rfl rfl rfl (by decide +kernel)
set_option maxRecDepth 65536 in
theorem w_c3 : (Jvm.Cond.code ({ cls := "com/example/pivotwise/pivotwise/index/ByteEncoderEncodePinLaw", name := "ok", desc := "([BIJIIB)Z" } : Jvm.MethodName) method_4_code (9 : Nat) (Option.some Jvm.ClassFile.FieldType.boolean)).before args0 about1 = true := code_word (m := ⟨1, 3⟩) (meth := k1m3) (c := k1c3) (by decide +kernel) rfl rfl rfl (by decide +kernel)
def codes1 : List Jvm.Cond := [Jvm.Cond.code x code maxLocals ret, Jvm.Cond.code ({ cls := "com/example/pivotwise/pivotwise/index/ByteEncoder", name := "encode", desc := "(J[BI)I" } : Jvm.MethodName) prog_97_method_2_code (7 : Nat) (Option.some Jvm.ClassFile.FieldType.int), Jvm.Cond.code ({ cls := "com/example/pivotwise/pivotwise/index/ByteEncoderEncodePinLaw", name := "length", desc := "(J)I" } : Jvm.MethodName) method_3_code (2 : Nat) (Option.some Jvm.ClassFile.FieldType.int), Jvm.Cond.code ({ cls := "com/example/pivotwise/pivotwise/index/ByteEncoderEncodePinLaw", name := "ok", desc := "([BIJIIB)Z" } : Jvm.MethodName) method_4_code (9 : Nat) (Option.some Jvm.ClassFile.FieldType.boolean)]
set_option maxRecDepth 65536 in
theorem codes_eq : words1.filter isCode = codes1 := rfl
theorem w_codes : ∀ c ∈ words1.filter isCode, c.before args0 about1 = true := by
  rw [codes_eq]
  intro c hc
  simp only [codes1, List.mem_cons, List.not_mem_nil, or_false] at hc
  rcases hc with rfl | rfl | rfl | rfl
  · exact w_c0
  · exact w_c1
  · exact w_c2
  · exact w_c3
set_option maxRecDepth 65536 in
theorem w_t1 : words1.all (fun c => isCode c || c.before args0 about1) = true := by decide +kernel
theorem w_tables : (allAtoms (Jvm.Cond.code x code maxLocals ret :: tables_1)).before args0 about1 = true := by
  rw [allAtoms_all]
  show words1.all (fun c => c.before args0 about1) = true
  refine all_split ?_ w_codes
  rw [w_t1]
set_option maxRecDepth 65536 in
theorem w_case : (Jvm.Cond.and given_1 narrow_1).before args0 about1 = true := by decide +kernel
theorem w_applies : (headSpec (Jvm.Cond.code x code maxLocals ret :: tables_1) room_1).applies x e0.platform about1 = true :=
  (Spec.applies_iff w_frames).mpr ⟨w_running, w_runnable, w_alone, w_named, w_hears, w_ripe, w_room, w_tables⟩
theorem atStart : AtStart classFile x code maxLocals ret World_1 tables_1 room_1 Calls_1 rest_1 Pre_1 launch0 p0 e0 about1 theMethod args0 below0 :=
  ⟨lists_1, trivial, launch0.admits_env _ _ _, launch0.least_env, fairChoices_fair.cas, fairChoices_fair.clock, w_frames, w_args, w_heap, w_applies, trivial, trivial, w_case⟩
end start1
theorem witness_1 : WitnessClaimed_1 := ⟨start1.p0, start1.e0, start1.about1, start1.theMethod, start1.args0, start1.below0, start1.atStart⟩
end Jvm.Pilot.@@N@@
