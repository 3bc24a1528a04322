import JvmDerived
import JvmDerived.Pilot.@@N@@Statement
import JvmDerived.Pilot.@@N@@Code
set_option linter.unusedVariables false
set_option linter.unusedSimpArgs false
namespace Jvm.RoadKit
open Sem ClassFile Op Lib Jvm.Stand Jvm.Free Jvm.LawKit
section Own
variable {p : Program} {l : Launch} {e : Env} {R : Room} {s : State} {m : MethodId} {args : Array Value} {below : List Frame} {meth : Method} {c : Code} {T T' : State} {locs : List Loc} {cells slots : Nat} {CC SS : Nat} {Q : Option Value → Heap → List Loc → Prop} {g g' : JFrame}
/-- from the frame g over T the run returns, and what it leaves is as Q says -/
def Done (p : Program) (e : Env) (s : State) (below : List Frame) (CC SS : Nat) (Q : Option Value → Heap → List Loc → Prop) (T : State) (g : JFrame) : Prop :=
  ∃ s₂ o, Steps p.tables e below (T.setTop g) s₂ ∧ s₂.status = .running ∧ Ended s₂ below o ∧ ∃ v L, o = .returned v ∧ Q v s₂.heap L ∧ FrameEnd s o s₂ L CC SS
theorem Done.go (st : ∀ t, Steps p.tables e below (T'.setTop g') t → Steps p.tables e below (T.setTop g) t) (k : Done p e s below CC SS Q T' g') : Done p e s below CC SS Q T g := by
  obtain ⟨s2, o, h, r⟩ := k; exact ⟨s2, o, st _ h, r⟩
theorem Done.via (st : Steps p.tables e below (T.setTop g) (T'.setTop g')) (k : Done p e s below CC SS Q T' g') : Done p e s below CC SS Q T g := by
  obtain ⟨s2, o, h, r⟩ := k; exact ⟨s2, o, st.trans h, r⟩
theorem Done.ret (X : Stand p l e R s m args below meth c T locs cells slots) (hlk : meth.locks = false) {v : Option Value} (hv : meth.sig.returnType = none → v = none)
    (st : ∀ fs : List Frame, (∀ (f : JFrame) (acts : List Action), f.method = m → f.locked = none → f.entered = [] → (doReturn e (T.setTop f) acts v).1 = T.setFrames fs) → Steps p.tables e below (T.setTop g) (T.setFrames fs))
    (hq : Q v T.heap locs) (hc : cells ≤ CC) (hs : slots ≤ SS) : Done p e s below CC SS Q T g := by
  obtain ⟨fs, hr, hrun, hended, hW, hsame⟩ := X.leave (v := v) hv hlk
  exact ⟨_, _, st fs hr, hrun, hended, _, _, rfl, hq, ⟨_, rfl⟩, hW, hsame.mono hc hs⟩
theorem Done.retI (X : Stand p l e R s m args below meth c T locs cells slots) (hx : p.tables.exec = Jvm.exec) (hlk : meth.locks = false) {pc : Nat} {Ls : Array Slot} {z : Int32} {rest : List Value} (hret : meth.sig.returnType = some .int) (hd : decode c.code pc = .ok (.ireturn, 1))
    (hq : Q (some (.int z)) T.heap locs) (hc : cells ≤ CC) (hs : slots ≤ SS) : Done p e s below CC SS Q T (mkF m pc Ls (.int z :: rest)) := by
  refine Done.ret X hlk (fun h => by rw [hret] at h; cases h) (fun fs hl => ?_) hq hc hs
  have hm' : T.vm.method? m = some meth := X.method'
  have hn : narrow .int (.int z) = .int z := rfl
  show Steps p.tables e below (T.setTop { method := m, pc := pc, locals := Ls, stack := _ :: rest, locked := none }) _
  jvm_step X.here [X.here.top, hx, hd, hm', hret, hn]
  first | (intro acts; rw [hl _ acts rfl rfl rfl]) | rw [hl _ _ rfl rfl rfl]
  exact Steps.refl _
theorem Done.retJ (X : Stand p l e R s m args below meth c T locs cells slots) (hx : p.tables.exec = Jvm.exec) (hlk : meth.locks = false) {pc : Nat} {Ls : Array Slot} {z : Int64} {rest : List Value} (hret : meth.sig.returnType = some .long) (hd : decode c.code pc = .ok (.lreturn, 1))
    (hq : Q (some (.long z)) T.heap locs) (hc : cells ≤ CC) (hs : slots ≤ SS) : Done p e s below CC SS Q T (mkF m pc Ls (.long z :: rest)) := by
  refine Done.ret X hlk (fun h => by rw [hret] at h; cases h) (fun fs hl => ?_) hq hc hs
  have hm' : T.vm.method? m = some meth := X.method'
  show Steps p.tables e below (T.setTop { method := m, pc := pc, locals := Ls, stack := _ :: rest, locked := none }) _
  jvm_step X.here [X.here.top, hx, hd, hm', hret]
  first | (intro acts; rw [hl _ acts rfl rfl rfl]) | rw [hl _ _ rfl rfl rfl]
  exact Steps.refl _
theorem Done.retR (X : Stand p l e R s m args below meth c T locs cells slots) (hx : p.tables.exec = Jvm.exec) (hlk : meth.locks = false) {pc : Nat} {Ls : Array Slot} {v : Value} {t : FieldType} {rest : List Value} (hret : meth.sig.returnType = some t) (ht : t.isReference = true) (hv : v.isRef = true) (hd : decode c.code pc = .ok (.areturn, 1))
    (hq : Q (some v) T.heap locs) (hc : cells ≤ CC) (hs : slots ≤ SS) : Done p e s below CC SS Q T (mkF m pc Ls (v :: rest)) := by
  refine Done.ret X hlk (fun h => by rw [hret] at h; cases h) (fun fs hl => ?_) hq hc hs
  have hm' : T.vm.method? m = some meth := X.method'
  show Steps p.tables e below (T.setTop { method := m, pc := pc, locals := Ls, stack := _ :: rest, locked := none }) _
  jvm_step X.here [X.here.top, hx, hd, hm', hret, ht, hv]
  first | (intro acts; rw [hl _ acts rfl rfl rfl]) | rw [hl _ _ rfl rfl rfl]
  exact Steps.refl _
theorem Done.retV (X : Stand p l e R s m args below meth c T locs cells slots) (hx : p.tables.exec = Jvm.exec) (hlk : meth.locks = false) {pc : Nat} {Ls : Array Slot} (hret : meth.sig.returnType = none) (hd : decode c.code pc = .ok (.return_, 1))
    (hq : Q none T.heap locs) (hc : cells ≤ CC) (hs : slots ≤ SS) : Done p e s below CC SS Q T (mkF m pc Ls []) :=
  Done.ret X hlk (fun _ => rfl) (fun fs hl => X.returnOut hx hret hd hl) hq hc hs
theorem Done.retN (X : Stand p l e R s m args below meth c T locs cells slots) (hx : p.tables.exec = Jvm.exec) (hlk : meth.locks = false) {pc : Nat} {Ls : Array Slot} {z z' : Int32} {t : FieldType} {rest : List Value} (hret : meth.sig.returnType = some t) (ht : t = .boolean ∨ t = .byte ∨ t = .char ∨ t = .short) (hz : nar t z = z')
    (hd : decode c.code pc = .ok (.ireturn, 1)) (hq : Q (some (.int z')) T.heap locs) (hc : cells ≤ CC) (hs : slots ≤ SS) : Done p e s below CC SS Q T (mkF m pc Ls (.int z :: rest)) := by
  subst hz
  exact Done.ret X hlk (fun h => by rw [hret] at h; cases h) (fun fs hl => Jvm.RoadKit.retN X hx hret ht hd hl) hq hc hs
theorem own_backG {rc rs : Nat} {rest : List Value} {Q0 : Option Value → Heap → List Loc → Prop} (h : ∃ (v : Option Value) (vm₁ : Vm) (B : Pt), s.WarmedH vm₁ ∧ Stand p l e R s m args below meth c B.U B.locs B.cells B.slots ∧ (∃ L, Q0 v B.U.heap L ∧ B.locs = locs ++ L ∧ B.cells = cells + rc ∧ B.slots = slots + rs) ∧
      ∀ target, Steps p.tables e below (B.U.setTop { g with pc := g.pc + 3, stack := v.toList ++ rest }) target → Steps p.tables e below (T.setTop g) target) :
    ∃ v T' Lc, Stand p l e R s m args below meth c T' (locs ++ Lc) (cells + rc) (slots + rs) ∧ Q0 v T'.heap Lc ∧ ∀ target, Steps p.tables e below (T'.setTop { g with pc := g.pc + 3, stack := v.toList ++ rest }) target → Steps p.tables e below (T.setTop g) target := by
  obtain ⟨v, vm, ⟨U, L, k, n⟩, -, X, ⟨Lc, hQ, rfl, rfl, rfl⟩, st⟩ := h
  exact ⟨v, U, Lc, X, hQ, st⟩
theorem own_backV {rc rs : Nat} {rest : List Value} {Q0 : Option Value → Heap → List Loc → Prop} (h : ∃ (v : Option Value) (vm₁ : Vm) (B : Pt), s.WarmedH vm₁ ∧ Stand p l e R s m args below meth c B.U B.locs B.cells B.slots ∧ (∃ L, Q0 v B.U.heap L ∧ B.locs = locs ++ L ∧ B.cells = cells + rc ∧ B.slots = slots + rs) ∧
      Steps p.tables e below (T.setTop g) (B.U.setTop { g with pc := g.pc + 3, stack := v.toList ++ rest })) :
    ∃ v T' Lc, Stand p l e R s m args below meth c T' (locs ++ Lc) (cells + rc) (slots + rs) ∧ Q0 v T'.heap Lc ∧ ∀ target, Steps p.tables e below (T'.setTop { g with pc := g.pc + 3, stack := v.toList ++ rest }) target → Steps p.tables e below (T.setTop g) target := by
  obtain ⟨v, vm, ⟨U, L, k, n⟩, -, X, ⟨Lc, hQ, rfl, rfl, rfl⟩, st⟩ := h
  exact ⟨v, U, Lc, X, hQ, fun _ k => st.trans k⟩
theorem own_backI {rc rs : Nat} {rest : List Value} {Q0 : Option Value → Heap → List Loc → Prop} (h : ∃ (v : Option Value) (vm₁ : Vm) (B : Pt), s.WarmedH vm₁ ∧ Stand p l e R s m args below meth c B.U B.locs B.cells B.slots ∧ (∃ L, Q0 v B.U.heap L ∧ B.locs = locs ++ L ∧ B.cells = cells + rc ∧ B.slots = slots + rs) ∧
      Steps p.tables e below (T.setTop g) (B.U.setTop { g with pc := g.pc + 5, stack := v.toList ++ rest })) :
    ∃ v T' Lc, Stand p l e R s m args below meth c T' (locs ++ Lc) (cells + rc) (slots + rs) ∧ Q0 v T'.heap Lc ∧ ∀ target, Steps p.tables e below (T'.setTop { g with pc := g.pc + 5, stack := v.toList ++ rest }) target → Steps p.tables e below (T.setTop g) target := by
  obtain ⟨v, vm, ⟨U, L, k, n⟩, -, X, ⟨Lc, hQ, rfl, rfl, rfl⟩, st⟩ := h
  exact ⟨v, U, Lc, X, hQ, fun _ k => st.trans k⟩
theorem own_narB (x : Int32) : nar .byte x.toInt8.toInt32 = x.toInt8.toInt32 := by simp [nar]
end Own
end Jvm.RoadKit
namespace Jvm.RoadKit
open Sem ClassFile Op Lib Jvm.Stand Jvm.Free Jvm.LawKit
section OwnA
variable {p : Program} {l : Launch} {e : Env} {R : Room} {s : State} {m : MethodId} {args : Array Value} {below : List Frame} {meth : Method} {c : Code} {T T' : State} {locs : List Loc} {cells slots : Nat} {CC SS : Nat} {Q : Option Value → Heap → List Loc → Prop} {g g' : JFrame} {Z : State} {h h' : Heap} {a b : Addr} {ty : FieldType} {n : Nat} {f f' : Nat → Int32} {ws : List Addr} {sl : Nat} {v : Value}
/-- an array of n places at a; place i holds f i -/
def Ari (Z : State) (h : Heap) (a : Addr) (ty : FieldType) (n : Nat) (f : Nat → Int32) : Prop := ∃ cl : Cell, Arr Z h a cl ty ∧ cl.slots.size = n ∧ n < 2 ^ 31 ∧ ∀ i, i < n → cl.slots[i]? = some (.int (f i))
theorem Ari.lt (F : Ari Z h a ty n f) : a < h.size := by obtain ⟨_, A, -⟩ := F; exact A.lt
theorem Ari.ext (F : Ari Z h a ty n f) (E : Ext h h') : Ari Z h' a ty n f := by obtain ⟨cl, A, r⟩ := F; exact ⟨cl, A.ext E, r⟩
theorem Ari.other (F : Ari Z h b ty n f) (W : Wr h h' a sl v) (q : b ≠ a) : Ari Z h' b ty n f := by obtain ⟨cl, A, r⟩ := F; exact ⟨cl, A.other W q, r⟩
theorem Ari.keep (F : Ari Z h a ty n f) (K : Keep h h' ws) (q : a ∉ ws) : Ari Z h' a ty n f := by obtain ⟨cl, A, r⟩ := F; exact ⟨cl, ⟨K.2.1 a cl A.1 q, A.2⟩, r⟩
theorem Ari.congr (F : Ari Z h a ty n f) (q : ∀ i, i < n → f i = f' i) : Ari Z h a ty n f' := by obtain ⟨cl, A, r1, r2, r⟩ := F; exact ⟨cl, A, r1, r2, fun i hi => by rw [r i hi, q i hi]⟩
theorem Ari.small (F : Ari Z h a ty n f) : n < 2 ^ 31 := by obtain ⟨_, _, _, r, _⟩ := F; exact r
theorem Ari.set {j : Nat} {w : Int32} (F : Ari Z h a ty n f) (W : Wr h h' a j (.int w)) : Ari Z h' a ty n (fun i => if i = j then w else f i) := by
  obtain ⟨cl, A, r1, r2, r⟩ := F
  refine ⟨_, A.same W, by rw [sz_set]; exact r1, r2, fun i hi => ?_⟩
  by_cases u : i = j
  · subst u; simp [Cell.setSlot, r1, hi]
  · have := r i hi; simp only [Cell.setSlot, if_neg u]; rw [Array.getElem?_setIfInBounds_ne (Ne.symm u)]; exact this
theorem Ari.new {k : ClassId} {z : Int32} (A : Arr Z h a (newA k ty z) ty) (q : ¬ z < 0) (hz : z.toNatClampNeg = n) (hd : defaultValue ty = .int 0) : Ari Z h a ty n (fun _ => 0) :=
  ⟨_, A, by rw [sz_new, hz], by have := (back32 q).2; rw [hz] at this; exact this, fun i hi => by simp [newA, hz, hi, hd]⟩
theorem Ari.inb {cl : Cell} {j : Int32} {i : Nat} (hs : cl.slots.size = n) (hj : ¬ j < 0) (hi : j.toNatClampNeg = i) (hn : i < n) : ¬ (j < 0 ∨ cl.slots.size ≤ j.toNatClampNeg) := by
  rintro (q | q)
  · exact hj q
  · rw [hs, hi] at q; omega
theorem own_stB (X : Stand p l e R s m args below meth c T locs cells slots) (hx : p.tables.exec = Jvm.exec) (hZ : Z.Warmed39 s.vm) (eT : T.heap = h) (F : Ari Z h a .byte n f) {j x : Int32} (i : Nat) (hj : ¬ j < 0) (hi : j.toNatClampNeg = i) (hn : i < n) {g : JFrame} (hg : g.method = m) {rest : List Value} (hs : g.stack = .int x :: .int j :: .ref a :: rest) (hd : decode c.code g.pc = .ok (.bastore, 1)) :
    ∃ T' h', Stand p l e R s m args below meth c T' (locs ++ [⟨a, i⟩]) cells slots ∧ T'.heap = h' ∧ Wr h h' a i (.int (nar .byte x)) ∧ Ari Z h' a .byte n (fun k => if k = i then nar .byte x else f k) ∧ ∀ target, Steps p.tables e below (T'.setTop { g with pc := g.pc + 1, stack := rest }) target → Steps p.tables e below (T.setTop g) target := by
  obtain ⟨cl, A, r1, r2, r⟩ := F
  obtain ⟨T', h', X', e', W, st⟩ := stB X hx hZ eT A (j := j) (x := x) (Ari.inb r1 hj hi hn) hg hs hd
  rw [hi] at X' W
  exact ⟨T', h', X', e', W, Ari.set ⟨cl, A, r1, r2, r⟩ W, st⟩
theorem Done.ldB (X : Stand p l e R s m args below meth c T locs cells slots) (hx : p.tables.exec = Jvm.exec) (hZ : Z.Warmed39 s.vm) (eT : T.heap = h) (F : Ari Z h a .byte n f) {j w : Int32} (i : Nat) (hj : ¬ j < 0) (hi : j.toNatClampNeg = i) (hn : i < n) (hw : f i = w) {pc : Nat} {Ls : Array Slot} {rest : List Value} (hd : decode c.code pc = .ok (.baload, 1))
    (k : Done p e s below CC SS Q T (mkF m (pc + 1) Ls (.int w :: rest))) : Done p e s below CC SS Q T (mkF m pc Ls (.int j :: .ref a :: rest)) := by
  obtain ⟨cl, A, r1, r2, r⟩ := F
  refine Done.go (fun t kk => X.baloadBytes hx (j := j) (v := .int w) (by rw [eT]; exact A.1) (State.isArrayOf_alike hZ.alike A.2.1) A.2.2 (Ari.inb r1 hj hi hn) (by rw [hi, ← hw]; exact r i hn) (g := (mkF m pc Ls (.int j :: .ref a :: rest))) rfl rfl hd t kk) k
theorem Done.len (X : Stand p l e R s m args below meth c T locs cells slots) (hx : p.tables.exec = Jvm.exec) (hZ : Z.Warmed39 s.vm) (eT : T.heap = h) (F : Ari Z h a ty n f) {z : Int32} (hz : n.toInt32 = z) {pc : Nat} {Ls : Array Slot} {rest : List Value} (hd : decode c.code pc = .ok (.arraylength, 1))
    (k : Done p e s below CC SS Q T (mkF m (pc + 1) Ls (.int z :: rest))) : Done p e s below CC SS Q T (mkF m pc Ls (.ref a :: rest)) := by
  obtain ⟨cl, A, r1, r2, r⟩ := F
  subst r1 hz
  exact Done.go (fun t kk => X.arraylength hx (by rw [eT]; exact A.1) (State.isArrayOf_alike hZ.alike A.2.1) (g := (mkF m pc Ls (.ref a :: rest))) rfl rfl hd t kk) k
theorem own_nt {a b : Prop} (h : a ↔ b) (q : ¬ a) : ¬ b := fun r => q (h.mpr r)
theorem own_lt32 {x y : Int32} (hx : ¬ x < 0) (hy : ¬ y < 0) : x < y ↔ x.toNatClampNeg < y.toNatClampNeg := by
  have h0 : (0 : Int32).toInt = 0 := rfl
  rw [Int32.lt_iff_toInt_lt, h0] at hx hy
  rw [Int32.lt_iff_toInt_lt]
  simp only [Int32.toNatClampNeg]; omega
theorem own_mask (x m : Int32) (k : Nat) (hk : k ≤ 31) (hm : m.toBitVec.toNat = 2 ^ k - 1) : ¬ (x &&& m) < 0 ∧ (x &&& m).toNatClampNeg < 2 ^ k := by
  have h := c_mask x m k hk hm
  have hp : (0 : Int) < (2 ^ k : Nat) := by exact_mod_cast Nat.two_pow_pos k
  have h1 := Int.emod_nonneg x.toInt (Int.ne_of_gt hp)
  have h2 := Int.emod_lt_of_pos x.toInt hp
  have h0 : (0 : Int32).toInt = 0 := rfl
  rw [Int32.lt_iff_toInt_lt, h0]
  simp only [Int32.toNatClampNeg]
  constructor
  · omega
  · rw [h]; omega
end OwnA
theorem Sta.own_keep {Z : State} {h h' : Heap} {C n d : String} {w : Value} {a : Addr} {ty : FieldType} {k : Nat} {f : Nat → Int32} (F : Sta Z h C n d w) (K : Keep h h' [a]) (A : Ari Z h a ty k f) : Sta Z h' C n d w := by
  obtain ⟨cf, i, kk, ff, st, cell, h1, h2, h3, h4, h5, h6, h7⟩ := F
  obtain ⟨cl, Ar, -⟩ := A
  have ne : st ≠ a := fun e => by
    subst e
    cases h5.symm.trans Ar.1
    rw [Ar.plain] at h6; cases h6
  exact ⟨cf, i, kk, ff, st, cell, h1, h2, h3, h4, K.2.1 st cell h5 (ninS ne nin0), h6, h7⟩
end Jvm.RoadKit
namespace Jvm.Pilot.@@N@@
open Jvm Jvm.ClassFile Sem Op Lib Jvm.Free Jvm.Stand Jvm.LawKit Jvm.RoadKit Bundle Jvm.Pilot.@@N@@.Jvm.D
def own_bi (b : Bool) : Int32 := cond b 1 0
theorem own_bi0 {b : Bool} : own_bi b = 0 ↔ b = false := by cases b <;> simp [own_bi]
theorem own_bi1 {b : Bool} : ¬ own_bi b = 0 ↔ b = true := by cases b <;> simp [own_bi]
theorem own_biN (b : Bool) : nar .boolean (own_bi b) = own_bi b := by cases b <;> rfl
def own_ws (x : Int32) : Bool := decide (x = 32) || decide (x = 9) || decide (x = 13) || decide (x = 10)
def own_scan (n : Nat) (f : Nat → Int32) : Nat → Nat → Bool
  | 0, _ => false
  | d + 1, i => (decide (i < n) && decide (f i = 60)) || (decide (i < n) && own_ws (f i) && own_scan n f d (i + 1))
def own_pre (n : Nat) (f : Nat → Int32) (k : Nat) (g : Nat → Int32) : Bool := decide (k ≤ n) && decide (∀ i, i < k → f i = g i)
def own_p16 (n : Nat) (x y : Int32) : Bool := decide (2 ≤ n) && ((decide (x = -2) && decide (y = -1)) || (decide (x = -1) && decide (y = -2)))
def own_p8 (n : Nat) (x y z : Int32) : Bool := decide (3 ≤ n) && decide (x = -17) && decide (y = -69) && decide (z = -65)
def own_be : Nat → Int32 | 0 => -2 | _ => -1
def own_le : Nat → Int32 | 0 => -1 | _ => -2
def own_u8 : Nat → Int32 | 0 => -17 | 1 => -69 | _ => -65
theorem own_all2 (f g : Nat → Int32) : (∀ i, i < 2 → f i = g i) ↔ f 0 = g 0 ∧ f 1 = g 1 :=
  ⟨fun h => ⟨h 0 (by decide), h 1 (by decide)⟩, fun h i hi => by match i, hi with | 0, _ => exact h.1 | 1, _ => exact h.2⟩
theorem own_all3 (f g : Nat → Int32) : (∀ i, i < 3 → f i = g i) ↔ f 0 = g 0 ∧ f 1 = g 1 ∧ f 2 = g 2 :=
  ⟨fun h => ⟨h 0 (by decide), h 1 (by decide), h 2 (by decide)⟩, fun h i hi => by match i, hi with | 0, _ => exact h.1 | 1, _ => exact h.2.1 | 2, _ => exact h.2.2⟩
theorem own_e16 (n : Nat) (f : Nat → Int32) : (own_pre n f 2 own_be || own_pre n f 2 own_le) = own_p16 n (f 0) (f 1) := by
  unfold own_pre own_p16
  simp only [own_all2, own_be, own_le, Bool.decide_and, Bool.and_or_distrib_left]
theorem own_e8 (n : Nat) (f : Nat → Int32) : own_pre n f 3 own_u8 = own_p8 n (f 0) (f 1) (f 2) := by
  unfold own_pre own_p8
  simp only [own_all3, own_u8, Bool.decide_and, Bool.and_assoc]
def own_ans (n : Nat) (f : Nat → Int32) : Bool := own_p16 n (f 0) (f 1) || cond (own_p8 n (f 0) (f 1) (f 2)) (own_scan n f 4 3) (own_scan n f 7 0)
theorem own_nws {x : Int32} (h : own_ws x = true) : ¬ x = 60 := by
  intro q; subst q; exact absurd h (by decide)
theorem own_i2c {x : Int32} (k : Int32) (hk : ¬ k < 0 ∧ k.toInt < 128) (hx : nar .byte x = x) : (x.toUInt32.toUInt16.toUInt32.toInt32 = k) ↔ x = k := by
  have r : -128 ≤ x.toInt ∧ x.toInt < 128 := by
    have := c_i2b x; have e : x.toInt8.toInt32 = x := hx; rw [e] at this; exact this.2
  have q := c_i2c x
  have h0 : (0 : Int32).toInt = 0 := rfl
  obtain ⟨hk0, hk1⟩ := hk
  rw [Int32.lt_iff_toInt_lt, h0] at hk0
  rw [← Int32.toInt_inj, ← Int32.toInt_inj]
  omega
theorem own_wsc {x : Int32} (hx : nar .byte x = x) : own_ws (x.toUInt32.toUInt16.toUInt32.toInt32) = own_ws x := by
  unfold own_ws
  simp only [own_i2c 32 (by decide) hx, own_i2c 9 (by decide) hx, own_i2c 13 (by decide) hx, own_i2c 10 (by decide) hx]
theorem own_ix {j : Int32} {i : Nat} (h : j.toInt = (i : Int)) : ¬ j < 0 ∧ j.toNatClampNeg = i := by
  rw [Int32.lt_iff_toInt_lt]
  have h0 : (0 : Int32).toInt = 0 := rfl
  simp only [Int32.toNatClampNeg]
  constructor <;> omega
theorem own_inc {j : Int32} {i : Nat} (h : j.toInt = (i : Int)) (hi : i < 1000000) : (j + 1).toInt = ((i + 1 : Nat) : Int) := by
  have a := c_iadd j 1
  have r := rng32 (j + 1)
  have e : (1 : Int32).toInt = 1 := rfl
  rw [e] at a; omega
theorem own_len32 {z : Int32} {n : Nat} (h : z.toInt = (n : Int)) : n.toInt32 = z := by
  obtain ⟨h0, hn⟩ := own_ix h; subst hn; exact (back32 h0).1
theorem own_toI {n : Nat} (h : n < 2 ^ 31) : (n.toInt32).toInt = (n : Int) := len_toInt h
theorem own_ltI {x y : Int32} {a b : Nat} (hx : x.toInt = (a : Int)) (hy : y.toInt = (b : Int)) : x < y ↔ a < b := by rw [Int32.lt_iff_toInt_lt, hx, hy]; omega
theorem own_nar2 (x : Int32) : nar .byte (nar .byte x) = nar .byte x := by simp [nar]
theorem own_m15 (x : Int64) : ¬ ((x &&& (15 : Int64)).toInt32) < 0 := by
  have h := c_maskL x 15 4 (by decide) (by decide)
  have q := c_l2i (x &&& 15)
  have r := rng32 ((x &&& 15).toInt32)
  have h0 : (0 : Int32).toInt = 0 := rfl
  rw [Int32.lt_iff_toInt_lt, h0]; omega
def own_sel (b0 b1 b2 b3 b4 b5 b6 : Int32) : Nat → Int32
  | 0 => b0 | 1 => b1 | 2 => b2 | 3 => b3 | 4 => b4 | 5 => b5 | _ => b6
theorem own_pd0 : parseMethodDescriptor "([B[B)Z" = some ⟨[(.array .byte), (.array .byte)], some .boolean⟩ := by decide +kernel
theorem own_pd1 : parseMethodDescriptor "(C)Z" = some ⟨[.char], some .boolean⟩ := by decide +kernel
theorem own_pd2 : parseMethodDescriptor "([B)Z" = some ⟨[(.array .byte)], some .boolean⟩ := by decide +kernel
theorem own_pd3 : parseMethodDescriptor "([BJJI)B" = some ⟨[(.array .byte), .long, .long, .int], some .byte⟩ := by decide +kernel
theorem own_pd4 : parseMethodDescriptor "([BII)Z" = some ⟨[(.array .byte), .int, .int], some .boolean⟩ := by decide +kernel
def QP (r : Int32) (h0 : Heap) (n0 : Nat) (v : Option Value) (h : Heap) (L : List Loc) : Prop := v = some (.int r) ∧ Fr n0 L ∧ h = h0
def Q1 (h0 : Heap) (n0 : Nat) (v : Option Value) (h : Heap) (L : List Loc) : Prop := ∃ r : Int32, v = some (.int r) ∧ nar .byte r = r ∧ Fr n0 L ∧ h = h0
theorem d1_0 : decode method_3_code 0 = .ok (.lload_n 3, 1) := by decide +kernel
theorem d1_1 : decode method_3_code 1 = .ok (.iconst 4, 1) := by decide +kernel
theorem d1_2 : decode method_3_code 2 = .ok (.iload 5, 2) := by decide +kernel
theorem d1_4 : decode method_3_code 4 = .ok (.imul, 1) := by decide +kernel
theorem d1_5 : decode method_3_code 5 = .ok (.lushr, 1) := by decide +kernel
theorem d1_6 : decode method_3_code 6 = .ok (.ldc2_w 26, 3) := by decide +kernel
theorem d1_9 : decode method_3_code 9 = .ok (.land, 1) := by decide +kernel
theorem d1_10 : decode method_3_code 10 = .ok (.l2i, 1) := by decide +kernel
theorem d1_11 : decode method_3_code 11 = .ok (.istore 6, 2) := by decide +kernel
theorem d1_13 : decode method_3_code 13 = .ok (.iload 6, 2) := by decide +kernel
theorem d1_15 : decode method_3_code 15 = .ok (.bipush 10, 2) := by decide +kernel
theorem d1_17 : decode method_3_code 17 = .ok (.if_icmp .ge 8, 3) := by decide +kernel
theorem d1_20 : decode method_3_code 20 = .ok (.aload_n 0, 1) := by decide +kernel
theorem d1_21 : decode method_3_code 21 = .ok (.iload 6, 2) := by decide +kernel
theorem d1_23 : decode method_3_code 23 = .ok (.baload, 1) := by decide +kernel
theorem d1_24 : decode method_3_code 24 = .ok (.ireturn, 1) := by decide +kernel
theorem d1_25 : decode method_3_code 25 = .ok (.lload_n 1, 1) := by decide +kernel
theorem d1_26 : decode method_3_code 26 = .ok (.bipush 8, 2) := by decide +kernel
theorem d1_28 : decode method_3_code 28 = .ok (.iload 5, 2) := by decide +kernel
theorem d1_30 : decode method_3_code 30 = .ok (.imul, 1) := by decide +kernel
theorem d1_31 : decode method_3_code 31 = .ok (.lushr, 1) := by decide +kernel
theorem d1_32 : decode method_3_code 32 = .ok (.l2i, 1) := by decide +kernel
theorem d1_33 : decode method_3_code 33 = .ok (.i2b, 1) := by decide +kernel
theorem d1_34 : decode method_3_code 34 = .ok (.ireturn, 1) := by decide +kernel
theorem own_pn0 : plainName "spinecode/xml/XmlInputRecognisesPinLaw" = true := by first | (simp [plainName, overriddenIn]; done) | decide +kernel
theorem ef_rm1 (m : MethodId) (a1 : Addr) (q1 : Int64) (q2 : Int64) (p3 : Int32) : entryFrame m #[(.ref a1), (.long q1), (.long q2), (.int p3)] 7 = mkF m 0 #[.val (.ref a1), .val (.long q1), .second, .val (.long q2), .second, .val (.int p3), .unset] [] := by first | (simp [entryFrame, mkF, argsToLocals, Value.category]; done) | rfl
set_option maxRecDepth 65536 in
set_option maxHeartbeats 40000000 in
theorem rm1 (l : Launch) (Z : State) (a0 : Array Value) (hw : ∀ d ∈ tables_1, d.before a0 Z = true) (ws : List Jvm.Cond) (a1 : Addr) (q1 : Int64) (q2 : Int64) (p3 : Int32) (f : Nat → Int32) (h0 : Heap) (n0 : Nat) (Z0 : n0 ≤ h0.size) (V0 : Ari Z h0 a1 .byte 10 f) :
    MetFree l (⟨"spinecode/xml/XmlInputRecognisesPinLaw", "draw", "([BJJI)B"⟩ : MethodName) (head1 (Jvm.Cond.code (⟨"spinecode/xml/XmlInputRecognisesPinLaw", "draw", "([BJJI)B"⟩ : MethodName) method_3_code 7 (some .byte) :: ws) ({ frames := 0, cells := 0, slots := 0, locals := 0 } : Room)) (fun a U => a = #[(.ref a1), (.long q1), (.long q2), (.int p3)] ∧ Z.Warmed39 U.vm ∧ U.heap = h0) (fun _ _ _ _ _ => True) (fun _ U o U' => ∃ vr Lr, o = .returned vr ∧ Q1 h0 n0 vr U'.heap Lr ∧ FrameEnd U o U' Lr 0 0) := by
  refine MetFree.of_bodySF (plainFor_of_name own_pn0) hisR ?_
  intro p e s m args below meth c s₁ Bd hml0 hP hK
  obtain ⟨rfl, hZ, hh⟩ := hP
  have hx := Bd.exec
  have hby := Bd.bytes
  have hml : c.maxLocals = 7 := hml0
  have hown : s.vm.findClass "spinecode/xml/XmlInputRecognisesPinLaw" = some m.cls := findClass_of_methodNamed Bd.named
  have hnm := (name_of_methodNamed Bd.named Bd.method).1
  have hlk : meth.locks = false := Bd.notSynchronized
  have hrt := Bd.returns
  have X0 : Stand p l e ({ frames := 0, cells := 0, slots := 0, locals := 0 } : Room) s m #[(.ref a1), (.long q1), (.long q2), (.int p3)] below meth c s₁ [] 0 0 := Stand.of_body Bd
  have e0 : s₁.heap = h0 := by rw [← hh, Bd.state]; rfl
  have N0 := Fr.nil n0
  show Done p e s below 0 0 (Q1 h0 n0) s₁ (entryFrame m #[(.ref a1), (.long q1), (.long q2), (.int p3)] 7)
  rw [ef_rm1]
  show Done p e s below _ _ _ s₁ (mkF m 0 #[.val (.ref a1), .val (.long q1), .second, .val (.long q2), .second, .val (.int p3), .unset] [])
  refine Done.go (fun _ kt_ => XS.lloadN X0.here hx rfl (hb hby d1_0) rfl kt_) ?_
  show Done p e s below _ _ _ s₁ (mkF m 1 #[.val (.ref a1), .val (.long q1), .second, .val (.long q2), .second, .val (.int p3), .unset] [(.long q2)])
  refine Done.go (fun _ kt_ => XS.iconst X0.here hx rfl (hb hby d1_1) kt_) ?_
  show Done p e s below _ _ _ s₁ (mkF m 2 #[.val (.ref a1), .val (.long q1), .second, .val (.long q2), .second, .val (.int p3), .unset] [(.int (4 : Int32)), (.long q2)])
  refine Done.go (fun _ kt_ => XS.iload X0.here hx rfl (hb hby d1_2) rfl kt_) ?_
  show Done p e s below _ _ _ s₁ (mkF m 4 #[.val (.ref a1), .val (.long q1), .second, .val (.long q2), .second, .val (.int p3), .unset] [(.int p3), (.int (4 : Int32)), (.long q2)])
  refine Done.go (fun _ kt_ => XS.imul X0.here hx rfl (hb hby d1_4) rfl kt_) ?_
  show Done p e s below _ _ _ s₁ (mkF m 5 #[.val (.ref a1), .val (.long q1), .second, .val (.long q2), .second, .val (.int p3), .unset] [(.int ((4 : Int32) * p3)), (.long q2)])
  refine Done.go (fun _ kt_ => XS.lushr X0.here hx rfl (hb hby d1_5) rfl kt_) ?_
  show Done p e s below _ _ _ s₁ (mkF m 6 #[.val (.ref a1), .val (.long q1), .second, .val (.long q2), .second, .val (.int p3), .unset] [(.long ((q2.toUInt64 >>> (((4 : Int32) * p3) &&& 0x3f).toInt64.toUInt64).toInt64))])
  refine Done.go (fun t_ kt_ => X0.ldc2Long hx hown (mvT hZ (hw _ (List.mem_of_getElem? (i := 5) rfl))) (g := (mkF m 6 #[.val (.ref a1), .val (.long q1), .second, .val (.long q2), .second, .val (.int p3), .unset] [(.long ((q2.toUInt64 >>> (((4 : Int32) * p3) &&& 0x3f).toInt64.toUInt64).toInt64))])) rfl (hb hby d1_6) t_ kt_) ?_
  show Done p e s below _ _ _ s₁ (mkF m 9 #[.val (.ref a1), .val (.long q1), .second, .val (.long q2), .second, .val (.int p3), .unset] [(.long (15 : Int64)), (.long ((q2.toUInt64 >>> (((4 : Int32) * p3) &&& 0x3f).toInt64.toUInt64).toInt64))])
  refine Done.go (fun _ kt_ => XS.land X0.here hx rfl (hb hby d1_9) rfl kt_) ?_
  show Done p e s below _ _ _ s₁ (mkF m 10 #[.val (.ref a1), .val (.long q1), .second, .val (.long q2), .second, .val (.int p3), .unset] [(.long (((q2.toUInt64 >>> (((4 : Int32) * p3) &&& 0x3f).toInt64.toUInt64).toInt64) &&& (15 : Int64)))])
  refine Done.go (fun _ kt_ => XS.l2i X0.here hx rfl (hb hby d1_10) rfl kt_) ?_
  show Done p e s below _ _ _ s₁ (mkF m 11 #[.val (.ref a1), .val (.long q1), .second, .val (.long q2), .second, .val (.int p3), .unset] [(.int ((((q2.toUInt64 >>> (((4 : Int32) * p3) &&& 0x3f).toInt64.toUInt64).toInt64) &&& (15 : Int64)).toInt32))])
  refine Done.go (fun _ kt_ => XS.istore X0.here hx rfl (hb hby d1_11) rfl (l' := #[.val (.ref a1), .val (.long q1), .second, .val (.long q2), .second, .val (.int p3), .val (.int ((((q2.toUInt64 >>> (((4 : Int32) * p3) &&& 0x3f).toInt64.toUInt64).toInt64) &&& (15 : Int64)).toInt32))]) rfl kt_) ?_
  have hk0 := own_m15 ((q2.toUInt64 >>> (((4 : Int32) * p3) &&& 0x3f).toInt64.toUInt64).toInt64)
  show Done p e s below _ _ _ s₁ (mkF m 13 #[.val (.ref a1), .val (.long q1), .second, .val (.long q2), .second, .val (.int p3), .val (.int ((((q2.toUInt64 >>> (((4 : Int32) * p3) &&& 0x3f).toInt64.toUInt64).toInt64) &&& (15 : Int64)).toInt32))] [])
  generalize h_kk : ((((q2.toUInt64 >>> (((4 : Int32) * p3) &&& 0x3f).toInt64.toUInt64).toInt64) &&& (15 : Int64)).toInt32) = kk
  rw [h_kk] at hk0
  show Done p e s below _ _ _ s₁ (mkF m 13 #[.val (.ref a1), .val (.long q1), .second, .val (.long q2), .second, .val (.int p3), .val (.int kk)] [])
  refine Done.go (fun _ kt_ => XS.iload X0.here hx rfl (hb hby d1_13) rfl kt_) ?_
  show Done p e s below _ _ _ s₁ (mkF m 15 #[.val (.ref a1), .val (.long q1), .second, .val (.long q2), .second, .val (.int p3), .val (.int kk)] [(.int kk)])
  refine Done.go (fun _ kt_ => XS.bipush X0.here hx rfl (hb hby d1_15) kt_) ?_
  show Done p e s below _ _ _ s₁ (mkF m 17 #[.val (.ref a1), .val (.long q1), .second, .val (.long q2), .second, .val (.int p3), .val (.int kk)] [(.int (10 : Int32)), (.int kk)])
  by_cases hc17 : kk < (10 : Int32)
  · skip
    refine Done.go (fun _ kt_ => XS.icmpNo X0.here hx rfl (hb hby d1_17) rfl (tlt hc17).2.1 kt_) ?_
    show Done p e s below _ _ _ s₁ (mkF m 20 #[.val (.ref a1), .val (.long q1), .second, .val (.long q2), .second, .val (.int p3), .val (.int kk)] [])
    refine Done.go (fun _ kt_ => XS.aloadN X0.here hx rfl (hb hby d1_20) rfl rfl kt_) ?_
    show Done p e s below _ _ _ s₁ (mkF m 21 #[.val (.ref a1), .val (.long q1), .second, .val (.long q2), .second, .val (.int p3), .val (.int kk)] [(.ref a1)])
    refine Done.go (fun _ kt_ => XS.iload X0.here hx rfl (hb hby d1_21) rfl kt_) ?_
    show Done p e s below _ _ _ s₁ (mkF m 23 #[.val (.ref a1), .val (.long q1), .second, .val (.long q2), .second, .val (.int p3), .val (.int kk)] [(.int kk), (.ref a1)])
    refine Done.ldB X0 hx hZ e0 V0 (j := kk) (w := (f kk.toNatClampNeg)) kk.toNatClampNeg hk0 rfl ((own_lt32 hk0 (by decide : ¬ (10 : Int32) < 0)).mp hc17) rfl (hb hby d1_23) ?_
    show Done p e s below _ _ _ s₁ (mkF m 24 #[.val (.ref a1), .val (.long q1), .second, .val (.long q2), .second, .val (.int p3), .val (.int kk)] [(.int (f kk.toNatClampNeg))])
    refine Done.retN X0 hx hlk (t := .byte) hrt (by simp) (z' := (nar .byte (f kk.toNatClampNeg))) rfl (hb hby d1_24) ?_ (by first | decide | omega) (by first | decide | omega)
    rw [e0]
    exact ⟨_, rfl, own_nar2 _, N0, rfl⟩
  · skip
    refine Done.go (fun _ kt_ => XS.icmpYes X0.here hx rfl (pc0 := 17) (pc' := 25) rfl (hb hby d1_17) rfl (flt hc17).2.1 (by decide) (by decide) kt_) ?_
    show Done p e s below _ _ _ s₁ (mkF m 25 #[.val (.ref a1), .val (.long q1), .second, .val (.long q2), .second, .val (.int p3), .val (.int kk)] [])
    refine Done.go (fun _ kt_ => XS.lloadN X0.here hx rfl (hb hby d1_25) rfl kt_) ?_
    show Done p e s below _ _ _ s₁ (mkF m 26 #[.val (.ref a1), .val (.long q1), .second, .val (.long q2), .second, .val (.int p3), .val (.int kk)] [(.long q1)])
    refine Done.go (fun _ kt_ => XS.bipush X0.here hx rfl (hb hby d1_26) kt_) ?_
    show Done p e s below _ _ _ s₁ (mkF m 28 #[.val (.ref a1), .val (.long q1), .second, .val (.long q2), .second, .val (.int p3), .val (.int kk)] [(.int (8 : Int32)), (.long q1)])
    refine Done.go (fun _ kt_ => XS.iload X0.here hx rfl (hb hby d1_28) rfl kt_) ?_
    show Done p e s below _ _ _ s₁ (mkF m 30 #[.val (.ref a1), .val (.long q1), .second, .val (.long q2), .second, .val (.int p3), .val (.int kk)] [(.int p3), (.int (8 : Int32)), (.long q1)])
    refine Done.go (fun _ kt_ => XS.imul X0.here hx rfl (hb hby d1_30) rfl kt_) ?_
    show Done p e s below _ _ _ s₁ (mkF m 31 #[.val (.ref a1), .val (.long q1), .second, .val (.long q2), .second, .val (.int p3), .val (.int kk)] [(.int ((8 : Int32) * p3)), (.long q1)])
    refine Done.go (fun _ kt_ => XS.lushr X0.here hx rfl (hb hby d1_31) rfl kt_) ?_
    show Done p e s below _ _ _ s₁ (mkF m 32 #[.val (.ref a1), .val (.long q1), .second, .val (.long q2), .second, .val (.int p3), .val (.int kk)] [(.long ((q1.toUInt64 >>> (((8 : Int32) * p3) &&& 0x3f).toInt64.toUInt64).toInt64))])
    refine Done.go (fun _ kt_ => XS.l2i X0.here hx rfl (hb hby d1_32) rfl kt_) ?_
    show Done p e s below _ _ _ s₁ (mkF m 33 #[.val (.ref a1), .val (.long q1), .second, .val (.long q2), .second, .val (.int p3), .val (.int kk)] [(.int (((q1.toUInt64 >>> (((8 : Int32) * p3) &&& 0x3f).toInt64.toUInt64).toInt64).toInt32))])
    refine Done.go (fun _ kt_ => XS.i2b X0.here hx rfl (hb hby d1_33) rfl kt_) ?_
    show Done p e s below _ _ _ s₁ (mkF m 34 #[.val (.ref a1), .val (.long q1), .second, .val (.long q2), .second, .val (.int p3), .val (.int kk)] [(.int ((((q1.toUInt64 >>> (((8 : Int32) * p3) &&& 0x3f).toInt64.toUInt64).toInt64).toInt32).toInt8.toInt32))])
    refine Done.retN X0 hx hlk (t := .byte) hrt (by simp) (z' := (nar .byte ((((q1.toUInt64 >>> (((8 : Int32) * p3) &&& 0x3f).toInt64.toUInt64).toInt64).toInt32).toInt8.toInt32))) rfl (hb hby d1_34) ?_ (by first | decide | omega) (by first | decide | omega)
    rw [e0]
    exact ⟨_, rfl, own_nar2 _, N0, rfl⟩
theorem d2_0 : decode method_5_code 0 = .ok (.iload_n 2, 1) := by decide +kernel
theorem d2_1 : decode method_5_code 1 = .ok (.iload_n 1, 1) := by decide +kernel
theorem d2_2 : decode method_5_code 2 = .ok (.if_icmp .lt 5, 3) := by decide +kernel
theorem d2_5 : decode method_5_code 5 = .ok (.iconst 0, 1) := by decide +kernel
theorem d2_6 : decode method_5_code 6 = .ok (.ireturn, 1) := by decide +kernel
theorem d2_7 : decode method_5_code 7 = .ok (.aload_n 0, 1) := by decide +kernel
theorem d2_8 : decode method_5_code 8 = .ok (.iload_n 2, 1) := by decide +kernel
theorem d2_9 : decode method_5_code 9 = .ok (.baload, 1) := by decide +kernel
theorem d2_10 : decode method_5_code 10 = .ok (.bipush 60, 2) := by decide +kernel
theorem d2_12 : decode method_5_code 12 = .ok (.if_icmp .ne 7, 3) := by decide +kernel
theorem d2_15 : decode method_5_code 15 = .ok (.iconst 1, 1) := by decide +kernel
theorem d2_16 : decode method_5_code 16 = .ok (.goto 4, 3) := by decide +kernel
theorem d2_19 : decode method_5_code 19 = .ok (.iconst 0, 1) := by decide +kernel
theorem d2_20 : decode method_5_code 20 = .ok (.ireturn, 1) := by decide +kernel
theorem ef_rm2 (m : MethodId) (a1 : Addr) (pl : Int32) (pi : Int32) : entryFrame m #[(.ref a1), (.int pl), (.int pi)] 3 = mkF m 0 #[.val (.ref a1), .val (.int pl), .val (.int pi)] [] := by first | (simp [entryFrame, mkF, argsToLocals, Value.category]; done) | rfl
set_option maxRecDepth 65536 in
set_option maxHeartbeats 40000000 in
theorem rm2 (l : Launch) (Z : State) (a0 : Array Value) (hw : ∀ d ∈ tables_1, d.before a0 Z = true) (ws : List Jvm.Cond) (a1 : Addr) (pl : Int32) (pi : Int32) (n : Nat) (i : Nat) (f : Nat → Int32) (h0 : Heap) (n0 : Nat) (Z0 : n0 ≤ h0.size) (V0 : Ari Z h0 a1 .byte 7 f) (hl : pl.toInt = (n : Int)) (hi : pi.toInt = (i : Int)) (hn : n ≤ 7) :
    MetFree l (⟨"spinecode/xml/XmlInputRecognisesPinLaw", "lt", "([BII)Z"⟩ : MethodName) (head1 (Jvm.Cond.code (⟨"spinecode/xml/XmlInputRecognisesPinLaw", "lt", "([BII)Z"⟩ : MethodName) method_5_code 3 (some .boolean) :: ws) ({ frames := 0, cells := 0, slots := 0, locals := 0 } : Room)) (fun a U => a = #[(.ref a1), (.int pl), (.int pi)] ∧ Z.Warmed39 U.vm ∧ U.heap = h0) (fun _ _ _ _ _ => True) (fun _ U o U' => ∃ vr Lr, o = .returned vr ∧ QP (own_bi (decide (i < n) && decide (f i = 60))) h0 n0 vr U'.heap Lr ∧ FrameEnd U o U' Lr 0 0) := by
  refine MetFree.of_bodySF (plainFor_of_name own_pn0) hisR ?_
  intro p e s m args below meth c s₁ Bd hml0 hP hK
  obtain ⟨rfl, hZ, hh⟩ := hP
  have hx := Bd.exec
  have hby := Bd.bytes
  have hml : c.maxLocals = 3 := hml0
  have hown : s.vm.findClass "spinecode/xml/XmlInputRecognisesPinLaw" = some m.cls := findClass_of_methodNamed Bd.named
  have hnm := (name_of_methodNamed Bd.named Bd.method).1
  have hlk : meth.locks = false := Bd.notSynchronized
  have hrt := Bd.returns
  have X0 : Stand p l e ({ frames := 0, cells := 0, slots := 0, locals := 0 } : Room) s m #[(.ref a1), (.int pl), (.int pi)] below meth c s₁ [] 0 0 := Stand.of_body Bd
  have e0 : s₁.heap = h0 := by rw [← hh, Bd.state]; rfl
  have N0 := Fr.nil n0
  show Done p e s below 0 0 (QP (own_bi (decide (i < n) && decide (f i = 60))) h0 n0) s₁ (entryFrame m #[(.ref a1), (.int pl), (.int pi)] 3)
  rw [ef_rm2]
  show Done p e s below _ _ _ s₁ (mkF m 0 #[.val (.ref a1), .val (.int pl), .val (.int pi)] [])
  refine Done.go (fun _ kt_ => XS.iloadN X0.here hx rfl (hb hby d2_0) rfl kt_) ?_
  show Done p e s below _ _ _ s₁ (mkF m 1 #[.val (.ref a1), .val (.int pl), .val (.int pi)] [(.int pi)])
  refine Done.go (fun _ kt_ => XS.iloadN X0.here hx rfl (hb hby d2_1) rfl kt_) ?_
  show Done p e s below _ _ _ s₁ (mkF m 2 #[.val (.ref a1), .val (.int pl), .val (.int pi)] [(.int pl), (.int pi)])
  by_cases hc2 : pi < pl
  · skip
    refine Done.go (fun _ kt_ => XS.icmpYes X0.here hx rfl (pc0 := 2) (pc' := 7) rfl (hb hby d2_2) rfl (tlt hc2).1 (by decide) (by decide) kt_) ?_
    show Done p e s below _ _ _ s₁ (mkF m 7 #[.val (.ref a1), .val (.int pl), .val (.int pi)] [])
    refine Done.go (fun _ kt_ => XS.aloadN X0.here hx rfl (hb hby d2_7) rfl rfl kt_) ?_
    show Done p e s below _ _ _ s₁ (mkF m 8 #[.val (.ref a1), .val (.int pl), .val (.int pi)] [(.ref a1)])
    refine Done.go (fun _ kt_ => XS.iloadN X0.here hx rfl (hb hby d2_8) rfl kt_) ?_
    show Done p e s below _ _ _ s₁ (mkF m 9 #[.val (.ref a1), .val (.int pl), .val (.int pi)] [(.int pi), (.ref a1)])
    refine Done.ldB X0 hx hZ e0 V0 (j := pi) (w := (f i)) i (own_ix hi).1 (own_ix hi).2 (Nat.lt_of_lt_of_le ((own_ltI hi hl).mp hc2) hn) rfl (hb hby d2_9) ?_
    show Done p e s below _ _ _ s₁ (mkF m 10 #[.val (.ref a1), .val (.int pl), .val (.int pi)] [(.int (f i))])
    refine Done.go (fun _ kt_ => XS.bipush X0.here hx rfl (hb hby d2_10) kt_) ?_
    show Done p e s below _ _ _ s₁ (mkF m 12 #[.val (.ref a1), .val (.int pl), .val (.int pi)] [(.int (60 : Int32)), (.int (f i))])
    by_cases hc12 : (f i) = (60 : Int32)
    · skip
      refine Done.go (fun _ kt_ => XS.icmpNo X0.here hx rfl (hb hby d2_12) rfl (teq hc12).2 kt_) ?_
      show Done p e s below _ _ _ s₁ (mkF m 15 #[.val (.ref a1), .val (.int pl), .val (.int pi)] [])
      refine Done.go (fun _ kt_ => XS.iconst X0.here hx rfl (hb hby d2_15) kt_) ?_
      show Done p e s below _ _ _ s₁ (mkF m 16 #[.val (.ref a1), .val (.int pl), .val (.int pi)] [(.int (1 : Int32))])
      refine Done.go (fun _ kt_ => XS.goto X0.here hx rfl (pc0 := 16) (pc' := 20) rfl (hb hby d2_16) (by decide) (by decide) kt_) ?_
      show Done p e s below _ _ _ s₁ (mkF m 20 #[.val (.ref a1), .val (.int pl), .val (.int pi)] [(.int (1 : Int32))])
      refine Done.retN X0 hx hlk (t := .boolean) hrt (by simp) (z' := (1 : Int32)) rfl (hb hby d2_20) ?_ (by first | decide | omega) (by first | decide | omega)
      rw [e0]
      rw [own_ltI hi hl] at hc2
      exact ⟨by simp [own_bi, hc2, hc12], N0, rfl⟩
    · skip
      refine Done.go (fun _ kt_ => XS.icmpYes X0.here hx rfl (pc0 := 12) (pc' := 19) rfl (hb hby d2_12) rfl (feq hc12).2 (by decide) (by decide) kt_) ?_
      show Done p e s below _ _ _ s₁ (mkF m 19 #[.val (.ref a1), .val (.int pl), .val (.int pi)] [])
      refine Done.go (fun _ kt_ => XS.iconst X0.here hx rfl (hb hby d2_19) kt_) ?_
      show Done p e s below _ _ _ s₁ (mkF m 20 #[.val (.ref a1), .val (.int pl), .val (.int pi)] [(.int (0 : Int32))])
      refine Done.retN X0 hx hlk (t := .boolean) hrt (by simp) (z' := (0 : Int32)) rfl (hb hby d2_20) ?_ (by first | decide | omega) (by first | decide | omega)
      rw [e0]
      rw [own_ltI hi hl] at hc2
      exact ⟨by simp [own_bi, hc2, hc12], N0, rfl⟩
  · skip
    refine Done.go (fun _ kt_ => XS.icmpNo X0.here hx rfl (hb hby d2_2) rfl (flt hc2).1 kt_) ?_
    show Done p e s below _ _ _ s₁ (mkF m 5 #[.val (.ref a1), .val (.int pl), .val (.int pi)] [])
    refine Done.go (fun _ kt_ => XS.iconst X0.here hx rfl (hb hby d2_5) kt_) ?_
    show Done p e s below _ _ _ s₁ (mkF m 6 #[.val (.ref a1), .val (.int pl), .val (.int pi)] [(.int (0 : Int32))])
    refine Done.retN X0 hx hlk (t := .boolean) hrt (by simp) (z' := (0 : Int32)) rfl (hb hby d2_6) ?_ (by first | decide | omega) (by first | decide | omega)
    rw [e0]
    rw [own_ltI hi hl] at hc2
    exact ⟨by simp [own_bi, hc2], N0, rfl⟩
theorem d3_0 : decode method_4_code 0 = .ok (.iload_n 2, 1) := by decide +kernel
theorem d3_1 : decode method_4_code 1 = .ok (.iload_n 1, 1) := by decide +kernel
theorem d3_2 : decode method_4_code 2 = .ok (.if_icmp .lt 5, 3) := by decide +kernel
theorem d3_5 : decode method_4_code 5 = .ok (.iconst 0, 1) := by decide +kernel
theorem d3_6 : decode method_4_code 6 = .ok (.ireturn, 1) := by decide +kernel
theorem d3_7 : decode method_4_code 7 = .ok (.aload_n 0, 1) := by decide +kernel
theorem d3_8 : decode method_4_code 8 = .ok (.iload_n 2, 1) := by decide +kernel
theorem d3_9 : decode method_4_code 9 = .ok (.baload, 1) := by decide +kernel
theorem d3_10 : decode method_4_code 10 = .ok (.istore_n 3, 1) := by decide +kernel
theorem d3_11 : decode method_4_code 11 = .ok (.iload_n 3, 1) := by decide +kernel
theorem d3_12 : decode method_4_code 12 = .ok (.bipush 32, 2) := by decide +kernel
theorem d3_14 : decode method_4_code 14 = .ok (.if_icmp .eq 21, 3) := by decide +kernel
theorem d3_17 : decode method_4_code 17 = .ok (.iload_n 3, 1) := by decide +kernel
theorem d3_18 : decode method_4_code 18 = .ok (.bipush 9, 2) := by decide +kernel
theorem d3_20 : decode method_4_code 20 = .ok (.if_icmp .eq 15, 3) := by decide +kernel
theorem d3_23 : decode method_4_code 23 = .ok (.iload_n 3, 1) := by decide +kernel
theorem d3_24 : decode method_4_code 24 = .ok (.bipush 13, 2) := by decide +kernel
theorem d3_26 : decode method_4_code 26 = .ok (.if_icmp .eq 9, 3) := by decide +kernel
theorem d3_29 : decode method_4_code 29 = .ok (.iload_n 3, 1) := by decide +kernel
theorem d3_30 : decode method_4_code 30 = .ok (.bipush 10, 2) := by decide +kernel
theorem d3_32 : decode method_4_code 32 = .ok (.if_icmp .ne 7, 3) := by decide +kernel
theorem d3_35 : decode method_4_code 35 = .ok (.iconst 1, 1) := by decide +kernel
theorem d3_36 : decode method_4_code 36 = .ok (.goto 4, 3) := by decide +kernel
theorem d3_39 : decode method_4_code 39 = .ok (.iconst 0, 1) := by decide +kernel
theorem d3_40 : decode method_4_code 40 = .ok (.ireturn, 1) := by decide +kernel
theorem ef_rm3 (m : MethodId) (a1 : Addr) (pl : Int32) (pi : Int32) : entryFrame m #[(.ref a1), (.int pl), (.int pi)] 4 = mkF m 0 #[.val (.ref a1), .val (.int pl), .val (.int pi), .unset] [] := by first | (simp [entryFrame, mkF, argsToLocals, Value.category]; done) | rfl
set_option maxRecDepth 65536 in
set_option maxHeartbeats 40000000 in
theorem rm3 (l : Launch) (Z : State) (a0 : Array Value) (hw : ∀ d ∈ tables_1, d.before a0 Z = true) (ws : List Jvm.Cond) (a1 : Addr) (pl : Int32) (pi : Int32) (n : Nat) (i : Nat) (f : Nat → Int32) (h0 : Heap) (n0 : Nat) (Z0 : n0 ≤ h0.size) (V0 : Ari Z h0 a1 .byte 7 f) (hl : pl.toInt = (n : Int)) (hi : pi.toInt = (i : Int)) (hn : n ≤ 7) :
    MetFree l (⟨"spinecode/xml/XmlInputRecognisesPinLaw", "ws", "([BII)Z"⟩ : MethodName) (head1 (Jvm.Cond.code (⟨"spinecode/xml/XmlInputRecognisesPinLaw", "ws", "([BII)Z"⟩ : MethodName) method_4_code 4 (some .boolean) :: ws) ({ frames := 0, cells := 0, slots := 0, locals := 0 } : Room)) (fun a U => a = #[(.ref a1), (.int pl), (.int pi)] ∧ Z.Warmed39 U.vm ∧ U.heap = h0) (fun _ _ _ _ _ => True) (fun _ U o U' => ∃ vr Lr, o = .returned vr ∧ QP (own_bi (decide (i < n) && own_ws (f i))) h0 n0 vr U'.heap Lr ∧ FrameEnd U o U' Lr 0 0) := by
  refine MetFree.of_bodySF (plainFor_of_name own_pn0) hisR ?_
  intro p e s m args below meth c s₁ Bd hml0 hP hK
  obtain ⟨rfl, hZ, hh⟩ := hP
  have hx := Bd.exec
  have hby := Bd.bytes
  have hml : c.maxLocals = 4 := hml0
  have hown : s.vm.findClass "spinecode/xml/XmlInputRecognisesPinLaw" = some m.cls := findClass_of_methodNamed Bd.named
  have hnm := (name_of_methodNamed Bd.named Bd.method).1
  have hlk : meth.locks = false := Bd.notSynchronized
  have hrt := Bd.returns
  have X0 : Stand p l e ({ frames := 0, cells := 0, slots := 0, locals := 0 } : Room) s m #[(.ref a1), (.int pl), (.int pi)] below meth c s₁ [] 0 0 := Stand.of_body Bd
  have e0 : s₁.heap = h0 := by rw [← hh, Bd.state]; rfl
  have N0 := Fr.nil n0
  show Done p e s below 0 0 (QP (own_bi (decide (i < n) && own_ws (f i))) h0 n0) s₁ (entryFrame m #[(.ref a1), (.int pl), (.int pi)] 4)
  rw [ef_rm3]
  show Done p e s below _ _ _ s₁ (mkF m 0 #[.val (.ref a1), .val (.int pl), .val (.int pi), .unset] [])
  refine Done.go (fun _ kt_ => XS.iloadN X0.here hx rfl (hb hby d3_0) rfl kt_) ?_
  show Done p e s below _ _ _ s₁ (mkF m 1 #[.val (.ref a1), .val (.int pl), .val (.int pi), .unset] [(.int pi)])
  refine Done.go (fun _ kt_ => XS.iloadN X0.here hx rfl (hb hby d3_1) rfl kt_) ?_
  show Done p e s below _ _ _ s₁ (mkF m 2 #[.val (.ref a1), .val (.int pl), .val (.int pi), .unset] [(.int pl), (.int pi)])
  by_cases hc2 : pi < pl
  · skip
    refine Done.go (fun _ kt_ => XS.icmpYes X0.here hx rfl (pc0 := 2) (pc' := 7) rfl (hb hby d3_2) rfl (tlt hc2).1 (by decide) (by decide) kt_) ?_
    show Done p e s below _ _ _ s₁ (mkF m 7 #[.val (.ref a1), .val (.int pl), .val (.int pi), .unset] [])
    refine Done.go (fun _ kt_ => XS.aloadN X0.here hx rfl (hb hby d3_7) rfl rfl kt_) ?_
    show Done p e s below _ _ _ s₁ (mkF m 8 #[.val (.ref a1), .val (.int pl), .val (.int pi), .unset] [(.ref a1)])
    refine Done.go (fun _ kt_ => XS.iloadN X0.here hx rfl (hb hby d3_8) rfl kt_) ?_
    show Done p e s below _ _ _ s₁ (mkF m 9 #[.val (.ref a1), .val (.int pl), .val (.int pi), .unset] [(.int pi), (.ref a1)])
    refine Done.ldB X0 hx hZ e0 V0 (j := pi) (w := (f i)) i (own_ix hi).1 (own_ix hi).2 (Nat.lt_of_lt_of_le ((own_ltI hi hl).mp hc2) hn) rfl (hb hby d3_9) ?_
    show Done p e s below _ _ _ s₁ (mkF m 10 #[.val (.ref a1), .val (.int pl), .val (.int pi), .unset] [(.int (f i))])
    refine Done.go (fun _ kt_ => XS.istoreN X0.here hx rfl (hb hby d3_10) rfl (l' := #[.val (.ref a1), .val (.int pl), .val (.int pi), .val (.int (f i))]) rfl kt_) ?_
    show Done p e s below _ _ _ s₁ (mkF m 11 #[.val (.ref a1), .val (.int pl), .val (.int pi), .val (.int (f i))] [])
    refine Done.go (fun _ kt_ => XS.iloadN X0.here hx rfl (hb hby d3_11) rfl kt_) ?_
    show Done p e s below _ _ _ s₁ (mkF m 12 #[.val (.ref a1), .val (.int pl), .val (.int pi), .val (.int (f i))] [(.int (f i))])
    refine Done.go (fun _ kt_ => XS.bipush X0.here hx rfl (hb hby d3_12) kt_) ?_
    show Done p e s below _ _ _ s₁ (mkF m 14 #[.val (.ref a1), .val (.int pl), .val (.int pi), .val (.int (f i))] [(.int (32 : Int32)), (.int (f i))])
    by_cases hc14 : (f i) = (32 : Int32)
    · skip
      refine Done.go (fun _ kt_ => XS.icmpYes X0.here hx rfl (pc0 := 14) (pc' := 35) rfl (hb hby d3_14) rfl (teq hc14).1 (by decide) (by decide) kt_) ?_
      show Done p e s below _ _ _ s₁ (mkF m 35 #[.val (.ref a1), .val (.int pl), .val (.int pi), .val (.int (f i))] [])
      refine Done.go (fun _ kt_ => XS.iconst X0.here hx rfl (hb hby d3_35) kt_) ?_
      show Done p e s below _ _ _ s₁ (mkF m 36 #[.val (.ref a1), .val (.int pl), .val (.int pi), .val (.int (f i))] [(.int (1 : Int32))])
      refine Done.go (fun _ kt_ => XS.goto X0.here hx rfl (pc0 := 36) (pc' := 40) rfl (hb hby d3_36) (by decide) (by decide) kt_) ?_
      show Done p e s below _ _ _ s₁ (mkF m 40 #[.val (.ref a1), .val (.int pl), .val (.int pi), .val (.int (f i))] [(.int (1 : Int32))])
      refine Done.retN X0 hx hlk (t := .boolean) hrt (by simp) (z' := (1 : Int32)) rfl (hb hby d3_40) ?_ (by first | decide | omega) (by first | decide | omega)
      rw [e0]
      rw [own_ltI hi hl] at hc2
      exact ⟨by simp [own_bi, own_ws, hc2, hc14], N0, rfl⟩
    · skip
      refine Done.go (fun _ kt_ => XS.icmpNo X0.here hx rfl (hb hby d3_14) rfl (feq hc14).1 kt_) ?_
      show Done p e s below _ _ _ s₁ (mkF m 17 #[.val (.ref a1), .val (.int pl), .val (.int pi), .val (.int (f i))] [])
      refine Done.go (fun _ kt_ => XS.iloadN X0.here hx rfl (hb hby d3_17) rfl kt_) ?_
      show Done p e s below _ _ _ s₁ (mkF m 18 #[.val (.ref a1), .val (.int pl), .val (.int pi), .val (.int (f i))] [(.int (f i))])
      refine Done.go (fun _ kt_ => XS.bipush X0.here hx rfl (hb hby d3_18) kt_) ?_
      show Done p e s below _ _ _ s₁ (mkF m 20 #[.val (.ref a1), .val (.int pl), .val (.int pi), .val (.int (f i))] [(.int (9 : Int32)), (.int (f i))])
      by_cases hc20 : (f i) = (9 : Int32)
      · skip
        refine Done.go (fun _ kt_ => XS.icmpYes X0.here hx rfl (pc0 := 20) (pc' := 35) rfl (hb hby d3_20) rfl (teq hc20).1 (by decide) (by decide) kt_) ?_
        show Done p e s below _ _ _ s₁ (mkF m 35 #[.val (.ref a1), .val (.int pl), .val (.int pi), .val (.int (f i))] [])
        refine Done.go (fun _ kt_ => XS.iconst X0.here hx rfl (hb hby d3_35) kt_) ?_
        show Done p e s below _ _ _ s₁ (mkF m 36 #[.val (.ref a1), .val (.int pl), .val (.int pi), .val (.int (f i))] [(.int (1 : Int32))])
        refine Done.go (fun _ kt_ => XS.goto X0.here hx rfl (pc0 := 36) (pc' := 40) rfl (hb hby d3_36) (by decide) (by decide) kt_) ?_
        show Done p e s below _ _ _ s₁ (mkF m 40 #[.val (.ref a1), .val (.int pl), .val (.int pi), .val (.int (f i))] [(.int (1 : Int32))])
        refine Done.retN X0 hx hlk (t := .boolean) hrt (by simp) (z' := (1 : Int32)) rfl (hb hby d3_40) ?_ (by first | decide | omega) (by first | decide | omega)
        rw [e0]
        rw [own_ltI hi hl] at hc2
        exact ⟨by simp [own_bi, own_ws, hc2, hc14, hc20], N0, rfl⟩
      · skip
        refine Done.go (fun _ kt_ => XS.icmpNo X0.here hx rfl (hb hby d3_20) rfl (feq hc20).1 kt_) ?_
        show Done p e s below _ _ _ s₁ (mkF m 23 #[.val (.ref a1), .val (.int pl), .val (.int pi), .val (.int (f i))] [])
        refine Done.go (fun _ kt_ => XS.iloadN X0.here hx rfl (hb hby d3_23) rfl kt_) ?_
        show Done p e s below _ _ _ s₁ (mkF m 24 #[.val (.ref a1), .val (.int pl), .val (.int pi), .val (.int (f i))] [(.int (f i))])
        refine Done.go (fun _ kt_ => XS.bipush X0.here hx rfl (hb hby d3_24) kt_) ?_
        show Done p e s below _ _ _ s₁ (mkF m 26 #[.val (.ref a1), .val (.int pl), .val (.int pi), .val (.int (f i))] [(.int (13 : Int32)), (.int (f i))])
        by_cases hc26 : (f i) = (13 : Int32)
        · skip
          refine Done.go (fun _ kt_ => XS.icmpYes X0.here hx rfl (pc0 := 26) (pc' := 35) rfl (hb hby d3_26) rfl (teq hc26).1 (by decide) (by decide) kt_) ?_
          show Done p e s below _ _ _ s₁ (mkF m 35 #[.val (.ref a1), .val (.int pl), .val (.int pi), .val (.int (f i))] [])
          refine Done.go (fun _ kt_ => XS.iconst X0.here hx rfl (hb hby d3_35) kt_) ?_
          show Done p e s below _ _ _ s₁ (mkF m 36 #[.val (.ref a1), .val (.int pl), .val (.int pi), .val (.int (f i))] [(.int (1 : Int32))])
          refine Done.go (fun _ kt_ => XS.goto X0.here hx rfl (pc0 := 36) (pc' := 40) rfl (hb hby d3_36) (by decide) (by decide) kt_) ?_
          show Done p e s below _ _ _ s₁ (mkF m 40 #[.val (.ref a1), .val (.int pl), .val (.int pi), .val (.int (f i))] [(.int (1 : Int32))])
          refine Done.retN X0 hx hlk (t := .boolean) hrt (by simp) (z' := (1 : Int32)) rfl (hb hby d3_40) ?_ (by first | decide | omega) (by first | decide | omega)
          rw [e0]
          rw [own_ltI hi hl] at hc2
          exact ⟨by simp [own_bi, own_ws, hc2, hc14, hc20, hc26], N0, rfl⟩
        · skip
          refine Done.go (fun _ kt_ => XS.icmpNo X0.here hx rfl (hb hby d3_26) rfl (feq hc26).1 kt_) ?_
          show Done p e s below _ _ _ s₁ (mkF m 29 #[.val (.ref a1), .val (.int pl), .val (.int pi), .val (.int (f i))] [])
          refine Done.go (fun _ kt_ => XS.iloadN X0.here hx rfl (hb hby d3_29) rfl kt_) ?_
          show Done p e s below _ _ _ s₁ (mkF m 30 #[.val (.ref a1), .val (.int pl), .val (.int pi), .val (.int (f i))] [(.int (f i))])
          refine Done.go (fun _ kt_ => XS.bipush X0.here hx rfl (hb hby d3_30) kt_) ?_
          show Done p e s below _ _ _ s₁ (mkF m 32 #[.val (.ref a1), .val (.int pl), .val (.int pi), .val (.int (f i))] [(.int (10 : Int32)), (.int (f i))])
          by_cases hc32 : (f i) = (10 : Int32)
          · skip
            refine Done.go (fun _ kt_ => XS.icmpNo X0.here hx rfl (hb hby d3_32) rfl (teq hc32).2 kt_) ?_
            show Done p e s below _ _ _ s₁ (mkF m 35 #[.val (.ref a1), .val (.int pl), .val (.int pi), .val (.int (f i))] [])
            refine Done.go (fun _ kt_ => XS.iconst X0.here hx rfl (hb hby d3_35) kt_) ?_
            show Done p e s below _ _ _ s₁ (mkF m 36 #[.val (.ref a1), .val (.int pl), .val (.int pi), .val (.int (f i))] [(.int (1 : Int32))])
            refine Done.go (fun _ kt_ => XS.goto X0.here hx rfl (pc0 := 36) (pc' := 40) rfl (hb hby d3_36) (by decide) (by decide) kt_) ?_
            show Done p e s below _ _ _ s₁ (mkF m 40 #[.val (.ref a1), .val (.int pl), .val (.int pi), .val (.int (f i))] [(.int (1 : Int32))])
            refine Done.retN X0 hx hlk (t := .boolean) hrt (by simp) (z' := (1 : Int32)) rfl (hb hby d3_40) ?_ (by first | decide | omega) (by first | decide | omega)
            rw [e0]
            rw [own_ltI hi hl] at hc2
            exact ⟨by simp [own_bi, own_ws, hc2, hc14, hc20, hc26, hc32], N0, rfl⟩
          · skip
            refine Done.go (fun _ kt_ => XS.icmpYes X0.here hx rfl (pc0 := 32) (pc' := 39) rfl (hb hby d3_32) rfl (feq hc32).2 (by decide) (by decide) kt_) ?_
            show Done p e s below _ _ _ s₁ (mkF m 39 #[.val (.ref a1), .val (.int pl), .val (.int pi), .val (.int (f i))] [])
            refine Done.go (fun _ kt_ => XS.iconst X0.here hx rfl (hb hby d3_39) kt_) ?_
            show Done p e s below _ _ _ s₁ (mkF m 40 #[.val (.ref a1), .val (.int pl), .val (.int pi), .val (.int (f i))] [(.int (0 : Int32))])
            refine Done.retN X0 hx hlk (t := .boolean) hrt (by simp) (z' := (0 : Int32)) rfl (hb hby d3_40) ?_ (by first | decide | omega) (by first | decide | omega)
            rw [e0]
            rw [own_ltI hi hl] at hc2
            exact ⟨by simp [own_bi, own_ws, hc2, hc14, hc20, hc26, hc32], N0, rfl⟩
  · skip
    refine Done.go (fun _ kt_ => XS.icmpNo X0.here hx rfl (hb hby d3_2) rfl (flt hc2).1 kt_) ?_
    show Done p e s below _ _ _ s₁ (mkF m 5 #[.val (.ref a1), .val (.int pl), .val (.int pi), .unset] [])
    refine Done.go (fun _ kt_ => XS.iconst X0.here hx rfl (hb hby d3_5) kt_) ?_
    show Done p e s below _ _ _ s₁ (mkF m 6 #[.val (.ref a1), .val (.int pl), .val (.int pi), .unset] [(.int (0 : Int32))])
    refine Done.retN X0 hx hlk (t := .boolean) hrt (by simp) (z' := (0 : Int32)) rfl (hb hby d3_6) ?_ (by first | decide | omega) (by first | decide | omega)
    rw [e0]
    rw [own_ltI hi hl] at hc2
    exact ⟨by simp [own_bi, own_ws, hc2], N0, rfl⟩
theorem d7_0 : decode prog_40_method_18_code 0 = .ok (.iload_n 0, 1) := by decide +kernel
theorem d7_1 : decode prog_40_method_18_code 1 = .ok (.bipush 32, 2) := by decide +kernel
theorem d7_3 : decode prog_40_method_18_code 3 = .ok (.if_icmp .eq 21, 3) := by decide +kernel
theorem d7_6 : decode prog_40_method_18_code 6 = .ok (.iload_n 0, 1) := by decide +kernel
theorem d7_7 : decode prog_40_method_18_code 7 = .ok (.bipush 9, 2) := by decide +kernel
theorem d7_9 : decode prog_40_method_18_code 9 = .ok (.if_icmp .eq 15, 3) := by decide +kernel
theorem d7_12 : decode prog_40_method_18_code 12 = .ok (.iload_n 0, 1) := by decide +kernel
theorem d7_13 : decode prog_40_method_18_code 13 = .ok (.bipush 13, 2) := by decide +kernel
theorem d7_15 : decode prog_40_method_18_code 15 = .ok (.if_icmp .eq 9, 3) := by decide +kernel
theorem d7_18 : decode prog_40_method_18_code 18 = .ok (.iload_n 0, 1) := by decide +kernel
theorem d7_19 : decode prog_40_method_18_code 19 = .ok (.bipush 10, 2) := by decide +kernel
theorem d7_21 : decode prog_40_method_18_code 21 = .ok (.if_icmp .ne 7, 3) := by decide +kernel
theorem d7_24 : decode prog_40_method_18_code 24 = .ok (.iconst 1, 1) := by decide +kernel
theorem d7_25 : decode prog_40_method_18_code 25 = .ok (.goto 4, 3) := by decide +kernel
theorem d7_28 : decode prog_40_method_18_code 28 = .ok (.iconst 0, 1) := by decide +kernel
theorem d7_29 : decode prog_40_method_18_code 29 = .ok (.ireturn, 1) := by decide +kernel
theorem own_pn1 : plainName "spinecode/xml/XmlInput" = true := by first | (simp [plainName, overriddenIn]; done) | decide +kernel
theorem ef_rm7 (m : MethodId) (p1 : Int32) : entryFrame m #[(.int p1)] 1 = mkF m 0 #[.val (.int p1)] [] := by first | (simp [entryFrame, mkF, argsToLocals, Value.category]; done) | rfl
set_option maxRecDepth 65536 in
set_option maxHeartbeats 40000000 in
theorem rm7 (l : Launch) (Z : State) (a0 : Array Value) (hw : ∀ d ∈ tables_1, d.before a0 Z = true) (ws : List Jvm.Cond) (p1 : Int32) (h0 : Heap) (n0 : Nat) (Z0 : n0 ≤ h0.size) :
    MetFree l (⟨"spinecode/xml/XmlInput", "isWhiteSpace", "(C)Z"⟩ : MethodName) (head1 (Jvm.Cond.code (⟨"spinecode/xml/XmlInput", "isWhiteSpace", "(C)Z"⟩ : MethodName) prog_40_method_18_code 1 (some .boolean) :: ws) ({ frames := 0, cells := 0, slots := 0, locals := 0 } : Room)) (fun a U => a = #[(.int p1)] ∧ Z.Warmed39 U.vm ∧ U.heap = h0) (fun _ _ _ _ _ => True) (fun _ U o U' => ∃ vr Lr, o = .returned vr ∧ QP (own_bi (own_ws p1)) h0 n0 vr U'.heap Lr ∧ FrameEnd U o U' Lr 0 0) := by
  refine MetFree.of_bodySF (plainFor_of_name own_pn1) hisR ?_
  intro p e s m args below meth c s₁ Bd hml0 hP hK
  obtain ⟨rfl, hZ, hh⟩ := hP
  have hx := Bd.exec
  have hby := Bd.bytes
  have hml : c.maxLocals = 1 := hml0
  have hown : s.vm.findClass "spinecode/xml/XmlInput" = some m.cls := findClass_of_methodNamed Bd.named
  have hnm := (name_of_methodNamed Bd.named Bd.method).1
  have hlk : meth.locks = false := Bd.notSynchronized
  have hrt := Bd.returns
  have X0 : Stand p l e ({ frames := 0, cells := 0, slots := 0, locals := 0 } : Room) s m #[(.int p1)] below meth c s₁ [] 0 0 := Stand.of_body Bd
  have e0 : s₁.heap = h0 := by rw [← hh, Bd.state]; rfl
  have N0 := Fr.nil n0
  show Done p e s below 0 0 (QP (own_bi (own_ws p1)) h0 n0) s₁ (entryFrame m #[(.int p1)] 1)
  rw [ef_rm7]
  show Done p e s below _ _ _ s₁ (mkF m 0 #[.val (.int p1)] [])
  refine Done.go (fun _ kt_ => XS.iloadN X0.here hx rfl (hb hby d7_0) rfl kt_) ?_
  show Done p e s below _ _ _ s₁ (mkF m 1 #[.val (.int p1)] [(.int p1)])
  refine Done.go (fun _ kt_ => XS.bipush X0.here hx rfl (hb hby d7_1) kt_) ?_
  show Done p e s below _ _ _ s₁ (mkF m 3 #[.val (.int p1)] [(.int (32 : Int32)), (.int p1)])
  by_cases hc3 : p1 = (32 : Int32)
  · skip
    refine Done.go (fun _ kt_ => XS.icmpYes X0.here hx rfl (pc0 := 3) (pc' := 24) rfl (hb hby d7_3) rfl (teq hc3).1 (by decide) (by decide) kt_) ?_
    show Done p e s below _ _ _ s₁ (mkF m 24 #[.val (.int p1)] [])
    refine Done.go (fun _ kt_ => XS.iconst X0.here hx rfl (hb hby d7_24) kt_) ?_
    show Done p e s below _ _ _ s₁ (mkF m 25 #[.val (.int p1)] [(.int (1 : Int32))])
    refine Done.go (fun _ kt_ => XS.goto X0.here hx rfl (pc0 := 25) (pc' := 29) rfl (hb hby d7_25) (by decide) (by decide) kt_) ?_
    show Done p e s below _ _ _ s₁ (mkF m 29 #[.val (.int p1)] [(.int (1 : Int32))])
    refine Done.retN X0 hx hlk (t := .boolean) hrt (by simp) (z' := (1 : Int32)) rfl (hb hby d7_29) ?_ (by first | decide | omega) (by first | decide | omega)
    rw [e0]
    exact ⟨by simp [own_bi, own_ws, hc3], N0, rfl⟩
  · skip
    refine Done.go (fun _ kt_ => XS.icmpNo X0.here hx rfl (hb hby d7_3) rfl (feq hc3).1 kt_) ?_
    show Done p e s below _ _ _ s₁ (mkF m 6 #[.val (.int p1)] [])
    refine Done.go (fun _ kt_ => XS.iloadN X0.here hx rfl (hb hby d7_6) rfl kt_) ?_
    show Done p e s below _ _ _ s₁ (mkF m 7 #[.val (.int p1)] [(.int p1)])
    refine Done.go (fun _ kt_ => XS.bipush X0.here hx rfl (hb hby d7_7) kt_) ?_
    show Done p e s below _ _ _ s₁ (mkF m 9 #[.val (.int p1)] [(.int (9 : Int32)), (.int p1)])
    by_cases hc9 : p1 = (9 : Int32)
    · skip
      refine Done.go (fun _ kt_ => XS.icmpYes X0.here hx rfl (pc0 := 9) (pc' := 24) rfl (hb hby d7_9) rfl (teq hc9).1 (by decide) (by decide) kt_) ?_
      show Done p e s below _ _ _ s₁ (mkF m 24 #[.val (.int p1)] [])
      refine Done.go (fun _ kt_ => XS.iconst X0.here hx rfl (hb hby d7_24) kt_) ?_
      show Done p e s below _ _ _ s₁ (mkF m 25 #[.val (.int p1)] [(.int (1 : Int32))])
      refine Done.go (fun _ kt_ => XS.goto X0.here hx rfl (pc0 := 25) (pc' := 29) rfl (hb hby d7_25) (by decide) (by decide) kt_) ?_
      show Done p e s below _ _ _ s₁ (mkF m 29 #[.val (.int p1)] [(.int (1 : Int32))])
      refine Done.retN X0 hx hlk (t := .boolean) hrt (by simp) (z' := (1 : Int32)) rfl (hb hby d7_29) ?_ (by first | decide | omega) (by first | decide | omega)
      rw [e0]
      exact ⟨by simp [own_bi, own_ws, hc3, hc9], N0, rfl⟩
    · skip
      refine Done.go (fun _ kt_ => XS.icmpNo X0.here hx rfl (hb hby d7_9) rfl (feq hc9).1 kt_) ?_
      show Done p e s below _ _ _ s₁ (mkF m 12 #[.val (.int p1)] [])
      refine Done.go (fun _ kt_ => XS.iloadN X0.here hx rfl (hb hby d7_12) rfl kt_) ?_
      show Done p e s below _ _ _ s₁ (mkF m 13 #[.val (.int p1)] [(.int p1)])
      refine Done.go (fun _ kt_ => XS.bipush X0.here hx rfl (hb hby d7_13) kt_) ?_
      show Done p e s below _ _ _ s₁ (mkF m 15 #[.val (.int p1)] [(.int (13 : Int32)), (.int p1)])
      by_cases hc15 : p1 = (13 : Int32)
      · skip
        refine Done.go (fun _ kt_ => XS.icmpYes X0.here hx rfl (pc0 := 15) (pc' := 24) rfl (hb hby d7_15) rfl (teq hc15).1 (by decide) (by decide) kt_) ?_
        show Done p e s below _ _ _ s₁ (mkF m 24 #[.val (.int p1)] [])
        refine Done.go (fun _ kt_ => XS.iconst X0.here hx rfl (hb hby d7_24) kt_) ?_
        show Done p e s below _ _ _ s₁ (mkF m 25 #[.val (.int p1)] [(.int (1 : Int32))])
        refine Done.go (fun _ kt_ => XS.goto X0.here hx rfl (pc0 := 25) (pc' := 29) rfl (hb hby d7_25) (by decide) (by decide) kt_) ?_
        show Done p e s below _ _ _ s₁ (mkF m 29 #[.val (.int p1)] [(.int (1 : Int32))])
        refine Done.retN X0 hx hlk (t := .boolean) hrt (by simp) (z' := (1 : Int32)) rfl (hb hby d7_29) ?_ (by first | decide | omega) (by first | decide | omega)
        rw [e0]
        exact ⟨by simp [own_bi, own_ws, hc3, hc9, hc15], N0, rfl⟩
      · skip
        refine Done.go (fun _ kt_ => XS.icmpNo X0.here hx rfl (hb hby d7_15) rfl (feq hc15).1 kt_) ?_
        show Done p e s below _ _ _ s₁ (mkF m 18 #[.val (.int p1)] [])
        refine Done.go (fun _ kt_ => XS.iloadN X0.here hx rfl (hb hby d7_18) rfl kt_) ?_
        show Done p e s below _ _ _ s₁ (mkF m 19 #[.val (.int p1)] [(.int p1)])
        refine Done.go (fun _ kt_ => XS.bipush X0.here hx rfl (hb hby d7_19) kt_) ?_
        show Done p e s below _ _ _ s₁ (mkF m 21 #[.val (.int p1)] [(.int (10 : Int32)), (.int p1)])
        by_cases hc21 : p1 = (10 : Int32)
        · skip
          refine Done.go (fun _ kt_ => XS.icmpNo X0.here hx rfl (hb hby d7_21) rfl (teq hc21).2 kt_) ?_
          show Done p e s below _ _ _ s₁ (mkF m 24 #[.val (.int p1)] [])
          refine Done.go (fun _ kt_ => XS.iconst X0.here hx rfl (hb hby d7_24) kt_) ?_
          show Done p e s below _ _ _ s₁ (mkF m 25 #[.val (.int p1)] [(.int (1 : Int32))])
          refine Done.go (fun _ kt_ => XS.goto X0.here hx rfl (pc0 := 25) (pc' := 29) rfl (hb hby d7_25) (by decide) (by decide) kt_) ?_
          show Done p e s below _ _ _ s₁ (mkF m 29 #[.val (.int p1)] [(.int (1 : Int32))])
          refine Done.retN X0 hx hlk (t := .boolean) hrt (by simp) (z' := (1 : Int32)) rfl (hb hby d7_29) ?_ (by first | decide | omega) (by first | decide | omega)
          rw [e0]
          exact ⟨by simp [own_bi, own_ws, hc3, hc9, hc15, hc21], N0, rfl⟩
        · skip
          refine Done.go (fun _ kt_ => XS.icmpYes X0.here hx rfl (pc0 := 21) (pc' := 28) rfl (hb hby d7_21) rfl (feq hc21).2 (by decide) (by decide) kt_) ?_
          show Done p e s below _ _ _ s₁ (mkF m 28 #[.val (.int p1)] [])
          refine Done.go (fun _ kt_ => XS.iconst X0.here hx rfl (hb hby d7_28) kt_) ?_
          show Done p e s below _ _ _ s₁ (mkF m 29 #[.val (.int p1)] [(.int (0 : Int32))])
          refine Done.retN X0 hx hlk (t := .boolean) hrt (by simp) (z' := (0 : Int32)) rfl (hb hby d7_29) ?_ (by first | decide | omega) (by first | decide | omega)
          rw [e0]
          exact ⟨by simp [own_bi, own_ws, hc3, hc9, hc15, hc21], N0, rfl⟩
theorem d6_0 : decode prog_40_method_17_code 0 = .ok (.aload_n 0, 1) := by decide +kernel
theorem d6_1 : decode prog_40_method_17_code 1 = .ok (.arraylength, 1) := by decide +kernel
theorem d6_2 : decode prog_40_method_17_code 2 = .ok (.aload_n 1, 1) := by decide +kernel
theorem d6_3 : decode prog_40_method_17_code 3 = .ok (.arraylength, 1) := by decide +kernel
theorem d6_4 : decode prog_40_method_17_code 4 = .ok (.if_icmp .ge 5, 3) := by decide +kernel
theorem d6_7 : decode prog_40_method_17_code 7 = .ok (.iconst 0, 1) := by decide +kernel
theorem d6_8 : decode prog_40_method_17_code 8 = .ok (.ireturn, 1) := by decide +kernel
theorem d6_9 : decode prog_40_method_17_code 9 = .ok (.iconst 0, 1) := by decide +kernel
theorem d6_10 : decode prog_40_method_17_code 10 = .ok (.istore_n 2, 1) := by decide +kernel
theorem d6_11 : decode prog_40_method_17_code 11 = .ok (.iload_n 2, 1) := by decide +kernel
theorem d6_12 : decode prog_40_method_17_code 12 = .ok (.aload_n 1, 1) := by decide +kernel
theorem d6_13 : decode prog_40_method_17_code 13 = .ok (.arraylength, 1) := by decide +kernel
theorem d6_14 : decode prog_40_method_17_code 14 = .ok (.if_icmp .ge 20, 3) := by decide +kernel
theorem d6_17 : decode prog_40_method_17_code 17 = .ok (.aload_n 0, 1) := by decide +kernel
theorem d6_18 : decode prog_40_method_17_code 18 = .ok (.iload_n 2, 1) := by decide +kernel
theorem d6_19 : decode prog_40_method_17_code 19 = .ok (.baload, 1) := by decide +kernel
theorem d6_20 : decode prog_40_method_17_code 20 = .ok (.aload_n 1, 1) := by decide +kernel
theorem d6_21 : decode prog_40_method_17_code 21 = .ok (.iload_n 2, 1) := by decide +kernel
theorem d6_22 : decode prog_40_method_17_code 22 = .ok (.baload, 1) := by decide +kernel
theorem d6_23 : decode prog_40_method_17_code 23 = .ok (.if_icmp .eq 5, 3) := by decide +kernel
theorem d6_26 : decode prog_40_method_17_code 26 = .ok (.iconst 0, 1) := by decide +kernel
theorem d6_27 : decode prog_40_method_17_code 27 = .ok (.ireturn, 1) := by decide +kernel
theorem d6_28 : decode prog_40_method_17_code 28 = .ok (.iinc 2 1, 3) := by decide +kernel
theorem d6_31 : decode prog_40_method_17_code 31 = .ok (.goto (-20), 3) := by decide +kernel
theorem d6_34 : decode prog_40_method_17_code 34 = .ok (.iconst 1, 1) := by decide +kernel
theorem d6_35 : decode prog_40_method_17_code 35 = .ok (.ireturn, 1) := by decide +kernel
theorem ef_rm6 (m : MethodId) (a1 : Addr) (a2 : Addr) : entryFrame m #[(.ref a1), (.ref a2)] 3 = mkF m 0 #[.val (.ref a1), .val (.ref a2), .unset] [] := by first | (simp [entryFrame, mkF, argsToLocals, Value.category]; done) | rfl
set_option maxRecDepth 65536 in
set_option maxHeartbeats 40000000 in
theorem rm6 (l : Launch) (Z : State) (a0 : Array Value) (hw : ∀ d ∈ tables_1, d.before a0 Z = true) (ws : List Jvm.Cond) (a1 : Addr) (a2 : Addr) (n : Nat) (f : Nat → Int32) (k : Nat) (g : Nat → Int32) (h0 : Heap) (n0 : Nat) (Z0 : n0 ≤ h0.size) (V1 : Ari Z h0 a1 .byte n f) (V2 : Ari Z h0 a2 .byte k g) (hk : k < 1000) :
    MetFree l (⟨"spinecode/xml/XmlInput", "startsWith", "([B[B)Z"⟩ : MethodName) (head1 (Jvm.Cond.code (⟨"spinecode/xml/XmlInput", "startsWith", "([B[B)Z"⟩ : MethodName) prog_40_method_17_code 3 (some .boolean) :: ws) ({ frames := 0, cells := 0, slots := 0, locals := 0 } : Room)) (fun a U => a = #[(.ref a1), (.ref a2)] ∧ Z.Warmed39 U.vm ∧ U.heap = h0) (fun _ _ _ _ _ => True) (fun _ U o U' => ∃ vr Lr, o = .returned vr ∧ QP (own_bi (own_pre n f k g)) h0 n0 vr U'.heap Lr ∧ FrameEnd U o U' Lr 0 0) := by
  refine MetFree.of_bodySF (plainFor_of_name own_pn1) hisR ?_
  intro p e s m args below meth c s₁ Bd hml0 hP hK
  obtain ⟨rfl, hZ, hh⟩ := hP
  have hx := Bd.exec
  have hby := Bd.bytes
  have hml : c.maxLocals = 3 := hml0
  have hown : s.vm.findClass "spinecode/xml/XmlInput" = some m.cls := findClass_of_methodNamed Bd.named
  have hnm := (name_of_methodNamed Bd.named Bd.method).1
  have hlk : meth.locks = false := Bd.notSynchronized
  have hrt := Bd.returns
  have X0 : Stand p l e ({ frames := 0, cells := 0, slots := 0, locals := 0 } : Room) s m #[(.ref a1), (.ref a2)] below meth c s₁ [] 0 0 := Stand.of_body Bd
  have e0 : s₁.heap = h0 := by rw [← hh, Bd.state]; rfl
  have N0 := Fr.nil n0
  show Done p e s below 0 0 (QP (own_bi (own_pre n f k g)) h0 n0) s₁ (entryFrame m #[(.ref a1), (.ref a2)] 3)
  rw [ef_rm6]
  have hzn := own_toI V1.small
  have hzk := own_toI V2.small
  generalize hen : n.toInt32 = zn at hzn
  generalize hek : k.toInt32 = zk at hzk
  have loop : k ≤ n → ∀ (d j : Nat) (pj : Int32), j + d = k → pj.toInt = (j : Int) → (∀ i, i < j → f i = g i) → Done p e s below 0 0 (QP (own_bi (own_pre n f k g)) h0 n0) s₁ (mkF m 11 #[.val (.ref a1), .val (.ref a2), .val (.int pj)] []) := by
    intro hkn d
    induction d with
    | zero =>
      intro j pj hd hj hall
      show Done p e s below _ _ _ s₁ (mkF m 11 #[.val (.ref a1), .val (.ref a2), .val (.int pj)] [])
      refine Done.go (fun _ kt_ => XS.iloadN X0.here hx rfl (hb hby d6_11) rfl kt_) ?_
      show Done p e s below _ _ _ s₁ (mkF m 12 #[.val (.ref a1), .val (.ref a2), .val (.int pj)] [(.int pj)])
      refine Done.go (fun _ kt_ => XS.aloadN X0.here hx rfl (hb hby d6_12) rfl rfl kt_) ?_
      show Done p e s below _ _ _ s₁ (mkF m 13 #[.val (.ref a1), .val (.ref a2), .val (.int pj)] [(.ref a2), (.int pj)])
      refine Done.len X0 hx hZ e0 V2 (z := zk) hek (hb hby d6_13) ?_
      show Done p e s below _ _ _ s₁ (mkF m 14 #[.val (.ref a1), .val (.ref a2), .val (.int pj)] [(.int zk), (.int pj)])
      refine Done.go (fun _ kt_ => XS.icmpYes X0.here hx rfl (pc0 := 14) (pc' := 34) rfl (hb hby d6_14) rfl (flt (fun q => absurd ((own_ltI hj hzk).mp q) (by omega))).2.1 (by decide) (by decide) kt_) ?_
      show Done p e s below _ _ _ s₁ (mkF m 34 #[.val (.ref a1), .val (.ref a2), .val (.int pj)] [])
      refine Done.go (fun _ kt_ => XS.iconst X0.here hx rfl (hb hby d6_34) kt_) ?_
      show Done p e s below _ _ _ s₁ (mkF m 35 #[.val (.ref a1), .val (.ref a2), .val (.int pj)] [(.int (1 : Int32))])
      refine Done.retN X0 hx hlk (t := .boolean) hrt (by simp) (z' := (1 : Int32)) rfl (hb hby d6_35) ?_ (by first | decide | omega) (by first | decide | omega)
      rw [e0]
      have hjk : j = k := by omega
      subst hjk
      have hdd : decide (∀ i, i < j → f i = g i) = true := decide_eq_true hall
      exact ⟨by simp only [own_pre, hkn, hdd]; rfl, N0, rfl⟩
    | succ d ih =>
      intro j pj hd hj hall
      show Done p e s below _ _ _ s₁ (mkF m 11 #[.val (.ref a1), .val (.ref a2), .val (.int pj)] [])
      refine Done.go (fun _ kt_ => XS.iloadN X0.here hx rfl (hb hby d6_11) rfl kt_) ?_
      show Done p e s below _ _ _ s₁ (mkF m 12 #[.val (.ref a1), .val (.ref a2), .val (.int pj)] [(.int pj)])
      refine Done.go (fun _ kt_ => XS.aloadN X0.here hx rfl (hb hby d6_12) rfl rfl kt_) ?_
      show Done p e s below _ _ _ s₁ (mkF m 13 #[.val (.ref a1), .val (.ref a2), .val (.int pj)] [(.ref a2), (.int pj)])
      refine Done.len X0 hx hZ e0 V2 (z := zk) hek (hb hby d6_13) ?_
      show Done p e s below _ _ _ s₁ (mkF m 14 #[.val (.ref a1), .val (.ref a2), .val (.int pj)] [(.int zk), (.int pj)])
      refine Done.go (fun _ kt_ => XS.icmpNo X0.here hx rfl (hb hby d6_14) rfl (tlt ((own_ltI hj hzk).mpr (by omega))).2.1 kt_) ?_
      show Done p e s below _ _ _ s₁ (mkF m 17 #[.val (.ref a1), .val (.ref a2), .val (.int pj)] [])
      refine Done.go (fun _ kt_ => XS.aloadN X0.here hx rfl (hb hby d6_17) rfl rfl kt_) ?_
      show Done p e s below _ _ _ s₁ (mkF m 18 #[.val (.ref a1), .val (.ref a2), .val (.int pj)] [(.ref a1)])
      refine Done.go (fun _ kt_ => XS.iloadN X0.here hx rfl (hb hby d6_18) rfl kt_) ?_
      show Done p e s below _ _ _ s₁ (mkF m 19 #[.val (.ref a1), .val (.ref a2), .val (.int pj)] [(.int pj), (.ref a1)])
      refine Done.ldB X0 hx hZ e0 V1 (j := pj) (w := (f j)) j (own_ix hj).1 (own_ix hj).2 (by omega) rfl (hb hby d6_19) ?_
      show Done p e s below _ _ _ s₁ (mkF m 20 #[.val (.ref a1), .val (.ref a2), .val (.int pj)] [(.int (f j))])
      refine Done.go (fun _ kt_ => XS.aloadN X0.here hx rfl (hb hby d6_20) rfl rfl kt_) ?_
      show Done p e s below _ _ _ s₁ (mkF m 21 #[.val (.ref a1), .val (.ref a2), .val (.int pj)] [(.ref a2), (.int (f j))])
      refine Done.go (fun _ kt_ => XS.iloadN X0.here hx rfl (hb hby d6_21) rfl kt_) ?_
      show Done p e s below _ _ _ s₁ (mkF m 22 #[.val (.ref a1), .val (.ref a2), .val (.int pj)] [(.int pj), (.ref a2), (.int (f j))])
      refine Done.ldB X0 hx hZ e0 V2 (j := pj) (w := (g j)) j (own_ix hj).1 (own_ix hj).2 (by omega) rfl (hb hby d6_22) ?_
      show Done p e s below _ _ _ s₁ (mkF m 23 #[.val (.ref a1), .val (.ref a2), .val (.int pj)] [(.int (g j)), (.int (f j))])
      by_cases hc23 : (f j) = (g j)
      · skip
        refine Done.go (fun _ kt_ => XS.icmpYes X0.here hx rfl (pc0 := 23) (pc' := 28) rfl (hb hby d6_23) rfl (teq hc23).1 (by decide) (by decide) kt_) ?_
        show Done p e s below _ _ _ s₁ (mkF m 28 #[.val (.ref a1), .val (.ref a2), .val (.int pj)] [])
        refine Done.go (fun _ kt_ => XS.iinc X0.here hx rfl (hb hby d6_28) rfl (l' := #[.val (.ref a1), .val (.ref a2), .val (.int (pj + (1 : Int32)))]) rfl kt_) ?_
        show Done p e s below _ _ _ s₁ (mkF m 31 #[.val (.ref a1), .val (.ref a2), .val (.int (pj + (1 : Int32)))] [])
        refine Done.go (fun _ kt_ => XS.goto X0.here hx rfl (pc0 := 31) (pc' := 11) rfl (hb hby d6_31) (by decide) (by decide) kt_) ?_
        show Done p e s below _ _ _ s₁ (mkF m 11 #[.val (.ref a1), .val (.ref a2), .val (.int (pj + (1 : Int32)))] [])
        exact ih (j + 1) _ (by omega) (own_inc hj (by omega)) (fun i hi => by
          rcases Nat.lt_succ_iff_lt_or_eq.mp hi with q | q
          · exact hall i q
          · subst q; exact hc23)
      · skip
        refine Done.go (fun _ kt_ => XS.icmpNo X0.here hx rfl (hb hby d6_23) rfl (feq hc23).1 kt_) ?_
        show Done p e s below _ _ _ s₁ (mkF m 26 #[.val (.ref a1), .val (.ref a2), .val (.int pj)] [])
        refine Done.go (fun _ kt_ => XS.iconst X0.here hx rfl (hb hby d6_26) kt_) ?_
        show Done p e s below _ _ _ s₁ (mkF m 27 #[.val (.ref a1), .val (.ref a2), .val (.int pj)] [(.int (0 : Int32))])
        refine Done.retN X0 hx hlk (t := .boolean) hrt (by simp) (z' := (0 : Int32)) rfl (hb hby d6_27) ?_ (by first | decide | omega) (by first | decide | omega)
        rw [e0]
        have hno : ¬ ∀ i, i < k → f i = g i := fun q => hc23 (q j (by omega))
        exact ⟨by simp [own_bi, own_pre, hno], N0, rfl⟩
  show Done p e s below _ _ _ s₁ (mkF m 0 #[.val (.ref a1), .val (.ref a2), .unset] [])
  refine Done.go (fun _ kt_ => XS.aloadN X0.here hx rfl (hb hby d6_0) rfl rfl kt_) ?_
  show Done p e s below _ _ _ s₁ (mkF m 1 #[.val (.ref a1), .val (.ref a2), .unset] [(.ref a1)])
  refine Done.len X0 hx hZ e0 V1 (z := zn) hen (hb hby d6_1) ?_
  show Done p e s below _ _ _ s₁ (mkF m 2 #[.val (.ref a1), .val (.ref a2), .unset] [(.int zn)])
  refine Done.go (fun _ kt_ => XS.aloadN X0.here hx rfl (hb hby d6_2) rfl rfl kt_) ?_
  show Done p e s below _ _ _ s₁ (mkF m 3 #[.val (.ref a1), .val (.ref a2), .unset] [(.ref a2), (.int zn)])
  refine Done.len X0 hx hZ e0 V2 (z := zk) hek (hb hby d6_3) ?_
  show Done p e s below _ _ _ s₁ (mkF m 4 #[.val (.ref a1), .val (.ref a2), .unset] [(.int zk), (.int zn)])
  by_cases hc4 : zn < zk
  · skip
    refine Done.go (fun _ kt_ => XS.icmpNo X0.here hx rfl (hb hby d6_4) rfl (tlt hc4).2.1 kt_) ?_
    show Done p e s below _ _ _ s₁ (mkF m 7 #[.val (.ref a1), .val (.ref a2), .unset] [])
    refine Done.go (fun _ kt_ => XS.iconst X0.here hx rfl (hb hby d6_7) kt_) ?_
    show Done p e s below _ _ _ s₁ (mkF m 8 #[.val (.ref a1), .val (.ref a2), .unset] [(.int (0 : Int32))])
    refine Done.retN X0 hx hlk (t := .boolean) hrt (by simp) (z' := (0 : Int32)) rfl (hb hby d6_8) ?_ (by first | decide | omega) (by first | decide | omega)
    rw [e0]
    rw [own_ltI hzn hzk] at hc4
    exact ⟨by simp [own_bi, own_pre, Nat.not_le_of_lt hc4], N0, rfl⟩
  · skip
    refine Done.go (fun _ kt_ => XS.icmpYes X0.here hx rfl (pc0 := 4) (pc' := 9) rfl (hb hby d6_4) rfl (flt hc4).2.1 (by decide) (by decide) kt_) ?_
    show Done p e s below _ _ _ s₁ (mkF m 9 #[.val (.ref a1), .val (.ref a2), .unset] [])
    refine Done.go (fun _ kt_ => XS.iconst X0.here hx rfl (hb hby d6_9) kt_) ?_
    show Done p e s below _ _ _ s₁ (mkF m 10 #[.val (.ref a1), .val (.ref a2), .unset] [(.int (0 : Int32))])
    refine Done.go (fun _ kt_ => XS.istoreN X0.here hx rfl (hb hby d6_10) rfl (l' := #[.val (.ref a1), .val (.ref a2), .val (.int (0 : Int32))]) rfl kt_) ?_
    show Done p e s below _ _ _ s₁ (mkF m 11 #[.val (.ref a1), .val (.ref a2), .val (.int (0 : Int32))] [])
    exact loop (Nat.le_of_not_lt (fun q => hc4 ((own_ltI hzn hzk).mpr q))) k 0 _ (by omega) rfl (fun i hi => absurd hi (Nat.not_lt_zero i))
theorem d5_0 : decode prog_40_method_16_code 0 = .ok (.aload_n 0, 1) := by decide +kernel
theorem d5_1 : decode prog_40_method_16_code 1 = .ok (.getstatic 315, 3) := by decide +kernel
theorem d5_4 : decode prog_40_method_16_code 4 = .ok (.invokestatic 17, 3) := by decide +kernel
theorem d5_7 : decode prog_40_method_16_code 7 = .ok (.ifCond .ne 13, 3) := by decide +kernel
theorem d5_10 : decode prog_40_method_16_code 10 = .ok (.aload_n 0, 1) := by decide +kernel
theorem d5_11 : decode prog_40_method_16_code 11 = .ok (.getstatic 318, 3) := by decide +kernel
theorem d5_14 : decode prog_40_method_16_code 14 = .ok (.invokestatic 17, 3) := by decide +kernel
theorem d5_17 : decode prog_40_method_16_code 17 = .ok (.ifCond .eq 7, 3) := by decide +kernel
theorem d5_20 : decode prog_40_method_16_code 20 = .ok (.iconst 1, 1) := by decide +kernel
theorem d5_21 : decode prog_40_method_16_code 21 = .ok (.goto 4, 3) := by decide +kernel
theorem d5_24 : decode prog_40_method_16_code 24 = .ok (.iconst 0, 1) := by decide +kernel
theorem d5_25 : decode prog_40_method_16_code 25 = .ok (.ireturn, 1) := by decide +kernel
theorem ef_rm5 (m : MethodId) (a1 : Addr) : entryFrame m #[(.ref a1)] 1 = mkF m 0 #[.val (.ref a1)] [] := by first | (simp [entryFrame, mkF, argsToLocals, Value.category]; done) | rfl
set_option maxRecDepth 65536 in
set_option maxHeartbeats 40000000 in
theorem rm5 (l : Launch) (Z : State) (a0 : Array Value) (hw : ∀ d ∈ tables_1, d.before a0 Z = true) (ws : List Jvm.Cond) (a1 : Addr) (n : Nat) (f : Nat → Int32) (m1 : Addr) (m2 : Addr) (m3 : Addr) (h0 : Heap) (n0 : Nat) (Z0 : n0 ≤ h0.size) (V1 : Ari Z h0 a1 .byte n f) (S1 : Sta Z h0 "spinecode/xml/XmlInput" "UTF_16_BIG_ENDIAN_MARK" "[B" (.ref m1)) (S2 : Sta Z h0 "spinecode/xml/XmlInput" "UTF_16_LITTLE_ENDIAN_MARK" "[B" (.ref m2)) (S3 : Sta Z h0 "spinecode/xml/XmlInput" "UTF_8_MARK" "[B" (.ref m3)) (M1 : Ari Z h0 m1 .byte 2 own_be) (M2 : Ari Z h0 m2 .byte 2 own_le) (M3 : Ari Z h0 m3 .byte 3 own_u8) :
    MetFree l (⟨"spinecode/xml/XmlInput", "hasUtf16Mark", "([B)Z"⟩ : MethodName) (head1 (Jvm.Cond.code (⟨"spinecode/xml/XmlInput", "hasUtf16Mark", "([B)Z"⟩ : MethodName) prog_40_method_16_code 1 (some .boolean) :: ws) ({ frames := 1, cells := 0, slots := 0, locals := 14 } : Room)) (fun a U => a = #[(.ref a1)] ∧ Z.Warmed39 U.vm ∧ U.heap = h0) (fun _ _ _ _ _ => True) (fun _ U o U' => ∃ vr Lr, o = .returned vr ∧ QP (own_bi (own_p16 n (f 0) (f 1))) h0 n0 vr U'.heap Lr ∧ FrameEnd U o U' Lr 0 0) := by
  refine MetFree.of_bodySF (plainFor_of_name own_pn1) hisR ?_
  intro p e s m args below meth c s₁ Bd hml0 hP hK
  obtain ⟨rfl, hZ, hh⟩ := hP
  have hx := Bd.exec
  have hby := Bd.bytes
  have hml : c.maxLocals = 1 := hml0
  have hown : s.vm.findClass "spinecode/xml/XmlInput" = some m.cls := findClass_of_methodNamed Bd.named
  have hnm := (name_of_methodNamed Bd.named Bd.method).1
  have hlk : meth.locks = false := Bd.notSynchronized
  have hrt := Bd.returns
  have X0 : Stand p l e ({ frames := 1, cells := 0, slots := 0, locals := 14 } : Room) s m #[(.ref a1)] below meth c s₁ [] 0 0 := Stand.of_body Bd
  have e0 : s₁.heap = h0 := by rw [← hh, Bd.state]; rfl
  have N0 := Fr.nil n0
  show Done p e s below 0 0 (QP (own_bi (own_p16 n (f 0) (f 1))) h0 n0) s₁ (entryFrame m #[(.ref a1)] 1)
  rw [ef_rm5]
  show Done p e s below _ _ _ s₁ (mkF m 0 #[.val (.ref a1)] [])
  refine Done.go (fun _ kt_ => XS.aloadN X0.here hx rfl (hb hby d5_0) rfl rfl kt_) ?_
  show Done p e s below _ _ _ s₁ (mkF m 1 #[.val (.ref a1)] [(.ref a1)])
  obtain ⟨T1, X1, e1, st1⟩ := getS2 X0 hx hZ hown (host := "") (Or.inl (hw _ (List.mem_of_getElem? (i := 19) rfl))) Via.refl e0 S1 (g := (mkF m 1 #[.val (.ref a1)] [(.ref a1)])) rfl (hb hby d5_1)
  refine Done.go st1 ?_
  clear st1
  show Done p e s below _ _ _ T1 (mkF m 4 #[.val (.ref a1)] [(.ref m1), (.ref a1)])
  obtain ⟨v2, T2, Lc2, X2, hQ2, st2⟩ := own_backG (Jvm.LawKit.callS X1 hx (y := (⟨"spinecode/xml/XmlInput", "startsWith", "([B[B)Z"⟩ : MethodName)) hown (mvT hZ (hw _ (List.mem_of_getElem? (i := 21) rfl))) (mvT hZ (hw _ (List.mem_of_getElem? (i := 22) rfl))) (mvT hZ (hw _ (List.mem_of_getElem? (i := 14) rfl))) (mvT hZ (hw _ (List.mem_of_getElem? (i := 23) rfl))) (by decide) (backOf (W := 0) (rm6 l Z a0 hw [] a1 m1 n f 2 own_be h0 n0 Z0 V1 M1 (by decide)) hZ (hw _ (List.mem_of_getElem? (i := 23) rfl)) (hw _ (List.mem_of_getElem? (i := 14) rfl)) (by decide) (by decide)) (g := (mkF m 4 #[.val (.ref a1)] [(.ref m1), (.ref a1)])) rfl (by rw [hml]; rfl) (argsL := [(.ref a1), (.ref m1)]) (rest := []) (lenOf own_pd0 rfl) rfl (by show 2 * 0 + _ ≤ _; exact Nat.le_of_eq rfl) (hb hby d5_4) (fun _ _ => ⟨rfl, e1, (by first | decide | omega : 0 + 0 ≤ _), (by first | decide | omega : 0 + 0 ≤ _)⟩))
  obtain ⟨rfl, N2q, e2⟩ := hQ2
  refine Done.go st2 ?_
  clear st2
  have N2 := Fr.app N0 N2q
  clear N2q
  obtain ⟨Lh2, X2h, N2h⟩ : ∃ L, Stand p l e ({ frames := 1, cells := 0, slots := 0, locals := 14 } : Room) s m #[(.ref a1)] below meth c T2 L 0 0 ∧ Fr n0 L := ⟨_, X2, N2⟩
  clear X2 N2 X1 e1
  show Done p e s below _ _ _ T2 (mkF m 7 #[.val (.ref a1)] [(.int (own_bi (own_pre n f 2 own_be)))])
  by_cases hc7 : (own_bi (own_pre n f 2 own_be)) = (0 : Int32)
  · skip
    refine Done.go (fun _ kt_ => XS.ifNo X2h.here hx rfl (hb hby d5_7) rfl ((if0 _ _).trans (teq hc7).2) kt_) ?_
    show Done p e s below _ _ _ T2 (mkF m 10 #[.val (.ref a1)] [])
    refine Done.go (fun _ kt_ => XS.aloadN X2h.here hx rfl (hb hby d5_10) rfl rfl kt_) ?_
    show Done p e s below _ _ _ T2 (mkF m 11 #[.val (.ref a1)] [(.ref a1)])
    obtain ⟨T3, X3, e3, st3⟩ := getS2 X2h hx hZ hown (host := "") (Or.inl (hw _ (List.mem_of_getElem? (i := 24) rfl))) Via.refl e2 S2 (g := (mkF m 11 #[.val (.ref a1)] [(.ref a1)])) rfl (hb hby d5_11)
    refine Done.go st3 ?_
    clear st3 X2h e2
    show Done p e s below _ _ _ T3 (mkF m 14 #[.val (.ref a1)] [(.ref m2), (.ref a1)])
    obtain ⟨v4, T4, Lc4, X4, hQ4, st4⟩ := own_backG (Jvm.LawKit.callS X3 hx (y := (⟨"spinecode/xml/XmlInput", "startsWith", "([B[B)Z"⟩ : MethodName)) hown (mvT hZ (hw _ (List.mem_of_getElem? (i := 21) rfl))) (mvT hZ (hw _ (List.mem_of_getElem? (i := 22) rfl))) (mvT hZ (hw _ (List.mem_of_getElem? (i := 14) rfl))) (mvT hZ (hw _ (List.mem_of_getElem? (i := 23) rfl))) (by decide) (backOf (W := 0) (rm6 l Z a0 hw [] a1 m2 n f 2 own_le h0 n0 Z0 V1 M2 (by decide)) hZ (hw _ (List.mem_of_getElem? (i := 23) rfl)) (hw _ (List.mem_of_getElem? (i := 14) rfl)) (by decide) (by decide)) (g := (mkF m 14 #[.val (.ref a1)] [(.ref m2), (.ref a1)])) rfl (by rw [hml]; rfl) (argsL := [(.ref a1), (.ref m2)]) (rest := []) (lenOf own_pd0 rfl) rfl (by show 2 * 0 + _ ≤ _; exact Nat.le_of_eq rfl) (hb hby d5_14) (fun _ _ => ⟨rfl, e3, (by first | decide | omega : 0 + 0 ≤ _), (by first | decide | omega : 0 + 0 ≤ _)⟩))
    obtain ⟨rfl, N4q, e4⟩ := hQ4
    refine Done.go st4 ?_
    clear st4
    have N4 := Fr.app N2h N4q
    clear N4q
    obtain ⟨Lh4, X4h, N4h⟩ : ∃ L, Stand p l e ({ frames := 1, cells := 0, slots := 0, locals := 14 } : Room) s m #[(.ref a1)] below meth c T4 L 0 0 ∧ Fr n0 L := ⟨_, X4, N4⟩
    clear X4 N4 X3 e3 N2h
    show Done p e s below _ _ _ T4 (mkF m 17 #[.val (.ref a1)] [(.int (own_bi (own_pre n f 2 own_le)))])
    by_cases hc17 : (own_bi (own_pre n f 2 own_le)) = (0 : Int32)
    · skip
      refine Done.go (fun _ kt_ => XS.ifYes X4h.here hx rfl (pc0 := 17) (pc' := 24) rfl (hb hby d5_17) rfl ((if0 _ _).trans (teq hc17).1) (by decide) (by decide) kt_) ?_
      show Done p e s below _ _ _ T4 (mkF m 24 #[.val (.ref a1)] [])
      refine Done.go (fun _ kt_ => XS.iconst X4h.here hx rfl (hb hby d5_24) kt_) ?_
      show Done p e s below _ _ _ T4 (mkF m 25 #[.val (.ref a1)] [(.int (0 : Int32))])
      refine Done.retN X4h hx hlk (t := .boolean) hrt (by simp) (z' := (0 : Int32)) rfl (hb hby d5_25) ?_ (by first | decide | omega) (by first | decide | omega)
      rw [e4]
      have q := own_bi0.mp hc7
      have u := own_bi0.mp hc17
      exact ⟨by rw [← own_e16, q, u]; rfl, N4h, rfl⟩
    · skip
      refine Done.go (fun _ kt_ => XS.ifNo X4h.here hx rfl (hb hby d5_17) rfl ((if0 _ _).trans (feq hc17).1) kt_) ?_
      show Done p e s below _ _ _ T4 (mkF m 20 #[.val (.ref a1)] [])
      refine Done.go (fun _ kt_ => XS.iconst X4h.here hx rfl (hb hby d5_20) kt_) ?_
      show Done p e s below _ _ _ T4 (mkF m 21 #[.val (.ref a1)] [(.int (1 : Int32))])
      refine Done.go (fun _ kt_ => XS.goto X4h.here hx rfl (pc0 := 21) (pc' := 25) rfl (hb hby d5_21) (by decide) (by decide) kt_) ?_
      show Done p e s below _ _ _ T4 (mkF m 25 #[.val (.ref a1)] [(.int (1 : Int32))])
      refine Done.retN X4h hx hlk (t := .boolean) hrt (by simp) (z' := (1 : Int32)) rfl (hb hby d5_25) ?_ (by first | decide | omega) (by first | decide | omega)
      rw [e4]
      have q := own_bi0.mp hc7
      have u := own_bi1.mp hc17
      exact ⟨by rw [← own_e16, q, u]; rfl, N4h, rfl⟩
  · skip
    refine Done.go (fun _ kt_ => XS.ifYes X2h.here hx rfl (pc0 := 7) (pc' := 20) rfl (hb hby d5_7) rfl ((if0 _ _).trans (feq hc7).2) (by decide) (by decide) kt_) ?_
    show Done p e s below _ _ _ T2 (mkF m 20 #[.val (.ref a1)] [])
    refine Done.go (fun _ kt_ => XS.iconst X2h.here hx rfl (hb hby d5_20) kt_) ?_
    show Done p e s below _ _ _ T2 (mkF m 21 #[.val (.ref a1)] [(.int (1 : Int32))])
    refine Done.go (fun _ kt_ => XS.goto X2h.here hx rfl (pc0 := 21) (pc' := 25) rfl (hb hby d5_21) (by decide) (by decide) kt_) ?_
    show Done p e s below _ _ _ T2 (mkF m 25 #[.val (.ref a1)] [(.int (1 : Int32))])
    refine Done.retN X2h hx hlk (t := .boolean) hrt (by simp) (z' := (1 : Int32)) rfl (hb hby d5_25) ?_ (by first | decide | omega) (by first | decide | omega)
    rw [e2]
    have q := own_bi1.mp hc7
    exact ⟨by rw [← own_e16, q]; rfl, N2h, rfl⟩
theorem d4_0 : decode prog_40_method_2_code 0 = .ok (.aload_n 0, 1) := by decide +kernel
theorem d4_1 : decode prog_40_method_2_code 1 = .ok (.invokestatic 7, 3) := by decide +kernel
theorem d4_4 : decode prog_40_method_2_code 4 = .ok (.ifCond .eq 5, 3) := by decide +kernel
theorem d4_7 : decode prog_40_method_2_code 7 = .ok (.iconst 1, 1) := by decide +kernel
theorem d4_8 : decode prog_40_method_2_code 8 = .ok (.ireturn, 1) := by decide +kernel
theorem d4_9 : decode prog_40_method_2_code 9 = .ok (.aload_n 0, 1) := by decide +kernel
theorem d4_10 : decode prog_40_method_2_code 10 = .ok (.getstatic 13, 3) := by decide +kernel
theorem d4_13 : decode prog_40_method_2_code 13 = .ok (.invokestatic 17, 3) := by decide +kernel
theorem d4_16 : decode prog_40_method_2_code 16 = .ok (.ifCond .eq 10, 3) := by decide +kernel
theorem d4_19 : decode prog_40_method_2_code 19 = .ok (.getstatic 13, 3) := by decide +kernel
theorem d4_22 : decode prog_40_method_2_code 22 = .ok (.arraylength, 1) := by decide +kernel
theorem d4_23 : decode prog_40_method_2_code 23 = .ok (.goto 4, 3) := by decide +kernel
theorem d4_26 : decode prog_40_method_2_code 26 = .ok (.iconst 0, 1) := by decide +kernel
theorem d4_27 : decode prog_40_method_2_code 27 = .ok (.istore_n 1, 1) := by decide +kernel
theorem d4_28 : decode prog_40_method_2_code 28 = .ok (.iload_n 1, 1) := by decide +kernel
theorem d4_29 : decode prog_40_method_2_code 29 = .ok (.aload_n 0, 1) := by decide +kernel
theorem d4_30 : decode prog_40_method_2_code 30 = .ok (.arraylength, 1) := by decide +kernel
theorem d4_31 : decode prog_40_method_2_code 31 = .ok (.if_icmp .ge 19, 3) := by decide +kernel
theorem d4_34 : decode prog_40_method_2_code 34 = .ok (.aload_n 0, 1) := by decide +kernel
theorem d4_35 : decode prog_40_method_2_code 35 = .ok (.iload_n 1, 1) := by decide +kernel
theorem d4_36 : decode prog_40_method_2_code 36 = .ok (.baload, 1) := by decide +kernel
theorem d4_37 : decode prog_40_method_2_code 37 = .ok (.i2c, 1) := by decide +kernel
theorem d4_38 : decode prog_40_method_2_code 38 = .ok (.invokestatic 21, 3) := by decide +kernel
theorem d4_41 : decode prog_40_method_2_code 41 = .ok (.ifCond .eq 9, 3) := by decide +kernel
theorem d4_44 : decode prog_40_method_2_code 44 = .ok (.iinc 1 1, 3) := by decide +kernel
theorem d4_47 : decode prog_40_method_2_code 47 = .ok (.goto (-19), 3) := by decide +kernel
theorem d4_50 : decode prog_40_method_2_code 50 = .ok (.iload_n 1, 1) := by decide +kernel
theorem d4_51 : decode prog_40_method_2_code 51 = .ok (.aload_n 0, 1) := by decide +kernel
theorem d4_52 : decode prog_40_method_2_code 52 = .ok (.arraylength, 1) := by decide +kernel
theorem d4_53 : decode prog_40_method_2_code 53 = .ok (.if_icmp .ge 15, 3) := by decide +kernel
theorem d4_56 : decode prog_40_method_2_code 56 = .ok (.aload_n 0, 1) := by decide +kernel
theorem d4_57 : decode prog_40_method_2_code 57 = .ok (.iload_n 1, 1) := by decide +kernel
theorem d4_58 : decode prog_40_method_2_code 58 = .ok (.baload, 1) := by decide +kernel
theorem d4_59 : decode prog_40_method_2_code 59 = .ok (.bipush 60, 2) := by decide +kernel
theorem d4_61 : decode prog_40_method_2_code 61 = .ok (.if_icmp .ne 7, 3) := by decide +kernel
theorem d4_64 : decode prog_40_method_2_code 64 = .ok (.iconst 1, 1) := by decide +kernel
theorem d4_65 : decode prog_40_method_2_code 65 = .ok (.goto 4, 3) := by decide +kernel
theorem d4_68 : decode prog_40_method_2_code 68 = .ok (.iconst 0, 1) := by decide +kernel
theorem d4_69 : decode prog_40_method_2_code 69 = .ok (.ireturn, 1) := by decide +kernel
theorem ef_rm4 (m : MethodId) (a1 : Addr) : entryFrame m #[(.ref a1)] 2 = mkF m 0 #[.val (.ref a1), .unset] [] := by first | (simp [entryFrame, mkF, argsToLocals, Value.category]; done) | rfl
set_option maxRecDepth 65536 in
set_option maxHeartbeats 40000000 in
theorem rm4 (l : Launch) (Z : State) (a0 : Array Value) (hw : ∀ d ∈ tables_1, d.before a0 Z = true) (ws : List Jvm.Cond) (a1 : Addr) (n : Nat) (f : Nat → Int32) (m1 : Addr) (m2 : Addr) (m3 : Addr) (h0 : Heap) (n0 : Nat) (Z0 : n0 ≤ h0.size) (V1 : Ari Z h0 a1 .byte n f) (hn7 : n ≤ 7) (hby8 : ∀ i, i < n → nar .byte (f i) = f i) (S1 : Sta Z h0 "spinecode/xml/XmlInput" "UTF_16_BIG_ENDIAN_MARK" "[B" (.ref m1)) (S2 : Sta Z h0 "spinecode/xml/XmlInput" "UTF_16_LITTLE_ENDIAN_MARK" "[B" (.ref m2)) (S3 : Sta Z h0 "spinecode/xml/XmlInput" "UTF_8_MARK" "[B" (.ref m3)) (M1 : Ari Z h0 m1 .byte 2 own_be) (M2 : Ari Z h0 m2 .byte 2 own_le) (M3 : Ari Z h0 m3 .byte 3 own_u8) :
    MetFree l (⟨"spinecode/xml/XmlInput", "recognises", "([B)Z"⟩ : MethodName) (head1 (Jvm.Cond.code (⟨"spinecode/xml/XmlInput", "recognises", "([B)Z"⟩ : MethodName) prog_40_method_2_code 2 (some .boolean) :: ws) ({ frames := 2, cells := 0, slots := 0, locals := 26 } : Room)) (fun a U => a = #[(.ref a1)] ∧ Z.Warmed39 U.vm ∧ U.heap = h0) (fun _ _ _ _ _ => True) (fun _ U o U' => ∃ vr Lr, o = .returned vr ∧ QP (own_bi (own_ans n f)) h0 n0 vr U'.heap Lr ∧ FrameEnd U o U' Lr 0 0) := by
  refine MetFree.of_bodySF (plainFor_of_name own_pn1) hisR ?_
  intro p e s m args below meth c s₁ Bd hml0 hP hK
  obtain ⟨rfl, hZ, hh⟩ := hP
  have hx := Bd.exec
  have hby := Bd.bytes
  have hml : c.maxLocals = 2 := hml0
  have hown : s.vm.findClass "spinecode/xml/XmlInput" = some m.cls := findClass_of_methodNamed Bd.named
  have hnm := (name_of_methodNamed Bd.named Bd.method).1
  have hlk : meth.locks = false := Bd.notSynchronized
  have hrt := Bd.returns
  have X0 : Stand p l e ({ frames := 2, cells := 0, slots := 0, locals := 26 } : Room) s m #[(.ref a1)] below meth c s₁ [] 0 0 := Stand.of_body Bd
  have e0 : s₁.heap = h0 := by rw [← hh, Bd.state]; rfl
  have N0 := Fr.nil n0
  show Done p e s below 0 0 (QP (own_bi (own_ans n f)) h0 n0) s₁ (entryFrame m #[(.ref a1)] 2)
  rw [ef_rm4]
  have hzn := own_toI V1.small
  generalize hen : n.toInt32 = zn at hzn
  have loop : ∀ (ans : Bool) (d j : Nat) (pj : Int32) (T1 : State) (L1 : List Loc), n ≤ j + d → j ≤ 7 → pj.toInt = (j : Int) → own_scan n f d j = ans → Stand p l e ({ frames := 2, cells := 0, slots := 0, locals := 26 } : Room) s m #[(.ref a1)] below meth c T1 L1 0 0 → T1.heap = h0 → Fr n0 L1 → Done p e s below 0 0 (QP (own_bi ans) h0 n0) T1 (mkF m 28 #[.val (.ref a1), .val (.int pj)] []) := by
    intro ans d
    induction d with
    | zero =>
      intro j pj T1 L1 hd hj7 hj hans X1 e1 N1
      show Done p e s below _ _ _ T1 (mkF m 28 #[.val (.ref a1), .val (.int pj)] [])
      refine Done.go (fun _ kt_ => XS.iloadN X1.here hx rfl (hb hby d4_28) rfl kt_) ?_
      show Done p e s below _ _ _ T1 (mkF m 29 #[.val (.ref a1), .val (.int pj)] [(.int pj)])
      refine Done.go (fun _ kt_ => XS.aloadN X1.here hx rfl (hb hby d4_29) rfl rfl kt_) ?_
      show Done p e s below _ _ _ T1 (mkF m 30 #[.val (.ref a1), .val (.int pj)] [(.ref a1), (.int pj)])
      refine Done.len X1 hx hZ e1 V1 (z := zn) hen (hb hby d4_30) ?_
      show Done p e s below _ _ _ T1 (mkF m 31 #[.val (.ref a1), .val (.int pj)] [(.int zn), (.int pj)])
      refine Done.go (fun _ kt_ => XS.icmpYes X1.here hx rfl (pc0 := 31) (pc' := 50) rfl (hb hby d4_31) rfl (flt (fun q => absurd ((own_ltI hj hzn).mp q) (by omega))).2.1 (by decide) (by decide) kt_) ?_
      show Done p e s below _ _ _ T1 (mkF m 50 #[.val (.ref a1), .val (.int pj)] [])
      refine Done.go (fun _ kt_ => XS.iloadN X1.here hx rfl (hb hby d4_50) rfl kt_) ?_
      show Done p e s below _ _ _ T1 (mkF m 51 #[.val (.ref a1), .val (.int pj)] [(.int pj)])
      refine Done.go (fun _ kt_ => XS.aloadN X1.here hx rfl (hb hby d4_51) rfl rfl kt_) ?_
      show Done p e s below _ _ _ T1 (mkF m 52 #[.val (.ref a1), .val (.int pj)] [(.ref a1), (.int pj)])
      refine Done.len X1 hx hZ e1 V1 (z := zn) hen (hb hby d4_52) ?_
      show Done p e s below _ _ _ T1 (mkF m 53 #[.val (.ref a1), .val (.int pj)] [(.int zn), (.int pj)])
      refine Done.go (fun _ kt_ => XS.icmpYes X1.here hx rfl (pc0 := 53) (pc' := 68) rfl (hb hby d4_53) rfl (flt (fun q => absurd ((own_ltI hj hzn).mp q) (by omega))).2.1 (by decide) (by decide) kt_) ?_
      show Done p e s below _ _ _ T1 (mkF m 68 #[.val (.ref a1), .val (.int pj)] [])
      refine Done.go (fun _ kt_ => XS.iconst X1.here hx rfl (hb hby d4_68) kt_) ?_
      show Done p e s below _ _ _ T1 (mkF m 69 #[.val (.ref a1), .val (.int pj)] [(.int (0 : Int32))])
      refine Done.retN X1 hx hlk (t := .boolean) hrt (by simp) (z' := (0 : Int32)) rfl (hb hby d4_69) ?_ (by first | decide | omega) (by first | decide | omega)
      rw [e1]
      exact ⟨by rw [← hans]; rfl, N1, rfl⟩
    | succ d ih =>
      intro j pj T1 L1 hd hj7 hj hans X1 e1 N1
      show Done p e s below _ _ _ T1 (mkF m 28 #[.val (.ref a1), .val (.int pj)] [])
      refine Done.go (fun _ kt_ => XS.iloadN X1.here hx rfl (hb hby d4_28) rfl kt_) ?_
      show Done p e s below _ _ _ T1 (mkF m 29 #[.val (.ref a1), .val (.int pj)] [(.int pj)])
      refine Done.go (fun _ kt_ => XS.aloadN X1.here hx rfl (hb hby d4_29) rfl rfl kt_) ?_
      show Done p e s below _ _ _ T1 (mkF m 30 #[.val (.ref a1), .val (.int pj)] [(.ref a1), (.int pj)])
      refine Done.len X1 hx hZ e1 V1 (z := zn) hen (hb hby d4_30) ?_
      show Done p e s below _ _ _ T1 (mkF m 31 #[.val (.ref a1), .val (.int pj)] [(.int zn), (.int pj)])
      by_cases hc31 : pj < zn
      · skip
        refine Done.go (fun _ kt_ => XS.icmpNo X1.here hx rfl (hb hby d4_31) rfl (tlt hc31).2.1 kt_) ?_
        show Done p e s below _ _ _ T1 (mkF m 34 #[.val (.ref a1), .val (.int pj)] [])
        refine Done.go (fun _ kt_ => XS.aloadN X1.here hx rfl (hb hby d4_34) rfl rfl kt_) ?_
        show Done p e s below _ _ _ T1 (mkF m 35 #[.val (.ref a1), .val (.int pj)] [(.ref a1)])
        refine Done.go (fun _ kt_ => XS.iloadN X1.here hx rfl (hb hby d4_35) rfl kt_) ?_
        show Done p e s below _ _ _ T1 (mkF m 36 #[.val (.ref a1), .val (.int pj)] [(.int pj), (.ref a1)])
        refine Done.ldB X1 hx hZ e1 V1 (j := pj) (w := (f j)) j (own_ix hj).1 (own_ix hj).2 ((own_ltI hj hzn).mp hc31) rfl (hb hby d4_36) ?_
        show Done p e s below _ _ _ T1 (mkF m 37 #[.val (.ref a1), .val (.int pj)] [(.int (f j))])
        refine Done.go (fun _ kt_ => XS.i2c X1.here hx rfl (hb hby d4_37) rfl kt_) ?_
        show Done p e s below _ _ _ T1 (mkF m 38 #[.val (.ref a1), .val (.int pj)] [(.int ((f j).toUInt32.toUInt16.toUInt32.toInt32))])
        obtain ⟨v5, T5, Lc5, X5, hQ5, st5⟩ := own_backG (Jvm.LawKit.callS X1 hx (y := (⟨"spinecode/xml/XmlInput", "isWhiteSpace", "(C)Z"⟩ : MethodName)) hown (mvT hZ (hw _ (List.mem_of_getElem? (i := 28) rfl))) (mvT hZ (hw _ (List.mem_of_getElem? (i := 29) rfl))) (mvT hZ (hw _ (List.mem_of_getElem? (i := 14) rfl))) (mvT hZ (hw _ (List.mem_of_getElem? (i := 30) rfl))) (by decide) (backOf (W := 0) (rm7 l Z a0 hw [] ((f j).toUInt32.toUInt16.toUInt32.toInt32) h0 n0 Z0) hZ (hw _ (List.mem_of_getElem? (i := 30) rfl)) (hw _ (List.mem_of_getElem? (i := 14) rfl)) (by decide) (by decide)) (g := (mkF m 38 #[.val (.ref a1), .val (.int pj)] [(.int ((f j).toUInt32.toUInt16.toUInt32.toInt32))])) rfl (by rw [hml]; rfl) (argsL := [(.int ((f j).toUInt32.toUInt16.toUInt32.toInt32))]) (rest := []) (lenOf own_pd1 rfl) rfl (by show 2 * 0 + _ ≤ _; exact Nat.le_of_eq rfl) (hb hby d4_38) (fun _ _ => ⟨rfl, e1, (by first | decide | omega : 0 + 0 ≤ _), (by first | decide | omega : 0 + 0 ≤ _)⟩))
        obtain ⟨rfl, N5q, e5⟩ := hQ5
        refine Done.go st5 ?_
        clear st5
        have N5 := Fr.app N1 N5q
        clear N5q
        obtain ⟨Lh5, X5h, N5h⟩ : ∃ L, Stand p l e ({ frames := 2, cells := 0, slots := 0, locals := 26 } : Room) s m #[(.ref a1)] below meth c T5 L 0 0 ∧ Fr n0 L := ⟨_, X5, N5⟩
        clear X5 N5 X1 e1 N1
        show Done p e s below _ _ _ T5 (mkF m 41 #[.val (.ref a1), .val (.int pj)] [(.int (own_bi (own_ws ((f j).toUInt32.toUInt16.toUInt32.toInt32))))])
        by_cases hc41 : (own_bi (own_ws ((f j).toUInt32.toUInt16.toUInt32.toInt32))) = (0 : Int32)
        · skip
          refine Done.go (fun _ kt_ => XS.ifYes X5h.here hx rfl (pc0 := 41) (pc' := 50) rfl (hb hby d4_41) rfl ((if0 _ _).trans (teq hc41).1) (by decide) (by decide) kt_) ?_
          show Done p e s below _ _ _ T5 (mkF m 50 #[.val (.ref a1), .val (.int pj)] [])
          refine Done.go (fun _ kt_ => XS.iloadN X5h.here hx rfl (hb hby d4_50) rfl kt_) ?_
          show Done p e s below _ _ _ T5 (mkF m 51 #[.val (.ref a1), .val (.int pj)] [(.int pj)])
          refine Done.go (fun _ kt_ => XS.aloadN X5h.here hx rfl (hb hby d4_51) rfl rfl kt_) ?_
          show Done p e s below _ _ _ T5 (mkF m 52 #[.val (.ref a1), .val (.int pj)] [(.ref a1), (.int pj)])
          refine Done.len X5h hx hZ e5 V1 (z := zn) hen (hb hby d4_52) ?_
          show Done p e s below _ _ _ T5 (mkF m 53 #[.val (.ref a1), .val (.int pj)] [(.int zn), (.int pj)])
          refine Done.go (fun _ kt_ => XS.icmpNo X5h.here hx rfl (hb hby d4_53) rfl (tlt hc31).2.1 kt_) ?_
          show Done p e s below _ _ _ T5 (mkF m 56 #[.val (.ref a1), .val (.int pj)] [])
          refine Done.go (fun _ kt_ => XS.aloadN X5h.here hx rfl (hb hby d4_56) rfl rfl kt_) ?_
          show Done p e s below _ _ _ T5 (mkF m 57 #[.val (.ref a1), .val (.int pj)] [(.ref a1)])
          refine Done.go (fun _ kt_ => XS.iloadN X5h.here hx rfl (hb hby d4_57) rfl kt_) ?_
          show Done p e s below _ _ _ T5 (mkF m 58 #[.val (.ref a1), .val (.int pj)] [(.int pj), (.ref a1)])
          refine Done.ldB X5h hx hZ e5 V1 (j := pj) (w := (f j)) j (own_ix hj).1 (own_ix hj).2 ((own_ltI hj hzn).mp hc31) rfl (hb hby d4_58) ?_
          show Done p e s below _ _ _ T5 (mkF m 59 #[.val (.ref a1), .val (.int pj)] [(.int (f j))])
          refine Done.go (fun _ kt_ => XS.bipush X5h.here hx rfl (hb hby d4_59) kt_) ?_
          show Done p e s below _ _ _ T5 (mkF m 61 #[.val (.ref a1), .val (.int pj)] [(.int (60 : Int32)), (.int (f j))])
          by_cases hc61 : (f j) = (60 : Int32)
          · skip
            refine Done.go (fun _ kt_ => XS.icmpNo X5h.here hx rfl (hb hby d4_61) rfl (teq hc61).2 kt_) ?_
            show Done p e s below _ _ _ T5 (mkF m 64 #[.val (.ref a1), .val (.int pj)] [])
            refine Done.go (fun _ kt_ => XS.iconst X5h.here hx rfl (hb hby d4_64) kt_) ?_
            show Done p e s below _ _ _ T5 (mkF m 65 #[.val (.ref a1), .val (.int pj)] [(.int (1 : Int32))])
            refine Done.go (fun _ kt_ => XS.goto X5h.here hx rfl (pc0 := 65) (pc' := 69) rfl (hb hby d4_65) (by decide) (by decide) kt_) ?_
            show Done p e s below _ _ _ T5 (mkF m 69 #[.val (.ref a1), .val (.int pj)] [(.int (1 : Int32))])
            refine Done.retN X5h hx hlk (t := .boolean) hrt (by simp) (z' := (1 : Int32)) rfl (hb hby d4_69) ?_ (by first | decide | omega) (by first | decide | omega)
            rw [e5]
            rw [own_ltI hj hzn] at hc31
            have hw0 := own_bi0.mp hc41
            rw [own_wsc (hby8 j hc31)] at hw0
            exact ⟨by rw [← hans]; simp [own_bi, own_scan, hc31, hw0, hc61], N5h, rfl⟩
          · skip
            refine Done.go (fun _ kt_ => XS.icmpYes X5h.here hx rfl (pc0 := 61) (pc' := 68) rfl (hb hby d4_61) rfl (feq hc61).2 (by decide) (by decide) kt_) ?_
            show Done p e s below _ _ _ T5 (mkF m 68 #[.val (.ref a1), .val (.int pj)] [])
            refine Done.go (fun _ kt_ => XS.iconst X5h.here hx rfl (hb hby d4_68) kt_) ?_
            show Done p e s below _ _ _ T5 (mkF m 69 #[.val (.ref a1), .val (.int pj)] [(.int (0 : Int32))])
            refine Done.retN X5h hx hlk (t := .boolean) hrt (by simp) (z' := (0 : Int32)) rfl (hb hby d4_69) ?_ (by first | decide | omega) (by first | decide | omega)
            rw [e5]
            rw [own_ltI hj hzn] at hc31
            have hw0 := own_bi0.mp hc41
            rw [own_wsc (hby8 j hc31)] at hw0
            exact ⟨by rw [← hans]; simp [own_bi, own_scan, hc31, hw0, hc61], N5h, rfl⟩
        · skip
          refine Done.go (fun _ kt_ => XS.ifNo X5h.here hx rfl (hb hby d4_41) rfl ((if0 _ _).trans (feq hc41).1) kt_) ?_
          show Done p e s below _ _ _ T5 (mkF m 44 #[.val (.ref a1), .val (.int pj)] [])
          refine Done.go (fun _ kt_ => XS.iinc X5h.here hx rfl (hb hby d4_44) rfl (l' := #[.val (.ref a1), .val (.int (pj + (1 : Int32)))]) rfl kt_) ?_
          show Done p e s below _ _ _ T5 (mkF m 47 #[.val (.ref a1), .val (.int (pj + (1 : Int32)))] [])
          refine Done.go (fun _ kt_ => XS.goto X5h.here hx rfl (pc0 := 47) (pc' := 28) rfl (hb hby d4_47) (by decide) (by decide) kt_) ?_
          show Done p e s below _ _ _ T5 (mkF m 28 #[.val (.ref a1), .val (.int (pj + (1 : Int32)))] [])
          rw [own_ltI hj hzn] at hc31
          have hw1 := own_bi1.mp hc41
          rw [own_wsc (hby8 j hc31)] at hw1
          exact ih (j + 1) _ _ _ (by omega) (by omega) (own_inc hj (by omega)) (by rw [← hans]; simp [own_scan, hc31, hw1, own_nws hw1]) X5h e5 N5h
      · skip
        refine Done.go (fun _ kt_ => XS.icmpYes X1.here hx rfl (pc0 := 31) (pc' := 50) rfl (hb hby d4_31) rfl (flt hc31).2.1 (by decide) (by decide) kt_) ?_
        show Done p e s below _ _ _ T1 (mkF m 50 #[.val (.ref a1), .val (.int pj)] [])
        refine Done.go (fun _ kt_ => XS.iloadN X1.here hx rfl (hb hby d4_50) rfl kt_) ?_
        show Done p e s below _ _ _ T1 (mkF m 51 #[.val (.ref a1), .val (.int pj)] [(.int pj)])
        refine Done.go (fun _ kt_ => XS.aloadN X1.here hx rfl (hb hby d4_51) rfl rfl kt_) ?_
        show Done p e s below _ _ _ T1 (mkF m 52 #[.val (.ref a1), .val (.int pj)] [(.ref a1), (.int pj)])
        refine Done.len X1 hx hZ e1 V1 (z := zn) hen (hb hby d4_52) ?_
        show Done p e s below _ _ _ T1 (mkF m 53 #[.val (.ref a1), .val (.int pj)] [(.int zn), (.int pj)])
        refine Done.go (fun _ kt_ => XS.icmpYes X1.here hx rfl (pc0 := 53) (pc' := 68) rfl (hb hby d4_53) rfl (flt hc31).2.1 (by decide) (by decide) kt_) ?_
        show Done p e s below _ _ _ T1 (mkF m 68 #[.val (.ref a1), .val (.int pj)] [])
        refine Done.go (fun _ kt_ => XS.iconst X1.here hx rfl (hb hby d4_68) kt_) ?_
        show Done p e s below _ _ _ T1 (mkF m 69 #[.val (.ref a1), .val (.int pj)] [(.int (0 : Int32))])
        refine Done.retN X1 hx hlk (t := .boolean) hrt (by simp) (z' := (0 : Int32)) rfl (hb hby d4_69) ?_ (by first | decide | omega) (by first | decide | omega)
        rw [e1]
        rw [own_ltI hj hzn] at hc31
        exact ⟨by rw [← hans]; simp [own_bi, own_scan, hc31], N1, rfl⟩
  show Done p e s below _ _ _ s₁ (mkF m 0 #[.val (.ref a1), .unset] [])
  refine Done.go (fun _ kt_ => XS.aloadN X0.here hx rfl (hb hby d4_0) rfl rfl kt_) ?_
  show Done p e s below _ _ _ s₁ (mkF m 1 #[.val (.ref a1), .unset] [(.ref a1)])
  obtain ⟨v6, T6, Lc6, X6, hQ6, st6⟩ := own_backG (Jvm.LawKit.callS X0 hx (y := (⟨"spinecode/xml/XmlInput", "hasUtf16Mark", "([B)Z"⟩ : MethodName)) hown (mvT hZ (hw _ (List.mem_of_getElem? (i := 16) rfl))) (mvT hZ (hw _ (List.mem_of_getElem? (i := 17) rfl))) (mvT hZ (hw _ (List.mem_of_getElem? (i := 14) rfl))) (mvT hZ (hw _ (List.mem_of_getElem? (i := 18) rfl))) (by decide) (backOf (W := 0) (rm5 l Z a0 hw [] a1 n f m1 m2 m3 h0 n0 Z0 V1 S1 S2 S3 M1 M2 M3) hZ (hw _ (List.mem_of_getElem? (i := 18) rfl)) (hw _ (List.mem_of_getElem? (i := 14) rfl)) (by decide) (by decide)) (g := (mkF m 1 #[.val (.ref a1), .unset] [(.ref a1)])) rfl (by rw [hml]; rfl) (argsL := [(.ref a1)]) (rest := []) (lenOf own_pd2 rfl) rfl (by show 2 * 0 + _ ≤ _; exact Nat.le_of_eq rfl) (hb hby d4_1) (fun _ _ => ⟨rfl, e0, (by first | decide | omega : 0 + 0 ≤ _), (by first | decide | omega : 0 + 0 ≤ _)⟩))
  obtain ⟨rfl, N6q, e6⟩ := hQ6
  refine Done.go st6 ?_
  clear st6
  have N6 := Fr.app N0 N6q
  clear N6q
  obtain ⟨Lh6, X6h, N6h⟩ : ∃ L, Stand p l e ({ frames := 2, cells := 0, slots := 0, locals := 26 } : Room) s m #[(.ref a1)] below meth c T6 L 0 0 ∧ Fr n0 L := ⟨_, X6, N6⟩
  clear X6 N6
  show Done p e s below _ _ _ T6 (mkF m 4 #[.val (.ref a1), .unset] [(.int (own_bi (own_p16 n (f 0) (f 1))))])
  by_cases hc4 : (own_bi (own_p16 n (f 0) (f 1))) = (0 : Int32)
  · skip
    refine Done.go (fun _ kt_ => XS.ifYes X6h.here hx rfl (pc0 := 4) (pc' := 9) rfl (hb hby d4_4) rfl ((if0 _ _).trans (teq hc4).1) (by decide) (by decide) kt_) ?_
    show Done p e s below _ _ _ T6 (mkF m 9 #[.val (.ref a1), .unset] [])
    refine Done.go (fun _ kt_ => XS.aloadN X6h.here hx rfl (hb hby d4_9) rfl rfl kt_) ?_
    show Done p e s below _ _ _ T6 (mkF m 10 #[.val (.ref a1), .unset] [(.ref a1)])
    obtain ⟨T7, X7, e7, st7⟩ := getS2 X6h hx hZ hown (host := "") (Or.inl (hw _ (List.mem_of_getElem? (i := 26) rfl))) Via.refl e6 S3 (g := (mkF m 10 #[.val (.ref a1), .unset] [(.ref a1)])) rfl (hb hby d4_10)
    refine Done.go st7 ?_
    clear st7 X6h e6
    show Done p e s below _ _ _ T7 (mkF m 13 #[.val (.ref a1), .unset] [(.ref m3), (.ref a1)])
    obtain ⟨v8, T8, Lc8, X8, hQ8, st8⟩ := own_backG (Jvm.LawKit.callS X7 hx (y := (⟨"spinecode/xml/XmlInput", "startsWith", "([B[B)Z"⟩ : MethodName)) hown (mvT hZ (hw _ (List.mem_of_getElem? (i := 21) rfl))) (mvT hZ (hw _ (List.mem_of_getElem? (i := 22) rfl))) (mvT hZ (hw _ (List.mem_of_getElem? (i := 14) rfl))) (mvT hZ (hw _ (List.mem_of_getElem? (i := 23) rfl))) (by decide) (backOf (W := 0) (rm6 l Z a0 hw [] a1 m3 n f 3 own_u8 h0 n0 Z0 V1 M3 (by decide)) hZ (hw _ (List.mem_of_getElem? (i := 23) rfl)) (hw _ (List.mem_of_getElem? (i := 14) rfl)) (by decide) (by decide)) (g := (mkF m 13 #[.val (.ref a1), .unset] [(.ref m3), (.ref a1)])) rfl (by rw [hml]; rfl) (argsL := [(.ref a1), (.ref m3)]) (rest := []) (lenOf own_pd0 rfl) rfl (by show 2 * 0 + _ ≤ _; exact Nat.le_of_eq rfl) (hb hby d4_13) (fun _ _ => ⟨rfl, e7, (by first | decide | omega : 0 + 0 ≤ _), (by first | decide | omega : 0 + 0 ≤ _)⟩))
    obtain ⟨rfl, N8q, e8⟩ := hQ8
    refine Done.go st8 ?_
    clear st8
    have N8 := Fr.app N6h N8q
    clear N8q
    obtain ⟨Lh8, X8h, N8h⟩ : ∃ L, Stand p l e ({ frames := 2, cells := 0, slots := 0, locals := 26 } : Room) s m #[(.ref a1)] below meth c T8 L 0 0 ∧ Fr n0 L := ⟨_, X8, N8⟩
    clear X8 N8 X7 e7 N6h
    show Done p e s below _ _ _ T8 (mkF m 16 #[.val (.ref a1), .unset] [(.int (own_bi (own_pre n f 3 own_u8)))])
    by_cases hc16 : (own_bi (own_pre n f 3 own_u8)) = (0 : Int32)
    · skip
      refine Done.go (fun _ kt_ => XS.ifYes X8h.here hx rfl (pc0 := 16) (pc' := 26) rfl (hb hby d4_16) rfl ((if0 _ _).trans (teq hc16).1) (by decide) (by decide) kt_) ?_
      show Done p e s below _ _ _ T8 (mkF m 26 #[.val (.ref a1), .unset] [])
      refine Done.go (fun _ kt_ => XS.iconst X8h.here hx rfl (hb hby d4_26) kt_) ?_
      show Done p e s below _ _ _ T8 (mkF m 27 #[.val (.ref a1), .unset] [(.int (0 : Int32))])
      refine Done.go (fun _ kt_ => XS.istoreN X8h.here hx rfl (hb hby d4_27) rfl (l' := #[.val (.ref a1), .val (.int (0 : Int32))]) rfl kt_) ?_
      show Done p e s below _ _ _ T8 (mkF m 28 #[.val (.ref a1), .val (.int (0 : Int32))] [])
      have q4 := own_bi0.mp hc4
      have q16 := own_bi0.mp hc16
      rw [own_e8] at q16
      exact loop _ 7 0 _ _ _ (by omega) (by omega) rfl (by simp [own_ans, q4, q16]) X8h e8 N8h
    · skip
      refine Done.go (fun _ kt_ => XS.ifNo X8h.here hx rfl (hb hby d4_16) rfl ((if0 _ _).trans (feq hc16).1) kt_) ?_
      show Done p e s below _ _ _ T8 (mkF m 19 #[.val (.ref a1), .unset] [])
      obtain ⟨T9, X9, e9, st9⟩ := getS2 X8h hx hZ hown (host := "") (Or.inl (hw _ (List.mem_of_getElem? (i := 26) rfl))) Via.refl e8 S3 (g := (mkF m 19 #[.val (.ref a1), .unset] [])) rfl (hb hby d4_19)
      refine Done.go st9 ?_
      clear st9 X8h e8
      show Done p e s below _ _ _ T9 (mkF m 22 #[.val (.ref a1), .unset] [(.ref m3)])
      refine Done.len X9 hx hZ e9 M3 (z := (3 : Int32)) rfl (hb hby d4_22) ?_
      show Done p e s below _ _ _ T9 (mkF m 23 #[.val (.ref a1), .unset] [(.int (3 : Int32))])
      refine Done.go (fun _ kt_ => XS.goto X9.here hx rfl (pc0 := 23) (pc' := 27) rfl (hb hby d4_23) (by decide) (by decide) kt_) ?_
      show Done p e s below _ _ _ T9 (mkF m 27 #[.val (.ref a1), .unset] [(.int (3 : Int32))])
      refine Done.go (fun _ kt_ => XS.istoreN X9.here hx rfl (hb hby d4_27) rfl (l' := #[.val (.ref a1), .val (.int (3 : Int32))]) rfl kt_) ?_
      show Done p e s below _ _ _ T9 (mkF m 28 #[.val (.ref a1), .val (.int (3 : Int32))] [])
      have q4 := own_bi0.mp hc4
      have q16 := own_bi1.mp hc16
      rw [own_e8] at q16
      exact loop _ 4 3 _ _ _ (by omega) (by omega) rfl (by simp [own_ans, q4, q16]) X9 e9 N8h
  · skip
    refine Done.go (fun _ kt_ => XS.ifNo X6h.here hx rfl (hb hby d4_4) rfl ((if0 _ _).trans (feq hc4).1) kt_) ?_
    show Done p e s below _ _ _ T6 (mkF m 7 #[.val (.ref a1), .unset] [])
    refine Done.go (fun _ kt_ => XS.iconst X6h.here hx rfl (hb hby d4_7) kt_) ?_
    show Done p e s below _ _ _ T6 (mkF m 8 #[.val (.ref a1), .unset] [(.int (1 : Int32))])
    refine Done.retN X6h hx hlk (t := .boolean) hrt (by simp) (z' := (1 : Int32)) rfl (hb hby d4_8) ?_ (by first | decide | omega) (by first | decide | omega)
    rw [e6]
    have q := own_bi1.mp hc4
    exact ⟨by simp [own_ans, q, own_bi], N6h, rfl⟩
def Q0 (n0 : Nat) (v : Option Value) (h : Heap) (L : List Loc) : Prop := v = some (.int 1) ∧ Fr n0 L
theorem ef_rm0 (m : MethodId) (p0 : Int32) (q1 : Int64) (q2 : Int64) : entryFrame m #[(.int p0), (.long q1), (.long q2)] maxLocals = mkF m 0 #[.val (.int p0), .val (.long q1), .second, .val (.long q2), .second, .unset, .unset, .unset, .unset, .unset, .unset, .unset, .unset, .unset, .unset, .unset, .unset, .unset, .unset] [] := by first | (simp [entryFrame, mkF, argsToLocals, Value.category, maxLocals]; done) | rfl
set_option maxRecDepth 65536 in
set_option maxHeartbeats 40000000 in
theorem rm0 (l : Launch) (Z : State) (a0 : Array Value) (hw : ∀ d ∈ tables_1, d.before a0 Z = true) (ws : List Jvm.Cond) (p0 : Int32) (q1 : Int64) (q2 : Int64) (m1 : Addr) (m2 : Addr) (m3 : Addr) (h0 : Heap) (n0 : Nat) (Z0 : n0 ≤ h0.size) (S1 : Sta Z h0 "spinecode/xml/XmlInput" "UTF_16_BIG_ENDIAN_MARK" "[B" (.ref m1)) (S2 : Sta Z h0 "spinecode/xml/XmlInput" "UTF_16_LITTLE_ENDIAN_MARK" "[B" (.ref m2)) (S3 : Sta Z h0 "spinecode/xml/XmlInput" "UTF_8_MARK" "[B" (.ref m3)) (M1 : Ari Z h0 m1 .byte 2 own_be) (M2 : Ari Z h0 m2 .byte 2 own_le) (M3 : Ari Z h0 m3 .byte 3 own_u8) :
    MetFree l x (head1 (Jvm.Cond.code x code maxLocals ret :: ws) room_1) (fun a U => a = #[(.int p0), (.long q1), (.long q2)] ∧ Z.Warmed39 U.vm ∧ U.heap = h0) (fun _ _ _ _ _ => True) (fun _ U o U' => ∃ vr Lr, o = .returned vr ∧ Q0 n0 vr U'.heap Lr ∧ FrameEnd U o U' Lr 16 128) := by
  refine MetFree.of_bodySF (plainFor_of_name own_pn0) hisR ?_
  intro p e s m args below meth c s₁ Bd hml0 hP hK
  obtain ⟨rfl, hZ, hh⟩ := hP
  have hx := Bd.exec
  have hby := Bd.bytes
  have hml : c.maxLocals = 19 := hml0
  have hown : s.vm.findClass "spinecode/xml/XmlInputRecognisesPinLaw" = some m.cls := findClass_of_methodNamed Bd.named
  have hnm := (name_of_methodNamed Bd.named Bd.method).1
  have hlk : meth.locks = false := Bd.notSynchronized
  have hrt := Bd.returns
  have X0 : Stand p l e room_1 s m #[(.int p0), (.long q1), (.long q2)] below meth c s₁ [] 0 0 := Stand.of_body Bd
  have e0 : s₁.heap = h0 := by rw [← hh, Bd.state]; rfl
  have N0 := Fr.nil n0
  show Done p e s below 16 128 (Q0 n0) s₁ (entryFrame m #[(.int p0), (.long q1), (.long q2)] maxLocals)
  rw [ef_rm0]
  show Done p e s below _ _ _ s₁ (mkF m 0 #[.val (.int p0), .val (.long q1), .second, .val (.long q2), .second, .unset, .unset, .unset, .unset, .unset, .unset, .unset, .unset, .unset, .unset, .unset, .unset, .unset, .unset] [])
  refine Done.go (fun _ kt_ => XS.iloadN X0.here hx rfl (hb hby at_0) rfl kt_) ?_
  show Done p e s below _ _ _ s₁ (mkF m 1 #[.val (.int p0), .val (.long q1), .second, .val (.long q2), .second, .unset, .unset, .unset, .unset, .unset, .unset, .unset, .unset, .unset, .unset, .unset, .unset, .unset, .unset] [(.int p0)])
  refine Done.go (fun _ kt_ => XS.bipush X0.here hx rfl (hb hby at_1) kt_) ?_
  show Done p e s below _ _ _ s₁ (mkF m 3 #[.val (.int p0), .val (.long q1), .second, .val (.long q2), .second, .unset, .unset, .unset, .unset, .unset, .unset, .unset, .unset, .unset, .unset, .unset, .unset, .unset, .unset] [(.int (7 : Int32)), (.int p0)])
  refine Done.go (fun _ kt_ => XS.iand X0.here hx rfl (hb hby at_3) rfl kt_) ?_
  show Done p e s below _ _ _ s₁ (mkF m 4 #[.val (.int p0), .val (.long q1), .second, .val (.long q2), .second, .unset, .unset, .unset, .unset, .unset, .unset, .unset, .unset, .unset, .unset, .unset, .unset, .unset, .unset] [(.int (p0 &&& (7 : Int32)))])
  refine Done.go (fun _ kt_ => XS.istore X0.here hx rfl (hb hby at_4) rfl (l' := #[.val (.int p0), .val (.long q1), .second, .val (.long q2), .second, .val (.int (p0 &&& (7 : Int32))), .unset, .unset, .unset, .unset, .unset, .unset, .unset, .unset, .unset, .unset, .unset, .unset, .unset]) rfl kt_) ?_
  have hzl := c_mask p0 7 3 (by decide) (by decide)
  show Done p e s below _ _ _ s₁ (mkF m 6 #[.val (.int p0), .val (.long q1), .second, .val (.long q2), .second, .val (.int (p0 &&& (7 : Int32))), .unset, .unset, .unset, .unset, .unset, .unset, .unset, .unset, .unset, .unset, .unset, .unset, .unset] [])
  generalize h_zl : (p0 &&& (7 : Int32)) = zl
  rw [h_zl] at hzl
  obtain ⟨N, hN⟩ : ∃ N : Nat, zl.toInt = (N : Int) := ⟨zl.toInt.toNat, by omega⟩
  have hN7 : N ≤ 7 := by omega
  clear hzl
  show Done p e s below _ _ _ s₁ (mkF m 6 #[.val (.int p0), .val (.long q1), .second, .val (.long q2), .second, .val (.int zl), .unset, .unset, .unset, .unset, .unset, .unset, .unset, .unset, .unset, .unset, .unset, .unset, .unset] [])
  refine Done.go (fun _ kt_ => XS.bipush X0.here hx rfl (hb hby at_6) kt_) ?_
  show Done p e s below _ _ _ s₁ (mkF m 8 #[.val (.int p0), .val (.long q1), .second, .val (.long q2), .second, .val (.int zl), .unset, .unset, .unset, .unset, .unset, .unset, .unset, .unset, .unset, .unset, .unset, .unset, .unset] [(.int (10 : Int32))])
  obtain ⟨T10, h10, k10, X10, e10, E10, A10, st10⟩ := newP X0 hx hZ (hw _ (List.mem_of_getElem? (i := 0) rfl)) e0 (g := (mkF m 8 #[.val (.int p0), .val (.long q1), .second, .val (.long q2), .second, .val (.int zl), .unset, .unset, .unset, .unset, .unset, .unset, .unset, .unset, .unset, .unset, .unset, .unset, .unset] [(.int (10 : Int32))])) rfl (hb hby at_8) rfl (by decide) (cap := 10) (by decide) (by decide) (by first | decide | omega) (by first | decide | omega)
  obtain ⟨b10, g10⟩ : ∃ z, z = h0.size := ⟨_, rfl⟩
  rw [← g10] at A10 st10
  have ne_m1_b10 : m1 ≠ b10 := Nat.ne_of_lt (Nat.lt_of_lt_of_le M1.lt (Nat.le_of_eq g10.symm))
  have ne_m2_b10 : m2 ≠ b10 := Nat.ne_of_lt (Nat.lt_of_lt_of_le M2.lt (Nat.le_of_eq g10.symm))
  have ne_m3_b10 : m3 ≠ b10 := Nat.ne_of_lt (Nat.lt_of_lt_of_le M3.lt (Nat.le_of_eq g10.symm))
  have gz_b10 : n0 ≤ b10 := Nat.le_trans Z0 (Nat.le_of_eq g10.symm)
  have Z10 : n0 ≤ h10.size := Nat.le_trans Z0 E10.1
  obtain ⟨Lh10, X10h, N10h⟩ : ∃ L, Stand p l e room_1 s m #[(.int p0), (.long q1), (.long q2)] below meth c T10 L 1 10 ∧ Fr n0 L := ⟨_, X10, N0⟩
  clear X10
  have V10 := Ari.new A10 (by decide) (n := 10) rfl rfl
  refine Done.go st10 ?_
  clear st10
  show Done p e s below _ _ _ T10 (mkF m 10 #[.val (.int p0), .val (.long q1), .second, .val (.long q2), .second, .val (.int zl), .unset, .unset, .unset, .unset, .unset, .unset, .unset, .unset, .unset, .unset, .unset, .unset, .unset] [(.ref b10)])
  refine Done.go (fun _ kt_ => XS.dup X10h.here hx rfl (hb hby at_10) rfl rfl kt_) ?_
  show Done p e s below _ _ _ T10 (mkF m 11 #[.val (.int p0), .val (.long q1), .second, .val (.long q2), .second, .val (.int zl), .unset, .unset, .unset, .unset, .unset, .unset, .unset, .unset, .unset, .unset, .unset, .unset, .unset] [(.ref b10), (.ref b10)])
  refine Done.go (fun _ kt_ => XS.iconst X10h.here hx rfl (hb hby at_11) kt_) ?_
  show Done p e s below _ _ _ T10 (mkF m 12 #[.val (.int p0), .val (.long q1), .second, .val (.long q2), .second, .val (.int zl), .unset, .unset, .unset, .unset, .unset, .unset, .unset, .unset, .unset, .unset, .unset, .unset, .unset] [(.int (0 : Int32)), (.ref b10), (.ref b10)])
  refine Done.go (fun _ kt_ => XS.bipush X10h.here hx rfl (hb hby at_12) kt_) ?_
  show Done p e s below _ _ _ T10 (mkF m 14 #[.val (.int p0), .val (.long q1), .second, .val (.long q2), .second, .val (.int zl), .unset, .unset, .unset, .unset, .unset, .unset, .unset, .unset, .unset, .unset, .unset, .unset, .unset] [(.int (-17 : Int32)), (.int (0 : Int32)), (.ref b10), (.ref b10)])
  obtain ⟨T11, h11, X11, e11, W11, V11, st11⟩ := own_stB X10h hx hZ e10 V10 (j := (0 : Int32)) 0 (by decide) rfl (by omega) (g := (mkF m 14 #[.val (.int p0), .val (.long q1), .second, .val (.long q2), .second, .val (.int zl), .unset, .unset, .unset, .unset, .unset, .unset, .unset, .unset, .unset, .unset, .unset, .unset, .unset] [(.int (-17 : Int32)), (.int (0 : Int32)), (.ref b10), (.ref b10)])) rfl rfl (hb hby at_14)
  have N11 := Fr.snoc X11 N10h gz_b10
  have Z11 : n0 ≤ h11.size := by rw [W11.size]; exact Z10
  obtain ⟨Lh11, X11h, N11h⟩ : ∃ L, Stand p l e room_1 s m #[(.int p0), (.long q1), (.long q2)] below meth c T11 L 1 10 ∧ Fr n0 L := ⟨_, X11, N11⟩
  clear X11 N11 X10h e10 N10h Z10
  refine Done.go st11 ?_
  clear st11
  show Done p e s below _ _ _ T11 (mkF m 15 #[.val (.int p0), .val (.long q1), .second, .val (.long q2), .second, .val (.int zl), .unset, .unset, .unset, .unset, .unset, .unset, .unset, .unset, .unset, .unset, .unset, .unset, .unset] [(.ref b10)])
  refine Done.go (fun _ kt_ => XS.dup X11h.here hx rfl (hb hby at_15) rfl rfl kt_) ?_
  show Done p e s below _ _ _ T11 (mkF m 16 #[.val (.int p0), .val (.long q1), .second, .val (.long q2), .second, .val (.int zl), .unset, .unset, .unset, .unset, .unset, .unset, .unset, .unset, .unset, .unset, .unset, .unset, .unset] [(.ref b10), (.ref b10)])
  refine Done.go (fun _ kt_ => XS.iconst X11h.here hx rfl (hb hby at_16) kt_) ?_
  show Done p e s below _ _ _ T11 (mkF m 17 #[.val (.int p0), .val (.long q1), .second, .val (.long q2), .second, .val (.int zl), .unset, .unset, .unset, .unset, .unset, .unset, .unset, .unset, .unset, .unset, .unset, .unset, .unset] [(.int (1 : Int32)), (.ref b10), (.ref b10)])
  refine Done.go (fun _ kt_ => XS.bipush X11h.here hx rfl (hb hby at_17) kt_) ?_
  show Done p e s below _ _ _ T11 (mkF m 19 #[.val (.int p0), .val (.long q1), .second, .val (.long q2), .second, .val (.int zl), .unset, .unset, .unset, .unset, .unset, .unset, .unset, .unset, .unset, .unset, .unset, .unset, .unset] [(.int (-69 : Int32)), (.int (1 : Int32)), (.ref b10), (.ref b10)])
  obtain ⟨T12, h12, X12, e12, W12, V12, st12⟩ := own_stB X11h hx hZ e11 V11 (j := (1 : Int32)) 1 (by decide) rfl (by omega) (g := (mkF m 19 #[.val (.int p0), .val (.long q1), .second, .val (.long q2), .second, .val (.int zl), .unset, .unset, .unset, .unset, .unset, .unset, .unset, .unset, .unset, .unset, .unset, .unset, .unset] [(.int (-69 : Int32)), (.int (1 : Int32)), (.ref b10), (.ref b10)])) rfl rfl (hb hby at_19)
  have N12 := Fr.snoc X12 N11h gz_b10
  have Z12 : n0 ≤ h12.size := by rw [W12.size]; exact Z11
  obtain ⟨Lh12, X12h, N12h⟩ : ∃ L, Stand p l e room_1 s m #[(.int p0), (.long q1), (.long q2)] below meth c T12 L 1 10 ∧ Fr n0 L := ⟨_, X12, N12⟩
  clear X12 N12 X11h e11 N11h Z11
  refine Done.go st12 ?_
  clear st12
  show Done p e s below _ _ _ T12 (mkF m 20 #[.val (.int p0), .val (.long q1), .second, .val (.long q2), .second, .val (.int zl), .unset, .unset, .unset, .unset, .unset, .unset, .unset, .unset, .unset, .unset, .unset, .unset, .unset] [(.ref b10)])
  refine Done.go (fun _ kt_ => XS.dup X12h.here hx rfl (hb hby at_20) rfl rfl kt_) ?_
  show Done p e s below _ _ _ T12 (mkF m 21 #[.val (.int p0), .val (.long q1), .second, .val (.long q2), .second, .val (.int zl), .unset, .unset, .unset, .unset, .unset, .unset, .unset, .unset, .unset, .unset, .unset, .unset, .unset] [(.ref b10), (.ref b10)])
  refine Done.go (fun _ kt_ => XS.iconst X12h.here hx rfl (hb hby at_21) kt_) ?_
  show Done p e s below _ _ _ T12 (mkF m 22 #[.val (.int p0), .val (.long q1), .second, .val (.long q2), .second, .val (.int zl), .unset, .unset, .unset, .unset, .unset, .unset, .unset, .unset, .unset, .unset, .unset, .unset, .unset] [(.int (2 : Int32)), (.ref b10), (.ref b10)])
  refine Done.go (fun _ kt_ => XS.bipush X12h.here hx rfl (hb hby at_22) kt_) ?_
  show Done p e s below _ _ _ T12 (mkF m 24 #[.val (.int p0), .val (.long q1), .second, .val (.long q2), .second, .val (.int zl), .unset, .unset, .unset, .unset, .unset, .unset, .unset, .unset, .unset, .unset, .unset, .unset, .unset] [(.int (-65 : Int32)), (.int (2 : Int32)), (.ref b10), (.ref b10)])
  obtain ⟨T13, h13, X13, e13, W13, V13, st13⟩ := own_stB X12h hx hZ e12 V12 (j := (2 : Int32)) 2 (by decide) rfl (by omega) (g := (mkF m 24 #[.val (.int p0), .val (.long q1), .second, .val (.long q2), .second, .val (.int zl), .unset, .unset, .unset, .unset, .unset, .unset, .unset, .unset, .unset, .unset, .unset, .unset, .unset] [(.int (-65 : Int32)), (.int (2 : Int32)), (.ref b10), (.ref b10)])) rfl rfl (hb hby at_24)
  have N13 := Fr.snoc X13 N12h gz_b10
  have Z13 : n0 ≤ h13.size := by rw [W13.size]; exact Z12
  obtain ⟨Lh13, X13h, N13h⟩ : ∃ L, Stand p l e room_1 s m #[(.int p0), (.long q1), (.long q2)] below meth c T13 L 1 10 ∧ Fr n0 L := ⟨_, X13, N13⟩
  clear X13 N13 X12h e12 N12h Z12
  refine Done.go st13 ?_
  clear st13
  show Done p e s below _ _ _ T13 (mkF m 25 #[.val (.int p0), .val (.long q1), .second, .val (.long q2), .second, .val (.int zl), .unset, .unset, .unset, .unset, .unset, .unset, .unset, .unset, .unset, .unset, .unset, .unset, .unset] [(.ref b10)])
  refine Done.go (fun _ kt_ => XS.dup X13h.here hx rfl (hb hby at_25) rfl rfl kt_) ?_
  show Done p e s below _ _ _ T13 (mkF m 26 #[.val (.int p0), .val (.long q1), .second, .val (.long q2), .second, .val (.int zl), .unset, .unset, .unset, .unset, .unset, .unset, .unset, .unset, .unset, .unset, .unset, .unset, .unset] [(.ref b10), (.ref b10)])
  refine Done.go (fun _ kt_ => XS.iconst X13h.here hx rfl (hb hby at_26) kt_) ?_
  show Done p e s below _ _ _ T13 (mkF m 27 #[.val (.int p0), .val (.long q1), .second, .val (.long q2), .second, .val (.int zl), .unset, .unset, .unset, .unset, .unset, .unset, .unset, .unset, .unset, .unset, .unset, .unset, .unset] [(.int (3 : Int32)), (.ref b10), (.ref b10)])
  refine Done.go (fun _ kt_ => XS.bipush X13h.here hx rfl (hb hby at_27) kt_) ?_
  show Done p e s below _ _ _ T13 (mkF m 29 #[.val (.int p0), .val (.long q1), .second, .val (.long q2), .second, .val (.int zl), .unset, .unset, .unset, .unset, .unset, .unset, .unset, .unset, .unset, .unset, .unset, .unset, .unset] [(.int (-2 : Int32)), (.int (3 : Int32)), (.ref b10), (.ref b10)])
  obtain ⟨T14, h14, X14, e14, W14, V14, st14⟩ := own_stB X13h hx hZ e13 V13 (j := (3 : Int32)) 3 (by decide) rfl (by omega) (g := (mkF m 29 #[.val (.int p0), .val (.long q1), .second, .val (.long q2), .second, .val (.int zl), .unset, .unset, .unset, .unset, .unset, .unset, .unset, .unset, .unset, .unset, .unset, .unset, .unset] [(.int (-2 : Int32)), (.int (3 : Int32)), (.ref b10), (.ref b10)])) rfl rfl (hb hby at_29)
  have N14 := Fr.snoc X14 N13h gz_b10
  have Z14 : n0 ≤ h14.size := by rw [W14.size]; exact Z13
  obtain ⟨Lh14, X14h, N14h⟩ : ∃ L, Stand p l e room_1 s m #[(.int p0), (.long q1), (.long q2)] below meth c T14 L 1 10 ∧ Fr n0 L := ⟨_, X14, N14⟩
  clear X14 N14 X13h e13 N13h Z13
  refine Done.go st14 ?_
  clear st14
  show Done p e s below _ _ _ T14 (mkF m 30 #[.val (.int p0), .val (.long q1), .second, .val (.long q2), .second, .val (.int zl), .unset, .unset, .unset, .unset, .unset, .unset, .unset, .unset, .unset, .unset, .unset, .unset, .unset] [(.ref b10)])
  refine Done.go (fun _ kt_ => XS.dup X14h.here hx rfl (hb hby at_30) rfl rfl kt_) ?_
  show Done p e s below _ _ _ T14 (mkF m 31 #[.val (.int p0), .val (.long q1), .second, .val (.long q2), .second, .val (.int zl), .unset, .unset, .unset, .unset, .unset, .unset, .unset, .unset, .unset, .unset, .unset, .unset, .unset] [(.ref b10), (.ref b10)])
  refine Done.go (fun _ kt_ => XS.iconst X14h.here hx rfl (hb hby at_31) kt_) ?_
  show Done p e s below _ _ _ T14 (mkF m 32 #[.val (.int p0), .val (.long q1), .second, .val (.long q2), .second, .val (.int zl), .unset, .unset, .unset, .unset, .unset, .unset, .unset, .unset, .unset, .unset, .unset, .unset, .unset] [(.int (4 : Int32)), (.ref b10), (.ref b10)])
  refine Done.go (fun _ kt_ => XS.iconst X14h.here hx rfl (hb hby at_32) kt_) ?_
  show Done p e s below _ _ _ T14 (mkF m 33 #[.val (.int p0), .val (.long q1), .second, .val (.long q2), .second, .val (.int zl), .unset, .unset, .unset, .unset, .unset, .unset, .unset, .unset, .unset, .unset, .unset, .unset, .unset] [(.int (-1 : Int32)), (.int (4 : Int32)), (.ref b10), (.ref b10)])
  obtain ⟨T15, h15, X15, e15, W15, V15, st15⟩ := own_stB X14h hx hZ e14 V14 (j := (4 : Int32)) 4 (by decide) rfl (by omega) (g := (mkF m 33 #[.val (.int p0), .val (.long q1), .second, .val (.long q2), .second, .val (.int zl), .unset, .unset, .unset, .unset, .unset, .unset, .unset, .unset, .unset, .unset, .unset, .unset, .unset] [(.int (-1 : Int32)), (.int (4 : Int32)), (.ref b10), (.ref b10)])) rfl rfl (hb hby at_33)
  have N15 := Fr.snoc X15 N14h gz_b10
  have Z15 : n0 ≤ h15.size := by rw [W15.size]; exact Z14
  obtain ⟨Lh15, X15h, N15h⟩ : ∃ L, Stand p l e room_1 s m #[(.int p0), (.long q1), (.long q2)] below meth c T15 L 1 10 ∧ Fr n0 L := ⟨_, X15, N15⟩
  clear X15 N15 X14h e14 N14h Z14
  refine Done.go st15 ?_
  clear st15
  show Done p e s below _ _ _ T15 (mkF m 34 #[.val (.int p0), .val (.long q1), .second, .val (.long q2), .second, .val (.int zl), .unset, .unset, .unset, .unset, .unset, .unset, .unset, .unset, .unset, .unset, .unset, .unset, .unset] [(.ref b10)])
  refine Done.go (fun _ kt_ => XS.dup X15h.here hx rfl (hb hby at_34) rfl rfl kt_) ?_
  show Done p e s below _ _ _ T15 (mkF m 35 #[.val (.int p0), .val (.long q1), .second, .val (.long q2), .second, .val (.int zl), .unset, .unset, .unset, .unset, .unset, .unset, .unset, .unset, .unset, .unset, .unset, .unset, .unset] [(.ref b10), (.ref b10)])
  refine Done.go (fun _ kt_ => XS.iconst X15h.here hx rfl (hb hby at_35) kt_) ?_
  show Done p e s below _ _ _ T15 (mkF m 36 #[.val (.int p0), .val (.long q1), .second, .val (.long q2), .second, .val (.int zl), .unset, .unset, .unset, .unset, .unset, .unset, .unset, .unset, .unset, .unset, .unset, .unset, .unset] [(.int (5 : Int32)), (.ref b10), (.ref b10)])
  refine Done.go (fun _ kt_ => XS.bipush X15h.here hx rfl (hb hby at_36) kt_) ?_
  show Done p e s below _ _ _ T15 (mkF m 38 #[.val (.int p0), .val (.long q1), .second, .val (.long q2), .second, .val (.int zl), .unset, .unset, .unset, .unset, .unset, .unset, .unset, .unset, .unset, .unset, .unset, .unset, .unset] [(.int (32 : Int32)), (.int (5 : Int32)), (.ref b10), (.ref b10)])
  obtain ⟨T16, h16, X16, e16, W16, V16, st16⟩ := own_stB X15h hx hZ e15 V15 (j := (5 : Int32)) 5 (by decide) rfl (by omega) (g := (mkF m 38 #[.val (.int p0), .val (.long q1), .second, .val (.long q2), .second, .val (.int zl), .unset, .unset, .unset, .unset, .unset, .unset, .unset, .unset, .unset, .unset, .unset, .unset, .unset] [(.int (32 : Int32)), (.int (5 : Int32)), (.ref b10), (.ref b10)])) rfl rfl (hb hby at_38)
  have N16 := Fr.snoc X16 N15h gz_b10
  have Z16 : n0 ≤ h16.size := by rw [W16.size]; exact Z15
  obtain ⟨Lh16, X16h, N16h⟩ : ∃ L, Stand p l e room_1 s m #[(.int p0), (.long q1), (.long q2)] below meth c T16 L 1 10 ∧ Fr n0 L := ⟨_, X16, N16⟩
  clear X16 N16 X15h e15 N15h Z15
  refine Done.go st16 ?_
  clear st16
  show Done p e s below _ _ _ T16 (mkF m 39 #[.val (.int p0), .val (.long q1), .second, .val (.long q2), .second, .val (.int zl), .unset, .unset, .unset, .unset, .unset, .unset, .unset, .unset, .unset, .unset, .unset, .unset, .unset] [(.ref b10)])
  refine Done.go (fun _ kt_ => XS.dup X16h.here hx rfl (hb hby at_39) rfl rfl kt_) ?_
  show Done p e s below _ _ _ T16 (mkF m 40 #[.val (.int p0), .val (.long q1), .second, .val (.long q2), .second, .val (.int zl), .unset, .unset, .unset, .unset, .unset, .unset, .unset, .unset, .unset, .unset, .unset, .unset, .unset] [(.ref b10), (.ref b10)])
  refine Done.go (fun _ kt_ => XS.bipush X16h.here hx rfl (hb hby at_40) kt_) ?_
  show Done p e s below _ _ _ T16 (mkF m 42 #[.val (.int p0), .val (.long q1), .second, .val (.long q2), .second, .val (.int zl), .unset, .unset, .unset, .unset, .unset, .unset, .unset, .unset, .unset, .unset, .unset, .unset, .unset] [(.int (6 : Int32)), (.ref b10), (.ref b10)])
  refine Done.go (fun _ kt_ => XS.bipush X16h.here hx rfl (hb hby at_42) kt_) ?_
  show Done p e s below _ _ _ T16 (mkF m 44 #[.val (.int p0), .val (.long q1), .second, .val (.long q2), .second, .val (.int zl), .unset, .unset, .unset, .unset, .unset, .unset, .unset, .unset, .unset, .unset, .unset, .unset, .unset] [(.int (9 : Int32)), (.int (6 : Int32)), (.ref b10), (.ref b10)])
  obtain ⟨T17, h17, X17, e17, W17, V17, st17⟩ := own_stB X16h hx hZ e16 V16 (j := (6 : Int32)) 6 (by decide) rfl (by omega) (g := (mkF m 44 #[.val (.int p0), .val (.long q1), .second, .val (.long q2), .second, .val (.int zl), .unset, .unset, .unset, .unset, .unset, .unset, .unset, .unset, .unset, .unset, .unset, .unset, .unset] [(.int (9 : Int32)), (.int (6 : Int32)), (.ref b10), (.ref b10)])) rfl rfl (hb hby at_44)
  have N17 := Fr.snoc X17 N16h gz_b10
  have Z17 : n0 ≤ h17.size := by rw [W17.size]; exact Z16
  obtain ⟨Lh17, X17h, N17h⟩ : ∃ L, Stand p l e room_1 s m #[(.int p0), (.long q1), (.long q2)] below meth c T17 L 1 10 ∧ Fr n0 L := ⟨_, X17, N17⟩
  clear X17 N17 X16h e16 N16h Z16
  refine Done.go st17 ?_
  clear st17
  show Done p e s below _ _ _ T17 (mkF m 45 #[.val (.int p0), .val (.long q1), .second, .val (.long q2), .second, .val (.int zl), .unset, .unset, .unset, .unset, .unset, .unset, .unset, .unset, .unset, .unset, .unset, .unset, .unset] [(.ref b10)])
  refine Done.go (fun _ kt_ => XS.dup X17h.here hx rfl (hb hby at_45) rfl rfl kt_) ?_
  show Done p e s below _ _ _ T17 (mkF m 46 #[.val (.int p0), .val (.long q1), .second, .val (.long q2), .second, .val (.int zl), .unset, .unset, .unset, .unset, .unset, .unset, .unset, .unset, .unset, .unset, .unset, .unset, .unset] [(.ref b10), (.ref b10)])
  refine Done.go (fun _ kt_ => XS.bipush X17h.here hx rfl (hb hby at_46) kt_) ?_
  show Done p e s below _ _ _ T17 (mkF m 48 #[.val (.int p0), .val (.long q1), .second, .val (.long q2), .second, .val (.int zl), .unset, .unset, .unset, .unset, .unset, .unset, .unset, .unset, .unset, .unset, .unset, .unset, .unset] [(.int (7 : Int32)), (.ref b10), (.ref b10)])
  refine Done.go (fun _ kt_ => XS.bipush X17h.here hx rfl (hb hby at_48) kt_) ?_
  show Done p e s below _ _ _ T17 (mkF m 50 #[.val (.int p0), .val (.long q1), .second, .val (.long q2), .second, .val (.int zl), .unset, .unset, .unset, .unset, .unset, .unset, .unset, .unset, .unset, .unset, .unset, .unset, .unset] [(.int (13 : Int32)), (.int (7 : Int32)), (.ref b10), (.ref b10)])
  obtain ⟨T18, h18, X18, e18, W18, V18, st18⟩ := own_stB X17h hx hZ e17 V17 (j := (7 : Int32)) 7 (by decide) rfl (by omega) (g := (mkF m 50 #[.val (.int p0), .val (.long q1), .second, .val (.long q2), .second, .val (.int zl), .unset, .unset, .unset, .unset, .unset, .unset, .unset, .unset, .unset, .unset, .unset, .unset, .unset] [(.int (13 : Int32)), (.int (7 : Int32)), (.ref b10), (.ref b10)])) rfl rfl (hb hby at_50)
  have N18 := Fr.snoc X18 N17h gz_b10
  have Z18 : n0 ≤ h18.size := by rw [W18.size]; exact Z17
  obtain ⟨Lh18, X18h, N18h⟩ : ∃ L, Stand p l e room_1 s m #[(.int p0), (.long q1), (.long q2)] below meth c T18 L 1 10 ∧ Fr n0 L := ⟨_, X18, N18⟩
  clear X18 N18 X17h e17 N17h Z17
  refine Done.go st18 ?_
  clear st18
  show Done p e s below _ _ _ T18 (mkF m 51 #[.val (.int p0), .val (.long q1), .second, .val (.long q2), .second, .val (.int zl), .unset, .unset, .unset, .unset, .unset, .unset, .unset, .unset, .unset, .unset, .unset, .unset, .unset] [(.ref b10)])
  refine Done.go (fun _ kt_ => XS.dup X18h.here hx rfl (hb hby at_51) rfl rfl kt_) ?_
  show Done p e s below _ _ _ T18 (mkF m 52 #[.val (.int p0), .val (.long q1), .second, .val (.long q2), .second, .val (.int zl), .unset, .unset, .unset, .unset, .unset, .unset, .unset, .unset, .unset, .unset, .unset, .unset, .unset] [(.ref b10), (.ref b10)])
  refine Done.go (fun _ kt_ => XS.bipush X18h.here hx rfl (hb hby at_52) kt_) ?_
  show Done p e s below _ _ _ T18 (mkF m 54 #[.val (.int p0), .val (.long q1), .second, .val (.long q2), .second, .val (.int zl), .unset, .unset, .unset, .unset, .unset, .unset, .unset, .unset, .unset, .unset, .unset, .unset, .unset] [(.int (8 : Int32)), (.ref b10), (.ref b10)])
  refine Done.go (fun _ kt_ => XS.bipush X18h.here hx rfl (hb hby at_54) kt_) ?_
  show Done p e s below _ _ _ T18 (mkF m 56 #[.val (.int p0), .val (.long q1), .second, .val (.long q2), .second, .val (.int zl), .unset, .unset, .unset, .unset, .unset, .unset, .unset, .unset, .unset, .unset, .unset, .unset, .unset] [(.int (10 : Int32)), (.int (8 : Int32)), (.ref b10), (.ref b10)])
  obtain ⟨T19, h19, X19, e19, W19, V19, st19⟩ := own_stB X18h hx hZ e18 V18 (j := (8 : Int32)) 8 (by decide) rfl (by omega) (g := (mkF m 56 #[.val (.int p0), .val (.long q1), .second, .val (.long q2), .second, .val (.int zl), .unset, .unset, .unset, .unset, .unset, .unset, .unset, .unset, .unset, .unset, .unset, .unset, .unset] [(.int (10 : Int32)), (.int (8 : Int32)), (.ref b10), (.ref b10)])) rfl rfl (hb hby at_56)
  have N19 := Fr.snoc X19 N18h gz_b10
  have Z19 : n0 ≤ h19.size := by rw [W19.size]; exact Z18
  obtain ⟨Lh19, X19h, N19h⟩ : ∃ L, Stand p l e room_1 s m #[(.int p0), (.long q1), (.long q2)] below meth c T19 L 1 10 ∧ Fr n0 L := ⟨_, X19, N19⟩
  clear X19 N19 X18h e18 N18h Z18
  refine Done.go st19 ?_
  clear st19
  show Done p e s below _ _ _ T19 (mkF m 57 #[.val (.int p0), .val (.long q1), .second, .val (.long q2), .second, .val (.int zl), .unset, .unset, .unset, .unset, .unset, .unset, .unset, .unset, .unset, .unset, .unset, .unset, .unset] [(.ref b10)])
  refine Done.go (fun _ kt_ => XS.dup X19h.here hx rfl (hb hby at_57) rfl rfl kt_) ?_
  show Done p e s below _ _ _ T19 (mkF m 58 #[.val (.int p0), .val (.long q1), .second, .val (.long q2), .second, .val (.int zl), .unset, .unset, .unset, .unset, .unset, .unset, .unset, .unset, .unset, .unset, .unset, .unset, .unset] [(.ref b10), (.ref b10)])
  refine Done.go (fun _ kt_ => XS.bipush X19h.here hx rfl (hb hby at_58) kt_) ?_
  show Done p e s below _ _ _ T19 (mkF m 60 #[.val (.int p0), .val (.long q1), .second, .val (.long q2), .second, .val (.int zl), .unset, .unset, .unset, .unset, .unset, .unset, .unset, .unset, .unset, .unset, .unset, .unset, .unset] [(.int (9 : Int32)), (.ref b10), (.ref b10)])
  refine Done.go (fun _ kt_ => XS.bipush X19h.here hx rfl (hb hby at_60) kt_) ?_
  show Done p e s below _ _ _ T19 (mkF m 62 #[.val (.int p0), .val (.long q1), .second, .val (.long q2), .second, .val (.int zl), .unset, .unset, .unset, .unset, .unset, .unset, .unset, .unset, .unset, .unset, .unset, .unset, .unset] [(.int (60 : Int32)), (.int (9 : Int32)), (.ref b10), (.ref b10)])
  obtain ⟨T20, h20, X20, e20, W20, V20, st20⟩ := own_stB X19h hx hZ e19 V19 (j := (9 : Int32)) 9 (by decide) rfl (by omega) (g := (mkF m 62 #[.val (.int p0), .val (.long q1), .second, .val (.long q2), .second, .val (.int zl), .unset, .unset, .unset, .unset, .unset, .unset, .unset, .unset, .unset, .unset, .unset, .unset, .unset] [(.int (60 : Int32)), (.int (9 : Int32)), (.ref b10), (.ref b10)])) rfl rfl (hb hby at_62)
  have N20 := Fr.snoc X20 N19h gz_b10
  have Z20 : n0 ≤ h20.size := by rw [W20.size]; exact Z19
  obtain ⟨Lh20, X20h, N20h⟩ : ∃ L, Stand p l e room_1 s m #[(.int p0), (.long q1), (.long q2)] below meth c T20 L 1 10 ∧ Fr n0 L := ⟨_, X20, N20⟩
  clear X20 N20 X19h e19 N19h Z19
  refine Done.go st20 ?_
  clear st20
  show Done p e s below _ _ _ T20 (mkF m 63 #[.val (.int p0), .val (.long q1), .second, .val (.long q2), .second, .val (.int zl), .unset, .unset, .unset, .unset, .unset, .unset, .unset, .unset, .unset, .unset, .unset, .unset, .unset] [(.ref b10)])
  refine Done.go (fun _ kt_ => XS.astore X20h.here hx rfl (hb hby at_63) rfl rfl (l' := #[.val (.int p0), .val (.long q1), .second, .val (.long q2), .second, .val (.int zl), .val (.ref b10), .unset, .unset, .unset, .unset, .unset, .unset, .unset, .unset, .unset, .unset, .unset, .unset]) rfl kt_) ?_
  show Done p e s below _ _ _ T20 (mkF m 65 #[.val (.int p0), .val (.long q1), .second, .val (.long q2), .second, .val (.int zl), .val (.ref b10), .unset, .unset, .unset, .unset, .unset, .unset, .unset, .unset, .unset, .unset, .unset, .unset] [])
  refine Done.go (fun _ kt_ => XS.bipush X20h.here hx rfl (hb hby at_65) kt_) ?_
  show Done p e s below _ _ _ T20 (mkF m 67 #[.val (.int p0), .val (.long q1), .second, .val (.long q2), .second, .val (.int zl), .val (.ref b10), .unset, .unset, .unset, .unset, .unset, .unset, .unset, .unset, .unset, .unset, .unset, .unset] [(.int (7 : Int32))])
  obtain ⟨T21, h21, k21, X21, e21, E21, A21, st21⟩ := newP X20h hx hZ (hw _ (List.mem_of_getElem? (i := 0) rfl)) e20 (g := (mkF m 67 #[.val (.int p0), .val (.long q1), .second, .val (.long q2), .second, .val (.int zl), .val (.ref b10), .unset, .unset, .unset, .unset, .unset, .unset, .unset, .unset, .unset, .unset, .unset, .unset] [(.int (7 : Int32))])) rfl (hb hby at_67) rfl (by decide) (cap := 7) (by decide) (by decide) (by first | decide | omega) (by first | decide | omega)
  have f22 := (((((((((((M1.ext E10).other W11 ne_m1_b10).other W12 ne_m1_b10).other W13 ne_m1_b10).other W14 ne_m1_b10).other W15 ne_m1_b10).other W16 ne_m1_b10).other W17 ne_m1_b10).other W18 ne_m1_b10).other W19 ne_m1_b10).other W20 ne_m1_b10)
  have f23 := (((((((((((M2.ext E10).other W11 ne_m2_b10).other W12 ne_m2_b10).other W13 ne_m2_b10).other W14 ne_m2_b10).other W15 ne_m2_b10).other W16 ne_m2_b10).other W17 ne_m2_b10).other W18 ne_m2_b10).other W19 ne_m2_b10).other W20 ne_m2_b10)
  have f24 := (((((((((((M3.ext E10).other W11 ne_m3_b10).other W12 ne_m3_b10).other W13 ne_m3_b10).other W14 ne_m3_b10).other W15 ne_m3_b10).other W16 ne_m3_b10).other W17 ne_m3_b10).other W18 ne_m3_b10).other W19 ne_m3_b10).other W20 ne_m3_b10)
  obtain ⟨b21, g21⟩ : ∃ z, z = h20.size := ⟨_, rfl⟩
  rw [← g21] at A21 st21
  have ne_m1_b21 : m1 ≠ b21 := Nat.ne_of_lt (Nat.lt_of_lt_of_le f22.lt (Nat.le_of_eq g21.symm))
  have ne_m2_b21 : m2 ≠ b21 := Nat.ne_of_lt (Nat.lt_of_lt_of_le f23.lt (Nat.le_of_eq g21.symm))
  have ne_m3_b21 : m3 ≠ b21 := Nat.ne_of_lt (Nat.lt_of_lt_of_le f24.lt (Nat.le_of_eq g21.symm))
  have ne_b10_b21 : b10 ≠ b21 := Nat.ne_of_lt (Nat.lt_of_lt_of_le V20.lt (Nat.le_of_eq g21.symm))
  have gz_b21 : n0 ≤ b21 := Nat.le_trans Z20 (Nat.le_of_eq g21.symm)
  have Z21 : n0 ≤ h21.size := Nat.le_trans Z20 E21.1
  obtain ⟨Lh21, X21h, N21h⟩ : ∃ L, Stand p l e room_1 s m #[(.int p0), (.long q1), (.long q2)] below meth c T21 L 2 17 ∧ Fr n0 L := ⟨_, X21, N20h⟩
  clear X21 N20h X20h e20 Z20
  have V21 := Ari.new A21 (by decide) (n := 7) rfl rfl
  refine Done.go st21 ?_
  clear st21
  show Done p e s below _ _ _ T21 (mkF m 69 #[.val (.int p0), .val (.long q1), .second, .val (.long q2), .second, .val (.int zl), .val (.ref b10), .unset, .unset, .unset, .unset, .unset, .unset, .unset, .unset, .unset, .unset, .unset, .unset] [(.ref b21)])
  refine Done.go (fun _ kt_ => XS.astore X21h.here hx rfl (hb hby at_69) rfl rfl (l' := #[.val (.int p0), .val (.long q1), .second, .val (.long q2), .second, .val (.int zl), .val (.ref b10), .val (.ref b21), .unset, .unset, .unset, .unset, .unset, .unset, .unset, .unset, .unset, .unset, .unset]) rfl kt_) ?_
  show Done p e s below _ _ _ T21 (mkF m 71 #[.val (.int p0), .val (.long q1), .second, .val (.long q2), .second, .val (.int zl), .val (.ref b10), .val (.ref b21), .unset, .unset, .unset, .unset, .unset, .unset, .unset, .unset, .unset, .unset, .unset] [])
  refine Done.go (fun _ kt_ => XS.aload X21h.here hx rfl (hb hby at_71) rfl rfl kt_) ?_
  show Done p e s below _ _ _ T21 (mkF m 73 #[.val (.int p0), .val (.long q1), .second, .val (.long q2), .second, .val (.int zl), .val (.ref b10), .val (.ref b21), .unset, .unset, .unset, .unset, .unset, .unset, .unset, .unset, .unset, .unset, .unset] [(.ref b21)])
  refine Done.go (fun _ kt_ => XS.iconst X21h.here hx rfl (hb hby at_73) kt_) ?_
  show Done p e s below _ _ _ T21 (mkF m 74 #[.val (.int p0), .val (.long q1), .second, .val (.long q2), .second, .val (.int zl), .val (.ref b10), .val (.ref b21), .unset, .unset, .unset, .unset, .unset, .unset, .unset, .unset, .unset, .unset, .unset] [(.int (0 : Int32)), (.ref b21)])
  refine Done.go (fun _ kt_ => XS.aload X21h.here hx rfl (hb hby at_74) rfl rfl kt_) ?_
  show Done p e s below _ _ _ T21 (mkF m 76 #[.val (.int p0), .val (.long q1), .second, .val (.long q2), .second, .val (.int zl), .val (.ref b10), .val (.ref b21), .unset, .unset, .unset, .unset, .unset, .unset, .unset, .unset, .unset, .unset, .unset] [(.ref b10), (.int (0 : Int32)), (.ref b21)])
  refine Done.go (fun _ kt_ => XS.lloadN X21h.here hx rfl (hb hby at_76) rfl kt_) ?_
  show Done p e s below _ _ _ T21 (mkF m 77 #[.val (.int p0), .val (.long q1), .second, .val (.long q2), .second, .val (.int zl), .val (.ref b10), .val (.ref b21), .unset, .unset, .unset, .unset, .unset, .unset, .unset, .unset, .unset, .unset, .unset] [(.long q1), (.ref b10), (.int (0 : Int32)), (.ref b21)])
  refine Done.go (fun _ kt_ => XS.lloadN X21h.here hx rfl (hb hby at_77) rfl kt_) ?_
  show Done p e s below _ _ _ T21 (mkF m 78 #[.val (.int p0), .val (.long q1), .second, .val (.long q2), .second, .val (.int zl), .val (.ref b10), .val (.ref b21), .unset, .unset, .unset, .unset, .unset, .unset, .unset, .unset, .unset, .unset, .unset] [(.long q2), (.long q1), (.ref b10), (.int (0 : Int32)), (.ref b21)])
  refine Done.go (fun _ kt_ => XS.iconst X21h.here hx rfl (hb hby at_78) kt_) ?_
  show Done p e s below _ _ _ T21 (mkF m 79 #[.val (.int p0), .val (.long q1), .second, .val (.long q2), .second, .val (.int zl), .val (.ref b10), .val (.ref b21), .unset, .unset, .unset, .unset, .unset, .unset, .unset, .unset, .unset, .unset, .unset] [(.int (0 : Int32)), (.long q2), (.long q1), (.ref b10), (.int (0 : Int32)), (.ref b21)])
  have f25 := (V20.ext E21)
  obtain ⟨v26, T26, Lc26, X26, hQ26, st26⟩ := own_backG (Jvm.LawKit.callS X21h hx (y := (⟨"spinecode/xml/XmlInputRecognisesPinLaw", "draw", "([BJJI)B"⟩ : MethodName)) hown (mvT hZ (hw _ (List.mem_of_getElem? (i := 1) rfl))) (mvT hZ (hw _ (List.mem_of_getElem? (i := 2) rfl))) (mvT hZ (hw _ (List.mem_of_getElem? (i := 3) rfl))) (mvT hZ (hw _ (List.mem_of_getElem? (i := 4) rfl))) (by decide) (backOf (W := 2) (rm1 l Z a0 hw [] b10 q1 q2 (0 : Int32) _ h21 n0 Z21 f25) hZ (hw _ (List.mem_of_getElem? (i := 4) rfl)) (hw _ (List.mem_of_getElem? (i := 3) rfl)) (by decide) (by decide)) (g := (mkF m 79 #[.val (.int p0), .val (.long q1), .second, .val (.long q2), .second, .val (.int zl), .val (.ref b10), .val (.ref b21), .unset, .unset, .unset, .unset, .unset, .unset, .unset, .unset, .unset, .unset, .unset] [(.int (0 : Int32)), (.long q2), (.long q1), (.ref b10), (.int (0 : Int32)), (.ref b21)])) rfl (by rw [hml]; rfl) (argsL := [(.ref b10), (.long q1), (.long q2), (.int (0 : Int32))]) (rest := [(.int (0 : Int32)), (.ref b21)]) (lenOf own_pd3 rfl) rfl (by show 2 * 0 + _ ≤ _; exact Nat.le_of_eq rfl) (hb hby at_79) (fun _ _ => ⟨rfl, e21, (by first | decide | omega : 2 + 0 ≤ _), (by first | decide | omega : 17 + 0 ≤ _)⟩))
  obtain ⟨v0, rfl, hv0, N26q, e26⟩ := hQ26
  refine Done.go st26 ?_
  clear st26
  have N26 := Fr.app N21h N26q
  clear N26q
  obtain ⟨Lh26, X26h, N26h⟩ : ∃ L, Stand p l e room_1 s m #[(.int p0), (.long q1), (.long q2)] below meth c T26 L 2 17 ∧ Fr n0 L := ⟨_, X26, N26⟩
  clear X26 N26 X21h e21 N21h
  show Done p e s below _ _ _ T26 (mkF m 82 #[.val (.int p0), .val (.long q1), .second, .val (.long q2), .second, .val (.int zl), .val (.ref b10), .val (.ref b21), .unset, .unset, .unset, .unset, .unset, .unset, .unset, .unset, .unset, .unset, .unset] [(.int v0), (.int (0 : Int32)), (.ref b21)])
  obtain ⟨T27, h27, X27, e27, W27, V27, st27⟩ := own_stB X26h hx hZ e26 V21 (j := (0 : Int32)) 0 (by decide) rfl (by omega) (g := (mkF m 82 #[.val (.int p0), .val (.long q1), .second, .val (.long q2), .second, .val (.int zl), .val (.ref b10), .val (.ref b21), .unset, .unset, .unset, .unset, .unset, .unset, .unset, .unset, .unset, .unset, .unset] [(.int v0), (.int (0 : Int32)), (.ref b21)])) rfl rfl (hb hby at_82)
  have N27 := Fr.snoc X27 N26h gz_b21
  have Z27 : n0 ≤ h27.size := by rw [W27.size]; exact Z21
  obtain ⟨Lh27, X27h, N27h⟩ : ∃ L, Stand p l e room_1 s m #[(.int p0), (.long q1), (.long q2)] below meth c T27 L 2 17 ∧ Fr n0 L := ⟨_, X27, N27⟩
  clear X27 N27 X26h e26 N26h Z21
  refine Done.go st27 ?_
  clear st27
  show Done p e s below _ _ _ T27 (mkF m 83 #[.val (.int p0), .val (.long q1), .second, .val (.long q2), .second, .val (.int zl), .val (.ref b10), .val (.ref b21), .unset, .unset, .unset, .unset, .unset, .unset, .unset, .unset, .unset, .unset, .unset] [])
  refine Done.go (fun _ kt_ => XS.aload X27h.here hx rfl (hb hby at_83) rfl rfl kt_) ?_
  show Done p e s below _ _ _ T27 (mkF m 85 #[.val (.int p0), .val (.long q1), .second, .val (.long q2), .second, .val (.int zl), .val (.ref b10), .val (.ref b21), .unset, .unset, .unset, .unset, .unset, .unset, .unset, .unset, .unset, .unset, .unset] [(.ref b21)])
  refine Done.go (fun _ kt_ => XS.iconst X27h.here hx rfl (hb hby at_85) kt_) ?_
  show Done p e s below _ _ _ T27 (mkF m 86 #[.val (.int p0), .val (.long q1), .second, .val (.long q2), .second, .val (.int zl), .val (.ref b10), .val (.ref b21), .unset, .unset, .unset, .unset, .unset, .unset, .unset, .unset, .unset, .unset, .unset] [(.int (1 : Int32)), (.ref b21)])
  refine Done.go (fun _ kt_ => XS.aload X27h.here hx rfl (hb hby at_86) rfl rfl kt_) ?_
  show Done p e s below _ _ _ T27 (mkF m 88 #[.val (.int p0), .val (.long q1), .second, .val (.long q2), .second, .val (.int zl), .val (.ref b10), .val (.ref b21), .unset, .unset, .unset, .unset, .unset, .unset, .unset, .unset, .unset, .unset, .unset] [(.ref b10), (.int (1 : Int32)), (.ref b21)])
  refine Done.go (fun _ kt_ => XS.lloadN X27h.here hx rfl (hb hby at_88) rfl kt_) ?_
  show Done p e s below _ _ _ T27 (mkF m 89 #[.val (.int p0), .val (.long q1), .second, .val (.long q2), .second, .val (.int zl), .val (.ref b10), .val (.ref b21), .unset, .unset, .unset, .unset, .unset, .unset, .unset, .unset, .unset, .unset, .unset] [(.long q1), (.ref b10), (.int (1 : Int32)), (.ref b21)])
  refine Done.go (fun _ kt_ => XS.lloadN X27h.here hx rfl (hb hby at_89) rfl kt_) ?_
  show Done p e s below _ _ _ T27 (mkF m 90 #[.val (.int p0), .val (.long q1), .second, .val (.long q2), .second, .val (.int zl), .val (.ref b10), .val (.ref b21), .unset, .unset, .unset, .unset, .unset, .unset, .unset, .unset, .unset, .unset, .unset] [(.long q2), (.long q1), (.ref b10), (.int (1 : Int32)), (.ref b21)])
  refine Done.go (fun _ kt_ => XS.iconst X27h.here hx rfl (hb hby at_90) kt_) ?_
  show Done p e s below _ _ _ T27 (mkF m 91 #[.val (.int p0), .val (.long q1), .second, .val (.long q2), .second, .val (.int zl), .val (.ref b10), .val (.ref b21), .unset, .unset, .unset, .unset, .unset, .unset, .unset, .unset, .unset, .unset, .unset] [(.int (1 : Int32)), (.long q2), (.long q1), (.ref b10), (.int (1 : Int32)), (.ref b21)])
  have f28 := (f25.other W27 ne_b10_b21)
  obtain ⟨v29, T29, Lc29, X29, hQ29, st29⟩ := own_backG (Jvm.LawKit.callS X27h hx (y := (⟨"spinecode/xml/XmlInputRecognisesPinLaw", "draw", "([BJJI)B"⟩ : MethodName)) hown (mvT hZ (hw _ (List.mem_of_getElem? (i := 1) rfl))) (mvT hZ (hw _ (List.mem_of_getElem? (i := 2) rfl))) (mvT hZ (hw _ (List.mem_of_getElem? (i := 3) rfl))) (mvT hZ (hw _ (List.mem_of_getElem? (i := 4) rfl))) (by decide) (backOf (W := 2) (rm1 l Z a0 hw [] b10 q1 q2 (1 : Int32) _ h27 n0 Z27 f28) hZ (hw _ (List.mem_of_getElem? (i := 4) rfl)) (hw _ (List.mem_of_getElem? (i := 3) rfl)) (by decide) (by decide)) (g := (mkF m 91 #[.val (.int p0), .val (.long q1), .second, .val (.long q2), .second, .val (.int zl), .val (.ref b10), .val (.ref b21), .unset, .unset, .unset, .unset, .unset, .unset, .unset, .unset, .unset, .unset, .unset] [(.int (1 : Int32)), (.long q2), (.long q1), (.ref b10), (.int (1 : Int32)), (.ref b21)])) rfl (by rw [hml]; rfl) (argsL := [(.ref b10), (.long q1), (.long q2), (.int (1 : Int32))]) (rest := [(.int (1 : Int32)), (.ref b21)]) (lenOf own_pd3 rfl) rfl (by show 2 * 0 + _ ≤ _; exact Nat.le_of_eq rfl) (hb hby at_91) (fun _ _ => ⟨rfl, e27, (by first | decide | omega : 2 + 0 ≤ _), (by first | decide | omega : 17 + 0 ≤ _)⟩))
  obtain ⟨v1, rfl, hv1, N29q, e29⟩ := hQ29
  refine Done.go st29 ?_
  clear st29
  have N29 := Fr.app N27h N29q
  clear N29q
  obtain ⟨Lh29, X29h, N29h⟩ : ∃ L, Stand p l e room_1 s m #[(.int p0), (.long q1), (.long q2)] below meth c T29 L 2 17 ∧ Fr n0 L := ⟨_, X29, N29⟩
  clear X29 N29 X27h e27 N27h
  show Done p e s below _ _ _ T29 (mkF m 94 #[.val (.int p0), .val (.long q1), .second, .val (.long q2), .second, .val (.int zl), .val (.ref b10), .val (.ref b21), .unset, .unset, .unset, .unset, .unset, .unset, .unset, .unset, .unset, .unset, .unset] [(.int v1), (.int (1 : Int32)), (.ref b21)])
  obtain ⟨T30, h30, X30, e30, W30, V30, st30⟩ := own_stB X29h hx hZ e29 V27 (j := (1 : Int32)) 1 (by decide) rfl (by omega) (g := (mkF m 94 #[.val (.int p0), .val (.long q1), .second, .val (.long q2), .second, .val (.int zl), .val (.ref b10), .val (.ref b21), .unset, .unset, .unset, .unset, .unset, .unset, .unset, .unset, .unset, .unset, .unset] [(.int v1), (.int (1 : Int32)), (.ref b21)])) rfl rfl (hb hby at_94)
  have N30 := Fr.snoc X30 N29h gz_b21
  have Z30 : n0 ≤ h30.size := by rw [W30.size]; exact Z27
  obtain ⟨Lh30, X30h, N30h⟩ : ∃ L, Stand p l e room_1 s m #[(.int p0), (.long q1), (.long q2)] below meth c T30 L 2 17 ∧ Fr n0 L := ⟨_, X30, N30⟩
  clear X30 N30 X29h e29 N29h Z27
  refine Done.go st30 ?_
  clear st30
  show Done p e s below _ _ _ T30 (mkF m 95 #[.val (.int p0), .val (.long q1), .second, .val (.long q2), .second, .val (.int zl), .val (.ref b10), .val (.ref b21), .unset, .unset, .unset, .unset, .unset, .unset, .unset, .unset, .unset, .unset, .unset] [])
  refine Done.go (fun _ kt_ => XS.aload X30h.here hx rfl (hb hby at_95) rfl rfl kt_) ?_
  show Done p e s below _ _ _ T30 (mkF m 97 #[.val (.int p0), .val (.long q1), .second, .val (.long q2), .second, .val (.int zl), .val (.ref b10), .val (.ref b21), .unset, .unset, .unset, .unset, .unset, .unset, .unset, .unset, .unset, .unset, .unset] [(.ref b21)])
  refine Done.go (fun _ kt_ => XS.iconst X30h.here hx rfl (hb hby at_97) kt_) ?_
  show Done p e s below _ _ _ T30 (mkF m 98 #[.val (.int p0), .val (.long q1), .second, .val (.long q2), .second, .val (.int zl), .val (.ref b10), .val (.ref b21), .unset, .unset, .unset, .unset, .unset, .unset, .unset, .unset, .unset, .unset, .unset] [(.int (2 : Int32)), (.ref b21)])
  refine Done.go (fun _ kt_ => XS.aload X30h.here hx rfl (hb hby at_98) rfl rfl kt_) ?_
  show Done p e s below _ _ _ T30 (mkF m 100 #[.val (.int p0), .val (.long q1), .second, .val (.long q2), .second, .val (.int zl), .val (.ref b10), .val (.ref b21), .unset, .unset, .unset, .unset, .unset, .unset, .unset, .unset, .unset, .unset, .unset] [(.ref b10), (.int (2 : Int32)), (.ref b21)])
  refine Done.go (fun _ kt_ => XS.lloadN X30h.here hx rfl (hb hby at_100) rfl kt_) ?_
  show Done p e s below _ _ _ T30 (mkF m 101 #[.val (.int p0), .val (.long q1), .second, .val (.long q2), .second, .val (.int zl), .val (.ref b10), .val (.ref b21), .unset, .unset, .unset, .unset, .unset, .unset, .unset, .unset, .unset, .unset, .unset] [(.long q1), (.ref b10), (.int (2 : Int32)), (.ref b21)])
  refine Done.go (fun _ kt_ => XS.lloadN X30h.here hx rfl (hb hby at_101) rfl kt_) ?_
  show Done p e s below _ _ _ T30 (mkF m 102 #[.val (.int p0), .val (.long q1), .second, .val (.long q2), .second, .val (.int zl), .val (.ref b10), .val (.ref b21), .unset, .unset, .unset, .unset, .unset, .unset, .unset, .unset, .unset, .unset, .unset] [(.long q2), (.long q1), (.ref b10), (.int (2 : Int32)), (.ref b21)])
  refine Done.go (fun _ kt_ => XS.iconst X30h.here hx rfl (hb hby at_102) kt_) ?_
  show Done p e s below _ _ _ T30 (mkF m 103 #[.val (.int p0), .val (.long q1), .second, .val (.long q2), .second, .val (.int zl), .val (.ref b10), .val (.ref b21), .unset, .unset, .unset, .unset, .unset, .unset, .unset, .unset, .unset, .unset, .unset] [(.int (2 : Int32)), (.long q2), (.long q1), (.ref b10), (.int (2 : Int32)), (.ref b21)])
  have f31 := (f28.other W30 ne_b10_b21)
  obtain ⟨v32, T32, Lc32, X32, hQ32, st32⟩ := own_backG (Jvm.LawKit.callS X30h hx (y := (⟨"spinecode/xml/XmlInputRecognisesPinLaw", "draw", "([BJJI)B"⟩ : MethodName)) hown (mvT hZ (hw _ (List.mem_of_getElem? (i := 1) rfl))) (mvT hZ (hw _ (List.mem_of_getElem? (i := 2) rfl))) (mvT hZ (hw _ (List.mem_of_getElem? (i := 3) rfl))) (mvT hZ (hw _ (List.mem_of_getElem? (i := 4) rfl))) (by decide) (backOf (W := 2) (rm1 l Z a0 hw [] b10 q1 q2 (2 : Int32) _ h30 n0 Z30 f31) hZ (hw _ (List.mem_of_getElem? (i := 4) rfl)) (hw _ (List.mem_of_getElem? (i := 3) rfl)) (by decide) (by decide)) (g := (mkF m 103 #[.val (.int p0), .val (.long q1), .second, .val (.long q2), .second, .val (.int zl), .val (.ref b10), .val (.ref b21), .unset, .unset, .unset, .unset, .unset, .unset, .unset, .unset, .unset, .unset, .unset] [(.int (2 : Int32)), (.long q2), (.long q1), (.ref b10), (.int (2 : Int32)), (.ref b21)])) rfl (by rw [hml]; rfl) (argsL := [(.ref b10), (.long q1), (.long q2), (.int (2 : Int32))]) (rest := [(.int (2 : Int32)), (.ref b21)]) (lenOf own_pd3 rfl) rfl (by show 2 * 0 + _ ≤ _; exact Nat.le_of_eq rfl) (hb hby at_103) (fun _ _ => ⟨rfl, e30, (by first | decide | omega : 2 + 0 ≤ _), (by first | decide | omega : 17 + 0 ≤ _)⟩))
  obtain ⟨v2, rfl, hv2, N32q, e32⟩ := hQ32
  refine Done.go st32 ?_
  clear st32
  have N32 := Fr.app N30h N32q
  clear N32q
  obtain ⟨Lh32, X32h, N32h⟩ : ∃ L, Stand p l e room_1 s m #[(.int p0), (.long q1), (.long q2)] below meth c T32 L 2 17 ∧ Fr n0 L := ⟨_, X32, N32⟩
  clear X32 N32 X30h e30 N30h
  show Done p e s below _ _ _ T32 (mkF m 106 #[.val (.int p0), .val (.long q1), .second, .val (.long q2), .second, .val (.int zl), .val (.ref b10), .val (.ref b21), .unset, .unset, .unset, .unset, .unset, .unset, .unset, .unset, .unset, .unset, .unset] [(.int v2), (.int (2 : Int32)), (.ref b21)])
  obtain ⟨T33, h33, X33, e33, W33, V33, st33⟩ := own_stB X32h hx hZ e32 V30 (j := (2 : Int32)) 2 (by decide) rfl (by omega) (g := (mkF m 106 #[.val (.int p0), .val (.long q1), .second, .val (.long q2), .second, .val (.int zl), .val (.ref b10), .val (.ref b21), .unset, .unset, .unset, .unset, .unset, .unset, .unset, .unset, .unset, .unset, .unset] [(.int v2), (.int (2 : Int32)), (.ref b21)])) rfl rfl (hb hby at_106)
  have N33 := Fr.snoc X33 N32h gz_b21
  have Z33 : n0 ≤ h33.size := by rw [W33.size]; exact Z30
  obtain ⟨Lh33, X33h, N33h⟩ : ∃ L, Stand p l e room_1 s m #[(.int p0), (.long q1), (.long q2)] below meth c T33 L 2 17 ∧ Fr n0 L := ⟨_, X33, N33⟩
  clear X33 N33 X32h e32 N32h Z30
  refine Done.go st33 ?_
  clear st33
  show Done p e s below _ _ _ T33 (mkF m 107 #[.val (.int p0), .val (.long q1), .second, .val (.long q2), .second, .val (.int zl), .val (.ref b10), .val (.ref b21), .unset, .unset, .unset, .unset, .unset, .unset, .unset, .unset, .unset, .unset, .unset] [])
  refine Done.go (fun _ kt_ => XS.aload X33h.here hx rfl (hb hby at_107) rfl rfl kt_) ?_
  show Done p e s below _ _ _ T33 (mkF m 109 #[.val (.int p0), .val (.long q1), .second, .val (.long q2), .second, .val (.int zl), .val (.ref b10), .val (.ref b21), .unset, .unset, .unset, .unset, .unset, .unset, .unset, .unset, .unset, .unset, .unset] [(.ref b21)])
  refine Done.go (fun _ kt_ => XS.iconst X33h.here hx rfl (hb hby at_109) kt_) ?_
  show Done p e s below _ _ _ T33 (mkF m 110 #[.val (.int p0), .val (.long q1), .second, .val (.long q2), .second, .val (.int zl), .val (.ref b10), .val (.ref b21), .unset, .unset, .unset, .unset, .unset, .unset, .unset, .unset, .unset, .unset, .unset] [(.int (3 : Int32)), (.ref b21)])
  refine Done.go (fun _ kt_ => XS.aload X33h.here hx rfl (hb hby at_110) rfl rfl kt_) ?_
  show Done p e s below _ _ _ T33 (mkF m 112 #[.val (.int p0), .val (.long q1), .second, .val (.long q2), .second, .val (.int zl), .val (.ref b10), .val (.ref b21), .unset, .unset, .unset, .unset, .unset, .unset, .unset, .unset, .unset, .unset, .unset] [(.ref b10), (.int (3 : Int32)), (.ref b21)])
  refine Done.go (fun _ kt_ => XS.lloadN X33h.here hx rfl (hb hby at_112) rfl kt_) ?_
  show Done p e s below _ _ _ T33 (mkF m 113 #[.val (.int p0), .val (.long q1), .second, .val (.long q2), .second, .val (.int zl), .val (.ref b10), .val (.ref b21), .unset, .unset, .unset, .unset, .unset, .unset, .unset, .unset, .unset, .unset, .unset] [(.long q1), (.ref b10), (.int (3 : Int32)), (.ref b21)])
  refine Done.go (fun _ kt_ => XS.lloadN X33h.here hx rfl (hb hby at_113) rfl kt_) ?_
  show Done p e s below _ _ _ T33 (mkF m 114 #[.val (.int p0), .val (.long q1), .second, .val (.long q2), .second, .val (.int zl), .val (.ref b10), .val (.ref b21), .unset, .unset, .unset, .unset, .unset, .unset, .unset, .unset, .unset, .unset, .unset] [(.long q2), (.long q1), (.ref b10), (.int (3 : Int32)), (.ref b21)])
  refine Done.go (fun _ kt_ => XS.iconst X33h.here hx rfl (hb hby at_114) kt_) ?_
  show Done p e s below _ _ _ T33 (mkF m 115 #[.val (.int p0), .val (.long q1), .second, .val (.long q2), .second, .val (.int zl), .val (.ref b10), .val (.ref b21), .unset, .unset, .unset, .unset, .unset, .unset, .unset, .unset, .unset, .unset, .unset] [(.int (3 : Int32)), (.long q2), (.long q1), (.ref b10), (.int (3 : Int32)), (.ref b21)])
  have f34 := (f31.other W33 ne_b10_b21)
  obtain ⟨v35, T35, Lc35, X35, hQ35, st35⟩ := own_backG (Jvm.LawKit.callS X33h hx (y := (⟨"spinecode/xml/XmlInputRecognisesPinLaw", "draw", "([BJJI)B"⟩ : MethodName)) hown (mvT hZ (hw _ (List.mem_of_getElem? (i := 1) rfl))) (mvT hZ (hw _ (List.mem_of_getElem? (i := 2) rfl))) (mvT hZ (hw _ (List.mem_of_getElem? (i := 3) rfl))) (mvT hZ (hw _ (List.mem_of_getElem? (i := 4) rfl))) (by decide) (backOf (W := 2) (rm1 l Z a0 hw [] b10 q1 q2 (3 : Int32) _ h33 n0 Z33 f34) hZ (hw _ (List.mem_of_getElem? (i := 4) rfl)) (hw _ (List.mem_of_getElem? (i := 3) rfl)) (by decide) (by decide)) (g := (mkF m 115 #[.val (.int p0), .val (.long q1), .second, .val (.long q2), .second, .val (.int zl), .val (.ref b10), .val (.ref b21), .unset, .unset, .unset, .unset, .unset, .unset, .unset, .unset, .unset, .unset, .unset] [(.int (3 : Int32)), (.long q2), (.long q1), (.ref b10), (.int (3 : Int32)), (.ref b21)])) rfl (by rw [hml]; rfl) (argsL := [(.ref b10), (.long q1), (.long q2), (.int (3 : Int32))]) (rest := [(.int (3 : Int32)), (.ref b21)]) (lenOf own_pd3 rfl) rfl (by show 2 * 0 + _ ≤ _; exact Nat.le_of_eq rfl) (hb hby at_115) (fun _ _ => ⟨rfl, e33, (by first | decide | omega : 2 + 0 ≤ _), (by first | decide | omega : 17 + 0 ≤ _)⟩))
  obtain ⟨v3, rfl, hv3, N35q, e35⟩ := hQ35
  refine Done.go st35 ?_
  clear st35
  have N35 := Fr.app N33h N35q
  clear N35q
  obtain ⟨Lh35, X35h, N35h⟩ : ∃ L, Stand p l e room_1 s m #[(.int p0), (.long q1), (.long q2)] below meth c T35 L 2 17 ∧ Fr n0 L := ⟨_, X35, N35⟩
  clear X35 N35 X33h e33 N33h
  show Done p e s below _ _ _ T35 (mkF m 118 #[.val (.int p0), .val (.long q1), .second, .val (.long q2), .second, .val (.int zl), .val (.ref b10), .val (.ref b21), .unset, .unset, .unset, .unset, .unset, .unset, .unset, .unset, .unset, .unset, .unset] [(.int v3), (.int (3 : Int32)), (.ref b21)])
  obtain ⟨T36, h36, X36, e36, W36, V36, st36⟩ := own_stB X35h hx hZ e35 V33 (j := (3 : Int32)) 3 (by decide) rfl (by omega) (g := (mkF m 118 #[.val (.int p0), .val (.long q1), .second, .val (.long q2), .second, .val (.int zl), .val (.ref b10), .val (.ref b21), .unset, .unset, .unset, .unset, .unset, .unset, .unset, .unset, .unset, .unset, .unset] [(.int v3), (.int (3 : Int32)), (.ref b21)])) rfl rfl (hb hby at_118)
  have N36 := Fr.snoc X36 N35h gz_b21
  have Z36 : n0 ≤ h36.size := by rw [W36.size]; exact Z33
  obtain ⟨Lh36, X36h, N36h⟩ : ∃ L, Stand p l e room_1 s m #[(.int p0), (.long q1), (.long q2)] below meth c T36 L 2 17 ∧ Fr n0 L := ⟨_, X36, N36⟩
  clear X36 N36 X35h e35 N35h Z33
  refine Done.go st36 ?_
  clear st36
  show Done p e s below _ _ _ T36 (mkF m 119 #[.val (.int p0), .val (.long q1), .second, .val (.long q2), .second, .val (.int zl), .val (.ref b10), .val (.ref b21), .unset, .unset, .unset, .unset, .unset, .unset, .unset, .unset, .unset, .unset, .unset] [])
  refine Done.go (fun _ kt_ => XS.aload X36h.here hx rfl (hb hby at_119) rfl rfl kt_) ?_
  show Done p e s below _ _ _ T36 (mkF m 121 #[.val (.int p0), .val (.long q1), .second, .val (.long q2), .second, .val (.int zl), .val (.ref b10), .val (.ref b21), .unset, .unset, .unset, .unset, .unset, .unset, .unset, .unset, .unset, .unset, .unset] [(.ref b21)])
  refine Done.go (fun _ kt_ => XS.iconst X36h.here hx rfl (hb hby at_121) kt_) ?_
  show Done p e s below _ _ _ T36 (mkF m 122 #[.val (.int p0), .val (.long q1), .second, .val (.long q2), .second, .val (.int zl), .val (.ref b10), .val (.ref b21), .unset, .unset, .unset, .unset, .unset, .unset, .unset, .unset, .unset, .unset, .unset] [(.int (4 : Int32)), (.ref b21)])
  refine Done.go (fun _ kt_ => XS.aload X36h.here hx rfl (hb hby at_122) rfl rfl kt_) ?_
  show Done p e s below _ _ _ T36 (mkF m 124 #[.val (.int p0), .val (.long q1), .second, .val (.long q2), .second, .val (.int zl), .val (.ref b10), .val (.ref b21), .unset, .unset, .unset, .unset, .unset, .unset, .unset, .unset, .unset, .unset, .unset] [(.ref b10), (.int (4 : Int32)), (.ref b21)])
  refine Done.go (fun _ kt_ => XS.lloadN X36h.here hx rfl (hb hby at_124) rfl kt_) ?_
  show Done p e s below _ _ _ T36 (mkF m 125 #[.val (.int p0), .val (.long q1), .second, .val (.long q2), .second, .val (.int zl), .val (.ref b10), .val (.ref b21), .unset, .unset, .unset, .unset, .unset, .unset, .unset, .unset, .unset, .unset, .unset] [(.long q1), (.ref b10), (.int (4 : Int32)), (.ref b21)])
  refine Done.go (fun _ kt_ => XS.lloadN X36h.here hx rfl (hb hby at_125) rfl kt_) ?_
  show Done p e s below _ _ _ T36 (mkF m 126 #[.val (.int p0), .val (.long q1), .second, .val (.long q2), .second, .val (.int zl), .val (.ref b10), .val (.ref b21), .unset, .unset, .unset, .unset, .unset, .unset, .unset, .unset, .unset, .unset, .unset] [(.long q2), (.long q1), (.ref b10), (.int (4 : Int32)), (.ref b21)])
  refine Done.go (fun _ kt_ => XS.iconst X36h.here hx rfl (hb hby at_126) kt_) ?_
  show Done p e s below _ _ _ T36 (mkF m 127 #[.val (.int p0), .val (.long q1), .second, .val (.long q2), .second, .val (.int zl), .val (.ref b10), .val (.ref b21), .unset, .unset, .unset, .unset, .unset, .unset, .unset, .unset, .unset, .unset, .unset] [(.int (4 : Int32)), (.long q2), (.long q1), (.ref b10), (.int (4 : Int32)), (.ref b21)])
  have f37 := (f34.other W36 ne_b10_b21)
  obtain ⟨v38, T38, Lc38, X38, hQ38, st38⟩ := own_backG (Jvm.LawKit.callS X36h hx (y := (⟨"spinecode/xml/XmlInputRecognisesPinLaw", "draw", "([BJJI)B"⟩ : MethodName)) hown (mvT hZ (hw _ (List.mem_of_getElem? (i := 1) rfl))) (mvT hZ (hw _ (List.mem_of_getElem? (i := 2) rfl))) (mvT hZ (hw _ (List.mem_of_getElem? (i := 3) rfl))) (mvT hZ (hw _ (List.mem_of_getElem? (i := 4) rfl))) (by decide) (backOf (W := 2) (rm1 l Z a0 hw [] b10 q1 q2 (4 : Int32) _ h36 n0 Z36 f37) hZ (hw _ (List.mem_of_getElem? (i := 4) rfl)) (hw _ (List.mem_of_getElem? (i := 3) rfl)) (by decide) (by decide)) (g := (mkF m 127 #[.val (.int p0), .val (.long q1), .second, .val (.long q2), .second, .val (.int zl), .val (.ref b10), .val (.ref b21), .unset, .unset, .unset, .unset, .unset, .unset, .unset, .unset, .unset, .unset, .unset] [(.int (4 : Int32)), (.long q2), (.long q1), (.ref b10), (.int (4 : Int32)), (.ref b21)])) rfl (by rw [hml]; rfl) (argsL := [(.ref b10), (.long q1), (.long q2), (.int (4 : Int32))]) (rest := [(.int (4 : Int32)), (.ref b21)]) (lenOf own_pd3 rfl) rfl (by show 2 * 0 + _ ≤ _; exact Nat.le_of_eq rfl) (hb hby at_127) (fun _ _ => ⟨rfl, e36, (by first | decide | omega : 2 + 0 ≤ _), (by first | decide | omega : 17 + 0 ≤ _)⟩))
  obtain ⟨v4, rfl, hv4, N38q, e38⟩ := hQ38
  refine Done.go st38 ?_
  clear st38
  have N38 := Fr.app N36h N38q
  clear N38q
  obtain ⟨Lh38, X38h, N38h⟩ : ∃ L, Stand p l e room_1 s m #[(.int p0), (.long q1), (.long q2)] below meth c T38 L 2 17 ∧ Fr n0 L := ⟨_, X38, N38⟩
  clear X38 N38 X36h e36 N36h
  show Done p e s below _ _ _ T38 (mkF m 130 #[.val (.int p0), .val (.long q1), .second, .val (.long q2), .second, .val (.int zl), .val (.ref b10), .val (.ref b21), .unset, .unset, .unset, .unset, .unset, .unset, .unset, .unset, .unset, .unset, .unset] [(.int v4), (.int (4 : Int32)), (.ref b21)])
  obtain ⟨T39, h39, X39, e39, W39, V39, st39⟩ := own_stB X38h hx hZ e38 V36 (j := (4 : Int32)) 4 (by decide) rfl (by omega) (g := (mkF m 130 #[.val (.int p0), .val (.long q1), .second, .val (.long q2), .second, .val (.int zl), .val (.ref b10), .val (.ref b21), .unset, .unset, .unset, .unset, .unset, .unset, .unset, .unset, .unset, .unset, .unset] [(.int v4), (.int (4 : Int32)), (.ref b21)])) rfl rfl (hb hby at_130)
  have N39 := Fr.snoc X39 N38h gz_b21
  have Z39 : n0 ≤ h39.size := by rw [W39.size]; exact Z36
  obtain ⟨Lh39, X39h, N39h⟩ : ∃ L, Stand p l e room_1 s m #[(.int p0), (.long q1), (.long q2)] below meth c T39 L 2 17 ∧ Fr n0 L := ⟨_, X39, N39⟩
  clear X39 N39 X38h e38 N38h Z36
  refine Done.go st39 ?_
  clear st39
  show Done p e s below _ _ _ T39 (mkF m 131 #[.val (.int p0), .val (.long q1), .second, .val (.long q2), .second, .val (.int zl), .val (.ref b10), .val (.ref b21), .unset, .unset, .unset, .unset, .unset, .unset, .unset, .unset, .unset, .unset, .unset] [])
  refine Done.go (fun _ kt_ => XS.aload X39h.here hx rfl (hb hby at_131) rfl rfl kt_) ?_
  show Done p e s below _ _ _ T39 (mkF m 133 #[.val (.int p0), .val (.long q1), .second, .val (.long q2), .second, .val (.int zl), .val (.ref b10), .val (.ref b21), .unset, .unset, .unset, .unset, .unset, .unset, .unset, .unset, .unset, .unset, .unset] [(.ref b21)])
  refine Done.go (fun _ kt_ => XS.iconst X39h.here hx rfl (hb hby at_133) kt_) ?_
  show Done p e s below _ _ _ T39 (mkF m 134 #[.val (.int p0), .val (.long q1), .second, .val (.long q2), .second, .val (.int zl), .val (.ref b10), .val (.ref b21), .unset, .unset, .unset, .unset, .unset, .unset, .unset, .unset, .unset, .unset, .unset] [(.int (5 : Int32)), (.ref b21)])
  refine Done.go (fun _ kt_ => XS.aload X39h.here hx rfl (hb hby at_134) rfl rfl kt_) ?_
  show Done p e s below _ _ _ T39 (mkF m 136 #[.val (.int p0), .val (.long q1), .second, .val (.long q2), .second, .val (.int zl), .val (.ref b10), .val (.ref b21), .unset, .unset, .unset, .unset, .unset, .unset, .unset, .unset, .unset, .unset, .unset] [(.ref b10), (.int (5 : Int32)), (.ref b21)])
  refine Done.go (fun _ kt_ => XS.lloadN X39h.here hx rfl (hb hby at_136) rfl kt_) ?_
  show Done p e s below _ _ _ T39 (mkF m 137 #[.val (.int p0), .val (.long q1), .second, .val (.long q2), .second, .val (.int zl), .val (.ref b10), .val (.ref b21), .unset, .unset, .unset, .unset, .unset, .unset, .unset, .unset, .unset, .unset, .unset] [(.long q1), (.ref b10), (.int (5 : Int32)), (.ref b21)])
  refine Done.go (fun _ kt_ => XS.lloadN X39h.here hx rfl (hb hby at_137) rfl kt_) ?_
  show Done p e s below _ _ _ T39 (mkF m 138 #[.val (.int p0), .val (.long q1), .second, .val (.long q2), .second, .val (.int zl), .val (.ref b10), .val (.ref b21), .unset, .unset, .unset, .unset, .unset, .unset, .unset, .unset, .unset, .unset, .unset] [(.long q2), (.long q1), (.ref b10), (.int (5 : Int32)), (.ref b21)])
  refine Done.go (fun _ kt_ => XS.iconst X39h.here hx rfl (hb hby at_138) kt_) ?_
  show Done p e s below _ _ _ T39 (mkF m 139 #[.val (.int p0), .val (.long q1), .second, .val (.long q2), .second, .val (.int zl), .val (.ref b10), .val (.ref b21), .unset, .unset, .unset, .unset, .unset, .unset, .unset, .unset, .unset, .unset, .unset] [(.int (5 : Int32)), (.long q2), (.long q1), (.ref b10), (.int (5 : Int32)), (.ref b21)])
  have f40 := (f37.other W39 ne_b10_b21)
  obtain ⟨v41, T41, Lc41, X41, hQ41, st41⟩ := own_backG (Jvm.LawKit.callS X39h hx (y := (⟨"spinecode/xml/XmlInputRecognisesPinLaw", "draw", "([BJJI)B"⟩ : MethodName)) hown (mvT hZ (hw _ (List.mem_of_getElem? (i := 1) rfl))) (mvT hZ (hw _ (List.mem_of_getElem? (i := 2) rfl))) (mvT hZ (hw _ (List.mem_of_getElem? (i := 3) rfl))) (mvT hZ (hw _ (List.mem_of_getElem? (i := 4) rfl))) (by decide) (backOf (W := 2) (rm1 l Z a0 hw [] b10 q1 q2 (5 : Int32) _ h39 n0 Z39 f40) hZ (hw _ (List.mem_of_getElem? (i := 4) rfl)) (hw _ (List.mem_of_getElem? (i := 3) rfl)) (by decide) (by decide)) (g := (mkF m 139 #[.val (.int p0), .val (.long q1), .second, .val (.long q2), .second, .val (.int zl), .val (.ref b10), .val (.ref b21), .unset, .unset, .unset, .unset, .unset, .unset, .unset, .unset, .unset, .unset, .unset] [(.int (5 : Int32)), (.long q2), (.long q1), (.ref b10), (.int (5 : Int32)), (.ref b21)])) rfl (by rw [hml]; rfl) (argsL := [(.ref b10), (.long q1), (.long q2), (.int (5 : Int32))]) (rest := [(.int (5 : Int32)), (.ref b21)]) (lenOf own_pd3 rfl) rfl (by show 2 * 0 + _ ≤ _; exact Nat.le_of_eq rfl) (hb hby at_139) (fun _ _ => ⟨rfl, e39, (by first | decide | omega : 2 + 0 ≤ _), (by first | decide | omega : 17 + 0 ≤ _)⟩))
  obtain ⟨v5, rfl, hv5, N41q, e41⟩ := hQ41
  refine Done.go st41 ?_
  clear st41
  have N41 := Fr.app N39h N41q
  clear N41q
  obtain ⟨Lh41, X41h, N41h⟩ : ∃ L, Stand p l e room_1 s m #[(.int p0), (.long q1), (.long q2)] below meth c T41 L 2 17 ∧ Fr n0 L := ⟨_, X41, N41⟩
  clear X41 N41 X39h e39 N39h
  show Done p e s below _ _ _ T41 (mkF m 142 #[.val (.int p0), .val (.long q1), .second, .val (.long q2), .second, .val (.int zl), .val (.ref b10), .val (.ref b21), .unset, .unset, .unset, .unset, .unset, .unset, .unset, .unset, .unset, .unset, .unset] [(.int v5), (.int (5 : Int32)), (.ref b21)])
  obtain ⟨T42, h42, X42, e42, W42, V42, st42⟩ := own_stB X41h hx hZ e41 V39 (j := (5 : Int32)) 5 (by decide) rfl (by omega) (g := (mkF m 142 #[.val (.int p0), .val (.long q1), .second, .val (.long q2), .second, .val (.int zl), .val (.ref b10), .val (.ref b21), .unset, .unset, .unset, .unset, .unset, .unset, .unset, .unset, .unset, .unset, .unset] [(.int v5), (.int (5 : Int32)), (.ref b21)])) rfl rfl (hb hby at_142)
  have N42 := Fr.snoc X42 N41h gz_b21
  have Z42 : n0 ≤ h42.size := by rw [W42.size]; exact Z39
  obtain ⟨Lh42, X42h, N42h⟩ : ∃ L, Stand p l e room_1 s m #[(.int p0), (.long q1), (.long q2)] below meth c T42 L 2 17 ∧ Fr n0 L := ⟨_, X42, N42⟩
  clear X42 N42 X41h e41 N41h Z39
  refine Done.go st42 ?_
  clear st42
  show Done p e s below _ _ _ T42 (mkF m 143 #[.val (.int p0), .val (.long q1), .second, .val (.long q2), .second, .val (.int zl), .val (.ref b10), .val (.ref b21), .unset, .unset, .unset, .unset, .unset, .unset, .unset, .unset, .unset, .unset, .unset] [])
  refine Done.go (fun _ kt_ => XS.aload X42h.here hx rfl (hb hby at_143) rfl rfl kt_) ?_
  show Done p e s below _ _ _ T42 (mkF m 145 #[.val (.int p0), .val (.long q1), .second, .val (.long q2), .second, .val (.int zl), .val (.ref b10), .val (.ref b21), .unset, .unset, .unset, .unset, .unset, .unset, .unset, .unset, .unset, .unset, .unset] [(.ref b21)])
  refine Done.go (fun _ kt_ => XS.bipush X42h.here hx rfl (hb hby at_145) kt_) ?_
  show Done p e s below _ _ _ T42 (mkF m 147 #[.val (.int p0), .val (.long q1), .second, .val (.long q2), .second, .val (.int zl), .val (.ref b10), .val (.ref b21), .unset, .unset, .unset, .unset, .unset, .unset, .unset, .unset, .unset, .unset, .unset] [(.int (6 : Int32)), (.ref b21)])
  refine Done.go (fun _ kt_ => XS.aload X42h.here hx rfl (hb hby at_147) rfl rfl kt_) ?_
  show Done p e s below _ _ _ T42 (mkF m 149 #[.val (.int p0), .val (.long q1), .second, .val (.long q2), .second, .val (.int zl), .val (.ref b10), .val (.ref b21), .unset, .unset, .unset, .unset, .unset, .unset, .unset, .unset, .unset, .unset, .unset] [(.ref b10), (.int (6 : Int32)), (.ref b21)])
  refine Done.go (fun _ kt_ => XS.lloadN X42h.here hx rfl (hb hby at_149) rfl kt_) ?_
  show Done p e s below _ _ _ T42 (mkF m 150 #[.val (.int p0), .val (.long q1), .second, .val (.long q2), .second, .val (.int zl), .val (.ref b10), .val (.ref b21), .unset, .unset, .unset, .unset, .unset, .unset, .unset, .unset, .unset, .unset, .unset] [(.long q1), (.ref b10), (.int (6 : Int32)), (.ref b21)])
  refine Done.go (fun _ kt_ => XS.lloadN X42h.here hx rfl (hb hby at_150) rfl kt_) ?_
  show Done p e s below _ _ _ T42 (mkF m 151 #[.val (.int p0), .val (.long q1), .second, .val (.long q2), .second, .val (.int zl), .val (.ref b10), .val (.ref b21), .unset, .unset, .unset, .unset, .unset, .unset, .unset, .unset, .unset, .unset, .unset] [(.long q2), (.long q1), (.ref b10), (.int (6 : Int32)), (.ref b21)])
  refine Done.go (fun _ kt_ => XS.bipush X42h.here hx rfl (hb hby at_151) kt_) ?_
  show Done p e s below _ _ _ T42 (mkF m 153 #[.val (.int p0), .val (.long q1), .second, .val (.long q2), .second, .val (.int zl), .val (.ref b10), .val (.ref b21), .unset, .unset, .unset, .unset, .unset, .unset, .unset, .unset, .unset, .unset, .unset] [(.int (6 : Int32)), (.long q2), (.long q1), (.ref b10), (.int (6 : Int32)), (.ref b21)])
  have f43 := (f40.other W42 ne_b10_b21)
  obtain ⟨v44, T44, Lc44, X44, hQ44, st44⟩ := own_backG (Jvm.LawKit.callS X42h hx (y := (⟨"spinecode/xml/XmlInputRecognisesPinLaw", "draw", "([BJJI)B"⟩ : MethodName)) hown (mvT hZ (hw _ (List.mem_of_getElem? (i := 1) rfl))) (mvT hZ (hw _ (List.mem_of_getElem? (i := 2) rfl))) (mvT hZ (hw _ (List.mem_of_getElem? (i := 3) rfl))) (mvT hZ (hw _ (List.mem_of_getElem? (i := 4) rfl))) (by decide) (backOf (W := 2) (rm1 l Z a0 hw [] b10 q1 q2 (6 : Int32) _ h42 n0 Z42 f43) hZ (hw _ (List.mem_of_getElem? (i := 4) rfl)) (hw _ (List.mem_of_getElem? (i := 3) rfl)) (by decide) (by decide)) (g := (mkF m 153 #[.val (.int p0), .val (.long q1), .second, .val (.long q2), .second, .val (.int zl), .val (.ref b10), .val (.ref b21), .unset, .unset, .unset, .unset, .unset, .unset, .unset, .unset, .unset, .unset, .unset] [(.int (6 : Int32)), (.long q2), (.long q1), (.ref b10), (.int (6 : Int32)), (.ref b21)])) rfl (by rw [hml]; rfl) (argsL := [(.ref b10), (.long q1), (.long q2), (.int (6 : Int32))]) (rest := [(.int (6 : Int32)), (.ref b21)]) (lenOf own_pd3 rfl) rfl (by show 2 * 0 + _ ≤ _; exact Nat.le_of_eq rfl) (hb hby at_153) (fun _ _ => ⟨rfl, e42, (by first | decide | omega : 2 + 0 ≤ _), (by first | decide | omega : 17 + 0 ≤ _)⟩))
  obtain ⟨v6, rfl, hv6, N44q, e44⟩ := hQ44
  refine Done.go st44 ?_
  clear st44
  have N44 := Fr.app N42h N44q
  clear N44q
  obtain ⟨Lh44, X44h, N44h⟩ : ∃ L, Stand p l e room_1 s m #[(.int p0), (.long q1), (.long q2)] below meth c T44 L 2 17 ∧ Fr n0 L := ⟨_, X44, N44⟩
  clear X44 N44 X42h e42 N42h
  show Done p e s below _ _ _ T44 (mkF m 156 #[.val (.int p0), .val (.long q1), .second, .val (.long q2), .second, .val (.int zl), .val (.ref b10), .val (.ref b21), .unset, .unset, .unset, .unset, .unset, .unset, .unset, .unset, .unset, .unset, .unset] [(.int v6), (.int (6 : Int32)), (.ref b21)])
  obtain ⟨T45, h45, X45, e45, W45, V45, st45⟩ := own_stB X44h hx hZ e44 V42 (j := (6 : Int32)) 6 (by decide) rfl (by omega) (g := (mkF m 156 #[.val (.int p0), .val (.long q1), .second, .val (.long q2), .second, .val (.int zl), .val (.ref b10), .val (.ref b21), .unset, .unset, .unset, .unset, .unset, .unset, .unset, .unset, .unset, .unset, .unset] [(.int v6), (.int (6 : Int32)), (.ref b21)])) rfl rfl (hb hby at_156)
  have N45 := Fr.snoc X45 N44h gz_b21
  have Z45 : n0 ≤ h45.size := by rw [W45.size]; exact Z42
  obtain ⟨Lh45, X45h, N45h⟩ : ∃ L, Stand p l e room_1 s m #[(.int p0), (.long q1), (.long q2)] below meth c T45 L 2 17 ∧ Fr n0 L := ⟨_, X45, N45⟩
  clear X45 N45 X44h e44 N44h Z42
  refine Done.go st45 ?_
  clear st45
  have VB : Ari Z h45 b21 .byte 7 (own_sel v0 v1 v2 v3 v4 v5 v6) := V45.congr (fun i hi => by
    simp only [hv0, hv1, hv2, hv3, hv4, hv5, hv6]
    match i, hi with
    | 0, _ | 1, _ | 2, _ | 3, _ | 4, _ | 5, _ | 6, _ => rfl
    | i + 7, hi => omega)
  show Done p e s below _ _ _ T45 (mkF m 157 #[.val (.int p0), .val (.long q1), .second, .val (.long q2), .second, .val (.int zl), .val (.ref b10), .val (.ref b21), .unset, .unset, .unset, .unset, .unset, .unset, .unset, .unset, .unset, .unset, .unset] [])
  refine Done.go (fun _ kt_ => XS.iload X45h.here hx rfl (hb hby at_157) rfl kt_) ?_
  show Done p e s below _ _ _ T45 (mkF m 159 #[.val (.int p0), .val (.long q1), .second, .val (.long q2), .second, .val (.int zl), .val (.ref b10), .val (.ref b21), .unset, .unset, .unset, .unset, .unset, .unset, .unset, .unset, .unset, .unset, .unset] [(.int zl)])
  obtain ⟨T46, h46, k46, X46, e46, E46, A46, st46⟩ := newP X45h hx hZ (hw _ (List.mem_of_getElem? (i := 0) rfl)) e45 (g := (mkF m 159 #[.val (.int p0), .val (.long q1), .second, .val (.long q2), .second, .val (.int zl), .val (.ref b10), .val (.ref b21), .unset, .unset, .unset, .unset, .unset, .unset, .unset, .unset, .unset, .unset, .unset] [(.int zl)])) rfl (hb hby at_159) rfl (own_ix hN).1 (cap := 7) (by rw [(own_ix hN).2]; exact hN7) (by decide) (by first | decide | omega) (by first | decide | omega)
  have f47 := ((((((((f22.ext E21).other W27 ne_m1_b21).other W30 ne_m1_b21).other W33 ne_m1_b21).other W36 ne_m1_b21).other W39 ne_m1_b21).other W42 ne_m1_b21).other W45 ne_m1_b21)
  have f48 := ((((((((f23.ext E21).other W27 ne_m2_b21).other W30 ne_m2_b21).other W33 ne_m2_b21).other W36 ne_m2_b21).other W39 ne_m2_b21).other W42 ne_m2_b21).other W45 ne_m2_b21)
  have f49 := ((((((((f24.ext E21).other W27 ne_m3_b21).other W30 ne_m3_b21).other W33 ne_m3_b21).other W36 ne_m3_b21).other W39 ne_m3_b21).other W42 ne_m3_b21).other W45 ne_m3_b21)
  have f50 := (f43.other W45 ne_b10_b21)
  obtain ⟨b46, g46⟩ : ∃ z, z = h45.size := ⟨_, rfl⟩
  rw [← g46] at A46 st46
  have ne_m1_b46 : m1 ≠ b46 := Nat.ne_of_lt (Nat.lt_of_lt_of_le f47.lt (Nat.le_of_eq g46.symm))
  have ne_m2_b46 : m2 ≠ b46 := Nat.ne_of_lt (Nat.lt_of_lt_of_le f48.lt (Nat.le_of_eq g46.symm))
  have ne_m3_b46 : m3 ≠ b46 := Nat.ne_of_lt (Nat.lt_of_lt_of_le f49.lt (Nat.le_of_eq g46.symm))
  have ne_b10_b46 : b10 ≠ b46 := Nat.ne_of_lt (Nat.lt_of_lt_of_le f50.lt (Nat.le_of_eq g46.symm))
  have ne_b21_b46 : b21 ≠ b46 := Nat.ne_of_lt (Nat.lt_of_lt_of_le VB.lt (Nat.le_of_eq g46.symm))
  have gz_b46 : n0 ≤ b46 := Nat.le_trans Z45 (Nat.le_of_eq g46.symm)
  have Z46 : n0 ≤ h46.size := Nat.le_trans Z45 E46.1
  obtain ⟨Lh46, X46h, N46h⟩ : ∃ L, Stand p l e room_1 s m #[(.int p0), (.long q1), (.long q2)] below meth c T46 L 3 24 ∧ Fr n0 L := ⟨_, X46, N45h⟩
  clear X46 N45h X45h e45 Z45
  have V46 := Ari.new A46 (own_ix hN).1 (n := N) (own_ix hN).2 rfl
  refine Done.go st46 ?_
  clear st46
  show Done p e s below _ _ _ T46 (mkF m 161 #[.val (.int p0), .val (.long q1), .second, .val (.long q2), .second, .val (.int zl), .val (.ref b10), .val (.ref b21), .unset, .unset, .unset, .unset, .unset, .unset, .unset, .unset, .unset, .unset, .unset] [(.ref b46)])
  refine Done.go (fun _ kt_ => XS.astore X46h.here hx rfl (hb hby at_161) rfl rfl (l' := #[.val (.int p0), .val (.long q1), .second, .val (.long q2), .second, .val (.int zl), .val (.ref b10), .val (.ref b21), .val (.ref b46), .unset, .unset, .unset, .unset, .unset, .unset, .unset, .unset, .unset, .unset]) rfl kt_) ?_
  have f51 := (VB.ext E46)
  have f52 := (f47.ext E46)
  have f53 := (f48.ext E46)
  have f54 := (f49.ext E46)
  have f55 := ((((((((((((((((((((S1.ext E10).wr W11).wr W12).wr W13).wr W14).wr W15).wr W16).wr W17).wr W18).wr W19).wr W20).ext E21).wr W27).wr W30).wr W33).wr W36).wr W39).wr W42).wr W45).ext E46)
  have f56 := ((((((((((((((((((((S2.ext E10).wr W11).wr W12).wr W13).wr W14).wr W15).wr W16).wr W17).wr W18).wr W19).wr W20).ext E21).wr W27).wr W30).wr W33).wr W36).wr W39).wr W42).wr W45).ext E46)
  have f57 := ((((((((((((((((((((S3.ext E10).wr W11).wr W12).wr W13).wr W14).wr W15).wr W16).wr W17).wr W18).wr W19).wr W20).ext E21).wr W27).wr W30).wr W33).wr W36).wr W39).wr W42).wr W45).ext E46)
  have J263 : ∀ (T1 : State) (h1 : Heap) (L1 : List Loc) (f1 : Nat → Int32), Stand p l e room_1 s m #[(.int p0), (.long q1), (.long q2)] below meth c T1 L1 3 24 → T1.heap = h1 → n0 ≤ h1.size → Fr n0 L1 → Keep h46 h1 [b46] → Ari Z h1 b46 .byte N f1 → (∀ i, i < 7 → i < N → f1 i = (own_sel v0 v1 v2 v3 v4 v5 v6) i) → Done p e s below 16 128 (Q0 n0) T1 (mkF m 263 #[.val (.int p0), .val (.long q1), .second, .val (.long q2), .second, .val (.int zl), .val (.ref b10), .val (.ref b21), .val (.ref b46), .unset, .unset, .unset, .unset, .unset, .unset, .unset, .unset, .unset, .unset] []) := by
    intro T1 h1 L1 f1 X1 e1 z1 N1 K1 V1 H1
    have V1 := V1.congr (f' := (own_sel v0 v1 v2 v3 v4 v5 v6)) (fun i hi => H1 i (by omega) hi)
    have VB1 := f51.keep K1 (ninS ne_b21_b46 nin0)
    have SS1 := Sta.own_keep f55 K1 V46
    have MM1 := f52.keep K1 (ninS ne_m1_b46 nin0)
    have SS2 := Sta.own_keep f56 K1 V46
    have MM2 := f53.keep K1 (ninS ne_m2_b46 nin0)
    have SS3 := Sta.own_keep f57 K1 V46
    have MM3 := f54.keep K1 (ninS ne_m3_b46 nin0)
    have J565 : ∀ (T2 : State) (L2 : List Loc) (av : Int32), Stand p l e room_1 s m #[(.int p0), (.long q1), (.long q2)] below meth c T2 L2 3 24 → T2.heap = h1 → Fr n0 L2 → av = (own_bi (own_scan N (own_sel v0 v1 v2 v3 v4 v5 v6) 7 0)) → Done p e s below 16 128 (Q0 n0) T2 (mkF m 565 #[.val (.int p0), .val (.long q1), .second, .val (.long q2), .second, .val (.int zl), .val (.ref b10), .val (.ref b21), .val (.ref b46), .val (.int (own_bi (own_p16 N v0 v1))), .val (.int (own_bi (own_p8 N v0 v1 v2))), .val (.int (own_bi (own_scan N (own_sel v0 v1 v2 v3 v4 v5 v6) 1 6))), .val (.int (own_bi (own_scan N (own_sel v0 v1 v2 v3 v4 v5 v6) 2 5))), .val (.int (own_bi (own_scan N (own_sel v0 v1 v2 v3 v4 v5 v6) 3 4))), .val (.int (own_bi (own_scan N (own_sel v0 v1 v2 v3 v4 v5 v6) 4 3))), .val (.int (own_bi (own_scan N (own_sel v0 v1 v2 v3 v4 v5 v6) 5 2))), .val (.int (own_bi (own_scan N (own_sel v0 v1 v2 v3 v4 v5 v6) 6 1))), .val (.int av), .unset] []) := by
      intro T2 L2 av X2 e2 N2 hav
      subst hav
      show Done p e s below _ _ _ T2 (mkF m 565 #[.val (.int p0), .val (.long q1), .second, .val (.long q2), .second, .val (.int zl), .val (.ref b10), .val (.ref b21), .val (.ref b46), .val (.int (own_bi (own_p16 N v0 v1))), .val (.int (own_bi (own_p8 N v0 v1 v2))), .val (.int (own_bi (own_scan N (own_sel v0 v1 v2 v3 v4 v5 v6) 1 6))), .val (.int (own_bi (own_scan N (own_sel v0 v1 v2 v3 v4 v5 v6) 2 5))), .val (.int (own_bi (own_scan N (own_sel v0 v1 v2 v3 v4 v5 v6) 3 4))), .val (.int (own_bi (own_scan N (own_sel v0 v1 v2 v3 v4 v5 v6) 4 3))), .val (.int (own_bi (own_scan N (own_sel v0 v1 v2 v3 v4 v5 v6) 5 2))), .val (.int (own_bi (own_scan N (own_sel v0 v1 v2 v3 v4 v5 v6) 6 1))), .val (.int (own_bi (own_scan N (own_sel v0 v1 v2 v3 v4 v5 v6) 7 0))), .unset] [])
      refine Done.go (fun _ kt_ => XS.iload X2.here hx rfl (hb hby at_565) rfl kt_) ?_
      show Done p e s below _ _ _ T2 (mkF m 567 #[.val (.int p0), .val (.long q1), .second, .val (.long q2), .second, .val (.int zl), .val (.ref b10), .val (.ref b21), .val (.ref b46), .val (.int (own_bi (own_p16 N v0 v1))), .val (.int (own_bi (own_p8 N v0 v1 v2))), .val (.int (own_bi (own_scan N (own_sel v0 v1 v2 v3 v4 v5 v6) 1 6))), .val (.int (own_bi (own_scan N (own_sel v0 v1 v2 v3 v4 v5 v6) 2 5))), .val (.int (own_bi (own_scan N (own_sel v0 v1 v2 v3 v4 v5 v6) 3 4))), .val (.int (own_bi (own_scan N (own_sel v0 v1 v2 v3 v4 v5 v6) 4 3))), .val (.int (own_bi (own_scan N (own_sel v0 v1 v2 v3 v4 v5 v6) 5 2))), .val (.int (own_bi (own_scan N (own_sel v0 v1 v2 v3 v4 v5 v6) 6 1))), .val (.int (own_bi (own_scan N (own_sel v0 v1 v2 v3 v4 v5 v6) 7 0))), .unset] [(.int (own_bi (own_p16 N v0 v1)))])
      by_cases hc567 : (own_bi (own_p16 N v0 v1)) = (0 : Int32)
      · skip
        refine Done.go (fun _ kt_ => XS.ifNo X2.here hx rfl (hb hby at_567) rfl ((if0 _ _).trans (teq hc567).2) kt_) ?_
        show Done p e s below _ _ _ T2 (mkF m 570 #[.val (.int p0), .val (.long q1), .second, .val (.long q2), .second, .val (.int zl), .val (.ref b10), .val (.ref b21), .val (.ref b46), .val (.int (own_bi (own_p16 N v0 v1))), .val (.int (own_bi (own_p8 N v0 v1 v2))), .val (.int (own_bi (own_scan N (own_sel v0 v1 v2 v3 v4 v5 v6) 1 6))), .val (.int (own_bi (own_scan N (own_sel v0 v1 v2 v3 v4 v5 v6) 2 5))), .val (.int (own_bi (own_scan N (own_sel v0 v1 v2 v3 v4 v5 v6) 3 4))), .val (.int (own_bi (own_scan N (own_sel v0 v1 v2 v3 v4 v5 v6) 4 3))), .val (.int (own_bi (own_scan N (own_sel v0 v1 v2 v3 v4 v5 v6) 5 2))), .val (.int (own_bi (own_scan N (own_sel v0 v1 v2 v3 v4 v5 v6) 6 1))), .val (.int (own_bi (own_scan N (own_sel v0 v1 v2 v3 v4 v5 v6) 7 0))), .unset] [])
        refine Done.go (fun _ kt_ => XS.iload X2.here hx rfl (hb hby at_570) rfl kt_) ?_
        show Done p e s below _ _ _ T2 (mkF m 572 #[.val (.int p0), .val (.long q1), .second, .val (.long q2), .second, .val (.int zl), .val (.ref b10), .val (.ref b21), .val (.ref b46), .val (.int (own_bi (own_p16 N v0 v1))), .val (.int (own_bi (own_p8 N v0 v1 v2))), .val (.int (own_bi (own_scan N (own_sel v0 v1 v2 v3 v4 v5 v6) 1 6))), .val (.int (own_bi (own_scan N (own_sel v0 v1 v2 v3 v4 v5 v6) 2 5))), .val (.int (own_bi (own_scan N (own_sel v0 v1 v2 v3 v4 v5 v6) 3 4))), .val (.int (own_bi (own_scan N (own_sel v0 v1 v2 v3 v4 v5 v6) 4 3))), .val (.int (own_bi (own_scan N (own_sel v0 v1 v2 v3 v4 v5 v6) 5 2))), .val (.int (own_bi (own_scan N (own_sel v0 v1 v2 v3 v4 v5 v6) 6 1))), .val (.int (own_bi (own_scan N (own_sel v0 v1 v2 v3 v4 v5 v6) 7 0))), .unset] [(.int (own_bi (own_p8 N v0 v1 v2)))])
        by_cases hc572 : (own_bi (own_p8 N v0 v1 v2)) = (0 : Int32)
        · skip
          refine Done.go (fun _ kt_ => XS.ifYes X2.here hx rfl (pc0 := 572) (pc' := 583) rfl (hb hby at_572) rfl ((if0 _ _).trans (teq hc572).1) (by decide) (by decide) kt_) ?_
          show Done p e s below _ _ _ T2 (mkF m 583 #[.val (.int p0), .val (.long q1), .second, .val (.long q2), .second, .val (.int zl), .val (.ref b10), .val (.ref b21), .val (.ref b46), .val (.int (own_bi (own_p16 N v0 v1))), .val (.int (own_bi (own_p8 N v0 v1 v2))), .val (.int (own_bi (own_scan N (own_sel v0 v1 v2 v3 v4 v5 v6) 1 6))), .val (.int (own_bi (own_scan N (own_sel v0 v1 v2 v3 v4 v5 v6) 2 5))), .val (.int (own_bi (own_scan N (own_sel v0 v1 v2 v3 v4 v5 v6) 3 4))), .val (.int (own_bi (own_scan N (own_sel v0 v1 v2 v3 v4 v5 v6) 4 3))), .val (.int (own_bi (own_scan N (own_sel v0 v1 v2 v3 v4 v5 v6) 5 2))), .val (.int (own_bi (own_scan N (own_sel v0 v1 v2 v3 v4 v5 v6) 6 1))), .val (.int (own_bi (own_scan N (own_sel v0 v1 v2 v3 v4 v5 v6) 7 0))), .unset] [])
          refine Done.go (fun _ kt_ => XS.iload X2.here hx rfl (hb hby at_583) rfl kt_) ?_
          show Done p e s below _ _ _ T2 (mkF m 585 #[.val (.int p0), .val (.long q1), .second, .val (.long q2), .second, .val (.int zl), .val (.ref b10), .val (.ref b21), .val (.ref b46), .val (.int (own_bi (own_p16 N v0 v1))), .val (.int (own_bi (own_p8 N v0 v1 v2))), .val (.int (own_bi (own_scan N (own_sel v0 v1 v2 v3 v4 v5 v6) 1 6))), .val (.int (own_bi (own_scan N (own_sel v0 v1 v2 v3 v4 v5 v6) 2 5))), .val (.int (own_bi (own_scan N (own_sel v0 v1 v2 v3 v4 v5 v6) 3 4))), .val (.int (own_bi (own_scan N (own_sel v0 v1 v2 v3 v4 v5 v6) 4 3))), .val (.int (own_bi (own_scan N (own_sel v0 v1 v2 v3 v4 v5 v6) 5 2))), .val (.int (own_bi (own_scan N (own_sel v0 v1 v2 v3 v4 v5 v6) 6 1))), .val (.int (own_bi (own_scan N (own_sel v0 v1 v2 v3 v4 v5 v6) 7 0))), .unset] [(.int (own_bi (own_scan N (own_sel v0 v1 v2 v3 v4 v5 v6) 7 0)))])
          by_cases hc585 : (own_bi (own_scan N (own_sel v0 v1 v2 v3 v4 v5 v6) 7 0)) = (0 : Int32)
          · skip
            refine Done.go (fun _ kt_ => XS.ifYes X2.here hx rfl (pc0 := 585) (pc' := 592) rfl (hb hby at_585) rfl ((if0 _ _).trans (teq hc585).1) (by decide) (by decide) kt_) ?_
            show Done p e s below _ _ _ T2 (mkF m 592 #[.val (.int p0), .val (.long q1), .second, .val (.long q2), .second, .val (.int zl), .val (.ref b10), .val (.ref b21), .val (.ref b46), .val (.int (own_bi (own_p16 N v0 v1))), .val (.int (own_bi (own_p8 N v0 v1 v2))), .val (.int (own_bi (own_scan N (own_sel v0 v1 v2 v3 v4 v5 v6) 1 6))), .val (.int (own_bi (own_scan N (own_sel v0 v1 v2 v3 v4 v5 v6) 2 5))), .val (.int (own_bi (own_scan N (own_sel v0 v1 v2 v3 v4 v5 v6) 3 4))), .val (.int (own_bi (own_scan N (own_sel v0 v1 v2 v3 v4 v5 v6) 4 3))), .val (.int (own_bi (own_scan N (own_sel v0 v1 v2 v3 v4 v5 v6) 5 2))), .val (.int (own_bi (own_scan N (own_sel v0 v1 v2 v3 v4 v5 v6) 6 1))), .val (.int (own_bi (own_scan N (own_sel v0 v1 v2 v3 v4 v5 v6) 7 0))), .unset] [])
            refine Done.go (fun _ kt_ => XS.iconst X2.here hx rfl (hb hby at_592) kt_) ?_
            have hex : own_bi (own_ans N (own_sel v0 v1 v2 v3 v4 v5 v6)) = (0 : Int32) := by
              have u567 := own_bi0.mp hc567
              have u572 := own_bi0.mp hc572
              have u585 := own_bi0.mp hc585
              show own_bi (own_p16 N v0 v1 || cond (own_p8 N v0 v1 v2) (own_scan N (own_sel v0 v1 v2 v3 v4 v5 v6) 4 3) (own_scan N (own_sel v0 v1 v2 v3 v4 v5 v6) 7 0)) = _
              rw [u567, u572, u585]; rfl
            show Done p e s below _ _ _ T2 (mkF m 593 #[.val (.int p0), .val (.long q1), .second, .val (.long q2), .second, .val (.int zl), .val (.ref b10), .val (.ref b21), .val (.ref b46), .val (.int (own_bi (own_p16 N v0 v1))), .val (.int (own_bi (own_p8 N v0 v1 v2))), .val (.int (own_bi (own_scan N (own_sel v0 v1 v2 v3 v4 v5 v6) 1 6))), .val (.int (own_bi (own_scan N (own_sel v0 v1 v2 v3 v4 v5 v6) 2 5))), .val (.int (own_bi (own_scan N (own_sel v0 v1 v2 v3 v4 v5 v6) 3 4))), .val (.int (own_bi (own_scan N (own_sel v0 v1 v2 v3 v4 v5 v6) 4 3))), .val (.int (own_bi (own_scan N (own_sel v0 v1 v2 v3 v4 v5 v6) 5 2))), .val (.int (own_bi (own_scan N (own_sel v0 v1 v2 v3 v4 v5 v6) 6 1))), .val (.int (own_bi (own_scan N (own_sel v0 v1 v2 v3 v4 v5 v6) 7 0))), .unset] [(.int (0 : Int32))])
            refine Done.go (fun _ kt_ => XS.istore X2.here hx rfl (hb hby at_593) rfl (l' := #[.val (.int p0), .val (.long q1), .second, .val (.long q2), .second, .val (.int zl), .val (.ref b10), .val (.ref b21), .val (.ref b46), .val (.int (own_bi (own_p16 N v0 v1))), .val (.int (own_bi (own_p8 N v0 v1 v2))), .val (.int (own_bi (own_scan N (own_sel v0 v1 v2 v3 v4 v5 v6) 1 6))), .val (.int (own_bi (own_scan N (own_sel v0 v1 v2 v3 v4 v5 v6) 2 5))), .val (.int (own_bi (own_scan N (own_sel v0 v1 v2 v3 v4 v5 v6) 3 4))), .val (.int (own_bi (own_scan N (own_sel v0 v1 v2 v3 v4 v5 v6) 4 3))), .val (.int (own_bi (own_scan N (own_sel v0 v1 v2 v3 v4 v5 v6) 5 2))), .val (.int (own_bi (own_scan N (own_sel v0 v1 v2 v3 v4 v5 v6) 6 1))), .val (.int (own_bi (own_scan N (own_sel v0 v1 v2 v3 v4 v5 v6) 7 0))), .val (.int (0 : Int32))]) rfl kt_) ?_
            show Done p e s below _ _ _ T2 (mkF m 595 #[.val (.int p0), .val (.long q1), .second, .val (.long q2), .second, .val (.int zl), .val (.ref b10), .val (.ref b21), .val (.ref b46), .val (.int (own_bi (own_p16 N v0 v1))), .val (.int (own_bi (own_p8 N v0 v1 v2))), .val (.int (own_bi (own_scan N (own_sel v0 v1 v2 v3 v4 v5 v6) 1 6))), .val (.int (own_bi (own_scan N (own_sel v0 v1 v2 v3 v4 v5 v6) 2 5))), .val (.int (own_bi (own_scan N (own_sel v0 v1 v2 v3 v4 v5 v6) 3 4))), .val (.int (own_bi (own_scan N (own_sel v0 v1 v2 v3 v4 v5 v6) 4 3))), .val (.int (own_bi (own_scan N (own_sel v0 v1 v2 v3 v4 v5 v6) 5 2))), .val (.int (own_bi (own_scan N (own_sel v0 v1 v2 v3 v4 v5 v6) 6 1))), .val (.int (own_bi (own_scan N (own_sel v0 v1 v2 v3 v4 v5 v6) 7 0))), .val (.int (0 : Int32))] [])
            refine Done.go (fun _ kt_ => XS.aload X2.here hx rfl (hb hby at_595) rfl rfl kt_) ?_
            show Done p e s below _ _ _ T2 (mkF m 597 #[.val (.int p0), .val (.long q1), .second, .val (.long q2), .second, .val (.int zl), .val (.ref b10), .val (.ref b21), .val (.ref b46), .val (.int (own_bi (own_p16 N v0 v1))), .val (.int (own_bi (own_p8 N v0 v1 v2))), .val (.int (own_bi (own_scan N (own_sel v0 v1 v2 v3 v4 v5 v6) 1 6))), .val (.int (own_bi (own_scan N (own_sel v0 v1 v2 v3 v4 v5 v6) 2 5))), .val (.int (own_bi (own_scan N (own_sel v0 v1 v2 v3 v4 v5 v6) 3 4))), .val (.int (own_bi (own_scan N (own_sel v0 v1 v2 v3 v4 v5 v6) 4 3))), .val (.int (own_bi (own_scan N (own_sel v0 v1 v2 v3 v4 v5 v6) 5 2))), .val (.int (own_bi (own_scan N (own_sel v0 v1 v2 v3 v4 v5 v6) 6 1))), .val (.int (own_bi (own_scan N (own_sel v0 v1 v2 v3 v4 v5 v6) 7 0))), .val (.int (0 : Int32))] [(.ref b46)])
            obtain ⟨v58, T58, Lc58, X58, hQ58, st58⟩ := own_backG (Jvm.LawKit.callS X2 hx (y := (⟨"spinecode/xml/XmlInput", "recognises", "([B)Z"⟩ : MethodName)) hown (mvT hZ (hw _ (List.mem_of_getElem? (i := 12) rfl))) (mvT hZ (hw _ (List.mem_of_getElem? (i := 13) rfl))) (mvT hZ (hw _ (List.mem_of_getElem? (i := 14) rfl))) (mvT hZ (hw _ (List.mem_of_getElem? (i := 15) rfl))) (by decide) (backOf (W := 0) (rm4 l Z a0 hw [] b46 N (own_sel v0 v1 v2 v3 v4 v5 v6) m1 m2 m3 h1 n0 z1 V1 hN7 (fun i hi => by
                match i, Nat.lt_of_lt_of_le hi hN7 with
                | 0, _ => exact hv0
                | 1, _ => exact hv1
                | 2, _ => exact hv2
                | 3, _ => exact hv3
                | 4, _ => exact hv4
                | 5, _ => exact hv5
                | 6, _ => exact hv6
                | i + 7, hi => omega) SS1 SS2 SS3 MM1 MM2 MM3) hZ (hw _ (List.mem_of_getElem? (i := 15) rfl)) (hw _ (List.mem_of_getElem? (i := 14) rfl)) (by decide) (by decide)) (g := (mkF m 597 #[.val (.int p0), .val (.long q1), .second, .val (.long q2), .second, .val (.int zl), .val (.ref b10), .val (.ref b21), .val (.ref b46), .val (.int (own_bi (own_p16 N v0 v1))), .val (.int (own_bi (own_p8 N v0 v1 v2))), .val (.int (own_bi (own_scan N (own_sel v0 v1 v2 v3 v4 v5 v6) 1 6))), .val (.int (own_bi (own_scan N (own_sel v0 v1 v2 v3 v4 v5 v6) 2 5))), .val (.int (own_bi (own_scan N (own_sel v0 v1 v2 v3 v4 v5 v6) 3 4))), .val (.int (own_bi (own_scan N (own_sel v0 v1 v2 v3 v4 v5 v6) 4 3))), .val (.int (own_bi (own_scan N (own_sel v0 v1 v2 v3 v4 v5 v6) 5 2))), .val (.int (own_bi (own_scan N (own_sel v0 v1 v2 v3 v4 v5 v6) 6 1))), .val (.int (own_bi (own_scan N (own_sel v0 v1 v2 v3 v4 v5 v6) 7 0))), .val (.int (0 : Int32))] [(.ref b46)])) rfl (by rw [hml]; rfl) (argsL := [(.ref b46)]) (rest := []) (lenOf own_pd2 rfl) rfl (by show 2 * 0 + _ ≤ _; exact Nat.le_of_eq rfl) (hb hby at_597) (fun _ _ => ⟨rfl, e2, (by first | decide | omega : 3 + 0 ≤ _), (by first | decide | omega : 24 + 0 ≤ _)⟩))
            obtain ⟨rfl, N58q, e58⟩ := hQ58
            refine Done.go st58 ?_
            clear st58
            have N58 := Fr.app N2 N58q
            clear N58q
            obtain ⟨Lh58, X58h, N58h⟩ : ∃ L, Stand p l e room_1 s m #[(.int p0), (.long q1), (.long q2)] below meth c T58 L 3 24 ∧ Fr n0 L := ⟨_, X58, N58⟩
            clear X58 N58 X2 e2 N2
            show Done p e s below _ _ _ T58 (mkF m 600 #[.val (.int p0), .val (.long q1), .second, .val (.long q2), .second, .val (.int zl), .val (.ref b10), .val (.ref b21), .val (.ref b46), .val (.int (own_bi (own_p16 N v0 v1))), .val (.int (own_bi (own_p8 N v0 v1 v2))), .val (.int (own_bi (own_scan N (own_sel v0 v1 v2 v3 v4 v5 v6) 1 6))), .val (.int (own_bi (own_scan N (own_sel v0 v1 v2 v3 v4 v5 v6) 2 5))), .val (.int (own_bi (own_scan N (own_sel v0 v1 v2 v3 v4 v5 v6) 3 4))), .val (.int (own_bi (own_scan N (own_sel v0 v1 v2 v3 v4 v5 v6) 4 3))), .val (.int (own_bi (own_scan N (own_sel v0 v1 v2 v3 v4 v5 v6) 5 2))), .val (.int (own_bi (own_scan N (own_sel v0 v1 v2 v3 v4 v5 v6) 6 1))), .val (.int (own_bi (own_scan N (own_sel v0 v1 v2 v3 v4 v5 v6) 7 0))), .val (.int (0 : Int32))] [(.int (own_bi (own_ans N (own_sel v0 v1 v2 v3 v4 v5 v6))))])
            refine Done.go (fun _ kt_ => XS.iload X58h.here hx rfl (hb hby at_600) rfl kt_) ?_
            show Done p e s below _ _ _ T58 (mkF m 602 #[.val (.int p0), .val (.long q1), .second, .val (.long q2), .second, .val (.int zl), .val (.ref b10), .val (.ref b21), .val (.ref b46), .val (.int (own_bi (own_p16 N v0 v1))), .val (.int (own_bi (own_p8 N v0 v1 v2))), .val (.int (own_bi (own_scan N (own_sel v0 v1 v2 v3 v4 v5 v6) 1 6))), .val (.int (own_bi (own_scan N (own_sel v0 v1 v2 v3 v4 v5 v6) 2 5))), .val (.int (own_bi (own_scan N (own_sel v0 v1 v2 v3 v4 v5 v6) 3 4))), .val (.int (own_bi (own_scan N (own_sel v0 v1 v2 v3 v4 v5 v6) 4 3))), .val (.int (own_bi (own_scan N (own_sel v0 v1 v2 v3 v4 v5 v6) 5 2))), .val (.int (own_bi (own_scan N (own_sel v0 v1 v2 v3 v4 v5 v6) 6 1))), .val (.int (own_bi (own_scan N (own_sel v0 v1 v2 v3 v4 v5 v6) 7 0))), .val (.int (0 : Int32))] [(.int (0 : Int32)), (.int (own_bi (own_ans N (own_sel v0 v1 v2 v3 v4 v5 v6))))])
            refine Done.go (fun _ kt_ => XS.icmpNo X58h.here hx rfl (hb hby at_602) rfl (teq hex).2 kt_) ?_
            show Done p e s below _ _ _ T58 (mkF m 605 #[.val (.int p0), .val (.long q1), .second, .val (.long q2), .second, .val (.int zl), .val (.ref b10), .val (.ref b21), .val (.ref b46), .val (.int (own_bi (own_p16 N v0 v1))), .val (.int (own_bi (own_p8 N v0 v1 v2))), .val (.int (own_bi (own_scan N (own_sel v0 v1 v2 v3 v4 v5 v6) 1 6))), .val (.int (own_bi (own_scan N (own_sel v0 v1 v2 v3 v4 v5 v6) 2 5))), .val (.int (own_bi (own_scan N (own_sel v0 v1 v2 v3 v4 v5 v6) 3 4))), .val (.int (own_bi (own_scan N (own_sel v0 v1 v2 v3 v4 v5 v6) 4 3))), .val (.int (own_bi (own_scan N (own_sel v0 v1 v2 v3 v4 v5 v6) 5 2))), .val (.int (own_bi (own_scan N (own_sel v0 v1 v2 v3 v4 v5 v6) 6 1))), .val (.int (own_bi (own_scan N (own_sel v0 v1 v2 v3 v4 v5 v6) 7 0))), .val (.int (0 : Int32))] [])
            refine Done.go (fun _ kt_ => XS.iconst X58h.here hx rfl (hb hby at_605) kt_) ?_
            show Done p e s below _ _ _ T58 (mkF m 606 #[.val (.int p0), .val (.long q1), .second, .val (.long q2), .second, .val (.int zl), .val (.ref b10), .val (.ref b21), .val (.ref b46), .val (.int (own_bi (own_p16 N v0 v1))), .val (.int (own_bi (own_p8 N v0 v1 v2))), .val (.int (own_bi (own_scan N (own_sel v0 v1 v2 v3 v4 v5 v6) 1 6))), .val (.int (own_bi (own_scan N (own_sel v0 v1 v2 v3 v4 v5 v6) 2 5))), .val (.int (own_bi (own_scan N (own_sel v0 v1 v2 v3 v4 v5 v6) 3 4))), .val (.int (own_bi (own_scan N (own_sel v0 v1 v2 v3 v4 v5 v6) 4 3))), .val (.int (own_bi (own_scan N (own_sel v0 v1 v2 v3 v4 v5 v6) 5 2))), .val (.int (own_bi (own_scan N (own_sel v0 v1 v2 v3 v4 v5 v6) 6 1))), .val (.int (own_bi (own_scan N (own_sel v0 v1 v2 v3 v4 v5 v6) 7 0))), .val (.int (0 : Int32))] [(.int (1 : Int32))])
            refine Done.go (fun _ kt_ => XS.goto X58h.here hx rfl (pc0 := 606) (pc' := 610) rfl (hb hby at_606) (by decide) (by decide) kt_) ?_
            show Done p e s below _ _ _ T58 (mkF m 610 #[.val (.int p0), .val (.long q1), .second, .val (.long q2), .second, .val (.int zl), .val (.ref b10), .val (.ref b21), .val (.ref b46), .val (.int (own_bi (own_p16 N v0 v1))), .val (.int (own_bi (own_p8 N v0 v1 v2))), .val (.int (own_bi (own_scan N (own_sel v0 v1 v2 v3 v4 v5 v6) 1 6))), .val (.int (own_bi (own_scan N (own_sel v0 v1 v2 v3 v4 v5 v6) 2 5))), .val (.int (own_bi (own_scan N (own_sel v0 v1 v2 v3 v4 v5 v6) 3 4))), .val (.int (own_bi (own_scan N (own_sel v0 v1 v2 v3 v4 v5 v6) 4 3))), .val (.int (own_bi (own_scan N (own_sel v0 v1 v2 v3 v4 v5 v6) 5 2))), .val (.int (own_bi (own_scan N (own_sel v0 v1 v2 v3 v4 v5 v6) 6 1))), .val (.int (own_bi (own_scan N (own_sel v0 v1 v2 v3 v4 v5 v6) 7 0))), .val (.int (0 : Int32))] [(.int (1 : Int32))])
            refine Done.retN X58h hx hlk (t := .boolean) hrt (by simp) (z' := (1 : Int32)) rfl (hb hby at_610) ?_ (by first | decide | omega) (by first | decide | omega)
            rw [e58]
            exact ⟨rfl, N58h⟩
          · skip
            refine Done.go (fun _ kt_ => XS.ifNo X2.here hx rfl (hb hby at_585) rfl ((if0 _ _).trans (feq hc585).1) kt_) ?_
            show Done p e s below _ _ _ T2 (mkF m 588 #[.val (.int p0), .val (.long q1), .second, .val (.long q2), .second, .val (.int zl), .val (.ref b10), .val (.ref b21), .val (.ref b46), .val (.int (own_bi (own_p16 N v0 v1))), .val (.int (own_bi (own_p8 N v0 v1 v2))), .val (.int (own_bi (own_scan N (own_sel v0 v1 v2 v3 v4 v5 v6) 1 6))), .val (.int (own_bi (own_scan N (own_sel v0 v1 v2 v3 v4 v5 v6) 2 5))), .val (.int (own_bi (own_scan N (own_sel v0 v1 v2 v3 v4 v5 v6) 3 4))), .val (.int (own_bi (own_scan N (own_sel v0 v1 v2 v3 v4 v5 v6) 4 3))), .val (.int (own_bi (own_scan N (own_sel v0 v1 v2 v3 v4 v5 v6) 5 2))), .val (.int (own_bi (own_scan N (own_sel v0 v1 v2 v3 v4 v5 v6) 6 1))), .val (.int (own_bi (own_scan N (own_sel v0 v1 v2 v3 v4 v5 v6) 7 0))), .unset] [])
            refine Done.go (fun _ kt_ => XS.iconst X2.here hx rfl (hb hby at_588) kt_) ?_
            show Done p e s below _ _ _ T2 (mkF m 589 #[.val (.int p0), .val (.long q1), .second, .val (.long q2), .second, .val (.int zl), .val (.ref b10), .val (.ref b21), .val (.ref b46), .val (.int (own_bi (own_p16 N v0 v1))), .val (.int (own_bi (own_p8 N v0 v1 v2))), .val (.int (own_bi (own_scan N (own_sel v0 v1 v2 v3 v4 v5 v6) 1 6))), .val (.int (own_bi (own_scan N (own_sel v0 v1 v2 v3 v4 v5 v6) 2 5))), .val (.int (own_bi (own_scan N (own_sel v0 v1 v2 v3 v4 v5 v6) 3 4))), .val (.int (own_bi (own_scan N (own_sel v0 v1 v2 v3 v4 v5 v6) 4 3))), .val (.int (own_bi (own_scan N (own_sel v0 v1 v2 v3 v4 v5 v6) 5 2))), .val (.int (own_bi (own_scan N (own_sel v0 v1 v2 v3 v4 v5 v6) 6 1))), .val (.int (own_bi (own_scan N (own_sel v0 v1 v2 v3 v4 v5 v6) 7 0))), .unset] [(.int (1 : Int32))])
            refine Done.go (fun _ kt_ => XS.goto X2.here hx rfl (pc0 := 589) (pc' := 593) rfl (hb hby at_589) (by decide) (by decide) kt_) ?_
            have hex : own_bi (own_ans N (own_sel v0 v1 v2 v3 v4 v5 v6)) = (1 : Int32) := by
              have u567 := own_bi0.mp hc567
              have u572 := own_bi0.mp hc572
              have u585 := own_bi1.mp hc585
              show own_bi (own_p16 N v0 v1 || cond (own_p8 N v0 v1 v2) (own_scan N (own_sel v0 v1 v2 v3 v4 v5 v6) 4 3) (own_scan N (own_sel v0 v1 v2 v3 v4 v5 v6) 7 0)) = _
              rw [u567, u572, u585]; rfl
            show Done p e s below _ _ _ T2 (mkF m 593 #[.val (.int p0), .val (.long q1), .second, .val (.long q2), .second, .val (.int zl), .val (.ref b10), .val (.ref b21), .val (.ref b46), .val (.int (own_bi (own_p16 N v0 v1))), .val (.int (own_bi (own_p8 N v0 v1 v2))), .val (.int (own_bi (own_scan N (own_sel v0 v1 v2 v3 v4 v5 v6) 1 6))), .val (.int (own_bi (own_scan N (own_sel v0 v1 v2 v3 v4 v5 v6) 2 5))), .val (.int (own_bi (own_scan N (own_sel v0 v1 v2 v3 v4 v5 v6) 3 4))), .val (.int (own_bi (own_scan N (own_sel v0 v1 v2 v3 v4 v5 v6) 4 3))), .val (.int (own_bi (own_scan N (own_sel v0 v1 v2 v3 v4 v5 v6) 5 2))), .val (.int (own_bi (own_scan N (own_sel v0 v1 v2 v3 v4 v5 v6) 6 1))), .val (.int (own_bi (own_scan N (own_sel v0 v1 v2 v3 v4 v5 v6) 7 0))), .unset] [(.int (1 : Int32))])
            refine Done.go (fun _ kt_ => XS.istore X2.here hx rfl (hb hby at_593) rfl (l' := #[.val (.int p0), .val (.long q1), .second, .val (.long q2), .second, .val (.int zl), .val (.ref b10), .val (.ref b21), .val (.ref b46), .val (.int (own_bi (own_p16 N v0 v1))), .val (.int (own_bi (own_p8 N v0 v1 v2))), .val (.int (own_bi (own_scan N (own_sel v0 v1 v2 v3 v4 v5 v6) 1 6))), .val (.int (own_bi (own_scan N (own_sel v0 v1 v2 v3 v4 v5 v6) 2 5))), .val (.int (own_bi (own_scan N (own_sel v0 v1 v2 v3 v4 v5 v6) 3 4))), .val (.int (own_bi (own_scan N (own_sel v0 v1 v2 v3 v4 v5 v6) 4 3))), .val (.int (own_bi (own_scan N (own_sel v0 v1 v2 v3 v4 v5 v6) 5 2))), .val (.int (own_bi (own_scan N (own_sel v0 v1 v2 v3 v4 v5 v6) 6 1))), .val (.int (own_bi (own_scan N (own_sel v0 v1 v2 v3 v4 v5 v6) 7 0))), .val (.int (1 : Int32))]) rfl kt_) ?_
            show Done p e s below _ _ _ T2 (mkF m 595 #[.val (.int p0), .val (.long q1), .second, .val (.long q2), .second, .val (.int zl), .val (.ref b10), .val (.ref b21), .val (.ref b46), .val (.int (own_bi (own_p16 N v0 v1))), .val (.int (own_bi (own_p8 N v0 v1 v2))), .val (.int (own_bi (own_scan N (own_sel v0 v1 v2 v3 v4 v5 v6) 1 6))), .val (.int (own_bi (own_scan N (own_sel v0 v1 v2 v3 v4 v5 v6) 2 5))), .val (.int (own_bi (own_scan N (own_sel v0 v1 v2 v3 v4 v5 v6) 3 4))), .val (.int (own_bi (own_scan N (own_sel v0 v1 v2 v3 v4 v5 v6) 4 3))), .val (.int (own_bi (own_scan N (own_sel v0 v1 v2 v3 v4 v5 v6) 5 2))), .val (.int (own_bi (own_scan N (own_sel v0 v1 v2 v3 v4 v5 v6) 6 1))), .val (.int (own_bi (own_scan N (own_sel v0 v1 v2 v3 v4 v5 v6) 7 0))), .val (.int (1 : Int32))] [])
            refine Done.go (fun _ kt_ => XS.aload X2.here hx rfl (hb hby at_595) rfl rfl kt_) ?_
            show Done p e s below _ _ _ T2 (mkF m 597 #[.val (.int p0), .val (.long q1), .second, .val (.long q2), .second, .val (.int zl), .val (.ref b10), .val (.ref b21), .val (.ref b46), .val (.int (own_bi (own_p16 N v0 v1))), .val (.int (own_bi (own_p8 N v0 v1 v2))), .val (.int (own_bi (own_scan N (own_sel v0 v1 v2 v3 v4 v5 v6) 1 6))), .val (.int (own_bi (own_scan N (own_sel v0 v1 v2 v3 v4 v5 v6) 2 5))), .val (.int (own_bi (own_scan N (own_sel v0 v1 v2 v3 v4 v5 v6) 3 4))), .val (.int (own_bi (own_scan N (own_sel v0 v1 v2 v3 v4 v5 v6) 4 3))), .val (.int (own_bi (own_scan N (own_sel v0 v1 v2 v3 v4 v5 v6) 5 2))), .val (.int (own_bi (own_scan N (own_sel v0 v1 v2 v3 v4 v5 v6) 6 1))), .val (.int (own_bi (own_scan N (own_sel v0 v1 v2 v3 v4 v5 v6) 7 0))), .val (.int (1 : Int32))] [(.ref b46)])
            obtain ⟨v59, T59, Lc59, X59, hQ59, st59⟩ := own_backG (Jvm.LawKit.callS X2 hx (y := (⟨"spinecode/xml/XmlInput", "recognises", "([B)Z"⟩ : MethodName)) hown (mvT hZ (hw _ (List.mem_of_getElem? (i := 12) rfl))) (mvT hZ (hw _ (List.mem_of_getElem? (i := 13) rfl))) (mvT hZ (hw _ (List.mem_of_getElem? (i := 14) rfl))) (mvT hZ (hw _ (List.mem_of_getElem? (i := 15) rfl))) (by decide) (backOf (W := 0) (rm4 l Z a0 hw [] b46 N (own_sel v0 v1 v2 v3 v4 v5 v6) m1 m2 m3 h1 n0 z1 V1 hN7 (fun i hi => by
                match i, Nat.lt_of_lt_of_le hi hN7 with
                | 0, _ => exact hv0
                | 1, _ => exact hv1
                | 2, _ => exact hv2
                | 3, _ => exact hv3
                | 4, _ => exact hv4
                | 5, _ => exact hv5
                | 6, _ => exact hv6
                | i + 7, hi => omega) SS1 SS2 SS3 MM1 MM2 MM3) hZ (hw _ (List.mem_of_getElem? (i := 15) rfl)) (hw _ (List.mem_of_getElem? (i := 14) rfl)) (by decide) (by decide)) (g := (mkF m 597 #[.val (.int p0), .val (.long q1), .second, .val (.long q2), .second, .val (.int zl), .val (.ref b10), .val (.ref b21), .val (.ref b46), .val (.int (own_bi (own_p16 N v0 v1))), .val (.int (own_bi (own_p8 N v0 v1 v2))), .val (.int (own_bi (own_scan N (own_sel v0 v1 v2 v3 v4 v5 v6) 1 6))), .val (.int (own_bi (own_scan N (own_sel v0 v1 v2 v3 v4 v5 v6) 2 5))), .val (.int (own_bi (own_scan N (own_sel v0 v1 v2 v3 v4 v5 v6) 3 4))), .val (.int (own_bi (own_scan N (own_sel v0 v1 v2 v3 v4 v5 v6) 4 3))), .val (.int (own_bi (own_scan N (own_sel v0 v1 v2 v3 v4 v5 v6) 5 2))), .val (.int (own_bi (own_scan N (own_sel v0 v1 v2 v3 v4 v5 v6) 6 1))), .val (.int (own_bi (own_scan N (own_sel v0 v1 v2 v3 v4 v5 v6) 7 0))), .val (.int (1 : Int32))] [(.ref b46)])) rfl (by rw [hml]; rfl) (argsL := [(.ref b46)]) (rest := []) (lenOf own_pd2 rfl) rfl (by show 2 * 0 + _ ≤ _; exact Nat.le_of_eq rfl) (hb hby at_597) (fun _ _ => ⟨rfl, e2, (by first | decide | omega : 3 + 0 ≤ _), (by first | decide | omega : 24 + 0 ≤ _)⟩))
            obtain ⟨rfl, N59q, e59⟩ := hQ59
            refine Done.go st59 ?_
            clear st59
            have N59 := Fr.app N2 N59q
            clear N59q
            obtain ⟨Lh59, X59h, N59h⟩ : ∃ L, Stand p l e room_1 s m #[(.int p0), (.long q1), (.long q2)] below meth c T59 L 3 24 ∧ Fr n0 L := ⟨_, X59, N59⟩
            clear X59 N59 X2 e2 N2
            show Done p e s below _ _ _ T59 (mkF m 600 #[.val (.int p0), .val (.long q1), .second, .val (.long q2), .second, .val (.int zl), .val (.ref b10), .val (.ref b21), .val (.ref b46), .val (.int (own_bi (own_p16 N v0 v1))), .val (.int (own_bi (own_p8 N v0 v1 v2))), .val (.int (own_bi (own_scan N (own_sel v0 v1 v2 v3 v4 v5 v6) 1 6))), .val (.int (own_bi (own_scan N (own_sel v0 v1 v2 v3 v4 v5 v6) 2 5))), .val (.int (own_bi (own_scan N (own_sel v0 v1 v2 v3 v4 v5 v6) 3 4))), .val (.int (own_bi (own_scan N (own_sel v0 v1 v2 v3 v4 v5 v6) 4 3))), .val (.int (own_bi (own_scan N (own_sel v0 v1 v2 v3 v4 v5 v6) 5 2))), .val (.int (own_bi (own_scan N (own_sel v0 v1 v2 v3 v4 v5 v6) 6 1))), .val (.int (own_bi (own_scan N (own_sel v0 v1 v2 v3 v4 v5 v6) 7 0))), .val (.int (1 : Int32))] [(.int (own_bi (own_ans N (own_sel v0 v1 v2 v3 v4 v5 v6))))])
            refine Done.go (fun _ kt_ => XS.iload X59h.here hx rfl (hb hby at_600) rfl kt_) ?_
            show Done p e s below _ _ _ T59 (mkF m 602 #[.val (.int p0), .val (.long q1), .second, .val (.long q2), .second, .val (.int zl), .val (.ref b10), .val (.ref b21), .val (.ref b46), .val (.int (own_bi (own_p16 N v0 v1))), .val (.int (own_bi (own_p8 N v0 v1 v2))), .val (.int (own_bi (own_scan N (own_sel v0 v1 v2 v3 v4 v5 v6) 1 6))), .val (.int (own_bi (own_scan N (own_sel v0 v1 v2 v3 v4 v5 v6) 2 5))), .val (.int (own_bi (own_scan N (own_sel v0 v1 v2 v3 v4 v5 v6) 3 4))), .val (.int (own_bi (own_scan N (own_sel v0 v1 v2 v3 v4 v5 v6) 4 3))), .val (.int (own_bi (own_scan N (own_sel v0 v1 v2 v3 v4 v5 v6) 5 2))), .val (.int (own_bi (own_scan N (own_sel v0 v1 v2 v3 v4 v5 v6) 6 1))), .val (.int (own_bi (own_scan N (own_sel v0 v1 v2 v3 v4 v5 v6) 7 0))), .val (.int (1 : Int32))] [(.int (1 : Int32)), (.int (own_bi (own_ans N (own_sel v0 v1 v2 v3 v4 v5 v6))))])
            refine Done.go (fun _ kt_ => XS.icmpNo X59h.here hx rfl (hb hby at_602) rfl (teq hex).2 kt_) ?_
            show Done p e s below _ _ _ T59 (mkF m 605 #[.val (.int p0), .val (.long q1), .second, .val (.long q2), .second, .val (.int zl), .val (.ref b10), .val (.ref b21), .val (.ref b46), .val (.int (own_bi (own_p16 N v0 v1))), .val (.int (own_bi (own_p8 N v0 v1 v2))), .val (.int (own_bi (own_scan N (own_sel v0 v1 v2 v3 v4 v5 v6) 1 6))), .val (.int (own_bi (own_scan N (own_sel v0 v1 v2 v3 v4 v5 v6) 2 5))), .val (.int (own_bi (own_scan N (own_sel v0 v1 v2 v3 v4 v5 v6) 3 4))), .val (.int (own_bi (own_scan N (own_sel v0 v1 v2 v3 v4 v5 v6) 4 3))), .val (.int (own_bi (own_scan N (own_sel v0 v1 v2 v3 v4 v5 v6) 5 2))), .val (.int (own_bi (own_scan N (own_sel v0 v1 v2 v3 v4 v5 v6) 6 1))), .val (.int (own_bi (own_scan N (own_sel v0 v1 v2 v3 v4 v5 v6) 7 0))), .val (.int (1 : Int32))] [])
            refine Done.go (fun _ kt_ => XS.iconst X59h.here hx rfl (hb hby at_605) kt_) ?_
            show Done p e s below _ _ _ T59 (mkF m 606 #[.val (.int p0), .val (.long q1), .second, .val (.long q2), .second, .val (.int zl), .val (.ref b10), .val (.ref b21), .val (.ref b46), .val (.int (own_bi (own_p16 N v0 v1))), .val (.int (own_bi (own_p8 N v0 v1 v2))), .val (.int (own_bi (own_scan N (own_sel v0 v1 v2 v3 v4 v5 v6) 1 6))), .val (.int (own_bi (own_scan N (own_sel v0 v1 v2 v3 v4 v5 v6) 2 5))), .val (.int (own_bi (own_scan N (own_sel v0 v1 v2 v3 v4 v5 v6) 3 4))), .val (.int (own_bi (own_scan N (own_sel v0 v1 v2 v3 v4 v5 v6) 4 3))), .val (.int (own_bi (own_scan N (own_sel v0 v1 v2 v3 v4 v5 v6) 5 2))), .val (.int (own_bi (own_scan N (own_sel v0 v1 v2 v3 v4 v5 v6) 6 1))), .val (.int (own_bi (own_scan N (own_sel v0 v1 v2 v3 v4 v5 v6) 7 0))), .val (.int (1 : Int32))] [(.int (1 : Int32))])
            refine Done.go (fun _ kt_ => XS.goto X59h.here hx rfl (pc0 := 606) (pc' := 610) rfl (hb hby at_606) (by decide) (by decide) kt_) ?_
            show Done p e s below _ _ _ T59 (mkF m 610 #[.val (.int p0), .val (.long q1), .second, .val (.long q2), .second, .val (.int zl), .val (.ref b10), .val (.ref b21), .val (.ref b46), .val (.int (own_bi (own_p16 N v0 v1))), .val (.int (own_bi (own_p8 N v0 v1 v2))), .val (.int (own_bi (own_scan N (own_sel v0 v1 v2 v3 v4 v5 v6) 1 6))), .val (.int (own_bi (own_scan N (own_sel v0 v1 v2 v3 v4 v5 v6) 2 5))), .val (.int (own_bi (own_scan N (own_sel v0 v1 v2 v3 v4 v5 v6) 3 4))), .val (.int (own_bi (own_scan N (own_sel v0 v1 v2 v3 v4 v5 v6) 4 3))), .val (.int (own_bi (own_scan N (own_sel v0 v1 v2 v3 v4 v5 v6) 5 2))), .val (.int (own_bi (own_scan N (own_sel v0 v1 v2 v3 v4 v5 v6) 6 1))), .val (.int (own_bi (own_scan N (own_sel v0 v1 v2 v3 v4 v5 v6) 7 0))), .val (.int (1 : Int32))] [(.int (1 : Int32))])
            refine Done.retN X59h hx hlk (t := .boolean) hrt (by simp) (z' := (1 : Int32)) rfl (hb hby at_610) ?_ (by first | decide | omega) (by first | decide | omega)
            rw [e59]
            exact ⟨rfl, N59h⟩
        · skip
          refine Done.go (fun _ kt_ => XS.ifNo X2.here hx rfl (hb hby at_572) rfl ((if0 _ _).trans (feq hc572).1) kt_) ?_
          show Done p e s below _ _ _ T2 (mkF m 575 #[.val (.int p0), .val (.long q1), .second, .val (.long q2), .second, .val (.int zl), .val (.ref b10), .val (.ref b21), .val (.ref b46), .val (.int (own_bi (own_p16 N v0 v1))), .val (.int (own_bi (own_p8 N v0 v1 v2))), .val (.int (own_bi (own_scan N (own_sel v0 v1 v2 v3 v4 v5 v6) 1 6))), .val (.int (own_bi (own_scan N (own_sel v0 v1 v2 v3 v4 v5 v6) 2 5))), .val (.int (own_bi (own_scan N (own_sel v0 v1 v2 v3 v4 v5 v6) 3 4))), .val (.int (own_bi (own_scan N (own_sel v0 v1 v2 v3 v4 v5 v6) 4 3))), .val (.int (own_bi (own_scan N (own_sel v0 v1 v2 v3 v4 v5 v6) 5 2))), .val (.int (own_bi (own_scan N (own_sel v0 v1 v2 v3 v4 v5 v6) 6 1))), .val (.int (own_bi (own_scan N (own_sel v0 v1 v2 v3 v4 v5 v6) 7 0))), .unset] [])
          refine Done.go (fun _ kt_ => XS.iload X2.here hx rfl (hb hby at_575) rfl kt_) ?_
          show Done p e s below _ _ _ T2 (mkF m 577 #[.val (.int p0), .val (.long q1), .second, .val (.long q2), .second, .val (.int zl), .val (.ref b10), .val (.ref b21), .val (.ref b46), .val (.int (own_bi (own_p16 N v0 v1))), .val (.int (own_bi (own_p8 N v0 v1 v2))), .val (.int (own_bi (own_scan N (own_sel v0 v1 v2 v3 v4 v5 v6) 1 6))), .val (.int (own_bi (own_scan N (own_sel v0 v1 v2 v3 v4 v5 v6) 2 5))), .val (.int (own_bi (own_scan N (own_sel v0 v1 v2 v3 v4 v5 v6) 3 4))), .val (.int (own_bi (own_scan N (own_sel v0 v1 v2 v3 v4 v5 v6) 4 3))), .val (.int (own_bi (own_scan N (own_sel v0 v1 v2 v3 v4 v5 v6) 5 2))), .val (.int (own_bi (own_scan N (own_sel v0 v1 v2 v3 v4 v5 v6) 6 1))), .val (.int (own_bi (own_scan N (own_sel v0 v1 v2 v3 v4 v5 v6) 7 0))), .unset] [(.int (own_bi (own_scan N (own_sel v0 v1 v2 v3 v4 v5 v6) 4 3)))])
          by_cases hc577 : (own_bi (own_scan N (own_sel v0 v1 v2 v3 v4 v5 v6) 4 3)) = (0 : Int32)
          · skip
            refine Done.go (fun _ kt_ => XS.ifYes X2.here hx rfl (pc0 := 577) (pc' := 592) rfl (hb hby at_577) rfl ((if0 _ _).trans (teq hc577).1) (by decide) (by decide) kt_) ?_
            show Done p e s below _ _ _ T2 (mkF m 592 #[.val (.int p0), .val (.long q1), .second, .val (.long q2), .second, .val (.int zl), .val (.ref b10), .val (.ref b21), .val (.ref b46), .val (.int (own_bi (own_p16 N v0 v1))), .val (.int (own_bi (own_p8 N v0 v1 v2))), .val (.int (own_bi (own_scan N (own_sel v0 v1 v2 v3 v4 v5 v6) 1 6))), .val (.int (own_bi (own_scan N (own_sel v0 v1 v2 v3 v4 v5 v6) 2 5))), .val (.int (own_bi (own_scan N (own_sel v0 v1 v2 v3 v4 v5 v6) 3 4))), .val (.int (own_bi (own_scan N (own_sel v0 v1 v2 v3 v4 v5 v6) 4 3))), .val (.int (own_bi (own_scan N (own_sel v0 v1 v2 v3 v4 v5 v6) 5 2))), .val (.int (own_bi (own_scan N (own_sel v0 v1 v2 v3 v4 v5 v6) 6 1))), .val (.int (own_bi (own_scan N (own_sel v0 v1 v2 v3 v4 v5 v6) 7 0))), .unset] [])
            refine Done.go (fun _ kt_ => XS.iconst X2.here hx rfl (hb hby at_592) kt_) ?_
            have hex : own_bi (own_ans N (own_sel v0 v1 v2 v3 v4 v5 v6)) = (0 : Int32) := by
              have u567 := own_bi0.mp hc567
              have u572 := own_bi1.mp hc572
              have u577 := own_bi0.mp hc577
              show own_bi (own_p16 N v0 v1 || cond (own_p8 N v0 v1 v2) (own_scan N (own_sel v0 v1 v2 v3 v4 v5 v6) 4 3) (own_scan N (own_sel v0 v1 v2 v3 v4 v5 v6) 7 0)) = _
              rw [u567, u572, u577]; rfl
            show Done p e s below _ _ _ T2 (mkF m 593 #[.val (.int p0), .val (.long q1), .second, .val (.long q2), .second, .val (.int zl), .val (.ref b10), .val (.ref b21), .val (.ref b46), .val (.int (own_bi (own_p16 N v0 v1))), .val (.int (own_bi (own_p8 N v0 v1 v2))), .val (.int (own_bi (own_scan N (own_sel v0 v1 v2 v3 v4 v5 v6) 1 6))), .val (.int (own_bi (own_scan N (own_sel v0 v1 v2 v3 v4 v5 v6) 2 5))), .val (.int (own_bi (own_scan N (own_sel v0 v1 v2 v3 v4 v5 v6) 3 4))), .val (.int (own_bi (own_scan N (own_sel v0 v1 v2 v3 v4 v5 v6) 4 3))), .val (.int (own_bi (own_scan N (own_sel v0 v1 v2 v3 v4 v5 v6) 5 2))), .val (.int (own_bi (own_scan N (own_sel v0 v1 v2 v3 v4 v5 v6) 6 1))), .val (.int (own_bi (own_scan N (own_sel v0 v1 v2 v3 v4 v5 v6) 7 0))), .unset] [(.int (0 : Int32))])
            refine Done.go (fun _ kt_ => XS.istore X2.here hx rfl (hb hby at_593) rfl (l' := #[.val (.int p0), .val (.long q1), .second, .val (.long q2), .second, .val (.int zl), .val (.ref b10), .val (.ref b21), .val (.ref b46), .val (.int (own_bi (own_p16 N v0 v1))), .val (.int (own_bi (own_p8 N v0 v1 v2))), .val (.int (own_bi (own_scan N (own_sel v0 v1 v2 v3 v4 v5 v6) 1 6))), .val (.int (own_bi (own_scan N (own_sel v0 v1 v2 v3 v4 v5 v6) 2 5))), .val (.int (own_bi (own_scan N (own_sel v0 v1 v2 v3 v4 v5 v6) 3 4))), .val (.int (own_bi (own_scan N (own_sel v0 v1 v2 v3 v4 v5 v6) 4 3))), .val (.int (own_bi (own_scan N (own_sel v0 v1 v2 v3 v4 v5 v6) 5 2))), .val (.int (own_bi (own_scan N (own_sel v0 v1 v2 v3 v4 v5 v6) 6 1))), .val (.int (own_bi (own_scan N (own_sel v0 v1 v2 v3 v4 v5 v6) 7 0))), .val (.int (0 : Int32))]) rfl kt_) ?_
            show Done p e s below _ _ _ T2 (mkF m 595 #[.val (.int p0), .val (.long q1), .second, .val (.long q2), .second, .val (.int zl), .val (.ref b10), .val (.ref b21), .val (.ref b46), .val (.int (own_bi (own_p16 N v0 v1))), .val (.int (own_bi (own_p8 N v0 v1 v2))), .val (.int (own_bi (own_scan N (own_sel v0 v1 v2 v3 v4 v5 v6) 1 6))), .val (.int (own_bi (own_scan N (own_sel v0 v1 v2 v3 v4 v5 v6) 2 5))), .val (.int (own_bi (own_scan N (own_sel v0 v1 v2 v3 v4 v5 v6) 3 4))), .val (.int (own_bi (own_scan N (own_sel v0 v1 v2 v3 v4 v5 v6) 4 3))), .val (.int (own_bi (own_scan N (own_sel v0 v1 v2 v3 v4 v5 v6) 5 2))), .val (.int (own_bi (own_scan N (own_sel v0 v1 v2 v3 v4 v5 v6) 6 1))), .val (.int (own_bi (own_scan N (own_sel v0 v1 v2 v3 v4 v5 v6) 7 0))), .val (.int (0 : Int32))] [])
            refine Done.go (fun _ kt_ => XS.aload X2.here hx rfl (hb hby at_595) rfl rfl kt_) ?_
            show Done p e s below _ _ _ T2 (mkF m 597 #[.val (.int p0), .val (.long q1), .second, .val (.long q2), .second, .val (.int zl), .val (.ref b10), .val (.ref b21), .val (.ref b46), .val (.int (own_bi (own_p16 N v0 v1))), .val (.int (own_bi (own_p8 N v0 v1 v2))), .val (.int (own_bi (own_scan N (own_sel v0 v1 v2 v3 v4 v5 v6) 1 6))), .val (.int (own_bi (own_scan N (own_sel v0 v1 v2 v3 v4 v5 v6) 2 5))), .val (.int (own_bi (own_scan N (own_sel v0 v1 v2 v3 v4 v5 v6) 3 4))), .val (.int (own_bi (own_scan N (own_sel v0 v1 v2 v3 v4 v5 v6) 4 3))), .val (.int (own_bi (own_scan N (own_sel v0 v1 v2 v3 v4 v5 v6) 5 2))), .val (.int (own_bi (own_scan N (own_sel v0 v1 v2 v3 v4 v5 v6) 6 1))), .val (.int (own_bi (own_scan N (own_sel v0 v1 v2 v3 v4 v5 v6) 7 0))), .val (.int (0 : Int32))] [(.ref b46)])
            obtain ⟨v60, T60, Lc60, X60, hQ60, st60⟩ := own_backG (Jvm.LawKit.callS X2 hx (y := (⟨"spinecode/xml/XmlInput", "recognises", "([B)Z"⟩ : MethodName)) hown (mvT hZ (hw _ (List.mem_of_getElem? (i := 12) rfl))) (mvT hZ (hw _ (List.mem_of_getElem? (i := 13) rfl))) (mvT hZ (hw _ (List.mem_of_getElem? (i := 14) rfl))) (mvT hZ (hw _ (List.mem_of_getElem? (i := 15) rfl))) (by decide) (backOf (W := 0) (rm4 l Z a0 hw [] b46 N (own_sel v0 v1 v2 v3 v4 v5 v6) m1 m2 m3 h1 n0 z1 V1 hN7 (fun i hi => by
                match i, Nat.lt_of_lt_of_le hi hN7 with
                | 0, _ => exact hv0
                | 1, _ => exact hv1
                | 2, _ => exact hv2
                | 3, _ => exact hv3
                | 4, _ => exact hv4
                | 5, _ => exact hv5
                | 6, _ => exact hv6
                | i + 7, hi => omega) SS1 SS2 SS3 MM1 MM2 MM3) hZ (hw _ (List.mem_of_getElem? (i := 15) rfl)) (hw _ (List.mem_of_getElem? (i := 14) rfl)) (by decide) (by decide)) (g := (mkF m 597 #[.val (.int p0), .val (.long q1), .second, .val (.long q2), .second, .val (.int zl), .val (.ref b10), .val (.ref b21), .val (.ref b46), .val (.int (own_bi (own_p16 N v0 v1))), .val (.int (own_bi (own_p8 N v0 v1 v2))), .val (.int (own_bi (own_scan N (own_sel v0 v1 v2 v3 v4 v5 v6) 1 6))), .val (.int (own_bi (own_scan N (own_sel v0 v1 v2 v3 v4 v5 v6) 2 5))), .val (.int (own_bi (own_scan N (own_sel v0 v1 v2 v3 v4 v5 v6) 3 4))), .val (.int (own_bi (own_scan N (own_sel v0 v1 v2 v3 v4 v5 v6) 4 3))), .val (.int (own_bi (own_scan N (own_sel v0 v1 v2 v3 v4 v5 v6) 5 2))), .val (.int (own_bi (own_scan N (own_sel v0 v1 v2 v3 v4 v5 v6) 6 1))), .val (.int (own_bi (own_scan N (own_sel v0 v1 v2 v3 v4 v5 v6) 7 0))), .val (.int (0 : Int32))] [(.ref b46)])) rfl (by rw [hml]; rfl) (argsL := [(.ref b46)]) (rest := []) (lenOf own_pd2 rfl) rfl (by show 2 * 0 + _ ≤ _; exact Nat.le_of_eq rfl) (hb hby at_597) (fun _ _ => ⟨rfl, e2, (by first | decide | omega : 3 + 0 ≤ _), (by first | decide | omega : 24 + 0 ≤ _)⟩))
            obtain ⟨rfl, N60q, e60⟩ := hQ60
            refine Done.go st60 ?_
            clear st60
            have N60 := Fr.app N2 N60q
            clear N60q
            obtain ⟨Lh60, X60h, N60h⟩ : ∃ L, Stand p l e room_1 s m #[(.int p0), (.long q1), (.long q2)] below meth c T60 L 3 24 ∧ Fr n0 L := ⟨_, X60, N60⟩
            clear X60 N60 X2 e2 N2
            show Done p e s below _ _ _ T60 (mkF m 600 #[.val (.int p0), .val (.long q1), .second, .val (.long q2), .second, .val (.int zl), .val (.ref b10), .val (.ref b21), .val (.ref b46), .val (.int (own_bi (own_p16 N v0 v1))), .val (.int (own_bi (own_p8 N v0 v1 v2))), .val (.int (own_bi (own_scan N (own_sel v0 v1 v2 v3 v4 v5 v6) 1 6))), .val (.int (own_bi (own_scan N (own_sel v0 v1 v2 v3 v4 v5 v6) 2 5))), .val (.int (own_bi (own_scan N (own_sel v0 v1 v2 v3 v4 v5 v6) 3 4))), .val (.int (own_bi (own_scan N (own_sel v0 v1 v2 v3 v4 v5 v6) 4 3))), .val (.int (own_bi (own_scan N (own_sel v0 v1 v2 v3 v4 v5 v6) 5 2))), .val (.int (own_bi (own_scan N (own_sel v0 v1 v2 v3 v4 v5 v6) 6 1))), .val (.int (own_bi (own_scan N (own_sel v0 v1 v2 v3 v4 v5 v6) 7 0))), .val (.int (0 : Int32))] [(.int (own_bi (own_ans N (own_sel v0 v1 v2 v3 v4 v5 v6))))])
            refine Done.go (fun _ kt_ => XS.iload X60h.here hx rfl (hb hby at_600) rfl kt_) ?_
            show Done p e s below _ _ _ T60 (mkF m 602 #[.val (.int p0), .val (.long q1), .second, .val (.long q2), .second, .val (.int zl), .val (.ref b10), .val (.ref b21), .val (.ref b46), .val (.int (own_bi (own_p16 N v0 v1))), .val (.int (own_bi (own_p8 N v0 v1 v2))), .val (.int (own_bi (own_scan N (own_sel v0 v1 v2 v3 v4 v5 v6) 1 6))), .val (.int (own_bi (own_scan N (own_sel v0 v1 v2 v3 v4 v5 v6) 2 5))), .val (.int (own_bi (own_scan N (own_sel v0 v1 v2 v3 v4 v5 v6) 3 4))), .val (.int (own_bi (own_scan N (own_sel v0 v1 v2 v3 v4 v5 v6) 4 3))), .val (.int (own_bi (own_scan N (own_sel v0 v1 v2 v3 v4 v5 v6) 5 2))), .val (.int (own_bi (own_scan N (own_sel v0 v1 v2 v3 v4 v5 v6) 6 1))), .val (.int (own_bi (own_scan N (own_sel v0 v1 v2 v3 v4 v5 v6) 7 0))), .val (.int (0 : Int32))] [(.int (0 : Int32)), (.int (own_bi (own_ans N (own_sel v0 v1 v2 v3 v4 v5 v6))))])
            refine Done.go (fun _ kt_ => XS.icmpNo X60h.here hx rfl (hb hby at_602) rfl (teq hex).2 kt_) ?_
            show Done p e s below _ _ _ T60 (mkF m 605 #[.val (.int p0), .val (.long q1), .second, .val (.long q2), .second, .val (.int zl), .val (.ref b10), .val (.ref b21), .val (.ref b46), .val (.int (own_bi (own_p16 N v0 v1))), .val (.int (own_bi (own_p8 N v0 v1 v2))), .val (.int (own_bi (own_scan N (own_sel v0 v1 v2 v3 v4 v5 v6) 1 6))), .val (.int (own_bi (own_scan N (own_sel v0 v1 v2 v3 v4 v5 v6) 2 5))), .val (.int (own_bi (own_scan N (own_sel v0 v1 v2 v3 v4 v5 v6) 3 4))), .val (.int (own_bi (own_scan N (own_sel v0 v1 v2 v3 v4 v5 v6) 4 3))), .val (.int (own_bi (own_scan N (own_sel v0 v1 v2 v3 v4 v5 v6) 5 2))), .val (.int (own_bi (own_scan N (own_sel v0 v1 v2 v3 v4 v5 v6) 6 1))), .val (.int (own_bi (own_scan N (own_sel v0 v1 v2 v3 v4 v5 v6) 7 0))), .val (.int (0 : Int32))] [])
            refine Done.go (fun _ kt_ => XS.iconst X60h.here hx rfl (hb hby at_605) kt_) ?_
            show Done p e s below _ _ _ T60 (mkF m 606 #[.val (.int p0), .val (.long q1), .second, .val (.long q2), .second, .val (.int zl), .val (.ref b10), .val (.ref b21), .val (.ref b46), .val (.int (own_bi (own_p16 N v0 v1))), .val (.int (own_bi (own_p8 N v0 v1 v2))), .val (.int (own_bi (own_scan N (own_sel v0 v1 v2 v3 v4 v5 v6) 1 6))), .val (.int (own_bi (own_scan N (own_sel v0 v1 v2 v3 v4 v5 v6) 2 5))), .val (.int (own_bi (own_scan N (own_sel v0 v1 v2 v3 v4 v5 v6) 3 4))), .val (.int (own_bi (own_scan N (own_sel v0 v1 v2 v3 v4 v5 v6) 4 3))), .val (.int (own_bi (own_scan N (own_sel v0 v1 v2 v3 v4 v5 v6) 5 2))), .val (.int (own_bi (own_scan N (own_sel v0 v1 v2 v3 v4 v5 v6) 6 1))), .val (.int (own_bi (own_scan N (own_sel v0 v1 v2 v3 v4 v5 v6) 7 0))), .val (.int (0 : Int32))] [(.int (1 : Int32))])
            refine Done.go (fun _ kt_ => XS.goto X60h.here hx rfl (pc0 := 606) (pc' := 610) rfl (hb hby at_606) (by decide) (by decide) kt_) ?_
            show Done p e s below _ _ _ T60 (mkF m 610 #[.val (.int p0), .val (.long q1), .second, .val (.long q2), .second, .val (.int zl), .val (.ref b10), .val (.ref b21), .val (.ref b46), .val (.int (own_bi (own_p16 N v0 v1))), .val (.int (own_bi (own_p8 N v0 v1 v2))), .val (.int (own_bi (own_scan N (own_sel v0 v1 v2 v3 v4 v5 v6) 1 6))), .val (.int (own_bi (own_scan N (own_sel v0 v1 v2 v3 v4 v5 v6) 2 5))), .val (.int (own_bi (own_scan N (own_sel v0 v1 v2 v3 v4 v5 v6) 3 4))), .val (.int (own_bi (own_scan N (own_sel v0 v1 v2 v3 v4 v5 v6) 4 3))), .val (.int (own_bi (own_scan N (own_sel v0 v1 v2 v3 v4 v5 v6) 5 2))), .val (.int (own_bi (own_scan N (own_sel v0 v1 v2 v3 v4 v5 v6) 6 1))), .val (.int (own_bi (own_scan N (own_sel v0 v1 v2 v3 v4 v5 v6) 7 0))), .val (.int (0 : Int32))] [(.int (1 : Int32))])
            refine Done.retN X60h hx hlk (t := .boolean) hrt (by simp) (z' := (1 : Int32)) rfl (hb hby at_610) ?_ (by first | decide | omega) (by first | decide | omega)
            rw [e60]
            exact ⟨rfl, N60h⟩
          · skip
            refine Done.go (fun _ kt_ => XS.ifNo X2.here hx rfl (hb hby at_577) rfl ((if0 _ _).trans (feq hc577).1) kt_) ?_
            show Done p e s below _ _ _ T2 (mkF m 580 #[.val (.int p0), .val (.long q1), .second, .val (.long q2), .second, .val (.int zl), .val (.ref b10), .val (.ref b21), .val (.ref b46), .val (.int (own_bi (own_p16 N v0 v1))), .val (.int (own_bi (own_p8 N v0 v1 v2))), .val (.int (own_bi (own_scan N (own_sel v0 v1 v2 v3 v4 v5 v6) 1 6))), .val (.int (own_bi (own_scan N (own_sel v0 v1 v2 v3 v4 v5 v6) 2 5))), .val (.int (own_bi (own_scan N (own_sel v0 v1 v2 v3 v4 v5 v6) 3 4))), .val (.int (own_bi (own_scan N (own_sel v0 v1 v2 v3 v4 v5 v6) 4 3))), .val (.int (own_bi (own_scan N (own_sel v0 v1 v2 v3 v4 v5 v6) 5 2))), .val (.int (own_bi (own_scan N (own_sel v0 v1 v2 v3 v4 v5 v6) 6 1))), .val (.int (own_bi (own_scan N (own_sel v0 v1 v2 v3 v4 v5 v6) 7 0))), .unset] [])
            refine Done.go (fun _ kt_ => XS.goto X2.here hx rfl (pc0 := 580) (pc' := 588) rfl (hb hby at_580) (by decide) (by decide) kt_) ?_
            show Done p e s below _ _ _ T2 (mkF m 588 #[.val (.int p0), .val (.long q1), .second, .val (.long q2), .second, .val (.int zl), .val (.ref b10), .val (.ref b21), .val (.ref b46), .val (.int (own_bi (own_p16 N v0 v1))), .val (.int (own_bi (own_p8 N v0 v1 v2))), .val (.int (own_bi (own_scan N (own_sel v0 v1 v2 v3 v4 v5 v6) 1 6))), .val (.int (own_bi (own_scan N (own_sel v0 v1 v2 v3 v4 v5 v6) 2 5))), .val (.int (own_bi (own_scan N (own_sel v0 v1 v2 v3 v4 v5 v6) 3 4))), .val (.int (own_bi (own_scan N (own_sel v0 v1 v2 v3 v4 v5 v6) 4 3))), .val (.int (own_bi (own_scan N (own_sel v0 v1 v2 v3 v4 v5 v6) 5 2))), .val (.int (own_bi (own_scan N (own_sel v0 v1 v2 v3 v4 v5 v6) 6 1))), .val (.int (own_bi (own_scan N (own_sel v0 v1 v2 v3 v4 v5 v6) 7 0))), .unset] [])
            refine Done.go (fun _ kt_ => XS.iconst X2.here hx rfl (hb hby at_588) kt_) ?_
            show Done p e s below _ _ _ T2 (mkF m 589 #[.val (.int p0), .val (.long q1), .second, .val (.long q2), .second, .val (.int zl), .val (.ref b10), .val (.ref b21), .val (.ref b46), .val (.int (own_bi (own_p16 N v0 v1))), .val (.int (own_bi (own_p8 N v0 v1 v2))), .val (.int (own_bi (own_scan N (own_sel v0 v1 v2 v3 v4 v5 v6) 1 6))), .val (.int (own_bi (own_scan N (own_sel v0 v1 v2 v3 v4 v5 v6) 2 5))), .val (.int (own_bi (own_scan N (own_sel v0 v1 v2 v3 v4 v5 v6) 3 4))), .val (.int (own_bi (own_scan N (own_sel v0 v1 v2 v3 v4 v5 v6) 4 3))), .val (.int (own_bi (own_scan N (own_sel v0 v1 v2 v3 v4 v5 v6) 5 2))), .val (.int (own_bi (own_scan N (own_sel v0 v1 v2 v3 v4 v5 v6) 6 1))), .val (.int (own_bi (own_scan N (own_sel v0 v1 v2 v3 v4 v5 v6) 7 0))), .unset] [(.int (1 : Int32))])
            refine Done.go (fun _ kt_ => XS.goto X2.here hx rfl (pc0 := 589) (pc' := 593) rfl (hb hby at_589) (by decide) (by decide) kt_) ?_
            have hex : own_bi (own_ans N (own_sel v0 v1 v2 v3 v4 v5 v6)) = (1 : Int32) := by
              have u567 := own_bi0.mp hc567
              have u572 := own_bi1.mp hc572
              have u577 := own_bi1.mp hc577
              show own_bi (own_p16 N v0 v1 || cond (own_p8 N v0 v1 v2) (own_scan N (own_sel v0 v1 v2 v3 v4 v5 v6) 4 3) (own_scan N (own_sel v0 v1 v2 v3 v4 v5 v6) 7 0)) = _
              rw [u567, u572, u577]; rfl
            show Done p e s below _ _ _ T2 (mkF m 593 #[.val (.int p0), .val (.long q1), .second, .val (.long q2), .second, .val (.int zl), .val (.ref b10), .val (.ref b21), .val (.ref b46), .val (.int (own_bi (own_p16 N v0 v1))), .val (.int (own_bi (own_p8 N v0 v1 v2))), .val (.int (own_bi (own_scan N (own_sel v0 v1 v2 v3 v4 v5 v6) 1 6))), .val (.int (own_bi (own_scan N (own_sel v0 v1 v2 v3 v4 v5 v6) 2 5))), .val (.int (own_bi (own_scan N (own_sel v0 v1 v2 v3 v4 v5 v6) 3 4))), .val (.int (own_bi (own_scan N (own_sel v0 v1 v2 v3 v4 v5 v6) 4 3))), .val (.int (own_bi (own_scan N (own_sel v0 v1 v2 v3 v4 v5 v6) 5 2))), .val (.int (own_bi (own_scan N (own_sel v0 v1 v2 v3 v4 v5 v6) 6 1))), .val (.int (own_bi (own_scan N (own_sel v0 v1 v2 v3 v4 v5 v6) 7 0))), .unset] [(.int (1 : Int32))])
            refine Done.go (fun _ kt_ => XS.istore X2.here hx rfl (hb hby at_593) rfl (l' := #[.val (.int p0), .val (.long q1), .second, .val (.long q2), .second, .val (.int zl), .val (.ref b10), .val (.ref b21), .val (.ref b46), .val (.int (own_bi (own_p16 N v0 v1))), .val (.int (own_bi (own_p8 N v0 v1 v2))), .val (.int (own_bi (own_scan N (own_sel v0 v1 v2 v3 v4 v5 v6) 1 6))), .val (.int (own_bi (own_scan N (own_sel v0 v1 v2 v3 v4 v5 v6) 2 5))), .val (.int (own_bi (own_scan N (own_sel v0 v1 v2 v3 v4 v5 v6) 3 4))), .val (.int (own_bi (own_scan N (own_sel v0 v1 v2 v3 v4 v5 v6) 4 3))), .val (.int (own_bi (own_scan N (own_sel v0 v1 v2 v3 v4 v5 v6) 5 2))), .val (.int (own_bi (own_scan N (own_sel v0 v1 v2 v3 v4 v5 v6) 6 1))), .val (.int (own_bi (own_scan N (own_sel v0 v1 v2 v3 v4 v5 v6) 7 0))), .val (.int (1 : Int32))]) rfl kt_) ?_
            show Done p e s below _ _ _ T2 (mkF m 595 #[.val (.int p0), .val (.long q1), .second, .val (.long q2), .second, .val (.int zl), .val (.ref b10), .val (.ref b21), .val (.ref b46), .val (.int (own_bi (own_p16 N v0 v1))), .val (.int (own_bi (own_p8 N v0 v1 v2))), .val (.int (own_bi (own_scan N (own_sel v0 v1 v2 v3 v4 v5 v6) 1 6))), .val (.int (own_bi (own_scan N (own_sel v0 v1 v2 v3 v4 v5 v6) 2 5))), .val (.int (own_bi (own_scan N (own_sel v0 v1 v2 v3 v4 v5 v6) 3 4))), .val (.int (own_bi (own_scan N (own_sel v0 v1 v2 v3 v4 v5 v6) 4 3))), .val (.int (own_bi (own_scan N (own_sel v0 v1 v2 v3 v4 v5 v6) 5 2))), .val (.int (own_bi (own_scan N (own_sel v0 v1 v2 v3 v4 v5 v6) 6 1))), .val (.int (own_bi (own_scan N (own_sel v0 v1 v2 v3 v4 v5 v6) 7 0))), .val (.int (1 : Int32))] [])
            refine Done.go (fun _ kt_ => XS.aload X2.here hx rfl (hb hby at_595) rfl rfl kt_) ?_
            show Done p e s below _ _ _ T2 (mkF m 597 #[.val (.int p0), .val (.long q1), .second, .val (.long q2), .second, .val (.int zl), .val (.ref b10), .val (.ref b21), .val (.ref b46), .val (.int (own_bi (own_p16 N v0 v1))), .val (.int (own_bi (own_p8 N v0 v1 v2))), .val (.int (own_bi (own_scan N (own_sel v0 v1 v2 v3 v4 v5 v6) 1 6))), .val (.int (own_bi (own_scan N (own_sel v0 v1 v2 v3 v4 v5 v6) 2 5))), .val (.int (own_bi (own_scan N (own_sel v0 v1 v2 v3 v4 v5 v6) 3 4))), .val (.int (own_bi (own_scan N (own_sel v0 v1 v2 v3 v4 v5 v6) 4 3))), .val (.int (own_bi (own_scan N (own_sel v0 v1 v2 v3 v4 v5 v6) 5 2))), .val (.int (own_bi (own_scan N (own_sel v0 v1 v2 v3 v4 v5 v6) 6 1))), .val (.int (own_bi (own_scan N (own_sel v0 v1 v2 v3 v4 v5 v6) 7 0))), .val (.int (1 : Int32))] [(.ref b46)])
            obtain ⟨v61, T61, Lc61, X61, hQ61, st61⟩ := own_backG (Jvm.LawKit.callS X2 hx (y := (⟨"spinecode/xml/XmlInput", "recognises", "([B)Z"⟩ : MethodName)) hown (mvT hZ (hw _ (List.mem_of_getElem? (i := 12) rfl))) (mvT hZ (hw _ (List.mem_of_getElem? (i := 13) rfl))) (mvT hZ (hw _ (List.mem_of_getElem? (i := 14) rfl))) (mvT hZ (hw _ (List.mem_of_getElem? (i := 15) rfl))) (by decide) (backOf (W := 0) (rm4 l Z a0 hw [] b46 N (own_sel v0 v1 v2 v3 v4 v5 v6) m1 m2 m3 h1 n0 z1 V1 hN7 (fun i hi => by
                match i, Nat.lt_of_lt_of_le hi hN7 with
                | 0, _ => exact hv0
                | 1, _ => exact hv1
                | 2, _ => exact hv2
                | 3, _ => exact hv3
                | 4, _ => exact hv4
                | 5, _ => exact hv5
                | 6, _ => exact hv6
                | i + 7, hi => omega) SS1 SS2 SS3 MM1 MM2 MM3) hZ (hw _ (List.mem_of_getElem? (i := 15) rfl)) (hw _ (List.mem_of_getElem? (i := 14) rfl)) (by decide) (by decide)) (g := (mkF m 597 #[.val (.int p0), .val (.long q1), .second, .val (.long q2), .second, .val (.int zl), .val (.ref b10), .val (.ref b21), .val (.ref b46), .val (.int (own_bi (own_p16 N v0 v1))), .val (.int (own_bi (own_p8 N v0 v1 v2))), .val (.int (own_bi (own_scan N (own_sel v0 v1 v2 v3 v4 v5 v6) 1 6))), .val (.int (own_bi (own_scan N (own_sel v0 v1 v2 v3 v4 v5 v6) 2 5))), .val (.int (own_bi (own_scan N (own_sel v0 v1 v2 v3 v4 v5 v6) 3 4))), .val (.int (own_bi (own_scan N (own_sel v0 v1 v2 v3 v4 v5 v6) 4 3))), .val (.int (own_bi (own_scan N (own_sel v0 v1 v2 v3 v4 v5 v6) 5 2))), .val (.int (own_bi (own_scan N (own_sel v0 v1 v2 v3 v4 v5 v6) 6 1))), .val (.int (own_bi (own_scan N (own_sel v0 v1 v2 v3 v4 v5 v6) 7 0))), .val (.int (1 : Int32))] [(.ref b46)])) rfl (by rw [hml]; rfl) (argsL := [(.ref b46)]) (rest := []) (lenOf own_pd2 rfl) rfl (by show 2 * 0 + _ ≤ _; exact Nat.le_of_eq rfl) (hb hby at_597) (fun _ _ => ⟨rfl, e2, (by first | decide | omega : 3 + 0 ≤ _), (by first | decide | omega : 24 + 0 ≤ _)⟩))
            obtain ⟨rfl, N61q, e61⟩ := hQ61
            refine Done.go st61 ?_
            clear st61
            have N61 := Fr.app N2 N61q
            clear N61q
            obtain ⟨Lh61, X61h, N61h⟩ : ∃ L, Stand p l e room_1 s m #[(.int p0), (.long q1), (.long q2)] below meth c T61 L 3 24 ∧ Fr n0 L := ⟨_, X61, N61⟩
            clear X61 N61 X2 e2 N2
            show Done p e s below _ _ _ T61 (mkF m 600 #[.val (.int p0), .val (.long q1), .second, .val (.long q2), .second, .val (.int zl), .val (.ref b10), .val (.ref b21), .val (.ref b46), .val (.int (own_bi (own_p16 N v0 v1))), .val (.int (own_bi (own_p8 N v0 v1 v2))), .val (.int (own_bi (own_scan N (own_sel v0 v1 v2 v3 v4 v5 v6) 1 6))), .val (.int (own_bi (own_scan N (own_sel v0 v1 v2 v3 v4 v5 v6) 2 5))), .val (.int (own_bi (own_scan N (own_sel v0 v1 v2 v3 v4 v5 v6) 3 4))), .val (.int (own_bi (own_scan N (own_sel v0 v1 v2 v3 v4 v5 v6) 4 3))), .val (.int (own_bi (own_scan N (own_sel v0 v1 v2 v3 v4 v5 v6) 5 2))), .val (.int (own_bi (own_scan N (own_sel v0 v1 v2 v3 v4 v5 v6) 6 1))), .val (.int (own_bi (own_scan N (own_sel v0 v1 v2 v3 v4 v5 v6) 7 0))), .val (.int (1 : Int32))] [(.int (own_bi (own_ans N (own_sel v0 v1 v2 v3 v4 v5 v6))))])
            refine Done.go (fun _ kt_ => XS.iload X61h.here hx rfl (hb hby at_600) rfl kt_) ?_
            show Done p e s below _ _ _ T61 (mkF m 602 #[.val (.int p0), .val (.long q1), .second, .val (.long q2), .second, .val (.int zl), .val (.ref b10), .val (.ref b21), .val (.ref b46), .val (.int (own_bi (own_p16 N v0 v1))), .val (.int (own_bi (own_p8 N v0 v1 v2))), .val (.int (own_bi (own_scan N (own_sel v0 v1 v2 v3 v4 v5 v6) 1 6))), .val (.int (own_bi (own_scan N (own_sel v0 v1 v2 v3 v4 v5 v6) 2 5))), .val (.int (own_bi (own_scan N (own_sel v0 v1 v2 v3 v4 v5 v6) 3 4))), .val (.int (own_bi (own_scan N (own_sel v0 v1 v2 v3 v4 v5 v6) 4 3))), .val (.int (own_bi (own_scan N (own_sel v0 v1 v2 v3 v4 v5 v6) 5 2))), .val (.int (own_bi (own_scan N (own_sel v0 v1 v2 v3 v4 v5 v6) 6 1))), .val (.int (own_bi (own_scan N (own_sel v0 v1 v2 v3 v4 v5 v6) 7 0))), .val (.int (1 : Int32))] [(.int (1 : Int32)), (.int (own_bi (own_ans N (own_sel v0 v1 v2 v3 v4 v5 v6))))])
            refine Done.go (fun _ kt_ => XS.icmpNo X61h.here hx rfl (hb hby at_602) rfl (teq hex).2 kt_) ?_
            show Done p e s below _ _ _ T61 (mkF m 605 #[.val (.int p0), .val (.long q1), .second, .val (.long q2), .second, .val (.int zl), .val (.ref b10), .val (.ref b21), .val (.ref b46), .val (.int (own_bi (own_p16 N v0 v1))), .val (.int (own_bi (own_p8 N v0 v1 v2))), .val (.int (own_bi (own_scan N (own_sel v0 v1 v2 v3 v4 v5 v6) 1 6))), .val (.int (own_bi (own_scan N (own_sel v0 v1 v2 v3 v4 v5 v6) 2 5))), .val (.int (own_bi (own_scan N (own_sel v0 v1 v2 v3 v4 v5 v6) 3 4))), .val (.int (own_bi (own_scan N (own_sel v0 v1 v2 v3 v4 v5 v6) 4 3))), .val (.int (own_bi (own_scan N (own_sel v0 v1 v2 v3 v4 v5 v6) 5 2))), .val (.int (own_bi (own_scan N (own_sel v0 v1 v2 v3 v4 v5 v6) 6 1))), .val (.int (own_bi (own_scan N (own_sel v0 v1 v2 v3 v4 v5 v6) 7 0))), .val (.int (1 : Int32))] [])
            refine Done.go (fun _ kt_ => XS.iconst X61h.here hx rfl (hb hby at_605) kt_) ?_
            show Done p e s below _ _ _ T61 (mkF m 606 #[.val (.int p0), .val (.long q1), .second, .val (.long q2), .second, .val (.int zl), .val (.ref b10), .val (.ref b21), .val (.ref b46), .val (.int (own_bi (own_p16 N v0 v1))), .val (.int (own_bi (own_p8 N v0 v1 v2))), .val (.int (own_bi (own_scan N (own_sel v0 v1 v2 v3 v4 v5 v6) 1 6))), .val (.int (own_bi (own_scan N (own_sel v0 v1 v2 v3 v4 v5 v6) 2 5))), .val (.int (own_bi (own_scan N (own_sel v0 v1 v2 v3 v4 v5 v6) 3 4))), .val (.int (own_bi (own_scan N (own_sel v0 v1 v2 v3 v4 v5 v6) 4 3))), .val (.int (own_bi (own_scan N (own_sel v0 v1 v2 v3 v4 v5 v6) 5 2))), .val (.int (own_bi (own_scan N (own_sel v0 v1 v2 v3 v4 v5 v6) 6 1))), .val (.int (own_bi (own_scan N (own_sel v0 v1 v2 v3 v4 v5 v6) 7 0))), .val (.int (1 : Int32))] [(.int (1 : Int32))])
            refine Done.go (fun _ kt_ => XS.goto X61h.here hx rfl (pc0 := 606) (pc' := 610) rfl (hb hby at_606) (by decide) (by decide) kt_) ?_
            show Done p e s below _ _ _ T61 (mkF m 610 #[.val (.int p0), .val (.long q1), .second, .val (.long q2), .second, .val (.int zl), .val (.ref b10), .val (.ref b21), .val (.ref b46), .val (.int (own_bi (own_p16 N v0 v1))), .val (.int (own_bi (own_p8 N v0 v1 v2))), .val (.int (own_bi (own_scan N (own_sel v0 v1 v2 v3 v4 v5 v6) 1 6))), .val (.int (own_bi (own_scan N (own_sel v0 v1 v2 v3 v4 v5 v6) 2 5))), .val (.int (own_bi (own_scan N (own_sel v0 v1 v2 v3 v4 v5 v6) 3 4))), .val (.int (own_bi (own_scan N (own_sel v0 v1 v2 v3 v4 v5 v6) 4 3))), .val (.int (own_bi (own_scan N (own_sel v0 v1 v2 v3 v4 v5 v6) 5 2))), .val (.int (own_bi (own_scan N (own_sel v0 v1 v2 v3 v4 v5 v6) 6 1))), .val (.int (own_bi (own_scan N (own_sel v0 v1 v2 v3 v4 v5 v6) 7 0))), .val (.int (1 : Int32))] [(.int (1 : Int32))])
            refine Done.retN X61h hx hlk (t := .boolean) hrt (by simp) (z' := (1 : Int32)) rfl (hb hby at_610) ?_ (by first | decide | omega) (by first | decide | omega)
            rw [e61]
            exact ⟨rfl, N61h⟩
      · skip
        refine Done.go (fun _ kt_ => XS.ifYes X2.here hx rfl (pc0 := 567) (pc' := 588) rfl (hb hby at_567) rfl ((if0 _ _).trans (feq hc567).2) (by decide) (by decide) kt_) ?_
        show Done p e s below _ _ _ T2 (mkF m 588 #[.val (.int p0), .val (.long q1), .second, .val (.long q2), .second, .val (.int zl), .val (.ref b10), .val (.ref b21), .val (.ref b46), .val (.int (own_bi (own_p16 N v0 v1))), .val (.int (own_bi (own_p8 N v0 v1 v2))), .val (.int (own_bi (own_scan N (own_sel v0 v1 v2 v3 v4 v5 v6) 1 6))), .val (.int (own_bi (own_scan N (own_sel v0 v1 v2 v3 v4 v5 v6) 2 5))), .val (.int (own_bi (own_scan N (own_sel v0 v1 v2 v3 v4 v5 v6) 3 4))), .val (.int (own_bi (own_scan N (own_sel v0 v1 v2 v3 v4 v5 v6) 4 3))), .val (.int (own_bi (own_scan N (own_sel v0 v1 v2 v3 v4 v5 v6) 5 2))), .val (.int (own_bi (own_scan N (own_sel v0 v1 v2 v3 v4 v5 v6) 6 1))), .val (.int (own_bi (own_scan N (own_sel v0 v1 v2 v3 v4 v5 v6) 7 0))), .unset] [])
        refine Done.go (fun _ kt_ => XS.iconst X2.here hx rfl (hb hby at_588) kt_) ?_
        show Done p e s below _ _ _ T2 (mkF m 589 #[.val (.int p0), .val (.long q1), .second, .val (.long q2), .second, .val (.int zl), .val (.ref b10), .val (.ref b21), .val (.ref b46), .val (.int (own_bi (own_p16 N v0 v1))), .val (.int (own_bi (own_p8 N v0 v1 v2))), .val (.int (own_bi (own_scan N (own_sel v0 v1 v2 v3 v4 v5 v6) 1 6))), .val (.int (own_bi (own_scan N (own_sel v0 v1 v2 v3 v4 v5 v6) 2 5))), .val (.int (own_bi (own_scan N (own_sel v0 v1 v2 v3 v4 v5 v6) 3 4))), .val (.int (own_bi (own_scan N (own_sel v0 v1 v2 v3 v4 v5 v6) 4 3))), .val (.int (own_bi (own_scan N (own_sel v0 v1 v2 v3 v4 v5 v6) 5 2))), .val (.int (own_bi (own_scan N (own_sel v0 v1 v2 v3 v4 v5 v6) 6 1))), .val (.int (own_bi (own_scan N (own_sel v0 v1 v2 v3 v4 v5 v6) 7 0))), .unset] [(.int (1 : Int32))])
        refine Done.go (fun _ kt_ => XS.goto X2.here hx rfl (pc0 := 589) (pc' := 593) rfl (hb hby at_589) (by decide) (by decide) kt_) ?_
        have hex : own_bi (own_ans N (own_sel v0 v1 v2 v3 v4 v5 v6)) = (1 : Int32) := by
          have u567 := own_bi1.mp hc567
          show own_bi (own_p16 N v0 v1 || cond (own_p8 N v0 v1 v2) (own_scan N (own_sel v0 v1 v2 v3 v4 v5 v6) 4 3) (own_scan N (own_sel v0 v1 v2 v3 v4 v5 v6) 7 0)) = _
          rw [u567]; rfl
        show Done p e s below _ _ _ T2 (mkF m 593 #[.val (.int p0), .val (.long q1), .second, .val (.long q2), .second, .val (.int zl), .val (.ref b10), .val (.ref b21), .val (.ref b46), .val (.int (own_bi (own_p16 N v0 v1))), .val (.int (own_bi (own_p8 N v0 v1 v2))), .val (.int (own_bi (own_scan N (own_sel v0 v1 v2 v3 v4 v5 v6) 1 6))), .val (.int (own_bi (own_scan N (own_sel v0 v1 v2 v3 v4 v5 v6) 2 5))), .val (.int (own_bi (own_scan N (own_sel v0 v1 v2 v3 v4 v5 v6) 3 4))), .val (.int (own_bi (own_scan N (own_sel v0 v1 v2 v3 v4 v5 v6) 4 3))), .val (.int (own_bi (own_scan N (own_sel v0 v1 v2 v3 v4 v5 v6) 5 2))), .val (.int (own_bi (own_scan N (own_sel v0 v1 v2 v3 v4 v5 v6) 6 1))), .val (.int (own_bi (own_scan N (own_sel v0 v1 v2 v3 v4 v5 v6) 7 0))), .unset] [(.int (1 : Int32))])
        refine Done.go (fun _ kt_ => XS.istore X2.here hx rfl (hb hby at_593) rfl (l' := #[.val (.int p0), .val (.long q1), .second, .val (.long q2), .second, .val (.int zl), .val (.ref b10), .val (.ref b21), .val (.ref b46), .val (.int (own_bi (own_p16 N v0 v1))), .val (.int (own_bi (own_p8 N v0 v1 v2))), .val (.int (own_bi (own_scan N (own_sel v0 v1 v2 v3 v4 v5 v6) 1 6))), .val (.int (own_bi (own_scan N (own_sel v0 v1 v2 v3 v4 v5 v6) 2 5))), .val (.int (own_bi (own_scan N (own_sel v0 v1 v2 v3 v4 v5 v6) 3 4))), .val (.int (own_bi (own_scan N (own_sel v0 v1 v2 v3 v4 v5 v6) 4 3))), .val (.int (own_bi (own_scan N (own_sel v0 v1 v2 v3 v4 v5 v6) 5 2))), .val (.int (own_bi (own_scan N (own_sel v0 v1 v2 v3 v4 v5 v6) 6 1))), .val (.int (own_bi (own_scan N (own_sel v0 v1 v2 v3 v4 v5 v6) 7 0))), .val (.int (1 : Int32))]) rfl kt_) ?_
        show Done p e s below _ _ _ T2 (mkF m 595 #[.val (.int p0), .val (.long q1), .second, .val (.long q2), .second, .val (.int zl), .val (.ref b10), .val (.ref b21), .val (.ref b46), .val (.int (own_bi (own_p16 N v0 v1))), .val (.int (own_bi (own_p8 N v0 v1 v2))), .val (.int (own_bi (own_scan N (own_sel v0 v1 v2 v3 v4 v5 v6) 1 6))), .val (.int (own_bi (own_scan N (own_sel v0 v1 v2 v3 v4 v5 v6) 2 5))), .val (.int (own_bi (own_scan N (own_sel v0 v1 v2 v3 v4 v5 v6) 3 4))), .val (.int (own_bi (own_scan N (own_sel v0 v1 v2 v3 v4 v5 v6) 4 3))), .val (.int (own_bi (own_scan N (own_sel v0 v1 v2 v3 v4 v5 v6) 5 2))), .val (.int (own_bi (own_scan N (own_sel v0 v1 v2 v3 v4 v5 v6) 6 1))), .val (.int (own_bi (own_scan N (own_sel v0 v1 v2 v3 v4 v5 v6) 7 0))), .val (.int (1 : Int32))] [])
        refine Done.go (fun _ kt_ => XS.aload X2.here hx rfl (hb hby at_595) rfl rfl kt_) ?_
        show Done p e s below _ _ _ T2 (mkF m 597 #[.val (.int p0), .val (.long q1), .second, .val (.long q2), .second, .val (.int zl), .val (.ref b10), .val (.ref b21), .val (.ref b46), .val (.int (own_bi (own_p16 N v0 v1))), .val (.int (own_bi (own_p8 N v0 v1 v2))), .val (.int (own_bi (own_scan N (own_sel v0 v1 v2 v3 v4 v5 v6) 1 6))), .val (.int (own_bi (own_scan N (own_sel v0 v1 v2 v3 v4 v5 v6) 2 5))), .val (.int (own_bi (own_scan N (own_sel v0 v1 v2 v3 v4 v5 v6) 3 4))), .val (.int (own_bi (own_scan N (own_sel v0 v1 v2 v3 v4 v5 v6) 4 3))), .val (.int (own_bi (own_scan N (own_sel v0 v1 v2 v3 v4 v5 v6) 5 2))), .val (.int (own_bi (own_scan N (own_sel v0 v1 v2 v3 v4 v5 v6) 6 1))), .val (.int (own_bi (own_scan N (own_sel v0 v1 v2 v3 v4 v5 v6) 7 0))), .val (.int (1 : Int32))] [(.ref b46)])
        obtain ⟨v62, T62, Lc62, X62, hQ62, st62⟩ := own_backG (Jvm.LawKit.callS X2 hx (y := (⟨"spinecode/xml/XmlInput", "recognises", "([B)Z"⟩ : MethodName)) hown (mvT hZ (hw _ (List.mem_of_getElem? (i := 12) rfl))) (mvT hZ (hw _ (List.mem_of_getElem? (i := 13) rfl))) (mvT hZ (hw _ (List.mem_of_getElem? (i := 14) rfl))) (mvT hZ (hw _ (List.mem_of_getElem? (i := 15) rfl))) (by decide) (backOf (W := 0) (rm4 l Z a0 hw [] b46 N (own_sel v0 v1 v2 v3 v4 v5 v6) m1 m2 m3 h1 n0 z1 V1 hN7 (fun i hi => by
            match i, Nat.lt_of_lt_of_le hi hN7 with
            | 0, _ => exact hv0
            | 1, _ => exact hv1
            | 2, _ => exact hv2
            | 3, _ => exact hv3
            | 4, _ => exact hv4
            | 5, _ => exact hv5
            | 6, _ => exact hv6
            | i + 7, hi => omega) SS1 SS2 SS3 MM1 MM2 MM3) hZ (hw _ (List.mem_of_getElem? (i := 15) rfl)) (hw _ (List.mem_of_getElem? (i := 14) rfl)) (by decide) (by decide)) (g := (mkF m 597 #[.val (.int p0), .val (.long q1), .second, .val (.long q2), .second, .val (.int zl), .val (.ref b10), .val (.ref b21), .val (.ref b46), .val (.int (own_bi (own_p16 N v0 v1))), .val (.int (own_bi (own_p8 N v0 v1 v2))), .val (.int (own_bi (own_scan N (own_sel v0 v1 v2 v3 v4 v5 v6) 1 6))), .val (.int (own_bi (own_scan N (own_sel v0 v1 v2 v3 v4 v5 v6) 2 5))), .val (.int (own_bi (own_scan N (own_sel v0 v1 v2 v3 v4 v5 v6) 3 4))), .val (.int (own_bi (own_scan N (own_sel v0 v1 v2 v3 v4 v5 v6) 4 3))), .val (.int (own_bi (own_scan N (own_sel v0 v1 v2 v3 v4 v5 v6) 5 2))), .val (.int (own_bi (own_scan N (own_sel v0 v1 v2 v3 v4 v5 v6) 6 1))), .val (.int (own_bi (own_scan N (own_sel v0 v1 v2 v3 v4 v5 v6) 7 0))), .val (.int (1 : Int32))] [(.ref b46)])) rfl (by rw [hml]; rfl) (argsL := [(.ref b46)]) (rest := []) (lenOf own_pd2 rfl) rfl (by show 2 * 0 + _ ≤ _; exact Nat.le_of_eq rfl) (hb hby at_597) (fun _ _ => ⟨rfl, e2, (by first | decide | omega : 3 + 0 ≤ _), (by first | decide | omega : 24 + 0 ≤ _)⟩))
        obtain ⟨rfl, N62q, e62⟩ := hQ62
        refine Done.go st62 ?_
        clear st62
        have N62 := Fr.app N2 N62q
        clear N62q
        obtain ⟨Lh62, X62h, N62h⟩ : ∃ L, Stand p l e room_1 s m #[(.int p0), (.long q1), (.long q2)] below meth c T62 L 3 24 ∧ Fr n0 L := ⟨_, X62, N62⟩
        clear X62 N62 X2 e2 N2
        show Done p e s below _ _ _ T62 (mkF m 600 #[.val (.int p0), .val (.long q1), .second, .val (.long q2), .second, .val (.int zl), .val (.ref b10), .val (.ref b21), .val (.ref b46), .val (.int (own_bi (own_p16 N v0 v1))), .val (.int (own_bi (own_p8 N v0 v1 v2))), .val (.int (own_bi (own_scan N (own_sel v0 v1 v2 v3 v4 v5 v6) 1 6))), .val (.int (own_bi (own_scan N (own_sel v0 v1 v2 v3 v4 v5 v6) 2 5))), .val (.int (own_bi (own_scan N (own_sel v0 v1 v2 v3 v4 v5 v6) 3 4))), .val (.int (own_bi (own_scan N (own_sel v0 v1 v2 v3 v4 v5 v6) 4 3))), .val (.int (own_bi (own_scan N (own_sel v0 v1 v2 v3 v4 v5 v6) 5 2))), .val (.int (own_bi (own_scan N (own_sel v0 v1 v2 v3 v4 v5 v6) 6 1))), .val (.int (own_bi (own_scan N (own_sel v0 v1 v2 v3 v4 v5 v6) 7 0))), .val (.int (1 : Int32))] [(.int (own_bi (own_ans N (own_sel v0 v1 v2 v3 v4 v5 v6))))])
        refine Done.go (fun _ kt_ => XS.iload X62h.here hx rfl (hb hby at_600) rfl kt_) ?_
        show Done p e s below _ _ _ T62 (mkF m 602 #[.val (.int p0), .val (.long q1), .second, .val (.long q2), .second, .val (.int zl), .val (.ref b10), .val (.ref b21), .val (.ref b46), .val (.int (own_bi (own_p16 N v0 v1))), .val (.int (own_bi (own_p8 N v0 v1 v2))), .val (.int (own_bi (own_scan N (own_sel v0 v1 v2 v3 v4 v5 v6) 1 6))), .val (.int (own_bi (own_scan N (own_sel v0 v1 v2 v3 v4 v5 v6) 2 5))), .val (.int (own_bi (own_scan N (own_sel v0 v1 v2 v3 v4 v5 v6) 3 4))), .val (.int (own_bi (own_scan N (own_sel v0 v1 v2 v3 v4 v5 v6) 4 3))), .val (.int (own_bi (own_scan N (own_sel v0 v1 v2 v3 v4 v5 v6) 5 2))), .val (.int (own_bi (own_scan N (own_sel v0 v1 v2 v3 v4 v5 v6) 6 1))), .val (.int (own_bi (own_scan N (own_sel v0 v1 v2 v3 v4 v5 v6) 7 0))), .val (.int (1 : Int32))] [(.int (1 : Int32)), (.int (own_bi (own_ans N (own_sel v0 v1 v2 v3 v4 v5 v6))))])
        refine Done.go (fun _ kt_ => XS.icmpNo X62h.here hx rfl (hb hby at_602) rfl (teq hex).2 kt_) ?_
        show Done p e s below _ _ _ T62 (mkF m 605 #[.val (.int p0), .val (.long q1), .second, .val (.long q2), .second, .val (.int zl), .val (.ref b10), .val (.ref b21), .val (.ref b46), .val (.int (own_bi (own_p16 N v0 v1))), .val (.int (own_bi (own_p8 N v0 v1 v2))), .val (.int (own_bi (own_scan N (own_sel v0 v1 v2 v3 v4 v5 v6) 1 6))), .val (.int (own_bi (own_scan N (own_sel v0 v1 v2 v3 v4 v5 v6) 2 5))), .val (.int (own_bi (own_scan N (own_sel v0 v1 v2 v3 v4 v5 v6) 3 4))), .val (.int (own_bi (own_scan N (own_sel v0 v1 v2 v3 v4 v5 v6) 4 3))), .val (.int (own_bi (own_scan N (own_sel v0 v1 v2 v3 v4 v5 v6) 5 2))), .val (.int (own_bi (own_scan N (own_sel v0 v1 v2 v3 v4 v5 v6) 6 1))), .val (.int (own_bi (own_scan N (own_sel v0 v1 v2 v3 v4 v5 v6) 7 0))), .val (.int (1 : Int32))] [])
        refine Done.go (fun _ kt_ => XS.iconst X62h.here hx rfl (hb hby at_605) kt_) ?_
        show Done p e s below _ _ _ T62 (mkF m 606 #[.val (.int p0), .val (.long q1), .second, .val (.long q2), .second, .val (.int zl), .val (.ref b10), .val (.ref b21), .val (.ref b46), .val (.int (own_bi (own_p16 N v0 v1))), .val (.int (own_bi (own_p8 N v0 v1 v2))), .val (.int (own_bi (own_scan N (own_sel v0 v1 v2 v3 v4 v5 v6) 1 6))), .val (.int (own_bi (own_scan N (own_sel v0 v1 v2 v3 v4 v5 v6) 2 5))), .val (.int (own_bi (own_scan N (own_sel v0 v1 v2 v3 v4 v5 v6) 3 4))), .val (.int (own_bi (own_scan N (own_sel v0 v1 v2 v3 v4 v5 v6) 4 3))), .val (.int (own_bi (own_scan N (own_sel v0 v1 v2 v3 v4 v5 v6) 5 2))), .val (.int (own_bi (own_scan N (own_sel v0 v1 v2 v3 v4 v5 v6) 6 1))), .val (.int (own_bi (own_scan N (own_sel v0 v1 v2 v3 v4 v5 v6) 7 0))), .val (.int (1 : Int32))] [(.int (1 : Int32))])
        refine Done.go (fun _ kt_ => XS.goto X62h.here hx rfl (pc0 := 606) (pc' := 610) rfl (hb hby at_606) (by decide) (by decide) kt_) ?_
        show Done p e s below _ _ _ T62 (mkF m 610 #[.val (.int p0), .val (.long q1), .second, .val (.long q2), .second, .val (.int zl), .val (.ref b10), .val (.ref b21), .val (.ref b46), .val (.int (own_bi (own_p16 N v0 v1))), .val (.int (own_bi (own_p8 N v0 v1 v2))), .val (.int (own_bi (own_scan N (own_sel v0 v1 v2 v3 v4 v5 v6) 1 6))), .val (.int (own_bi (own_scan N (own_sel v0 v1 v2 v3 v4 v5 v6) 2 5))), .val (.int (own_bi (own_scan N (own_sel v0 v1 v2 v3 v4 v5 v6) 3 4))), .val (.int (own_bi (own_scan N (own_sel v0 v1 v2 v3 v4 v5 v6) 4 3))), .val (.int (own_bi (own_scan N (own_sel v0 v1 v2 v3 v4 v5 v6) 5 2))), .val (.int (own_bi (own_scan N (own_sel v0 v1 v2 v3 v4 v5 v6) 6 1))), .val (.int (own_bi (own_scan N (own_sel v0 v1 v2 v3 v4 v5 v6) 7 0))), .val (.int (1 : Int32))] [(.int (1 : Int32))])
        refine Done.retN X62h hx hlk (t := .boolean) hrt (by simp) (z' := (1 : Int32)) rfl (hb hby at_610) ?_ (by first | decide | omega) (by first | decide | omega)
        rw [e62]
        exact ⟨rfl, N62h⟩
    have J531 : ∀ (T2 : State) (L2 : List Loc) (av : Int32), Stand p l e room_1 s m #[(.int p0), (.long q1), (.long q2)] below meth c T2 L2 3 24 → T2.heap = h1 → Fr n0 L2 → av = (own_bi (own_scan N (own_sel v0 v1 v2 v3 v4 v5 v6) 6 1)) → Done p e s below 16 128 (Q0 n0) T2 (mkF m 531 #[.val (.int p0), .val (.long q1), .second, .val (.long q2), .second, .val (.int zl), .val (.ref b10), .val (.ref b21), .val (.ref b46), .val (.int (own_bi (own_p16 N v0 v1))), .val (.int (own_bi (own_p8 N v0 v1 v2))), .val (.int (own_bi (own_scan N (own_sel v0 v1 v2 v3 v4 v5 v6) 1 6))), .val (.int (own_bi (own_scan N (own_sel v0 v1 v2 v3 v4 v5 v6) 2 5))), .val (.int (own_bi (own_scan N (own_sel v0 v1 v2 v3 v4 v5 v6) 3 4))), .val (.int (own_bi (own_scan N (own_sel v0 v1 v2 v3 v4 v5 v6) 4 3))), .val (.int (own_bi (own_scan N (own_sel v0 v1 v2 v3 v4 v5 v6) 5 2))), .val (.int av), .unset, .unset] []) := by
      intro T2 L2 av X2 e2 N2 hav
      subst hav
      show Done p e s below _ _ _ T2 (mkF m 531 #[.val (.int p0), .val (.long q1), .second, .val (.long q2), .second, .val (.int zl), .val (.ref b10), .val (.ref b21), .val (.ref b46), .val (.int (own_bi (own_p16 N v0 v1))), .val (.int (own_bi (own_p8 N v0 v1 v2))), .val (.int (own_bi (own_scan N (own_sel v0 v1 v2 v3 v4 v5 v6) 1 6))), .val (.int (own_bi (own_scan N (own_sel v0 v1 v2 v3 v4 v5 v6) 2 5))), .val (.int (own_bi (own_scan N (own_sel v0 v1 v2 v3 v4 v5 v6) 3 4))), .val (.int (own_bi (own_scan N (own_sel v0 v1 v2 v3 v4 v5 v6) 4 3))), .val (.int (own_bi (own_scan N (own_sel v0 v1 v2 v3 v4 v5 v6) 5 2))), .val (.int (own_bi (own_scan N (own_sel v0 v1 v2 v3 v4 v5 v6) 6 1))), .unset, .unset] [])
      refine Done.go (fun _ kt_ => XS.aload X2.here hx rfl (hb hby at_531) rfl rfl kt_) ?_
      show Done p e s below _ _ _ T2 (mkF m 533 #[.val (.int p0), .val (.long q1), .second, .val (.long q2), .second, .val (.int zl), .val (.ref b10), .val (.ref b21), .val (.ref b46), .val (.int (own_bi (own_p16 N v0 v1))), .val (.int (own_bi (own_p8 N v0 v1 v2))), .val (.int (own_bi (own_scan N (own_sel v0 v1 v2 v3 v4 v5 v6) 1 6))), .val (.int (own_bi (own_scan N (own_sel v0 v1 v2 v3 v4 v5 v6) 2 5))), .val (.int (own_bi (own_scan N (own_sel v0 v1 v2 v3 v4 v5 v6) 3 4))), .val (.int (own_bi (own_scan N (own_sel v0 v1 v2 v3 v4 v5 v6) 4 3))), .val (.int (own_bi (own_scan N (own_sel v0 v1 v2 v3 v4 v5 v6) 5 2))), .val (.int (own_bi (own_scan N (own_sel v0 v1 v2 v3 v4 v5 v6) 6 1))), .unset, .unset] [(.ref b21)])
      refine Done.go (fun _ kt_ => XS.iload X2.here hx rfl (hb hby at_533) rfl kt_) ?_
      show Done p e s below _ _ _ T2 (mkF m 535 #[.val (.int p0), .val (.long q1), .second, .val (.long q2), .second, .val (.int zl), .val (.ref b10), .val (.ref b21), .val (.ref b46), .val (.int (own_bi (own_p16 N v0 v1))), .val (.int (own_bi (own_p8 N v0 v1 v2))), .val (.int (own_bi (own_scan N (own_sel v0 v1 v2 v3 v4 v5 v6) 1 6))), .val (.int (own_bi (own_scan N (own_sel v0 v1 v2 v3 v4 v5 v6) 2 5))), .val (.int (own_bi (own_scan N (own_sel v0 v1 v2 v3 v4 v5 v6) 3 4))), .val (.int (own_bi (own_scan N (own_sel v0 v1 v2 v3 v4 v5 v6) 4 3))), .val (.int (own_bi (own_scan N (own_sel v0 v1 v2 v3 v4 v5 v6) 5 2))), .val (.int (own_bi (own_scan N (own_sel v0 v1 v2 v3 v4 v5 v6) 6 1))), .unset, .unset] [(.int zl), (.ref b21)])
      refine Done.go (fun _ kt_ => XS.iconst X2.here hx rfl (hb hby at_535) kt_) ?_
      show Done p e s below _ _ _ T2 (mkF m 536 #[.val (.int p0), .val (.long q1), .second, .val (.long q2), .second, .val (.int zl), .val (.ref b10), .val (.ref b21), .val (.ref b46), .val (.int (own_bi (own_p16 N v0 v1))), .val (.int (own_bi (own_p8 N v0 v1 v2))), .val (.int (own_bi (own_scan N (own_sel v0 v1 v2 v3 v4 v5 v6) 1 6))), .val (.int (own_bi (own_scan N (own_sel v0 v1 v2 v3 v4 v5 v6) 2 5))), .val (.int (own_bi (own_scan N (own_sel v0 v1 v2 v3 v4 v5 v6) 3 4))), .val (.int (own_bi (own_scan N (own_sel v0 v1 v2 v3 v4 v5 v6) 4 3))), .val (.int (own_bi (own_scan N (own_sel v0 v1 v2 v3 v4 v5 v6) 5 2))), .val (.int (own_bi (own_scan N (own_sel v0 v1 v2 v3 v4 v5 v6) 6 1))), .unset, .unset] [(.int (0 : Int32)), (.int zl), (.ref b21)])
      obtain ⟨v63, T63, Lc63, X63, hQ63, st63⟩ := own_backG (Jvm.LawKit.callS X2 hx (y := (⟨"spinecode/xml/XmlInputRecognisesPinLaw", "lt", "([BII)Z"⟩ : MethodName)) hown (mvT hZ (hw _ (List.mem_of_getElem? (i := 6) rfl))) (mvT hZ (hw _ (List.mem_of_getElem? (i := 7) rfl))) (mvT hZ (hw _ (List.mem_of_getElem? (i := 3) rfl))) (mvT hZ (hw _ (List.mem_of_getElem? (i := 8) rfl))) (by decide) (backOf (W := 0) (rm2 l Z a0 hw [] b21 zl (0 : Int32) N 0 (own_sel v0 v1 v2 v3 v4 v5 v6) h1 n0 z1 VB1 hN (by decide) hN7) hZ (hw _ (List.mem_of_getElem? (i := 8) rfl)) (hw _ (List.mem_of_getElem? (i := 3) rfl)) (by decide) (by decide)) (g := (mkF m 536 #[.val (.int p0), .val (.long q1), .second, .val (.long q2), .second, .val (.int zl), .val (.ref b10), .val (.ref b21), .val (.ref b46), .val (.int (own_bi (own_p16 N v0 v1))), .val (.int (own_bi (own_p8 N v0 v1 v2))), .val (.int (own_bi (own_scan N (own_sel v0 v1 v2 v3 v4 v5 v6) 1 6))), .val (.int (own_bi (own_scan N (own_sel v0 v1 v2 v3 v4 v5 v6) 2 5))), .val (.int (own_bi (own_scan N (own_sel v0 v1 v2 v3 v4 v5 v6) 3 4))), .val (.int (own_bi (own_scan N (own_sel v0 v1 v2 v3 v4 v5 v6) 4 3))), .val (.int (own_bi (own_scan N (own_sel v0 v1 v2 v3 v4 v5 v6) 5 2))), .val (.int (own_bi (own_scan N (own_sel v0 v1 v2 v3 v4 v5 v6) 6 1))), .unset, .unset] [(.int (0 : Int32)), (.int zl), (.ref b21)])) rfl (by rw [hml]; rfl) (argsL := [(.ref b21), (.int zl), (.int (0 : Int32))]) (rest := []) (lenOf own_pd4 rfl) rfl (by show 2 * 0 + _ ≤ _; exact Nat.le_of_eq rfl) (hb hby at_536) (fun _ _ => ⟨rfl, e2, (by first | decide | omega : 3 + 0 ≤ _), (by first | decide | omega : 24 + 0 ≤ _)⟩))
      obtain ⟨rfl, N63q, e63⟩ := hQ63
      refine Done.go st63 ?_
      clear st63
      have N63 := Fr.app N2 N63q
      clear N63q
      obtain ⟨Lh63, X63h, N63h⟩ : ∃ L, Stand p l e room_1 s m #[(.int p0), (.long q1), (.long q2)] below meth c T63 L 3 24 ∧ Fr n0 L := ⟨_, X63, N63⟩
      clear X63 N63 X2 e2 N2
      show Done p e s below _ _ _ T63 (mkF m 539 #[.val (.int p0), .val (.long q1), .second, .val (.long q2), .second, .val (.int zl), .val (.ref b10), .val (.ref b21), .val (.ref b46), .val (.int (own_bi (own_p16 N v0 v1))), .val (.int (own_bi (own_p8 N v0 v1 v2))), .val (.int (own_bi (own_scan N (own_sel v0 v1 v2 v3 v4 v5 v6) 1 6))), .val (.int (own_bi (own_scan N (own_sel v0 v1 v2 v3 v4 v5 v6) 2 5))), .val (.int (own_bi (own_scan N (own_sel v0 v1 v2 v3 v4 v5 v6) 3 4))), .val (.int (own_bi (own_scan N (own_sel v0 v1 v2 v3 v4 v5 v6) 4 3))), .val (.int (own_bi (own_scan N (own_sel v0 v1 v2 v3 v4 v5 v6) 5 2))), .val (.int (own_bi (own_scan N (own_sel v0 v1 v2 v3 v4 v5 v6) 6 1))), .unset, .unset] [(.int (own_bi (decide (0 < N) && decide (((own_sel v0 v1 v2 v3 v4 v5 v6) 0) = 60))))])
      by_cases hc539 : (own_bi (decide (0 < N) && decide (((own_sel v0 v1 v2 v3 v4 v5 v6) 0) = 60))) = (0 : Int32)
      · skip
        refine Done.go (fun _ kt_ => XS.ifNo X63h.here hx rfl (hb hby at_539) rfl ((if0 _ _).trans (teq hc539).2) kt_) ?_
        show Done p e s below _ _ _ T63 (mkF m 542 #[.val (.int p0), .val (.long q1), .second, .val (.long q2), .second, .val (.int zl), .val (.ref b10), .val (.ref b21), .val (.ref b46), .val (.int (own_bi (own_p16 N v0 v1))), .val (.int (own_bi (own_p8 N v0 v1 v2))), .val (.int (own_bi (own_scan N (own_sel v0 v1 v2 v3 v4 v5 v6) 1 6))), .val (.int (own_bi (own_scan N (own_sel v0 v1 v2 v3 v4 v5 v6) 2 5))), .val (.int (own_bi (own_scan N (own_sel v0 v1 v2 v3 v4 v5 v6) 3 4))), .val (.int (own_bi (own_scan N (own_sel v0 v1 v2 v3 v4 v5 v6) 4 3))), .val (.int (own_bi (own_scan N (own_sel v0 v1 v2 v3 v4 v5 v6) 5 2))), .val (.int (own_bi (own_scan N (own_sel v0 v1 v2 v3 v4 v5 v6) 6 1))), .unset, .unset] [])
        refine Done.go (fun _ kt_ => XS.aload X63h.here hx rfl (hb hby at_542) rfl rfl kt_) ?_
        show Done p e s below _ _ _ T63 (mkF m 544 #[.val (.int p0), .val (.long q1), .second, .val (.long q2), .second, .val (.int zl), .val (.ref b10), .val (.ref b21), .val (.ref b46), .val (.int (own_bi (own_p16 N v0 v1))), .val (.int (own_bi (own_p8 N v0 v1 v2))), .val (.int (own_bi (own_scan N (own_sel v0 v1 v2 v3 v4 v5 v6) 1 6))), .val (.int (own_bi (own_scan N (own_sel v0 v1 v2 v3 v4 v5 v6) 2 5))), .val (.int (own_bi (own_scan N (own_sel v0 v1 v2 v3 v4 v5 v6) 3 4))), .val (.int (own_bi (own_scan N (own_sel v0 v1 v2 v3 v4 v5 v6) 4 3))), .val (.int (own_bi (own_scan N (own_sel v0 v1 v2 v3 v4 v5 v6) 5 2))), .val (.int (own_bi (own_scan N (own_sel v0 v1 v2 v3 v4 v5 v6) 6 1))), .unset, .unset] [(.ref b21)])
        refine Done.go (fun _ kt_ => XS.iload X63h.here hx rfl (hb hby at_544) rfl kt_) ?_
        show Done p e s below _ _ _ T63 (mkF m 546 #[.val (.int p0), .val (.long q1), .second, .val (.long q2), .second, .val (.int zl), .val (.ref b10), .val (.ref b21), .val (.ref b46), .val (.int (own_bi (own_p16 N v0 v1))), .val (.int (own_bi (own_p8 N v0 v1 v2))), .val (.int (own_bi (own_scan N (own_sel v0 v1 v2 v3 v4 v5 v6) 1 6))), .val (.int (own_bi (own_scan N (own_sel v0 v1 v2 v3 v4 v5 v6) 2 5))), .val (.int (own_bi (own_scan N (own_sel v0 v1 v2 v3 v4 v5 v6) 3 4))), .val (.int (own_bi (own_scan N (own_sel v0 v1 v2 v3 v4 v5 v6) 4 3))), .val (.int (own_bi (own_scan N (own_sel v0 v1 v2 v3 v4 v5 v6) 5 2))), .val (.int (own_bi (own_scan N (own_sel v0 v1 v2 v3 v4 v5 v6) 6 1))), .unset, .unset] [(.int zl), (.ref b21)])
        refine Done.go (fun _ kt_ => XS.iconst X63h.here hx rfl (hb hby at_546) kt_) ?_
        show Done p e s below _ _ _ T63 (mkF m 547 #[.val (.int p0), .val (.long q1), .second, .val (.long q2), .second, .val (.int zl), .val (.ref b10), .val (.ref b21), .val (.ref b46), .val (.int (own_bi (own_p16 N v0 v1))), .val (.int (own_bi (own_p8 N v0 v1 v2))), .val (.int (own_bi (own_scan N (own_sel v0 v1 v2 v3 v4 v5 v6) 1 6))), .val (.int (own_bi (own_scan N (own_sel v0 v1 v2 v3 v4 v5 v6) 2 5))), .val (.int (own_bi (own_scan N (own_sel v0 v1 v2 v3 v4 v5 v6) 3 4))), .val (.int (own_bi (own_scan N (own_sel v0 v1 v2 v3 v4 v5 v6) 4 3))), .val (.int (own_bi (own_scan N (own_sel v0 v1 v2 v3 v4 v5 v6) 5 2))), .val (.int (own_bi (own_scan N (own_sel v0 v1 v2 v3 v4 v5 v6) 6 1))), .unset, .unset] [(.int (0 : Int32)), (.int zl), (.ref b21)])
        obtain ⟨v64, T64, Lc64, X64, hQ64, st64⟩ := own_backG (Jvm.LawKit.callS X63h hx (y := (⟨"spinecode/xml/XmlInputRecognisesPinLaw", "ws", "([BII)Z"⟩ : MethodName)) hown (mvT hZ (hw _ (List.mem_of_getElem? (i := 9) rfl))) (mvT hZ (hw _ (List.mem_of_getElem? (i := 10) rfl))) (mvT hZ (hw _ (List.mem_of_getElem? (i := 3) rfl))) (mvT hZ (hw _ (List.mem_of_getElem? (i := 11) rfl))) (by decide) (backOf (W := 0) (rm3 l Z a0 hw [] b21 zl (0 : Int32) N 0 (own_sel v0 v1 v2 v3 v4 v5 v6) h1 n0 z1 VB1 hN (by decide) hN7) hZ (hw _ (List.mem_of_getElem? (i := 11) rfl)) (hw _ (List.mem_of_getElem? (i := 3) rfl)) (by decide) (by decide)) (g := (mkF m 547 #[.val (.int p0), .val (.long q1), .second, .val (.long q2), .second, .val (.int zl), .val (.ref b10), .val (.ref b21), .val (.ref b46), .val (.int (own_bi (own_p16 N v0 v1))), .val (.int (own_bi (own_p8 N v0 v1 v2))), .val (.int (own_bi (own_scan N (own_sel v0 v1 v2 v3 v4 v5 v6) 1 6))), .val (.int (own_bi (own_scan N (own_sel v0 v1 v2 v3 v4 v5 v6) 2 5))), .val (.int (own_bi (own_scan N (own_sel v0 v1 v2 v3 v4 v5 v6) 3 4))), .val (.int (own_bi (own_scan N (own_sel v0 v1 v2 v3 v4 v5 v6) 4 3))), .val (.int (own_bi (own_scan N (own_sel v0 v1 v2 v3 v4 v5 v6) 5 2))), .val (.int (own_bi (own_scan N (own_sel v0 v1 v2 v3 v4 v5 v6) 6 1))), .unset, .unset] [(.int (0 : Int32)), (.int zl), (.ref b21)])) rfl (by rw [hml]; rfl) (argsL := [(.ref b21), (.int zl), (.int (0 : Int32))]) (rest := []) (lenOf own_pd4 rfl) rfl (by show 2 * 0 + _ ≤ _; exact Nat.le_of_eq rfl) (hb hby at_547) (fun _ _ => ⟨rfl, e63, (by first | decide | omega : 3 + 0 ≤ _), (by first | decide | omega : 24 + 0 ≤ _)⟩))
        obtain ⟨rfl, N64q, e64⟩ := hQ64
        refine Done.go st64 ?_
        clear st64
        have N64 := Fr.app N63h N64q
        clear N64q
        obtain ⟨Lh64, X64h, N64h⟩ : ∃ L, Stand p l e room_1 s m #[(.int p0), (.long q1), (.long q2)] below meth c T64 L 3 24 ∧ Fr n0 L := ⟨_, X64, N64⟩
        clear X64 N64 X63h e63 N63h
        show Done p e s below _ _ _ T64 (mkF m 550 #[.val (.int p0), .val (.long q1), .second, .val (.long q2), .second, .val (.int zl), .val (.ref b10), .val (.ref b21), .val (.ref b46), .val (.int (own_bi (own_p16 N v0 v1))), .val (.int (own_bi (own_p8 N v0 v1 v2))), .val (.int (own_bi (own_scan N (own_sel v0 v1 v2 v3 v4 v5 v6) 1 6))), .val (.int (own_bi (own_scan N (own_sel v0 v1 v2 v3 v4 v5 v6) 2 5))), .val (.int (own_bi (own_scan N (own_sel v0 v1 v2 v3 v4 v5 v6) 3 4))), .val (.int (own_bi (own_scan N (own_sel v0 v1 v2 v3 v4 v5 v6) 4 3))), .val (.int (own_bi (own_scan N (own_sel v0 v1 v2 v3 v4 v5 v6) 5 2))), .val (.int (own_bi (own_scan N (own_sel v0 v1 v2 v3 v4 v5 v6) 6 1))), .unset, .unset] [(.int (own_bi (decide (0 < N) && own_ws ((own_sel v0 v1 v2 v3 v4 v5 v6) 0))))])
        by_cases hc550 : (own_bi (decide (0 < N) && own_ws ((own_sel v0 v1 v2 v3 v4 v5 v6) 0))) = (0 : Int32)
        · skip
          refine Done.go (fun _ kt_ => XS.ifYes X64h.here hx rfl (pc0 := 550) (pc' := 562) rfl (hb hby at_550) rfl ((if0 _ _).trans (teq hc550).1) (by decide) (by decide) kt_) ?_
          show Done p e s below _ _ _ T64 (mkF m 562 #[.val (.int p0), .val (.long q1), .second, .val (.long q2), .second, .val (.int zl), .val (.ref b10), .val (.ref b21), .val (.ref b46), .val (.int (own_bi (own_p16 N v0 v1))), .val (.int (own_bi (own_p8 N v0 v1 v2))), .val (.int (own_bi (own_scan N (own_sel v0 v1 v2 v3 v4 v5 v6) 1 6))), .val (.int (own_bi (own_scan N (own_sel v0 v1 v2 v3 v4 v5 v6) 2 5))), .val (.int (own_bi (own_scan N (own_sel v0 v1 v2 v3 v4 v5 v6) 3 4))), .val (.int (own_bi (own_scan N (own_sel v0 v1 v2 v3 v4 v5 v6) 4 3))), .val (.int (own_bi (own_scan N (own_sel v0 v1 v2 v3 v4 v5 v6) 5 2))), .val (.int (own_bi (own_scan N (own_sel v0 v1 v2 v3 v4 v5 v6) 6 1))), .unset, .unset] [])
          refine Done.go (fun _ kt_ => XS.iconst X64h.here hx rfl (hb hby at_562) kt_) ?_
          show Done p e s below _ _ _ T64 (mkF m 563 #[.val (.int p0), .val (.long q1), .second, .val (.long q2), .second, .val (.int zl), .val (.ref b10), .val (.ref b21), .val (.ref b46), .val (.int (own_bi (own_p16 N v0 v1))), .val (.int (own_bi (own_p8 N v0 v1 v2))), .val (.int (own_bi (own_scan N (own_sel v0 v1 v2 v3 v4 v5 v6) 1 6))), .val (.int (own_bi (own_scan N (own_sel v0 v1 v2 v3 v4 v5 v6) 2 5))), .val (.int (own_bi (own_scan N (own_sel v0 v1 v2 v3 v4 v5 v6) 3 4))), .val (.int (own_bi (own_scan N (own_sel v0 v1 v2 v3 v4 v5 v6) 4 3))), .val (.int (own_bi (own_scan N (own_sel v0 v1 v2 v3 v4 v5 v6) 5 2))), .val (.int (own_bi (own_scan N (own_sel v0 v1 v2 v3 v4 v5 v6) 6 1))), .unset, .unset] [(.int (0 : Int32))])
          refine Done.go (fun _ kt_ => XS.istore X64h.here hx rfl (hb hby at_563) rfl (l' := #[.val (.int p0), .val (.long q1), .second, .val (.long q2), .second, .val (.int zl), .val (.ref b10), .val (.ref b21), .val (.ref b46), .val (.int (own_bi (own_p16 N v0 v1))), .val (.int (own_bi (own_p8 N v0 v1 v2))), .val (.int (own_bi (own_scan N (own_sel v0 v1 v2 v3 v4 v5 v6) 1 6))), .val (.int (own_bi (own_scan N (own_sel v0 v1 v2 v3 v4 v5 v6) 2 5))), .val (.int (own_bi (own_scan N (own_sel v0 v1 v2 v3 v4 v5 v6) 3 4))), .val (.int (own_bi (own_scan N (own_sel v0 v1 v2 v3 v4 v5 v6) 4 3))), .val (.int (own_bi (own_scan N (own_sel v0 v1 v2 v3 v4 v5 v6) 5 2))), .val (.int (own_bi (own_scan N (own_sel v0 v1 v2 v3 v4 v5 v6) 6 1))), .val (.int (0 : Int32)), .unset]) rfl kt_) ?_
          show Done p e s below _ _ _ T64 (mkF m 565 #[.val (.int p0), .val (.long q1), .second, .val (.long q2), .second, .val (.int zl), .val (.ref b10), .val (.ref b21), .val (.ref b46), .val (.int (own_bi (own_p16 N v0 v1))), .val (.int (own_bi (own_p8 N v0 v1 v2))), .val (.int (own_bi (own_scan N (own_sel v0 v1 v2 v3 v4 v5 v6) 1 6))), .val (.int (own_bi (own_scan N (own_sel v0 v1 v2 v3 v4 v5 v6) 2 5))), .val (.int (own_bi (own_scan N (own_sel v0 v1 v2 v3 v4 v5 v6) 3 4))), .val (.int (own_bi (own_scan N (own_sel v0 v1 v2 v3 v4 v5 v6) 4 3))), .val (.int (own_bi (own_scan N (own_sel v0 v1 v2 v3 v4 v5 v6) 5 2))), .val (.int (own_bi (own_scan N (own_sel v0 v1 v2 v3 v4 v5 v6) 6 1))), .val (.int (0 : Int32)), .unset] [])
          have u539 := own_bi0.mp hc539
          have u550 := own_bi0.mp hc550
          exact J565 _ _ _ X64h e64 N64h (by
            show _ = own_bi ((decide (0 < N) && decide ((own_sel v0 v1 v2 v3 v4 v5 v6) 0 = 60)) || (decide (0 < N) && own_ws ((own_sel v0 v1 v2 v3 v4 v5 v6) 0) && own_scan N (own_sel v0 v1 v2 v3 v4 v5 v6) 6 1))
            rw [u539, u550]; rfl)
        · skip
          refine Done.go (fun _ kt_ => XS.ifNo X64h.here hx rfl (hb hby at_550) rfl ((if0 _ _).trans (feq hc550).1) kt_) ?_
          show Done p e s below _ _ _ T64 (mkF m 553 #[.val (.int p0), .val (.long q1), .second, .val (.long q2), .second, .val (.int zl), .val (.ref b10), .val (.ref b21), .val (.ref b46), .val (.int (own_bi (own_p16 N v0 v1))), .val (.int (own_bi (own_p8 N v0 v1 v2))), .val (.int (own_bi (own_scan N (own_sel v0 v1 v2 v3 v4 v5 v6) 1 6))), .val (.int (own_bi (own_scan N (own_sel v0 v1 v2 v3 v4 v5 v6) 2 5))), .val (.int (own_bi (own_scan N (own_sel v0 v1 v2 v3 v4 v5 v6) 3 4))), .val (.int (own_bi (own_scan N (own_sel v0 v1 v2 v3 v4 v5 v6) 4 3))), .val (.int (own_bi (own_scan N (own_sel v0 v1 v2 v3 v4 v5 v6) 5 2))), .val (.int (own_bi (own_scan N (own_sel v0 v1 v2 v3 v4 v5 v6) 6 1))), .unset, .unset] [])
          refine Done.go (fun _ kt_ => XS.iload X64h.here hx rfl (hb hby at_553) rfl kt_) ?_
          show Done p e s below _ _ _ T64 (mkF m 555 #[.val (.int p0), .val (.long q1), .second, .val (.long q2), .second, .val (.int zl), .val (.ref b10), .val (.ref b21), .val (.ref b46), .val (.int (own_bi (own_p16 N v0 v1))), .val (.int (own_bi (own_p8 N v0 v1 v2))), .val (.int (own_bi (own_scan N (own_sel v0 v1 v2 v3 v4 v5 v6) 1 6))), .val (.int (own_bi (own_scan N (own_sel v0 v1 v2 v3 v4 v5 v6) 2 5))), .val (.int (own_bi (own_scan N (own_sel v0 v1 v2 v3 v4 v5 v6) 3 4))), .val (.int (own_bi (own_scan N (own_sel v0 v1 v2 v3 v4 v5 v6) 4 3))), .val (.int (own_bi (own_scan N (own_sel v0 v1 v2 v3 v4 v5 v6) 5 2))), .val (.int (own_bi (own_scan N (own_sel v0 v1 v2 v3 v4 v5 v6) 6 1))), .unset, .unset] [(.int (own_bi (own_scan N (own_sel v0 v1 v2 v3 v4 v5 v6) 6 1)))])
          by_cases hc555 : (own_bi (own_scan N (own_sel v0 v1 v2 v3 v4 v5 v6) 6 1)) = (0 : Int32)
          · skip
            refine Done.go (fun _ kt_ => XS.ifYes X64h.here hx rfl (pc0 := 555) (pc' := 562) rfl (hb hby at_555) rfl ((if0 _ _).trans (teq hc555).1) (by decide) (by decide) kt_) ?_
            show Done p e s below _ _ _ T64 (mkF m 562 #[.val (.int p0), .val (.long q1), .second, .val (.long q2), .second, .val (.int zl), .val (.ref b10), .val (.ref b21), .val (.ref b46), .val (.int (own_bi (own_p16 N v0 v1))), .val (.int (own_bi (own_p8 N v0 v1 v2))), .val (.int (own_bi (own_scan N (own_sel v0 v1 v2 v3 v4 v5 v6) 1 6))), .val (.int (own_bi (own_scan N (own_sel v0 v1 v2 v3 v4 v5 v6) 2 5))), .val (.int (own_bi (own_scan N (own_sel v0 v1 v2 v3 v4 v5 v6) 3 4))), .val (.int (own_bi (own_scan N (own_sel v0 v1 v2 v3 v4 v5 v6) 4 3))), .val (.int (own_bi (own_scan N (own_sel v0 v1 v2 v3 v4 v5 v6) 5 2))), .val (.int (own_bi (own_scan N (own_sel v0 v1 v2 v3 v4 v5 v6) 6 1))), .unset, .unset] [])
            refine Done.go (fun _ kt_ => XS.iconst X64h.here hx rfl (hb hby at_562) kt_) ?_
            show Done p e s below _ _ _ T64 (mkF m 563 #[.val (.int p0), .val (.long q1), .second, .val (.long q2), .second, .val (.int zl), .val (.ref b10), .val (.ref b21), .val (.ref b46), .val (.int (own_bi (own_p16 N v0 v1))), .val (.int (own_bi (own_p8 N v0 v1 v2))), .val (.int (own_bi (own_scan N (own_sel v0 v1 v2 v3 v4 v5 v6) 1 6))), .val (.int (own_bi (own_scan N (own_sel v0 v1 v2 v3 v4 v5 v6) 2 5))), .val (.int (own_bi (own_scan N (own_sel v0 v1 v2 v3 v4 v5 v6) 3 4))), .val (.int (own_bi (own_scan N (own_sel v0 v1 v2 v3 v4 v5 v6) 4 3))), .val (.int (own_bi (own_scan N (own_sel v0 v1 v2 v3 v4 v5 v6) 5 2))), .val (.int (own_bi (own_scan N (own_sel v0 v1 v2 v3 v4 v5 v6) 6 1))), .unset, .unset] [(.int (0 : Int32))])
            refine Done.go (fun _ kt_ => XS.istore X64h.here hx rfl (hb hby at_563) rfl (l' := #[.val (.int p0), .val (.long q1), .second, .val (.long q2), .second, .val (.int zl), .val (.ref b10), .val (.ref b21), .val (.ref b46), .val (.int (own_bi (own_p16 N v0 v1))), .val (.int (own_bi (own_p8 N v0 v1 v2))), .val (.int (own_bi (own_scan N (own_sel v0 v1 v2 v3 v4 v5 v6) 1 6))), .val (.int (own_bi (own_scan N (own_sel v0 v1 v2 v3 v4 v5 v6) 2 5))), .val (.int (own_bi (own_scan N (own_sel v0 v1 v2 v3 v4 v5 v6) 3 4))), .val (.int (own_bi (own_scan N (own_sel v0 v1 v2 v3 v4 v5 v6) 4 3))), .val (.int (own_bi (own_scan N (own_sel v0 v1 v2 v3 v4 v5 v6) 5 2))), .val (.int (own_bi (own_scan N (own_sel v0 v1 v2 v3 v4 v5 v6) 6 1))), .val (.int (0 : Int32)), .unset]) rfl kt_) ?_
            show Done p e s below _ _ _ T64 (mkF m 565 #[.val (.int p0), .val (.long q1), .second, .val (.long q2), .second, .val (.int zl), .val (.ref b10), .val (.ref b21), .val (.ref b46), .val (.int (own_bi (own_p16 N v0 v1))), .val (.int (own_bi (own_p8 N v0 v1 v2))), .val (.int (own_bi (own_scan N (own_sel v0 v1 v2 v3 v4 v5 v6) 1 6))), .val (.int (own_bi (own_scan N (own_sel v0 v1 v2 v3 v4 v5 v6) 2 5))), .val (.int (own_bi (own_scan N (own_sel v0 v1 v2 v3 v4 v5 v6) 3 4))), .val (.int (own_bi (own_scan N (own_sel v0 v1 v2 v3 v4 v5 v6) 4 3))), .val (.int (own_bi (own_scan N (own_sel v0 v1 v2 v3 v4 v5 v6) 5 2))), .val (.int (own_bi (own_scan N (own_sel v0 v1 v2 v3 v4 v5 v6) 6 1))), .val (.int (0 : Int32)), .unset] [])
            have u539 := own_bi0.mp hc539
            have u550 := own_bi1.mp hc550
            have u555 := own_bi0.mp hc555
            exact J565 _ _ _ X64h e64 N64h (by
              show _ = own_bi ((decide (0 < N) && decide ((own_sel v0 v1 v2 v3 v4 v5 v6) 0 = 60)) || (decide (0 < N) && own_ws ((own_sel v0 v1 v2 v3 v4 v5 v6) 0) && own_scan N (own_sel v0 v1 v2 v3 v4 v5 v6) 6 1))
              rw [u539, u550, u555]; rfl)
          · skip
            refine Done.go (fun _ kt_ => XS.ifNo X64h.here hx rfl (hb hby at_555) rfl ((if0 _ _).trans (feq hc555).1) kt_) ?_
            show Done p e s below _ _ _ T64 (mkF m 558 #[.val (.int p0), .val (.long q1), .second, .val (.long q2), .second, .val (.int zl), .val (.ref b10), .val (.ref b21), .val (.ref b46), .val (.int (own_bi (own_p16 N v0 v1))), .val (.int (own_bi (own_p8 N v0 v1 v2))), .val (.int (own_bi (own_scan N (own_sel v0 v1 v2 v3 v4 v5 v6) 1 6))), .val (.int (own_bi (own_scan N (own_sel v0 v1 v2 v3 v4 v5 v6) 2 5))), .val (.int (own_bi (own_scan N (own_sel v0 v1 v2 v3 v4 v5 v6) 3 4))), .val (.int (own_bi (own_scan N (own_sel v0 v1 v2 v3 v4 v5 v6) 4 3))), .val (.int (own_bi (own_scan N (own_sel v0 v1 v2 v3 v4 v5 v6) 5 2))), .val (.int (own_bi (own_scan N (own_sel v0 v1 v2 v3 v4 v5 v6) 6 1))), .unset, .unset] [])
            refine Done.go (fun _ kt_ => XS.iconst X64h.here hx rfl (hb hby at_558) kt_) ?_
            show Done p e s below _ _ _ T64 (mkF m 559 #[.val (.int p0), .val (.long q1), .second, .val (.long q2), .second, .val (.int zl), .val (.ref b10), .val (.ref b21), .val (.ref b46), .val (.int (own_bi (own_p16 N v0 v1))), .val (.int (own_bi (own_p8 N v0 v1 v2))), .val (.int (own_bi (own_scan N (own_sel v0 v1 v2 v3 v4 v5 v6) 1 6))), .val (.int (own_bi (own_scan N (own_sel v0 v1 v2 v3 v4 v5 v6) 2 5))), .val (.int (own_bi (own_scan N (own_sel v0 v1 v2 v3 v4 v5 v6) 3 4))), .val (.int (own_bi (own_scan N (own_sel v0 v1 v2 v3 v4 v5 v6) 4 3))), .val (.int (own_bi (own_scan N (own_sel v0 v1 v2 v3 v4 v5 v6) 5 2))), .val (.int (own_bi (own_scan N (own_sel v0 v1 v2 v3 v4 v5 v6) 6 1))), .unset, .unset] [(.int (1 : Int32))])
            refine Done.go (fun _ kt_ => XS.goto X64h.here hx rfl (pc0 := 559) (pc' := 563) rfl (hb hby at_559) (by decide) (by decide) kt_) ?_
            show Done p e s below _ _ _ T64 (mkF m 563 #[.val (.int p0), .val (.long q1), .second, .val (.long q2), .second, .val (.int zl), .val (.ref b10), .val (.ref b21), .val (.ref b46), .val (.int (own_bi (own_p16 N v0 v1))), .val (.int (own_bi (own_p8 N v0 v1 v2))), .val (.int (own_bi (own_scan N (own_sel v0 v1 v2 v3 v4 v5 v6) 1 6))), .val (.int (own_bi (own_scan N (own_sel v0 v1 v2 v3 v4 v5 v6) 2 5))), .val (.int (own_bi (own_scan N (own_sel v0 v1 v2 v3 v4 v5 v6) 3 4))), .val (.int (own_bi (own_scan N (own_sel v0 v1 v2 v3 v4 v5 v6) 4 3))), .val (.int (own_bi (own_scan N (own_sel v0 v1 v2 v3 v4 v5 v6) 5 2))), .val (.int (own_bi (own_scan N (own_sel v0 v1 v2 v3 v4 v5 v6) 6 1))), .unset, .unset] [(.int (1 : Int32))])
            refine Done.go (fun _ kt_ => XS.istore X64h.here hx rfl (hb hby at_563) rfl (l' := #[.val (.int p0), .val (.long q1), .second, .val (.long q2), .second, .val (.int zl), .val (.ref b10), .val (.ref b21), .val (.ref b46), .val (.int (own_bi (own_p16 N v0 v1))), .val (.int (own_bi (own_p8 N v0 v1 v2))), .val (.int (own_bi (own_scan N (own_sel v0 v1 v2 v3 v4 v5 v6) 1 6))), .val (.int (own_bi (own_scan N (own_sel v0 v1 v2 v3 v4 v5 v6) 2 5))), .val (.int (own_bi (own_scan N (own_sel v0 v1 v2 v3 v4 v5 v6) 3 4))), .val (.int (own_bi (own_scan N (own_sel v0 v1 v2 v3 v4 v5 v6) 4 3))), .val (.int (own_bi (own_scan N (own_sel v0 v1 v2 v3 v4 v5 v6) 5 2))), .val (.int (own_bi (own_scan N (own_sel v0 v1 v2 v3 v4 v5 v6) 6 1))), .val (.int (1 : Int32)), .unset]) rfl kt_) ?_
            show Done p e s below _ _ _ T64 (mkF m 565 #[.val (.int p0), .val (.long q1), .second, .val (.long q2), .second, .val (.int zl), .val (.ref b10), .val (.ref b21), .val (.ref b46), .val (.int (own_bi (own_p16 N v0 v1))), .val (.int (own_bi (own_p8 N v0 v1 v2))), .val (.int (own_bi (own_scan N (own_sel v0 v1 v2 v3 v4 v5 v6) 1 6))), .val (.int (own_bi (own_scan N (own_sel v0 v1 v2 v3 v4 v5 v6) 2 5))), .val (.int (own_bi (own_scan N (own_sel v0 v1 v2 v3 v4 v5 v6) 3 4))), .val (.int (own_bi (own_scan N (own_sel v0 v1 v2 v3 v4 v5 v6) 4 3))), .val (.int (own_bi (own_scan N (own_sel v0 v1 v2 v3 v4 v5 v6) 5 2))), .val (.int (own_bi (own_scan N (own_sel v0 v1 v2 v3 v4 v5 v6) 6 1))), .val (.int (1 : Int32)), .unset] [])
            have u539 := own_bi0.mp hc539
            have u550 := own_bi1.mp hc550
            have u555 := own_bi1.mp hc555
            exact J565 _ _ _ X64h e64 N64h (by
              show _ = own_bi ((decide (0 < N) && decide ((own_sel v0 v1 v2 v3 v4 v5 v6) 0 = 60)) || (decide (0 < N) && own_ws ((own_sel v0 v1 v2 v3 v4 v5 v6) 0) && own_scan N (own_sel v0 v1 v2 v3 v4 v5 v6) 6 1))
              rw [u539, u550, u555]; rfl)
      · skip
        refine Done.go (fun _ kt_ => XS.ifYes X63h.here hx rfl (pc0 := 539) (pc' := 558) rfl (hb hby at_539) rfl ((if0 _ _).trans (feq hc539).2) (by decide) (by decide) kt_) ?_
        show Done p e s below _ _ _ T63 (mkF m 558 #[.val (.int p0), .val (.long q1), .second, .val (.long q2), .second, .val (.int zl), .val (.ref b10), .val (.ref b21), .val (.ref b46), .val (.int (own_bi (own_p16 N v0 v1))), .val (.int (own_bi (own_p8 N v0 v1 v2))), .val (.int (own_bi (own_scan N (own_sel v0 v1 v2 v3 v4 v5 v6) 1 6))), .val (.int (own_bi (own_scan N (own_sel v0 v1 v2 v3 v4 v5 v6) 2 5))), .val (.int (own_bi (own_scan N (own_sel v0 v1 v2 v3 v4 v5 v6) 3 4))), .val (.int (own_bi (own_scan N (own_sel v0 v1 v2 v3 v4 v5 v6) 4 3))), .val (.int (own_bi (own_scan N (own_sel v0 v1 v2 v3 v4 v5 v6) 5 2))), .val (.int (own_bi (own_scan N (own_sel v0 v1 v2 v3 v4 v5 v6) 6 1))), .unset, .unset] [])
        refine Done.go (fun _ kt_ => XS.iconst X63h.here hx rfl (hb hby at_558) kt_) ?_
        show Done p e s below _ _ _ T63 (mkF m 559 #[.val (.int p0), .val (.long q1), .second, .val (.long q2), .second, .val (.int zl), .val (.ref b10), .val (.ref b21), .val (.ref b46), .val (.int (own_bi (own_p16 N v0 v1))), .val (.int (own_bi (own_p8 N v0 v1 v2))), .val (.int (own_bi (own_scan N (own_sel v0 v1 v2 v3 v4 v5 v6) 1 6))), .val (.int (own_bi (own_scan N (own_sel v0 v1 v2 v3 v4 v5 v6) 2 5))), .val (.int (own_bi (own_scan N (own_sel v0 v1 v2 v3 v4 v5 v6) 3 4))), .val (.int (own_bi (own_scan N (own_sel v0 v1 v2 v3 v4 v5 v6) 4 3))), .val (.int (own_bi (own_scan N (own_sel v0 v1 v2 v3 v4 v5 v6) 5 2))), .val (.int (own_bi (own_scan N (own_sel v0 v1 v2 v3 v4 v5 v6) 6 1))), .unset, .unset] [(.int (1 : Int32))])
        refine Done.go (fun _ kt_ => XS.goto X63h.here hx rfl (pc0 := 559) (pc' := 563) rfl (hb hby at_559) (by decide) (by decide) kt_) ?_
        show Done p e s below _ _ _ T63 (mkF m 563 #[.val (.int p0), .val (.long q1), .second, .val (.long q2), .second, .val (.int zl), .val (.ref b10), .val (.ref b21), .val (.ref b46), .val (.int (own_bi (own_p16 N v0 v1))), .val (.int (own_bi (own_p8 N v0 v1 v2))), .val (.int (own_bi (own_scan N (own_sel v0 v1 v2 v3 v4 v5 v6) 1 6))), .val (.int (own_bi (own_scan N (own_sel v0 v1 v2 v3 v4 v5 v6) 2 5))), .val (.int (own_bi (own_scan N (own_sel v0 v1 v2 v3 v4 v5 v6) 3 4))), .val (.int (own_bi (own_scan N (own_sel v0 v1 v2 v3 v4 v5 v6) 4 3))), .val (.int (own_bi (own_scan N (own_sel v0 v1 v2 v3 v4 v5 v6) 5 2))), .val (.int (own_bi (own_scan N (own_sel v0 v1 v2 v3 v4 v5 v6) 6 1))), .unset, .unset] [(.int (1 : Int32))])
        refine Done.go (fun _ kt_ => XS.istore X63h.here hx rfl (hb hby at_563) rfl (l' := #[.val (.int p0), .val (.long q1), .second, .val (.long q2), .second, .val (.int zl), .val (.ref b10), .val (.ref b21), .val (.ref b46), .val (.int (own_bi (own_p16 N v0 v1))), .val (.int (own_bi (own_p8 N v0 v1 v2))), .val (.int (own_bi (own_scan N (own_sel v0 v1 v2 v3 v4 v5 v6) 1 6))), .val (.int (own_bi (own_scan N (own_sel v0 v1 v2 v3 v4 v5 v6) 2 5))), .val (.int (own_bi (own_scan N (own_sel v0 v1 v2 v3 v4 v5 v6) 3 4))), .val (.int (own_bi (own_scan N (own_sel v0 v1 v2 v3 v4 v5 v6) 4 3))), .val (.int (own_bi (own_scan N (own_sel v0 v1 v2 v3 v4 v5 v6) 5 2))), .val (.int (own_bi (own_scan N (own_sel v0 v1 v2 v3 v4 v5 v6) 6 1))), .val (.int (1 : Int32)), .unset]) rfl kt_) ?_
        show Done p e s below _ _ _ T63 (mkF m 565 #[.val (.int p0), .val (.long q1), .second, .val (.long q2), .second, .val (.int zl), .val (.ref b10), .val (.ref b21), .val (.ref b46), .val (.int (own_bi (own_p16 N v0 v1))), .val (.int (own_bi (own_p8 N v0 v1 v2))), .val (.int (own_bi (own_scan N (own_sel v0 v1 v2 v3 v4 v5 v6) 1 6))), .val (.int (own_bi (own_scan N (own_sel v0 v1 v2 v3 v4 v5 v6) 2 5))), .val (.int (own_bi (own_scan N (own_sel v0 v1 v2 v3 v4 v5 v6) 3 4))), .val (.int (own_bi (own_scan N (own_sel v0 v1 v2 v3 v4 v5 v6) 4 3))), .val (.int (own_bi (own_scan N (own_sel v0 v1 v2 v3 v4 v5 v6) 5 2))), .val (.int (own_bi (own_scan N (own_sel v0 v1 v2 v3 v4 v5 v6) 6 1))), .val (.int (1 : Int32)), .unset] [])
        have u539 := own_bi1.mp hc539
        exact J565 _ _ _ X63h e63 N63h (by
          show _ = own_bi ((decide (0 < N) && decide ((own_sel v0 v1 v2 v3 v4 v5 v6) 0 = 60)) || (decide (0 < N) && own_ws ((own_sel v0 v1 v2 v3 v4 v5 v6) 0) && own_scan N (own_sel v0 v1 v2 v3 v4 v5 v6) 6 1))
          rw [u539]; rfl)
    have J497 : ∀ (T2 : State) (L2 : List Loc) (av : Int32), Stand p l e room_1 s m #[(.int p0), (.long q1), (.long q2)] below meth c T2 L2 3 24 → T2.heap = h1 → Fr n0 L2 → av = (own_bi (own_scan N (own_sel v0 v1 v2 v3 v4 v5 v6) 5 2)) → Done p e s below 16 128 (Q0 n0) T2 (mkF m 497 #[.val (.int p0), .val (.long q1), .second, .val (.long q2), .second, .val (.int zl), .val (.ref b10), .val (.ref b21), .val (.ref b46), .val (.int (own_bi (own_p16 N v0 v1))), .val (.int (own_bi (own_p8 N v0 v1 v2))), .val (.int (own_bi (own_scan N (own_sel v0 v1 v2 v3 v4 v5 v6) 1 6))), .val (.int (own_bi (own_scan N (own_sel v0 v1 v2 v3 v4 v5 v6) 2 5))), .val (.int (own_bi (own_scan N (own_sel v0 v1 v2 v3 v4 v5 v6) 3 4))), .val (.int (own_bi (own_scan N (own_sel v0 v1 v2 v3 v4 v5 v6) 4 3))), .val (.int av), .unset, .unset, .unset] []) := by
      intro T2 L2 av X2 e2 N2 hav
      subst hav
      show Done p e s below _ _ _ T2 (mkF m 497 #[.val (.int p0), .val (.long q1), .second, .val (.long q2), .second, .val (.int zl), .val (.ref b10), .val (.ref b21), .val (.ref b46), .val (.int (own_bi (own_p16 N v0 v1))), .val (.int (own_bi (own_p8 N v0 v1 v2))), .val (.int (own_bi (own_scan N (own_sel v0 v1 v2 v3 v4 v5 v6) 1 6))), .val (.int (own_bi (own_scan N (own_sel v0 v1 v2 v3 v4 v5 v6) 2 5))), .val (.int (own_bi (own_scan N (own_sel v0 v1 v2 v3 v4 v5 v6) 3 4))), .val (.int (own_bi (own_scan N (own_sel v0 v1 v2 v3 v4 v5 v6) 4 3))), .val (.int (own_bi (own_scan N (own_sel v0 v1 v2 v3 v4 v5 v6) 5 2))), .unset, .unset, .unset] [])
      refine Done.go (fun _ kt_ => XS.aload X2.here hx rfl (hb hby at_497) rfl rfl kt_) ?_
      show Done p e s below _ _ _ T2 (mkF m 499 #[.val (.int p0), .val (.long q1), .second, .val (.long q2), .second, .val (.int zl), .val (.ref b10), .val (.ref b21), .val (.ref b46), .val (.int (own_bi (own_p16 N v0 v1))), .val (.int (own_bi (own_p8 N v0 v1 v2))), .val (.int (own_bi (own_scan N (own_sel v0 v1 v2 v3 v4 v5 v6) 1 6))), .val (.int (own_bi (own_scan N (own_sel v0 v1 v2 v3 v4 v5 v6) 2 5))), .val (.int (own_bi (own_scan N (own_sel v0 v1 v2 v3 v4 v5 v6) 3 4))), .val (.int (own_bi (own_scan N (own_sel v0 v1 v2 v3 v4 v5 v6) 4 3))), .val (.int (own_bi (own_scan N (own_sel v0 v1 v2 v3 v4 v5 v6) 5 2))), .unset, .unset, .unset] [(.ref b21)])
      refine Done.go (fun _ kt_ => XS.iload X2.here hx rfl (hb hby at_499) rfl kt_) ?_
      show Done p e s below _ _ _ T2 (mkF m 501 #[.val (.int p0), .val (.long q1), .second, .val (.long q2), .second, .val (.int zl), .val (.ref b10), .val (.ref b21), .val (.ref b46), .val (.int (own_bi (own_p16 N v0 v1))), .val (.int (own_bi (own_p8 N v0 v1 v2))), .val (.int (own_bi (own_scan N (own_sel v0 v1 v2 v3 v4 v5 v6) 1 6))), .val (.int (own_bi (own_scan N (own_sel v0 v1 v2 v3 v4 v5 v6) 2 5))), .val (.int (own_bi (own_scan N (own_sel v0 v1 v2 v3 v4 v5 v6) 3 4))), .val (.int (own_bi (own_scan N (own_sel v0 v1 v2 v3 v4 v5 v6) 4 3))), .val (.int (own_bi (own_scan N (own_sel v0 v1 v2 v3 v4 v5 v6) 5 2))), .unset, .unset, .unset] [(.int zl), (.ref b21)])
      refine Done.go (fun _ kt_ => XS.iconst X2.here hx rfl (hb hby at_501) kt_) ?_
      show Done p e s below _ _ _ T2 (mkF m 502 #[.val (.int p0), .val (.long q1), .second, .val (.long q2), .second, .val (.int zl), .val (.ref b10), .val (.ref b21), .val (.ref b46), .val (.int (own_bi (own_p16 N v0 v1))), .val (.int (own_bi (own_p8 N v0 v1 v2))), .val (.int (own_bi (own_scan N (own_sel v0 v1 v2 v3 v4 v5 v6) 1 6))), .val (.int (own_bi (own_scan N (own_sel v0 v1 v2 v3 v4 v5 v6) 2 5))), .val (.int (own_bi (own_scan N (own_sel v0 v1 v2 v3 v4 v5 v6) 3 4))), .val (.int (own_bi (own_scan N (own_sel v0 v1 v2 v3 v4 v5 v6) 4 3))), .val (.int (own_bi (own_scan N (own_sel v0 v1 v2 v3 v4 v5 v6) 5 2))), .unset, .unset, .unset] [(.int (1 : Int32)), (.int zl), (.ref b21)])
      obtain ⟨v65, T65, Lc65, X65, hQ65, st65⟩ := own_backG (Jvm.LawKit.callS X2 hx (y := (⟨"spinecode/xml/XmlInputRecognisesPinLaw", "lt", "([BII)Z"⟩ : MethodName)) hown (mvT hZ (hw _ (List.mem_of_getElem? (i := 6) rfl))) (mvT hZ (hw _ (List.mem_of_getElem? (i := 7) rfl))) (mvT hZ (hw _ (List.mem_of_getElem? (i := 3) rfl))) (mvT hZ (hw _ (List.mem_of_getElem? (i := 8) rfl))) (by decide) (backOf (W := 0) (rm2 l Z a0 hw [] b21 zl (1 : Int32) N 1 (own_sel v0 v1 v2 v3 v4 v5 v6) h1 n0 z1 VB1 hN (by decide) hN7) hZ (hw _ (List.mem_of_getElem? (i := 8) rfl)) (hw _ (List.mem_of_getElem? (i := 3) rfl)) (by decide) (by decide)) (g := (mkF m 502 #[.val (.int p0), .val (.long q1), .second, .val (.long q2), .second, .val (.int zl), .val (.ref b10), .val (.ref b21), .val (.ref b46), .val (.int (own_bi (own_p16 N v0 v1))), .val (.int (own_bi (own_p8 N v0 v1 v2))), .val (.int (own_bi (own_scan N (own_sel v0 v1 v2 v3 v4 v5 v6) 1 6))), .val (.int (own_bi (own_scan N (own_sel v0 v1 v2 v3 v4 v5 v6) 2 5))), .val (.int (own_bi (own_scan N (own_sel v0 v1 v2 v3 v4 v5 v6) 3 4))), .val (.int (own_bi (own_scan N (own_sel v0 v1 v2 v3 v4 v5 v6) 4 3))), .val (.int (own_bi (own_scan N (own_sel v0 v1 v2 v3 v4 v5 v6) 5 2))), .unset, .unset, .unset] [(.int (1 : Int32)), (.int zl), (.ref b21)])) rfl (by rw [hml]; rfl) (argsL := [(.ref b21), (.int zl), (.int (1 : Int32))]) (rest := []) (lenOf own_pd4 rfl) rfl (by show 2 * 0 + _ ≤ _; exact Nat.le_of_eq rfl) (hb hby at_502) (fun _ _ => ⟨rfl, e2, (by first | decide | omega : 3 + 0 ≤ _), (by first | decide | omega : 24 + 0 ≤ _)⟩))
      obtain ⟨rfl, N65q, e65⟩ := hQ65
      refine Done.go st65 ?_
      clear st65
      have N65 := Fr.app N2 N65q
      clear N65q
      obtain ⟨Lh65, X65h, N65h⟩ : ∃ L, Stand p l e room_1 s m #[(.int p0), (.long q1), (.long q2)] below meth c T65 L 3 24 ∧ Fr n0 L := ⟨_, X65, N65⟩
      clear X65 N65 X2 e2 N2
      show Done p e s below _ _ _ T65 (mkF m 505 #[.val (.int p0), .val (.long q1), .second, .val (.long q2), .second, .val (.int zl), .val (.ref b10), .val (.ref b21), .val (.ref b46), .val (.int (own_bi (own_p16 N v0 v1))), .val (.int (own_bi (own_p8 N v0 v1 v2))), .val (.int (own_bi (own_scan N (own_sel v0 v1 v2 v3 v4 v5 v6) 1 6))), .val (.int (own_bi (own_scan N (own_sel v0 v1 v2 v3 v4 v5 v6) 2 5))), .val (.int (own_bi (own_scan N (own_sel v0 v1 v2 v3 v4 v5 v6) 3 4))), .val (.int (own_bi (own_scan N (own_sel v0 v1 v2 v3 v4 v5 v6) 4 3))), .val (.int (own_bi (own_scan N (own_sel v0 v1 v2 v3 v4 v5 v6) 5 2))), .unset, .unset, .unset] [(.int (own_bi (decide (1 < N) && decide (((own_sel v0 v1 v2 v3 v4 v5 v6) 1) = 60))))])
      by_cases hc505 : (own_bi (decide (1 < N) && decide (((own_sel v0 v1 v2 v3 v4 v5 v6) 1) = 60))) = (0 : Int32)
      · skip
        refine Done.go (fun _ kt_ => XS.ifNo X65h.here hx rfl (hb hby at_505) rfl ((if0 _ _).trans (teq hc505).2) kt_) ?_
        show Done p e s below _ _ _ T65 (mkF m 508 #[.val (.int p0), .val (.long q1), .second, .val (.long q2), .second, .val (.int zl), .val (.ref b10), .val (.ref b21), .val (.ref b46), .val (.int (own_bi (own_p16 N v0 v1))), .val (.int (own_bi (own_p8 N v0 v1 v2))), .val (.int (own_bi (own_scan N (own_sel v0 v1 v2 v3 v4 v5 v6) 1 6))), .val (.int (own_bi (own_scan N (own_sel v0 v1 v2 v3 v4 v5 v6) 2 5))), .val (.int (own_bi (own_scan N (own_sel v0 v1 v2 v3 v4 v5 v6) 3 4))), .val (.int (own_bi (own_scan N (own_sel v0 v1 v2 v3 v4 v5 v6) 4 3))), .val (.int (own_bi (own_scan N (own_sel v0 v1 v2 v3 v4 v5 v6) 5 2))), .unset, .unset, .unset] [])
        refine Done.go (fun _ kt_ => XS.aload X65h.here hx rfl (hb hby at_508) rfl rfl kt_) ?_
        show Done p e s below _ _ _ T65 (mkF m 510 #[.val (.int p0), .val (.long q1), .second, .val (.long q2), .second, .val (.int zl), .val (.ref b10), .val (.ref b21), .val (.ref b46), .val (.int (own_bi (own_p16 N v0 v1))), .val (.int (own_bi (own_p8 N v0 v1 v2))), .val (.int (own_bi (own_scan N (own_sel v0 v1 v2 v3 v4 v5 v6) 1 6))), .val (.int (own_bi (own_scan N (own_sel v0 v1 v2 v3 v4 v5 v6) 2 5))), .val (.int (own_bi (own_scan N (own_sel v0 v1 v2 v3 v4 v5 v6) 3 4))), .val (.int (own_bi (own_scan N (own_sel v0 v1 v2 v3 v4 v5 v6) 4 3))), .val (.int (own_bi (own_scan N (own_sel v0 v1 v2 v3 v4 v5 v6) 5 2))), .unset, .unset, .unset] [(.ref b21)])
        refine Done.go (fun _ kt_ => XS.iload X65h.here hx rfl (hb hby at_510) rfl kt_) ?_
        show Done p e s below _ _ _ T65 (mkF m 512 #[.val (.int p0), .val (.long q1), .second, .val (.long q2), .second, .val (.int zl), .val (.ref b10), .val (.ref b21), .val (.ref b46), .val (.int (own_bi (own_p16 N v0 v1))), .val (.int (own_bi (own_p8 N v0 v1 v2))), .val (.int (own_bi (own_scan N (own_sel v0 v1 v2 v3 v4 v5 v6) 1 6))), .val (.int (own_bi (own_scan N (own_sel v0 v1 v2 v3 v4 v5 v6) 2 5))), .val (.int (own_bi (own_scan N (own_sel v0 v1 v2 v3 v4 v5 v6) 3 4))), .val (.int (own_bi (own_scan N (own_sel v0 v1 v2 v3 v4 v5 v6) 4 3))), .val (.int (own_bi (own_scan N (own_sel v0 v1 v2 v3 v4 v5 v6) 5 2))), .unset, .unset, .unset] [(.int zl), (.ref b21)])
        refine Done.go (fun _ kt_ => XS.iconst X65h.here hx rfl (hb hby at_512) kt_) ?_
        show Done p e s below _ _ _ T65 (mkF m 513 #[.val (.int p0), .val (.long q1), .second, .val (.long q2), .second, .val (.int zl), .val (.ref b10), .val (.ref b21), .val (.ref b46), .val (.int (own_bi (own_p16 N v0 v1))), .val (.int (own_bi (own_p8 N v0 v1 v2))), .val (.int (own_bi (own_scan N (own_sel v0 v1 v2 v3 v4 v5 v6) 1 6))), .val (.int (own_bi (own_scan N (own_sel v0 v1 v2 v3 v4 v5 v6) 2 5))), .val (.int (own_bi (own_scan N (own_sel v0 v1 v2 v3 v4 v5 v6) 3 4))), .val (.int (own_bi (own_scan N (own_sel v0 v1 v2 v3 v4 v5 v6) 4 3))), .val (.int (own_bi (own_scan N (own_sel v0 v1 v2 v3 v4 v5 v6) 5 2))), .unset, .unset, .unset] [(.int (1 : Int32)), (.int zl), (.ref b21)])
        obtain ⟨v66, T66, Lc66, X66, hQ66, st66⟩ := own_backG (Jvm.LawKit.callS X65h hx (y := (⟨"spinecode/xml/XmlInputRecognisesPinLaw", "ws", "([BII)Z"⟩ : MethodName)) hown (mvT hZ (hw _ (List.mem_of_getElem? (i := 9) rfl))) (mvT hZ (hw _ (List.mem_of_getElem? (i := 10) rfl))) (mvT hZ (hw _ (List.mem_of_getElem? (i := 3) rfl))) (mvT hZ (hw _ (List.mem_of_getElem? (i := 11) rfl))) (by decide) (backOf (W := 0) (rm3 l Z a0 hw [] b21 zl (1 : Int32) N 1 (own_sel v0 v1 v2 v3 v4 v5 v6) h1 n0 z1 VB1 hN (by decide) hN7) hZ (hw _ (List.mem_of_getElem? (i := 11) rfl)) (hw _ (List.mem_of_getElem? (i := 3) rfl)) (by decide) (by decide)) (g := (mkF m 513 #[.val (.int p0), .val (.long q1), .second, .val (.long q2), .second, .val (.int zl), .val (.ref b10), .val (.ref b21), .val (.ref b46), .val (.int (own_bi (own_p16 N v0 v1))), .val (.int (own_bi (own_p8 N v0 v1 v2))), .val (.int (own_bi (own_scan N (own_sel v0 v1 v2 v3 v4 v5 v6) 1 6))), .val (.int (own_bi (own_scan N (own_sel v0 v1 v2 v3 v4 v5 v6) 2 5))), .val (.int (own_bi (own_scan N (own_sel v0 v1 v2 v3 v4 v5 v6) 3 4))), .val (.int (own_bi (own_scan N (own_sel v0 v1 v2 v3 v4 v5 v6) 4 3))), .val (.int (own_bi (own_scan N (own_sel v0 v1 v2 v3 v4 v5 v6) 5 2))), .unset, .unset, .unset] [(.int (1 : Int32)), (.int zl), (.ref b21)])) rfl (by rw [hml]; rfl) (argsL := [(.ref b21), (.int zl), (.int (1 : Int32))]) (rest := []) (lenOf own_pd4 rfl) rfl (by show 2 * 0 + _ ≤ _; exact Nat.le_of_eq rfl) (hb hby at_513) (fun _ _ => ⟨rfl, e65, (by first | decide | omega : 3 + 0 ≤ _), (by first | decide | omega : 24 + 0 ≤ _)⟩))
        obtain ⟨rfl, N66q, e66⟩ := hQ66
        refine Done.go st66 ?_
        clear st66
        have N66 := Fr.app N65h N66q
        clear N66q
        obtain ⟨Lh66, X66h, N66h⟩ : ∃ L, Stand p l e room_1 s m #[(.int p0), (.long q1), (.long q2)] below meth c T66 L 3 24 ∧ Fr n0 L := ⟨_, X66, N66⟩
        clear X66 N66 X65h e65 N65h
        show Done p e s below _ _ _ T66 (mkF m 516 #[.val (.int p0), .val (.long q1), .second, .val (.long q2), .second, .val (.int zl), .val (.ref b10), .val (.ref b21), .val (.ref b46), .val (.int (own_bi (own_p16 N v0 v1))), .val (.int (own_bi (own_p8 N v0 v1 v2))), .val (.int (own_bi (own_scan N (own_sel v0 v1 v2 v3 v4 v5 v6) 1 6))), .val (.int (own_bi (own_scan N (own_sel v0 v1 v2 v3 v4 v5 v6) 2 5))), .val (.int (own_bi (own_scan N (own_sel v0 v1 v2 v3 v4 v5 v6) 3 4))), .val (.int (own_bi (own_scan N (own_sel v0 v1 v2 v3 v4 v5 v6) 4 3))), .val (.int (own_bi (own_scan N (own_sel v0 v1 v2 v3 v4 v5 v6) 5 2))), .unset, .unset, .unset] [(.int (own_bi (decide (1 < N) && own_ws ((own_sel v0 v1 v2 v3 v4 v5 v6) 1))))])
        by_cases hc516 : (own_bi (decide (1 < N) && own_ws ((own_sel v0 v1 v2 v3 v4 v5 v6) 1))) = (0 : Int32)
        · skip
          refine Done.go (fun _ kt_ => XS.ifYes X66h.here hx rfl (pc0 := 516) (pc' := 528) rfl (hb hby at_516) rfl ((if0 _ _).trans (teq hc516).1) (by decide) (by decide) kt_) ?_
          show Done p e s below _ _ _ T66 (mkF m 528 #[.val (.int p0), .val (.long q1), .second, .val (.long q2), .second, .val (.int zl), .val (.ref b10), .val (.ref b21), .val (.ref b46), .val (.int (own_bi (own_p16 N v0 v1))), .val (.int (own_bi (own_p8 N v0 v1 v2))), .val (.int (own_bi (own_scan N (own_sel v0 v1 v2 v3 v4 v5 v6) 1 6))), .val (.int (own_bi (own_scan N (own_sel v0 v1 v2 v3 v4 v5 v6) 2 5))), .val (.int (own_bi (own_scan N (own_sel v0 v1 v2 v3 v4 v5 v6) 3 4))), .val (.int (own_bi (own_scan N (own_sel v0 v1 v2 v3 v4 v5 v6) 4 3))), .val (.int (own_bi (own_scan N (own_sel v0 v1 v2 v3 v4 v5 v6) 5 2))), .unset, .unset, .unset] [])
          refine Done.go (fun _ kt_ => XS.iconst X66h.here hx rfl (hb hby at_528) kt_) ?_
          show Done p e s below _ _ _ T66 (mkF m 529 #[.val (.int p0), .val (.long q1), .second, .val (.long q2), .second, .val (.int zl), .val (.ref b10), .val (.ref b21), .val (.ref b46), .val (.int (own_bi (own_p16 N v0 v1))), .val (.int (own_bi (own_p8 N v0 v1 v2))), .val (.int (own_bi (own_scan N (own_sel v0 v1 v2 v3 v4 v5 v6) 1 6))), .val (.int (own_bi (own_scan N (own_sel v0 v1 v2 v3 v4 v5 v6) 2 5))), .val (.int (own_bi (own_scan N (own_sel v0 v1 v2 v3 v4 v5 v6) 3 4))), .val (.int (own_bi (own_scan N (own_sel v0 v1 v2 v3 v4 v5 v6) 4 3))), .val (.int (own_bi (own_scan N (own_sel v0 v1 v2 v3 v4 v5 v6) 5 2))), .unset, .unset, .unset] [(.int (0 : Int32))])
          refine Done.go (fun _ kt_ => XS.istore X66h.here hx rfl (hb hby at_529) rfl (l' := #[.val (.int p0), .val (.long q1), .second, .val (.long q2), .second, .val (.int zl), .val (.ref b10), .val (.ref b21), .val (.ref b46), .val (.int (own_bi (own_p16 N v0 v1))), .val (.int (own_bi (own_p8 N v0 v1 v2))), .val (.int (own_bi (own_scan N (own_sel v0 v1 v2 v3 v4 v5 v6) 1 6))), .val (.int (own_bi (own_scan N (own_sel v0 v1 v2 v3 v4 v5 v6) 2 5))), .val (.int (own_bi (own_scan N (own_sel v0 v1 v2 v3 v4 v5 v6) 3 4))), .val (.int (own_bi (own_scan N (own_sel v0 v1 v2 v3 v4 v5 v6) 4 3))), .val (.int (own_bi (own_scan N (own_sel v0 v1 v2 v3 v4 v5 v6) 5 2))), .val (.int (0 : Int32)), .unset, .unset]) rfl kt_) ?_
          show Done p e s below _ _ _ T66 (mkF m 531 #[.val (.int p0), .val (.long q1), .second, .val (.long q2), .second, .val (.int zl), .val (.ref b10), .val (.ref b21), .val (.ref b46), .val (.int (own_bi (own_p16 N v0 v1))), .val (.int (own_bi (own_p8 N v0 v1 v2))), .val (.int (own_bi (own_scan N (own_sel v0 v1 v2 v3 v4 v5 v6) 1 6))), .val (.int (own_bi (own_scan N (own_sel v0 v1 v2 v3 v4 v5 v6) 2 5))), .val (.int (own_bi (own_scan N (own_sel v0 v1 v2 v3 v4 v5 v6) 3 4))), .val (.int (own_bi (own_scan N (own_sel v0 v1 v2 v3 v4 v5 v6) 4 3))), .val (.int (own_bi (own_scan N (own_sel v0 v1 v2 v3 v4 v5 v6) 5 2))), .val (.int (0 : Int32)), .unset, .unset] [])
          have u505 := own_bi0.mp hc505
          have u516 := own_bi0.mp hc516
          exact J531 _ _ _ X66h e66 N66h (by
            show _ = own_bi ((decide (1 < N) && decide ((own_sel v0 v1 v2 v3 v4 v5 v6) 1 = 60)) || (decide (1 < N) && own_ws ((own_sel v0 v1 v2 v3 v4 v5 v6) 1) && own_scan N (own_sel v0 v1 v2 v3 v4 v5 v6) 5 2))
            rw [u505, u516]; rfl)
        · skip
          refine Done.go (fun _ kt_ => XS.ifNo X66h.here hx rfl (hb hby at_516) rfl ((if0 _ _).trans (feq hc516).1) kt_) ?_
          show Done p e s below _ _ _ T66 (mkF m 519 #[.val (.int p0), .val (.long q1), .second, .val (.long q2), .second, .val (.int zl), .val (.ref b10), .val (.ref b21), .val (.ref b46), .val (.int (own_bi (own_p16 N v0 v1))), .val (.int (own_bi (own_p8 N v0 v1 v2))), .val (.int (own_bi (own_scan N (own_sel v0 v1 v2 v3 v4 v5 v6) 1 6))), .val (.int (own_bi (own_scan N (own_sel v0 v1 v2 v3 v4 v5 v6) 2 5))), .val (.int (own_bi (own_scan N (own_sel v0 v1 v2 v3 v4 v5 v6) 3 4))), .val (.int (own_bi (own_scan N (own_sel v0 v1 v2 v3 v4 v5 v6) 4 3))), .val (.int (own_bi (own_scan N (own_sel v0 v1 v2 v3 v4 v5 v6) 5 2))), .unset, .unset, .unset] [])
          refine Done.go (fun _ kt_ => XS.iload X66h.here hx rfl (hb hby at_519) rfl kt_) ?_
          show Done p e s below _ _ _ T66 (mkF m 521 #[.val (.int p0), .val (.long q1), .second, .val (.long q2), .second, .val (.int zl), .val (.ref b10), .val (.ref b21), .val (.ref b46), .val (.int (own_bi (own_p16 N v0 v1))), .val (.int (own_bi (own_p8 N v0 v1 v2))), .val (.int (own_bi (own_scan N (own_sel v0 v1 v2 v3 v4 v5 v6) 1 6))), .val (.int (own_bi (own_scan N (own_sel v0 v1 v2 v3 v4 v5 v6) 2 5))), .val (.int (own_bi (own_scan N (own_sel v0 v1 v2 v3 v4 v5 v6) 3 4))), .val (.int (own_bi (own_scan N (own_sel v0 v1 v2 v3 v4 v5 v6) 4 3))), .val (.int (own_bi (own_scan N (own_sel v0 v1 v2 v3 v4 v5 v6) 5 2))), .unset, .unset, .unset] [(.int (own_bi (own_scan N (own_sel v0 v1 v2 v3 v4 v5 v6) 5 2)))])
          by_cases hc521 : (own_bi (own_scan N (own_sel v0 v1 v2 v3 v4 v5 v6) 5 2)) = (0 : Int32)
          · skip
            refine Done.go (fun _ kt_ => XS.ifYes X66h.here hx rfl (pc0 := 521) (pc' := 528) rfl (hb hby at_521) rfl ((if0 _ _).trans (teq hc521).1) (by decide) (by decide) kt_) ?_
            show Done p e s below _ _ _ T66 (mkF m 528 #[.val (.int p0), .val (.long q1), .second, .val (.long q2), .second, .val (.int zl), .val (.ref b10), .val (.ref b21), .val (.ref b46), .val (.int (own_bi (own_p16 N v0 v1))), .val (.int (own_bi (own_p8 N v0 v1 v2))), .val (.int (own_bi (own_scan N (own_sel v0 v1 v2 v3 v4 v5 v6) 1 6))), .val (.int (own_bi (own_scan N (own_sel v0 v1 v2 v3 v4 v5 v6) 2 5))), .val (.int (own_bi (own_scan N (own_sel v0 v1 v2 v3 v4 v5 v6) 3 4))), .val (.int (own_bi (own_scan N (own_sel v0 v1 v2 v3 v4 v5 v6) 4 3))), .val (.int (own_bi (own_scan N (own_sel v0 v1 v2 v3 v4 v5 v6) 5 2))), .unset, .unset, .unset] [])
            refine Done.go (fun _ kt_ => XS.iconst X66h.here hx rfl (hb hby at_528) kt_) ?_
            show Done p e s below _ _ _ T66 (mkF m 529 #[.val (.int p0), .val (.long q1), .second, .val (.long q2), .second, .val (.int zl), .val (.ref b10), .val (.ref b21), .val (.ref b46), .val (.int (own_bi (own_p16 N v0 v1))), .val (.int (own_bi (own_p8 N v0 v1 v2))), .val (.int (own_bi (own_scan N (own_sel v0 v1 v2 v3 v4 v5 v6) 1 6))), .val (.int (own_bi (own_scan N (own_sel v0 v1 v2 v3 v4 v5 v6) 2 5))), .val (.int (own_bi (own_scan N (own_sel v0 v1 v2 v3 v4 v5 v6) 3 4))), .val (.int (own_bi (own_scan N (own_sel v0 v1 v2 v3 v4 v5 v6) 4 3))), .val (.int (own_bi (own_scan N (own_sel v0 v1 v2 v3 v4 v5 v6) 5 2))), .unset, .unset, .unset] [(.int (0 : Int32))])
            refine Done.go (fun _ kt_ => XS.istore X66h.here hx rfl (hb hby at_529) rfl (l' := #[.val (.int p0), .val (.long q1), .second, .val (.long q2), .second, .val (.int zl), .val (.ref b10), .val (.ref b21), .val (.ref b46), .val (.int (own_bi (own_p16 N v0 v1))), .val (.int (own_bi (own_p8 N v0 v1 v2))), .val (.int (own_bi (own_scan N (own_sel v0 v1 v2 v3 v4 v5 v6) 1 6))), .val (.int (own_bi (own_scan N (own_sel v0 v1 v2 v3 v4 v5 v6) 2 5))), .val (.int (own_bi (own_scan N (own_sel v0 v1 v2 v3 v4 v5 v6) 3 4))), .val (.int (own_bi (own_scan N (own_sel v0 v1 v2 v3 v4 v5 v6) 4 3))), .val (.int (own_bi (own_scan N (own_sel v0 v1 v2 v3 v4 v5 v6) 5 2))), .val (.int (0 : Int32)), .unset, .unset]) rfl kt_) ?_
            show Done p e s below _ _ _ T66 (mkF m 531 #[.val (.int p0), .val (.long q1), .second, .val (.long q2), .second, .val (.int zl), .val (.ref b10), .val (.ref b21), .val (.ref b46), .val (.int (own_bi (own_p16 N v0 v1))), .val (.int (own_bi (own_p8 N v0 v1 v2))), .val (.int (own_bi (own_scan N (own_sel v0 v1 v2 v3 v4 v5 v6) 1 6))), .val (.int (own_bi (own_scan N (own_sel v0 v1 v2 v3 v4 v5 v6) 2 5))), .val (.int (own_bi (own_scan N (own_sel v0 v1 v2 v3 v4 v5 v6) 3 4))), .val (.int (own_bi (own_scan N (own_sel v0 v1 v2 v3 v4 v5 v6) 4 3))), .val (.int (own_bi (own_scan N (own_sel v0 v1 v2 v3 v4 v5 v6) 5 2))), .val (.int (0 : Int32)), .unset, .unset] [])
            have u505 := own_bi0.mp hc505
            have u516 := own_bi1.mp hc516
            have u521 := own_bi0.mp hc521
            exact J531 _ _ _ X66h e66 N66h (by
              show _ = own_bi ((decide (1 < N) && decide ((own_sel v0 v1 v2 v3 v4 v5 v6) 1 = 60)) || (decide (1 < N) && own_ws ((own_sel v0 v1 v2 v3 v4 v5 v6) 1) && own_scan N (own_sel v0 v1 v2 v3 v4 v5 v6) 5 2))
              rw [u505, u516, u521]; rfl)
          · skip
            refine Done.go (fun _ kt_ => XS.ifNo X66h.here hx rfl (hb hby at_521) rfl ((if0 _ _).trans (feq hc521).1) kt_) ?_
            show Done p e s below _ _ _ T66 (mkF m 524 #[.val (.int p0), .val (.long q1), .second, .val (.long q2), .second, .val (.int zl), .val (.ref b10), .val (.ref b21), .val (.ref b46), .val (.int (own_bi (own_p16 N v0 v1))), .val (.int (own_bi (own_p8 N v0 v1 v2))), .val (.int (own_bi (own_scan N (own_sel v0 v1 v2 v3 v4 v5 v6) 1 6))), .val (.int (own_bi (own_scan N (own_sel v0 v1 v2 v3 v4 v5 v6) 2 5))), .val (.int (own_bi (own_scan N (own_sel v0 v1 v2 v3 v4 v5 v6) 3 4))), .val (.int (own_bi (own_scan N (own_sel v0 v1 v2 v3 v4 v5 v6) 4 3))), .val (.int (own_bi (own_scan N (own_sel v0 v1 v2 v3 v4 v5 v6) 5 2))), .unset, .unset, .unset] [])
            refine Done.go (fun _ kt_ => XS.iconst X66h.here hx rfl (hb hby at_524) kt_) ?_
            show Done p e s below _ _ _ T66 (mkF m 525 #[.val (.int p0), .val (.long q1), .second, .val (.long q2), .second, .val (.int zl), .val (.ref b10), .val (.ref b21), .val (.ref b46), .val (.int (own_bi (own_p16 N v0 v1))), .val (.int (own_bi (own_p8 N v0 v1 v2))), .val (.int (own_bi (own_scan N (own_sel v0 v1 v2 v3 v4 v5 v6) 1 6))), .val (.int (own_bi (own_scan N (own_sel v0 v1 v2 v3 v4 v5 v6) 2 5))), .val (.int (own_bi (own_scan N (own_sel v0 v1 v2 v3 v4 v5 v6) 3 4))), .val (.int (own_bi (own_scan N (own_sel v0 v1 v2 v3 v4 v5 v6) 4 3))), .val (.int (own_bi (own_scan N (own_sel v0 v1 v2 v3 v4 v5 v6) 5 2))), .unset, .unset, .unset] [(.int (1 : Int32))])
            refine Done.go (fun _ kt_ => XS.goto X66h.here hx rfl (pc0 := 525) (pc' := 529) rfl (hb hby at_525) (by decide) (by decide) kt_) ?_
            show Done p e s below _ _ _ T66 (mkF m 529 #[.val (.int p0), .val (.long q1), .second, .val (.long q2), .second, .val (.int zl), .val (.ref b10), .val (.ref b21), .val (.ref b46), .val (.int (own_bi (own_p16 N v0 v1))), .val (.int (own_bi (own_p8 N v0 v1 v2))), .val (.int (own_bi (own_scan N (own_sel v0 v1 v2 v3 v4 v5 v6) 1 6))), .val (.int (own_bi (own_scan N (own_sel v0 v1 v2 v3 v4 v5 v6) 2 5))), .val (.int (own_bi (own_scan N (own_sel v0 v1 v2 v3 v4 v5 v6) 3 4))), .val (.int (own_bi (own_scan N (own_sel v0 v1 v2 v3 v4 v5 v6) 4 3))), .val (.int (own_bi (own_scan N (own_sel v0 v1 v2 v3 v4 v5 v6) 5 2))), .unset, .unset, .unset] [(.int (1 : Int32))])
            refine Done.go (fun _ kt_ => XS.istore X66h.here hx rfl (hb hby at_529) rfl (l' := #[.val (.int p0), .val (.long q1), .second, .val (.long q2), .second, .val (.int zl), .val (.ref b10), .val (.ref b21), .val (.ref b46), .val (.int (own_bi (own_p16 N v0 v1))), .val (.int (own_bi (own_p8 N v0 v1 v2))), .val (.int (own_bi (own_scan N (own_sel v0 v1 v2 v3 v4 v5 v6) 1 6))), .val (.int (own_bi (own_scan N (own_sel v0 v1 v2 v3 v4 v5 v6) 2 5))), .val (.int (own_bi (own_scan N (own_sel v0 v1 v2 v3 v4 v5 v6) 3 4))), .val (.int (own_bi (own_scan N (own_sel v0 v1 v2 v3 v4 v5 v6) 4 3))), .val (.int (own_bi (own_scan N (own_sel v0 v1 v2 v3 v4 v5 v6) 5 2))), .val (.int (1 : Int32)), .unset, .unset]) rfl kt_) ?_
            show Done p e s below _ _ _ T66 (mkF m 531 #[.val (.int p0), .val (.long q1), .second, .val (.long q2), .second, .val (.int zl), .val (.ref b10), .val (.ref b21), .val (.ref b46), .val (.int (own_bi (own_p16 N v0 v1))), .val (.int (own_bi (own_p8 N v0 v1 v2))), .val (.int (own_bi (own_scan N (own_sel v0 v1 v2 v3 v4 v5 v6) 1 6))), .val (.int (own_bi (own_scan N (own_sel v0 v1 v2 v3 v4 v5 v6) 2 5))), .val (.int (own_bi (own_scan N (own_sel v0 v1 v2 v3 v4 v5 v6) 3 4))), .val (.int (own_bi (own_scan N (own_sel v0 v1 v2 v3 v4 v5 v6) 4 3))), .val (.int (own_bi (own_scan N (own_sel v0 v1 v2 v3 v4 v5 v6) 5 2))), .val (.int (1 : Int32)), .unset, .unset] [])
            have u505 := own_bi0.mp hc505
            have u516 := own_bi1.mp hc516
            have u521 := own_bi1.mp hc521
            exact J531 _ _ _ X66h e66 N66h (by
              show _ = own_bi ((decide (1 < N) && decide ((own_sel v0 v1 v2 v3 v4 v5 v6) 1 = 60)) || (decide (1 < N) && own_ws ((own_sel v0 v1 v2 v3 v4 v5 v6) 1) && own_scan N (own_sel v0 v1 v2 v3 v4 v5 v6) 5 2))
              rw [u505, u516, u521]; rfl)
      · skip
        refine Done.go (fun _ kt_ => XS.ifYes X65h.here hx rfl (pc0 := 505) (pc' := 524) rfl (hb hby at_505) rfl ((if0 _ _).trans (feq hc505).2) (by decide) (by decide) kt_) ?_
        show Done p e s below _ _ _ T65 (mkF m 524 #[.val (.int p0), .val (.long q1), .second, .val (.long q2), .second, .val (.int zl), .val (.ref b10), .val (.ref b21), .val (.ref b46), .val (.int (own_bi (own_p16 N v0 v1))), .val (.int (own_bi (own_p8 N v0 v1 v2))), .val (.int (own_bi (own_scan N (own_sel v0 v1 v2 v3 v4 v5 v6) 1 6))), .val (.int (own_bi (own_scan N (own_sel v0 v1 v2 v3 v4 v5 v6) 2 5))), .val (.int (own_bi (own_scan N (own_sel v0 v1 v2 v3 v4 v5 v6) 3 4))), .val (.int (own_bi (own_scan N (own_sel v0 v1 v2 v3 v4 v5 v6) 4 3))), .val (.int (own_bi (own_scan N (own_sel v0 v1 v2 v3 v4 v5 v6) 5 2))), .unset, .unset, .unset] [])
        refine Done.go (fun _ kt_ => XS.iconst X65h.here hx rfl (hb hby at_524) kt_) ?_
        show Done p e s below _ _ _ T65 (mkF m 525 #[.val (.int p0), .val (.long q1), .second, .val (.long q2), .second, .val (.int zl), .val (.ref b10), .val (.ref b21), .val (.ref b46), .val (.int (own_bi (own_p16 N v0 v1))), .val (.int (own_bi (own_p8 N v0 v1 v2))), .val (.int (own_bi (own_scan N (own_sel v0 v1 v2 v3 v4 v5 v6) 1 6))), .val (.int (own_bi (own_scan N (own_sel v0 v1 v2 v3 v4 v5 v6) 2 5))), .val (.int (own_bi (own_scan N (own_sel v0 v1 v2 v3 v4 v5 v6) 3 4))), .val (.int (own_bi (own_scan N (own_sel v0 v1 v2 v3 v4 v5 v6) 4 3))), .val (.int (own_bi (own_scan N (own_sel v0 v1 v2 v3 v4 v5 v6) 5 2))), .unset, .unset, .unset] [(.int (1 : Int32))])
        refine Done.go (fun _ kt_ => XS.goto X65h.here hx rfl (pc0 := 525) (pc' := 529) rfl (hb hby at_525) (by decide) (by decide) kt_) ?_
        show Done p e s below _ _ _ T65 (mkF m 529 #[.val (.int p0), .val (.long q1), .second, .val (.long q2), .second, .val (.int zl), .val (.ref b10), .val (.ref b21), .val (.ref b46), .val (.int (own_bi (own_p16 N v0 v1))), .val (.int (own_bi (own_p8 N v0 v1 v2))), .val (.int (own_bi (own_scan N (own_sel v0 v1 v2 v3 v4 v5 v6) 1 6))), .val (.int (own_bi (own_scan N (own_sel v0 v1 v2 v3 v4 v5 v6) 2 5))), .val (.int (own_bi (own_scan N (own_sel v0 v1 v2 v3 v4 v5 v6) 3 4))), .val (.int (own_bi (own_scan N (own_sel v0 v1 v2 v3 v4 v5 v6) 4 3))), .val (.int (own_bi (own_scan N (own_sel v0 v1 v2 v3 v4 v5 v6) 5 2))), .unset, .unset, .unset] [(.int (1 : Int32))])
        refine Done.go (fun _ kt_ => XS.istore X65h.here hx rfl (hb hby at_529) rfl (l' := #[.val (.int p0), .val (.long q1), .second, .val (.long q2), .second, .val (.int zl), .val (.ref b10), .val (.ref b21), .val (.ref b46), .val (.int (own_bi (own_p16 N v0 v1))), .val (.int (own_bi (own_p8 N v0 v1 v2))), .val (.int (own_bi (own_scan N (own_sel v0 v1 v2 v3 v4 v5 v6) 1 6))), .val (.int (own_bi (own_scan N (own_sel v0 v1 v2 v3 v4 v5 v6) 2 5))), .val (.int (own_bi (own_scan N (own_sel v0 v1 v2 v3 v4 v5 v6) 3 4))), .val (.int (own_bi (own_scan N (own_sel v0 v1 v2 v3 v4 v5 v6) 4 3))), .val (.int (own_bi (own_scan N (own_sel v0 v1 v2 v3 v4 v5 v6) 5 2))), .val (.int (1 : Int32)), .unset, .unset]) rfl kt_) ?_
        show Done p e s below _ _ _ T65 (mkF m 531 #[.val (.int p0), .val (.long q1), .second, .val (.long q2), .second, .val (.int zl), .val (.ref b10), .val (.ref b21), .val (.ref b46), .val (.int (own_bi (own_p16 N v0 v1))), .val (.int (own_bi (own_p8 N v0 v1 v2))), .val (.int (own_bi (own_scan N (own_sel v0 v1 v2 v3 v4 v5 v6) 1 6))), .val (.int (own_bi (own_scan N (own_sel v0 v1 v2 v3 v4 v5 v6) 2 5))), .val (.int (own_bi (own_scan N (own_sel v0 v1 v2 v3 v4 v5 v6) 3 4))), .val (.int (own_bi (own_scan N (own_sel v0 v1 v2 v3 v4 v5 v6) 4 3))), .val (.int (own_bi (own_scan N (own_sel v0 v1 v2 v3 v4 v5 v6) 5 2))), .val (.int (1 : Int32)), .unset, .unset] [])
        have u505 := own_bi1.mp hc505
        exact J531 _ _ _ X65h e65 N65h (by
          show _ = own_bi ((decide (1 < N) && decide ((own_sel v0 v1 v2 v3 v4 v5 v6) 1 = 60)) || (decide (1 < N) && own_ws ((own_sel v0 v1 v2 v3 v4 v5 v6) 1) && own_scan N (own_sel v0 v1 v2 v3 v4 v5 v6) 5 2))
          rw [u505]; rfl)
    have J463 : ∀ (T2 : State) (L2 : List Loc) (av : Int32), Stand p l e room_1 s m #[(.int p0), (.long q1), (.long q2)] below meth c T2 L2 3 24 → T2.heap = h1 → Fr n0 L2 → av = (own_bi (own_scan N (own_sel v0 v1 v2 v3 v4 v5 v6) 4 3)) → Done p e s below 16 128 (Q0 n0) T2 (mkF m 463 #[.val (.int p0), .val (.long q1), .second, .val (.long q2), .second, .val (.int zl), .val (.ref b10), .val (.ref b21), .val (.ref b46), .val (.int (own_bi (own_p16 N v0 v1))), .val (.int (own_bi (own_p8 N v0 v1 v2))), .val (.int (own_bi (own_scan N (own_sel v0 v1 v2 v3 v4 v5 v6) 1 6))), .val (.int (own_bi (own_scan N (own_sel v0 v1 v2 v3 v4 v5 v6) 2 5))), .val (.int (own_bi (own_scan N (own_sel v0 v1 v2 v3 v4 v5 v6) 3 4))), .val (.int av), .unset, .unset, .unset, .unset] []) := by
      intro T2 L2 av X2 e2 N2 hav
      subst hav
      show Done p e s below _ _ _ T2 (mkF m 463 #[.val (.int p0), .val (.long q1), .second, .val (.long q2), .second, .val (.int zl), .val (.ref b10), .val (.ref b21), .val (.ref b46), .val (.int (own_bi (own_p16 N v0 v1))), .val (.int (own_bi (own_p8 N v0 v1 v2))), .val (.int (own_bi (own_scan N (own_sel v0 v1 v2 v3 v4 v5 v6) 1 6))), .val (.int (own_bi (own_scan N (own_sel v0 v1 v2 v3 v4 v5 v6) 2 5))), .val (.int (own_bi (own_scan N (own_sel v0 v1 v2 v3 v4 v5 v6) 3 4))), .val (.int (own_bi (own_scan N (own_sel v0 v1 v2 v3 v4 v5 v6) 4 3))), .unset, .unset, .unset, .unset] [])
      refine Done.go (fun _ kt_ => XS.aload X2.here hx rfl (hb hby at_463) rfl rfl kt_) ?_
      show Done p e s below _ _ _ T2 (mkF m 465 #[.val (.int p0), .val (.long q1), .second, .val (.long q2), .second, .val (.int zl), .val (.ref b10), .val (.ref b21), .val (.ref b46), .val (.int (own_bi (own_p16 N v0 v1))), .val (.int (own_bi (own_p8 N v0 v1 v2))), .val (.int (own_bi (own_scan N (own_sel v0 v1 v2 v3 v4 v5 v6) 1 6))), .val (.int (own_bi (own_scan N (own_sel v0 v1 v2 v3 v4 v5 v6) 2 5))), .val (.int (own_bi (own_scan N (own_sel v0 v1 v2 v3 v4 v5 v6) 3 4))), .val (.int (own_bi (own_scan N (own_sel v0 v1 v2 v3 v4 v5 v6) 4 3))), .unset, .unset, .unset, .unset] [(.ref b21)])
      refine Done.go (fun _ kt_ => XS.iload X2.here hx rfl (hb hby at_465) rfl kt_) ?_
      show Done p e s below _ _ _ T2 (mkF m 467 #[.val (.int p0), .val (.long q1), .second, .val (.long q2), .second, .val (.int zl), .val (.ref b10), .val (.ref b21), .val (.ref b46), .val (.int (own_bi (own_p16 N v0 v1))), .val (.int (own_bi (own_p8 N v0 v1 v2))), .val (.int (own_bi (own_scan N (own_sel v0 v1 v2 v3 v4 v5 v6) 1 6))), .val (.int (own_bi (own_scan N (own_sel v0 v1 v2 v3 v4 v5 v6) 2 5))), .val (.int (own_bi (own_scan N (own_sel v0 v1 v2 v3 v4 v5 v6) 3 4))), .val (.int (own_bi (own_scan N (own_sel v0 v1 v2 v3 v4 v5 v6) 4 3))), .unset, .unset, .unset, .unset] [(.int zl), (.ref b21)])
      refine Done.go (fun _ kt_ => XS.iconst X2.here hx rfl (hb hby at_467) kt_) ?_
      show Done p e s below _ _ _ T2 (mkF m 468 #[.val (.int p0), .val (.long q1), .second, .val (.long q2), .second, .val (.int zl), .val (.ref b10), .val (.ref b21), .val (.ref b46), .val (.int (own_bi (own_p16 N v0 v1))), .val (.int (own_bi (own_p8 N v0 v1 v2))), .val (.int (own_bi (own_scan N (own_sel v0 v1 v2 v3 v4 v5 v6) 1 6))), .val (.int (own_bi (own_scan N (own_sel v0 v1 v2 v3 v4 v5 v6) 2 5))), .val (.int (own_bi (own_scan N (own_sel v0 v1 v2 v3 v4 v5 v6) 3 4))), .val (.int (own_bi (own_scan N (own_sel v0 v1 v2 v3 v4 v5 v6) 4 3))), .unset, .unset, .unset, .unset] [(.int (2 : Int32)), (.int zl), (.ref b21)])
      obtain ⟨v67, T67, Lc67, X67, hQ67, st67⟩ := own_backG (Jvm.LawKit.callS X2 hx (y := (⟨"spinecode/xml/XmlInputRecognisesPinLaw", "lt", "([BII)Z"⟩ : MethodName)) hown (mvT hZ (hw _ (List.mem_of_getElem? (i := 6) rfl))) (mvT hZ (hw _ (List.mem_of_getElem? (i := 7) rfl))) (mvT hZ (hw _ (List.mem_of_getElem? (i := 3) rfl))) (mvT hZ (hw _ (List.mem_of_getElem? (i := 8) rfl))) (by decide) (backOf (W := 0) (rm2 l Z a0 hw [] b21 zl (2 : Int32) N 2 (own_sel v0 v1 v2 v3 v4 v5 v6) h1 n0 z1 VB1 hN (by decide) hN7) hZ (hw _ (List.mem_of_getElem? (i := 8) rfl)) (hw _ (List.mem_of_getElem? (i := 3) rfl)) (by decide) (by decide)) (g := (mkF m 468 #[.val (.int p0), .val (.long q1), .second, .val (.long q2), .second, .val (.int zl), .val (.ref b10), .val (.ref b21), .val (.ref b46), .val (.int (own_bi (own_p16 N v0 v1))), .val (.int (own_bi (own_p8 N v0 v1 v2))), .val (.int (own_bi (own_scan N (own_sel v0 v1 v2 v3 v4 v5 v6) 1 6))), .val (.int (own_bi (own_scan N (own_sel v0 v1 v2 v3 v4 v5 v6) 2 5))), .val (.int (own_bi (own_scan N (own_sel v0 v1 v2 v3 v4 v5 v6) 3 4))), .val (.int (own_bi (own_scan N (own_sel v0 v1 v2 v3 v4 v5 v6) 4 3))), .unset, .unset, .unset, .unset] [(.int (2 : Int32)), (.int zl), (.ref b21)])) rfl (by rw [hml]; rfl) (argsL := [(.ref b21), (.int zl), (.int (2 : Int32))]) (rest := []) (lenOf own_pd4 rfl) rfl (by show 2 * 0 + _ ≤ _; exact Nat.le_of_eq rfl) (hb hby at_468) (fun _ _ => ⟨rfl, e2, (by first | decide | omega : 3 + 0 ≤ _), (by first | decide | omega : 24 + 0 ≤ _)⟩))
      obtain ⟨rfl, N67q, e67⟩ := hQ67
      refine Done.go st67 ?_
      clear st67
      have N67 := Fr.app N2 N67q
      clear N67q
      obtain ⟨Lh67, X67h, N67h⟩ : ∃ L, Stand p l e room_1 s m #[(.int p0), (.long q1), (.long q2)] below meth c T67 L 3 24 ∧ Fr n0 L := ⟨_, X67, N67⟩
      clear X67 N67 X2 e2 N2
      show Done p e s below _ _ _ T67 (mkF m 471 #[.val (.int p0), .val (.long q1), .second, .val (.long q2), .second, .val (.int zl), .val (.ref b10), .val (.ref b21), .val (.ref b46), .val (.int (own_bi (own_p16 N v0 v1))), .val (.int (own_bi (own_p8 N v0 v1 v2))), .val (.int (own_bi (own_scan N (own_sel v0 v1 v2 v3 v4 v5 v6) 1 6))), .val (.int (own_bi (own_scan N (own_sel v0 v1 v2 v3 v4 v5 v6) 2 5))), .val (.int (own_bi (own_scan N (own_sel v0 v1 v2 v3 v4 v5 v6) 3 4))), .val (.int (own_bi (own_scan N (own_sel v0 v1 v2 v3 v4 v5 v6) 4 3))), .unset, .unset, .unset, .unset] [(.int (own_bi (decide (2 < N) && decide (((own_sel v0 v1 v2 v3 v4 v5 v6) 2) = 60))))])
      by_cases hc471 : (own_bi (decide (2 < N) && decide (((own_sel v0 v1 v2 v3 v4 v5 v6) 2) = 60))) = (0 : Int32)
      · skip
        refine Done.go (fun _ kt_ => XS.ifNo X67h.here hx rfl (hb hby at_471) rfl ((if0 _ _).trans (teq hc471).2) kt_) ?_
        show Done p e s below _ _ _ T67 (mkF m 474 #[.val (.int p0), .val (.long q1), .second, .val (.long q2), .second, .val (.int zl), .val (.ref b10), .val (.ref b21), .val (.ref b46), .val (.int (own_bi (own_p16 N v0 v1))), .val (.int (own_bi (own_p8 N v0 v1 v2))), .val (.int (own_bi (own_scan N (own_sel v0 v1 v2 v3 v4 v5 v6) 1 6))), .val (.int (own_bi (own_scan N (own_sel v0 v1 v2 v3 v4 v5 v6) 2 5))), .val (.int (own_bi (own_scan N (own_sel v0 v1 v2 v3 v4 v5 v6) 3 4))), .val (.int (own_bi (own_scan N (own_sel v0 v1 v2 v3 v4 v5 v6) 4 3))), .unset, .unset, .unset, .unset] [])
        refine Done.go (fun _ kt_ => XS.aload X67h.here hx rfl (hb hby at_474) rfl rfl kt_) ?_
        show Done p e s below _ _ _ T67 (mkF m 476 #[.val (.int p0), .val (.long q1), .second, .val (.long q2), .second, .val (.int zl), .val (.ref b10), .val (.ref b21), .val (.ref b46), .val (.int (own_bi (own_p16 N v0 v1))), .val (.int (own_bi (own_p8 N v0 v1 v2))), .val (.int (own_bi (own_scan N (own_sel v0 v1 v2 v3 v4 v5 v6) 1 6))), .val (.int (own_bi (own_scan N (own_sel v0 v1 v2 v3 v4 v5 v6) 2 5))), .val (.int (own_bi (own_scan N (own_sel v0 v1 v2 v3 v4 v5 v6) 3 4))), .val (.int (own_bi (own_scan N (own_sel v0 v1 v2 v3 v4 v5 v6) 4 3))), .unset, .unset, .unset, .unset] [(.ref b21)])
        refine Done.go (fun _ kt_ => XS.iload X67h.here hx rfl (hb hby at_476) rfl kt_) ?_
        show Done p e s below _ _ _ T67 (mkF m 478 #[.val (.int p0), .val (.long q1), .second, .val (.long q2), .second, .val (.int zl), .val (.ref b10), .val (.ref b21), .val (.ref b46), .val (.int (own_bi (own_p16 N v0 v1))), .val (.int (own_bi (own_p8 N v0 v1 v2))), .val (.int (own_bi (own_scan N (own_sel v0 v1 v2 v3 v4 v5 v6) 1 6))), .val (.int (own_bi (own_scan N (own_sel v0 v1 v2 v3 v4 v5 v6) 2 5))), .val (.int (own_bi (own_scan N (own_sel v0 v1 v2 v3 v4 v5 v6) 3 4))), .val (.int (own_bi (own_scan N (own_sel v0 v1 v2 v3 v4 v5 v6) 4 3))), .unset, .unset, .unset, .unset] [(.int zl), (.ref b21)])
        refine Done.go (fun _ kt_ => XS.iconst X67h.here hx rfl (hb hby at_478) kt_) ?_
        show Done p e s below _ _ _ T67 (mkF m 479 #[.val (.int p0), .val (.long q1), .second, .val (.long q2), .second, .val (.int zl), .val (.ref b10), .val (.ref b21), .val (.ref b46), .val (.int (own_bi (own_p16 N v0 v1))), .val (.int (own_bi (own_p8 N v0 v1 v2))), .val (.int (own_bi (own_scan N (own_sel v0 v1 v2 v3 v4 v5 v6) 1 6))), .val (.int (own_bi (own_scan N (own_sel v0 v1 v2 v3 v4 v5 v6) 2 5))), .val (.int (own_bi (own_scan N (own_sel v0 v1 v2 v3 v4 v5 v6) 3 4))), .val (.int (own_bi (own_scan N (own_sel v0 v1 v2 v3 v4 v5 v6) 4 3))), .unset, .unset, .unset, .unset] [(.int (2 : Int32)), (.int zl), (.ref b21)])
        obtain ⟨v68, T68, Lc68, X68, hQ68, st68⟩ := own_backG (Jvm.LawKit.callS X67h hx (y := (⟨"spinecode/xml/XmlInputRecognisesPinLaw", "ws", "([BII)Z"⟩ : MethodName)) hown (mvT hZ (hw _ (List.mem_of_getElem? (i := 9) rfl))) (mvT hZ (hw _ (List.mem_of_getElem? (i := 10) rfl))) (mvT hZ (hw _ (List.mem_of_getElem? (i := 3) rfl))) (mvT hZ (hw _ (List.mem_of_getElem? (i := 11) rfl))) (by decide) (backOf (W := 0) (rm3 l Z a0 hw [] b21 zl (2 : Int32) N 2 (own_sel v0 v1 v2 v3 v4 v5 v6) h1 n0 z1 VB1 hN (by decide) hN7) hZ (hw _ (List.mem_of_getElem? (i := 11) rfl)) (hw _ (List.mem_of_getElem? (i := 3) rfl)) (by decide) (by decide)) (g := (mkF m 479 #[.val (.int p0), .val (.long q1), .second, .val (.long q2), .second, .val (.int zl), .val (.ref b10), .val (.ref b21), .val (.ref b46), .val (.int (own_bi (own_p16 N v0 v1))), .val (.int (own_bi (own_p8 N v0 v1 v2))), .val (.int (own_bi (own_scan N (own_sel v0 v1 v2 v3 v4 v5 v6) 1 6))), .val (.int (own_bi (own_scan N (own_sel v0 v1 v2 v3 v4 v5 v6) 2 5))), .val (.int (own_bi (own_scan N (own_sel v0 v1 v2 v3 v4 v5 v6) 3 4))), .val (.int (own_bi (own_scan N (own_sel v0 v1 v2 v3 v4 v5 v6) 4 3))), .unset, .unset, .unset, .unset] [(.int (2 : Int32)), (.int zl), (.ref b21)])) rfl (by rw [hml]; rfl) (argsL := [(.ref b21), (.int zl), (.int (2 : Int32))]) (rest := []) (lenOf own_pd4 rfl) rfl (by show 2 * 0 + _ ≤ _; exact Nat.le_of_eq rfl) (hb hby at_479) (fun _ _ => ⟨rfl, e67, (by first | decide | omega : 3 + 0 ≤ _), (by first | decide | omega : 24 + 0 ≤ _)⟩))
        obtain ⟨rfl, N68q, e68⟩ := hQ68
        refine Done.go st68 ?_
        clear st68
        have N68 := Fr.app N67h N68q
        clear N68q
        obtain ⟨Lh68, X68h, N68h⟩ : ∃ L, Stand p l e room_1 s m #[(.int p0), (.long q1), (.long q2)] below meth c T68 L 3 24 ∧ Fr n0 L := ⟨_, X68, N68⟩
        clear X68 N68 X67h e67 N67h
        show Done p e s below _ _ _ T68 (mkF m 482 #[.val (.int p0), .val (.long q1), .second, .val (.long q2), .second, .val (.int zl), .val (.ref b10), .val (.ref b21), .val (.ref b46), .val (.int (own_bi (own_p16 N v0 v1))), .val (.int (own_bi (own_p8 N v0 v1 v2))), .val (.int (own_bi (own_scan N (own_sel v0 v1 v2 v3 v4 v5 v6) 1 6))), .val (.int (own_bi (own_scan N (own_sel v0 v1 v2 v3 v4 v5 v6) 2 5))), .val (.int (own_bi (own_scan N (own_sel v0 v1 v2 v3 v4 v5 v6) 3 4))), .val (.int (own_bi (own_scan N (own_sel v0 v1 v2 v3 v4 v5 v6) 4 3))), .unset, .unset, .unset, .unset] [(.int (own_bi (decide (2 < N) && own_ws ((own_sel v0 v1 v2 v3 v4 v5 v6) 2))))])
        by_cases hc482 : (own_bi (decide (2 < N) && own_ws ((own_sel v0 v1 v2 v3 v4 v5 v6) 2))) = (0 : Int32)
        · skip
          refine Done.go (fun _ kt_ => XS.ifYes X68h.here hx rfl (pc0 := 482) (pc' := 494) rfl (hb hby at_482) rfl ((if0 _ _).trans (teq hc482).1) (by decide) (by decide) kt_) ?_
          show Done p e s below _ _ _ T68 (mkF m 494 #[.val (.int p0), .val (.long q1), .second, .val (.long q2), .second, .val (.int zl), .val (.ref b10), .val (.ref b21), .val (.ref b46), .val (.int (own_bi (own_p16 N v0 v1))), .val (.int (own_bi (own_p8 N v0 v1 v2))), .val (.int (own_bi (own_scan N (own_sel v0 v1 v2 v3 v4 v5 v6) 1 6))), .val (.int (own_bi (own_scan N (own_sel v0 v1 v2 v3 v4 v5 v6) 2 5))), .val (.int (own_bi (own_scan N (own_sel v0 v1 v2 v3 v4 v5 v6) 3 4))), .val (.int (own_bi (own_scan N (own_sel v0 v1 v2 v3 v4 v5 v6) 4 3))), .unset, .unset, .unset, .unset] [])
          refine Done.go (fun _ kt_ => XS.iconst X68h.here hx rfl (hb hby at_494) kt_) ?_
          show Done p e s below _ _ _ T68 (mkF m 495 #[.val (.int p0), .val (.long q1), .second, .val (.long q2), .second, .val (.int zl), .val (.ref b10), .val (.ref b21), .val (.ref b46), .val (.int (own_bi (own_p16 N v0 v1))), .val (.int (own_bi (own_p8 N v0 v1 v2))), .val (.int (own_bi (own_scan N (own_sel v0 v1 v2 v3 v4 v5 v6) 1 6))), .val (.int (own_bi (own_scan N (own_sel v0 v1 v2 v3 v4 v5 v6) 2 5))), .val (.int (own_bi (own_scan N (own_sel v0 v1 v2 v3 v4 v5 v6) 3 4))), .val (.int (own_bi (own_scan N (own_sel v0 v1 v2 v3 v4 v5 v6) 4 3))), .unset, .unset, .unset, .unset] [(.int (0 : Int32))])
          refine Done.go (fun _ kt_ => XS.istore X68h.here hx rfl (hb hby at_495) rfl (l' := #[.val (.int p0), .val (.long q1), .second, .val (.long q2), .second, .val (.int zl), .val (.ref b10), .val (.ref b21), .val (.ref b46), .val (.int (own_bi (own_p16 N v0 v1))), .val (.int (own_bi (own_p8 N v0 v1 v2))), .val (.int (own_bi (own_scan N (own_sel v0 v1 v2 v3 v4 v5 v6) 1 6))), .val (.int (own_bi (own_scan N (own_sel v0 v1 v2 v3 v4 v5 v6) 2 5))), .val (.int (own_bi (own_scan N (own_sel v0 v1 v2 v3 v4 v5 v6) 3 4))), .val (.int (own_bi (own_scan N (own_sel v0 v1 v2 v3 v4 v5 v6) 4 3))), .val (.int (0 : Int32)), .unset, .unset, .unset]) rfl kt_) ?_
          show Done p e s below _ _ _ T68 (mkF m 497 #[.val (.int p0), .val (.long q1), .second, .val (.long q2), .second, .val (.int zl), .val (.ref b10), .val (.ref b21), .val (.ref b46), .val (.int (own_bi (own_p16 N v0 v1))), .val (.int (own_bi (own_p8 N v0 v1 v2))), .val (.int (own_bi (own_scan N (own_sel v0 v1 v2 v3 v4 v5 v6) 1 6))), .val (.int (own_bi (own_scan N (own_sel v0 v1 v2 v3 v4 v5 v6) 2 5))), .val (.int (own_bi (own_scan N (own_sel v0 v1 v2 v3 v4 v5 v6) 3 4))), .val (.int (own_bi (own_scan N (own_sel v0 v1 v2 v3 v4 v5 v6) 4 3))), .val (.int (0 : Int32)), .unset, .unset, .unset] [])
          have u471 := own_bi0.mp hc471
          have u482 := own_bi0.mp hc482
          exact J497 _ _ _ X68h e68 N68h (by
            show _ = own_bi ((decide (2 < N) && decide ((own_sel v0 v1 v2 v3 v4 v5 v6) 2 = 60)) || (decide (2 < N) && own_ws ((own_sel v0 v1 v2 v3 v4 v5 v6) 2) && own_scan N (own_sel v0 v1 v2 v3 v4 v5 v6) 4 3))
            rw [u471, u482]; rfl)
        · skip
          refine Done.go (fun _ kt_ => XS.ifNo X68h.here hx rfl (hb hby at_482) rfl ((if0 _ _).trans (feq hc482).1) kt_) ?_
          show Done p e s below _ _ _ T68 (mkF m 485 #[.val (.int p0), .val (.long q1), .second, .val (.long q2), .second, .val (.int zl), .val (.ref b10), .val (.ref b21), .val (.ref b46), .val (.int (own_bi (own_p16 N v0 v1))), .val (.int (own_bi (own_p8 N v0 v1 v2))), .val (.int (own_bi (own_scan N (own_sel v0 v1 v2 v3 v4 v5 v6) 1 6))), .val (.int (own_bi (own_scan N (own_sel v0 v1 v2 v3 v4 v5 v6) 2 5))), .val (.int (own_bi (own_scan N (own_sel v0 v1 v2 v3 v4 v5 v6) 3 4))), .val (.int (own_bi (own_scan N (own_sel v0 v1 v2 v3 v4 v5 v6) 4 3))), .unset, .unset, .unset, .unset] [])
          refine Done.go (fun _ kt_ => XS.iload X68h.here hx rfl (hb hby at_485) rfl kt_) ?_
          show Done p e s below _ _ _ T68 (mkF m 487 #[.val (.int p0), .val (.long q1), .second, .val (.long q2), .second, .val (.int zl), .val (.ref b10), .val (.ref b21), .val (.ref b46), .val (.int (own_bi (own_p16 N v0 v1))), .val (.int (own_bi (own_p8 N v0 v1 v2))), .val (.int (own_bi (own_scan N (own_sel v0 v1 v2 v3 v4 v5 v6) 1 6))), .val (.int (own_bi (own_scan N (own_sel v0 v1 v2 v3 v4 v5 v6) 2 5))), .val (.int (own_bi (own_scan N (own_sel v0 v1 v2 v3 v4 v5 v6) 3 4))), .val (.int (own_bi (own_scan N (own_sel v0 v1 v2 v3 v4 v5 v6) 4 3))), .unset, .unset, .unset, .unset] [(.int (own_bi (own_scan N (own_sel v0 v1 v2 v3 v4 v5 v6) 4 3)))])
          by_cases hc487 : (own_bi (own_scan N (own_sel v0 v1 v2 v3 v4 v5 v6) 4 3)) = (0 : Int32)
          · skip
            refine Done.go (fun _ kt_ => XS.ifYes X68h.here hx rfl (pc0 := 487) (pc' := 494) rfl (hb hby at_487) rfl ((if0 _ _).trans (teq hc487).1) (by decide) (by decide) kt_) ?_
            show Done p e s below _ _ _ T68 (mkF m 494 #[.val (.int p0), .val (.long q1), .second, .val (.long q2), .second, .val (.int zl), .val (.ref b10), .val (.ref b21), .val (.ref b46), .val (.int (own_bi (own_p16 N v0 v1))), .val (.int (own_bi (own_p8 N v0 v1 v2))), .val (.int (own_bi (own_scan N (own_sel v0 v1 v2 v3 v4 v5 v6) 1 6))), .val (.int (own_bi (own_scan N (own_sel v0 v1 v2 v3 v4 v5 v6) 2 5))), .val (.int (own_bi (own_scan N (own_sel v0 v1 v2 v3 v4 v5 v6) 3 4))), .val (.int (own_bi (own_scan N (own_sel v0 v1 v2 v3 v4 v5 v6) 4 3))), .unset, .unset, .unset, .unset] [])
            refine Done.go (fun _ kt_ => XS.iconst X68h.here hx rfl (hb hby at_494) kt_) ?_
            show Done p e s below _ _ _ T68 (mkF m 495 #[.val (.int p0), .val (.long q1), .second, .val (.long q2), .second, .val (.int zl), .val (.ref b10), .val (.ref b21), .val (.ref b46), .val (.int (own_bi (own_p16 N v0 v1))), .val (.int (own_bi (own_p8 N v0 v1 v2))), .val (.int (own_bi (own_scan N (own_sel v0 v1 v2 v3 v4 v5 v6) 1 6))), .val (.int (own_bi (own_scan N (own_sel v0 v1 v2 v3 v4 v5 v6) 2 5))), .val (.int (own_bi (own_scan N (own_sel v0 v1 v2 v3 v4 v5 v6) 3 4))), .val (.int (own_bi (own_scan N (own_sel v0 v1 v2 v3 v4 v5 v6) 4 3))), .unset, .unset, .unset, .unset] [(.int (0 : Int32))])
            refine Done.go (fun _ kt_ => XS.istore X68h.here hx rfl (hb hby at_495) rfl (l' := #[.val (.int p0), .val (.long q1), .second, .val (.long q2), .second, .val (.int zl), .val (.ref b10), .val (.ref b21), .val (.ref b46), .val (.int (own_bi (own_p16 N v0 v1))), .val (.int (own_bi (own_p8 N v0 v1 v2))), .val (.int (own_bi (own_scan N (own_sel v0 v1 v2 v3 v4 v5 v6) 1 6))), .val (.int (own_bi (own_scan N (own_sel v0 v1 v2 v3 v4 v5 v6) 2 5))), .val (.int (own_bi (own_scan N (own_sel v0 v1 v2 v3 v4 v5 v6) 3 4))), .val (.int (own_bi (own_scan N (own_sel v0 v1 v2 v3 v4 v5 v6) 4 3))), .val (.int (0 : Int32)), .unset, .unset, .unset]) rfl kt_) ?_
            show Done p e s below _ _ _ T68 (mkF m 497 #[.val (.int p0), .val (.long q1), .second, .val (.long q2), .second, .val (.int zl), .val (.ref b10), .val (.ref b21), .val (.ref b46), .val (.int (own_bi (own_p16 N v0 v1))), .val (.int (own_bi (own_p8 N v0 v1 v2))), .val (.int (own_bi (own_scan N (own_sel v0 v1 v2 v3 v4 v5 v6) 1 6))), .val (.int (own_bi (own_scan N (own_sel v0 v1 v2 v3 v4 v5 v6) 2 5))), .val (.int (own_bi (own_scan N (own_sel v0 v1 v2 v3 v4 v5 v6) 3 4))), .val (.int (own_bi (own_scan N (own_sel v0 v1 v2 v3 v4 v5 v6) 4 3))), .val (.int (0 : Int32)), .unset, .unset, .unset] [])
            have u471 := own_bi0.mp hc471
            have u482 := own_bi1.mp hc482
            have u487 := own_bi0.mp hc487
            exact J497 _ _ _ X68h e68 N68h (by
              show _ = own_bi ((decide (2 < N) && decide ((own_sel v0 v1 v2 v3 v4 v5 v6) 2 = 60)) || (decide (2 < N) && own_ws ((own_sel v0 v1 v2 v3 v4 v5 v6) 2) && own_scan N (own_sel v0 v1 v2 v3 v4 v5 v6) 4 3))
              rw [u471, u482, u487]; rfl)
          · skip
            refine Done.go (fun _ kt_ => XS.ifNo X68h.here hx rfl (hb hby at_487) rfl ((if0 _ _).trans (feq hc487).1) kt_) ?_
            show Done p e s below _ _ _ T68 (mkF m 490 #[.val (.int p0), .val (.long q1), .second, .val (.long q2), .second, .val (.int zl), .val (.ref b10), .val (.ref b21), .val (.ref b46), .val (.int (own_bi (own_p16 N v0 v1))), .val (.int (own_bi (own_p8 N v0 v1 v2))), .val (.int (own_bi (own_scan N (own_sel v0 v1 v2 v3 v4 v5 v6) 1 6))), .val (.int (own_bi (own_scan N (own_sel v0 v1 v2 v3 v4 v5 v6) 2 5))), .val (.int (own_bi (own_scan N (own_sel v0 v1 v2 v3 v4 v5 v6) 3 4))), .val (.int (own_bi (own_scan N (own_sel v0 v1 v2 v3 v4 v5 v6) 4 3))), .unset, .unset, .unset, .unset] [])
            refine Done.go (fun _ kt_ => XS.iconst X68h.here hx rfl (hb hby at_490) kt_) ?_
            show Done p e s below _ _ _ T68 (mkF m 491 #[.val (.int p0), .val (.long q1), .second, .val (.long q2), .second, .val (.int zl), .val (.ref b10), .val (.ref b21), .val (.ref b46), .val (.int (own_bi (own_p16 N v0 v1))), .val (.int (own_bi (own_p8 N v0 v1 v2))), .val (.int (own_bi (own_scan N (own_sel v0 v1 v2 v3 v4 v5 v6) 1 6))), .val (.int (own_bi (own_scan N (own_sel v0 v1 v2 v3 v4 v5 v6) 2 5))), .val (.int (own_bi (own_scan N (own_sel v0 v1 v2 v3 v4 v5 v6) 3 4))), .val (.int (own_bi (own_scan N (own_sel v0 v1 v2 v3 v4 v5 v6) 4 3))), .unset, .unset, .unset, .unset] [(.int (1 : Int32))])
            refine Done.go (fun _ kt_ => XS.goto X68h.here hx rfl (pc0 := 491) (pc' := 495) rfl (hb hby at_491) (by decide) (by decide) kt_) ?_
            show Done p e s below _ _ _ T68 (mkF m 495 #[.val (.int p0), .val (.long q1), .second, .val (.long q2), .second, .val (.int zl), .val (.ref b10), .val (.ref b21), .val (.ref b46), .val (.int (own_bi (own_p16 N v0 v1))), .val (.int (own_bi (own_p8 N v0 v1 v2))), .val (.int (own_bi (own_scan N (own_sel v0 v1 v2 v3 v4 v5 v6) 1 6))), .val (.int (own_bi (own_scan N (own_sel v0 v1 v2 v3 v4 v5 v6) 2 5))), .val (.int (own_bi (own_scan N (own_sel v0 v1 v2 v3 v4 v5 v6) 3 4))), .val (.int (own_bi (own_scan N (own_sel v0 v1 v2 v3 v4 v5 v6) 4 3))), .unset, .unset, .unset, .unset] [(.int (1 : Int32))])
            refine Done.go (fun _ kt_ => XS.istore X68h.here hx rfl (hb hby at_495) rfl (l' := #[.val (.int p0), .val (.long q1), .second, .val (.long q2), .second, .val (.int zl), .val (.ref b10), .val (.ref b21), .val (.ref b46), .val (.int (own_bi (own_p16 N v0 v1))), .val (.int (own_bi (own_p8 N v0 v1 v2))), .val (.int (own_bi (own_scan N (own_sel v0 v1 v2 v3 v4 v5 v6) 1 6))), .val (.int (own_bi (own_scan N (own_sel v0 v1 v2 v3 v4 v5 v6) 2 5))), .val (.int (own_bi (own_scan N (own_sel v0 v1 v2 v3 v4 v5 v6) 3 4))), .val (.int (own_bi (own_scan N (own_sel v0 v1 v2 v3 v4 v5 v6) 4 3))), .val (.int (1 : Int32)), .unset, .unset, .unset]) rfl kt_) ?_
            show Done p e s below _ _ _ T68 (mkF m 497 #[.val (.int p0), .val (.long q1), .second, .val (.long q2), .second, .val (.int zl), .val (.ref b10), .val (.ref b21), .val (.ref b46), .val (.int (own_bi (own_p16 N v0 v1))), .val (.int (own_bi (own_p8 N v0 v1 v2))), .val (.int (own_bi (own_scan N (own_sel v0 v1 v2 v3 v4 v5 v6) 1 6))), .val (.int (own_bi (own_scan N (own_sel v0 v1 v2 v3 v4 v5 v6) 2 5))), .val (.int (own_bi (own_scan N (own_sel v0 v1 v2 v3 v4 v5 v6) 3 4))), .val (.int (own_bi (own_scan N (own_sel v0 v1 v2 v3 v4 v5 v6) 4 3))), .val (.int (1 : Int32)), .unset, .unset, .unset] [])
            have u471 := own_bi0.mp hc471
            have u482 := own_bi1.mp hc482
            have u487 := own_bi1.mp hc487
            exact J497 _ _ _ X68h e68 N68h (by
              show _ = own_bi ((decide (2 < N) && decide ((own_sel v0 v1 v2 v3 v4 v5 v6) 2 = 60)) || (decide (2 < N) && own_ws ((own_sel v0 v1 v2 v3 v4 v5 v6) 2) && own_scan N (own_sel v0 v1 v2 v3 v4 v5 v6) 4 3))
              rw [u471, u482, u487]; rfl)
      · skip
        refine Done.go (fun _ kt_ => XS.ifYes X67h.here hx rfl (pc0 := 471) (pc' := 490) rfl (hb hby at_471) rfl ((if0 _ _).trans (feq hc471).2) (by decide) (by decide) kt_) ?_
        show Done p e s below _ _ _ T67 (mkF m 490 #[.val (.int p0), .val (.long q1), .second, .val (.long q2), .second, .val (.int zl), .val (.ref b10), .val (.ref b21), .val (.ref b46), .val (.int (own_bi (own_p16 N v0 v1))), .val (.int (own_bi (own_p8 N v0 v1 v2))), .val (.int (own_bi (own_scan N (own_sel v0 v1 v2 v3 v4 v5 v6) 1 6))), .val (.int (own_bi (own_scan N (own_sel v0 v1 v2 v3 v4 v5 v6) 2 5))), .val (.int (own_bi (own_scan N (own_sel v0 v1 v2 v3 v4 v5 v6) 3 4))), .val (.int (own_bi (own_scan N (own_sel v0 v1 v2 v3 v4 v5 v6) 4 3))), .unset, .unset, .unset, .unset] [])
        refine Done.go (fun _ kt_ => XS.iconst X67h.here hx rfl (hb hby at_490) kt_) ?_
        show Done p e s below _ _ _ T67 (mkF m 491 #[.val (.int p0), .val (.long q1), .second, .val (.long q2), .second, .val (.int zl), .val (.ref b10), .val (.ref b21), .val (.ref b46), .val (.int (own_bi (own_p16 N v0 v1))), .val (.int (own_bi (own_p8 N v0 v1 v2))), .val (.int (own_bi (own_scan N (own_sel v0 v1 v2 v3 v4 v5 v6) 1 6))), .val (.int (own_bi (own_scan N (own_sel v0 v1 v2 v3 v4 v5 v6) 2 5))), .val (.int (own_bi (own_scan N (own_sel v0 v1 v2 v3 v4 v5 v6) 3 4))), .val (.int (own_bi (own_scan N (own_sel v0 v1 v2 v3 v4 v5 v6) 4 3))), .unset, .unset, .unset, .unset] [(.int (1 : Int32))])
        refine Done.go (fun _ kt_ => XS.goto X67h.here hx rfl (pc0 := 491) (pc' := 495) rfl (hb hby at_491) (by decide) (by decide) kt_) ?_
        show Done p e s below _ _ _ T67 (mkF m 495 #[.val (.int p0), .val (.long q1), .second, .val (.long q2), .second, .val (.int zl), .val (.ref b10), .val (.ref b21), .val (.ref b46), .val (.int (own_bi (own_p16 N v0 v1))), .val (.int (own_bi (own_p8 N v0 v1 v2))), .val (.int (own_bi (own_scan N (own_sel v0 v1 v2 v3 v4 v5 v6) 1 6))), .val (.int (own_bi (own_scan N (own_sel v0 v1 v2 v3 v4 v5 v6) 2 5))), .val (.int (own_bi (own_scan N (own_sel v0 v1 v2 v3 v4 v5 v6) 3 4))), .val (.int (own_bi (own_scan N (own_sel v0 v1 v2 v3 v4 v5 v6) 4 3))), .unset, .unset, .unset, .unset] [(.int (1 : Int32))])
        refine Done.go (fun _ kt_ => XS.istore X67h.here hx rfl (hb hby at_495) rfl (l' := #[.val (.int p0), .val (.long q1), .second, .val (.long q2), .second, .val (.int zl), .val (.ref b10), .val (.ref b21), .val (.ref b46), .val (.int (own_bi (own_p16 N v0 v1))), .val (.int (own_bi (own_p8 N v0 v1 v2))), .val (.int (own_bi (own_scan N (own_sel v0 v1 v2 v3 v4 v5 v6) 1 6))), .val (.int (own_bi (own_scan N (own_sel v0 v1 v2 v3 v4 v5 v6) 2 5))), .val (.int (own_bi (own_scan N (own_sel v0 v1 v2 v3 v4 v5 v6) 3 4))), .val (.int (own_bi (own_scan N (own_sel v0 v1 v2 v3 v4 v5 v6) 4 3))), .val (.int (1 : Int32)), .unset, .unset, .unset]) rfl kt_) ?_
        show Done p e s below _ _ _ T67 (mkF m 497 #[.val (.int p0), .val (.long q1), .second, .val (.long q2), .second, .val (.int zl), .val (.ref b10), .val (.ref b21), .val (.ref b46), .val (.int (own_bi (own_p16 N v0 v1))), .val (.int (own_bi (own_p8 N v0 v1 v2))), .val (.int (own_bi (own_scan N (own_sel v0 v1 v2 v3 v4 v5 v6) 1 6))), .val (.int (own_bi (own_scan N (own_sel v0 v1 v2 v3 v4 v5 v6) 2 5))), .val (.int (own_bi (own_scan N (own_sel v0 v1 v2 v3 v4 v5 v6) 3 4))), .val (.int (own_bi (own_scan N (own_sel v0 v1 v2 v3 v4 v5 v6) 4 3))), .val (.int (1 : Int32)), .unset, .unset, .unset] [])
        have u471 := own_bi1.mp hc471
        exact J497 _ _ _ X67h e67 N67h (by
          show _ = own_bi ((decide (2 < N) && decide ((own_sel v0 v1 v2 v3 v4 v5 v6) 2 = 60)) || (decide (2 < N) && own_ws ((own_sel v0 v1 v2 v3 v4 v5 v6) 2) && own_scan N (own_sel v0 v1 v2 v3 v4 v5 v6) 4 3))
          rw [u471]; rfl)
    have J429 : ∀ (T2 : State) (L2 : List Loc) (av : Int32), Stand p l e room_1 s m #[(.int p0), (.long q1), (.long q2)] below meth c T2 L2 3 24 → T2.heap = h1 → Fr n0 L2 → av = (own_bi (own_scan N (own_sel v0 v1 v2 v3 v4 v5 v6) 3 4)) → Done p e s below 16 128 (Q0 n0) T2 (mkF m 429 #[.val (.int p0), .val (.long q1), .second, .val (.long q2), .second, .val (.int zl), .val (.ref b10), .val (.ref b21), .val (.ref b46), .val (.int (own_bi (own_p16 N v0 v1))), .val (.int (own_bi (own_p8 N v0 v1 v2))), .val (.int (own_bi (own_scan N (own_sel v0 v1 v2 v3 v4 v5 v6) 1 6))), .val (.int (own_bi (own_scan N (own_sel v0 v1 v2 v3 v4 v5 v6) 2 5))), .val (.int av), .unset, .unset, .unset, .unset, .unset] []) := by
      intro T2 L2 av X2 e2 N2 hav
      subst hav
      show Done p e s below _ _ _ T2 (mkF m 429 #[.val (.int p0), .val (.long q1), .second, .val (.long q2), .second, .val (.int zl), .val (.ref b10), .val (.ref b21), .val (.ref b46), .val (.int (own_bi (own_p16 N v0 v1))), .val (.int (own_bi (own_p8 N v0 v1 v2))), .val (.int (own_bi (own_scan N (own_sel v0 v1 v2 v3 v4 v5 v6) 1 6))), .val (.int (own_bi (own_scan N (own_sel v0 v1 v2 v3 v4 v5 v6) 2 5))), .val (.int (own_bi (own_scan N (own_sel v0 v1 v2 v3 v4 v5 v6) 3 4))), .unset, .unset, .unset, .unset, .unset] [])
      refine Done.go (fun _ kt_ => XS.aload X2.here hx rfl (hb hby at_429) rfl rfl kt_) ?_
      show Done p e s below _ _ _ T2 (mkF m 431 #[.val (.int p0), .val (.long q1), .second, .val (.long q2), .second, .val (.int zl), .val (.ref b10), .val (.ref b21), .val (.ref b46), .val (.int (own_bi (own_p16 N v0 v1))), .val (.int (own_bi (own_p8 N v0 v1 v2))), .val (.int (own_bi (own_scan N (own_sel v0 v1 v2 v3 v4 v5 v6) 1 6))), .val (.int (own_bi (own_scan N (own_sel v0 v1 v2 v3 v4 v5 v6) 2 5))), .val (.int (own_bi (own_scan N (own_sel v0 v1 v2 v3 v4 v5 v6) 3 4))), .unset, .unset, .unset, .unset, .unset] [(.ref b21)])
      refine Done.go (fun _ kt_ => XS.iload X2.here hx rfl (hb hby at_431) rfl kt_) ?_
      show Done p e s below _ _ _ T2 (mkF m 433 #[.val (.int p0), .val (.long q1), .second, .val (.long q2), .second, .val (.int zl), .val (.ref b10), .val (.ref b21), .val (.ref b46), .val (.int (own_bi (own_p16 N v0 v1))), .val (.int (own_bi (own_p8 N v0 v1 v2))), .val (.int (own_bi (own_scan N (own_sel v0 v1 v2 v3 v4 v5 v6) 1 6))), .val (.int (own_bi (own_scan N (own_sel v0 v1 v2 v3 v4 v5 v6) 2 5))), .val (.int (own_bi (own_scan N (own_sel v0 v1 v2 v3 v4 v5 v6) 3 4))), .unset, .unset, .unset, .unset, .unset] [(.int zl), (.ref b21)])
      refine Done.go (fun _ kt_ => XS.iconst X2.here hx rfl (hb hby at_433) kt_) ?_
      show Done p e s below _ _ _ T2 (mkF m 434 #[.val (.int p0), .val (.long q1), .second, .val (.long q2), .second, .val (.int zl), .val (.ref b10), .val (.ref b21), .val (.ref b46), .val (.int (own_bi (own_p16 N v0 v1))), .val (.int (own_bi (own_p8 N v0 v1 v2))), .val (.int (own_bi (own_scan N (own_sel v0 v1 v2 v3 v4 v5 v6) 1 6))), .val (.int (own_bi (own_scan N (own_sel v0 v1 v2 v3 v4 v5 v6) 2 5))), .val (.int (own_bi (own_scan N (own_sel v0 v1 v2 v3 v4 v5 v6) 3 4))), .unset, .unset, .unset, .unset, .unset] [(.int (3 : Int32)), (.int zl), (.ref b21)])
      obtain ⟨v69, T69, Lc69, X69, hQ69, st69⟩ := own_backG (Jvm.LawKit.callS X2 hx (y := (⟨"spinecode/xml/XmlInputRecognisesPinLaw", "lt", "([BII)Z"⟩ : MethodName)) hown (mvT hZ (hw _ (List.mem_of_getElem? (i := 6) rfl))) (mvT hZ (hw _ (List.mem_of_getElem? (i := 7) rfl))) (mvT hZ (hw _ (List.mem_of_getElem? (i := 3) rfl))) (mvT hZ (hw _ (List.mem_of_getElem? (i := 8) rfl))) (by decide) (backOf (W := 0) (rm2 l Z a0 hw [] b21 zl (3 : Int32) N 3 (own_sel v0 v1 v2 v3 v4 v5 v6) h1 n0 z1 VB1 hN (by decide) hN7) hZ (hw _ (List.mem_of_getElem? (i := 8) rfl)) (hw _ (List.mem_of_getElem? (i := 3) rfl)) (by decide) (by decide)) (g := (mkF m 434 #[.val (.int p0), .val (.long q1), .second, .val (.long q2), .second, .val (.int zl), .val (.ref b10), .val (.ref b21), .val (.ref b46), .val (.int (own_bi (own_p16 N v0 v1))), .val (.int (own_bi (own_p8 N v0 v1 v2))), .val (.int (own_bi (own_scan N (own_sel v0 v1 v2 v3 v4 v5 v6) 1 6))), .val (.int (own_bi (own_scan N (own_sel v0 v1 v2 v3 v4 v5 v6) 2 5))), .val (.int (own_bi (own_scan N (own_sel v0 v1 v2 v3 v4 v5 v6) 3 4))), .unset, .unset, .unset, .unset, .unset] [(.int (3 : Int32)), (.int zl), (.ref b21)])) rfl (by rw [hml]; rfl) (argsL := [(.ref b21), (.int zl), (.int (3 : Int32))]) (rest := []) (lenOf own_pd4 rfl) rfl (by show 2 * 0 + _ ≤ _; exact Nat.le_of_eq rfl) (hb hby at_434) (fun _ _ => ⟨rfl, e2, (by first | decide | omega : 3 + 0 ≤ _), (by first | decide | omega : 24 + 0 ≤ _)⟩))
      obtain ⟨rfl, N69q, e69⟩ := hQ69
      refine Done.go st69 ?_
      clear st69
      have N69 := Fr.app N2 N69q
      clear N69q
      obtain ⟨Lh69, X69h, N69h⟩ : ∃ L, Stand p l e room_1 s m #[(.int p0), (.long q1), (.long q2)] below meth c T69 L 3 24 ∧ Fr n0 L := ⟨_, X69, N69⟩
      clear X69 N69 X2 e2 N2
      show Done p e s below _ _ _ T69 (mkF m 437 #[.val (.int p0), .val (.long q1), .second, .val (.long q2), .second, .val (.int zl), .val (.ref b10), .val (.ref b21), .val (.ref b46), .val (.int (own_bi (own_p16 N v0 v1))), .val (.int (own_bi (own_p8 N v0 v1 v2))), .val (.int (own_bi (own_scan N (own_sel v0 v1 v2 v3 v4 v5 v6) 1 6))), .val (.int (own_bi (own_scan N (own_sel v0 v1 v2 v3 v4 v5 v6) 2 5))), .val (.int (own_bi (own_scan N (own_sel v0 v1 v2 v3 v4 v5 v6) 3 4))), .unset, .unset, .unset, .unset, .unset] [(.int (own_bi (decide (3 < N) && decide (((own_sel v0 v1 v2 v3 v4 v5 v6) 3) = 60))))])
      by_cases hc437 : (own_bi (decide (3 < N) && decide (((own_sel v0 v1 v2 v3 v4 v5 v6) 3) = 60))) = (0 : Int32)
      · skip
        refine Done.go (fun _ kt_ => XS.ifNo X69h.here hx rfl (hb hby at_437) rfl ((if0 _ _).trans (teq hc437).2) kt_) ?_
        show Done p e s below _ _ _ T69 (mkF m 440 #[.val (.int p0), .val (.long q1), .second, .val (.long q2), .second, .val (.int zl), .val (.ref b10), .val (.ref b21), .val (.ref b46), .val (.int (own_bi (own_p16 N v0 v1))), .val (.int (own_bi (own_p8 N v0 v1 v2))), .val (.int (own_bi (own_scan N (own_sel v0 v1 v2 v3 v4 v5 v6) 1 6))), .val (.int (own_bi (own_scan N (own_sel v0 v1 v2 v3 v4 v5 v6) 2 5))), .val (.int (own_bi (own_scan N (own_sel v0 v1 v2 v3 v4 v5 v6) 3 4))), .unset, .unset, .unset, .unset, .unset] [])
        refine Done.go (fun _ kt_ => XS.aload X69h.here hx rfl (hb hby at_440) rfl rfl kt_) ?_
        show Done p e s below _ _ _ T69 (mkF m 442 #[.val (.int p0), .val (.long q1), .second, .val (.long q2), .second, .val (.int zl), .val (.ref b10), .val (.ref b21), .val (.ref b46), .val (.int (own_bi (own_p16 N v0 v1))), .val (.int (own_bi (own_p8 N v0 v1 v2))), .val (.int (own_bi (own_scan N (own_sel v0 v1 v2 v3 v4 v5 v6) 1 6))), .val (.int (own_bi (own_scan N (own_sel v0 v1 v2 v3 v4 v5 v6) 2 5))), .val (.int (own_bi (own_scan N (own_sel v0 v1 v2 v3 v4 v5 v6) 3 4))), .unset, .unset, .unset, .unset, .unset] [(.ref b21)])
        refine Done.go (fun _ kt_ => XS.iload X69h.here hx rfl (hb hby at_442) rfl kt_) ?_
        show Done p e s below _ _ _ T69 (mkF m 444 #[.val (.int p0), .val (.long q1), .second, .val (.long q2), .second, .val (.int zl), .val (.ref b10), .val (.ref b21), .val (.ref b46), .val (.int (own_bi (own_p16 N v0 v1))), .val (.int (own_bi (own_p8 N v0 v1 v2))), .val (.int (own_bi (own_scan N (own_sel v0 v1 v2 v3 v4 v5 v6) 1 6))), .val (.int (own_bi (own_scan N (own_sel v0 v1 v2 v3 v4 v5 v6) 2 5))), .val (.int (own_bi (own_scan N (own_sel v0 v1 v2 v3 v4 v5 v6) 3 4))), .unset, .unset, .unset, .unset, .unset] [(.int zl), (.ref b21)])
        refine Done.go (fun _ kt_ => XS.iconst X69h.here hx rfl (hb hby at_444) kt_) ?_
        show Done p e s below _ _ _ T69 (mkF m 445 #[.val (.int p0), .val (.long q1), .second, .val (.long q2), .second, .val (.int zl), .val (.ref b10), .val (.ref b21), .val (.ref b46), .val (.int (own_bi (own_p16 N v0 v1))), .val (.int (own_bi (own_p8 N v0 v1 v2))), .val (.int (own_bi (own_scan N (own_sel v0 v1 v2 v3 v4 v5 v6) 1 6))), .val (.int (own_bi (own_scan N (own_sel v0 v1 v2 v3 v4 v5 v6) 2 5))), .val (.int (own_bi (own_scan N (own_sel v0 v1 v2 v3 v4 v5 v6) 3 4))), .unset, .unset, .unset, .unset, .unset] [(.int (3 : Int32)), (.int zl), (.ref b21)])
        obtain ⟨v70, T70, Lc70, X70, hQ70, st70⟩ := own_backG (Jvm.LawKit.callS X69h hx (y := (⟨"spinecode/xml/XmlInputRecognisesPinLaw", "ws", "([BII)Z"⟩ : MethodName)) hown (mvT hZ (hw _ (List.mem_of_getElem? (i := 9) rfl))) (mvT hZ (hw _ (List.mem_of_getElem? (i := 10) rfl))) (mvT hZ (hw _ (List.mem_of_getElem? (i := 3) rfl))) (mvT hZ (hw _ (List.mem_of_getElem? (i := 11) rfl))) (by decide) (backOf (W := 0) (rm3 l Z a0 hw [] b21 zl (3 : Int32) N 3 (own_sel v0 v1 v2 v3 v4 v5 v6) h1 n0 z1 VB1 hN (by decide) hN7) hZ (hw _ (List.mem_of_getElem? (i := 11) rfl)) (hw _ (List.mem_of_getElem? (i := 3) rfl)) (by decide) (by decide)) (g := (mkF m 445 #[.val (.int p0), .val (.long q1), .second, .val (.long q2), .second, .val (.int zl), .val (.ref b10), .val (.ref b21), .val (.ref b46), .val (.int (own_bi (own_p16 N v0 v1))), .val (.int (own_bi (own_p8 N v0 v1 v2))), .val (.int (own_bi (own_scan N (own_sel v0 v1 v2 v3 v4 v5 v6) 1 6))), .val (.int (own_bi (own_scan N (own_sel v0 v1 v2 v3 v4 v5 v6) 2 5))), .val (.int (own_bi (own_scan N (own_sel v0 v1 v2 v3 v4 v5 v6) 3 4))), .unset, .unset, .unset, .unset, .unset] [(.int (3 : Int32)), (.int zl), (.ref b21)])) rfl (by rw [hml]; rfl) (argsL := [(.ref b21), (.int zl), (.int (3 : Int32))]) (rest := []) (lenOf own_pd4 rfl) rfl (by show 2 * 0 + _ ≤ _; exact Nat.le_of_eq rfl) (hb hby at_445) (fun _ _ => ⟨rfl, e69, (by first | decide | omega : 3 + 0 ≤ _), (by first | decide | omega : 24 + 0 ≤ _)⟩))
        obtain ⟨rfl, N70q, e70⟩ := hQ70
        refine Done.go st70 ?_
        clear st70
        have N70 := Fr.app N69h N70q
        clear N70q
        obtain ⟨Lh70, X70h, N70h⟩ : ∃ L, Stand p l e room_1 s m #[(.int p0), (.long q1), (.long q2)] below meth c T70 L 3 24 ∧ Fr n0 L := ⟨_, X70, N70⟩
        clear X70 N70 X69h e69 N69h
        show Done p e s below _ _ _ T70 (mkF m 448 #[.val (.int p0), .val (.long q1), .second, .val (.long q2), .second, .val (.int zl), .val (.ref b10), .val (.ref b21), .val (.ref b46), .val (.int (own_bi (own_p16 N v0 v1))), .val (.int (own_bi (own_p8 N v0 v1 v2))), .val (.int (own_bi (own_scan N (own_sel v0 v1 v2 v3 v4 v5 v6) 1 6))), .val (.int (own_bi (own_scan N (own_sel v0 v1 v2 v3 v4 v5 v6) 2 5))), .val (.int (own_bi (own_scan N (own_sel v0 v1 v2 v3 v4 v5 v6) 3 4))), .unset, .unset, .unset, .unset, .unset] [(.int (own_bi (decide (3 < N) && own_ws ((own_sel v0 v1 v2 v3 v4 v5 v6) 3))))])
        by_cases hc448 : (own_bi (decide (3 < N) && own_ws ((own_sel v0 v1 v2 v3 v4 v5 v6) 3))) = (0 : Int32)
        · skip
          refine Done.go (fun _ kt_ => XS.ifYes X70h.here hx rfl (pc0 := 448) (pc' := 460) rfl (hb hby at_448) rfl ((if0 _ _).trans (teq hc448).1) (by decide) (by decide) kt_) ?_
          show Done p e s below _ _ _ T70 (mkF m 460 #[.val (.int p0), .val (.long q1), .second, .val (.long q2), .second, .val (.int zl), .val (.ref b10), .val (.ref b21), .val (.ref b46), .val (.int (own_bi (own_p16 N v0 v1))), .val (.int (own_bi (own_p8 N v0 v1 v2))), .val (.int (own_bi (own_scan N (own_sel v0 v1 v2 v3 v4 v5 v6) 1 6))), .val (.int (own_bi (own_scan N (own_sel v0 v1 v2 v3 v4 v5 v6) 2 5))), .val (.int (own_bi (own_scan N (own_sel v0 v1 v2 v3 v4 v5 v6) 3 4))), .unset, .unset, .unset, .unset, .unset] [])
          refine Done.go (fun _ kt_ => XS.iconst X70h.here hx rfl (hb hby at_460) kt_) ?_
          show Done p e s below _ _ _ T70 (mkF m 461 #[.val (.int p0), .val (.long q1), .second, .val (.long q2), .second, .val (.int zl), .val (.ref b10), .val (.ref b21), .val (.ref b46), .val (.int (own_bi (own_p16 N v0 v1))), .val (.int (own_bi (own_p8 N v0 v1 v2))), .val (.int (own_bi (own_scan N (own_sel v0 v1 v2 v3 v4 v5 v6) 1 6))), .val (.int (own_bi (own_scan N (own_sel v0 v1 v2 v3 v4 v5 v6) 2 5))), .val (.int (own_bi (own_scan N (own_sel v0 v1 v2 v3 v4 v5 v6) 3 4))), .unset, .unset, .unset, .unset, .unset] [(.int (0 : Int32))])
          refine Done.go (fun _ kt_ => XS.istore X70h.here hx rfl (hb hby at_461) rfl (l' := #[.val (.int p0), .val (.long q1), .second, .val (.long q2), .second, .val (.int zl), .val (.ref b10), .val (.ref b21), .val (.ref b46), .val (.int (own_bi (own_p16 N v0 v1))), .val (.int (own_bi (own_p8 N v0 v1 v2))), .val (.int (own_bi (own_scan N (own_sel v0 v1 v2 v3 v4 v5 v6) 1 6))), .val (.int (own_bi (own_scan N (own_sel v0 v1 v2 v3 v4 v5 v6) 2 5))), .val (.int (own_bi (own_scan N (own_sel v0 v1 v2 v3 v4 v5 v6) 3 4))), .val (.int (0 : Int32)), .unset, .unset, .unset, .unset]) rfl kt_) ?_
          show Done p e s below _ _ _ T70 (mkF m 463 #[.val (.int p0), .val (.long q1), .second, .val (.long q2), .second, .val (.int zl), .val (.ref b10), .val (.ref b21), .val (.ref b46), .val (.int (own_bi (own_p16 N v0 v1))), .val (.int (own_bi (own_p8 N v0 v1 v2))), .val (.int (own_bi (own_scan N (own_sel v0 v1 v2 v3 v4 v5 v6) 1 6))), .val (.int (own_bi (own_scan N (own_sel v0 v1 v2 v3 v4 v5 v6) 2 5))), .val (.int (own_bi (own_scan N (own_sel v0 v1 v2 v3 v4 v5 v6) 3 4))), .val (.int (0 : Int32)), .unset, .unset, .unset, .unset] [])
          have u437 := own_bi0.mp hc437
          have u448 := own_bi0.mp hc448
          exact J463 _ _ _ X70h e70 N70h (by
            show _ = own_bi ((decide (3 < N) && decide ((own_sel v0 v1 v2 v3 v4 v5 v6) 3 = 60)) || (decide (3 < N) && own_ws ((own_sel v0 v1 v2 v3 v4 v5 v6) 3) && own_scan N (own_sel v0 v1 v2 v3 v4 v5 v6) 3 4))
            rw [u437, u448]; rfl)
        · skip
          refine Done.go (fun _ kt_ => XS.ifNo X70h.here hx rfl (hb hby at_448) rfl ((if0 _ _).trans (feq hc448).1) kt_) ?_
          show Done p e s below _ _ _ T70 (mkF m 451 #[.val (.int p0), .val (.long q1), .second, .val (.long q2), .second, .val (.int zl), .val (.ref b10), .val (.ref b21), .val (.ref b46), .val (.int (own_bi (own_p16 N v0 v1))), .val (.int (own_bi (own_p8 N v0 v1 v2))), .val (.int (own_bi (own_scan N (own_sel v0 v1 v2 v3 v4 v5 v6) 1 6))), .val (.int (own_bi (own_scan N (own_sel v0 v1 v2 v3 v4 v5 v6) 2 5))), .val (.int (own_bi (own_scan N (own_sel v0 v1 v2 v3 v4 v5 v6) 3 4))), .unset, .unset, .unset, .unset, .unset] [])
          refine Done.go (fun _ kt_ => XS.iload X70h.here hx rfl (hb hby at_451) rfl kt_) ?_
          show Done p e s below _ _ _ T70 (mkF m 453 #[.val (.int p0), .val (.long q1), .second, .val (.long q2), .second, .val (.int zl), .val (.ref b10), .val (.ref b21), .val (.ref b46), .val (.int (own_bi (own_p16 N v0 v1))), .val (.int (own_bi (own_p8 N v0 v1 v2))), .val (.int (own_bi (own_scan N (own_sel v0 v1 v2 v3 v4 v5 v6) 1 6))), .val (.int (own_bi (own_scan N (own_sel v0 v1 v2 v3 v4 v5 v6) 2 5))), .val (.int (own_bi (own_scan N (own_sel v0 v1 v2 v3 v4 v5 v6) 3 4))), .unset, .unset, .unset, .unset, .unset] [(.int (own_bi (own_scan N (own_sel v0 v1 v2 v3 v4 v5 v6) 3 4)))])
          by_cases hc453 : (own_bi (own_scan N (own_sel v0 v1 v2 v3 v4 v5 v6) 3 4)) = (0 : Int32)
          · skip
            refine Done.go (fun _ kt_ => XS.ifYes X70h.here hx rfl (pc0 := 453) (pc' := 460) rfl (hb hby at_453) rfl ((if0 _ _).trans (teq hc453).1) (by decide) (by decide) kt_) ?_
            show Done p e s below _ _ _ T70 (mkF m 460 #[.val (.int p0), .val (.long q1), .second, .val (.long q2), .second, .val (.int zl), .val (.ref b10), .val (.ref b21), .val (.ref b46), .val (.int (own_bi (own_p16 N v0 v1))), .val (.int (own_bi (own_p8 N v0 v1 v2))), .val (.int (own_bi (own_scan N (own_sel v0 v1 v2 v3 v4 v5 v6) 1 6))), .val (.int (own_bi (own_scan N (own_sel v0 v1 v2 v3 v4 v5 v6) 2 5))), .val (.int (own_bi (own_scan N (own_sel v0 v1 v2 v3 v4 v5 v6) 3 4))), .unset, .unset, .unset, .unset, .unset] [])
            refine Done.go (fun _ kt_ => XS.iconst X70h.here hx rfl (hb hby at_460) kt_) ?_
            show Done p e s below _ _ _ T70 (mkF m 461 #[.val (.int p0), .val (.long q1), .second, .val (.long q2), .second, .val (.int zl), .val (.ref b10), .val (.ref b21), .val (.ref b46), .val (.int (own_bi (own_p16 N v0 v1))), .val (.int (own_bi (own_p8 N v0 v1 v2))), .val (.int (own_bi (own_scan N (own_sel v0 v1 v2 v3 v4 v5 v6) 1 6))), .val (.int (own_bi (own_scan N (own_sel v0 v1 v2 v3 v4 v5 v6) 2 5))), .val (.int (own_bi (own_scan N (own_sel v0 v1 v2 v3 v4 v5 v6) 3 4))), .unset, .unset, .unset, .unset, .unset] [(.int (0 : Int32))])
            refine Done.go (fun _ kt_ => XS.istore X70h.here hx rfl (hb hby at_461) rfl (l' := #[.val (.int p0), .val (.long q1), .second, .val (.long q2), .second, .val (.int zl), .val (.ref b10), .val (.ref b21), .val (.ref b46), .val (.int (own_bi (own_p16 N v0 v1))), .val (.int (own_bi (own_p8 N v0 v1 v2))), .val (.int (own_bi (own_scan N (own_sel v0 v1 v2 v3 v4 v5 v6) 1 6))), .val (.int (own_bi (own_scan N (own_sel v0 v1 v2 v3 v4 v5 v6) 2 5))), .val (.int (own_bi (own_scan N (own_sel v0 v1 v2 v3 v4 v5 v6) 3 4))), .val (.int (0 : Int32)), .unset, .unset, .unset, .unset]) rfl kt_) ?_
            show Done p e s below _ _ _ T70 (mkF m 463 #[.val (.int p0), .val (.long q1), .second, .val (.long q2), .second, .val (.int zl), .val (.ref b10), .val (.ref b21), .val (.ref b46), .val (.int (own_bi (own_p16 N v0 v1))), .val (.int (own_bi (own_p8 N v0 v1 v2))), .val (.int (own_bi (own_scan N (own_sel v0 v1 v2 v3 v4 v5 v6) 1 6))), .val (.int (own_bi (own_scan N (own_sel v0 v1 v2 v3 v4 v5 v6) 2 5))), .val (.int (own_bi (own_scan N (own_sel v0 v1 v2 v3 v4 v5 v6) 3 4))), .val (.int (0 : Int32)), .unset, .unset, .unset, .unset] [])
            have u437 := own_bi0.mp hc437
            have u448 := own_bi1.mp hc448
            have u453 := own_bi0.mp hc453
            exact J463 _ _ _ X70h e70 N70h (by
              show _ = own_bi ((decide (3 < N) && decide ((own_sel v0 v1 v2 v3 v4 v5 v6) 3 = 60)) || (decide (3 < N) && own_ws ((own_sel v0 v1 v2 v3 v4 v5 v6) 3) && own_scan N (own_sel v0 v1 v2 v3 v4 v5 v6) 3 4))
              rw [u437, u448, u453]; rfl)
          · skip
            refine Done.go (fun _ kt_ => XS.ifNo X70h.here hx rfl (hb hby at_453) rfl ((if0 _ _).trans (feq hc453).1) kt_) ?_
            show Done p e s below _ _ _ T70 (mkF m 456 #[.val (.int p0), .val (.long q1), .second, .val (.long q2), .second, .val (.int zl), .val (.ref b10), .val (.ref b21), .val (.ref b46), .val (.int (own_bi (own_p16 N v0 v1))), .val (.int (own_bi (own_p8 N v0 v1 v2))), .val (.int (own_bi (own_scan N (own_sel v0 v1 v2 v3 v4 v5 v6) 1 6))), .val (.int (own_bi (own_scan N (own_sel v0 v1 v2 v3 v4 v5 v6) 2 5))), .val (.int (own_bi (own_scan N (own_sel v0 v1 v2 v3 v4 v5 v6) 3 4))), .unset, .unset, .unset, .unset, .unset] [])
            refine Done.go (fun _ kt_ => XS.iconst X70h.here hx rfl (hb hby at_456) kt_) ?_
            show Done p e s below _ _ _ T70 (mkF m 457 #[.val (.int p0), .val (.long q1), .second, .val (.long q2), .second, .val (.int zl), .val (.ref b10), .val (.ref b21), .val (.ref b46), .val (.int (own_bi (own_p16 N v0 v1))), .val (.int (own_bi (own_p8 N v0 v1 v2))), .val (.int (own_bi (own_scan N (own_sel v0 v1 v2 v3 v4 v5 v6) 1 6))), .val (.int (own_bi (own_scan N (own_sel v0 v1 v2 v3 v4 v5 v6) 2 5))), .val (.int (own_bi (own_scan N (own_sel v0 v1 v2 v3 v4 v5 v6) 3 4))), .unset, .unset, .unset, .unset, .unset] [(.int (1 : Int32))])
            refine Done.go (fun _ kt_ => XS.goto X70h.here hx rfl (pc0 := 457) (pc' := 461) rfl (hb hby at_457) (by decide) (by decide) kt_) ?_
            show Done p e s below _ _ _ T70 (mkF m 461 #[.val (.int p0), .val (.long q1), .second, .val (.long q2), .second, .val (.int zl), .val (.ref b10), .val (.ref b21), .val (.ref b46), .val (.int (own_bi (own_p16 N v0 v1))), .val (.int (own_bi (own_p8 N v0 v1 v2))), .val (.int (own_bi (own_scan N (own_sel v0 v1 v2 v3 v4 v5 v6) 1 6))), .val (.int (own_bi (own_scan N (own_sel v0 v1 v2 v3 v4 v5 v6) 2 5))), .val (.int (own_bi (own_scan N (own_sel v0 v1 v2 v3 v4 v5 v6) 3 4))), .unset, .unset, .unset, .unset, .unset] [(.int (1 : Int32))])
            refine Done.go (fun _ kt_ => XS.istore X70h.here hx rfl (hb hby at_461) rfl (l' := #[.val (.int p0), .val (.long q1), .second, .val (.long q2), .second, .val (.int zl), .val (.ref b10), .val (.ref b21), .val (.ref b46), .val (.int (own_bi (own_p16 N v0 v1))), .val (.int (own_bi (own_p8 N v0 v1 v2))), .val (.int (own_bi (own_scan N (own_sel v0 v1 v2 v3 v4 v5 v6) 1 6))), .val (.int (own_bi (own_scan N (own_sel v0 v1 v2 v3 v4 v5 v6) 2 5))), .val (.int (own_bi (own_scan N (own_sel v0 v1 v2 v3 v4 v5 v6) 3 4))), .val (.int (1 : Int32)), .unset, .unset, .unset, .unset]) rfl kt_) ?_
            show Done p e s below _ _ _ T70 (mkF m 463 #[.val (.int p0), .val (.long q1), .second, .val (.long q2), .second, .val (.int zl), .val (.ref b10), .val (.ref b21), .val (.ref b46), .val (.int (own_bi (own_p16 N v0 v1))), .val (.int (own_bi (own_p8 N v0 v1 v2))), .val (.int (own_bi (own_scan N (own_sel v0 v1 v2 v3 v4 v5 v6) 1 6))), .val (.int (own_bi (own_scan N (own_sel v0 v1 v2 v3 v4 v5 v6) 2 5))), .val (.int (own_bi (own_scan N (own_sel v0 v1 v2 v3 v4 v5 v6) 3 4))), .val (.int (1 : Int32)), .unset, .unset, .unset, .unset] [])
            have u437 := own_bi0.mp hc437
            have u448 := own_bi1.mp hc448
            have u453 := own_bi1.mp hc453
            exact J463 _ _ _ X70h e70 N70h (by
              show _ = own_bi ((decide (3 < N) && decide ((own_sel v0 v1 v2 v3 v4 v5 v6) 3 = 60)) || (decide (3 < N) && own_ws ((own_sel v0 v1 v2 v3 v4 v5 v6) 3) && own_scan N (own_sel v0 v1 v2 v3 v4 v5 v6) 3 4))
              rw [u437, u448, u453]; rfl)
      · skip
        refine Done.go (fun _ kt_ => XS.ifYes X69h.here hx rfl (pc0 := 437) (pc' := 456) rfl (hb hby at_437) rfl ((if0 _ _).trans (feq hc437).2) (by decide) (by decide) kt_) ?_
        show Done p e s below _ _ _ T69 (mkF m 456 #[.val (.int p0), .val (.long q1), .second, .val (.long q2), .second, .val (.int zl), .val (.ref b10), .val (.ref b21), .val (.ref b46), .val (.int (own_bi (own_p16 N v0 v1))), .val (.int (own_bi (own_p8 N v0 v1 v2))), .val (.int (own_bi (own_scan N (own_sel v0 v1 v2 v3 v4 v5 v6) 1 6))), .val (.int (own_bi (own_scan N (own_sel v0 v1 v2 v3 v4 v5 v6) 2 5))), .val (.int (own_bi (own_scan N (own_sel v0 v1 v2 v3 v4 v5 v6) 3 4))), .unset, .unset, .unset, .unset, .unset] [])
        refine Done.go (fun _ kt_ => XS.iconst X69h.here hx rfl (hb hby at_456) kt_) ?_
        show Done p e s below _ _ _ T69 (mkF m 457 #[.val (.int p0), .val (.long q1), .second, .val (.long q2), .second, .val (.int zl), .val (.ref b10), .val (.ref b21), .val (.ref b46), .val (.int (own_bi (own_p16 N v0 v1))), .val (.int (own_bi (own_p8 N v0 v1 v2))), .val (.int (own_bi (own_scan N (own_sel v0 v1 v2 v3 v4 v5 v6) 1 6))), .val (.int (own_bi (own_scan N (own_sel v0 v1 v2 v3 v4 v5 v6) 2 5))), .val (.int (own_bi (own_scan N (own_sel v0 v1 v2 v3 v4 v5 v6) 3 4))), .unset, .unset, .unset, .unset, .unset] [(.int (1 : Int32))])
        refine Done.go (fun _ kt_ => XS.goto X69h.here hx rfl (pc0 := 457) (pc' := 461) rfl (hb hby at_457) (by decide) (by decide) kt_) ?_
        show Done p e s below _ _ _ T69 (mkF m 461 #[.val (.int p0), .val (.long q1), .second, .val (.long q2), .second, .val (.int zl), .val (.ref b10), .val (.ref b21), .val (.ref b46), .val (.int (own_bi (own_p16 N v0 v1))), .val (.int (own_bi (own_p8 N v0 v1 v2))), .val (.int (own_bi (own_scan N (own_sel v0 v1 v2 v3 v4 v5 v6) 1 6))), .val (.int (own_bi (own_scan N (own_sel v0 v1 v2 v3 v4 v5 v6) 2 5))), .val (.int (own_bi (own_scan N (own_sel v0 v1 v2 v3 v4 v5 v6) 3 4))), .unset, .unset, .unset, .unset, .unset] [(.int (1 : Int32))])
        refine Done.go (fun _ kt_ => XS.istore X69h.here hx rfl (hb hby at_461) rfl (l' := #[.val (.int p0), .val (.long q1), .second, .val (.long q2), .second, .val (.int zl), .val (.ref b10), .val (.ref b21), .val (.ref b46), .val (.int (own_bi (own_p16 N v0 v1))), .val (.int (own_bi (own_p8 N v0 v1 v2))), .val (.int (own_bi (own_scan N (own_sel v0 v1 v2 v3 v4 v5 v6) 1 6))), .val (.int (own_bi (own_scan N (own_sel v0 v1 v2 v3 v4 v5 v6) 2 5))), .val (.int (own_bi (own_scan N (own_sel v0 v1 v2 v3 v4 v5 v6) 3 4))), .val (.int (1 : Int32)), .unset, .unset, .unset, .unset]) rfl kt_) ?_
        show Done p e s below _ _ _ T69 (mkF m 463 #[.val (.int p0), .val (.long q1), .second, .val (.long q2), .second, .val (.int zl), .val (.ref b10), .val (.ref b21), .val (.ref b46), .val (.int (own_bi (own_p16 N v0 v1))), .val (.int (own_bi (own_p8 N v0 v1 v2))), .val (.int (own_bi (own_scan N (own_sel v0 v1 v2 v3 v4 v5 v6) 1 6))), .val (.int (own_bi (own_scan N (own_sel v0 v1 v2 v3 v4 v5 v6) 2 5))), .val (.int (own_bi (own_scan N (own_sel v0 v1 v2 v3 v4 v5 v6) 3 4))), .val (.int (1 : Int32)), .unset, .unset, .unset, .unset] [])
        have u437 := own_bi1.mp hc437
        exact J463 _ _ _ X69h e69 N69h (by
          show _ = own_bi ((decide (3 < N) && decide ((own_sel v0 v1 v2 v3 v4 v5 v6) 3 = 60)) || (decide (3 < N) && own_ws ((own_sel v0 v1 v2 v3 v4 v5 v6) 3) && own_scan N (own_sel v0 v1 v2 v3 v4 v5 v6) 3 4))
          rw [u437]; rfl)
    have J395 : ∀ (T2 : State) (L2 : List Loc) (av : Int32), Stand p l e room_1 s m #[(.int p0), (.long q1), (.long q2)] below meth c T2 L2 3 24 → T2.heap = h1 → Fr n0 L2 → av = (own_bi (own_scan N (own_sel v0 v1 v2 v3 v4 v5 v6) 2 5)) → Done p e s below 16 128 (Q0 n0) T2 (mkF m 395 #[.val (.int p0), .val (.long q1), .second, .val (.long q2), .second, .val (.int zl), .val (.ref b10), .val (.ref b21), .val (.ref b46), .val (.int (own_bi (own_p16 N v0 v1))), .val (.int (own_bi (own_p8 N v0 v1 v2))), .val (.int (own_bi (own_scan N (own_sel v0 v1 v2 v3 v4 v5 v6) 1 6))), .val (.int av), .unset, .unset, .unset, .unset, .unset, .unset] []) := by
      intro T2 L2 av X2 e2 N2 hav
      subst hav
      show Done p e s below _ _ _ T2 (mkF m 395 #[.val (.int p0), .val (.long q1), .second, .val (.long q2), .second, .val (.int zl), .val (.ref b10), .val (.ref b21), .val (.ref b46), .val (.int (own_bi (own_p16 N v0 v1))), .val (.int (own_bi (own_p8 N v0 v1 v2))), .val (.int (own_bi (own_scan N (own_sel v0 v1 v2 v3 v4 v5 v6) 1 6))), .val (.int (own_bi (own_scan N (own_sel v0 v1 v2 v3 v4 v5 v6) 2 5))), .unset, .unset, .unset, .unset, .unset, .unset] [])
      refine Done.go (fun _ kt_ => XS.aload X2.here hx rfl (hb hby at_395) rfl rfl kt_) ?_
      show Done p e s below _ _ _ T2 (mkF m 397 #[.val (.int p0), .val (.long q1), .second, .val (.long q2), .second, .val (.int zl), .val (.ref b10), .val (.ref b21), .val (.ref b46), .val (.int (own_bi (own_p16 N v0 v1))), .val (.int (own_bi (own_p8 N v0 v1 v2))), .val (.int (own_bi (own_scan N (own_sel v0 v1 v2 v3 v4 v5 v6) 1 6))), .val (.int (own_bi (own_scan N (own_sel v0 v1 v2 v3 v4 v5 v6) 2 5))), .unset, .unset, .unset, .unset, .unset, .unset] [(.ref b21)])
      refine Done.go (fun _ kt_ => XS.iload X2.here hx rfl (hb hby at_397) rfl kt_) ?_
      show Done p e s below _ _ _ T2 (mkF m 399 #[.val (.int p0), .val (.long q1), .second, .val (.long q2), .second, .val (.int zl), .val (.ref b10), .val (.ref b21), .val (.ref b46), .val (.int (own_bi (own_p16 N v0 v1))), .val (.int (own_bi (own_p8 N v0 v1 v2))), .val (.int (own_bi (own_scan N (own_sel v0 v1 v2 v3 v4 v5 v6) 1 6))), .val (.int (own_bi (own_scan N (own_sel v0 v1 v2 v3 v4 v5 v6) 2 5))), .unset, .unset, .unset, .unset, .unset, .unset] [(.int zl), (.ref b21)])
      refine Done.go (fun _ kt_ => XS.iconst X2.here hx rfl (hb hby at_399) kt_) ?_
      show Done p e s below _ _ _ T2 (mkF m 400 #[.val (.int p0), .val (.long q1), .second, .val (.long q2), .second, .val (.int zl), .val (.ref b10), .val (.ref b21), .val (.ref b46), .val (.int (own_bi (own_p16 N v0 v1))), .val (.int (own_bi (own_p8 N v0 v1 v2))), .val (.int (own_bi (own_scan N (own_sel v0 v1 v2 v3 v4 v5 v6) 1 6))), .val (.int (own_bi (own_scan N (own_sel v0 v1 v2 v3 v4 v5 v6) 2 5))), .unset, .unset, .unset, .unset, .unset, .unset] [(.int (4 : Int32)), (.int zl), (.ref b21)])
      obtain ⟨v71, T71, Lc71, X71, hQ71, st71⟩ := own_backG (Jvm.LawKit.callS X2 hx (y := (⟨"spinecode/xml/XmlInputRecognisesPinLaw", "lt", "([BII)Z"⟩ : MethodName)) hown (mvT hZ (hw _ (List.mem_of_getElem? (i := 6) rfl))) (mvT hZ (hw _ (List.mem_of_getElem? (i := 7) rfl))) (mvT hZ (hw _ (List.mem_of_getElem? (i := 3) rfl))) (mvT hZ (hw _ (List.mem_of_getElem? (i := 8) rfl))) (by decide) (backOf (W := 0) (rm2 l Z a0 hw [] b21 zl (4 : Int32) N 4 (own_sel v0 v1 v2 v3 v4 v5 v6) h1 n0 z1 VB1 hN (by decide) hN7) hZ (hw _ (List.mem_of_getElem? (i := 8) rfl)) (hw _ (List.mem_of_getElem? (i := 3) rfl)) (by decide) (by decide)) (g := (mkF m 400 #[.val (.int p0), .val (.long q1), .second, .val (.long q2), .second, .val (.int zl), .val (.ref b10), .val (.ref b21), .val (.ref b46), .val (.int (own_bi (own_p16 N v0 v1))), .val (.int (own_bi (own_p8 N v0 v1 v2))), .val (.int (own_bi (own_scan N (own_sel v0 v1 v2 v3 v4 v5 v6) 1 6))), .val (.int (own_bi (own_scan N (own_sel v0 v1 v2 v3 v4 v5 v6) 2 5))), .unset, .unset, .unset, .unset, .unset, .unset] [(.int (4 : Int32)), (.int zl), (.ref b21)])) rfl (by rw [hml]; rfl) (argsL := [(.ref b21), (.int zl), (.int (4 : Int32))]) (rest := []) (lenOf own_pd4 rfl) rfl (by show 2 * 0 + _ ≤ _; exact Nat.le_of_eq rfl) (hb hby at_400) (fun _ _ => ⟨rfl, e2, (by first | decide | omega : 3 + 0 ≤ _), (by first | decide | omega : 24 + 0 ≤ _)⟩))
      obtain ⟨rfl, N71q, e71⟩ := hQ71
      refine Done.go st71 ?_
      clear st71
      have N71 := Fr.app N2 N71q
      clear N71q
      obtain ⟨Lh71, X71h, N71h⟩ : ∃ L, Stand p l e room_1 s m #[(.int p0), (.long q1), (.long q2)] below meth c T71 L 3 24 ∧ Fr n0 L := ⟨_, X71, N71⟩
      clear X71 N71 X2 e2 N2
      show Done p e s below _ _ _ T71 (mkF m 403 #[.val (.int p0), .val (.long q1), .second, .val (.long q2), .second, .val (.int zl), .val (.ref b10), .val (.ref b21), .val (.ref b46), .val (.int (own_bi (own_p16 N v0 v1))), .val (.int (own_bi (own_p8 N v0 v1 v2))), .val (.int (own_bi (own_scan N (own_sel v0 v1 v2 v3 v4 v5 v6) 1 6))), .val (.int (own_bi (own_scan N (own_sel v0 v1 v2 v3 v4 v5 v6) 2 5))), .unset, .unset, .unset, .unset, .unset, .unset] [(.int (own_bi (decide (4 < N) && decide (((own_sel v0 v1 v2 v3 v4 v5 v6) 4) = 60))))])
      by_cases hc403 : (own_bi (decide (4 < N) && decide (((own_sel v0 v1 v2 v3 v4 v5 v6) 4) = 60))) = (0 : Int32)
      · skip
        refine Done.go (fun _ kt_ => XS.ifNo X71h.here hx rfl (hb hby at_403) rfl ((if0 _ _).trans (teq hc403).2) kt_) ?_
        show Done p e s below _ _ _ T71 (mkF m 406 #[.val (.int p0), .val (.long q1), .second, .val (.long q2), .second, .val (.int zl), .val (.ref b10), .val (.ref b21), .val (.ref b46), .val (.int (own_bi (own_p16 N v0 v1))), .val (.int (own_bi (own_p8 N v0 v1 v2))), .val (.int (own_bi (own_scan N (own_sel v0 v1 v2 v3 v4 v5 v6) 1 6))), .val (.int (own_bi (own_scan N (own_sel v0 v1 v2 v3 v4 v5 v6) 2 5))), .unset, .unset, .unset, .unset, .unset, .unset] [])
        refine Done.go (fun _ kt_ => XS.aload X71h.here hx rfl (hb hby at_406) rfl rfl kt_) ?_
        show Done p e s below _ _ _ T71 (mkF m 408 #[.val (.int p0), .val (.long q1), .second, .val (.long q2), .second, .val (.int zl), .val (.ref b10), .val (.ref b21), .val (.ref b46), .val (.int (own_bi (own_p16 N v0 v1))), .val (.int (own_bi (own_p8 N v0 v1 v2))), .val (.int (own_bi (own_scan N (own_sel v0 v1 v2 v3 v4 v5 v6) 1 6))), .val (.int (own_bi (own_scan N (own_sel v0 v1 v2 v3 v4 v5 v6) 2 5))), .unset, .unset, .unset, .unset, .unset, .unset] [(.ref b21)])
        refine Done.go (fun _ kt_ => XS.iload X71h.here hx rfl (hb hby at_408) rfl kt_) ?_
        show Done p e s below _ _ _ T71 (mkF m 410 #[.val (.int p0), .val (.long q1), .second, .val (.long q2), .second, .val (.int zl), .val (.ref b10), .val (.ref b21), .val (.ref b46), .val (.int (own_bi (own_p16 N v0 v1))), .val (.int (own_bi (own_p8 N v0 v1 v2))), .val (.int (own_bi (own_scan N (own_sel v0 v1 v2 v3 v4 v5 v6) 1 6))), .val (.int (own_bi (own_scan N (own_sel v0 v1 v2 v3 v4 v5 v6) 2 5))), .unset, .unset, .unset, .unset, .unset, .unset] [(.int zl), (.ref b21)])
        refine Done.go (fun _ kt_ => XS.iconst X71h.here hx rfl (hb hby at_410) kt_) ?_
        show Done p e s below _ _ _ T71 (mkF m 411 #[.val (.int p0), .val (.long q1), .second, .val (.long q2), .second, .val (.int zl), .val (.ref b10), .val (.ref b21), .val (.ref b46), .val (.int (own_bi (own_p16 N v0 v1))), .val (.int (own_bi (own_p8 N v0 v1 v2))), .val (.int (own_bi (own_scan N (own_sel v0 v1 v2 v3 v4 v5 v6) 1 6))), .val (.int (own_bi (own_scan N (own_sel v0 v1 v2 v3 v4 v5 v6) 2 5))), .unset, .unset, .unset, .unset, .unset, .unset] [(.int (4 : Int32)), (.int zl), (.ref b21)])
        obtain ⟨v72, T72, Lc72, X72, hQ72, st72⟩ := own_backG (Jvm.LawKit.callS X71h hx (y := (⟨"spinecode/xml/XmlInputRecognisesPinLaw", "ws", "([BII)Z"⟩ : MethodName)) hown (mvT hZ (hw _ (List.mem_of_getElem? (i := 9) rfl))) (mvT hZ (hw _ (List.mem_of_getElem? (i := 10) rfl))) (mvT hZ (hw _ (List.mem_of_getElem? (i := 3) rfl))) (mvT hZ (hw _ (List.mem_of_getElem? (i := 11) rfl))) (by decide) (backOf (W := 0) (rm3 l Z a0 hw [] b21 zl (4 : Int32) N 4 (own_sel v0 v1 v2 v3 v4 v5 v6) h1 n0 z1 VB1 hN (by decide) hN7) hZ (hw _ (List.mem_of_getElem? (i := 11) rfl)) (hw _ (List.mem_of_getElem? (i := 3) rfl)) (by decide) (by decide)) (g := (mkF m 411 #[.val (.int p0), .val (.long q1), .second, .val (.long q2), .second, .val (.int zl), .val (.ref b10), .val (.ref b21), .val (.ref b46), .val (.int (own_bi (own_p16 N v0 v1))), .val (.int (own_bi (own_p8 N v0 v1 v2))), .val (.int (own_bi (own_scan N (own_sel v0 v1 v2 v3 v4 v5 v6) 1 6))), .val (.int (own_bi (own_scan N (own_sel v0 v1 v2 v3 v4 v5 v6) 2 5))), .unset, .unset, .unset, .unset, .unset, .unset] [(.int (4 : Int32)), (.int zl), (.ref b21)])) rfl (by rw [hml]; rfl) (argsL := [(.ref b21), (.int zl), (.int (4 : Int32))]) (rest := []) (lenOf own_pd4 rfl) rfl (by show 2 * 0 + _ ≤ _; exact Nat.le_of_eq rfl) (hb hby at_411) (fun _ _ => ⟨rfl, e71, (by first | decide | omega : 3 + 0 ≤ _), (by first | decide | omega : 24 + 0 ≤ _)⟩))
        obtain ⟨rfl, N72q, e72⟩ := hQ72
        refine Done.go st72 ?_
        clear st72
        have N72 := Fr.app N71h N72q
        clear N72q
        obtain ⟨Lh72, X72h, N72h⟩ : ∃ L, Stand p l e room_1 s m #[(.int p0), (.long q1), (.long q2)] below meth c T72 L 3 24 ∧ Fr n0 L := ⟨_, X72, N72⟩
        clear X72 N72 X71h e71 N71h
        show Done p e s below _ _ _ T72 (mkF m 414 #[.val (.int p0), .val (.long q1), .second, .val (.long q2), .second, .val (.int zl), .val (.ref b10), .val (.ref b21), .val (.ref b46), .val (.int (own_bi (own_p16 N v0 v1))), .val (.int (own_bi (own_p8 N v0 v1 v2))), .val (.int (own_bi (own_scan N (own_sel v0 v1 v2 v3 v4 v5 v6) 1 6))), .val (.int (own_bi (own_scan N (own_sel v0 v1 v2 v3 v4 v5 v6) 2 5))), .unset, .unset, .unset, .unset, .unset, .unset] [(.int (own_bi (decide (4 < N) && own_ws ((own_sel v0 v1 v2 v3 v4 v5 v6) 4))))])
        by_cases hc414 : (own_bi (decide (4 < N) && own_ws ((own_sel v0 v1 v2 v3 v4 v5 v6) 4))) = (0 : Int32)
        · skip
          refine Done.go (fun _ kt_ => XS.ifYes X72h.here hx rfl (pc0 := 414) (pc' := 426) rfl (hb hby at_414) rfl ((if0 _ _).trans (teq hc414).1) (by decide) (by decide) kt_) ?_
          show Done p e s below _ _ _ T72 (mkF m 426 #[.val (.int p0), .val (.long q1), .second, .val (.long q2), .second, .val (.int zl), .val (.ref b10), .val (.ref b21), .val (.ref b46), .val (.int (own_bi (own_p16 N v0 v1))), .val (.int (own_bi (own_p8 N v0 v1 v2))), .val (.int (own_bi (own_scan N (own_sel v0 v1 v2 v3 v4 v5 v6) 1 6))), .val (.int (own_bi (own_scan N (own_sel v0 v1 v2 v3 v4 v5 v6) 2 5))), .unset, .unset, .unset, .unset, .unset, .unset] [])
          refine Done.go (fun _ kt_ => XS.iconst X72h.here hx rfl (hb hby at_426) kt_) ?_
          show Done p e s below _ _ _ T72 (mkF m 427 #[.val (.int p0), .val (.long q1), .second, .val (.long q2), .second, .val (.int zl), .val (.ref b10), .val (.ref b21), .val (.ref b46), .val (.int (own_bi (own_p16 N v0 v1))), .val (.int (own_bi (own_p8 N v0 v1 v2))), .val (.int (own_bi (own_scan N (own_sel v0 v1 v2 v3 v4 v5 v6) 1 6))), .val (.int (own_bi (own_scan N (own_sel v0 v1 v2 v3 v4 v5 v6) 2 5))), .unset, .unset, .unset, .unset, .unset, .unset] [(.int (0 : Int32))])
          refine Done.go (fun _ kt_ => XS.istore X72h.here hx rfl (hb hby at_427) rfl (l' := #[.val (.int p0), .val (.long q1), .second, .val (.long q2), .second, .val (.int zl), .val (.ref b10), .val (.ref b21), .val (.ref b46), .val (.int (own_bi (own_p16 N v0 v1))), .val (.int (own_bi (own_p8 N v0 v1 v2))), .val (.int (own_bi (own_scan N (own_sel v0 v1 v2 v3 v4 v5 v6) 1 6))), .val (.int (own_bi (own_scan N (own_sel v0 v1 v2 v3 v4 v5 v6) 2 5))), .val (.int (0 : Int32)), .unset, .unset, .unset, .unset, .unset]) rfl kt_) ?_
          show Done p e s below _ _ _ T72 (mkF m 429 #[.val (.int p0), .val (.long q1), .second, .val (.long q2), .second, .val (.int zl), .val (.ref b10), .val (.ref b21), .val (.ref b46), .val (.int (own_bi (own_p16 N v0 v1))), .val (.int (own_bi (own_p8 N v0 v1 v2))), .val (.int (own_bi (own_scan N (own_sel v0 v1 v2 v3 v4 v5 v6) 1 6))), .val (.int (own_bi (own_scan N (own_sel v0 v1 v2 v3 v4 v5 v6) 2 5))), .val (.int (0 : Int32)), .unset, .unset, .unset, .unset, .unset] [])
          have u403 := own_bi0.mp hc403
          have u414 := own_bi0.mp hc414
          exact J429 _ _ _ X72h e72 N72h (by
            show _ = own_bi ((decide (4 < N) && decide ((own_sel v0 v1 v2 v3 v4 v5 v6) 4 = 60)) || (decide (4 < N) && own_ws ((own_sel v0 v1 v2 v3 v4 v5 v6) 4) && own_scan N (own_sel v0 v1 v2 v3 v4 v5 v6) 2 5))
            rw [u403, u414]; rfl)
        · skip
          refine Done.go (fun _ kt_ => XS.ifNo X72h.here hx rfl (hb hby at_414) rfl ((if0 _ _).trans (feq hc414).1) kt_) ?_
          show Done p e s below _ _ _ T72 (mkF m 417 #[.val (.int p0), .val (.long q1), .second, .val (.long q2), .second, .val (.int zl), .val (.ref b10), .val (.ref b21), .val (.ref b46), .val (.int (own_bi (own_p16 N v0 v1))), .val (.int (own_bi (own_p8 N v0 v1 v2))), .val (.int (own_bi (own_scan N (own_sel v0 v1 v2 v3 v4 v5 v6) 1 6))), .val (.int (own_bi (own_scan N (own_sel v0 v1 v2 v3 v4 v5 v6) 2 5))), .unset, .unset, .unset, .unset, .unset, .unset] [])
          refine Done.go (fun _ kt_ => XS.iload X72h.here hx rfl (hb hby at_417) rfl kt_) ?_
          show Done p e s below _ _ _ T72 (mkF m 419 #[.val (.int p0), .val (.long q1), .second, .val (.long q2), .second, .val (.int zl), .val (.ref b10), .val (.ref b21), .val (.ref b46), .val (.int (own_bi (own_p16 N v0 v1))), .val (.int (own_bi (own_p8 N v0 v1 v2))), .val (.int (own_bi (own_scan N (own_sel v0 v1 v2 v3 v4 v5 v6) 1 6))), .val (.int (own_bi (own_scan N (own_sel v0 v1 v2 v3 v4 v5 v6) 2 5))), .unset, .unset, .unset, .unset, .unset, .unset] [(.int (own_bi (own_scan N (own_sel v0 v1 v2 v3 v4 v5 v6) 2 5)))])
          by_cases hc419 : (own_bi (own_scan N (own_sel v0 v1 v2 v3 v4 v5 v6) 2 5)) = (0 : Int32)
          · skip
            refine Done.go (fun _ kt_ => XS.ifYes X72h.here hx rfl (pc0 := 419) (pc' := 426) rfl (hb hby at_419) rfl ((if0 _ _).trans (teq hc419).1) (by decide) (by decide) kt_) ?_
            show Done p e s below _ _ _ T72 (mkF m 426 #[.val (.int p0), .val (.long q1), .second, .val (.long q2), .second, .val (.int zl), .val (.ref b10), .val (.ref b21), .val (.ref b46), .val (.int (own_bi (own_p16 N v0 v1))), .val (.int (own_bi (own_p8 N v0 v1 v2))), .val (.int (own_bi (own_scan N (own_sel v0 v1 v2 v3 v4 v5 v6) 1 6))), .val (.int (own_bi (own_scan N (own_sel v0 v1 v2 v3 v4 v5 v6) 2 5))), .unset, .unset, .unset, .unset, .unset, .unset] [])
            refine Done.go (fun _ kt_ => XS.iconst X72h.here hx rfl (hb hby at_426) kt_) ?_
            show Done p e s below _ _ _ T72 (mkF m 427 #[.val (.int p0), .val (.long q1), .second, .val (.long q2), .second, .val (.int zl), .val (.ref b10), .val (.ref b21), .val (.ref b46), .val (.int (own_bi (own_p16 N v0 v1))), .val (.int (own_bi (own_p8 N v0 v1 v2))), .val (.int (own_bi (own_scan N (own_sel v0 v1 v2 v3 v4 v5 v6) 1 6))), .val (.int (own_bi (own_scan N (own_sel v0 v1 v2 v3 v4 v5 v6) 2 5))), .unset, .unset, .unset, .unset, .unset, .unset] [(.int (0 : Int32))])
            refine Done.go (fun _ kt_ => XS.istore X72h.here hx rfl (hb hby at_427) rfl (l' := #[.val (.int p0), .val (.long q1), .second, .val (.long q2), .second, .val (.int zl), .val (.ref b10), .val (.ref b21), .val (.ref b46), .val (.int (own_bi (own_p16 N v0 v1))), .val (.int (own_bi (own_p8 N v0 v1 v2))), .val (.int (own_bi (own_scan N (own_sel v0 v1 v2 v3 v4 v5 v6) 1 6))), .val (.int (own_bi (own_scan N (own_sel v0 v1 v2 v3 v4 v5 v6) 2 5))), .val (.int (0 : Int32)), .unset, .unset, .unset, .unset, .unset]) rfl kt_) ?_
            show Done p e s below _ _ _ T72 (mkF m 429 #[.val (.int p0), .val (.long q1), .second, .val (.long q2), .second, .val (.int zl), .val (.ref b10), .val (.ref b21), .val (.ref b46), .val (.int (own_bi (own_p16 N v0 v1))), .val (.int (own_bi (own_p8 N v0 v1 v2))), .val (.int (own_bi (own_scan N (own_sel v0 v1 v2 v3 v4 v5 v6) 1 6))), .val (.int (own_bi (own_scan N (own_sel v0 v1 v2 v3 v4 v5 v6) 2 5))), .val (.int (0 : Int32)), .unset, .unset, .unset, .unset, .unset] [])
            have u403 := own_bi0.mp hc403
            have u414 := own_bi1.mp hc414
            have u419 := own_bi0.mp hc419
            exact J429 _ _ _ X72h e72 N72h (by
              show _ = own_bi ((decide (4 < N) && decide ((own_sel v0 v1 v2 v3 v4 v5 v6) 4 = 60)) || (decide (4 < N) && own_ws ((own_sel v0 v1 v2 v3 v4 v5 v6) 4) && own_scan N (own_sel v0 v1 v2 v3 v4 v5 v6) 2 5))
              rw [u403, u414, u419]; rfl)
          · skip
            refine Done.go (fun _ kt_ => XS.ifNo X72h.here hx rfl (hb hby at_419) rfl ((if0 _ _).trans (feq hc419).1) kt_) ?_
            show Done p e s below _ _ _ T72 (mkF m 422 #[.val (.int p0), .val (.long q1), .second, .val (.long q2), .second, .val (.int zl), .val (.ref b10), .val (.ref b21), .val (.ref b46), .val (.int (own_bi (own_p16 N v0 v1))), .val (.int (own_bi (own_p8 N v0 v1 v2))), .val (.int (own_bi (own_scan N (own_sel v0 v1 v2 v3 v4 v5 v6) 1 6))), .val (.int (own_bi (own_scan N (own_sel v0 v1 v2 v3 v4 v5 v6) 2 5))), .unset, .unset, .unset, .unset, .unset, .unset] [])
            refine Done.go (fun _ kt_ => XS.iconst X72h.here hx rfl (hb hby at_422) kt_) ?_
            show Done p e s below _ _ _ T72 (mkF m 423 #[.val (.int p0), .val (.long q1), .second, .val (.long q2), .second, .val (.int zl), .val (.ref b10), .val (.ref b21), .val (.ref b46), .val (.int (own_bi (own_p16 N v0 v1))), .val (.int (own_bi (own_p8 N v0 v1 v2))), .val (.int (own_bi (own_scan N (own_sel v0 v1 v2 v3 v4 v5 v6) 1 6))), .val (.int (own_bi (own_scan N (own_sel v0 v1 v2 v3 v4 v5 v6) 2 5))), .unset, .unset, .unset, .unset, .unset, .unset] [(.int (1 : Int32))])
            refine Done.go (fun _ kt_ => XS.goto X72h.here hx rfl (pc0 := 423) (pc' := 427) rfl (hb hby at_423) (by decide) (by decide) kt_) ?_
            show Done p e s below _ _ _ T72 (mkF m 427 #[.val (.int p0), .val (.long q1), .second, .val (.long q2), .second, .val (.int zl), .val (.ref b10), .val (.ref b21), .val (.ref b46), .val (.int (own_bi (own_p16 N v0 v1))), .val (.int (own_bi (own_p8 N v0 v1 v2))), .val (.int (own_bi (own_scan N (own_sel v0 v1 v2 v3 v4 v5 v6) 1 6))), .val (.int (own_bi (own_scan N (own_sel v0 v1 v2 v3 v4 v5 v6) 2 5))), .unset, .unset, .unset, .unset, .unset, .unset] [(.int (1 : Int32))])
            refine Done.go (fun _ kt_ => XS.istore X72h.here hx rfl (hb hby at_427) rfl (l' := #[.val (.int p0), .val (.long q1), .second, .val (.long q2), .second, .val (.int zl), .val (.ref b10), .val (.ref b21), .val (.ref b46), .val (.int (own_bi (own_p16 N v0 v1))), .val (.int (own_bi (own_p8 N v0 v1 v2))), .val (.int (own_bi (own_scan N (own_sel v0 v1 v2 v3 v4 v5 v6) 1 6))), .val (.int (own_bi (own_scan N (own_sel v0 v1 v2 v3 v4 v5 v6) 2 5))), .val (.int (1 : Int32)), .unset, .unset, .unset, .unset, .unset]) rfl kt_) ?_
            show Done p e s below _ _ _ T72 (mkF m 429 #[.val (.int p0), .val (.long q1), .second, .val (.long q2), .second, .val (.int zl), .val (.ref b10), .val (.ref b21), .val (.ref b46), .val (.int (own_bi (own_p16 N v0 v1))), .val (.int (own_bi (own_p8 N v0 v1 v2))), .val (.int (own_bi (own_scan N (own_sel v0 v1 v2 v3 v4 v5 v6) 1 6))), .val (.int (own_bi (own_scan N (own_sel v0 v1 v2 v3 v4 v5 v6) 2 5))), .val (.int (1 : Int32)), .unset, .unset, .unset, .unset, .unset] [])
            have u403 := own_bi0.mp hc403
            have u414 := own_bi1.mp hc414
            have u419 := own_bi1.mp hc419
            exact J429 _ _ _ X72h e72 N72h (by
              show _ = own_bi ((decide (4 < N) && decide ((own_sel v0 v1 v2 v3 v4 v5 v6) 4 = 60)) || (decide (4 < N) && own_ws ((own_sel v0 v1 v2 v3 v4 v5 v6) 4) && own_scan N (own_sel v0 v1 v2 v3 v4 v5 v6) 2 5))
              rw [u403, u414, u419]; rfl)
      · skip
        refine Done.go (fun _ kt_ => XS.ifYes X71h.here hx rfl (pc0 := 403) (pc' := 422) rfl (hb hby at_403) rfl ((if0 _ _).trans (feq hc403).2) (by decide) (by decide) kt_) ?_
        show Done p e s below _ _ _ T71 (mkF m 422 #[.val (.int p0), .val (.long q1), .second, .val (.long q2), .second, .val (.int zl), .val (.ref b10), .val (.ref b21), .val (.ref b46), .val (.int (own_bi (own_p16 N v0 v1))), .val (.int (own_bi (own_p8 N v0 v1 v2))), .val (.int (own_bi (own_scan N (own_sel v0 v1 v2 v3 v4 v5 v6) 1 6))), .val (.int (own_bi (own_scan N (own_sel v0 v1 v2 v3 v4 v5 v6) 2 5))), .unset, .unset, .unset, .unset, .unset, .unset] [])
        refine Done.go (fun _ kt_ => XS.iconst X71h.here hx rfl (hb hby at_422) kt_) ?_
        show Done p e s below _ _ _ T71 (mkF m 423 #[.val (.int p0), .val (.long q1), .second, .val (.long q2), .second, .val (.int zl), .val (.ref b10), .val (.ref b21), .val (.ref b46), .val (.int (own_bi (own_p16 N v0 v1))), .val (.int (own_bi (own_p8 N v0 v1 v2))), .val (.int (own_bi (own_scan N (own_sel v0 v1 v2 v3 v4 v5 v6) 1 6))), .val (.int (own_bi (own_scan N (own_sel v0 v1 v2 v3 v4 v5 v6) 2 5))), .unset, .unset, .unset, .unset, .unset, .unset] [(.int (1 : Int32))])
        refine Done.go (fun _ kt_ => XS.goto X71h.here hx rfl (pc0 := 423) (pc' := 427) rfl (hb hby at_423) (by decide) (by decide) kt_) ?_
        show Done p e s below _ _ _ T71 (mkF m 427 #[.val (.int p0), .val (.long q1), .second, .val (.long q2), .second, .val (.int zl), .val (.ref b10), .val (.ref b21), .val (.ref b46), .val (.int (own_bi (own_p16 N v0 v1))), .val (.int (own_bi (own_p8 N v0 v1 v2))), .val (.int (own_bi (own_scan N (own_sel v0 v1 v2 v3 v4 v5 v6) 1 6))), .val (.int (own_bi (own_scan N (own_sel v0 v1 v2 v3 v4 v5 v6) 2 5))), .unset, .unset, .unset, .unset, .unset, .unset] [(.int (1 : Int32))])
        refine Done.go (fun _ kt_ => XS.istore X71h.here hx rfl (hb hby at_427) rfl (l' := #[.val (.int p0), .val (.long q1), .second, .val (.long q2), .second, .val (.int zl), .val (.ref b10), .val (.ref b21), .val (.ref b46), .val (.int (own_bi (own_p16 N v0 v1))), .val (.int (own_bi (own_p8 N v0 v1 v2))), .val (.int (own_bi (own_scan N (own_sel v0 v1 v2 v3 v4 v5 v6) 1 6))), .val (.int (own_bi (own_scan N (own_sel v0 v1 v2 v3 v4 v5 v6) 2 5))), .val (.int (1 : Int32)), .unset, .unset, .unset, .unset, .unset]) rfl kt_) ?_
        show Done p e s below _ _ _ T71 (mkF m 429 #[.val (.int p0), .val (.long q1), .second, .val (.long q2), .second, .val (.int zl), .val (.ref b10), .val (.ref b21), .val (.ref b46), .val (.int (own_bi (own_p16 N v0 v1))), .val (.int (own_bi (own_p8 N v0 v1 v2))), .val (.int (own_bi (own_scan N (own_sel v0 v1 v2 v3 v4 v5 v6) 1 6))), .val (.int (own_bi (own_scan N (own_sel v0 v1 v2 v3 v4 v5 v6) 2 5))), .val (.int (1 : Int32)), .unset, .unset, .unset, .unset, .unset] [])
        have u403 := own_bi1.mp hc403
        exact J429 _ _ _ X71h e71 N71h (by
          show _ = own_bi ((decide (4 < N) && decide ((own_sel v0 v1 v2 v3 v4 v5 v6) 4 = 60)) || (decide (4 < N) && own_ws ((own_sel v0 v1 v2 v3 v4 v5 v6) 4) && own_scan N (own_sel v0 v1 v2 v3 v4 v5 v6) 2 5))
          rw [u403]; rfl)
    have J361 : ∀ (T2 : State) (L2 : List Loc) (av : Int32), Stand p l e room_1 s m #[(.int p0), (.long q1), (.long q2)] below meth c T2 L2 3 24 → T2.heap = h1 → Fr n0 L2 → av = (own_bi (own_scan N (own_sel v0 v1 v2 v3 v4 v5 v6) 1 6)) → Done p e s below 16 128 (Q0 n0) T2 (mkF m 361 #[.val (.int p0), .val (.long q1), .second, .val (.long q2), .second, .val (.int zl), .val (.ref b10), .val (.ref b21), .val (.ref b46), .val (.int (own_bi (own_p16 N v0 v1))), .val (.int (own_bi (own_p8 N v0 v1 v2))), .val (.int av), .unset, .unset, .unset, .unset, .unset, .unset, .unset] []) := by
      intro T2 L2 av X2 e2 N2 hav
      subst hav
      show Done p e s below _ _ _ T2 (mkF m 361 #[.val (.int p0), .val (.long q1), .second, .val (.long q2), .second, .val (.int zl), .val (.ref b10), .val (.ref b21), .val (.ref b46), .val (.int (own_bi (own_p16 N v0 v1))), .val (.int (own_bi (own_p8 N v0 v1 v2))), .val (.int (own_bi (own_scan N (own_sel v0 v1 v2 v3 v4 v5 v6) 1 6))), .unset, .unset, .unset, .unset, .unset, .unset, .unset] [])
      refine Done.go (fun _ kt_ => XS.aload X2.here hx rfl (hb hby at_361) rfl rfl kt_) ?_
      show Done p e s below _ _ _ T2 (mkF m 363 #[.val (.int p0), .val (.long q1), .second, .val (.long q2), .second, .val (.int zl), .val (.ref b10), .val (.ref b21), .val (.ref b46), .val (.int (own_bi (own_p16 N v0 v1))), .val (.int (own_bi (own_p8 N v0 v1 v2))), .val (.int (own_bi (own_scan N (own_sel v0 v1 v2 v3 v4 v5 v6) 1 6))), .unset, .unset, .unset, .unset, .unset, .unset, .unset] [(.ref b21)])
      refine Done.go (fun _ kt_ => XS.iload X2.here hx rfl (hb hby at_363) rfl kt_) ?_
      show Done p e s below _ _ _ T2 (mkF m 365 #[.val (.int p0), .val (.long q1), .second, .val (.long q2), .second, .val (.int zl), .val (.ref b10), .val (.ref b21), .val (.ref b46), .val (.int (own_bi (own_p16 N v0 v1))), .val (.int (own_bi (own_p8 N v0 v1 v2))), .val (.int (own_bi (own_scan N (own_sel v0 v1 v2 v3 v4 v5 v6) 1 6))), .unset, .unset, .unset, .unset, .unset, .unset, .unset] [(.int zl), (.ref b21)])
      refine Done.go (fun _ kt_ => XS.iconst X2.here hx rfl (hb hby at_365) kt_) ?_
      show Done p e s below _ _ _ T2 (mkF m 366 #[.val (.int p0), .val (.long q1), .second, .val (.long q2), .second, .val (.int zl), .val (.ref b10), .val (.ref b21), .val (.ref b46), .val (.int (own_bi (own_p16 N v0 v1))), .val (.int (own_bi (own_p8 N v0 v1 v2))), .val (.int (own_bi (own_scan N (own_sel v0 v1 v2 v3 v4 v5 v6) 1 6))), .unset, .unset, .unset, .unset, .unset, .unset, .unset] [(.int (5 : Int32)), (.int zl), (.ref b21)])
      obtain ⟨v73, T73, Lc73, X73, hQ73, st73⟩ := own_backG (Jvm.LawKit.callS X2 hx (y := (⟨"spinecode/xml/XmlInputRecognisesPinLaw", "lt", "([BII)Z"⟩ : MethodName)) hown (mvT hZ (hw _ (List.mem_of_getElem? (i := 6) rfl))) (mvT hZ (hw _ (List.mem_of_getElem? (i := 7) rfl))) (mvT hZ (hw _ (List.mem_of_getElem? (i := 3) rfl))) (mvT hZ (hw _ (List.mem_of_getElem? (i := 8) rfl))) (by decide) (backOf (W := 0) (rm2 l Z a0 hw [] b21 zl (5 : Int32) N 5 (own_sel v0 v1 v2 v3 v4 v5 v6) h1 n0 z1 VB1 hN (by decide) hN7) hZ (hw _ (List.mem_of_getElem? (i := 8) rfl)) (hw _ (List.mem_of_getElem? (i := 3) rfl)) (by decide) (by decide)) (g := (mkF m 366 #[.val (.int p0), .val (.long q1), .second, .val (.long q2), .second, .val (.int zl), .val (.ref b10), .val (.ref b21), .val (.ref b46), .val (.int (own_bi (own_p16 N v0 v1))), .val (.int (own_bi (own_p8 N v0 v1 v2))), .val (.int (own_bi (own_scan N (own_sel v0 v1 v2 v3 v4 v5 v6) 1 6))), .unset, .unset, .unset, .unset, .unset, .unset, .unset] [(.int (5 : Int32)), (.int zl), (.ref b21)])) rfl (by rw [hml]; rfl) (argsL := [(.ref b21), (.int zl), (.int (5 : Int32))]) (rest := []) (lenOf own_pd4 rfl) rfl (by show 2 * 0 + _ ≤ _; exact Nat.le_of_eq rfl) (hb hby at_366) (fun _ _ => ⟨rfl, e2, (by first | decide | omega : 3 + 0 ≤ _), (by first | decide | omega : 24 + 0 ≤ _)⟩))
      obtain ⟨rfl, N73q, e73⟩ := hQ73
      refine Done.go st73 ?_
      clear st73
      have N73 := Fr.app N2 N73q
      clear N73q
      obtain ⟨Lh73, X73h, N73h⟩ : ∃ L, Stand p l e room_1 s m #[(.int p0), (.long q1), (.long q2)] below meth c T73 L 3 24 ∧ Fr n0 L := ⟨_, X73, N73⟩
      clear X73 N73 X2 e2 N2
      show Done p e s below _ _ _ T73 (mkF m 369 #[.val (.int p0), .val (.long q1), .second, .val (.long q2), .second, .val (.int zl), .val (.ref b10), .val (.ref b21), .val (.ref b46), .val (.int (own_bi (own_p16 N v0 v1))), .val (.int (own_bi (own_p8 N v0 v1 v2))), .val (.int (own_bi (own_scan N (own_sel v0 v1 v2 v3 v4 v5 v6) 1 6))), .unset, .unset, .unset, .unset, .unset, .unset, .unset] [(.int (own_bi (decide (5 < N) && decide (((own_sel v0 v1 v2 v3 v4 v5 v6) 5) = 60))))])
      by_cases hc369 : (own_bi (decide (5 < N) && decide (((own_sel v0 v1 v2 v3 v4 v5 v6) 5) = 60))) = (0 : Int32)
      · skip
        refine Done.go (fun _ kt_ => XS.ifNo X73h.here hx rfl (hb hby at_369) rfl ((if0 _ _).trans (teq hc369).2) kt_) ?_
        show Done p e s below _ _ _ T73 (mkF m 372 #[.val (.int p0), .val (.long q1), .second, .val (.long q2), .second, .val (.int zl), .val (.ref b10), .val (.ref b21), .val (.ref b46), .val (.int (own_bi (own_p16 N v0 v1))), .val (.int (own_bi (own_p8 N v0 v1 v2))), .val (.int (own_bi (own_scan N (own_sel v0 v1 v2 v3 v4 v5 v6) 1 6))), .unset, .unset, .unset, .unset, .unset, .unset, .unset] [])
        refine Done.go (fun _ kt_ => XS.aload X73h.here hx rfl (hb hby at_372) rfl rfl kt_) ?_
        show Done p e s below _ _ _ T73 (mkF m 374 #[.val (.int p0), .val (.long q1), .second, .val (.long q2), .second, .val (.int zl), .val (.ref b10), .val (.ref b21), .val (.ref b46), .val (.int (own_bi (own_p16 N v0 v1))), .val (.int (own_bi (own_p8 N v0 v1 v2))), .val (.int (own_bi (own_scan N (own_sel v0 v1 v2 v3 v4 v5 v6) 1 6))), .unset, .unset, .unset, .unset, .unset, .unset, .unset] [(.ref b21)])
        refine Done.go (fun _ kt_ => XS.iload X73h.here hx rfl (hb hby at_374) rfl kt_) ?_
        show Done p e s below _ _ _ T73 (mkF m 376 #[.val (.int p0), .val (.long q1), .second, .val (.long q2), .second, .val (.int zl), .val (.ref b10), .val (.ref b21), .val (.ref b46), .val (.int (own_bi (own_p16 N v0 v1))), .val (.int (own_bi (own_p8 N v0 v1 v2))), .val (.int (own_bi (own_scan N (own_sel v0 v1 v2 v3 v4 v5 v6) 1 6))), .unset, .unset, .unset, .unset, .unset, .unset, .unset] [(.int zl), (.ref b21)])
        refine Done.go (fun _ kt_ => XS.iconst X73h.here hx rfl (hb hby at_376) kt_) ?_
        show Done p e s below _ _ _ T73 (mkF m 377 #[.val (.int p0), .val (.long q1), .second, .val (.long q2), .second, .val (.int zl), .val (.ref b10), .val (.ref b21), .val (.ref b46), .val (.int (own_bi (own_p16 N v0 v1))), .val (.int (own_bi (own_p8 N v0 v1 v2))), .val (.int (own_bi (own_scan N (own_sel v0 v1 v2 v3 v4 v5 v6) 1 6))), .unset, .unset, .unset, .unset, .unset, .unset, .unset] [(.int (5 : Int32)), (.int zl), (.ref b21)])
        obtain ⟨v74, T74, Lc74, X74, hQ74, st74⟩ := own_backG (Jvm.LawKit.callS X73h hx (y := (⟨"spinecode/xml/XmlInputRecognisesPinLaw", "ws", "([BII)Z"⟩ : MethodName)) hown (mvT hZ (hw _ (List.mem_of_getElem? (i := 9) rfl))) (mvT hZ (hw _ (List.mem_of_getElem? (i := 10) rfl))) (mvT hZ (hw _ (List.mem_of_getElem? (i := 3) rfl))) (mvT hZ (hw _ (List.mem_of_getElem? (i := 11) rfl))) (by decide) (backOf (W := 0) (rm3 l Z a0 hw [] b21 zl (5 : Int32) N 5 (own_sel v0 v1 v2 v3 v4 v5 v6) h1 n0 z1 VB1 hN (by decide) hN7) hZ (hw _ (List.mem_of_getElem? (i := 11) rfl)) (hw _ (List.mem_of_getElem? (i := 3) rfl)) (by decide) (by decide)) (g := (mkF m 377 #[.val (.int p0), .val (.long q1), .second, .val (.long q2), .second, .val (.int zl), .val (.ref b10), .val (.ref b21), .val (.ref b46), .val (.int (own_bi (own_p16 N v0 v1))), .val (.int (own_bi (own_p8 N v0 v1 v2))), .val (.int (own_bi (own_scan N (own_sel v0 v1 v2 v3 v4 v5 v6) 1 6))), .unset, .unset, .unset, .unset, .unset, .unset, .unset] [(.int (5 : Int32)), (.int zl), (.ref b21)])) rfl (by rw [hml]; rfl) (argsL := [(.ref b21), (.int zl), (.int (5 : Int32))]) (rest := []) (lenOf own_pd4 rfl) rfl (by show 2 * 0 + _ ≤ _; exact Nat.le_of_eq rfl) (hb hby at_377) (fun _ _ => ⟨rfl, e73, (by first | decide | omega : 3 + 0 ≤ _), (by first | decide | omega : 24 + 0 ≤ _)⟩))
        obtain ⟨rfl, N74q, e74⟩ := hQ74
        refine Done.go st74 ?_
        clear st74
        have N74 := Fr.app N73h N74q
        clear N74q
        obtain ⟨Lh74, X74h, N74h⟩ : ∃ L, Stand p l e room_1 s m #[(.int p0), (.long q1), (.long q2)] below meth c T74 L 3 24 ∧ Fr n0 L := ⟨_, X74, N74⟩
        clear X74 N74 X73h e73 N73h
        show Done p e s below _ _ _ T74 (mkF m 380 #[.val (.int p0), .val (.long q1), .second, .val (.long q2), .second, .val (.int zl), .val (.ref b10), .val (.ref b21), .val (.ref b46), .val (.int (own_bi (own_p16 N v0 v1))), .val (.int (own_bi (own_p8 N v0 v1 v2))), .val (.int (own_bi (own_scan N (own_sel v0 v1 v2 v3 v4 v5 v6) 1 6))), .unset, .unset, .unset, .unset, .unset, .unset, .unset] [(.int (own_bi (decide (5 < N) && own_ws ((own_sel v0 v1 v2 v3 v4 v5 v6) 5))))])
        by_cases hc380 : (own_bi (decide (5 < N) && own_ws ((own_sel v0 v1 v2 v3 v4 v5 v6) 5))) = (0 : Int32)
        · skip
          refine Done.go (fun _ kt_ => XS.ifYes X74h.here hx rfl (pc0 := 380) (pc' := 392) rfl (hb hby at_380) rfl ((if0 _ _).trans (teq hc380).1) (by decide) (by decide) kt_) ?_
          show Done p e s below _ _ _ T74 (mkF m 392 #[.val (.int p0), .val (.long q1), .second, .val (.long q2), .second, .val (.int zl), .val (.ref b10), .val (.ref b21), .val (.ref b46), .val (.int (own_bi (own_p16 N v0 v1))), .val (.int (own_bi (own_p8 N v0 v1 v2))), .val (.int (own_bi (own_scan N (own_sel v0 v1 v2 v3 v4 v5 v6) 1 6))), .unset, .unset, .unset, .unset, .unset, .unset, .unset] [])
          refine Done.go (fun _ kt_ => XS.iconst X74h.here hx rfl (hb hby at_392) kt_) ?_
          show Done p e s below _ _ _ T74 (mkF m 393 #[.val (.int p0), .val (.long q1), .second, .val (.long q2), .second, .val (.int zl), .val (.ref b10), .val (.ref b21), .val (.ref b46), .val (.int (own_bi (own_p16 N v0 v1))), .val (.int (own_bi (own_p8 N v0 v1 v2))), .val (.int (own_bi (own_scan N (own_sel v0 v1 v2 v3 v4 v5 v6) 1 6))), .unset, .unset, .unset, .unset, .unset, .unset, .unset] [(.int (0 : Int32))])
          refine Done.go (fun _ kt_ => XS.istore X74h.here hx rfl (hb hby at_393) rfl (l' := #[.val (.int p0), .val (.long q1), .second, .val (.long q2), .second, .val (.int zl), .val (.ref b10), .val (.ref b21), .val (.ref b46), .val (.int (own_bi (own_p16 N v0 v1))), .val (.int (own_bi (own_p8 N v0 v1 v2))), .val (.int (own_bi (own_scan N (own_sel v0 v1 v2 v3 v4 v5 v6) 1 6))), .val (.int (0 : Int32)), .unset, .unset, .unset, .unset, .unset, .unset]) rfl kt_) ?_
          show Done p e s below _ _ _ T74 (mkF m 395 #[.val (.int p0), .val (.long q1), .second, .val (.long q2), .second, .val (.int zl), .val (.ref b10), .val (.ref b21), .val (.ref b46), .val (.int (own_bi (own_p16 N v0 v1))), .val (.int (own_bi (own_p8 N v0 v1 v2))), .val (.int (own_bi (own_scan N (own_sel v0 v1 v2 v3 v4 v5 v6) 1 6))), .val (.int (0 : Int32)), .unset, .unset, .unset, .unset, .unset, .unset] [])
          have u369 := own_bi0.mp hc369
          have u380 := own_bi0.mp hc380
          exact J395 _ _ _ X74h e74 N74h (by
            show _ = own_bi ((decide (5 < N) && decide ((own_sel v0 v1 v2 v3 v4 v5 v6) 5 = 60)) || (decide (5 < N) && own_ws ((own_sel v0 v1 v2 v3 v4 v5 v6) 5) && own_scan N (own_sel v0 v1 v2 v3 v4 v5 v6) 1 6))
            rw [u369, u380]; rfl)
        · skip
          refine Done.go (fun _ kt_ => XS.ifNo X74h.here hx rfl (hb hby at_380) rfl ((if0 _ _).trans (feq hc380).1) kt_) ?_
          show Done p e s below _ _ _ T74 (mkF m 383 #[.val (.int p0), .val (.long q1), .second, .val (.long q2), .second, .val (.int zl), .val (.ref b10), .val (.ref b21), .val (.ref b46), .val (.int (own_bi (own_p16 N v0 v1))), .val (.int (own_bi (own_p8 N v0 v1 v2))), .val (.int (own_bi (own_scan N (own_sel v0 v1 v2 v3 v4 v5 v6) 1 6))), .unset, .unset, .unset, .unset, .unset, .unset, .unset] [])
          refine Done.go (fun _ kt_ => XS.iload X74h.here hx rfl (hb hby at_383) rfl kt_) ?_
          show Done p e s below _ _ _ T74 (mkF m 385 #[.val (.int p0), .val (.long q1), .second, .val (.long q2), .second, .val (.int zl), .val (.ref b10), .val (.ref b21), .val (.ref b46), .val (.int (own_bi (own_p16 N v0 v1))), .val (.int (own_bi (own_p8 N v0 v1 v2))), .val (.int (own_bi (own_scan N (own_sel v0 v1 v2 v3 v4 v5 v6) 1 6))), .unset, .unset, .unset, .unset, .unset, .unset, .unset] [(.int (own_bi (own_scan N (own_sel v0 v1 v2 v3 v4 v5 v6) 1 6)))])
          by_cases hc385 : (own_bi (own_scan N (own_sel v0 v1 v2 v3 v4 v5 v6) 1 6)) = (0 : Int32)
          · skip
            refine Done.go (fun _ kt_ => XS.ifYes X74h.here hx rfl (pc0 := 385) (pc' := 392) rfl (hb hby at_385) rfl ((if0 _ _).trans (teq hc385).1) (by decide) (by decide) kt_) ?_
            show Done p e s below _ _ _ T74 (mkF m 392 #[.val (.int p0), .val (.long q1), .second, .val (.long q2), .second, .val (.int zl), .val (.ref b10), .val (.ref b21), .val (.ref b46), .val (.int (own_bi (own_p16 N v0 v1))), .val (.int (own_bi (own_p8 N v0 v1 v2))), .val (.int (own_bi (own_scan N (own_sel v0 v1 v2 v3 v4 v5 v6) 1 6))), .unset, .unset, .unset, .unset, .unset, .unset, .unset] [])
            refine Done.go (fun _ kt_ => XS.iconst X74h.here hx rfl (hb hby at_392) kt_) ?_
            show Done p e s below _ _ _ T74 (mkF m 393 #[.val (.int p0), .val (.long q1), .second, .val (.long q2), .second, .val (.int zl), .val (.ref b10), .val (.ref b21), .val (.ref b46), .val (.int (own_bi (own_p16 N v0 v1))), .val (.int (own_bi (own_p8 N v0 v1 v2))), .val (.int (own_bi (own_scan N (own_sel v0 v1 v2 v3 v4 v5 v6) 1 6))), .unset, .unset, .unset, .unset, .unset, .unset, .unset] [(.int (0 : Int32))])
            refine Done.go (fun _ kt_ => XS.istore X74h.here hx rfl (hb hby at_393) rfl (l' := #[.val (.int p0), .val (.long q1), .second, .val (.long q2), .second, .val (.int zl), .val (.ref b10), .val (.ref b21), .val (.ref b46), .val (.int (own_bi (own_p16 N v0 v1))), .val (.int (own_bi (own_p8 N v0 v1 v2))), .val (.int (own_bi (own_scan N (own_sel v0 v1 v2 v3 v4 v5 v6) 1 6))), .val (.int (0 : Int32)), .unset, .unset, .unset, .unset, .unset, .unset]) rfl kt_) ?_
            show Done p e s below _ _ _ T74 (mkF m 395 #[.val (.int p0), .val (.long q1), .second, .val (.long q2), .second, .val (.int zl), .val (.ref b10), .val (.ref b21), .val (.ref b46), .val (.int (own_bi (own_p16 N v0 v1))), .val (.int (own_bi (own_p8 N v0 v1 v2))), .val (.int (own_bi (own_scan N (own_sel v0 v1 v2 v3 v4 v5 v6) 1 6))), .val (.int (0 : Int32)), .unset, .unset, .unset, .unset, .unset, .unset] [])
            have u369 := own_bi0.mp hc369
            have u380 := own_bi1.mp hc380
            have u385 := own_bi0.mp hc385
            exact J395 _ _ _ X74h e74 N74h (by
              show _ = own_bi ((decide (5 < N) && decide ((own_sel v0 v1 v2 v3 v4 v5 v6) 5 = 60)) || (decide (5 < N) && own_ws ((own_sel v0 v1 v2 v3 v4 v5 v6) 5) && own_scan N (own_sel v0 v1 v2 v3 v4 v5 v6) 1 6))
              rw [u369, u380, u385]; rfl)
          · skip
            refine Done.go (fun _ kt_ => XS.ifNo X74h.here hx rfl (hb hby at_385) rfl ((if0 _ _).trans (feq hc385).1) kt_) ?_
            show Done p e s below _ _ _ T74 (mkF m 388 #[.val (.int p0), .val (.long q1), .second, .val (.long q2), .second, .val (.int zl), .val (.ref b10), .val (.ref b21), .val (.ref b46), .val (.int (own_bi (own_p16 N v0 v1))), .val (.int (own_bi (own_p8 N v0 v1 v2))), .val (.int (own_bi (own_scan N (own_sel v0 v1 v2 v3 v4 v5 v6) 1 6))), .unset, .unset, .unset, .unset, .unset, .unset, .unset] [])
            refine Done.go (fun _ kt_ => XS.iconst X74h.here hx rfl (hb hby at_388) kt_) ?_
            show Done p e s below _ _ _ T74 (mkF m 389 #[.val (.int p0), .val (.long q1), .second, .val (.long q2), .second, .val (.int zl), .val (.ref b10), .val (.ref b21), .val (.ref b46), .val (.int (own_bi (own_p16 N v0 v1))), .val (.int (own_bi (own_p8 N v0 v1 v2))), .val (.int (own_bi (own_scan N (own_sel v0 v1 v2 v3 v4 v5 v6) 1 6))), .unset, .unset, .unset, .unset, .unset, .unset, .unset] [(.int (1 : Int32))])
            refine Done.go (fun _ kt_ => XS.goto X74h.here hx rfl (pc0 := 389) (pc' := 393) rfl (hb hby at_389) (by decide) (by decide) kt_) ?_
            show Done p e s below _ _ _ T74 (mkF m 393 #[.val (.int p0), .val (.long q1), .second, .val (.long q2), .second, .val (.int zl), .val (.ref b10), .val (.ref b21), .val (.ref b46), .val (.int (own_bi (own_p16 N v0 v1))), .val (.int (own_bi (own_p8 N v0 v1 v2))), .val (.int (own_bi (own_scan N (own_sel v0 v1 v2 v3 v4 v5 v6) 1 6))), .unset, .unset, .unset, .unset, .unset, .unset, .unset] [(.int (1 : Int32))])
            refine Done.go (fun _ kt_ => XS.istore X74h.here hx rfl (hb hby at_393) rfl (l' := #[.val (.int p0), .val (.long q1), .second, .val (.long q2), .second, .val (.int zl), .val (.ref b10), .val (.ref b21), .val (.ref b46), .val (.int (own_bi (own_p16 N v0 v1))), .val (.int (own_bi (own_p8 N v0 v1 v2))), .val (.int (own_bi (own_scan N (own_sel v0 v1 v2 v3 v4 v5 v6) 1 6))), .val (.int (1 : Int32)), .unset, .unset, .unset, .unset, .unset, .unset]) rfl kt_) ?_
            show Done p e s below _ _ _ T74 (mkF m 395 #[.val (.int p0), .val (.long q1), .second, .val (.long q2), .second, .val (.int zl), .val (.ref b10), .val (.ref b21), .val (.ref b46), .val (.int (own_bi (own_p16 N v0 v1))), .val (.int (own_bi (own_p8 N v0 v1 v2))), .val (.int (own_bi (own_scan N (own_sel v0 v1 v2 v3 v4 v5 v6) 1 6))), .val (.int (1 : Int32)), .unset, .unset, .unset, .unset, .unset, .unset] [])
            have u369 := own_bi0.mp hc369
            have u380 := own_bi1.mp hc380
            have u385 := own_bi1.mp hc385
            exact J395 _ _ _ X74h e74 N74h (by
              show _ = own_bi ((decide (5 < N) && decide ((own_sel v0 v1 v2 v3 v4 v5 v6) 5 = 60)) || (decide (5 < N) && own_ws ((own_sel v0 v1 v2 v3 v4 v5 v6) 5) && own_scan N (own_sel v0 v1 v2 v3 v4 v5 v6) 1 6))
              rw [u369, u380, u385]; rfl)
      · skip
        refine Done.go (fun _ kt_ => XS.ifYes X73h.here hx rfl (pc0 := 369) (pc' := 388) rfl (hb hby at_369) rfl ((if0 _ _).trans (feq hc369).2) (by decide) (by decide) kt_) ?_
        show Done p e s below _ _ _ T73 (mkF m 388 #[.val (.int p0), .val (.long q1), .second, .val (.long q2), .second, .val (.int zl), .val (.ref b10), .val (.ref b21), .val (.ref b46), .val (.int (own_bi (own_p16 N v0 v1))), .val (.int (own_bi (own_p8 N v0 v1 v2))), .val (.int (own_bi (own_scan N (own_sel v0 v1 v2 v3 v4 v5 v6) 1 6))), .unset, .unset, .unset, .unset, .unset, .unset, .unset] [])
        refine Done.go (fun _ kt_ => XS.iconst X73h.here hx rfl (hb hby at_388) kt_) ?_
        show Done p e s below _ _ _ T73 (mkF m 389 #[.val (.int p0), .val (.long q1), .second, .val (.long q2), .second, .val (.int zl), .val (.ref b10), .val (.ref b21), .val (.ref b46), .val (.int (own_bi (own_p16 N v0 v1))), .val (.int (own_bi (own_p8 N v0 v1 v2))), .val (.int (own_bi (own_scan N (own_sel v0 v1 v2 v3 v4 v5 v6) 1 6))), .unset, .unset, .unset, .unset, .unset, .unset, .unset] [(.int (1 : Int32))])
        refine Done.go (fun _ kt_ => XS.goto X73h.here hx rfl (pc0 := 389) (pc' := 393) rfl (hb hby at_389) (by decide) (by decide) kt_) ?_
        show Done p e s below _ _ _ T73 (mkF m 393 #[.val (.int p0), .val (.long q1), .second, .val (.long q2), .second, .val (.int zl), .val (.ref b10), .val (.ref b21), .val (.ref b46), .val (.int (own_bi (own_p16 N v0 v1))), .val (.int (own_bi (own_p8 N v0 v1 v2))), .val (.int (own_bi (own_scan N (own_sel v0 v1 v2 v3 v4 v5 v6) 1 6))), .unset, .unset, .unset, .unset, .unset, .unset, .unset] [(.int (1 : Int32))])
        refine Done.go (fun _ kt_ => XS.istore X73h.here hx rfl (hb hby at_393) rfl (l' := #[.val (.int p0), .val (.long q1), .second, .val (.long q2), .second, .val (.int zl), .val (.ref b10), .val (.ref b21), .val (.ref b46), .val (.int (own_bi (own_p16 N v0 v1))), .val (.int (own_bi (own_p8 N v0 v1 v2))), .val (.int (own_bi (own_scan N (own_sel v0 v1 v2 v3 v4 v5 v6) 1 6))), .val (.int (1 : Int32)), .unset, .unset, .unset, .unset, .unset, .unset]) rfl kt_) ?_
        show Done p e s below _ _ _ T73 (mkF m 395 #[.val (.int p0), .val (.long q1), .second, .val (.long q2), .second, .val (.int zl), .val (.ref b10), .val (.ref b21), .val (.ref b46), .val (.int (own_bi (own_p16 N v0 v1))), .val (.int (own_bi (own_p8 N v0 v1 v2))), .val (.int (own_bi (own_scan N (own_sel v0 v1 v2 v3 v4 v5 v6) 1 6))), .val (.int (1 : Int32)), .unset, .unset, .unset, .unset, .unset, .unset] [])
        have u369 := own_bi1.mp hc369
        exact J395 _ _ _ X73h e73 N73h (by
          show _ = own_bi ((decide (5 < N) && decide ((own_sel v0 v1 v2 v3 v4 v5 v6) 5 = 60)) || (decide (5 < N) && own_ws ((own_sel v0 v1 v2 v3 v4 v5 v6) 5) && own_scan N (own_sel v0 v1 v2 v3 v4 v5 v6) 1 6))
          rw [u369]; rfl)
    have J350 : ∀ (T2 : State) (L2 : List Loc) (av : Int32), Stand p l e room_1 s m #[(.int p0), (.long q1), (.long q2)] below meth c T2 L2 3 24 → T2.heap = h1 → Fr n0 L2 → av = (own_bi (own_p8 N v0 v1 v2)) → Done p e s below 16 128 (Q0 n0) T2 (mkF m 350 #[.val (.int p0), .val (.long q1), .second, .val (.long q2), .second, .val (.int zl), .val (.ref b10), .val (.ref b21), .val (.ref b46), .val (.int (own_bi (own_p16 N v0 v1))), .val (.int av), .unset, .unset, .unset, .unset, .unset, .unset, .unset, .unset] []) := by
      intro T2 L2 av X2 e2 N2 hav
      subst hav
      show Done p e s below _ _ _ T2 (mkF m 350 #[.val (.int p0), .val (.long q1), .second, .val (.long q2), .second, .val (.int zl), .val (.ref b10), .val (.ref b21), .val (.ref b46), .val (.int (own_bi (own_p16 N v0 v1))), .val (.int (own_bi (own_p8 N v0 v1 v2))), .unset, .unset, .unset, .unset, .unset, .unset, .unset, .unset] [])
      refine Done.go (fun _ kt_ => XS.aload X2.here hx rfl (hb hby at_350) rfl rfl kt_) ?_
      show Done p e s below _ _ _ T2 (mkF m 352 #[.val (.int p0), .val (.long q1), .second, .val (.long q2), .second, .val (.int zl), .val (.ref b10), .val (.ref b21), .val (.ref b46), .val (.int (own_bi (own_p16 N v0 v1))), .val (.int (own_bi (own_p8 N v0 v1 v2))), .unset, .unset, .unset, .unset, .unset, .unset, .unset, .unset] [(.ref b21)])
      refine Done.go (fun _ kt_ => XS.iload X2.here hx rfl (hb hby at_352) rfl kt_) ?_
      show Done p e s below _ _ _ T2 (mkF m 354 #[.val (.int p0), .val (.long q1), .second, .val (.long q2), .second, .val (.int zl), .val (.ref b10), .val (.ref b21), .val (.ref b46), .val (.int (own_bi (own_p16 N v0 v1))), .val (.int (own_bi (own_p8 N v0 v1 v2))), .unset, .unset, .unset, .unset, .unset, .unset, .unset, .unset] [(.int zl), (.ref b21)])
      refine Done.go (fun _ kt_ => XS.bipush X2.here hx rfl (hb hby at_354) kt_) ?_
      show Done p e s below _ _ _ T2 (mkF m 356 #[.val (.int p0), .val (.long q1), .second, .val (.long q2), .second, .val (.int zl), .val (.ref b10), .val (.ref b21), .val (.ref b46), .val (.int (own_bi (own_p16 N v0 v1))), .val (.int (own_bi (own_p8 N v0 v1 v2))), .unset, .unset, .unset, .unset, .unset, .unset, .unset, .unset] [(.int (6 : Int32)), (.int zl), (.ref b21)])
      obtain ⟨v75, T75, Lc75, X75, hQ75, st75⟩ := own_backG (Jvm.LawKit.callS X2 hx (y := (⟨"spinecode/xml/XmlInputRecognisesPinLaw", "lt", "([BII)Z"⟩ : MethodName)) hown (mvT hZ (hw _ (List.mem_of_getElem? (i := 6) rfl))) (mvT hZ (hw _ (List.mem_of_getElem? (i := 7) rfl))) (mvT hZ (hw _ (List.mem_of_getElem? (i := 3) rfl))) (mvT hZ (hw _ (List.mem_of_getElem? (i := 8) rfl))) (by decide) (backOf (W := 0) (rm2 l Z a0 hw [] b21 zl (6 : Int32) N 6 (own_sel v0 v1 v2 v3 v4 v5 v6) h1 n0 z1 VB1 hN (by decide) hN7) hZ (hw _ (List.mem_of_getElem? (i := 8) rfl)) (hw _ (List.mem_of_getElem? (i := 3) rfl)) (by decide) (by decide)) (g := (mkF m 356 #[.val (.int p0), .val (.long q1), .second, .val (.long q2), .second, .val (.int zl), .val (.ref b10), .val (.ref b21), .val (.ref b46), .val (.int (own_bi (own_p16 N v0 v1))), .val (.int (own_bi (own_p8 N v0 v1 v2))), .unset, .unset, .unset, .unset, .unset, .unset, .unset, .unset] [(.int (6 : Int32)), (.int zl), (.ref b21)])) rfl (by rw [hml]; rfl) (argsL := [(.ref b21), (.int zl), (.int (6 : Int32))]) (rest := []) (lenOf own_pd4 rfl) rfl (by show 2 * 0 + _ ≤ _; exact Nat.le_of_eq rfl) (hb hby at_356) (fun _ _ => ⟨rfl, e2, (by first | decide | omega : 3 + 0 ≤ _), (by first | decide | omega : 24 + 0 ≤ _)⟩))
      obtain ⟨rfl, N75q, e75⟩ := hQ75
      refine Done.go st75 ?_
      clear st75
      have N75 := Fr.app N2 N75q
      clear N75q
      obtain ⟨Lh75, X75h, N75h⟩ : ∃ L, Stand p l e room_1 s m #[(.int p0), (.long q1), (.long q2)] below meth c T75 L 3 24 ∧ Fr n0 L := ⟨_, X75, N75⟩
      clear X75 N75 X2 e2 N2
      show Done p e s below _ _ _ T75 (mkF m 359 #[.val (.int p0), .val (.long q1), .second, .val (.long q2), .second, .val (.int zl), .val (.ref b10), .val (.ref b21), .val (.ref b46), .val (.int (own_bi (own_p16 N v0 v1))), .val (.int (own_bi (own_p8 N v0 v1 v2))), .unset, .unset, .unset, .unset, .unset, .unset, .unset, .unset] [(.int (own_bi (decide (6 < N) && decide (((own_sel v0 v1 v2 v3 v4 v5 v6) 6) = 60))))])
      refine Done.go (fun _ kt_ => XS.istore X75h.here hx rfl (hb hby at_359) rfl (l' := #[.val (.int p0), .val (.long q1), .second, .val (.long q2), .second, .val (.int zl), .val (.ref b10), .val (.ref b21), .val (.ref b46), .val (.int (own_bi (own_p16 N v0 v1))), .val (.int (own_bi (own_p8 N v0 v1 v2))), .val (.int (own_bi (decide (6 < N) && decide (((own_sel v0 v1 v2 v3 v4 v5 v6) 6) = 60)))), .unset, .unset, .unset, .unset, .unset, .unset, .unset]) rfl kt_) ?_
      show Done p e s below _ _ _ T75 (mkF m 361 #[.val (.int p0), .val (.long q1), .second, .val (.long q2), .second, .val (.int zl), .val (.ref b10), .val (.ref b21), .val (.ref b46), .val (.int (own_bi (own_p16 N v0 v1))), .val (.int (own_bi (own_p8 N v0 v1 v2))), .val (.int (own_bi (decide (6 < N) && decide (((own_sel v0 v1 v2 v3 v4 v5 v6) 6) = 60)))), .unset, .unset, .unset, .unset, .unset, .unset, .unset] [])
      exact J361 _ _ _ X75h e75 N75h (by simp [own_scan])
    have J310 : ∀ (T2 : State) (L2 : List Loc) (av : Int32), Stand p l e room_1 s m #[(.int p0), (.long q1), (.long q2)] below meth c T2 L2 3 24 → T2.heap = h1 → Fr n0 L2 → av = (own_bi (own_p16 N v0 v1)) → Done p e s below 16 128 (Q0 n0) T2 (mkF m 310 #[.val (.int p0), .val (.long q1), .second, .val (.long q2), .second, .val (.int zl), .val (.ref b10), .val (.ref b21), .val (.ref b46), .val (.int av), .unset, .unset, .unset, .unset, .unset, .unset, .unset, .unset, .unset] []) := by
      intro T2 L2 av X2 e2 N2 hav
      subst hav
      show Done p e s below _ _ _ T2 (mkF m 310 #[.val (.int p0), .val (.long q1), .second, .val (.long q2), .second, .val (.int zl), .val (.ref b10), .val (.ref b21), .val (.ref b46), .val (.int (own_bi (own_p16 N v0 v1))), .unset, .unset, .unset, .unset, .unset, .unset, .unset, .unset, .unset] [])
      refine Done.go (fun _ kt_ => XS.iload X2.here hx rfl (hb hby at_310) rfl kt_) ?_
      show Done p e s below _ _ _ T2 (mkF m 312 #[.val (.int p0), .val (.long q1), .second, .val (.long q2), .second, .val (.int zl), .val (.ref b10), .val (.ref b21), .val (.ref b46), .val (.int (own_bi (own_p16 N v0 v1))), .unset, .unset, .unset, .unset, .unset, .unset, .unset, .unset, .unset] [(.int zl)])
      refine Done.go (fun _ kt_ => XS.iconst X2.here hx rfl (hb hby at_312) kt_) ?_
      show Done p e s below _ _ _ T2 (mkF m 313 #[.val (.int p0), .val (.long q1), .second, .val (.long q2), .second, .val (.int zl), .val (.ref b10), .val (.ref b21), .val (.ref b46), .val (.int (own_bi (own_p16 N v0 v1))), .unset, .unset, .unset, .unset, .unset, .unset, .unset, .unset, .unset] [(.int (3 : Int32)), (.int zl)])
      by_cases hc313 : zl < (3 : Int32)
      · skip
        refine Done.go (fun _ kt_ => XS.icmpYes X2.here hx rfl (pc0 := 313) (pc' := 347) rfl (hb hby at_313) rfl (tlt hc313).1 (by decide) (by decide) kt_) ?_
        show Done p e s below _ _ _ T2 (mkF m 347 #[.val (.int p0), .val (.long q1), .second, .val (.long q2), .second, .val (.int zl), .val (.ref b10), .val (.ref b21), .val (.ref b46), .val (.int (own_bi (own_p16 N v0 v1))), .unset, .unset, .unset, .unset, .unset, .unset, .unset, .unset, .unset] [])
        refine Done.go (fun _ kt_ => XS.iconst X2.here hx rfl (hb hby at_347) kt_) ?_
        show Done p e s below _ _ _ T2 (mkF m 348 #[.val (.int p0), .val (.long q1), .second, .val (.long q2), .second, .val (.int zl), .val (.ref b10), .val (.ref b21), .val (.ref b46), .val (.int (own_bi (own_p16 N v0 v1))), .unset, .unset, .unset, .unset, .unset, .unset, .unset, .unset, .unset] [(.int (0 : Int32))])
        refine Done.go (fun _ kt_ => XS.istore X2.here hx rfl (hb hby at_348) rfl (l' := #[.val (.int p0), .val (.long q1), .second, .val (.long q2), .second, .val (.int zl), .val (.ref b10), .val (.ref b21), .val (.ref b46), .val (.int (own_bi (own_p16 N v0 v1))), .val (.int (0 : Int32)), .unset, .unset, .unset, .unset, .unset, .unset, .unset, .unset]) rfl kt_) ?_
        show Done p e s below _ _ _ T2 (mkF m 350 #[.val (.int p0), .val (.long q1), .second, .val (.long q2), .second, .val (.int zl), .val (.ref b10), .val (.ref b21), .val (.ref b46), .val (.int (own_bi (own_p16 N v0 v1))), .val (.int (0 : Int32)), .unset, .unset, .unset, .unset, .unset, .unset, .unset, .unset] [])
        have u := Nat.not_le.mpr ((own_ltI hN (by decide : (3 : Int32).toInt = ((3 : Nat) : Int))).mp hc313)
        exact J350 _ _ _ X2 e2 N2 (by simp [own_bi, own_p8, u])
      · skip
        refine Done.go (fun _ kt_ => XS.icmpNo X2.here hx rfl (hb hby at_313) rfl (flt hc313).1 kt_) ?_
        show Done p e s below _ _ _ T2 (mkF m 316 #[.val (.int p0), .val (.long q1), .second, .val (.long q2), .second, .val (.int zl), .val (.ref b10), .val (.ref b21), .val (.ref b46), .val (.int (own_bi (own_p16 N v0 v1))), .unset, .unset, .unset, .unset, .unset, .unset, .unset, .unset, .unset] [])
        refine Done.go (fun _ kt_ => XS.aload X2.here hx rfl (hb hby at_316) rfl rfl kt_) ?_
        show Done p e s below _ _ _ T2 (mkF m 318 #[.val (.int p0), .val (.long q1), .second, .val (.long q2), .second, .val (.int zl), .val (.ref b10), .val (.ref b21), .val (.ref b46), .val (.int (own_bi (own_p16 N v0 v1))), .unset, .unset, .unset, .unset, .unset, .unset, .unset, .unset, .unset] [(.ref b21)])
        refine Done.go (fun _ kt_ => XS.iconst X2.here hx rfl (hb hby at_318) kt_) ?_
        show Done p e s below _ _ _ T2 (mkF m 319 #[.val (.int p0), .val (.long q1), .second, .val (.long q2), .second, .val (.int zl), .val (.ref b10), .val (.ref b21), .val (.ref b46), .val (.int (own_bi (own_p16 N v0 v1))), .unset, .unset, .unset, .unset, .unset, .unset, .unset, .unset, .unset] [(.int (0 : Int32)), (.ref b21)])
        refine Done.ldB X2 hx hZ e2 VB1 (j := (0 : Int32)) (w := v0) 0 (by decide) rfl (by omega) rfl (hb hby at_319) ?_
        show Done p e s below _ _ _ T2 (mkF m 320 #[.val (.int p0), .val (.long q1), .second, .val (.long q2), .second, .val (.int zl), .val (.ref b10), .val (.ref b21), .val (.ref b46), .val (.int (own_bi (own_p16 N v0 v1))), .unset, .unset, .unset, .unset, .unset, .unset, .unset, .unset, .unset] [(.int v0)])
        refine Done.go (fun _ kt_ => XS.bipush X2.here hx rfl (hb hby at_320) kt_) ?_
        show Done p e s below _ _ _ T2 (mkF m 322 #[.val (.int p0), .val (.long q1), .second, .val (.long q2), .second, .val (.int zl), .val (.ref b10), .val (.ref b21), .val (.ref b46), .val (.int (own_bi (own_p16 N v0 v1))), .unset, .unset, .unset, .unset, .unset, .unset, .unset, .unset, .unset] [(.int (-17 : Int32)), (.int v0)])
        by_cases hc322 : v0 = (-17 : Int32)
        · skip
          refine Done.go (fun _ kt_ => XS.icmpNo X2.here hx rfl (hb hby at_322) rfl (teq hc322).2 kt_) ?_
          show Done p e s below _ _ _ T2 (mkF m 325 #[.val (.int p0), .val (.long q1), .second, .val (.long q2), .second, .val (.int zl), .val (.ref b10), .val (.ref b21), .val (.ref b46), .val (.int (own_bi (own_p16 N v0 v1))), .unset, .unset, .unset, .unset, .unset, .unset, .unset, .unset, .unset] [])
          refine Done.go (fun _ kt_ => XS.aload X2.here hx rfl (hb hby at_325) rfl rfl kt_) ?_
          show Done p e s below _ _ _ T2 (mkF m 327 #[.val (.int p0), .val (.long q1), .second, .val (.long q2), .second, .val (.int zl), .val (.ref b10), .val (.ref b21), .val (.ref b46), .val (.int (own_bi (own_p16 N v0 v1))), .unset, .unset, .unset, .unset, .unset, .unset, .unset, .unset, .unset] [(.ref b21)])
          refine Done.go (fun _ kt_ => XS.iconst X2.here hx rfl (hb hby at_327) kt_) ?_
          show Done p e s below _ _ _ T2 (mkF m 328 #[.val (.int p0), .val (.long q1), .second, .val (.long q2), .second, .val (.int zl), .val (.ref b10), .val (.ref b21), .val (.ref b46), .val (.int (own_bi (own_p16 N v0 v1))), .unset, .unset, .unset, .unset, .unset, .unset, .unset, .unset, .unset] [(.int (1 : Int32)), (.ref b21)])
          refine Done.ldB X2 hx hZ e2 VB1 (j := (1 : Int32)) (w := v1) 1 (by decide) rfl (by omega) rfl (hb hby at_328) ?_
          show Done p e s below _ _ _ T2 (mkF m 329 #[.val (.int p0), .val (.long q1), .second, .val (.long q2), .second, .val (.int zl), .val (.ref b10), .val (.ref b21), .val (.ref b46), .val (.int (own_bi (own_p16 N v0 v1))), .unset, .unset, .unset, .unset, .unset, .unset, .unset, .unset, .unset] [(.int v1)])
          refine Done.go (fun _ kt_ => XS.bipush X2.here hx rfl (hb hby at_329) kt_) ?_
          show Done p e s below _ _ _ T2 (mkF m 331 #[.val (.int p0), .val (.long q1), .second, .val (.long q2), .second, .val (.int zl), .val (.ref b10), .val (.ref b21), .val (.ref b46), .val (.int (own_bi (own_p16 N v0 v1))), .unset, .unset, .unset, .unset, .unset, .unset, .unset, .unset, .unset] [(.int (-69 : Int32)), (.int v1)])
          by_cases hc331 : v1 = (-69 : Int32)
          · skip
            refine Done.go (fun _ kt_ => XS.icmpNo X2.here hx rfl (hb hby at_331) rfl (teq hc331).2 kt_) ?_
            show Done p e s below _ _ _ T2 (mkF m 334 #[.val (.int p0), .val (.long q1), .second, .val (.long q2), .second, .val (.int zl), .val (.ref b10), .val (.ref b21), .val (.ref b46), .val (.int (own_bi (own_p16 N v0 v1))), .unset, .unset, .unset, .unset, .unset, .unset, .unset, .unset, .unset] [])
            refine Done.go (fun _ kt_ => XS.aload X2.here hx rfl (hb hby at_334) rfl rfl kt_) ?_
            show Done p e s below _ _ _ T2 (mkF m 336 #[.val (.int p0), .val (.long q1), .second, .val (.long q2), .second, .val (.int zl), .val (.ref b10), .val (.ref b21), .val (.ref b46), .val (.int (own_bi (own_p16 N v0 v1))), .unset, .unset, .unset, .unset, .unset, .unset, .unset, .unset, .unset] [(.ref b21)])
            refine Done.go (fun _ kt_ => XS.iconst X2.here hx rfl (hb hby at_336) kt_) ?_
            show Done p e s below _ _ _ T2 (mkF m 337 #[.val (.int p0), .val (.long q1), .second, .val (.long q2), .second, .val (.int zl), .val (.ref b10), .val (.ref b21), .val (.ref b46), .val (.int (own_bi (own_p16 N v0 v1))), .unset, .unset, .unset, .unset, .unset, .unset, .unset, .unset, .unset] [(.int (2 : Int32)), (.ref b21)])
            refine Done.ldB X2 hx hZ e2 VB1 (j := (2 : Int32)) (w := v2) 2 (by decide) rfl (by omega) rfl (hb hby at_337) ?_
            show Done p e s below _ _ _ T2 (mkF m 338 #[.val (.int p0), .val (.long q1), .second, .val (.long q2), .second, .val (.int zl), .val (.ref b10), .val (.ref b21), .val (.ref b46), .val (.int (own_bi (own_p16 N v0 v1))), .unset, .unset, .unset, .unset, .unset, .unset, .unset, .unset, .unset] [(.int v2)])
            refine Done.go (fun _ kt_ => XS.bipush X2.here hx rfl (hb hby at_338) kt_) ?_
            show Done p e s below _ _ _ T2 (mkF m 340 #[.val (.int p0), .val (.long q1), .second, .val (.long q2), .second, .val (.int zl), .val (.ref b10), .val (.ref b21), .val (.ref b46), .val (.int (own_bi (own_p16 N v0 v1))), .unset, .unset, .unset, .unset, .unset, .unset, .unset, .unset, .unset] [(.int (-65 : Int32)), (.int v2)])
            by_cases hc340 : v2 = (-65 : Int32)
            · skip
              refine Done.go (fun _ kt_ => XS.icmpNo X2.here hx rfl (hb hby at_340) rfl (teq hc340).2 kt_) ?_
              show Done p e s below _ _ _ T2 (mkF m 343 #[.val (.int p0), .val (.long q1), .second, .val (.long q2), .second, .val (.int zl), .val (.ref b10), .val (.ref b21), .val (.ref b46), .val (.int (own_bi (own_p16 N v0 v1))), .unset, .unset, .unset, .unset, .unset, .unset, .unset, .unset, .unset] [])
              refine Done.go (fun _ kt_ => XS.iconst X2.here hx rfl (hb hby at_343) kt_) ?_
              show Done p e s below _ _ _ T2 (mkF m 344 #[.val (.int p0), .val (.long q1), .second, .val (.long q2), .second, .val (.int zl), .val (.ref b10), .val (.ref b21), .val (.ref b46), .val (.int (own_bi (own_p16 N v0 v1))), .unset, .unset, .unset, .unset, .unset, .unset, .unset, .unset, .unset] [(.int (1 : Int32))])
              refine Done.go (fun _ kt_ => XS.goto X2.here hx rfl (pc0 := 344) (pc' := 348) rfl (hb hby at_344) (by decide) (by decide) kt_) ?_
              show Done p e s below _ _ _ T2 (mkF m 348 #[.val (.int p0), .val (.long q1), .second, .val (.long q2), .second, .val (.int zl), .val (.ref b10), .val (.ref b21), .val (.ref b46), .val (.int (own_bi (own_p16 N v0 v1))), .unset, .unset, .unset, .unset, .unset, .unset, .unset, .unset, .unset] [(.int (1 : Int32))])
              refine Done.go (fun _ kt_ => XS.istore X2.here hx rfl (hb hby at_348) rfl (l' := #[.val (.int p0), .val (.long q1), .second, .val (.long q2), .second, .val (.int zl), .val (.ref b10), .val (.ref b21), .val (.ref b46), .val (.int (own_bi (own_p16 N v0 v1))), .val (.int (1 : Int32)), .unset, .unset, .unset, .unset, .unset, .unset, .unset, .unset]) rfl kt_) ?_
              show Done p e s below _ _ _ T2 (mkF m 350 #[.val (.int p0), .val (.long q1), .second, .val (.long q2), .second, .val (.int zl), .val (.ref b10), .val (.ref b21), .val (.ref b46), .val (.int (own_bi (own_p16 N v0 v1))), .val (.int (1 : Int32)), .unset, .unset, .unset, .unset, .unset, .unset, .unset, .unset] [])
              have u := Nat.le_of_not_lt (own_nt (own_ltI hN (by decide : (3 : Int32).toInt = ((3 : Nat) : Int))) hc313)
              exact J350 _ _ _ X2 e2 N2 (by simp [own_bi, own_p8, u, hc322, hc331, hc340])
            · skip
              refine Done.go (fun _ kt_ => XS.icmpYes X2.here hx rfl (pc0 := 340) (pc' := 347) rfl (hb hby at_340) rfl (feq hc340).2 (by decide) (by decide) kt_) ?_
              show Done p e s below _ _ _ T2 (mkF m 347 #[.val (.int p0), .val (.long q1), .second, .val (.long q2), .second, .val (.int zl), .val (.ref b10), .val (.ref b21), .val (.ref b46), .val (.int (own_bi (own_p16 N v0 v1))), .unset, .unset, .unset, .unset, .unset, .unset, .unset, .unset, .unset] [])
              refine Done.go (fun _ kt_ => XS.iconst X2.here hx rfl (hb hby at_347) kt_) ?_
              show Done p e s below _ _ _ T2 (mkF m 348 #[.val (.int p0), .val (.long q1), .second, .val (.long q2), .second, .val (.int zl), .val (.ref b10), .val (.ref b21), .val (.ref b46), .val (.int (own_bi (own_p16 N v0 v1))), .unset, .unset, .unset, .unset, .unset, .unset, .unset, .unset, .unset] [(.int (0 : Int32))])
              refine Done.go (fun _ kt_ => XS.istore X2.here hx rfl (hb hby at_348) rfl (l' := #[.val (.int p0), .val (.long q1), .second, .val (.long q2), .second, .val (.int zl), .val (.ref b10), .val (.ref b21), .val (.ref b46), .val (.int (own_bi (own_p16 N v0 v1))), .val (.int (0 : Int32)), .unset, .unset, .unset, .unset, .unset, .unset, .unset, .unset]) rfl kt_) ?_
              show Done p e s below _ _ _ T2 (mkF m 350 #[.val (.int p0), .val (.long q1), .second, .val (.long q2), .second, .val (.int zl), .val (.ref b10), .val (.ref b21), .val (.ref b46), .val (.int (own_bi (own_p16 N v0 v1))), .val (.int (0 : Int32)), .unset, .unset, .unset, .unset, .unset, .unset, .unset, .unset] [])
              have u := Nat.le_of_not_lt (own_nt (own_ltI hN (by decide : (3 : Int32).toInt = ((3 : Nat) : Int))) hc313)
              exact J350 _ _ _ X2 e2 N2 (by simp [own_bi, own_p8, u, hc322, hc331, hc340])
          · skip
            refine Done.go (fun _ kt_ => XS.icmpYes X2.here hx rfl (pc0 := 331) (pc' := 347) rfl (hb hby at_331) rfl (feq hc331).2 (by decide) (by decide) kt_) ?_
            show Done p e s below _ _ _ T2 (mkF m 347 #[.val (.int p0), .val (.long q1), .second, .val (.long q2), .second, .val (.int zl), .val (.ref b10), .val (.ref b21), .val (.ref b46), .val (.int (own_bi (own_p16 N v0 v1))), .unset, .unset, .unset, .unset, .unset, .unset, .unset, .unset, .unset] [])
            refine Done.go (fun _ kt_ => XS.iconst X2.here hx rfl (hb hby at_347) kt_) ?_
            show Done p e s below _ _ _ T2 (mkF m 348 #[.val (.int p0), .val (.long q1), .second, .val (.long q2), .second, .val (.int zl), .val (.ref b10), .val (.ref b21), .val (.ref b46), .val (.int (own_bi (own_p16 N v0 v1))), .unset, .unset, .unset, .unset, .unset, .unset, .unset, .unset, .unset] [(.int (0 : Int32))])
            refine Done.go (fun _ kt_ => XS.istore X2.here hx rfl (hb hby at_348) rfl (l' := #[.val (.int p0), .val (.long q1), .second, .val (.long q2), .second, .val (.int zl), .val (.ref b10), .val (.ref b21), .val (.ref b46), .val (.int (own_bi (own_p16 N v0 v1))), .val (.int (0 : Int32)), .unset, .unset, .unset, .unset, .unset, .unset, .unset, .unset]) rfl kt_) ?_
            show Done p e s below _ _ _ T2 (mkF m 350 #[.val (.int p0), .val (.long q1), .second, .val (.long q2), .second, .val (.int zl), .val (.ref b10), .val (.ref b21), .val (.ref b46), .val (.int (own_bi (own_p16 N v0 v1))), .val (.int (0 : Int32)), .unset, .unset, .unset, .unset, .unset, .unset, .unset, .unset] [])
            have u := Nat.le_of_not_lt (own_nt (own_ltI hN (by decide : (3 : Int32).toInt = ((3 : Nat) : Int))) hc313)
            exact J350 _ _ _ X2 e2 N2 (by simp [own_bi, own_p8, u, hc322, hc331])
        · skip
          refine Done.go (fun _ kt_ => XS.icmpYes X2.here hx rfl (pc0 := 322) (pc' := 347) rfl (hb hby at_322) rfl (feq hc322).2 (by decide) (by decide) kt_) ?_
          show Done p e s below _ _ _ T2 (mkF m 347 #[.val (.int p0), .val (.long q1), .second, .val (.long q2), .second, .val (.int zl), .val (.ref b10), .val (.ref b21), .val (.ref b46), .val (.int (own_bi (own_p16 N v0 v1))), .unset, .unset, .unset, .unset, .unset, .unset, .unset, .unset, .unset] [])
          refine Done.go (fun _ kt_ => XS.iconst X2.here hx rfl (hb hby at_347) kt_) ?_
          show Done p e s below _ _ _ T2 (mkF m 348 #[.val (.int p0), .val (.long q1), .second, .val (.long q2), .second, .val (.int zl), .val (.ref b10), .val (.ref b21), .val (.ref b46), .val (.int (own_bi (own_p16 N v0 v1))), .unset, .unset, .unset, .unset, .unset, .unset, .unset, .unset, .unset] [(.int (0 : Int32))])
          refine Done.go (fun _ kt_ => XS.istore X2.here hx rfl (hb hby at_348) rfl (l' := #[.val (.int p0), .val (.long q1), .second, .val (.long q2), .second, .val (.int zl), .val (.ref b10), .val (.ref b21), .val (.ref b46), .val (.int (own_bi (own_p16 N v0 v1))), .val (.int (0 : Int32)), .unset, .unset, .unset, .unset, .unset, .unset, .unset, .unset]) rfl kt_) ?_
          show Done p e s below _ _ _ T2 (mkF m 350 #[.val (.int p0), .val (.long q1), .second, .val (.long q2), .second, .val (.int zl), .val (.ref b10), .val (.ref b21), .val (.ref b46), .val (.int (own_bi (own_p16 N v0 v1))), .val (.int (0 : Int32)), .unset, .unset, .unset, .unset, .unset, .unset, .unset, .unset] [])
          have u := Nat.le_of_not_lt (own_nt (own_ltI hN (by decide : (3 : Int32).toInt = ((3 : Nat) : Int))) hc313)
          exact J350 _ _ _ X2 e2 N2 (by simp [own_bi, own_p8, u, hc322])
    show Done p e s below _ _ _ T1 (mkF m 263 #[.val (.int p0), .val (.long q1), .second, .val (.long q2), .second, .val (.int zl), .val (.ref b10), .val (.ref b21), .val (.ref b46), .unset, .unset, .unset, .unset, .unset, .unset, .unset, .unset, .unset, .unset] [])
    refine Done.go (fun _ kt_ => XS.iload X1.here hx rfl (hb hby at_263) rfl kt_) ?_
    show Done p e s below _ _ _ T1 (mkF m 265 #[.val (.int p0), .val (.long q1), .second, .val (.long q2), .second, .val (.int zl), .val (.ref b10), .val (.ref b21), .val (.ref b46), .unset, .unset, .unset, .unset, .unset, .unset, .unset, .unset, .unset, .unset] [(.int zl)])
    refine Done.go (fun _ kt_ => XS.iconst X1.here hx rfl (hb hby at_265) kt_) ?_
    show Done p e s below _ _ _ T1 (mkF m 266 #[.val (.int p0), .val (.long q1), .second, .val (.long q2), .second, .val (.int zl), .val (.ref b10), .val (.ref b21), .val (.ref b46), .unset, .unset, .unset, .unset, .unset, .unset, .unset, .unset, .unset, .unset] [(.int (2 : Int32)), (.int zl)])
    by_cases hc266 : zl < (2 : Int32)
    · skip
      refine Done.go (fun _ kt_ => XS.icmpYes X1.here hx rfl (pc0 := 266) (pc' := 307) rfl (hb hby at_266) rfl (tlt hc266).1 (by decide) (by decide) kt_) ?_
      show Done p e s below _ _ _ T1 (mkF m 307 #[.val (.int p0), .val (.long q1), .second, .val (.long q2), .second, .val (.int zl), .val (.ref b10), .val (.ref b21), .val (.ref b46), .unset, .unset, .unset, .unset, .unset, .unset, .unset, .unset, .unset, .unset] [])
      refine Done.go (fun _ kt_ => XS.iconst X1.here hx rfl (hb hby at_307) kt_) ?_
      show Done p e s below _ _ _ T1 (mkF m 308 #[.val (.int p0), .val (.long q1), .second, .val (.long q2), .second, .val (.int zl), .val (.ref b10), .val (.ref b21), .val (.ref b46), .unset, .unset, .unset, .unset, .unset, .unset, .unset, .unset, .unset, .unset] [(.int (0 : Int32))])
      refine Done.go (fun _ kt_ => XS.istore X1.here hx rfl (hb hby at_308) rfl (l' := #[.val (.int p0), .val (.long q1), .second, .val (.long q2), .second, .val (.int zl), .val (.ref b10), .val (.ref b21), .val (.ref b46), .val (.int (0 : Int32)), .unset, .unset, .unset, .unset, .unset, .unset, .unset, .unset, .unset]) rfl kt_) ?_
      show Done p e s below _ _ _ T1 (mkF m 310 #[.val (.int p0), .val (.long q1), .second, .val (.long q2), .second, .val (.int zl), .val (.ref b10), .val (.ref b21), .val (.ref b46), .val (.int (0 : Int32)), .unset, .unset, .unset, .unset, .unset, .unset, .unset, .unset, .unset] [])
      have u := Nat.not_le.mpr ((own_ltI hN (by decide : (2 : Int32).toInt = ((2 : Nat) : Int))).mp hc266)
      exact J310 _ _ _ X1 e1 N1 (by simp [own_bi, own_p16, u])
    · skip
      refine Done.go (fun _ kt_ => XS.icmpNo X1.here hx rfl (hb hby at_266) rfl (flt hc266).1 kt_) ?_
      show Done p e s below _ _ _ T1 (mkF m 269 #[.val (.int p0), .val (.long q1), .second, .val (.long q2), .second, .val (.int zl), .val (.ref b10), .val (.ref b21), .val (.ref b46), .unset, .unset, .unset, .unset, .unset, .unset, .unset, .unset, .unset, .unset] [])
      refine Done.go (fun _ kt_ => XS.aload X1.here hx rfl (hb hby at_269) rfl rfl kt_) ?_
      show Done p e s below _ _ _ T1 (mkF m 271 #[.val (.int p0), .val (.long q1), .second, .val (.long q2), .second, .val (.int zl), .val (.ref b10), .val (.ref b21), .val (.ref b46), .unset, .unset, .unset, .unset, .unset, .unset, .unset, .unset, .unset, .unset] [(.ref b21)])
      refine Done.go (fun _ kt_ => XS.iconst X1.here hx rfl (hb hby at_271) kt_) ?_
      show Done p e s below _ _ _ T1 (mkF m 272 #[.val (.int p0), .val (.long q1), .second, .val (.long q2), .second, .val (.int zl), .val (.ref b10), .val (.ref b21), .val (.ref b46), .unset, .unset, .unset, .unset, .unset, .unset, .unset, .unset, .unset, .unset] [(.int (0 : Int32)), (.ref b21)])
      refine Done.ldB X1 hx hZ e1 VB1 (j := (0 : Int32)) (w := v0) 0 (by decide) rfl (by omega) rfl (hb hby at_272) ?_
      show Done p e s below _ _ _ T1 (mkF m 273 #[.val (.int p0), .val (.long q1), .second, .val (.long q2), .second, .val (.int zl), .val (.ref b10), .val (.ref b21), .val (.ref b46), .unset, .unset, .unset, .unset, .unset, .unset, .unset, .unset, .unset, .unset] [(.int v0)])
      refine Done.go (fun _ kt_ => XS.bipush X1.here hx rfl (hb hby at_273) kt_) ?_
      show Done p e s below _ _ _ T1 (mkF m 275 #[.val (.int p0), .val (.long q1), .second, .val (.long q2), .second, .val (.int zl), .val (.ref b10), .val (.ref b21), .val (.ref b46), .unset, .unset, .unset, .unset, .unset, .unset, .unset, .unset, .unset, .unset] [(.int (-2 : Int32)), (.int v0)])
      by_cases hc275 : v0 = (-2 : Int32)
      · skip
        refine Done.go (fun _ kt_ => XS.icmpNo X1.here hx rfl (hb hby at_275) rfl (teq hc275).2 kt_) ?_
        show Done p e s below _ _ _ T1 (mkF m 278 #[.val (.int p0), .val (.long q1), .second, .val (.long q2), .second, .val (.int zl), .val (.ref b10), .val (.ref b21), .val (.ref b46), .unset, .unset, .unset, .unset, .unset, .unset, .unset, .unset, .unset, .unset] [])
        refine Done.go (fun _ kt_ => XS.aload X1.here hx rfl (hb hby at_278) rfl rfl kt_) ?_
        show Done p e s below _ _ _ T1 (mkF m 280 #[.val (.int p0), .val (.long q1), .second, .val (.long q2), .second, .val (.int zl), .val (.ref b10), .val (.ref b21), .val (.ref b46), .unset, .unset, .unset, .unset, .unset, .unset, .unset, .unset, .unset, .unset] [(.ref b21)])
        refine Done.go (fun _ kt_ => XS.iconst X1.here hx rfl (hb hby at_280) kt_) ?_
        show Done p e s below _ _ _ T1 (mkF m 281 #[.val (.int p0), .val (.long q1), .second, .val (.long q2), .second, .val (.int zl), .val (.ref b10), .val (.ref b21), .val (.ref b46), .unset, .unset, .unset, .unset, .unset, .unset, .unset, .unset, .unset, .unset] [(.int (1 : Int32)), (.ref b21)])
        refine Done.ldB X1 hx hZ e1 VB1 (j := (1 : Int32)) (w := v1) 1 (by decide) rfl (by omega) rfl (hb hby at_281) ?_
        show Done p e s below _ _ _ T1 (mkF m 282 #[.val (.int p0), .val (.long q1), .second, .val (.long q2), .second, .val (.int zl), .val (.ref b10), .val (.ref b21), .val (.ref b46), .unset, .unset, .unset, .unset, .unset, .unset, .unset, .unset, .unset, .unset] [(.int v1)])
        refine Done.go (fun _ kt_ => XS.iconst X1.here hx rfl (hb hby at_282) kt_) ?_
        show Done p e s below _ _ _ T1 (mkF m 283 #[.val (.int p0), .val (.long q1), .second, .val (.long q2), .second, .val (.int zl), .val (.ref b10), .val (.ref b21), .val (.ref b46), .unset, .unset, .unset, .unset, .unset, .unset, .unset, .unset, .unset, .unset] [(.int (-1 : Int32)), (.int v1)])
        by_cases hc283 : v1 = (-1 : Int32)
        · skip
          refine Done.go (fun _ kt_ => XS.icmpYes X1.here hx rfl (pc0 := 283) (pc' := 303) rfl (hb hby at_283) rfl (teq hc283).1 (by decide) (by decide) kt_) ?_
          show Done p e s below _ _ _ T1 (mkF m 303 #[.val (.int p0), .val (.long q1), .second, .val (.long q2), .second, .val (.int zl), .val (.ref b10), .val (.ref b21), .val (.ref b46), .unset, .unset, .unset, .unset, .unset, .unset, .unset, .unset, .unset, .unset] [])
          refine Done.go (fun _ kt_ => XS.iconst X1.here hx rfl (hb hby at_303) kt_) ?_
          show Done p e s below _ _ _ T1 (mkF m 304 #[.val (.int p0), .val (.long q1), .second, .val (.long q2), .second, .val (.int zl), .val (.ref b10), .val (.ref b21), .val (.ref b46), .unset, .unset, .unset, .unset, .unset, .unset, .unset, .unset, .unset, .unset] [(.int (1 : Int32))])
          refine Done.go (fun _ kt_ => XS.goto X1.here hx rfl (pc0 := 304) (pc' := 308) rfl (hb hby at_304) (by decide) (by decide) kt_) ?_
          show Done p e s below _ _ _ T1 (mkF m 308 #[.val (.int p0), .val (.long q1), .second, .val (.long q2), .second, .val (.int zl), .val (.ref b10), .val (.ref b21), .val (.ref b46), .unset, .unset, .unset, .unset, .unset, .unset, .unset, .unset, .unset, .unset] [(.int (1 : Int32))])
          refine Done.go (fun _ kt_ => XS.istore X1.here hx rfl (hb hby at_308) rfl (l' := #[.val (.int p0), .val (.long q1), .second, .val (.long q2), .second, .val (.int zl), .val (.ref b10), .val (.ref b21), .val (.ref b46), .val (.int (1 : Int32)), .unset, .unset, .unset, .unset, .unset, .unset, .unset, .unset, .unset]) rfl kt_) ?_
          show Done p e s below _ _ _ T1 (mkF m 310 #[.val (.int p0), .val (.long q1), .second, .val (.long q2), .second, .val (.int zl), .val (.ref b10), .val (.ref b21), .val (.ref b46), .val (.int (1 : Int32)), .unset, .unset, .unset, .unset, .unset, .unset, .unset, .unset, .unset] [])
          have u := Nat.le_of_not_lt (own_nt (own_ltI hN (by decide : (2 : Int32).toInt = ((2 : Nat) : Int))) hc266)
          exact J310 _ _ _ X1 e1 N1 (by simp [own_bi, own_p16, u, hc275, hc283])
        · skip
          refine Done.go (fun _ kt_ => XS.icmpNo X1.here hx rfl (hb hby at_283) rfl (feq hc283).1 kt_) ?_
          show Done p e s below _ _ _ T1 (mkF m 286 #[.val (.int p0), .val (.long q1), .second, .val (.long q2), .second, .val (.int zl), .val (.ref b10), .val (.ref b21), .val (.ref b46), .unset, .unset, .unset, .unset, .unset, .unset, .unset, .unset, .unset, .unset] [])
          refine Done.go (fun _ kt_ => XS.aload X1.here hx rfl (hb hby at_286) rfl rfl kt_) ?_
          show Done p e s below _ _ _ T1 (mkF m 288 #[.val (.int p0), .val (.long q1), .second, .val (.long q2), .second, .val (.int zl), .val (.ref b10), .val (.ref b21), .val (.ref b46), .unset, .unset, .unset, .unset, .unset, .unset, .unset, .unset, .unset, .unset] [(.ref b21)])
          refine Done.go (fun _ kt_ => XS.iconst X1.here hx rfl (hb hby at_288) kt_) ?_
          show Done p e s below _ _ _ T1 (mkF m 289 #[.val (.int p0), .val (.long q1), .second, .val (.long q2), .second, .val (.int zl), .val (.ref b10), .val (.ref b21), .val (.ref b46), .unset, .unset, .unset, .unset, .unset, .unset, .unset, .unset, .unset, .unset] [(.int (0 : Int32)), (.ref b21)])
          refine Done.ldB X1 hx hZ e1 VB1 (j := (0 : Int32)) (w := v0) 0 (by decide) rfl (by omega) rfl (hb hby at_289) ?_
          show Done p e s below _ _ _ T1 (mkF m 290 #[.val (.int p0), .val (.long q1), .second, .val (.long q2), .second, .val (.int zl), .val (.ref b10), .val (.ref b21), .val (.ref b46), .unset, .unset, .unset, .unset, .unset, .unset, .unset, .unset, .unset, .unset] [(.int v0)])
          refine Done.go (fun _ kt_ => XS.iconst X1.here hx rfl (hb hby at_290) kt_) ?_
          show Done p e s below _ _ _ T1 (mkF m 291 #[.val (.int p0), .val (.long q1), .second, .val (.long q2), .second, .val (.int zl), .val (.ref b10), .val (.ref b21), .val (.ref b46), .unset, .unset, .unset, .unset, .unset, .unset, .unset, .unset, .unset, .unset] [(.int (-1 : Int32)), (.int v0)])
          by_cases hc291 : v0 = (-1 : Int32)
          · skip
            refine Done.go (fun _ kt_ => XS.icmpNo X1.here hx rfl (hb hby at_291) rfl (teq hc291).2 kt_) ?_
            show Done p e s below _ _ _ T1 (mkF m 294 #[.val (.int p0), .val (.long q1), .second, .val (.long q2), .second, .val (.int zl), .val (.ref b10), .val (.ref b21), .val (.ref b46), .unset, .unset, .unset, .unset, .unset, .unset, .unset, .unset, .unset, .unset] [])
            refine Done.go (fun _ kt_ => XS.aload X1.here hx rfl (hb hby at_294) rfl rfl kt_) ?_
            show Done p e s below _ _ _ T1 (mkF m 296 #[.val (.int p0), .val (.long q1), .second, .val (.long q2), .second, .val (.int zl), .val (.ref b10), .val (.ref b21), .val (.ref b46), .unset, .unset, .unset, .unset, .unset, .unset, .unset, .unset, .unset, .unset] [(.ref b21)])
            refine Done.go (fun _ kt_ => XS.iconst X1.here hx rfl (hb hby at_296) kt_) ?_
            show Done p e s below _ _ _ T1 (mkF m 297 #[.val (.int p0), .val (.long q1), .second, .val (.long q2), .second, .val (.int zl), .val (.ref b10), .val (.ref b21), .val (.ref b46), .unset, .unset, .unset, .unset, .unset, .unset, .unset, .unset, .unset, .unset] [(.int (1 : Int32)), (.ref b21)])
            refine Done.ldB X1 hx hZ e1 VB1 (j := (1 : Int32)) (w := v1) 1 (by decide) rfl (by omega) rfl (hb hby at_297) ?_
            show Done p e s below _ _ _ T1 (mkF m 298 #[.val (.int p0), .val (.long q1), .second, .val (.long q2), .second, .val (.int zl), .val (.ref b10), .val (.ref b21), .val (.ref b46), .unset, .unset, .unset, .unset, .unset, .unset, .unset, .unset, .unset, .unset] [(.int v1)])
            refine Done.go (fun _ kt_ => XS.bipush X1.here hx rfl (hb hby at_298) kt_) ?_
            show Done p e s below _ _ _ T1 (mkF m 300 #[.val (.int p0), .val (.long q1), .second, .val (.long q2), .second, .val (.int zl), .val (.ref b10), .val (.ref b21), .val (.ref b46), .unset, .unset, .unset, .unset, .unset, .unset, .unset, .unset, .unset, .unset] [(.int (-2 : Int32)), (.int v1)])
            by_cases hc300 : v1 = (-2 : Int32)
            · skip
              refine Done.go (fun _ kt_ => XS.icmpNo X1.here hx rfl (hb hby at_300) rfl (teq hc300).2 kt_) ?_
              show Done p e s below _ _ _ T1 (mkF m 303 #[.val (.int p0), .val (.long q1), .second, .val (.long q2), .second, .val (.int zl), .val (.ref b10), .val (.ref b21), .val (.ref b46), .unset, .unset, .unset, .unset, .unset, .unset, .unset, .unset, .unset, .unset] [])
              refine Done.go (fun _ kt_ => XS.iconst X1.here hx rfl (hb hby at_303) kt_) ?_
              show Done p e s below _ _ _ T1 (mkF m 304 #[.val (.int p0), .val (.long q1), .second, .val (.long q2), .second, .val (.int zl), .val (.ref b10), .val (.ref b21), .val (.ref b46), .unset, .unset, .unset, .unset, .unset, .unset, .unset, .unset, .unset, .unset] [(.int (1 : Int32))])
              refine Done.go (fun _ kt_ => XS.goto X1.here hx rfl (pc0 := 304) (pc' := 308) rfl (hb hby at_304) (by decide) (by decide) kt_) ?_
              show Done p e s below _ _ _ T1 (mkF m 308 #[.val (.int p0), .val (.long q1), .second, .val (.long q2), .second, .val (.int zl), .val (.ref b10), .val (.ref b21), .val (.ref b46), .unset, .unset, .unset, .unset, .unset, .unset, .unset, .unset, .unset, .unset] [(.int (1 : Int32))])
              refine Done.go (fun _ kt_ => XS.istore X1.here hx rfl (hb hby at_308) rfl (l' := #[.val (.int p0), .val (.long q1), .second, .val (.long q2), .second, .val (.int zl), .val (.ref b10), .val (.ref b21), .val (.ref b46), .val (.int (1 : Int32)), .unset, .unset, .unset, .unset, .unset, .unset, .unset, .unset, .unset]) rfl kt_) ?_
              show Done p e s below _ _ _ T1 (mkF m 310 #[.val (.int p0), .val (.long q1), .second, .val (.long q2), .second, .val (.int zl), .val (.ref b10), .val (.ref b21), .val (.ref b46), .val (.int (1 : Int32)), .unset, .unset, .unset, .unset, .unset, .unset, .unset, .unset, .unset] [])
              exact absurd (hc275.symm.trans hc291) (by decide)
            · skip
              refine Done.go (fun _ kt_ => XS.icmpYes X1.here hx rfl (pc0 := 300) (pc' := 307) rfl (hb hby at_300) rfl (feq hc300).2 (by decide) (by decide) kt_) ?_
              show Done p e s below _ _ _ T1 (mkF m 307 #[.val (.int p0), .val (.long q1), .second, .val (.long q2), .second, .val (.int zl), .val (.ref b10), .val (.ref b21), .val (.ref b46), .unset, .unset, .unset, .unset, .unset, .unset, .unset, .unset, .unset, .unset] [])
              refine Done.go (fun _ kt_ => XS.iconst X1.here hx rfl (hb hby at_307) kt_) ?_
              show Done p e s below _ _ _ T1 (mkF m 308 #[.val (.int p0), .val (.long q1), .second, .val (.long q2), .second, .val (.int zl), .val (.ref b10), .val (.ref b21), .val (.ref b46), .unset, .unset, .unset, .unset, .unset, .unset, .unset, .unset, .unset, .unset] [(.int (0 : Int32))])
              refine Done.go (fun _ kt_ => XS.istore X1.here hx rfl (hb hby at_308) rfl (l' := #[.val (.int p0), .val (.long q1), .second, .val (.long q2), .second, .val (.int zl), .val (.ref b10), .val (.ref b21), .val (.ref b46), .val (.int (0 : Int32)), .unset, .unset, .unset, .unset, .unset, .unset, .unset, .unset, .unset]) rfl kt_) ?_
              show Done p e s below _ _ _ T1 (mkF m 310 #[.val (.int p0), .val (.long q1), .second, .val (.long q2), .second, .val (.int zl), .val (.ref b10), .val (.ref b21), .val (.ref b46), .val (.int (0 : Int32)), .unset, .unset, .unset, .unset, .unset, .unset, .unset, .unset, .unset] [])
              exact absurd (hc275.symm.trans hc291) (by decide)
          · skip
            refine Done.go (fun _ kt_ => XS.icmpYes X1.here hx rfl (pc0 := 291) (pc' := 307) rfl (hb hby at_291) rfl (feq hc291).2 (by decide) (by decide) kt_) ?_
            show Done p e s below _ _ _ T1 (mkF m 307 #[.val (.int p0), .val (.long q1), .second, .val (.long q2), .second, .val (.int zl), .val (.ref b10), .val (.ref b21), .val (.ref b46), .unset, .unset, .unset, .unset, .unset, .unset, .unset, .unset, .unset, .unset] [])
            refine Done.go (fun _ kt_ => XS.iconst X1.here hx rfl (hb hby at_307) kt_) ?_
            show Done p e s below _ _ _ T1 (mkF m 308 #[.val (.int p0), .val (.long q1), .second, .val (.long q2), .second, .val (.int zl), .val (.ref b10), .val (.ref b21), .val (.ref b46), .unset, .unset, .unset, .unset, .unset, .unset, .unset, .unset, .unset, .unset] [(.int (0 : Int32))])
            refine Done.go (fun _ kt_ => XS.istore X1.here hx rfl (hb hby at_308) rfl (l' := #[.val (.int p0), .val (.long q1), .second, .val (.long q2), .second, .val (.int zl), .val (.ref b10), .val (.ref b21), .val (.ref b46), .val (.int (0 : Int32)), .unset, .unset, .unset, .unset, .unset, .unset, .unset, .unset, .unset]) rfl kt_) ?_
            show Done p e s below _ _ _ T1 (mkF m 310 #[.val (.int p0), .val (.long q1), .second, .val (.long q2), .second, .val (.int zl), .val (.ref b10), .val (.ref b21), .val (.ref b46), .val (.int (0 : Int32)), .unset, .unset, .unset, .unset, .unset, .unset, .unset, .unset, .unset] [])
            have u := Nat.le_of_not_lt (own_nt (own_ltI hN (by decide : (2 : Int32).toInt = ((2 : Nat) : Int))) hc266)
            exact J310 _ _ _ X1 e1 N1 (by simp [own_bi, own_p16, u, hc275, hc283, hc291])
      · skip
        refine Done.go (fun _ kt_ => XS.icmpYes X1.here hx rfl (pc0 := 275) (pc' := 286) rfl (hb hby at_275) rfl (feq hc275).2 (by decide) (by decide) kt_) ?_
        show Done p e s below _ _ _ T1 (mkF m 286 #[.val (.int p0), .val (.long q1), .second, .val (.long q2), .second, .val (.int zl), .val (.ref b10), .val (.ref b21), .val (.ref b46), .unset, .unset, .unset, .unset, .unset, .unset, .unset, .unset, .unset, .unset] [])
        refine Done.go (fun _ kt_ => XS.aload X1.here hx rfl (hb hby at_286) rfl rfl kt_) ?_
        show Done p e s below _ _ _ T1 (mkF m 288 #[.val (.int p0), .val (.long q1), .second, .val (.long q2), .second, .val (.int zl), .val (.ref b10), .val (.ref b21), .val (.ref b46), .unset, .unset, .unset, .unset, .unset, .unset, .unset, .unset, .unset, .unset] [(.ref b21)])
        refine Done.go (fun _ kt_ => XS.iconst X1.here hx rfl (hb hby at_288) kt_) ?_
        show Done p e s below _ _ _ T1 (mkF m 289 #[.val (.int p0), .val (.long q1), .second, .val (.long q2), .second, .val (.int zl), .val (.ref b10), .val (.ref b21), .val (.ref b46), .unset, .unset, .unset, .unset, .unset, .unset, .unset, .unset, .unset, .unset] [(.int (0 : Int32)), (.ref b21)])
        refine Done.ldB X1 hx hZ e1 VB1 (j := (0 : Int32)) (w := v0) 0 (by decide) rfl (by omega) rfl (hb hby at_289) ?_
        show Done p e s below _ _ _ T1 (mkF m 290 #[.val (.int p0), .val (.long q1), .second, .val (.long q2), .second, .val (.int zl), .val (.ref b10), .val (.ref b21), .val (.ref b46), .unset, .unset, .unset, .unset, .unset, .unset, .unset, .unset, .unset, .unset] [(.int v0)])
        refine Done.go (fun _ kt_ => XS.iconst X1.here hx rfl (hb hby at_290) kt_) ?_
        show Done p e s below _ _ _ T1 (mkF m 291 #[.val (.int p0), .val (.long q1), .second, .val (.long q2), .second, .val (.int zl), .val (.ref b10), .val (.ref b21), .val (.ref b46), .unset, .unset, .unset, .unset, .unset, .unset, .unset, .unset, .unset, .unset] [(.int (-1 : Int32)), (.int v0)])
        by_cases hc291 : v0 = (-1 : Int32)
        · skip
          refine Done.go (fun _ kt_ => XS.icmpNo X1.here hx rfl (hb hby at_291) rfl (teq hc291).2 kt_) ?_
          show Done p e s below _ _ _ T1 (mkF m 294 #[.val (.int p0), .val (.long q1), .second, .val (.long q2), .second, .val (.int zl), .val (.ref b10), .val (.ref b21), .val (.ref b46), .unset, .unset, .unset, .unset, .unset, .unset, .unset, .unset, .unset, .unset] [])
          refine Done.go (fun _ kt_ => XS.aload X1.here hx rfl (hb hby at_294) rfl rfl kt_) ?_
          show Done p e s below _ _ _ T1 (mkF m 296 #[.val (.int p0), .val (.long q1), .second, .val (.long q2), .second, .val (.int zl), .val (.ref b10), .val (.ref b21), .val (.ref b46), .unset, .unset, .unset, .unset, .unset, .unset, .unset, .unset, .unset, .unset] [(.ref b21)])
          refine Done.go (fun _ kt_ => XS.iconst X1.here hx rfl (hb hby at_296) kt_) ?_
          show Done p e s below _ _ _ T1 (mkF m 297 #[.val (.int p0), .val (.long q1), .second, .val (.long q2), .second, .val (.int zl), .val (.ref b10), .val (.ref b21), .val (.ref b46), .unset, .unset, .unset, .unset, .unset, .unset, .unset, .unset, .unset, .unset] [(.int (1 : Int32)), (.ref b21)])
          refine Done.ldB X1 hx hZ e1 VB1 (j := (1 : Int32)) (w := v1) 1 (by decide) rfl (by omega) rfl (hb hby at_297) ?_
          show Done p e s below _ _ _ T1 (mkF m 298 #[.val (.int p0), .val (.long q1), .second, .val (.long q2), .second, .val (.int zl), .val (.ref b10), .val (.ref b21), .val (.ref b46), .unset, .unset, .unset, .unset, .unset, .unset, .unset, .unset, .unset, .unset] [(.int v1)])
          refine Done.go (fun _ kt_ => XS.bipush X1.here hx rfl (hb hby at_298) kt_) ?_
          show Done p e s below _ _ _ T1 (mkF m 300 #[.val (.int p0), .val (.long q1), .second, .val (.long q2), .second, .val (.int zl), .val (.ref b10), .val (.ref b21), .val (.ref b46), .unset, .unset, .unset, .unset, .unset, .unset, .unset, .unset, .unset, .unset] [(.int (-2 : Int32)), (.int v1)])
          by_cases hc300 : v1 = (-2 : Int32)
          · skip
            refine Done.go (fun _ kt_ => XS.icmpNo X1.here hx rfl (hb hby at_300) rfl (teq hc300).2 kt_) ?_
            show Done p e s below _ _ _ T1 (mkF m 303 #[.val (.int p0), .val (.long q1), .second, .val (.long q2), .second, .val (.int zl), .val (.ref b10), .val (.ref b21), .val (.ref b46), .unset, .unset, .unset, .unset, .unset, .unset, .unset, .unset, .unset, .unset] [])
            refine Done.go (fun _ kt_ => XS.iconst X1.here hx rfl (hb hby at_303) kt_) ?_
            show Done p e s below _ _ _ T1 (mkF m 304 #[.val (.int p0), .val (.long q1), .second, .val (.long q2), .second, .val (.int zl), .val (.ref b10), .val (.ref b21), .val (.ref b46), .unset, .unset, .unset, .unset, .unset, .unset, .unset, .unset, .unset, .unset] [(.int (1 : Int32))])
            refine Done.go (fun _ kt_ => XS.goto X1.here hx rfl (pc0 := 304) (pc' := 308) rfl (hb hby at_304) (by decide) (by decide) kt_) ?_
            show Done p e s below _ _ _ T1 (mkF m 308 #[.val (.int p0), .val (.long q1), .second, .val (.long q2), .second, .val (.int zl), .val (.ref b10), .val (.ref b21), .val (.ref b46), .unset, .unset, .unset, .unset, .unset, .unset, .unset, .unset, .unset, .unset] [(.int (1 : Int32))])
            refine Done.go (fun _ kt_ => XS.istore X1.here hx rfl (hb hby at_308) rfl (l' := #[.val (.int p0), .val (.long q1), .second, .val (.long q2), .second, .val (.int zl), .val (.ref b10), .val (.ref b21), .val (.ref b46), .val (.int (1 : Int32)), .unset, .unset, .unset, .unset, .unset, .unset, .unset, .unset, .unset]) rfl kt_) ?_
            show Done p e s below _ _ _ T1 (mkF m 310 #[.val (.int p0), .val (.long q1), .second, .val (.long q2), .second, .val (.int zl), .val (.ref b10), .val (.ref b21), .val (.ref b46), .val (.int (1 : Int32)), .unset, .unset, .unset, .unset, .unset, .unset, .unset, .unset, .unset] [])
            have u := Nat.le_of_not_lt (own_nt (own_ltI hN (by decide : (2 : Int32).toInt = ((2 : Nat) : Int))) hc266)
            exact J310 _ _ _ X1 e1 N1 (by simp [own_bi, own_p16, u, hc275, hc291, hc300])
          · skip
            refine Done.go (fun _ kt_ => XS.icmpYes X1.here hx rfl (pc0 := 300) (pc' := 307) rfl (hb hby at_300) rfl (feq hc300).2 (by decide) (by decide) kt_) ?_
            show Done p e s below _ _ _ T1 (mkF m 307 #[.val (.int p0), .val (.long q1), .second, .val (.long q2), .second, .val (.int zl), .val (.ref b10), .val (.ref b21), .val (.ref b46), .unset, .unset, .unset, .unset, .unset, .unset, .unset, .unset, .unset, .unset] [])
            refine Done.go (fun _ kt_ => XS.iconst X1.here hx rfl (hb hby at_307) kt_) ?_
            show Done p e s below _ _ _ T1 (mkF m 308 #[.val (.int p0), .val (.long q1), .second, .val (.long q2), .second, .val (.int zl), .val (.ref b10), .val (.ref b21), .val (.ref b46), .unset, .unset, .unset, .unset, .unset, .unset, .unset, .unset, .unset, .unset] [(.int (0 : Int32))])
            refine Done.go (fun _ kt_ => XS.istore X1.here hx rfl (hb hby at_308) rfl (l' := #[.val (.int p0), .val (.long q1), .second, .val (.long q2), .second, .val (.int zl), .val (.ref b10), .val (.ref b21), .val (.ref b46), .val (.int (0 : Int32)), .unset, .unset, .unset, .unset, .unset, .unset, .unset, .unset, .unset]) rfl kt_) ?_
            show Done p e s below _ _ _ T1 (mkF m 310 #[.val (.int p0), .val (.long q1), .second, .val (.long q2), .second, .val (.int zl), .val (.ref b10), .val (.ref b21), .val (.ref b46), .val (.int (0 : Int32)), .unset, .unset, .unset, .unset, .unset, .unset, .unset, .unset, .unset] [])
            have u := Nat.le_of_not_lt (own_nt (own_ltI hN (by decide : (2 : Int32).toInt = ((2 : Nat) : Int))) hc266)
            exact J310 _ _ _ X1 e1 N1 (by simp [own_bi, own_p16, u, hc275, hc291, hc300])
        · skip
          refine Done.go (fun _ kt_ => XS.icmpYes X1.here hx rfl (pc0 := 291) (pc' := 307) rfl (hb hby at_291) rfl (feq hc291).2 (by decide) (by decide) kt_) ?_
          show Done p e s below _ _ _ T1 (mkF m 307 #[.val (.int p0), .val (.long q1), .second, .val (.long q2), .second, .val (.int zl), .val (.ref b10), .val (.ref b21), .val (.ref b46), .unset, .unset, .unset, .unset, .unset, .unset, .unset, .unset, .unset, .unset] [])
          refine Done.go (fun _ kt_ => XS.iconst X1.here hx rfl (hb hby at_307) kt_) ?_
          show Done p e s below _ _ _ T1 (mkF m 308 #[.val (.int p0), .val (.long q1), .second, .val (.long q2), .second, .val (.int zl), .val (.ref b10), .val (.ref b21), .val (.ref b46), .unset, .unset, .unset, .unset, .unset, .unset, .unset, .unset, .unset, .unset] [(.int (0 : Int32))])
          refine Done.go (fun _ kt_ => XS.istore X1.here hx rfl (hb hby at_308) rfl (l' := #[.val (.int p0), .val (.long q1), .second, .val (.long q2), .second, .val (.int zl), .val (.ref b10), .val (.ref b21), .val (.ref b46), .val (.int (0 : Int32)), .unset, .unset, .unset, .unset, .unset, .unset, .unset, .unset, .unset]) rfl kt_) ?_
          show Done p e s below _ _ _ T1 (mkF m 310 #[.val (.int p0), .val (.long q1), .second, .val (.long q2), .second, .val (.int zl), .val (.ref b10), .val (.ref b21), .val (.ref b46), .val (.int (0 : Int32)), .unset, .unset, .unset, .unset, .unset, .unset, .unset, .unset, .unset] [])
          have u := Nat.le_of_not_lt (own_nt (own_ltI hN (by decide : (2 : Int32).toInt = ((2 : Nat) : Int))) hc266)
          exact J310 _ _ _ X1 e1 N1 (by simp [own_bi, own_p16, u, hc275, hc291])
  have J246 : ∀ (T1 : State) (h1 : Heap) (L1 : List Loc) (f1 : Nat → Int32), Stand p l e room_1 s m #[(.int p0), (.long q1), (.long q2)] below meth c T1 L1 3 24 → T1.heap = h1 → n0 ≤ h1.size → Fr n0 L1 → Keep h46 h1 [b46] → Ari Z h1 b46 .byte N f1 → (∀ i, i < 6 → i < N → f1 i = (own_sel v0 v1 v2 v3 v4 v5 v6) i) → Done p e s below 16 128 (Q0 n0) T1 (mkF m 246 #[.val (.int p0), .val (.long q1), .second, .val (.long q2), .second, .val (.int zl), .val (.ref b10), .val (.ref b21), .val (.ref b46), .unset, .unset, .unset, .unset, .unset, .unset, .unset, .unset, .unset, .unset] []) := by
    intro T1 h1 L1 f1 X1 e1 z1 N1 K1 V1 H1
    have VB1 := f51.keep K1 (ninS ne_b21_b46 nin0)
    show Done p e s below _ _ _ T1 (mkF m 246 #[.val (.int p0), .val (.long q1), .second, .val (.long q2), .second, .val (.int zl), .val (.ref b10), .val (.ref b21), .val (.ref b46), .unset, .unset, .unset, .unset, .unset, .unset, .unset, .unset, .unset, .unset] [])
    refine Done.go (fun _ kt_ => XS.iload X1.here hx rfl (hb hby at_246) rfl kt_) ?_
    show Done p e s below _ _ _ T1 (mkF m 248 #[.val (.int p0), .val (.long q1), .second, .val (.long q2), .second, .val (.int zl), .val (.ref b10), .val (.ref b21), .val (.ref b46), .unset, .unset, .unset, .unset, .unset, .unset, .unset, .unset, .unset, .unset] [(.int zl)])
    refine Done.go (fun _ kt_ => XS.bipush X1.here hx rfl (hb hby at_248) kt_) ?_
    show Done p e s below _ _ _ T1 (mkF m 250 #[.val (.int p0), .val (.long q1), .second, .val (.long q2), .second, .val (.int zl), .val (.ref b10), .val (.ref b21), .val (.ref b46), .unset, .unset, .unset, .unset, .unset, .unset, .unset, .unset, .unset, .unset] [(.int (6 : Int32)), (.int zl)])
    by_cases hc250 : (6 : Int32) < zl
    · skip
      refine Done.go (fun _ kt_ => XS.icmpNo X1.here hx rfl (hb hby at_250) rfl (tlt hc250).2.2.2 kt_) ?_
      show Done p e s below _ _ _ T1 (mkF m 253 #[.val (.int p0), .val (.long q1), .second, .val (.long q2), .second, .val (.int zl), .val (.ref b10), .val (.ref b21), .val (.ref b46), .unset, .unset, .unset, .unset, .unset, .unset, .unset, .unset, .unset, .unset] [])
      refine Done.go (fun _ kt_ => XS.aload X1.here hx rfl (hb hby at_253) rfl rfl kt_) ?_
      show Done p e s below _ _ _ T1 (mkF m 255 #[.val (.int p0), .val (.long q1), .second, .val (.long q2), .second, .val (.int zl), .val (.ref b10), .val (.ref b21), .val (.ref b46), .unset, .unset, .unset, .unset, .unset, .unset, .unset, .unset, .unset, .unset] [(.ref b46)])
      refine Done.go (fun _ kt_ => XS.bipush X1.here hx rfl (hb hby at_255) kt_) ?_
      show Done p e s below _ _ _ T1 (mkF m 257 #[.val (.int p0), .val (.long q1), .second, .val (.long q2), .second, .val (.int zl), .val (.ref b10), .val (.ref b21), .val (.ref b46), .unset, .unset, .unset, .unset, .unset, .unset, .unset, .unset, .unset, .unset] [(.int (6 : Int32)), (.ref b46)])
      refine Done.go (fun _ kt_ => XS.aload X1.here hx rfl (hb hby at_257) rfl rfl kt_) ?_
      show Done p e s below _ _ _ T1 (mkF m 259 #[.val (.int p0), .val (.long q1), .second, .val (.long q2), .second, .val (.int zl), .val (.ref b10), .val (.ref b21), .val (.ref b46), .unset, .unset, .unset, .unset, .unset, .unset, .unset, .unset, .unset, .unset] [(.ref b21), (.int (6 : Int32)), (.ref b46)])
      refine Done.go (fun _ kt_ => XS.bipush X1.here hx rfl (hb hby at_259) kt_) ?_
      show Done p e s below _ _ _ T1 (mkF m 261 #[.val (.int p0), .val (.long q1), .second, .val (.long q2), .second, .val (.int zl), .val (.ref b10), .val (.ref b21), .val (.ref b46), .unset, .unset, .unset, .unset, .unset, .unset, .unset, .unset, .unset, .unset] [(.int (6 : Int32)), (.ref b21), (.int (6 : Int32)), (.ref b46)])
      refine Done.ldB X1 hx hZ e1 VB1 (j := (6 : Int32)) (w := v6) 6 (by decide) rfl (by omega) rfl (hb hby at_261) ?_
      show Done p e s below _ _ _ T1 (mkF m 262 #[.val (.int p0), .val (.long q1), .second, .val (.long q2), .second, .val (.int zl), .val (.ref b10), .val (.ref b21), .val (.ref b46), .unset, .unset, .unset, .unset, .unset, .unset, .unset, .unset, .unset, .unset] [(.int v6), (.int (6 : Int32)), (.ref b46)])
      obtain ⟨T76, h76, X76, e76, W76, V76, st76⟩ := own_stB X1 hx hZ e1 V1 (j := (6 : Int32)) 6 (by decide) rfl ((own_ltI (by decide : (6 : Int32).toInt = ((6 : Nat) : Int)) hN).mp hc250) (g := (mkF m 262 #[.val (.int p0), .val (.long q1), .second, .val (.long q2), .second, .val (.int zl), .val (.ref b10), .val (.ref b21), .val (.ref b46), .unset, .unset, .unset, .unset, .unset, .unset, .unset, .unset, .unset, .unset] [(.int v6), (.int (6 : Int32)), (.ref b46)])) rfl rfl (hb hby at_262)
      have N76 := Fr.snoc X76 N1 gz_b46
      have Z76 : n0 ≤ h76.size := by rw [W76.size]; exact z1
      obtain ⟨Lh76, X76h, N76h⟩ : ∃ L, Stand p l e room_1 s m #[(.int p0), (.long q1), (.long q2)] below meth c T76 L 3 24 ∧ Fr n0 L := ⟨_, X76, N76⟩
      clear X76 N76 X1 e1 N1 z1
      refine Done.go st76 ?_
      clear st76
      show Done p e s below _ _ _ T76 (mkF m 263 #[.val (.int p0), .val (.long q1), .second, .val (.long q2), .second, .val (.int zl), .val (.ref b10), .val (.ref b21), .val (.ref b46), .unset, .unset, .unset, .unset, .unset, .unset, .unset, .unset, .unset, .unset] [])
      refine J263 _ _ _ _ X76h e76 Z76 N76h (K1.wr W76 (Or.inl (List.mem_of_getElem? (i := 0) rfl))) V76 (fun i hi hn => ?_)
      by_cases q : i = 6
      · subst q; simp only [if_true]; exact hv6
      · simp only [if_neg q]; exact H1 i (by omega) hn
    · skip
      refine Done.go (fun _ kt_ => XS.icmpYes X1.here hx rfl (pc0 := 250) (pc' := 263) rfl (hb hby at_250) rfl (flt hc250).2.2.2 (by decide) (by decide) kt_) ?_
      show Done p e s below _ _ _ T1 (mkF m 263 #[.val (.int p0), .val (.long q1), .second, .val (.long q2), .second, .val (.int zl), .val (.ref b10), .val (.ref b21), .val (.ref b46), .unset, .unset, .unset, .unset, .unset, .unset, .unset, .unset, .unset, .unset] [])
      have u := own_nt (own_ltI (by decide : (6 : Int32).toInt = ((6 : Nat) : Int)) hN) hc250
      exact J263 _ _ _ _ X1 e1 z1 N1 K1 V1 (fun i hi hn => H1 i (by omega) hn)
  have J232 : ∀ (T1 : State) (h1 : Heap) (L1 : List Loc) (f1 : Nat → Int32), Stand p l e room_1 s m #[(.int p0), (.long q1), (.long q2)] below meth c T1 L1 3 24 → T1.heap = h1 → n0 ≤ h1.size → Fr n0 L1 → Keep h46 h1 [b46] → Ari Z h1 b46 .byte N f1 → (∀ i, i < 5 → i < N → f1 i = (own_sel v0 v1 v2 v3 v4 v5 v6) i) → Done p e s below 16 128 (Q0 n0) T1 (mkF m 232 #[.val (.int p0), .val (.long q1), .second, .val (.long q2), .second, .val (.int zl), .val (.ref b10), .val (.ref b21), .val (.ref b46), .unset, .unset, .unset, .unset, .unset, .unset, .unset, .unset, .unset, .unset] []) := by
    intro T1 h1 L1 f1 X1 e1 z1 N1 K1 V1 H1
    have VB1 := f51.keep K1 (ninS ne_b21_b46 nin0)
    show Done p e s below _ _ _ T1 (mkF m 232 #[.val (.int p0), .val (.long q1), .second, .val (.long q2), .second, .val (.int zl), .val (.ref b10), .val (.ref b21), .val (.ref b46), .unset, .unset, .unset, .unset, .unset, .unset, .unset, .unset, .unset, .unset] [])
    refine Done.go (fun _ kt_ => XS.iload X1.here hx rfl (hb hby at_232) rfl kt_) ?_
    show Done p e s below _ _ _ T1 (mkF m 234 #[.val (.int p0), .val (.long q1), .second, .val (.long q2), .second, .val (.int zl), .val (.ref b10), .val (.ref b21), .val (.ref b46), .unset, .unset, .unset, .unset, .unset, .unset, .unset, .unset, .unset, .unset] [(.int zl)])
    refine Done.go (fun _ kt_ => XS.iconst X1.here hx rfl (hb hby at_234) kt_) ?_
    show Done p e s below _ _ _ T1 (mkF m 235 #[.val (.int p0), .val (.long q1), .second, .val (.long q2), .second, .val (.int zl), .val (.ref b10), .val (.ref b21), .val (.ref b46), .unset, .unset, .unset, .unset, .unset, .unset, .unset, .unset, .unset, .unset] [(.int (5 : Int32)), (.int zl)])
    by_cases hc235 : (5 : Int32) < zl
    · skip
      refine Done.go (fun _ kt_ => XS.icmpNo X1.here hx rfl (hb hby at_235) rfl (tlt hc235).2.2.2 kt_) ?_
      show Done p e s below _ _ _ T1 (mkF m 238 #[.val (.int p0), .val (.long q1), .second, .val (.long q2), .second, .val (.int zl), .val (.ref b10), .val (.ref b21), .val (.ref b46), .unset, .unset, .unset, .unset, .unset, .unset, .unset, .unset, .unset, .unset] [])
      refine Done.go (fun _ kt_ => XS.aload X1.here hx rfl (hb hby at_238) rfl rfl kt_) ?_
      show Done p e s below _ _ _ T1 (mkF m 240 #[.val (.int p0), .val (.long q1), .second, .val (.long q2), .second, .val (.int zl), .val (.ref b10), .val (.ref b21), .val (.ref b46), .unset, .unset, .unset, .unset, .unset, .unset, .unset, .unset, .unset, .unset] [(.ref b46)])
      refine Done.go (fun _ kt_ => XS.iconst X1.here hx rfl (hb hby at_240) kt_) ?_
      show Done p e s below _ _ _ T1 (mkF m 241 #[.val (.int p0), .val (.long q1), .second, .val (.long q2), .second, .val (.int zl), .val (.ref b10), .val (.ref b21), .val (.ref b46), .unset, .unset, .unset, .unset, .unset, .unset, .unset, .unset, .unset, .unset] [(.int (5 : Int32)), (.ref b46)])
      refine Done.go (fun _ kt_ => XS.aload X1.here hx rfl (hb hby at_241) rfl rfl kt_) ?_
      show Done p e s below _ _ _ T1 (mkF m 243 #[.val (.int p0), .val (.long q1), .second, .val (.long q2), .second, .val (.int zl), .val (.ref b10), .val (.ref b21), .val (.ref b46), .unset, .unset, .unset, .unset, .unset, .unset, .unset, .unset, .unset, .unset] [(.ref b21), (.int (5 : Int32)), (.ref b46)])
      refine Done.go (fun _ kt_ => XS.iconst X1.here hx rfl (hb hby at_243) kt_) ?_
      show Done p e s below _ _ _ T1 (mkF m 244 #[.val (.int p0), .val (.long q1), .second, .val (.long q2), .second, .val (.int zl), .val (.ref b10), .val (.ref b21), .val (.ref b46), .unset, .unset, .unset, .unset, .unset, .unset, .unset, .unset, .unset, .unset] [(.int (5 : Int32)), (.ref b21), (.int (5 : Int32)), (.ref b46)])
      refine Done.ldB X1 hx hZ e1 VB1 (j := (5 : Int32)) (w := v5) 5 (by decide) rfl (by omega) rfl (hb hby at_244) ?_
      show Done p e s below _ _ _ T1 (mkF m 245 #[.val (.int p0), .val (.long q1), .second, .val (.long q2), .second, .val (.int zl), .val (.ref b10), .val (.ref b21), .val (.ref b46), .unset, .unset, .unset, .unset, .unset, .unset, .unset, .unset, .unset, .unset] [(.int v5), (.int (5 : Int32)), (.ref b46)])
      obtain ⟨T77, h77, X77, e77, W77, V77, st77⟩ := own_stB X1 hx hZ e1 V1 (j := (5 : Int32)) 5 (by decide) rfl ((own_ltI (by decide : (5 : Int32).toInt = ((5 : Nat) : Int)) hN).mp hc235) (g := (mkF m 245 #[.val (.int p0), .val (.long q1), .second, .val (.long q2), .second, .val (.int zl), .val (.ref b10), .val (.ref b21), .val (.ref b46), .unset, .unset, .unset, .unset, .unset, .unset, .unset, .unset, .unset, .unset] [(.int v5), (.int (5 : Int32)), (.ref b46)])) rfl rfl (hb hby at_245)
      have N77 := Fr.snoc X77 N1 gz_b46
      have Z77 : n0 ≤ h77.size := by rw [W77.size]; exact z1
      obtain ⟨Lh77, X77h, N77h⟩ : ∃ L, Stand p l e room_1 s m #[(.int p0), (.long q1), (.long q2)] below meth c T77 L 3 24 ∧ Fr n0 L := ⟨_, X77, N77⟩
      clear X77 N77 X1 e1 N1 z1
      refine Done.go st77 ?_
      clear st77
      show Done p e s below _ _ _ T77 (mkF m 246 #[.val (.int p0), .val (.long q1), .second, .val (.long q2), .second, .val (.int zl), .val (.ref b10), .val (.ref b21), .val (.ref b46), .unset, .unset, .unset, .unset, .unset, .unset, .unset, .unset, .unset, .unset] [])
      refine J246 _ _ _ _ X77h e77 Z77 N77h (K1.wr W77 (Or.inl (List.mem_of_getElem? (i := 0) rfl))) V77 (fun i hi hn => ?_)
      by_cases q : i = 5
      · subst q; simp only [if_true]; exact hv5
      · simp only [if_neg q]; exact H1 i (by omega) hn
    · skip
      refine Done.go (fun _ kt_ => XS.icmpYes X1.here hx rfl (pc0 := 235) (pc' := 246) rfl (hb hby at_235) rfl (flt hc235).2.2.2 (by decide) (by decide) kt_) ?_
      show Done p e s below _ _ _ T1 (mkF m 246 #[.val (.int p0), .val (.long q1), .second, .val (.long q2), .second, .val (.int zl), .val (.ref b10), .val (.ref b21), .val (.ref b46), .unset, .unset, .unset, .unset, .unset, .unset, .unset, .unset, .unset, .unset] [])
      have u := own_nt (own_ltI (by decide : (5 : Int32).toInt = ((5 : Nat) : Int)) hN) hc235
      exact J246 _ _ _ _ X1 e1 z1 N1 K1 V1 (fun i hi hn => H1 i (by omega) hn)
  have J218 : ∀ (T1 : State) (h1 : Heap) (L1 : List Loc) (f1 : Nat → Int32), Stand p l e room_1 s m #[(.int p0), (.long q1), (.long q2)] below meth c T1 L1 3 24 → T1.heap = h1 → n0 ≤ h1.size → Fr n0 L1 → Keep h46 h1 [b46] → Ari Z h1 b46 .byte N f1 → (∀ i, i < 4 → i < N → f1 i = (own_sel v0 v1 v2 v3 v4 v5 v6) i) → Done p e s below 16 128 (Q0 n0) T1 (mkF m 218 #[.val (.int p0), .val (.long q1), .second, .val (.long q2), .second, .val (.int zl), .val (.ref b10), .val (.ref b21), .val (.ref b46), .unset, .unset, .unset, .unset, .unset, .unset, .unset, .unset, .unset, .unset] []) := by
    intro T1 h1 L1 f1 X1 e1 z1 N1 K1 V1 H1
    have VB1 := f51.keep K1 (ninS ne_b21_b46 nin0)
    show Done p e s below _ _ _ T1 (mkF m 218 #[.val (.int p0), .val (.long q1), .second, .val (.long q2), .second, .val (.int zl), .val (.ref b10), .val (.ref b21), .val (.ref b46), .unset, .unset, .unset, .unset, .unset, .unset, .unset, .unset, .unset, .unset] [])
    refine Done.go (fun _ kt_ => XS.iload X1.here hx rfl (hb hby at_218) rfl kt_) ?_
    show Done p e s below _ _ _ T1 (mkF m 220 #[.val (.int p0), .val (.long q1), .second, .val (.long q2), .second, .val (.int zl), .val (.ref b10), .val (.ref b21), .val (.ref b46), .unset, .unset, .unset, .unset, .unset, .unset, .unset, .unset, .unset, .unset] [(.int zl)])
    refine Done.go (fun _ kt_ => XS.iconst X1.here hx rfl (hb hby at_220) kt_) ?_
    show Done p e s below _ _ _ T1 (mkF m 221 #[.val (.int p0), .val (.long q1), .second, .val (.long q2), .second, .val (.int zl), .val (.ref b10), .val (.ref b21), .val (.ref b46), .unset, .unset, .unset, .unset, .unset, .unset, .unset, .unset, .unset, .unset] [(.int (4 : Int32)), (.int zl)])
    by_cases hc221 : (4 : Int32) < zl
    · skip
      refine Done.go (fun _ kt_ => XS.icmpNo X1.here hx rfl (hb hby at_221) rfl (tlt hc221).2.2.2 kt_) ?_
      show Done p e s below _ _ _ T1 (mkF m 224 #[.val (.int p0), .val (.long q1), .second, .val (.long q2), .second, .val (.int zl), .val (.ref b10), .val (.ref b21), .val (.ref b46), .unset, .unset, .unset, .unset, .unset, .unset, .unset, .unset, .unset, .unset] [])
      refine Done.go (fun _ kt_ => XS.aload X1.here hx rfl (hb hby at_224) rfl rfl kt_) ?_
      show Done p e s below _ _ _ T1 (mkF m 226 #[.val (.int p0), .val (.long q1), .second, .val (.long q2), .second, .val (.int zl), .val (.ref b10), .val (.ref b21), .val (.ref b46), .unset, .unset, .unset, .unset, .unset, .unset, .unset, .unset, .unset, .unset] [(.ref b46)])
      refine Done.go (fun _ kt_ => XS.iconst X1.here hx rfl (hb hby at_226) kt_) ?_
      show Done p e s below _ _ _ T1 (mkF m 227 #[.val (.int p0), .val (.long q1), .second, .val (.long q2), .second, .val (.int zl), .val (.ref b10), .val (.ref b21), .val (.ref b46), .unset, .unset, .unset, .unset, .unset, .unset, .unset, .unset, .unset, .unset] [(.int (4 : Int32)), (.ref b46)])
      refine Done.go (fun _ kt_ => XS.aload X1.here hx rfl (hb hby at_227) rfl rfl kt_) ?_
      show Done p e s below _ _ _ T1 (mkF m 229 #[.val (.int p0), .val (.long q1), .second, .val (.long q2), .second, .val (.int zl), .val (.ref b10), .val (.ref b21), .val (.ref b46), .unset, .unset, .unset, .unset, .unset, .unset, .unset, .unset, .unset, .unset] [(.ref b21), (.int (4 : Int32)), (.ref b46)])
      refine Done.go (fun _ kt_ => XS.iconst X1.here hx rfl (hb hby at_229) kt_) ?_
      show Done p e s below _ _ _ T1 (mkF m 230 #[.val (.int p0), .val (.long q1), .second, .val (.long q2), .second, .val (.int zl), .val (.ref b10), .val (.ref b21), .val (.ref b46), .unset, .unset, .unset, .unset, .unset, .unset, .unset, .unset, .unset, .unset] [(.int (4 : Int32)), (.ref b21), (.int (4 : Int32)), (.ref b46)])
      refine Done.ldB X1 hx hZ e1 VB1 (j := (4 : Int32)) (w := v4) 4 (by decide) rfl (by omega) rfl (hb hby at_230) ?_
      show Done p e s below _ _ _ T1 (mkF m 231 #[.val (.int p0), .val (.long q1), .second, .val (.long q2), .second, .val (.int zl), .val (.ref b10), .val (.ref b21), .val (.ref b46), .unset, .unset, .unset, .unset, .unset, .unset, .unset, .unset, .unset, .unset] [(.int v4), (.int (4 : Int32)), (.ref b46)])
      obtain ⟨T78, h78, X78, e78, W78, V78, st78⟩ := own_stB X1 hx hZ e1 V1 (j := (4 : Int32)) 4 (by decide) rfl ((own_ltI (by decide : (4 : Int32).toInt = ((4 : Nat) : Int)) hN).mp hc221) (g := (mkF m 231 #[.val (.int p0), .val (.long q1), .second, .val (.long q2), .second, .val (.int zl), .val (.ref b10), .val (.ref b21), .val (.ref b46), .unset, .unset, .unset, .unset, .unset, .unset, .unset, .unset, .unset, .unset] [(.int v4), (.int (4 : Int32)), (.ref b46)])) rfl rfl (hb hby at_231)
      have N78 := Fr.snoc X78 N1 gz_b46
      have Z78 : n0 ≤ h78.size := by rw [W78.size]; exact z1
      obtain ⟨Lh78, X78h, N78h⟩ : ∃ L, Stand p l e room_1 s m #[(.int p0), (.long q1), (.long q2)] below meth c T78 L 3 24 ∧ Fr n0 L := ⟨_, X78, N78⟩
      clear X78 N78 X1 e1 N1 z1
      refine Done.go st78 ?_
      clear st78
      show Done p e s below _ _ _ T78 (mkF m 232 #[.val (.int p0), .val (.long q1), .second, .val (.long q2), .second, .val (.int zl), .val (.ref b10), .val (.ref b21), .val (.ref b46), .unset, .unset, .unset, .unset, .unset, .unset, .unset, .unset, .unset, .unset] [])
      refine J232 _ _ _ _ X78h e78 Z78 N78h (K1.wr W78 (Or.inl (List.mem_of_getElem? (i := 0) rfl))) V78 (fun i hi hn => ?_)
      by_cases q : i = 4
      · subst q; simp only [if_true]; exact hv4
      · simp only [if_neg q]; exact H1 i (by omega) hn
    · skip
      refine Done.go (fun _ kt_ => XS.icmpYes X1.here hx rfl (pc0 := 221) (pc' := 232) rfl (hb hby at_221) rfl (flt hc221).2.2.2 (by decide) (by decide) kt_) ?_
      show Done p e s below _ _ _ T1 (mkF m 232 #[.val (.int p0), .val (.long q1), .second, .val (.long q2), .second, .val (.int zl), .val (.ref b10), .val (.ref b21), .val (.ref b46), .unset, .unset, .unset, .unset, .unset, .unset, .unset, .unset, .unset, .unset] [])
      have u := own_nt (own_ltI (by decide : (4 : Int32).toInt = ((4 : Nat) : Int)) hN) hc221
      exact J232 _ _ _ _ X1 e1 z1 N1 K1 V1 (fun i hi hn => H1 i (by omega) hn)
  have J204 : ∀ (T1 : State) (h1 : Heap) (L1 : List Loc) (f1 : Nat → Int32), Stand p l e room_1 s m #[(.int p0), (.long q1), (.long q2)] below meth c T1 L1 3 24 → T1.heap = h1 → n0 ≤ h1.size → Fr n0 L1 → Keep h46 h1 [b46] → Ari Z h1 b46 .byte N f1 → (∀ i, i < 3 → i < N → f1 i = (own_sel v0 v1 v2 v3 v4 v5 v6) i) → Done p e s below 16 128 (Q0 n0) T1 (mkF m 204 #[.val (.int p0), .val (.long q1), .second, .val (.long q2), .second, .val (.int zl), .val (.ref b10), .val (.ref b21), .val (.ref b46), .unset, .unset, .unset, .unset, .unset, .unset, .unset, .unset, .unset, .unset] []) := by
    intro T1 h1 L1 f1 X1 e1 z1 N1 K1 V1 H1
    have VB1 := f51.keep K1 (ninS ne_b21_b46 nin0)
    show Done p e s below _ _ _ T1 (mkF m 204 #[.val (.int p0), .val (.long q1), .second, .val (.long q2), .second, .val (.int zl), .val (.ref b10), .val (.ref b21), .val (.ref b46), .unset, .unset, .unset, .unset, .unset, .unset, .unset, .unset, .unset, .unset] [])
    refine Done.go (fun _ kt_ => XS.iload X1.here hx rfl (hb hby at_204) rfl kt_) ?_
    show Done p e s below _ _ _ T1 (mkF m 206 #[.val (.int p0), .val (.long q1), .second, .val (.long q2), .second, .val (.int zl), .val (.ref b10), .val (.ref b21), .val (.ref b46), .unset, .unset, .unset, .unset, .unset, .unset, .unset, .unset, .unset, .unset] [(.int zl)])
    refine Done.go (fun _ kt_ => XS.iconst X1.here hx rfl (hb hby at_206) kt_) ?_
    show Done p e s below _ _ _ T1 (mkF m 207 #[.val (.int p0), .val (.long q1), .second, .val (.long q2), .second, .val (.int zl), .val (.ref b10), .val (.ref b21), .val (.ref b46), .unset, .unset, .unset, .unset, .unset, .unset, .unset, .unset, .unset, .unset] [(.int (3 : Int32)), (.int zl)])
    by_cases hc207 : (3 : Int32) < zl
    · skip
      refine Done.go (fun _ kt_ => XS.icmpNo X1.here hx rfl (hb hby at_207) rfl (tlt hc207).2.2.2 kt_) ?_
      show Done p e s below _ _ _ T1 (mkF m 210 #[.val (.int p0), .val (.long q1), .second, .val (.long q2), .second, .val (.int zl), .val (.ref b10), .val (.ref b21), .val (.ref b46), .unset, .unset, .unset, .unset, .unset, .unset, .unset, .unset, .unset, .unset] [])
      refine Done.go (fun _ kt_ => XS.aload X1.here hx rfl (hb hby at_210) rfl rfl kt_) ?_
      show Done p e s below _ _ _ T1 (mkF m 212 #[.val (.int p0), .val (.long q1), .second, .val (.long q2), .second, .val (.int zl), .val (.ref b10), .val (.ref b21), .val (.ref b46), .unset, .unset, .unset, .unset, .unset, .unset, .unset, .unset, .unset, .unset] [(.ref b46)])
      refine Done.go (fun _ kt_ => XS.iconst X1.here hx rfl (hb hby at_212) kt_) ?_
      show Done p e s below _ _ _ T1 (mkF m 213 #[.val (.int p0), .val (.long q1), .second, .val (.long q2), .second, .val (.int zl), .val (.ref b10), .val (.ref b21), .val (.ref b46), .unset, .unset, .unset, .unset, .unset, .unset, .unset, .unset, .unset, .unset] [(.int (3 : Int32)), (.ref b46)])
      refine Done.go (fun _ kt_ => XS.aload X1.here hx rfl (hb hby at_213) rfl rfl kt_) ?_
      show Done p e s below _ _ _ T1 (mkF m 215 #[.val (.int p0), .val (.long q1), .second, .val (.long q2), .second, .val (.int zl), .val (.ref b10), .val (.ref b21), .val (.ref b46), .unset, .unset, .unset, .unset, .unset, .unset, .unset, .unset, .unset, .unset] [(.ref b21), (.int (3 : Int32)), (.ref b46)])
      refine Done.go (fun _ kt_ => XS.iconst X1.here hx rfl (hb hby at_215) kt_) ?_
      show Done p e s below _ _ _ T1 (mkF m 216 #[.val (.int p0), .val (.long q1), .second, .val (.long q2), .second, .val (.int zl), .val (.ref b10), .val (.ref b21), .val (.ref b46), .unset, .unset, .unset, .unset, .unset, .unset, .unset, .unset, .unset, .unset] [(.int (3 : Int32)), (.ref b21), (.int (3 : Int32)), (.ref b46)])
      refine Done.ldB X1 hx hZ e1 VB1 (j := (3 : Int32)) (w := v3) 3 (by decide) rfl (by omega) rfl (hb hby at_216) ?_
      show Done p e s below _ _ _ T1 (mkF m 217 #[.val (.int p0), .val (.long q1), .second, .val (.long q2), .second, .val (.int zl), .val (.ref b10), .val (.ref b21), .val (.ref b46), .unset, .unset, .unset, .unset, .unset, .unset, .unset, .unset, .unset, .unset] [(.int v3), (.int (3 : Int32)), (.ref b46)])
      obtain ⟨T79, h79, X79, e79, W79, V79, st79⟩ := own_stB X1 hx hZ e1 V1 (j := (3 : Int32)) 3 (by decide) rfl ((own_ltI (by decide : (3 : Int32).toInt = ((3 : Nat) : Int)) hN).mp hc207) (g := (mkF m 217 #[.val (.int p0), .val (.long q1), .second, .val (.long q2), .second, .val (.int zl), .val (.ref b10), .val (.ref b21), .val (.ref b46), .unset, .unset, .unset, .unset, .unset, .unset, .unset, .unset, .unset, .unset] [(.int v3), (.int (3 : Int32)), (.ref b46)])) rfl rfl (hb hby at_217)
      have N79 := Fr.snoc X79 N1 gz_b46
      have Z79 : n0 ≤ h79.size := by rw [W79.size]; exact z1
      obtain ⟨Lh79, X79h, N79h⟩ : ∃ L, Stand p l e room_1 s m #[(.int p0), (.long q1), (.long q2)] below meth c T79 L 3 24 ∧ Fr n0 L := ⟨_, X79, N79⟩
      clear X79 N79 X1 e1 N1 z1
      refine Done.go st79 ?_
      clear st79
      show Done p e s below _ _ _ T79 (mkF m 218 #[.val (.int p0), .val (.long q1), .second, .val (.long q2), .second, .val (.int zl), .val (.ref b10), .val (.ref b21), .val (.ref b46), .unset, .unset, .unset, .unset, .unset, .unset, .unset, .unset, .unset, .unset] [])
      refine J218 _ _ _ _ X79h e79 Z79 N79h (K1.wr W79 (Or.inl (List.mem_of_getElem? (i := 0) rfl))) V79 (fun i hi hn => ?_)
      by_cases q : i = 3
      · subst q; simp only [if_true]; exact hv3
      · simp only [if_neg q]; exact H1 i (by omega) hn
    · skip
      refine Done.go (fun _ kt_ => XS.icmpYes X1.here hx rfl (pc0 := 207) (pc' := 218) rfl (hb hby at_207) rfl (flt hc207).2.2.2 (by decide) (by decide) kt_) ?_
      show Done p e s below _ _ _ T1 (mkF m 218 #[.val (.int p0), .val (.long q1), .second, .val (.long q2), .second, .val (.int zl), .val (.ref b10), .val (.ref b21), .val (.ref b46), .unset, .unset, .unset, .unset, .unset, .unset, .unset, .unset, .unset, .unset] [])
      have u := own_nt (own_ltI (by decide : (3 : Int32).toInt = ((3 : Nat) : Int)) hN) hc207
      exact J218 _ _ _ _ X1 e1 z1 N1 K1 V1 (fun i hi hn => H1 i (by omega) hn)
  have J190 : ∀ (T1 : State) (h1 : Heap) (L1 : List Loc) (f1 : Nat → Int32), Stand p l e room_1 s m #[(.int p0), (.long q1), (.long q2)] below meth c T1 L1 3 24 → T1.heap = h1 → n0 ≤ h1.size → Fr n0 L1 → Keep h46 h1 [b46] → Ari Z h1 b46 .byte N f1 → (∀ i, i < 2 → i < N → f1 i = (own_sel v0 v1 v2 v3 v4 v5 v6) i) → Done p e s below 16 128 (Q0 n0) T1 (mkF m 190 #[.val (.int p0), .val (.long q1), .second, .val (.long q2), .second, .val (.int zl), .val (.ref b10), .val (.ref b21), .val (.ref b46), .unset, .unset, .unset, .unset, .unset, .unset, .unset, .unset, .unset, .unset] []) := by
    intro T1 h1 L1 f1 X1 e1 z1 N1 K1 V1 H1
    have VB1 := f51.keep K1 (ninS ne_b21_b46 nin0)
    show Done p e s below _ _ _ T1 (mkF m 190 #[.val (.int p0), .val (.long q1), .second, .val (.long q2), .second, .val (.int zl), .val (.ref b10), .val (.ref b21), .val (.ref b46), .unset, .unset, .unset, .unset, .unset, .unset, .unset, .unset, .unset, .unset] [])
    refine Done.go (fun _ kt_ => XS.iload X1.here hx rfl (hb hby at_190) rfl kt_) ?_
    show Done p e s below _ _ _ T1 (mkF m 192 #[.val (.int p0), .val (.long q1), .second, .val (.long q2), .second, .val (.int zl), .val (.ref b10), .val (.ref b21), .val (.ref b46), .unset, .unset, .unset, .unset, .unset, .unset, .unset, .unset, .unset, .unset] [(.int zl)])
    refine Done.go (fun _ kt_ => XS.iconst X1.here hx rfl (hb hby at_192) kt_) ?_
    show Done p e s below _ _ _ T1 (mkF m 193 #[.val (.int p0), .val (.long q1), .second, .val (.long q2), .second, .val (.int zl), .val (.ref b10), .val (.ref b21), .val (.ref b46), .unset, .unset, .unset, .unset, .unset, .unset, .unset, .unset, .unset, .unset] [(.int (2 : Int32)), (.int zl)])
    by_cases hc193 : (2 : Int32) < zl
    · skip
      refine Done.go (fun _ kt_ => XS.icmpNo X1.here hx rfl (hb hby at_193) rfl (tlt hc193).2.2.2 kt_) ?_
      show Done p e s below _ _ _ T1 (mkF m 196 #[.val (.int p0), .val (.long q1), .second, .val (.long q2), .second, .val (.int zl), .val (.ref b10), .val (.ref b21), .val (.ref b46), .unset, .unset, .unset, .unset, .unset, .unset, .unset, .unset, .unset, .unset] [])
      refine Done.go (fun _ kt_ => XS.aload X1.here hx rfl (hb hby at_196) rfl rfl kt_) ?_
      show Done p e s below _ _ _ T1 (mkF m 198 #[.val (.int p0), .val (.long q1), .second, .val (.long q2), .second, .val (.int zl), .val (.ref b10), .val (.ref b21), .val (.ref b46), .unset, .unset, .unset, .unset, .unset, .unset, .unset, .unset, .unset, .unset] [(.ref b46)])
      refine Done.go (fun _ kt_ => XS.iconst X1.here hx rfl (hb hby at_198) kt_) ?_
      show Done p e s below _ _ _ T1 (mkF m 199 #[.val (.int p0), .val (.long q1), .second, .val (.long q2), .second, .val (.int zl), .val (.ref b10), .val (.ref b21), .val (.ref b46), .unset, .unset, .unset, .unset, .unset, .unset, .unset, .unset, .unset, .unset] [(.int (2 : Int32)), (.ref b46)])
      refine Done.go (fun _ kt_ => XS.aload X1.here hx rfl (hb hby at_199) rfl rfl kt_) ?_
      show Done p e s below _ _ _ T1 (mkF m 201 #[.val (.int p0), .val (.long q1), .second, .val (.long q2), .second, .val (.int zl), .val (.ref b10), .val (.ref b21), .val (.ref b46), .unset, .unset, .unset, .unset, .unset, .unset, .unset, .unset, .unset, .unset] [(.ref b21), (.int (2 : Int32)), (.ref b46)])
      refine Done.go (fun _ kt_ => XS.iconst X1.here hx rfl (hb hby at_201) kt_) ?_
      show Done p e s below _ _ _ T1 (mkF m 202 #[.val (.int p0), .val (.long q1), .second, .val (.long q2), .second, .val (.int zl), .val (.ref b10), .val (.ref b21), .val (.ref b46), .unset, .unset, .unset, .unset, .unset, .unset, .unset, .unset, .unset, .unset] [(.int (2 : Int32)), (.ref b21), (.int (2 : Int32)), (.ref b46)])
      refine Done.ldB X1 hx hZ e1 VB1 (j := (2 : Int32)) (w := v2) 2 (by decide) rfl (by omega) rfl (hb hby at_202) ?_
      show Done p e s below _ _ _ T1 (mkF m 203 #[.val (.int p0), .val (.long q1), .second, .val (.long q2), .second, .val (.int zl), .val (.ref b10), .val (.ref b21), .val (.ref b46), .unset, .unset, .unset, .unset, .unset, .unset, .unset, .unset, .unset, .unset] [(.int v2), (.int (2 : Int32)), (.ref b46)])
      obtain ⟨T80, h80, X80, e80, W80, V80, st80⟩ := own_stB X1 hx hZ e1 V1 (j := (2 : Int32)) 2 (by decide) rfl ((own_ltI (by decide : (2 : Int32).toInt = ((2 : Nat) : Int)) hN).mp hc193) (g := (mkF m 203 #[.val (.int p0), .val (.long q1), .second, .val (.long q2), .second, .val (.int zl), .val (.ref b10), .val (.ref b21), .val (.ref b46), .unset, .unset, .unset, .unset, .unset, .unset, .unset, .unset, .unset, .unset] [(.int v2), (.int (2 : Int32)), (.ref b46)])) rfl rfl (hb hby at_203)
      have N80 := Fr.snoc X80 N1 gz_b46
      have Z80 : n0 ≤ h80.size := by rw [W80.size]; exact z1
      obtain ⟨Lh80, X80h, N80h⟩ : ∃ L, Stand p l e room_1 s m #[(.int p0), (.long q1), (.long q2)] below meth c T80 L 3 24 ∧ Fr n0 L := ⟨_, X80, N80⟩
      clear X80 N80 X1 e1 N1 z1
      refine Done.go st80 ?_
      clear st80
      show Done p e s below _ _ _ T80 (mkF m 204 #[.val (.int p0), .val (.long q1), .second, .val (.long q2), .second, .val (.int zl), .val (.ref b10), .val (.ref b21), .val (.ref b46), .unset, .unset, .unset, .unset, .unset, .unset, .unset, .unset, .unset, .unset] [])
      refine J204 _ _ _ _ X80h e80 Z80 N80h (K1.wr W80 (Or.inl (List.mem_of_getElem? (i := 0) rfl))) V80 (fun i hi hn => ?_)
      by_cases q : i = 2
      · subst q; simp only [if_true]; exact hv2
      · simp only [if_neg q]; exact H1 i (by omega) hn
    · skip
      refine Done.go (fun _ kt_ => XS.icmpYes X1.here hx rfl (pc0 := 193) (pc' := 204) rfl (hb hby at_193) rfl (flt hc193).2.2.2 (by decide) (by decide) kt_) ?_
      show Done p e s below _ _ _ T1 (mkF m 204 #[.val (.int p0), .val (.long q1), .second, .val (.long q2), .second, .val (.int zl), .val (.ref b10), .val (.ref b21), .val (.ref b46), .unset, .unset, .unset, .unset, .unset, .unset, .unset, .unset, .unset, .unset] [])
      have u := own_nt (own_ltI (by decide : (2 : Int32).toInt = ((2 : Nat) : Int)) hN) hc193
      exact J204 _ _ _ _ X1 e1 z1 N1 K1 V1 (fun i hi hn => H1 i (by omega) hn)
  have J176 : ∀ (T1 : State) (h1 : Heap) (L1 : List Loc) (f1 : Nat → Int32), Stand p l e room_1 s m #[(.int p0), (.long q1), (.long q2)] below meth c T1 L1 3 24 → T1.heap = h1 → n0 ≤ h1.size → Fr n0 L1 → Keep h46 h1 [b46] → Ari Z h1 b46 .byte N f1 → (∀ i, i < 1 → i < N → f1 i = (own_sel v0 v1 v2 v3 v4 v5 v6) i) → Done p e s below 16 128 (Q0 n0) T1 (mkF m 176 #[.val (.int p0), .val (.long q1), .second, .val (.long q2), .second, .val (.int zl), .val (.ref b10), .val (.ref b21), .val (.ref b46), .unset, .unset, .unset, .unset, .unset, .unset, .unset, .unset, .unset, .unset] []) := by
    intro T1 h1 L1 f1 X1 e1 z1 N1 K1 V1 H1
    have VB1 := f51.keep K1 (ninS ne_b21_b46 nin0)
    show Done p e s below _ _ _ T1 (mkF m 176 #[.val (.int p0), .val (.long q1), .second, .val (.long q2), .second, .val (.int zl), .val (.ref b10), .val (.ref b21), .val (.ref b46), .unset, .unset, .unset, .unset, .unset, .unset, .unset, .unset, .unset, .unset] [])
    refine Done.go (fun _ kt_ => XS.iload X1.here hx rfl (hb hby at_176) rfl kt_) ?_
    show Done p e s below _ _ _ T1 (mkF m 178 #[.val (.int p0), .val (.long q1), .second, .val (.long q2), .second, .val (.int zl), .val (.ref b10), .val (.ref b21), .val (.ref b46), .unset, .unset, .unset, .unset, .unset, .unset, .unset, .unset, .unset, .unset] [(.int zl)])
    refine Done.go (fun _ kt_ => XS.iconst X1.here hx rfl (hb hby at_178) kt_) ?_
    show Done p e s below _ _ _ T1 (mkF m 179 #[.val (.int p0), .val (.long q1), .second, .val (.long q2), .second, .val (.int zl), .val (.ref b10), .val (.ref b21), .val (.ref b46), .unset, .unset, .unset, .unset, .unset, .unset, .unset, .unset, .unset, .unset] [(.int (1 : Int32)), (.int zl)])
    by_cases hc179 : (1 : Int32) < zl
    · skip
      refine Done.go (fun _ kt_ => XS.icmpNo X1.here hx rfl (hb hby at_179) rfl (tlt hc179).2.2.2 kt_) ?_
      show Done p e s below _ _ _ T1 (mkF m 182 #[.val (.int p0), .val (.long q1), .second, .val (.long q2), .second, .val (.int zl), .val (.ref b10), .val (.ref b21), .val (.ref b46), .unset, .unset, .unset, .unset, .unset, .unset, .unset, .unset, .unset, .unset] [])
      refine Done.go (fun _ kt_ => XS.aload X1.here hx rfl (hb hby at_182) rfl rfl kt_) ?_
      show Done p e s below _ _ _ T1 (mkF m 184 #[.val (.int p0), .val (.long q1), .second, .val (.long q2), .second, .val (.int zl), .val (.ref b10), .val (.ref b21), .val (.ref b46), .unset, .unset, .unset, .unset, .unset, .unset, .unset, .unset, .unset, .unset] [(.ref b46)])
      refine Done.go (fun _ kt_ => XS.iconst X1.here hx rfl (hb hby at_184) kt_) ?_
      show Done p e s below _ _ _ T1 (mkF m 185 #[.val (.int p0), .val (.long q1), .second, .val (.long q2), .second, .val (.int zl), .val (.ref b10), .val (.ref b21), .val (.ref b46), .unset, .unset, .unset, .unset, .unset, .unset, .unset, .unset, .unset, .unset] [(.int (1 : Int32)), (.ref b46)])
      refine Done.go (fun _ kt_ => XS.aload X1.here hx rfl (hb hby at_185) rfl rfl kt_) ?_
      show Done p e s below _ _ _ T1 (mkF m 187 #[.val (.int p0), .val (.long q1), .second, .val (.long q2), .second, .val (.int zl), .val (.ref b10), .val (.ref b21), .val (.ref b46), .unset, .unset, .unset, .unset, .unset, .unset, .unset, .unset, .unset, .unset] [(.ref b21), (.int (1 : Int32)), (.ref b46)])
      refine Done.go (fun _ kt_ => XS.iconst X1.here hx rfl (hb hby at_187) kt_) ?_
      show Done p e s below _ _ _ T1 (mkF m 188 #[.val (.int p0), .val (.long q1), .second, .val (.long q2), .second, .val (.int zl), .val (.ref b10), .val (.ref b21), .val (.ref b46), .unset, .unset, .unset, .unset, .unset, .unset, .unset, .unset, .unset, .unset] [(.int (1 : Int32)), (.ref b21), (.int (1 : Int32)), (.ref b46)])
      refine Done.ldB X1 hx hZ e1 VB1 (j := (1 : Int32)) (w := v1) 1 (by decide) rfl (by omega) rfl (hb hby at_188) ?_
      show Done p e s below _ _ _ T1 (mkF m 189 #[.val (.int p0), .val (.long q1), .second, .val (.long q2), .second, .val (.int zl), .val (.ref b10), .val (.ref b21), .val (.ref b46), .unset, .unset, .unset, .unset, .unset, .unset, .unset, .unset, .unset, .unset] [(.int v1), (.int (1 : Int32)), (.ref b46)])
      obtain ⟨T81, h81, X81, e81, W81, V81, st81⟩ := own_stB X1 hx hZ e1 V1 (j := (1 : Int32)) 1 (by decide) rfl ((own_ltI (by decide : (1 : Int32).toInt = ((1 : Nat) : Int)) hN).mp hc179) (g := (mkF m 189 #[.val (.int p0), .val (.long q1), .second, .val (.long q2), .second, .val (.int zl), .val (.ref b10), .val (.ref b21), .val (.ref b46), .unset, .unset, .unset, .unset, .unset, .unset, .unset, .unset, .unset, .unset] [(.int v1), (.int (1 : Int32)), (.ref b46)])) rfl rfl (hb hby at_189)
      have N81 := Fr.snoc X81 N1 gz_b46
      have Z81 : n0 ≤ h81.size := by rw [W81.size]; exact z1
      obtain ⟨Lh81, X81h, N81h⟩ : ∃ L, Stand p l e room_1 s m #[(.int p0), (.long q1), (.long q2)] below meth c T81 L 3 24 ∧ Fr n0 L := ⟨_, X81, N81⟩
      clear X81 N81 X1 e1 N1 z1
      refine Done.go st81 ?_
      clear st81
      show Done p e s below _ _ _ T81 (mkF m 190 #[.val (.int p0), .val (.long q1), .second, .val (.long q2), .second, .val (.int zl), .val (.ref b10), .val (.ref b21), .val (.ref b46), .unset, .unset, .unset, .unset, .unset, .unset, .unset, .unset, .unset, .unset] [])
      refine J190 _ _ _ _ X81h e81 Z81 N81h (K1.wr W81 (Or.inl (List.mem_of_getElem? (i := 0) rfl))) V81 (fun i hi hn => ?_)
      by_cases q : i = 1
      · subst q; simp only [if_true]; exact hv1
      · simp only [if_neg q]; exact H1 i (by omega) hn
    · skip
      refine Done.go (fun _ kt_ => XS.icmpYes X1.here hx rfl (pc0 := 179) (pc' := 190) rfl (hb hby at_179) rfl (flt hc179).2.2.2 (by decide) (by decide) kt_) ?_
      show Done p e s below _ _ _ T1 (mkF m 190 #[.val (.int p0), .val (.long q1), .second, .val (.long q2), .second, .val (.int zl), .val (.ref b10), .val (.ref b21), .val (.ref b46), .unset, .unset, .unset, .unset, .unset, .unset, .unset, .unset, .unset, .unset] [])
      have u := own_nt (own_ltI (by decide : (1 : Int32).toInt = ((1 : Nat) : Int)) hN) hc179
      exact J190 _ _ _ _ X1 e1 z1 N1 K1 V1 (fun i hi hn => H1 i (by omega) hn)
  have J163 : ∀ (T1 : State) (h1 : Heap) (L1 : List Loc) (f1 : Nat → Int32), Stand p l e room_1 s m #[(.int p0), (.long q1), (.long q2)] below meth c T1 L1 3 24 → T1.heap = h1 → n0 ≤ h1.size → Fr n0 L1 → Keep h46 h1 [b46] → Ari Z h1 b46 .byte N f1 → (∀ i, i < 0 → i < N → f1 i = (own_sel v0 v1 v2 v3 v4 v5 v6) i) → Done p e s below 16 128 (Q0 n0) T1 (mkF m 163 #[.val (.int p0), .val (.long q1), .second, .val (.long q2), .second, .val (.int zl), .val (.ref b10), .val (.ref b21), .val (.ref b46), .unset, .unset, .unset, .unset, .unset, .unset, .unset, .unset, .unset, .unset] []) := by
    intro T1 h1 L1 f1 X1 e1 z1 N1 K1 V1 H1
    have VB1 := f51.keep K1 (ninS ne_b21_b46 nin0)
    show Done p e s below _ _ _ T1 (mkF m 163 #[.val (.int p0), .val (.long q1), .second, .val (.long q2), .second, .val (.int zl), .val (.ref b10), .val (.ref b21), .val (.ref b46), .unset, .unset, .unset, .unset, .unset, .unset, .unset, .unset, .unset, .unset] [])
    refine Done.go (fun _ kt_ => XS.iload X1.here hx rfl (hb hby at_163) rfl kt_) ?_
    show Done p e s below _ _ _ T1 (mkF m 165 #[.val (.int p0), .val (.long q1), .second, .val (.long q2), .second, .val (.int zl), .val (.ref b10), .val (.ref b21), .val (.ref b46), .unset, .unset, .unset, .unset, .unset, .unset, .unset, .unset, .unset, .unset] [(.int zl)])
    by_cases hc165 : (0 : Int32) < zl
    · skip
      refine Done.go (fun _ kt_ => XS.ifNo X1.here hx rfl (hb hby at_165) rfl ((if0 _ _).trans (tlt hc165).2.2.2) kt_) ?_
      show Done p e s below _ _ _ T1 (mkF m 168 #[.val (.int p0), .val (.long q1), .second, .val (.long q2), .second, .val (.int zl), .val (.ref b10), .val (.ref b21), .val (.ref b46), .unset, .unset, .unset, .unset, .unset, .unset, .unset, .unset, .unset, .unset] [])
      refine Done.go (fun _ kt_ => XS.aload X1.here hx rfl (hb hby at_168) rfl rfl kt_) ?_
      show Done p e s below _ _ _ T1 (mkF m 170 #[.val (.int p0), .val (.long q1), .second, .val (.long q2), .second, .val (.int zl), .val (.ref b10), .val (.ref b21), .val (.ref b46), .unset, .unset, .unset, .unset, .unset, .unset, .unset, .unset, .unset, .unset] [(.ref b46)])
      refine Done.go (fun _ kt_ => XS.iconst X1.here hx rfl (hb hby at_170) kt_) ?_
      show Done p e s below _ _ _ T1 (mkF m 171 #[.val (.int p0), .val (.long q1), .second, .val (.long q2), .second, .val (.int zl), .val (.ref b10), .val (.ref b21), .val (.ref b46), .unset, .unset, .unset, .unset, .unset, .unset, .unset, .unset, .unset, .unset] [(.int (0 : Int32)), (.ref b46)])
      refine Done.go (fun _ kt_ => XS.aload X1.here hx rfl (hb hby at_171) rfl rfl kt_) ?_
      show Done p e s below _ _ _ T1 (mkF m 173 #[.val (.int p0), .val (.long q1), .second, .val (.long q2), .second, .val (.int zl), .val (.ref b10), .val (.ref b21), .val (.ref b46), .unset, .unset, .unset, .unset, .unset, .unset, .unset, .unset, .unset, .unset] [(.ref b21), (.int (0 : Int32)), (.ref b46)])
      refine Done.go (fun _ kt_ => XS.iconst X1.here hx rfl (hb hby at_173) kt_) ?_
      show Done p e s below _ _ _ T1 (mkF m 174 #[.val (.int p0), .val (.long q1), .second, .val (.long q2), .second, .val (.int zl), .val (.ref b10), .val (.ref b21), .val (.ref b46), .unset, .unset, .unset, .unset, .unset, .unset, .unset, .unset, .unset, .unset] [(.int (0 : Int32)), (.ref b21), (.int (0 : Int32)), (.ref b46)])
      refine Done.ldB X1 hx hZ e1 VB1 (j := (0 : Int32)) (w := v0) 0 (by decide) rfl (by omega) rfl (hb hby at_174) ?_
      show Done p e s below _ _ _ T1 (mkF m 175 #[.val (.int p0), .val (.long q1), .second, .val (.long q2), .second, .val (.int zl), .val (.ref b10), .val (.ref b21), .val (.ref b46), .unset, .unset, .unset, .unset, .unset, .unset, .unset, .unset, .unset, .unset] [(.int v0), (.int (0 : Int32)), (.ref b46)])
      obtain ⟨T82, h82, X82, e82, W82, V82, st82⟩ := own_stB X1 hx hZ e1 V1 (j := (0 : Int32)) 0 (by decide) rfl ((own_ltI (by decide : (0 : Int32).toInt = ((0 : Nat) : Int)) hN).mp hc165) (g := (mkF m 175 #[.val (.int p0), .val (.long q1), .second, .val (.long q2), .second, .val (.int zl), .val (.ref b10), .val (.ref b21), .val (.ref b46), .unset, .unset, .unset, .unset, .unset, .unset, .unset, .unset, .unset, .unset] [(.int v0), (.int (0 : Int32)), (.ref b46)])) rfl rfl (hb hby at_175)
      have N82 := Fr.snoc X82 N1 gz_b46
      have Z82 : n0 ≤ h82.size := by rw [W82.size]; exact z1
      obtain ⟨Lh82, X82h, N82h⟩ : ∃ L, Stand p l e room_1 s m #[(.int p0), (.long q1), (.long q2)] below meth c T82 L 3 24 ∧ Fr n0 L := ⟨_, X82, N82⟩
      clear X82 N82 X1 e1 N1 z1
      refine Done.go st82 ?_
      clear st82
      show Done p e s below _ _ _ T82 (mkF m 176 #[.val (.int p0), .val (.long q1), .second, .val (.long q2), .second, .val (.int zl), .val (.ref b10), .val (.ref b21), .val (.ref b46), .unset, .unset, .unset, .unset, .unset, .unset, .unset, .unset, .unset, .unset] [])
      refine J176 _ _ _ _ X82h e82 Z82 N82h (K1.wr W82 (Or.inl (List.mem_of_getElem? (i := 0) rfl))) V82 (fun i hi hn => ?_)
      by_cases q : i = 0
      · subst q; simp only [if_true]; exact hv0
      · simp only [if_neg q]; exact H1 i (by omega) hn
    · skip
      refine Done.go (fun _ kt_ => XS.ifYes X1.here hx rfl (pc0 := 165) (pc' := 176) rfl (hb hby at_165) rfl ((if0 _ _).trans (flt hc165).2.2.2) (by decide) (by decide) kt_) ?_
      show Done p e s below _ _ _ T1 (mkF m 176 #[.val (.int p0), .val (.long q1), .second, .val (.long q2), .second, .val (.int zl), .val (.ref b10), .val (.ref b21), .val (.ref b46), .unset, .unset, .unset, .unset, .unset, .unset, .unset, .unset, .unset, .unset] [])
      have u := own_nt (own_ltI (by decide : (0 : Int32).toInt = ((0 : Nat) : Int)) hN) hc165
      exact J176 _ _ _ _ X1 e1 z1 N1 K1 V1 (fun i hi hn => H1 i (by omega) hn)
  show Done p e s below _ _ _ T46 (mkF m 163 #[.val (.int p0), .val (.long q1), .second, .val (.long q2), .second, .val (.int zl), .val (.ref b10), .val (.ref b21), .val (.ref b46), .unset, .unset, .unset, .unset, .unset, .unset, .unset, .unset, .unset, .unset] [])
  exact J163 _ _ _ _ X46h e46 Z46 N46h (Keep.refl _ _) V46 (fun i hi _ => absurd hi (Nat.not_lt_zero i))
theorem own_eqI {args : Array Value} {first s : State} {o : Option Outcome} {idx : List Nat} {a : Term} {z : Int32} (h : (Cond.eq a (Term.int z)).value args first o s idx = some true) : a.eval args first o idx s = some (.int z) := by
  simp only [Cond.value, Term.eval] at h
  cases ha : a.eval args first o idx s with
  | none => simp [ha] at h
  | some x => cases x <;> simp [ha] at h ⊢; exact h
theorem own_mark {args : Array Value} {s : State} {n : String} {k : Nat} {z : Int32} {g : Nat → Int32} (hx : (Cond.arrayOf (Term.static "spinecode/xml/XmlInput" n "[B") .byte).value args s none s [] = some true) (hl : (Cond.eq (Term.length (Term.static "spinecode/xml/XmlInput" n "[B")) (Term.int z)).value args s none s [] = some true)
    (hi : (Cond.initialized "spinecode/xml/XmlInput").before args s = true) (hs : (Cond.laysStatic "spinecode/xml/XmlInput" n "[B").before args s = true) (hz : z.toInt = (k : Int)) (he : ∀ i, i < k → (Cond.eq (Term.elem (Term.static "spinecode/xml/XmlInput" n "[B") (Term.int (Int32.ofNat i))) (Term.int (g i))).value args s none s [] = some true) :
    ∃ a, Sta s s.heap "spinecode/xml/XmlInput" n "[B" (.ref a) ∧ Ari s s.heap a .byte k g := by
  obtain ⟨a, ev⟩ := arr_v hx
  obtain ⟨cl, A⟩ := Arr.start ev hx
  have hlen := own_eqI hl
  have hat : s.arrayAt? a = some cl := Arr.fin (Vm.Alike.refl _) A
  have hsz : cl.slots.size < 2 ^ 31 ∧ cl.slots.size.toInt32 = z := by
    generalize Term.static "spinecode/xml/XmlInput" n "[B" = t at ev hlen
    by_cases q : cl.slots.size < 2 ^ 31
    · rw [len_f ev hat q] at hlen
      exact ⟨q, by injection hlen with u; injection u⟩
    · exfalso
      simp only [Term.eval, ev, hat, Option.bind_eq_bind, Option.bind_some, if_neg q] at hlen
      simp at hlen
  have hk : cl.slots.size = k := by
    have := len_toInt hsz.1
    rw [hsz.2, hz] at this; omega
  refine ⟨a, Sta.start ev (Or.inr ⟨hi, hs⟩), cl, A, hk, hk ▸ hsz.1, fun i hik => ?_⟩
  have q := elem_in (own_eqI (he i hik)) ev (Term.int_eval _) A.1
  have e : (Int32.ofNat i).toNatClampNeg = i := (own_ix (Int32.toInt_ofNat_of_lt (by have := hsz.1; omega))).2
  rw [e] at q; exact q.2
set_option maxRecDepth 65536 in
set_option maxHeartbeats 40000000 in
theorem comes_1 {Post : Tables → Env → Array Value → State → Outcome → State → Prop} (hpost : ∀ tb e args s v u, (limb_1_1.after args s (.returned v) u = true ∧ limb_1_2.after args s (.returned v) u = true ∧ True) → FrameEnd s (.returned v) u (Jvm.fieldLocs frame_1_writes args s ++ Jvm.arrayLocs frame_1_arrays args s ++ Jvm.staticLocs frame_1_statics s) 16 128 → Post tb e args s (.returned v) u) :
    ArmFor flags0 classFile x code maxLocals ret World_1 tables_1 room_1 Calls_1 rest_1 Pre_1 Post := by
  intro l hfl _ _ p e ha hc hk s m args below hf hA hF happ hP
  obtain ⟨hcalls, hrest, hpre⟩ := hP
  obtain ⟨-, -, -, hnamed, -, -, -, hat⟩ := (Spec.applies_iff hf).mp happ
  obtain ⟨hg, hn⟩ := and_e (Cond.before_iff.mp (show (Jvm.Cond.and given_1 narrow_1).before args s = true from hpre))
  obtain ⟨hcount, hg⟩ := and_e hg
  obtain ⟨hv0, hg⟩ := and_e hg
  obtain ⟨hv1, hg⟩ := and_e hg
  have hv2 := hg
  obtain ⟨w0, w1, w2, rfl⟩ : ∃ w0 w1 w2 : Value, args = #[w0, w1, w2] := by
    have hs : args.size = 3 := by simpa [Cond.value, given_1] using hcount
    obtain ⟨L⟩ := args
    match L, hs with
    | [w0, w1, w2], _ => exact ⟨w0, w1, w2, rfl⟩
  have hw := fun d (hd : d ∈ tables_1) => atoms_spec (ws := Jvm.Cond.code x code maxLocals ret :: tables_1) hat d (List.mem_cons_of_mem _ hd)
  have hfit : Fit s := fun {y c} hc i hi => by
    obtain ⟨ha, rfl⟩ := Array.getElem?_eq_some_iff.mp hc
    have q := List.all_eq_true.mp ((Array.all_eq_true_iff_forall_mem.mp hF) _ (Array.getElem_mem ha)) i (List.mem_range.mpr hi)
    simpa [Array.getElem?_eq_getElem hi] using q
  obtain ⟨i0, ei0⟩ := is_v hv0
  obtain rfl : w0 = (.int i0) := Option.some.inj ei0
  obtain ⟨i1, ei1⟩ := isL_v hv1
  obtain rfl : w1 = (.long i1) := Option.some.inj ei1
  obtain ⟨i2, ei2⟩ := isL_v hv2
  obtain rfl : w2 = (.long i2) := Option.some.inj ei2
  obtain ⟨a1, hn⟩ := and_e hn
  obtain ⟨l1, hn⟩ := and_e hn
  obtain ⟨a2, hn⟩ := and_e hn
  obtain ⟨l2, hn⟩ := and_e hn
  obtain ⟨a3, hn⟩ := and_e hn
  obtain ⟨l3, hn⟩ := and_e hn
  obtain ⟨b0, hn⟩ := and_e hn
  obtain ⟨c0, hn⟩ := and_e hn
  obtain ⟨d0, hn⟩ := and_e hn
  obtain ⟨d1, hn⟩ := and_e hn
  obtain ⟨c1, hn⟩ := and_e hn
  obtain ⟨b1, d2⟩ := and_e hn
  obtain ⟨m1, S1, M1⟩ := own_mark (k := 2) (g := own_be) a1 l1 (hw _ (List.mem_of_getElem? (i := 14) rfl)) (hw _ (List.mem_of_getElem? (i := 20) rfl)) (by decide) (fun i hi => by match i, hi with | 0, _ => exact b0 | 1, _ => exact b1)
  obtain ⟨m2, S2, M2⟩ := own_mark (k := 2) (g := own_le) a2 l2 (hw _ (List.mem_of_getElem? (i := 14) rfl)) (hw _ (List.mem_of_getElem? (i := 25) rfl)) (by decide) (fun i hi => by match i, hi with | 0, _ => exact c0 | 1, _ => exact c1)
  obtain ⟨m3, S3, M3⟩ := own_mark (k := 3) (g := own_u8) a3 l3 (hw _ (List.mem_of_getElem? (i := 14) rfl)) (hw _ (List.mem_of_getElem? (i := 27) rfl)) (by decide) (fun i hi => by match i, hi with | 0, _ => exact d0 | 1, _ => exact d1 | 2, _ => exact d2)
  obtain ⟨n, o, h1, h2, h3, _, L, rfl, ⟨rfl, N⟩, hq⟩ := rm0 l s _ hw tables_1 i0 i1 i2 m1 m2 m3 s.heap s.heap.size (Nat.le_refl _) S1 S2 S3 M1 M2 M3 p e ha hc hk s m _ below hf ((Spec.applies_iff_loose hf).mp happ).1 ⟨rfl, State.Warmed39.refl s, rfl⟩ trivial
  refine ⟨n, _, h1, h2, h3, hpost _ _ _ _ _ _ ⟨Cond.after_iff.mpr rfl, Cond.after_iff.mpr (eq_i res_at (Term.int_eval (1)) rfl), trivial⟩ ⟨hq.1, hq.2.1, (hq.2.2.sift fun y hy => Or.inr (N y hy)).mono (by decide) (by decide)⟩⟩
theorem main_1_1 : Claimed_1_1 := comes_1 fun _ _ _ _ _ _ h hF => ⟨h.1, hF⟩
theorem main_1_2 : Claimed_1_2 := comes_1 fun _ _ _ _ _ _ h hF => ⟨h.2.1, hF⟩
end Jvm.Pilot.@@N@@
namespace Jvm.Pilot.@@N@@
open Jvm Jvm.ClassFile Sem Op Lib Jvm.Free Jvm.Stand Jvm.Pilot.@@N@@.Jvm.D
/-! MADE BY PROGRAM (witnessworld.py) out of the Statement's table words and the real class files: 9 classes; the members and pool entries that the words name. The judged class is class 1, her method 1. -/
namespace start1
open Jvm.ClassFile
def u (s : String) : CpInfo := .utf8 (stringToUtf16 s)
/-- a pool by its gaps: so many unusable entries, then the entry; so many at the end -/
def gap : Nat → List CpInfo → List CpInfo
  | 0, r => r
  | n + 1, r => .unusable :: gap n r
def poolList (es : List (Nat × CpInfo)) (last : Nat) : List CpInfo := es.foldr (fun e r => gap e.1 (e.2 :: r)) (gap last [])
def pool (es : List (Nat × CpInfo)) (last : Nat) : Array CpInfo := ⟨poolList es last⟩
def fileOf (pool : Array CpInfo) (this : Nat) (attrs : Array Attribute := #[]) (ms : Array MethodInfo := #[]) (fl : Nat := 33) (sup : Nat := 0) (ifs : Array Nat := #[]) (fds : Array FieldInfo := #[]) : ClassFile where
  minorVersion := 0
  majorVersion := 65
  constantPool := pool
  accessFlags := fl
  thisClass := this
  superClass := sup
  interfaces := ifs
  fields := fds
  methods := ms
  attributes := attrs
def plain (name : String) (sup : Option ClassId) : Class where
  name := name
  kind := .ordinary
  loader := none
  accessFlags := 33
  super := sup
  interfaces := #[]
  cf := none
  fields := #[]
  methods := #[]
  instanceTypes := #[]
  staticTypes := #[]
  resolved := #[]
  callSites := []
  init := .initialized
  statics := none
  mirror := none

def pool0 : Array CpInfo := pool [(5, u "<init>"), (0, u "()V"), (1, .class_ 10), (1, u "java/lang/Object")] 113

def k0m0 : Method := { name := "<init>", desc := "()V", sig := { parameters := [], returnType := none }, accessFlags := 1, code := none }
/-- java/lang/Object -/
def k0 : Class := { plain "java/lang/Object" none with
  accessFlags := 33
  interfaces := #[]
  cf := some (fileOf pool0 8 #[] #[{ accessFlags := 1, nameIndex := 5, descriptorIndex := 6, attributes := #[] }] 33 0 #[] #[])
  fields := #[]
  methods := #[k0m0]
  instanceTypes := #[]
  staticTypes := #[]
  resolved := Array.replicate 124 none
  statics := none }

def pool1 : Array CpInfo := pool [(2, .class_ 4), (1, u "java/lang/Object"), (0, u "<init>"), (0, u "()V"), (0, .methodref 8 9), (0, .class_ 10), (0, .nameAndType 11 12), (0, u "spinecode/xml/XmlInputRecognisesPinLaw"), (0, u "draw"), (0, u "([BJJI)B"), (0, .methodref 8 14), (0, .nameAndType 15 16), (0, u "lt"), (0, u "([BII)Z"), (0, .methodref 8 18), (0, .nameAndType 19 16), (0, u "ws"), (0, .methodref 21 22), (0, .class_ 23), (0, .nameAndType 24 25), (0, u "spinecode/xml/XmlInput"), (0, u "recognises"), (0, u "([B)Z"), (0, .long 15), (3, u "law"), (0, u "(IJJ)Z")] 5

def k1m0 : Method := { name := "<init>", desc := "()V", sig := { parameters := [], returnType := none }, accessFlags := 1, code := none }
def k1c1 : Code := { maxStack := 8, maxLocals := 19, code := code, exceptionTable := #[], attributes := #[] }
def k1m1 : Method := { name := "law", desc := "(IJJ)Z", sig := { parameters := [.int, .long, .long], returnType := some .boolean }, accessFlags := 9, code := some k1c1 }
def k1c2 : Code := { maxStack := 4, maxLocals := 7, code := method_3_code, exceptionTable := #[], attributes := #[] }
def k1m2 : Method := { name := "draw", desc := "([BJJI)B", sig := { parameters := [(.array .byte), .long, .long, .int], returnType := some .byte }, accessFlags := 10, code := some k1c2 }
def k1c3 : Code := { maxStack := 2, maxLocals := 4, code := method_4_code, exceptionTable := #[], attributes := #[] }
def k1m3 : Method := { name := "ws", desc := "([BII)Z", sig := { parameters := [(.array .byte), .int, .int], returnType := some .boolean }, accessFlags := 10, code := some k1c3 }
def k1c4 : Code := { maxStack := 2, maxLocals := 3, code := method_5_code, exceptionTable := #[], attributes := #[] }
def k1m4 : Method := { name := "lt", desc := "([BII)Z", sig := { parameters := [(.array .byte), .int, .int], returnType := some .boolean }, accessFlags := 10, code := some k1c4 }
/-- spinecode/xml/XmlInputRecognisesPinLaw -/
def k1 : Class := { plain "spinecode/xml/XmlInputRecognisesPinLaw" (some 0) with
  accessFlags := 49
  interfaces := #[]
  cf := some (fileOf pool1 8 #[] #[{ accessFlags := 1, nameIndex := 5, descriptorIndex := 6, attributes := #[] }, { accessFlags := 9, nameIndex := 30, descriptorIndex := 31, attributes := #[] }, { accessFlags := 10, nameIndex := 11, descriptorIndex := 12, attributes := #[] }, { accessFlags := 10, nameIndex := 19, descriptorIndex := 16, attributes := #[] }, { accessFlags := 10, nameIndex := 15, descriptorIndex := 16, attributes := #[] }] 49 2 #[] #[])
  fields := #[]
  methods := #[k1m0, k1m1, k1m2, k1m3, k1m4]
  instanceTypes := #[]
  staticTypes := #[]
  resolved := Array.replicate 37 none
  statics := none }

def pool2 : Array CpInfo := pool [(2, .class_ 4), (1, u "java/lang/Object"), (0, u "<init>"), (0, u "()V"), (0, .methodref 8 9), (0, .class_ 10), (0, .nameAndType 11 12), (0, u "spinecode/xml/XmlInput"), (0, u "hasUtf16Mark"), (0, u "([B)Z"), (0, .fieldref 8 14), (0, .nameAndType 15 16), (0, u "UTF_8_MARK"), (0, u "[B"), (0, .methodref 8 18), (0, .nameAndType 19 20), (0, u "startsWith"), (0, u "([B[B)Z"), (0, .methodref 8 22), (0, .nameAndType 23 24), (0, u "isWhiteSpace"), (0, u "(C)Z"), (45, u "reserve"), (3, .class_ 75), (0, u "spinecode/xml/XmlInput$MemoryBoundReader"), (4, .class_ 81), (0, u "spinecode/xml/XmlInput$DecodedText"), (68, .class_ 151), (0, u "spinecode/xml/XmlInput$UndecodableBytesException"), (55, .class_ 209), (1, u "spinecode/xml/XmlInput$Step"), (70, u "DECLARATION"), (0, u "Ljava/util/regex/Pattern;"), (13, u "ENCODING"), (19, .fieldref 8 316), (0, .nameAndType 317 16), (0, u "UTF_16_BIG_ENDIAN_MARK"), (0, .fieldref 8 319), (0, .nameAndType 320 16), (0, u "UTF_16_LITTLE_ENDIAN_MARK"), (9, u "HEAD_LENGTH"), (0, u "I"), (2, u "MAX_TEXT_LENGTH"), (1, u "IGNORE_EXTERNAL_DTD"), (0, u "Ljava/lang/String;"), (0, u "LOCATED_MESSAGE"), (0, u "OUT_OF_MEMORY"), (2, u "recognises")] 68

def k2m0 : Method := { name := "<init>", desc := "()V", sig := { parameters := [], returnType := none }, accessFlags := 2, code := none }
def k2c1 : Code := { maxStack := 2, maxLocals := 2, code := prog_40_method_2_code, exceptionTable := #[], attributes := #[] }
def k2m1 : Method := { name := "recognises", desc := "([B)Z", sig := { parameters := [(.array .byte)], returnType := some .boolean }, accessFlags := 9, code := some k2c1 }
def k2c2 : Code := { maxStack := 2, maxLocals := 1, code := prog_40_method_16_code, exceptionTable := #[], attributes := #[] }
def k2m2 : Method := { name := "hasUtf16Mark", desc := "([B)Z", sig := { parameters := [(.array .byte)], returnType := some .boolean }, accessFlags := 10, code := some k2c2 }
def k2c3 : Code := { maxStack := 3, maxLocals := 3, code := prog_40_method_17_code, exceptionTable := #[], attributes := #[] }
def k2m3 : Method := { name := "startsWith", desc := "([B[B)Z", sig := { parameters := [(.array .byte), (.array .byte)], returnType := some .boolean }, accessFlags := 10, code := some k2c3 }
def k2c4 : Code := { maxStack := 2, maxLocals := 1, code := prog_40_method_18_code, exceptionTable := #[], attributes := #[] }
def k2m4 : Method := { name := "isWhiteSpace", desc := "(C)Z", sig := { parameters := [.char], returnType := some .boolean }, accessFlags := 10, code := some k2c4 }
/-- spinecode/xml/XmlInput -/
def k2 : Class := { plain "spinecode/xml/XmlInput" (some 0) with
  accessFlags := 49
  interfaces := #[]
  cf := some (fileOf pool2 8 #[.nestMembers #[80, 150, 74, 207]] #[{ accessFlags := 2, nameIndex := 5, descriptorIndex := 6, attributes := #[] }, { accessFlags := 9, nameIndex := 342, descriptorIndex := 12, attributes := #[] }, { accessFlags := 10, nameIndex := 11, descriptorIndex := 12, attributes := #[] }, { accessFlags := 10, nameIndex := 19, descriptorIndex := 20, attributes := #[] }, { accessFlags := 10, nameIndex := 23, descriptorIndex := 24, attributes := #[] }] 49 2 #[] #[{ accessFlags := 25, nameIndex := 330, descriptorIndex := 331, attributes := #[] }, { accessFlags := 25, nameIndex := 334, descriptorIndex := 331, attributes := #[] }, { accessFlags := 26, nameIndex := 15, descriptorIndex := 16, attributes := #[] }, { accessFlags := 26, nameIndex := 317, descriptorIndex := 16, attributes := #[] }, { accessFlags := 26, nameIndex := 320, descriptorIndex := 16, attributes := #[] }, { accessFlags := 26, nameIndex := 280, descriptorIndex := 281, attributes := #[] }, { accessFlags := 26, nameIndex := 295, descriptorIndex := 281, attributes := #[] }, { accessFlags := 26, nameIndex := 336, descriptorIndex := 337, attributes := #[] }, { accessFlags := 26, nameIndex := 338, descriptorIndex := 337, attributes := #[] }, { accessFlags := 26, nameIndex := 339, descriptorIndex := 337, attributes := #[] }, { accessFlags := 74, nameIndex := 70, descriptorIndex := 16, attributes := #[] }])
  fields := #[{ name := "HEAD_LENGTH", type := .int, accessFlags := 25, slot := 0, constantValue := 0 }, { name := "MAX_TEXT_LENGTH", type := .int, accessFlags := 25, slot := 1, constantValue := 0 }, { name := "UTF_8_MARK", type := (.array .byte), accessFlags := 26, slot := 2, constantValue := 0 }, { name := "UTF_16_BIG_ENDIAN_MARK", type := (.array .byte), accessFlags := 26, slot := 3, constantValue := 0 }, { name := "UTF_16_LITTLE_ENDIAN_MARK", type := (.array .byte), accessFlags := 26, slot := 4, constantValue := 0 }, { name := "DECLARATION", type := (.object "java/util/regex/Pattern"), accessFlags := 26, slot := 5, constantValue := 0 }, { name := "ENCODING", type := (.object "java/util/regex/Pattern"), accessFlags := 26, slot := 6, constantValue := 0 }, { name := "IGNORE_EXTERNAL_DTD", type := (.object "java/lang/String"), accessFlags := 26, slot := 7, constantValue := 0 }, { name := "LOCATED_MESSAGE", type := (.object "java/lang/String"), accessFlags := 26, slot := 8, constantValue := 0 }, { name := "OUT_OF_MEMORY", type := (.object "java/lang/String"), accessFlags := 26, slot := 9, constantValue := 0 }, { name := "reserve", type := (.array .byte), accessFlags := 74, slot := 10, constantValue := 0 }]
  methods := #[k2m0, k2m1, k2m2, k2m3, k2m4]
  instanceTypes := #[]
  staticTypes := #[.int, .int, (.array .byte), (.array .byte), (.array .byte), (.object "java/util/regex/Pattern"), (.object "java/util/regex/Pattern"), (.object "java/lang/String"), (.object "java/lang/String"), (.object "java/lang/String"), (.array .byte)]
  resolved := Array.replicate 411 none
  statics := some 0 }

def pool3 : Array CpInfo := pool [(1, u "java/lang/Cloneable"), (0, .class_ 1), (0, u "java/lang/Object"), (0, .class_ 3)] 3

/-- java/lang/Cloneable -/
def k3 : Class := { plain "java/lang/Cloneable" (some 0) with
  accessFlags := 1537
  interfaces := #[]
  cf := some (fileOf pool3 2 #[] #[] 1537 4 #[] #[])
  fields := #[]
  methods := #[]
  instanceTypes := #[]
  staticTypes := #[]
  resolved := Array.replicate 8 none
  statics := none }

def pool4 : Array CpInfo := pool [(1, u "java/io/Serializable"), (0, .class_ 1), (0, u "java/lang/Object"), (0, .class_ 3)] 3

/-- java/io/Serializable -/
def k4 : Class := { plain "java/io/Serializable" (some 0) with
  accessFlags := 1537
  interfaces := #[]
  cf := some (fileOf pool4 2 #[] #[] 1537 4 #[] #[])
  fields := #[]
  methods := #[]
  instanceTypes := #[]
  staticTypes := #[]
  resolved := Array.replicate 8 none
  statics := none }

/-- the primitive byte -/
def k5 : Class := { plain "byte" none with kind := .primitive 'B', accessFlags := 0x411 }
/-- [B -/
def k6 : Class := { plain "[B" (some 0) with kind := .array 5 .byte, interfaces := #[3, 4], accessFlags := 1041 }

/-- the primitive int -/
def k7 : Class := { plain "int" none with kind := .primitive 'I', accessFlags := 0x411 }
/-- [I -/
def k8 : Class := { plain "[I" (some 0) with kind := .array 7 .int, interfaces := #[3, 4], accessFlags := 1041 }

def heap : Heap := #[{ cls := 2, slots := #[.int 0, .int 0, .ref 3, .ref 1, .ref 2, .null, .null, .null, .null, .null, .null], vm := .statics 2 },
  { cls := 6, slots := #[.int (-2), .int (-1)], vm := .none },
  { cls := 6, slots := #[.int (-1), .int (-2)], vm := .none },
  { cls := 6, slots := #[.int (-17), .int (-69), .int (-65)], vm := .none }]
def classes : Array Class := #[k0, k1, k2, k3, k4, k5, k6, k7, k8]
def interned : List (Array UInt16 × Addr) := []
def slotsUsed : Nat := 18
def theMethod : MethodId := ⟨1, 1⟩
def args0 : Array Value := #[.int 3, .long 0, .long 0]
def aboutOver (below : List Frame) : State where
  vm := { classes := classes, interned := interned.toArray }
  heap := heap
  slotsUsed := slotsUsed
  threads := #[{ frames := .invoking theMethod args0 :: below }]
def below0 : List Frame := [.native { method := ⟨0, 0⟩, args := #[] }]
def about1 : State := aboutOver below0
def p0 : Program := .bare "" "" ""
def e0 : Env := launch0.env 0 0 0
theorem w_frames : about1.frames = Frame.invoking theMethod args0 :: below0 := rfl
set_option maxRecDepth 65536 in
theorem w_args : argsFit about1.vm theMethod args0 = true := by decide +kernel
set_option maxRecDepth 65536 in
theorem w_heap : heapFits about1 = true := by decide +kernel
set_option maxRecDepth 65536 in
theorem w_runnable : about1.curStatus? = some .runnable := by decide +kernel
set_option maxRecDepth 65536 in
theorem w_alone : about1.alone = true := by decide +kernel
set_option maxRecDepth 65536 in
theorem w_named : about1.methodNamed? x = some theMethod := by decide +kernel
set_option maxRecDepth 65536 in
theorem w_hears : about1.hears theMethod below0 = true := by decide +kernel
set_option maxRecDepth 65536 in
theorem w_ripe : about1.ripe theMethod args0 below0 = true := by decide +kernel
theorem w_running : about1.status = .running := rfl
set_option maxRecDepth 65536 in
theorem w_room : about1.hasRoom e0.platform room_1 = true :=
  launch0.hasRoom_least _ room_1 (by decide +kernel) (by decide +kernel) (by decide +kernel) (by decide +kernel) (by decide +kernel) (by decide +kernel)
theorem allAtoms_all (ts : List Jvm.Cond) (a : Array Jvm.Value) (st : Jvm.State) : (allAtoms ts).before a st = ts.all (fun c => c.before a st) := by
  induction ts with
  | nil => rfl
  | cons c t ih =>
    show (Jvm.Cond.and c (allAtoms t)).before a st = _
    rw [Jvm.Cond.before_and, ih, List.all_cons]
def words1 : List Jvm.Cond := Jvm.Cond.code x code maxLocals ret :: tables_1
/-- a 'code' word, met by the world's own term for the bytes: nothing is compared byte by byte -/
theorem code_word {y : MethodName} {bytes : ByteArray} {mx : Nat} {rt : Option FieldType} {a : Array Value} {s : State} {m : MethodId} {meth : Method} {c : Code} (h1 : s.methodNamed? y = some m) (h2 : s.vm.method? m = some meth) (h3 : meth.code = some c) (h4 : c.code = bytes)
    (h5 : (c.maxLocals == mx && c.exceptionTable.isEmpty && decide (c.maxStack ≤ mostOperands) && decide (meth.sig.returnType = rt) && !meth.locks && decide (parseMethodDescriptor y.desc = some meth.sig)) = true) : (Jvm.Cond.code y bytes mx rt).before a s = true := by
  simp only [Bool.and_eq_true, beq_iff_eq, Bool.not_eq_true', decide_eq_true_eq] at h5
  obtain ⟨⟨⟨⟨⟨g1, g2⟩, g3⟩, g4⟩, g5⟩, g6⟩ := h5
  simp [Cond.before, Cond.holds, Cond.value, h1, h2, h3, h4, g1, g2, g3, g4, g5, g6]
def isCode : Jvm.Cond → Bool
  | .code _ _ _ _ => true
  | _ => false
theorem all_split {L : List Jvm.Cond} {P : Jvm.Cond → Bool} (h1 : L.all (fun c => isCode c || P c) = true) (h2 : ∀ c ∈ L.filter isCode, P c = true) : L.all P = true := by
  refine List.all_eq_true.mpr fun c hc => ?_
  have h := List.all_eq_true.mp h1 c hc
  rcases Bool.eq_false_or_eq_true (isCode c) with hi | hi
  · exact h2 c (List.mem_filter.mpr ⟨hc, hi⟩)
  · simpa [hi] using h
set_option maxRecDepth 65536 in
theorem w_c0 : (Jvm.Cond.code x code maxLocals ret).before args0 about1 = true := code_word (m := ⟨1, 1⟩) (meth := k1m1) (c := k1c1) (by decide +kernel) rfl rfl rfl (by decide +kernel)
set_option maxRecDepth 65536 in
theorem w_c1 : (Jvm.Cond.code ({ cls := "spinecode/xml/XmlInputRecognisesPinLaw", name := "draw", desc := "([BJJI)B" } : Jvm.MethodName) method_3_code (7 : Nat) (Option.some Jvm.ClassFile.FieldType.byte)).before args0 about1 = true := code_word (m := ⟨1, 2⟩) (meth := k1m2) (c := k1c2) (by decide +kernel) rfl rfl rfl (by decide +kernel)
set_option maxRecDepth 65536 in
theorem w_c2 : (Jvm.Cond.code ({ cls := "spinecode/xml/XmlInputRecognisesPinLaw", name := "lt", desc := "([BII)Z" } : Jvm.MethodName) method_5_code (3 : Nat) (Option.some Jvm.ClassFile.FieldType.boolean)).before args0 about1 = true := code_word (m := ⟨1, 4⟩) (meth := k1m4) (c := k1c4) (by decide +kernel) rfl rfl rfl (by decide +kernel)
set_option maxRecDepth 65536 in
theorem w_c3 : (Jvm.Cond.code ({ cls := "spinecode/xml/XmlInputRecognisesPinLaw", name := "ws", desc := "([BII)Z" } : Jvm.MethodName) method_4_code (4 : Nat) (Option.some Jvm.ClassFile.FieldType.boolean)).before args0 about1 = true := code_word (m := ⟨1, 3⟩) (meth := k1m3) (c := k1c3) (by decide +kernel) rfl rfl rfl (by decide +kernel)
set_option maxRecDepth 65536 in
theorem w_c4 : (Jvm.Cond.code ({ cls := "spinecode/xml/XmlInput", name := "recognises", desc := "([B)Z" } : Jvm.MethodName) prog_40_method_2_code (2 : Nat) (Option.some Jvm.ClassFile.FieldType.boolean)).before args0 about1 = true := code_word (m := ⟨2, 1⟩) (meth := k2m1) (c := k2c1) (by decide +kernel) rfl rfl rfl (by decide +kernel)
set_option maxRecDepth 65536 in
theorem w_c5 : (Jvm.Cond.code ({ cls := "spinecode/xml/XmlInput", name := "hasUtf16Mark", desc := "([B)Z" } : Jvm.MethodName) prog_40_method_16_code (1 : Nat) (Option.some Jvm.ClassFile.FieldType.boolean)).before args0 about1 = true := code_word (m := ⟨2, 2⟩) (meth := k2m2) (c := k2c2) (by decide +kernel) rfl rfl rfl (by decide +kernel)
set_option maxRecDepth 65536 in
theorem w_c6 : (Jvm.Cond.code ({ cls := "spinecode/xml/XmlInput", name := "startsWith", desc := "([B[B)Z" } : Jvm.MethodName) prog_40_method_17_code (3 : Nat) (Option.some Jvm.ClassFile.FieldType.boolean)).before args0 about1 = true := code_word (m := ⟨2, 3⟩) (meth := k2m3) (c := k2c3) (by decide +kernel) rfl rfl rfl (by decide +kernel)
set_option maxRecDepth 65536 in
theorem w_c7 : (Jvm.Cond.code ({ cls := "spinecode/xml/XmlInput", name := "isWhiteSpace", desc := "(C)Z" } : Jvm.MethodName) prog_40_method_18_code (1 : Nat) (Option.some Jvm.ClassFile.FieldType.boolean)).before args0 about1 = true := code_word (m := ⟨2, 4⟩) (meth := k2m4) (c := k2c4) (by decide +kernel) rfl rfl rfl (by decide +kernel)
def codes1 : List Jvm.Cond := [Jvm.Cond.code x code maxLocals ret, Jvm.Cond.code ({ cls := "spinecode/xml/XmlInputRecognisesPinLaw", name := "draw", desc := "([BJJI)B" } : Jvm.MethodName) method_3_code (7 : Nat) (Option.some Jvm.ClassFile.FieldType.byte), Jvm.Cond.code ({ cls := "spinecode/xml/XmlInputRecognisesPinLaw", name := "lt", desc := "([BII)Z" } : Jvm.MethodName) method_5_code (3 : Nat) (Option.some Jvm.ClassFile.FieldType.boolean), Jvm.Cond.code ({ cls := "spinecode/xml/XmlInputRecognisesPinLaw", name := "ws", desc := "([BII)Z" } : Jvm.MethodName) method_4_code (4 : Nat) (Option.some Jvm.ClassFile.FieldType.boolean), Jvm.Cond.code ({ cls := "spinecode/xml/XmlInput", name := "recognises", desc := "([B)Z" } : Jvm.MethodName) prog_40_method_2_code (2 : Nat) (Option.some Jvm.ClassFile.FieldType.boolean), Jvm.Cond.code ({ cls := "spinecode/xml/XmlInput", name := "hasUtf16Mark", desc := "([B)Z" } : Jvm.MethodName) prog_40_method_16_code (1 : Nat) (Option.some Jvm.ClassFile.FieldType.boolean), Jvm.Cond.code ({ cls := "spinecode/xml/XmlInput", name := "startsWith", desc := "([B[B)Z" } : Jvm.MethodName) prog_40_method_17_code (3 : Nat) (Option.some Jvm.ClassFile.FieldType.boolean), Jvm.Cond.code ({ cls := "spinecode/xml/XmlInput", name := "isWhiteSpace", desc := "(C)Z" } : Jvm.MethodName) prog_40_method_18_code (1 : Nat) (Option.some Jvm.ClassFile.FieldType.boolean)]
set_option maxRecDepth 65536 in
theorem codes_eq : words1.filter isCode = codes1 := rfl
theorem w_codes : ∀ c ∈ words1.filter isCode, c.before args0 about1 = true := by
  rw [codes_eq]
  intro c hc
  simp only [codes1, List.mem_cons, List.not_mem_nil, or_false] at hc
  rcases hc with rfl | rfl | rfl | rfl | rfl | rfl | rfl | rfl
  · exact w_c0
  · exact w_c1
  · exact w_c2
  · exact w_c3
  · exact w_c4
  · exact w_c5
  · exact w_c6
  · exact w_c7
set_option maxRecDepth 65536 in
theorem w_t1 : (words1.take 24).all (fun c => isCode c || c.before args0 about1) = true := by decide +kernel
set_option maxRecDepth 65536 in
theorem w_t2 : (words1.drop 24).all (fun c => isCode c || c.before args0 about1) = true := by decide +kernel
theorem w_tables : (allAtoms (Jvm.Cond.code x code maxLocals ret :: tables_1)).before args0 about1 = true := by
  rw [allAtoms_all]
  show words1.all (fun c => c.before args0 about1) = true
  refine all_split ?_ w_codes
  rw [← List.take_append_drop 24 words1, List.all_append, w_t1, w_t2]
  rfl
set_option maxRecDepth 65536 in
theorem w_case : (Jvm.Cond.and given_1 narrow_1).before args0 about1 = true := by decide +kernel
theorem w_applies : (headSpec (Jvm.Cond.code x code maxLocals ret :: tables_1) room_1).applies x e0.platform about1 = true :=
  (Spec.applies_iff w_frames).mpr ⟨w_running, w_runnable, w_alone, w_named, w_hears, w_ripe, w_room, w_tables⟩
theorem atStart : AtStart classFile x code maxLocals ret World_1 tables_1 room_1 Calls_1 rest_1 Pre_1 launch0 p0 e0 about1 theMethod args0 below0 :=
  ⟨lists_1, trivial, launch0.admits_env _ _ _, launch0.least_env, fairChoices_fair.cas, fairChoices_fair.clock, w_frames, w_args, w_heap, w_applies, trivial, trivial, w_case⟩
end start1
theorem witness_1 : WitnessClaimed_1 := ⟨start1.p0, start1.e0, start1.about1, start1.theMethod, start1.args0, start1.below0, start1.atStart⟩
end Jvm.Pilot.@@N@@
