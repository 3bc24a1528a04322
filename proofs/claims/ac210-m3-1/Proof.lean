import JvmDerived
import JvmDerived.Pilot.@@N@@Statement
import JvmDerived.Pilot.@@N@@Code
set_option linter.unusedVariables false
set_option linter.unusedSimpArgs false
namespace Jvm.RoadKit
open Sem ClassFile Op Lib Jvm.Stand Jvm.Free Jvm.LawKit
section Own
variable {p : Program} {l : Launch} {e : Env} {R : Room} {s : State} {m : MethodId} {args : Array Value} {below : List Frame} {meth : Method} {c : Code} {T T' : State} {locs : List Loc} {cells slots : Nat} {CC SS : Nat} {Q : Option Value → Heap → List Loc → Prop} {g g' : JFrame}
/-- from the frame g over T the run returns, and what it leaves is as Q says -/
def Done (p : Program) (e : Env) (s : State) (below : List Frame) (CC SS : Nat) (Q : Option Value → Heap → List Loc → Prop) (T : State) (g : JFrame) : Prop :=
  ∃ s₂ o, Steps p.tables e below (T.setTop g) s₂ ∧ s₂.status = .running ∧ Ended s₂ below o ∧ ∃ v L, o = .returned v ∧ Q v s₂.heap L ∧ FrameEnd s o s₂ L CC SS
theorem Done.go (st : ∀ t, Steps p.tables e below (T'.setTop g') t → Steps p.tables e below (T.setTop g) t) (k : Done p e s below CC SS Q T' g') : Done p e s below CC SS Q T g := by
  obtain ⟨s2, o, h, r⟩ := k; exact ⟨s2, o, st _ h, r⟩
theorem Done.via (st : Steps p.tables e below (T.setTop g) (T'.setTop g')) (k : Done p e s below CC SS Q T' g') : Done p e s below CC SS Q T g := by
  obtain ⟨s2, o, h, r⟩ := k; exact ⟨s2, o, st.trans h, r⟩
theorem Done.ret (X : Stand p l e R s m args below meth c T locs cells slots) (hlk : meth.locks = false) {v : Option Value} (hv : meth.sig.returnType = none → v = none)
    (st : ∀ fs : List Frame, (∀ (f : JFrame) (acts : List Action), f.method = m → f.locked = none → f.entered = [] → (doReturn e (T.setTop f) acts v).1 = T.setFrames fs) → Steps p.tables e below (T.setTop g) (T.setFrames fs))
    (hq : Q v T.heap locs) (hc : cells ≤ CC) (hs : slots ≤ SS) : Done p e s below CC SS Q T g := by
  obtain ⟨fs, hr, hrun, hended, hW, hsame⟩ := X.leave (v := v) hv hlk
  exact ⟨_, _, st fs hr, hrun, hended, _, _, rfl, hq, ⟨_, rfl⟩, hW, hsame.mono hc hs⟩
theorem Done.retI (X : Stand p l e R s m args below meth c T locs cells slots) (hx : p.tables.exec = Jvm.exec) (hlk : meth.locks = false) {pc : Nat} {Ls : Array Slot} {z : Int32} {rest : List Value} (hret : meth.sig.returnType = some .int) (hd : decode c.code pc = .ok (.ireturn, 1))
    (hq : Q (some (.int z)) T.heap locs) (hc : cells ≤ CC) (hs : slots ≤ SS) : Done p e s below CC SS Q T (mkF m pc Ls (.int z :: rest)) := by
  refine Done.ret X hlk (fun h => by rw [hret] at h; cases h) (fun fs hl => ?_) hq hc hs
  have hm' : T.vm.method? m = some meth := X.method'
  have hn : narrow .int (.int z) = .int z := rfl
  show Steps p.tables e below (T.setTop { method := m, pc := pc, locals := Ls, stack := _ :: rest, locked := none }) _
  jvm_step X.here [X.here.top, hx, hd, hm', hret, hn]
  first | (intro acts; rw [hl _ acts rfl rfl rfl]) | rw [hl _ _ rfl rfl rfl]
  exact Steps.refl _
theorem Done.retJ (X : Stand p l e R s m args below meth c T locs cells slots) (hx : p.tables.exec = Jvm.exec) (hlk : meth.locks = false) {pc : Nat} {Ls : Array Slot} {z : Int64} {rest : List Value} (hret : meth.sig.returnType = some .long) (hd : decode c.code pc = .ok (.lreturn, 1))
    (hq : Q (some (.long z)) T.heap locs) (hc : cells ≤ CC) (hs : slots ≤ SS) : Done p e s below CC SS Q T (mkF m pc Ls (.long z :: rest)) := by
  refine Done.ret X hlk (fun h => by rw [hret] at h; cases h) (fun fs hl => ?_) hq hc hs
  have hm' : T.vm.method? m = some meth := X.method'
  show Steps p.tables e below (T.setTop { method := m, pc := pc, locals := Ls, stack := _ :: rest, locked := none }) _
  jvm_step X.here [X.here.top, hx, hd, hm', hret]
  first | (intro acts; rw [hl _ acts rfl rfl rfl]) | rw [hl _ _ rfl rfl rfl]
  exact Steps.refl _
theorem Done.retR (X : Stand p l e R s m args below meth c T locs cells slots) (hx : p.tables.exec = Jvm.exec) (hlk : meth.locks = false) {pc : Nat} {Ls : Array Slot} {v : Value} {t : FieldType} {rest : List Value} (hret : meth.sig.returnType = some t) (ht : t.isReference = true) (hv : v.isRef = true) (hd : decode c.code pc = .ok (.areturn, 1))
    (hq : Q (some v) T.heap locs) (hc : cells ≤ CC) (hs : slots ≤ SS) : Done p e s below CC SS Q T (mkF m pc Ls (v :: rest)) := by
  refine Done.ret X hlk (fun h => by rw [hret] at h; cases h) (fun fs hl => ?_) hq hc hs
  have hm' : T.vm.method? m = some meth := X.method'
  show Steps p.tables e below (T.setTop { method := m, pc := pc, locals := Ls, stack := _ :: rest, locked := none }) _
  jvm_step X.here [X.here.top, hx, hd, hm', hret, ht, hv]
  first | (intro acts; rw [hl _ acts rfl rfl rfl]) | rw [hl _ _ rfl rfl rfl]
  exact Steps.refl _
theorem Done.retV (X : Stand p l e R s m args below meth c T locs cells slots) (hx : p.tables.exec = Jvm.exec) (hlk : meth.locks = false) {pc : Nat} {Ls : Array Slot} (hret : meth.sig.returnType = none) (hd : decode c.code pc = .ok (.return_, 1))
    (hq : Q none T.heap locs) (hc : cells ≤ CC) (hs : slots ≤ SS) : Done p e s below CC SS Q T (mkF m pc Ls []) :=
  Done.ret X hlk (fun _ => rfl) (fun fs hl => X.returnOut hx hret hd hl) hq hc hs
theorem Done.retN (X : Stand p l e R s m args below meth c T locs cells slots) (hx : p.tables.exec = Jvm.exec) (hlk : meth.locks = false) {pc : Nat} {Ls : Array Slot} {z z' : Int32} {t : FieldType} {rest : List Value} (hret : meth.sig.returnType = some t) (ht : t = .boolean ∨ t = .byte ∨ t = .char ∨ t = .short) (hz : nar t z = z')
    (hd : decode c.code pc = .ok (.ireturn, 1)) (hq : Q (some (.int z')) T.heap locs) (hc : cells ≤ CC) (hs : slots ≤ SS) : Done p e s below CC SS Q T (mkF m pc Ls (.int z :: rest)) := by
  subst hz
  exact Done.ret X hlk (fun h => by rw [hret] at h; cases h) (fun fs hl => Jvm.RoadKit.retN X hx hret ht hd hl) hq hc hs
theorem own_backG {rc rs : Nat} {rest : List Value} {Q0 : Option Value → Heap → List Loc → Prop} (h : ∃ (v : Option Value) (vm₁ : Vm) (B : Pt), s.WarmedH vm₁ ∧ Stand p l e R s m args below meth c B.U B.locs B.cells B.slots ∧ (∃ L, Q0 v B.U.heap L ∧ B.locs = locs ++ L ∧ B.cells = cells + rc ∧ B.slots = slots + rs) ∧
      ∀ target, Steps p.tables e below (B.U.setTop { g with pc := g.pc + 3, stack := v.toList ++ rest }) target → Steps p.tables e below (T.setTop g) target) :
    ∃ v T' Lc, Stand p l e R s m args below meth c T' (locs ++ Lc) (cells + rc) (slots + rs) ∧ Q0 v T'.heap Lc ∧ ∀ target, Steps p.tables e below (T'.setTop { g with pc := g.pc + 3, stack := v.toList ++ rest }) target → Steps p.tables e below (T.setTop g) target := by
  obtain ⟨v, vm, ⟨U, L, k, n⟩, -, X, ⟨Lc, hQ, rfl, rfl, rfl⟩, st⟩ := h
  exact ⟨v, U, Lc, X, hQ, st⟩
theorem own_backV {rc rs : Nat} {rest : List Value} {Q0 : Option Value → Heap → List Loc → Prop} (h : ∃ (v : Option Value) (vm₁ : Vm) (B : Pt), s.WarmedH vm₁ ∧ Stand p l e R s m args below meth c B.U B.locs B.cells B.slots ∧ (∃ L, Q0 v B.U.heap L ∧ B.locs = locs ++ L ∧ B.cells = cells + rc ∧ B.slots = slots + rs) ∧
      Steps p.tables e below (T.setTop g) (B.U.setTop { g with pc := g.pc + 3, stack := v.toList ++ rest })) :
    ∃ v T' Lc, Stand p l e R s m args below meth c T' (locs ++ Lc) (cells + rc) (slots + rs) ∧ Q0 v T'.heap Lc ∧ ∀ target, Steps p.tables e below (T'.setTop { g with pc := g.pc + 3, stack := v.toList ++ rest }) target → Steps p.tables e below (T.setTop g) target := by
  obtain ⟨v, vm, ⟨U, L, k, n⟩, -, X, ⟨Lc, hQ, rfl, rfl, rfl⟩, st⟩ := h
  exact ⟨v, U, Lc, X, hQ, fun _ k => st.trans k⟩
theorem own_backI {rc rs : Nat} {rest : List Value} {Q0 : Option Value → Heap → List Loc → Prop} (h : ∃ (v : Option Value) (vm₁ : Vm) (B : Pt), s.WarmedH vm₁ ∧ Stand p l e R s m args below meth c B.U B.locs B.cells B.slots ∧ (∃ L, Q0 v B.U.heap L ∧ B.locs = locs ++ L ∧ B.cells = cells + rc ∧ B.slots = slots + rs) ∧
      Steps p.tables e below (T.setTop g) (B.U.setTop { g with pc := g.pc + 5, stack := v.toList ++ rest })) :
    ∃ v T' Lc, Stand p l e R s m args below meth c T' (locs ++ Lc) (cells + rc) (slots + rs) ∧ Q0 v T'.heap Lc ∧ ∀ target, Steps p.tables e below (T'.setTop { g with pc := g.pc + 5, stack := v.toList ++ rest }) target → Steps p.tables e below (T.setTop g) target := by
  obtain ⟨v, vm, ⟨U, L, k, n⟩, -, X, ⟨Lc, hQ, rfl, rfl, rfl⟩, st⟩ := h
  exact ⟨v, U, Lc, X, hQ, fun _ k => st.trans k⟩
theorem own_narB (x : Int32) : nar .byte x.toInt8.toInt32 = x.toInt8.toInt32 := by simp [nar]
end Own
end Jvm.RoadKit
namespace Jvm.RoadKit
open Sem ClassFile Op Lib Jvm.Stand Jvm.Free Jvm.LawKit
section OwnA
variable {p : Program} {l : Launch} {e : Env} {R : Room} {s : State} {m : MethodId} {args : Array Value} {below : List Frame} {meth : Method} {c : Code} {T T' : State} {locs : List Loc} {cells slots : Nat} {CC SS : Nat} {Q : Option Value → Heap → List Loc → Prop} {g g' : JFrame} {Z : State} {h h' : Heap} {a b : Addr} {ty : FieldType} {n : Nat} {f f' : Nat → Int32} {ws : List Addr} {sl : Nat} {v : Value}
/-- an array of n places at a; place i holds f i -/
def Ari (Z : State) (h : Heap) (a : Addr) (ty : FieldType) (n : Nat) (f : Nat → Int32) : Prop := ∃ cl : Cell, Arr Z h a cl ty ∧ cl.slots.size = n ∧ n < 2 ^ 31 ∧ ∀ i, i < n → cl.slots[i]? = some (.int (f i))
theorem Ari.lt (F : Ari Z h a ty n f) : a < h.size := by obtain ⟨_, A, -⟩ := F; exact A.lt
theorem Ari.ext (F : Ari Z h a ty n f) (E : Ext h h') : Ari Z h' a ty n f := by obtain ⟨cl, A, r⟩ := F; exact ⟨cl, A.ext E, r⟩
theorem Ari.other (F : Ari Z h b ty n f) (W : Wr h h' a sl v) (q : b ≠ a) : Ari Z h' b ty n f := by obtain ⟨cl, A, r⟩ := F; exact ⟨cl, A.other W q, r⟩
theorem Ari.keep (F : Ari Z h a ty n f) (K : Keep h h' ws) (q : a ∉ ws) : Ari Z h' a ty n f := by obtain ⟨cl, A, r⟩ := F; exact ⟨cl, ⟨K.2.1 a cl A.1 q, A.2⟩, r⟩
theorem Ari.congr (F : Ari Z h a ty n f) (q : ∀ i, i < n → f i = f' i) : Ari Z h a ty n f' := by obtain ⟨cl, A, r1, r2, r⟩ := F; exact ⟨cl, A, r1, r2, fun i hi => by rw [r i hi, q i hi]⟩
theorem Ari.small (F : Ari Z h a ty n f) : n < 2 ^ 31 := by obtain ⟨_, _, _, r, _⟩ := F; exact r
theorem Ari.set {j : Nat} {w : Int32} (F : Ari Z h a ty n f) (W : Wr h h' a j (.int w)) : Ari Z h' a ty n (fun i => if i = j then w else f i) := by
  obtain ⟨cl, A, r1, r2, r⟩ := F
  refine ⟨_, A.same W, by rw [sz_set]; exact r1, r2, fun i hi => ?_⟩
  by_cases u : i = j
  · subst u; simp [Cell.setSlot, r1, hi]
  · have := r i hi; simp only [Cell.setSlot, if_neg u]; rw [Array.getElem?_setIfInBounds_ne (Ne.symm u)]; exact this
theorem Ari.new {k : ClassId} {z : Int32} (A : Arr Z h a (newA k ty z) ty) (q : ¬ z < 0) (hz : z.toNatClampNeg = n) (hd : defaultValue ty = .int 0) : Ari Z h a ty n (fun _ => 0) :=
  ⟨_, A, by rw [sz_new, hz], by have := (back32 q).2; rw [hz] at this; exact this, fun i hi => by simp [newA, hz, hi, hd]⟩
theorem Ari.inb {cl : Cell} {j : Int32} {i : Nat} (hs : cl.slots.size = n) (hj : ¬ j < 0) (hi : j.toNatClampNeg = i) (hn : i < n) : ¬ (j < 0 ∨ cl.slots.size ≤ j.toNatClampNeg) := by
  rintro (q | q)
  · exact hj q
  · rw [hs, hi] at q; omega
theorem own_stB (X : Stand p l e R s m args below meth c T locs cells slots) (hx : p.tables.exec = Jvm.exec) (hZ : Z.Warmed39 s.vm) (eT : T.heap = h) (F : Ari Z h a .byte n f) {j x : Int32} (i : Nat) (hj : ¬ j < 0) (hi : j.toNatClampNeg = i) (hn : i < n) {g : JFrame} (hg : g.method = m) {rest : List Value} (hs : g.stack = .int x :: .int j :: .ref a :: rest) (hd : decode c.code g.pc = .ok (.bastore, 1)) :
    ∃ T' h', Stand p l e R s m args below meth c T' (locs ++ [⟨a, i⟩]) cells slots ∧ T'.heap = h' ∧ Wr h h' a i (.int (nar .byte x)) ∧ Ari Z h' a .byte n (fun k => if k = i then nar .byte x else f k) ∧ ∀ target, Steps p.tables e below (T'.setTop { g with pc := g.pc + 1, stack := rest }) target → Steps p.tables e below (T.setTop g) target := by
  obtain ⟨cl, A, r1, r2, r⟩ := F
  obtain ⟨T', h', X', e', W, st⟩ := stB X hx hZ eT A (j := j) (x := x) (Ari.inb r1 hj hi hn) hg hs hd
  rw [hi] at X' W
  exact ⟨T', h', X', e', W, Ari.set ⟨cl, A, r1, r2, r⟩ W, st⟩
theorem Done.ldB (X : Stand p l e R s m args below meth c T locs cells slots) (hx : p.tables.exec = Jvm.exec) (hZ : Z.Warmed39 s.vm) (eT : T.heap = h) (F : Ari Z h a .byte n f) {j w : Int32} (i : Nat) (hj : ¬ j < 0) (hi : j.toNatClampNeg = i) (hn : i < n) (hw : f i = w) {pc : Nat} {Ls : Array Slot} {rest : List Value} (hd : decode c.code pc = .ok (.baload, 1))
    (k : Done p e s below CC SS Q T (mkF m (pc + 1) Ls (.int w :: rest))) : Done p e s below CC SS Q T (mkF m pc Ls (.int j :: .ref a :: rest)) := by
  obtain ⟨cl, A, r1, r2, r⟩ := F
  refine Done.go (fun t kk => X.baloadBytes hx (j := j) (v := .int w) (by rw [eT]; exact A.1) (State.isArrayOf_alike hZ.alike A.2.1) A.2.2 (Ari.inb r1 hj hi hn) (by rw [hi, ← hw]; exact r i hn) (g := (mkF m pc Ls (.int j :: .ref a :: rest))) rfl rfl hd t kk) k
theorem Done.len (X : Stand p l e R s m args below meth c T locs cells slots) (hx : p.tables.exec = Jvm.exec) (hZ : Z.Warmed39 s.vm) (eT : T.heap = h) (F : Ari Z h a ty n f) {z : Int32} (hz : n.toInt32 = z) {pc : Nat} {Ls : Array Slot} {rest : List Value} (hd : decode c.code pc = .ok (.arraylength, 1))
    (k : Done p e s below CC SS Q T (mkF m (pc + 1) Ls (.int z :: rest))) : Done p e s below CC SS Q T (mkF m pc Ls (.ref a :: rest)) := by
  obtain ⟨cl, A, r1, r2, r⟩ := F
  subst r1 hz
  exact Done.go (fun t kk => X.arraylength hx (by rw [eT]; exact A.1) (State.isArrayOf_alike hZ.alike A.2.1) (g := (mkF m pc Ls (.ref a :: rest))) rfl rfl hd t kk) k
theorem own_nt {a b : Prop} (h : a ↔ b) (q : ¬ a) : ¬ b := fun r => q (h.mpr r)
theorem own_lt32 {x y : Int32} (hx : ¬ x < 0) (hy : ¬ y < 0) : x < y ↔ x.toNatClampNeg < y.toNatClampNeg := by
  have h0 : (0 : Int32).toInt = 0 := rfl
  rw [Int32.lt_iff_toInt_lt, h0] at hx hy
  rw [Int32.lt_iff_toInt_lt]
  simp only [Int32.toNatClampNeg]; omega
theorem own_mask (x m : Int32) (k : Nat) (hk : k ≤ 31) (hm : m.toBitVec.toNat = 2 ^ k - 1) : ¬ (x &&& m) < 0 ∧ (x &&& m).toNatClampNeg < 2 ^ k := by
  have h := c_mask x m k hk hm
  have hp : (0 : Int) < (2 ^ k : Nat) := by exact_mod_cast Nat.two_pow_pos k
  have h1 := Int.emod_nonneg x.toInt (Int.ne_of_gt hp)
  have h2 := Int.emod_lt_of_pos x.toInt hp
  have h0 : (0 : Int32).toInt = 0 := rfl
  rw [Int32.lt_iff_toInt_lt, h0]
  simp only [Int32.toNatClampNeg]
  constructor
  · omega
  · rw [h]; omega
end OwnA
end Jvm.RoadKit
namespace Jvm.RoadKit
open Sem ClassFile Op Lib Jvm.Stand Jvm.Free Jvm.LawKit
section OwnR
variable {p : Program} {l : Launch} {e : Env} {R : Room} {s : State} {m : MethodId} {args : Array Value} {below : List Frame} {meth : Method} {c : Code} {T : State} {locs : List Loc} {cells slots : Nat} {Z : State} {a0 : Array Value} {h : Heap}
/-- an entry that the sheet says is resolved is ready where the walk stands -/
theorem own_ready (X : Stand p l e R s m args below meth c T locs cells slots) (hZ : Z.Warmed39 s.vm) {own R0 n d : String} {index : Nat} (hown : s.vm.findClass own = some m.cls) (w : (Cond.fieldRef own index R0 n d).before a0 Z = true)
    {cf i : Nat} {k : Class} {f : Field} (hf : Z.fieldFound? R0 n d = some (cf, k, i, f)) : T.vm.fieldReady m.cls index cf f := by
  have hT : Z.Warmed39 T.vm := wtrans hZ X.warmed
  have w' := Cond.fieldRef_warmed39 hT w
  have hcur : (Z.setVm T.vm).vm.findClass own = some m.cls := by
    show T.vm.findClass own = some m.cls
    rw [X.warmed.alike.findClass]; exact hown
  obtain ⟨c1, k1, i1, f1, q1, q2⟩ := Cond.fieldRef_spec hcur w'
  obtain ⟨k', q3, -⟩ := State.fieldFound?_setVm (s := Z) hT.alike hf
  cases q3.symm.trans q1
  exact q2
theorem own_getFR (X : Stand p l e R s m args below meth c T locs cells slots) (hx : p.tables.exec = Jvm.exec) (hZ : Z.Warmed39 s.vm) {own R0 n d : String} {index : Nat} (hown : s.vm.findClass own = some m.cls) (w : (Cond.fieldRef own index R0 n d).before a0 Z = true)
    (eT : T.heap = h) {a : Addr} {v : Value} (F : Fld Z h a R0 n d v) {g : JFrame} (hg : g.method = m) {rest : List Value} (hs : g.stack = .ref a :: rest) (hd : decode c.code g.pc = .ok (.getfield index, 3)) (target : State)
    (hr : Steps p.tables e below (T.setTop { g with pc := g.pc + 3, stack := v :: rest }) target) : Steps p.tables e below (T.setTop g) target := by
  obtain ⟨cell, cf, k, i, f, h1, h2, h3, h4, -, -, h7⟩ := F
  have hready := own_ready X hZ hown w h2
  have hcell : T.heap[a]? = some cell := by rw [eT]; exact h1
  subst hg
  jvm_step X.here [hx, hd, getfield.wp_ready (e := e) (s := T) (f := g) X.here.top hready h3 hs hcell h4 h7]
  exact hr
theorem own_putFR (X : Stand p l e R s m args below meth c T locs cells slots) (hx : p.tables.exec = Jvm.exec) (hZ : Z.Warmed39 s.vm) {own O n d C : String} {index kk : Nat} {ty : FieldType} (hown : s.vm.findClass own = some m.cls) (w : (Cond.fieldRef own index O n d).before a0 Z = true)
    (eT : T.heap = h) {a : Addr} {v old : Value} (F : Fld Z h a O n d old) (E : Exa Z h a C) (L : (Cond.lays C O n d).before a0 Z = true) (wi : (Cond.instantiable C kk).before a0 Z = true) (hty : parseFieldDescriptor d = some ty) (hn : narrow ty v = v) (hf : fits ty v = true)
    {g : JFrame} (hg : g.method = m) {rest : List Value} (hs : g.stack = v :: .ref a :: rest) (hd : decode c.code g.pc = .ok (.putfield index, 3)) :
    ∃ T' h', Stand p l e R s m args below meth c T' (locs ++ [⟨a, slotOf Z O n d⟩]) cells slots ∧ T'.heap = h' ∧ Wr h h' a (slotOf Z O n d) v ∧ ∀ target, Steps p.tables e below (T'.setTop { g with pc := g.pc + 3, stack := rest }) target → Steps p.tables e below (T.setTop g) target := by
  obtain ⟨cell, cf, k, i, f, h1, h2, h3, h4, h5, -, h7⟩ := F
  obtain ⟨cell', kc, e1, e2, e3, -⟩ := E
  obtain rfl : cell = cell' := Option.some.inj (h1.symm.trans e1)
  obtain ⟨c1, k1, cf1, kf1, i1, f1, a1, a2, a3, -, a5, -, a7, -⟩ := Cond.lays_spec L
  cases h2.symm.trans a3
  cases e2.symm.trans a1
  obtain ⟨c2, k2, j1, j2, j3, -⟩ := Cond.instantiable_spec wi
  cases e2.symm.trans j1
  cases a2.symm.trans j2
  have ht : f.type = ty := (State.fieldFound?_type h2 hty).2
  have hlt := (Array.getElem?_eq_some_iff.mp h7).1
  have hsl : Z.slotType? cell.cls cell.vm f.slot = some ty := by
    rw [← ht]
    unfold State.slotType?
    rw [a2]
    cases hq : cell.vm <;> first | (rw [hq] at h5; exact Bool.noConfusion h5) | simp [j3, a7]
  have hfz : Z.fitsSlot cell.cls cell.vm f.slot v = true := by simp [State.fitsSlot, hsl, hf]
  have hfT : T.fitsSlot cell.cls cell.vm f.slot v = true := by
    rw [← State.fitsSlot_setVm (wtrans hZ X.warmed).alike] at hfz; exact hfz
  obtain ⟨X', st⟩ := X.putfieldReady hx (own_ready X hZ hown w h2) h3 (Or.inl a5) (by rw [eT]; exact h1) h4 hlt (by rw [ht]; exact hn) hfT hg hs hd
  have es : slotOf Z O n d = f.slot := by simp [slotOf, h2]
  rw [es]
  exact ⟨_, _, X', rfl, ⟨cell, h1, h5, hlt, by rw [← eT]; rfl⟩, st⟩
/-- a private method is the one that is selected (after example/claims/gauge-weight) -/
theorem own_selPriv {y : MethodName} {s : State} {args : Array Value} {n : Nat} (hy : y.cls ≠ "java/lang/invoke/MethodHandle" ∧ y.cls ≠ "java/lang/invoke/VarHandle") (hins : (Cond.instantiable y.cls n).before args s = true) (hpriv : (Cond.privateMethod y).before args s = true) (hinst : (Cond.instanceMethod y).before args s = true) :
    (Cond.selects y.cls y y).before args s = true := by
  obtain ⟨c, k, hc, hk, -, hniab, -, -⟩ := Cond.instantiable_spec hins
  have hni : k.isInterface = false := (Bool.or_eq_false_iff.mp hniab).1
  obtain ⟨mk, methM, hnamed, hmethM, -, -⟩ := Cond.instanceMethod_spec hinst
  have hfound : s.methodFound? y.cls y.name y.desc = some mk := State.methodFound?_of_named hnamed hy
  have hcls : mk.cls = c := Option.some.inj ((findClass_of_methodNamed hnamed).symm.trans hc)
  have hsel : selectMethod {} s.vm c mk = .method mk := selectMethod_private hmethM (Cond.privateMethod_at hpriv mk methM hnamed hmethM)
  simp only [Cond.before, Cond.holds, Cond.value, hc, hfound, hnamed, hsel, hcls, hk]
  simp; exact hni
end OwnR
end Jvm.RoadKit
namespace Jvm.RoadKit
open Sem ClassFile Op Lib Jvm.Stand Jvm.Free Jvm.LawKit
section OwnB
variable {p : Program} {l : Launch} {e : Env} {R : Room} {s : State} {m : MethodId} {args : Array Value} {below : List Frame} {meth : Method} {c : Code} {T : State} {locs : List Loc} {cells slots : Nat} {CC SS : Nat} {Q : Option Value → Heap → List Loc → Prop} {Z : State} {h h' : Heap} {a b : Addr} {ws : List Addr} {sl : Nat} {v w : Value} {t : FieldType}
/-- a byte[][] of one place, which holds v -/
def Blk (Z : State) (h : Heap) (a : Addr) (v : Value) : Prop := ∃ (cl : Cell), Arr Z h a cl (.array .byte) ∧ cl.slots.size = 1 ∧ cl.slots[0]? = some v ∧ OvrA Z cl.cls .byte "[B"
theorem Blk.lt (F : Blk Z h a v) : a < h.size := by obtain ⟨_, A, -⟩ := F; exact A.lt
theorem Blk.ext (F : Blk Z h a v) (E : Ext h h') : Blk Z h' a v := by obtain ⟨cl, A, r⟩ := F; exact ⟨cl, A.ext E, r⟩
theorem Blk.other (F : Blk Z h b v) (W : Wr h h' a sl w) (q : b ≠ a) : Blk Z h' b v := by obtain ⟨cl, A, r⟩ := F; exact ⟨cl, A.other W q, r⟩
theorem Blk.keep (F : Blk Z h a v) (K : Keep h h' ws) (q : a ∉ ws) : Blk Z h' a v := by obtain ⟨cl, A, r⟩ := F; exact ⟨cl, ⟨K.2.1 a cl A.1 q, A.2⟩, r⟩
theorem Blk.set (F : Blk Z h a v) (W : Wr h h' a 0 w) : Blk Z h' a w := by
  obtain ⟨cl, A, r1, r2, r3⟩ := F
  exact ⟨_, A.same W, by rw [sz_set]; exact r1, by simp [Cell.setSlot, r1], r3⟩
theorem own_newBlk (X : Stand p l e R s m args below meth c T locs cells slots) (hx : p.tables.exec = Jvm.exec) (hZ : Z.Warmed39 s.vm) {a0 : Array Value} {own : String} {index : Nat} (hown : s.vm.findClass own = some m.cls) (w1 : (Cond.classLink own index "[B").before a0 Z = true) (w2 : (Cond.arrayOver (.array .byte)).before a0 Z = true)
    (eT : T.heap = h) {g : JFrame} (hg : g.method = m) (hd : decode c.code g.pc = .ok (.anewarray index, 3)) {rest : List Value} (hs : g.stack = .int 1 :: rest) (hc : cells + 1 ≤ R.cells) (hl : slots + 1 ≤ R.slots) :
    ∃ T' h', Stand p l e R s m args below meth c T' locs (cells + 1) (slots + 1) ∧ T'.heap = h' ∧ Ext h h' ∧ Blk Z h' h.size .null ∧ ∀ target, Steps p.tables e below (T'.setTop { g with pc := g.pc + 3, stack := .ref h.size :: rest }) target → Steps p.tables e below (T.setTop g) target := by
  obtain ⟨T', h', cA, X', e', E, A, -, O, st⟩ := newRA X hx hZ hown (C := "[B") (ty := .byte) (by decide) w1 w2 eT hg hd hs (by decide) (cap := 1) (by decide) (by decide) hc hl (ad := "[[B") (by decide)
  exact ⟨T', h', X', e', E, ⟨_, A, by simp [newA], by simp [newA, defaultValue], O⟩, st⟩
theorem own_stBlk (X : Stand p l e R s m args below meth c T locs cells slots) (hx : p.tables.exec = Jvm.exec) (hZ : Z.Warmed39 s.vm) {a0 : Array Value} (eT : T.heap = h) (F : Blk Z h a v) (E : Exa Z h b "[B") (wc : (Cond.castable "[B" "[B").before a0 Z = true)
    {g : JFrame} (hg : g.method = m) {rest : List Value} (hs : g.stack = .ref b :: .int 0 :: .ref a :: rest) (hd : decode c.code g.pc = .ok (.aastore, 1)) :
    ∃ T' h', Stand p l e R s m args below meth c T' (locs ++ [⟨a, 0⟩]) cells slots ∧ T'.heap = h' ∧ Wr h h' a 0 (.ref b) ∧ Blk Z h' a (.ref b) ∧ ∀ target, Steps p.tables e below (T'.setTop { g with pc := g.pc + 1, stack := rest }) target → Steps p.tables e below (T.setTop g) target := by
  obtain ⟨cl, A, r1, r2, r3⟩ := F
  obtain ⟨T', h', X', e', W, st⟩ := stR X hx hZ eT A (j := 0) (v := .ref b) (by rw [r1]; decide) rfl (Sto.ofVA A rfl r3 (Ins.of_exa E wc)) hg hs hd
  exact ⟨T', h', X', e', W, Blk.set ⟨cl, A, r1, r2, r3⟩ W, st⟩
theorem Done.ldBlk (X : Stand p l e R s m args below meth c T locs cells slots) (hx : p.tables.exec = Jvm.exec) (hZ : Z.Warmed39 s.vm) (eT : T.heap = h) (F : Blk Z h a v) {j : Int32} (hj : j = 0) {pc : Nat} {Ls : Array Slot} {rest : List Value} (hd : decode c.code pc = .ok (.aaload, 1))
    (k : Done p e s below CC SS Q T (mkF m (pc + 1) Ls (v :: rest))) : Done p e s below CC SS Q T (mkF m pc Ls (.int j :: .ref a :: rest)) := by
  subst hj
  obtain ⟨cl, A, r1, r2, r3⟩ := F
  exact Done.go (fun t kk => X.aaload hx (j := 0) (v := v) (by rw [eT]; exact A.1) (State.isArrayOf_alike hZ.alike A.2.1) rfl A.2.2 (by rw [r1]; decide) r2 (g := (mkF m pc Ls (.int 0 :: .ref a :: rest))) rfl rfl hd t kk) k
theorem Done.lenBlk (X : Stand p l e R s m args below meth c T locs cells slots) (hx : p.tables.exec = Jvm.exec) (hZ : Z.Warmed39 s.vm) (eT : T.heap = h) (F : Blk Z h a v) {pc : Nat} {Ls : Array Slot} {rest : List Value} (hd : decode c.code pc = .ok (.arraylength, 1))
    (k : Done p e s below CC SS Q T (mkF m (pc + 1) Ls (.int 1 :: rest))) : Done p e s below CC SS Q T (mkF m pc Ls (.ref a :: rest)) := by
  obtain ⟨cl, A, r1, r2, r3⟩ := F
  have q : cl.slots.size.toInt32 = 1 := by rw [r1]; rfl
  rw [← q] at k
  exact Done.go (fun t kk => X.arraylength hx (by rw [eT]; exact A.1) (State.isArrayOf_alike hZ.alike A.2.1) (g := (mkF m pc Ls (.ref a :: rest))) rfl rfl hd t kk) k
end OwnB
end Jvm.RoadKit
namespace Jvm.Pilot.@@N@@
open Jvm Jvm.ClassFile Sem Op Lib Jvm.Free Jvm.Stand Jvm.LawKit Jvm.RoadKit Bundle Jvm.Pilot.@@N@@.Jvm.D
def own_sh (v : Int64) (k : Nat) : Int64 := Int64.ofBitVec (v.toBitVec >>> (7 * k))
theorem own_sh_zero (v : Int64) : own_sh v 0 = v := by simp [own_sh]
theorem own_sh_succ (v : Int64) (k : Nat) : (((own_sh v k).toUInt64 >>> ((7 : Int32) &&& 0x3f).toInt64.toUInt64).toInt64) = own_sh v (k + 1) := by
  have h : ((7 : Int32) &&& 0x3f).toInt64.toUInt64 = 7 := by decide
  rw [h]
  apply Int64.toBitVec_inj.mp
  simp [own_sh, Nat.mul_add, BitVec.shiftRight_add]
theorem own_pow (k : Nat) : (2 : Nat) ^ (7 * k) = 128 ^ k := by rw [Nat.pow_mul]
theorem own_sh_toInt {v : Int64} (hv : 0 ≤ v.toInt) (k : Nat) : (own_sh v k).toInt = v.toInt / ((128 ^ k : Nat) : Int) := by
  have hb := v.toBitVec.isLt
  have e : v.toInt = (v.toBitVec.toNat : Int) := by
    change 0 ≤ v.toBitVec.toInt at hv
    show v.toBitVec.toInt = _
    rw [BitVec.toInt_eq_toNat_cond] at hv ⊢
    split at hv <;> omega
  have hl : v.toBitVec.toNat < 2 ^ 63 := by
    have := v.toInt_lt; rw [e] at this; omega
  rw [own_sh, Int64.toInt_ofBitVec, BitVec.toInt_eq_toNat_cond, BitVec.toNat_ushiftRight, Nat.shiftRight_eq_div_pow, own_pow]
  have : v.toBitVec.toNat / 128 ^ k ≤ v.toBitVec.toNat := Nat.div_le_self _ _
  rw [if_pos (by omega), e]; rfl
def own_isN (v : Int64) (N : Nat) : Prop := v.toInt < ((128 ^ N : Nat) : Int) ∧ (N = 1 ∨ ((128 ^ (N - 1) : Nat) : Int) ≤ v.toInt)
theorem own_isN_last {v : Int64} (hv : 0 ≤ v.toInt) {k : Nat} (h : (own_sh v k).toInt < 128) (hk : k = 0 ∨ ((128 ^ k : Nat) : Int) ≤ v.toInt) : own_isN v (k + 1) := by
  rw [own_sh_toInt hv] at h
  have hp : (0 : Int) < ((128 ^ k : Nat) : Int) := by exact_mod_cast Nat.pow_pos (by decide)
  have h2 := Int.lt_mul_of_ediv_lt hp h
  refine ⟨?_, ?_⟩
  · rw [Nat.pow_succ, Nat.mul_comm]; push_cast; push_cast at h2; exact h2
  · rcases hk with rfl | hk
    · left; rfl
    · right; exact hk
theorem own_more {v : Int64} (hv : 0 ≤ v.toInt) {k : Nat} (h : ¬ (own_sh v k).toInt < 128) : ((128 ^ (k + 1) : Nat) : Int) ≤ v.toInt := by
  rw [own_sh_toInt hv] at h
  have hp : (0 : Int) < ((128 ^ k : Nat) : Int) := by exact_mod_cast Nat.pow_pos (by decide)
  have h2 := Int.mul_le_of_le_ediv hp (Int.not_lt.mp h)
  rw [Nat.pow_succ, Nat.mul_comm]; push_cast; push_cast at h2; exact h2
theorem own_end {v : Int64} (hv : 0 ≤ v.toInt) {k : Nat} (h : v.toInt < ((128 ^ (k + 1) : Nat) : Int)) : (own_sh v k).toInt < 128 := by
  rcases Decidable.em ((own_sh v k).toInt < 128) with q | q
  · exact q
  · have := own_more hv q; omega
theorem own_uniq {v : Int64} {N M : Nat} (hN : 1 ≤ N) (hM : 1 ≤ M) (h1 : own_isN v N) (h2 : own_isN v M) : N = M := by
  have key : ∀ {N M : Nat}, 1 ≤ N → own_isN v N → own_isN v M → ¬ N < M := by
    intro N M hN h1 h2 hlt
    have p : 128 ^ N ≤ 128 ^ (M - 1) := Nat.pow_le_pow_right (by decide) (by omega)
    rcases h2.2 with r | r
    · omega
    · have := h1.1; omega
  have := key hN h1 h2; have := key hM h2 h1; omega
def own_hi (x : Int64) : Int32 := ((x ||| (128 : Int64)).toInt32).toInt8.toInt32
def own_lo (x : Int64) : Int32 := (x.toInt32).toInt8.toInt32
theorem own_b8 : ∀ y : BitVec 8, y ||| 128 = (y &&& 127) ||| 128 := by decide
theorem own_hi_eq (x : Int64) : ((((x &&& (127 : Int64)).toInt32) ||| (128 : Int32)).toInt8.toInt32) = own_hi x := by
  unfold own_hi
  congr 1
  apply Int8.toBitVec_inj.mp
  simp
  exact (own_b8 _).symm
theorem own_lo_eq {x : Int64} (h0 : 0 ≤ x.toInt) (h : x.toInt < 128) : (((x &&& (127 : Int64)).toInt32).toInt8.toInt32) = own_lo x := by
  unfold own_lo
  have e : x &&& 127 = x := by
    apply Int64.toBitVec_inj.mp
    apply BitVec.eq_of_toNat_eq
    change 0 ≤ x.toBitVec.toInt at h0
    change x.toBitVec.toInt < 128 at h
    have hb := x.toBitVec.isLt
    have : x.toBitVec.toNat < 2 ^ 7 := by
      rw [BitVec.toInt_eq_toNat_cond] at h0 h
      split at h0 <;> omega
    rw [Int64.toBitVec_and, BitVec.toNat_and]
    show x.toBitVec.toNat &&& (2 ^ 7 - 1) = _
    rw [Nat.and_two_pow_sub_one_eq_mod, Nat.mod_eq_of_lt this]
  rw [e]
theorem own_shk (v : Int64) (k : Nat) (hk : k ≤ 8) : ((v.toUInt64 >>> (((7 : Int32) * (Int32.ofNat k)) &&& 0x3f).toInt64.toUInt64).toInt64) = own_sh v k := by
  have h : ((((7 : Int32) * (Int32.ofNat k)) &&& 0x3f).toInt64.toUInt64) = UInt64.ofNat (7 * k) := by
    match k, hk with
    | 0, _ | 1, _ | 2, _ | 3, _ | 4, _ | 5, _ | 6, _ | 7, _ | 8, _ => decide
  rw [h]
  apply Int64.toBitVec_inj.mp
  have : (7 * k) % 64 = 7 * k := by omega
  simp [own_sh, this]

def own_enc (f : Nat → Int32) (v : Int64) (A k : Nat) : Nat → Int32 := fun i => if A ≤ i ∧ i < A + k then own_hi (own_sh v (i - A)) else f i
def own_fin (f : Nat → Int32) (v : Int64) (A N : Nat) : Nat → Int32 := fun i => if A ≤ i ∧ i < A + N then (if i + 1 = A + N then own_lo (own_sh v (i - A)) else own_hi (own_sh v (i - A))) else f i
theorem own_enc_zero (f : Nat → Int32) (v : Int64) (A : Nat) : own_enc f v A 0 = f := by
  funext i; exact if_neg (by omega)
theorem own_enc_succ (f : Nat → Int32) (v : Int64) (A k i : Nat) : (if i = A + k then own_hi (own_sh v k) else own_enc f v A k i) = own_enc f v A (k + 1) i := by
  unfold own_enc
  by_cases q : i = A + k
  · subst q
    rw [if_pos rfl, if_pos ⟨by omega, by omega⟩, Nat.add_sub_cancel_left]
  · rw [if_neg q]
    by_cases r : A ≤ i ∧ i < A + k
    · rw [if_pos r, if_pos ⟨by omega, by omega⟩]
    · rw [if_neg r, if_neg (by omega)]
theorem own_enc_fin (f : Nat → Int32) (v : Int64) (A k i : Nat) : (if i = A + k then own_lo (own_sh v k) else own_enc f v A k i) = own_fin f v A (k + 1) i := by
  unfold own_enc own_fin
  by_cases q : i = A + k
  · subst q
    rw [if_pos rfl, if_pos ⟨by omega, by omega⟩, if_pos (by omega), Nat.add_sub_cancel_left]
  · rw [if_neg q]
    by_cases r : A ≤ i ∧ i < A + k
    · rw [if_pos r, if_pos ⟨by omega, by omega⟩, if_neg (by omega)]
    · rw [if_neg r, if_neg (by omega)]
theorem own_ix {j : Int32} {i : Nat} (h : j.toInt = (i : Int)) : ¬ j < 0 ∧ j.toNatClampNeg = i := by
  rw [Int32.lt_iff_toInt_lt]
  have h0 : (0 : Int32).toInt = 0 := rfl
  simp only [Int32.toNatClampNeg]
  constructor <;> omega
theorem own_inc {j : Int32} {i : Nat} (h : j.toInt = (i : Int)) (hi : i < 1000000) : (j + 1).toInt = ((i + 1 : Nat) : Int) := by
  have a := c_iadd j 1
  have r := rng32 (j + 1)
  have e : (1 : Int32).toInt = 1 := rfl
  rw [e] at a; omega
def own_minI (a b : Int32) : Int32 := if b < a then b else a
def own_minJ (a b : Int64) : Int64 := if (0 : Int32) < lcmpW a b then b else a
def own_ns (fi sl : Int32) : Int32 := if fi < 0 then 16 else own_minI (sl * 2) 32
def own_fit (en nx tk ns : Int32) : Int32 := if en - nx < 10 then (if (32 : Int32) < tk + ns then 0 else 1) else 1
def own_pb (Z : State) (h : Heap) (ab ac bP bB : Addr) (v : Value) (tk fi nx en sl ln : Int32) : Prop :=
  Exa Z h ab "com/example/pivotwise/pivotwise/index/PostingBuffer" ∧ Exa Z h ac "com/example/pivotwise/pivotwise/index/PostingBuffer$Chain" ∧ Fld Z h ab "com/example/pivotwise/pivotwise/index/PostingBuffer" "posting" "[B" (.ref bP) ∧ Fld Z h ab "com/example/pivotwise/pivotwise/index/PostingBuffer" "blockBits" "I" (.int 5) ∧ Fld Z h ab "com/example/pivotwise/pivotwise/index/PostingBuffer" "blockSize" "I" (.int 32) ∧ Fld Z h ab "com/example/pivotwise/pivotwise/index/PostingBuffer" "mostSlice" "I" (.int 32) ∧ Fld Z h ab "com/example/pivotwise/pivotwise/index/PostingBuffer" "blocks" "[[B" (.ref bB) ∧ Fld Z h ab "com/example/pivotwise/pivotwise/index/PostingBuffer" "taken" "I" (.int tk) ∧ Fld Z h ab "com/example/pivotwise/pivotwise/index/PostingBuffer" "block" "I" (.int 0) ∧ Fld Z h ac "com/example/pivotwise/pivotwise/index/PostingBuffer$Chain" "first" "I" (.int fi) ∧ Fld Z h ac "com/example/pivotwise/pivotwise/index/PostingBuffer$Chain" "next" "I" (.int nx) ∧ Fld Z h ac "com/example/pivotwise/pivotwise/index/PostingBuffer$Chain" "end" "I" (.int en) ∧ Fld Z h ac "com/example/pivotwise/pivotwise/index/PostingBuffer$Chain" "slice" "I" (.int sl) ∧ Fld Z h ac "com/example/pivotwise/pivotwise/index/PostingBuffer$Chain" "length" "I" (.int ln) ∧ (∃ f, Ari Z h bP .byte 10 f) ∧ Blk Z h bB v
def own_ds (ab ac bP bB : Addr) : Prop := ab ≠ ac ∧ ab ≠ bP ∧ ab ≠ bB ∧ ac ≠ bP ∧ ac ≠ bB ∧ bP ≠ bB
def own_dk (bk ab ac bP bB : Addr) : Prop := bk ≠ ab ∧ bk ≠ ac ∧ bk ≠ bP ∧ bk ≠ bB
def own_gs (n0 : Nat) (ab ac bP bB : Addr) : Prop := n0 ≤ ab ∧ n0 ≤ ac ∧ n0 ≤ bP ∧ n0 ≤ bB
theorem own_sub {x y : Int32} {a b : Nat} (hx : x.toInt = (a : Int)) (hy : y.toInt = (b : Int)) : (x - y).toInt = (a : Int) - (b : Int) := by
  have q := c_isub x y
  have r := rng32 (x - y)
  have r1 := rng32 x
  have r2 := rng32 y
  omega
theorem own_add {x y : Int32} {a b : Nat} (hx : x.toInt = (a : Int)) (hy : y.toInt = (b : Int)) (hs : a + b < 1000000) : (x + y).toInt = ((a + b : Nat) : Int) := by
  have q := c_iadd x y
  have r := rng32 (x + y)
  omega
theorem own_ltI {x y : Int32} {a b : Nat} (hx : x.toInt = (a : Int)) (hy : y.toInt = (b : Int)) : x < y ↔ a < b := by rw [Int32.lt_iff_toInt_lt, hx, hy]; omega
theorem own_m31 {x : Int32} {a : Nat} (hx : x.toInt = (a : Int)) (ha : a < 32) : ¬ (x &&& (31 : Int32)) < 0 ∧ (x &&& (31 : Int32)).toNatClampNeg = a := by
  have q := c_mask x 31 5 (by decide) (by decide)
  exact own_ix (by rw [q, hx]; omega)
theorem own_sh5 {x : Int32} {a : Nat} (hx : x.toInt = (a : Int)) (ha : a < 32) : ((x.toUInt32 >>> ((5 : Int32) &&& 31).toUInt32).toInt32) = 0 := by
  apply Int32.toInt_inj.mp
  rw [c_iushr x 5 5 (by decide) (by decide), hx]
  have : (0 : Int32).toInt = 0 := rfl
  rw [this]; omega
theorem own_wide (x : Int32) : x.toInt64.toInt = x.toInt := c_i2l x
theorem own_b5 (x : Int32) : x.toInt64.toInt < ((128 ^ 5 : Nat) : Int) := by rw [own_wide]; have := rng32 x; omega
theorem own_pos {x m : Int32} (hm : 0 ≤ m.toInt) : 0 ≤ (x &&& m).toInt := (c_andS x m).2.2 hm
theorem own_neL {x y : Int32} {a b : Nat} (hx : x.toInt = (a : Int)) (hy : y.toInt = (b : Int)) (h : a < b) : ¬ x = y := fun q => by rw [q, hy] at hx; omega
theorem own_pd0 : parseMethodDescriptor "(I)I" = some ⟨[.int], some .int⟩ := by decide +kernel
theorem own_pd1 : parseMethodDescriptor "(JJ)J" = some ⟨[.long, .long], some .long⟩ := by decide +kernel
theorem own_pd2 : parseMethodDescriptor "(J)I" = some ⟨[.long], some .int⟩ := by decide +kernel
theorem own_pd3 : parseMethodDescriptor "(II)I" = some ⟨[.int, .int], some .int⟩ := by decide +kernel
theorem own_pd4 : parseMethodDescriptor "(Lcom/example/pivotwise/pivotwise/index/PostingBuffer$Chain;)I" = some ⟨[(.object "com/example/pivotwise/pivotwise/index/PostingBuffer$Chain")], some .int⟩ := by decide +kernel
theorem own_pd5 : parseMethodDescriptor "(J[BI)I" = some ⟨[.long, (.array .byte), .int], some .int⟩ := by decide +kernel
theorem own_pd6 : parseMethodDescriptor "(Lcom/example/pivotwise/pivotwise/index/PostingBuffer$Chain;)V" = some ⟨[(.object "com/example/pivotwise/pivotwise/index/PostingBuffer$Chain")], none⟩ := by decide +kernel
theorem own_pd7 : parseMethodDescriptor "(J)V" = some ⟨[.long], none⟩ := by decide +kernel
theorem own_pd8 : parseMethodDescriptor "()V" = some ⟨[], none⟩ := by decide +kernel
theorem own_pd9 : parseMethodDescriptor "()I" = some ⟨[], some .int⟩ := by decide +kernel
theorem own_pd10 : parseMethodDescriptor "(Lcom/example/pivotwise/pivotwise/index/PostingBuffer$Chain;)Z" = some ⟨[(.object "com/example/pivotwise/pivotwise/index/PostingBuffer$Chain")], some .boolean⟩ := by decide +kernel
theorem own_pd11 : parseMethodDescriptor "(Lcom/example/pivotwise/pivotwise/index/PostingBuffer$Chain;II)V" = some ⟨[(.object "com/example/pivotwise/pivotwise/index/PostingBuffer$Chain"), .int, .int], none⟩ := by decide +kernel
def QI (r : Int32) (h0 : Heap) (n0 : Nat) (v : Option Value) (h : Heap) (L : List Loc) : Prop := v = some (.int r) ∧ Fr n0 L ∧ h = h0
def QJ (r : Int64) (h0 : Heap) (n0 : Nat) (v : Option Value) (h : Heap) (L : List Loc) : Prop := v = some (.long r) ∧ Fr n0 L ∧ h = h0
theorem d3_0 : decode jdk_29_method_70_code 0 = .ok (.lload_n 0, 1) := by decide +kernel
theorem d3_1 : decode jdk_29_method_70_code 1 = .ok (.lload_n 2, 1) := by decide +kernel
theorem d3_2 : decode jdk_29_method_70_code 2 = .ok (.lcmp, 1) := by decide +kernel
theorem d3_3 : decode jdk_29_method_70_code 3 = .ok (.ifCond .gt 7, 3) := by decide +kernel
theorem d3_6 : decode jdk_29_method_70_code 6 = .ok (.lload_n 0, 1) := by decide +kernel
theorem d3_7 : decode jdk_29_method_70_code 7 = .ok (.goto 4, 3) := by decide +kernel
theorem d3_10 : decode jdk_29_method_70_code 10 = .ok (.lload_n 2, 1) := by decide +kernel
theorem d3_11 : decode jdk_29_method_70_code 11 = .ok (.lreturn, 1) := by decide +kernel
theorem ef_rm3 (m : MethodId) (q1 : Int64) (q2 : Int64) : entryFrame m #[(.long q1), (.long q2)] 4 = mkF m 0 #[.val (.long q1), .second, .val (.long q2), .second] [] := by first | (simp [entryFrame, mkF, argsToLocals, Value.category]; done) | rfl
set_option maxRecDepth 65536 in
set_option maxHeartbeats 40000000 in
theorem rm3 (l : Launch) (Z : State) (a0 : Array Value) (hw : ∀ d ∈ tables_1, d.before a0 Z = true) (ws : List Jvm.Cond) (q1 : Int64) (q2 : Int64) (h0 : Heap) (n0 : Nat) (Z0 : n0 ≤ h0.size) :
    MetFree l (⟨"java/lang/Math", "min", "(JJ)J"⟩ : MethodName) (head1 (Jvm.Cond.code (⟨"java/lang/Math", "min", "(JJ)J"⟩ : MethodName) jdk_29_method_70_code 4 (some .long) :: ws) ({ frames := 0, cells := 0, slots := 0, locals := 0 } : Room)) (fun a U => a = #[(.long q1), (.long q2)] ∧ Z.Warmed39 U.vm ∧ U.heap = h0) (fun _ _ _ _ _ => True) (fun _ U o U' => ∃ vr Lr, o = .returned vr ∧ QJ (own_minJ q1 q2) h0 n0 vr U'.heap Lr ∧ FrameEnd U o U' Lr 0 0) := by
  refine MetFree.of_bodySF (Jvm.Free.JP.mathPlain rfl (by decide +kernel)) hisR ?_
  intro p e s m args below meth c s₁ Bd hml0 hP hK
  obtain ⟨rfl, hZ, hh⟩ := hP
  have hx := Bd.exec
  have hby := Bd.bytes
  have hml : c.maxLocals = 4 := hml0
  have hown : s.vm.findClass "java/lang/Math" = some m.cls := findClass_of_methodNamed Bd.named
  have hnm := (name_of_methodNamed Bd.named Bd.method).1
  have hlk : meth.locks = false := Bd.notSynchronized
  have hrt := Bd.returns
  have X0 : Stand p l e ({ frames := 0, cells := 0, slots := 0, locals := 0 } : Room) s m #[(.long q1), (.long q2)] below meth c s₁ [] 0 0 := Stand.of_body Bd
  have e0 : s₁.heap = h0 := by rw [← hh, Bd.state]; rfl
  have N0 := Fr.nil n0
  show Done p e s below 0 0 (QJ (own_minJ q1 q2) h0 n0) s₁ (entryFrame m #[(.long q1), (.long q2)] 4)
  rw [ef_rm3]
  show Done p e s below _ _ _ s₁ (mkF m 0 #[.val (.long q1), .second, .val (.long q2), .second] [])
  refine Done.go (fun _ kt_ => XS.lloadN X0.here hx rfl (hb hby d3_0) rfl kt_) ?_
  show Done p e s below _ _ _ s₁ (mkF m 1 #[.val (.long q1), .second, .val (.long q2), .second] [(.long q1)])
  refine Done.go (fun _ kt_ => XS.lloadN X0.here hx rfl (hb hby d3_1) rfl kt_) ?_
  show Done p e s below _ _ _ s₁ (mkF m 2 #[.val (.long q1), .second, .val (.long q2), .second] [(.long q2), (.long q1)])
  refine Done.go (fun _ kt_ => XS.lcmp X0.here hx rfl (hb hby d3_2) rfl kt_) ?_
  show Done p e s below _ _ _ s₁ (mkF m 3 #[.val (.long q1), .second, .val (.long q2), .second] [(.int (lcmpW q1 q2))])
  by_cases hc3 : (0 : Int32) < (lcmpW q1 q2)
  · skip
    refine Done.go (fun _ kt_ => XS.ifYes X0.here hx rfl (pc0 := 3) (pc' := 10) rfl (hb hby d3_3) rfl ((if0 _ _).trans (tlt hc3).2.2.1) (by decide) (by decide) kt_) ?_
    show Done p e s below _ _ _ s₁ (mkF m 10 #[.val (.long q1), .second, .val (.long q2), .second] [])
    refine Done.go (fun _ kt_ => XS.lloadN X0.here hx rfl (hb hby d3_10) rfl kt_) ?_
    show Done p e s below _ _ _ s₁ (mkF m 11 #[.val (.long q1), .second, .val (.long q2), .second] [(.long q2)])
    refine Done.retJ X0 hx hlk hrt (hb hby d3_11) ?_ (by first | decide | omega) (by first | decide | omega)
    rw [e0]
    exact ⟨by simp only [own_minJ, hc3, if_true, if_false], N0, rfl⟩
  · skip
    refine Done.go (fun _ kt_ => XS.ifNo X0.here hx rfl (hb hby d3_3) rfl ((if0 _ _).trans (flt hc3).2.2.1) kt_) ?_
    show Done p e s below _ _ _ s₁ (mkF m 6 #[.val (.long q1), .second, .val (.long q2), .second] [])
    refine Done.go (fun _ kt_ => XS.lloadN X0.here hx rfl (hb hby d3_6) rfl kt_) ?_
    show Done p e s below _ _ _ s₁ (mkF m 7 #[.val (.long q1), .second, .val (.long q2), .second] [(.long q1)])
    refine Done.go (fun _ kt_ => XS.goto X0.here hx rfl (pc0 := 7) (pc' := 11) rfl (hb hby d3_7) (by decide) (by decide) kt_) ?_
    show Done p e s below _ _ _ s₁ (mkF m 11 #[.val (.long q1), .second, .val (.long q2), .second] [(.long q1)])
    refine Done.retJ X0 hx hlk hrt (hb hby d3_11) ?_ (by first | decide | omega) (by first | decide | omega)
    rw [e0]
    exact ⟨by simp only [own_minJ, hc3, if_true, if_false], N0, rfl⟩
theorem d6_0 : decode jdk_29_method_69_code 0 = .ok (.iload_n 0, 1) := by decide +kernel
theorem d6_1 : decode jdk_29_method_69_code 1 = .ok (.iload_n 1, 1) := by decide +kernel
theorem d6_2 : decode jdk_29_method_69_code 2 = .ok (.if_icmp .gt 7, 3) := by decide +kernel
theorem d6_5 : decode jdk_29_method_69_code 5 = .ok (.iload_n 0, 1) := by decide +kernel
theorem d6_6 : decode jdk_29_method_69_code 6 = .ok (.goto 4, 3) := by decide +kernel
theorem d6_9 : decode jdk_29_method_69_code 9 = .ok (.iload_n 1, 1) := by decide +kernel
theorem d6_10 : decode jdk_29_method_69_code 10 = .ok (.ireturn, 1) := by decide +kernel
theorem ef_rm6 (m : MethodId) (p1 : Int32) (p2 : Int32) : entryFrame m #[(.int p1), (.int p2)] 2 = mkF m 0 #[.val (.int p1), .val (.int p2)] [] := by first | (simp [entryFrame, mkF, argsToLocals, Value.category]; done) | rfl
set_option maxRecDepth 65536 in
set_option maxHeartbeats 40000000 in
theorem rm6 (l : Launch) (Z : State) (a0 : Array Value) (hw : ∀ d ∈ tables_1, d.before a0 Z = true) (ws : List Jvm.Cond) (p1 : Int32) (p2 : Int32) (h0 : Heap) (n0 : Nat) (Z0 : n0 ≤ h0.size) :
    MetFree l (⟨"java/lang/Math", "min", "(II)I"⟩ : MethodName) (head1 (Jvm.Cond.code (⟨"java/lang/Math", "min", "(II)I"⟩ : MethodName) jdk_29_method_69_code 2 (some .int) :: ws) ({ frames := 0, cells := 0, slots := 0, locals := 0 } : Room)) (fun a U => a = #[(.int p1), (.int p2)] ∧ Z.Warmed39 U.vm ∧ U.heap = h0) (fun _ _ _ _ _ => True) (fun _ U o U' => ∃ vr Lr, o = .returned vr ∧ QI (own_minI p1 p2) h0 n0 vr U'.heap Lr ∧ FrameEnd U o U' Lr 0 0) := by
  refine MetFree.of_bodySF (Jvm.Free.JP.mathPlain rfl (by decide +kernel)) hisR ?_
  intro p e s m args below meth c s₁ Bd hml0 hP hK
  obtain ⟨rfl, hZ, hh⟩ := hP
  have hx := Bd.exec
  have hby := Bd.bytes
  have hml : c.maxLocals = 2 := hml0
  have hown : s.vm.findClass "java/lang/Math" = some m.cls := findClass_of_methodNamed Bd.named
  have hnm := (name_of_methodNamed Bd.named Bd.method).1
  have hlk : meth.locks = false := Bd.notSynchronized
  have hrt := Bd.returns
  have X0 : Stand p l e ({ frames := 0, cells := 0, slots := 0, locals := 0 } : Room) s m #[(.int p1), (.int p2)] below meth c s₁ [] 0 0 := Stand.of_body Bd
  have e0 : s₁.heap = h0 := by rw [← hh, Bd.state]; rfl
  have N0 := Fr.nil n0
  show Done p e s below 0 0 (QI (own_minI p1 p2) h0 n0) s₁ (entryFrame m #[(.int p1), (.int p2)] 2)
  rw [ef_rm6]
  show Done p e s below _ _ _ s₁ (mkF m 0 #[.val (.int p1), .val (.int p2)] [])
  refine Done.go (fun _ kt_ => XS.iloadN X0.here hx rfl (hb hby d6_0) rfl kt_) ?_
  show Done p e s below _ _ _ s₁ (mkF m 1 #[.val (.int p1), .val (.int p2)] [(.int p1)])
  refine Done.go (fun _ kt_ => XS.iloadN X0.here hx rfl (hb hby d6_1) rfl kt_) ?_
  show Done p e s below _ _ _ s₁ (mkF m 2 #[.val (.int p1), .val (.int p2)] [(.int p2), (.int p1)])
  by_cases hc2 : p2 < p1
  · skip
    refine Done.go (fun _ kt_ => XS.icmpYes X0.here hx rfl (pc0 := 2) (pc' := 9) rfl (hb hby d6_2) rfl (tlt hc2).2.2.1 (by decide) (by decide) kt_) ?_
    show Done p e s below _ _ _ s₁ (mkF m 9 #[.val (.int p1), .val (.int p2)] [])
    refine Done.go (fun _ kt_ => XS.iloadN X0.here hx rfl (hb hby d6_9) rfl kt_) ?_
    show Done p e s below _ _ _ s₁ (mkF m 10 #[.val (.int p1), .val (.int p2)] [(.int p2)])
    refine Done.retI X0 hx hlk hrt (hb hby d6_10) ?_ (by first | decide | omega) (by first | decide | omega)
    rw [e0]
    exact ⟨by simp only [own_minI, hc2, if_true, if_false], N0, rfl⟩
  · skip
    refine Done.go (fun _ kt_ => XS.icmpNo X0.here hx rfl (hb hby d6_2) rfl (flt hc2).2.2.1 kt_) ?_
    show Done p e s below _ _ _ s₁ (mkF m 5 #[.val (.int p1), .val (.int p2)] [])
    refine Done.go (fun _ kt_ => XS.iloadN X0.here hx rfl (hb hby d6_5) rfl kt_) ?_
    show Done p e s below _ _ _ s₁ (mkF m 6 #[.val (.int p1), .val (.int p2)] [(.int p1)])
    refine Done.go (fun _ kt_ => XS.goto X0.here hx rfl (pc0 := 6) (pc' := 10) rfl (hb hby d6_6) (by decide) (by decide) kt_) ?_
    show Done p e s below _ _ _ s₁ (mkF m 10 #[.val (.int p1), .val (.int p2)] [(.int p1)])
    refine Done.retI X0 hx hlk hrt (hb hby d6_10) ?_ (by first | decide | omega) (by first | decide | omega)
    rw [e0]
    exact ⟨by simp only [own_minI, hc2, if_true, if_false], N0, rfl⟩
theorem d5_0 : decode jdk_33_method_47_code 0 = .ok (.iload_n 0, 1) := by decide +kernel
theorem d5_1 : decode jdk_33_method_47_code 1 = .ok (.ifCond .gt 14, 3) := by decide +kernel
theorem d5_4 : decode jdk_33_method_47_code 4 = .ok (.iload_n 0, 1) := by decide +kernel
theorem d5_5 : decode jdk_33_method_47_code 5 = .ok (.ifCond .ne 8, 3) := by decide +kernel
theorem d5_8 : decode jdk_33_method_47_code 8 = .ok (.bipush 32, 2) := by decide +kernel
theorem d5_10 : decode jdk_33_method_47_code 10 = .ok (.goto 4, 3) := by decide +kernel
theorem d5_13 : decode jdk_33_method_47_code 13 = .ok (.iconst 0, 1) := by decide +kernel
theorem d5_14 : decode jdk_33_method_47_code 14 = .ok (.ireturn, 1) := by decide +kernel
theorem d5_15 : decode jdk_33_method_47_code 15 = .ok (.bipush 31, 2) := by decide +kernel
theorem d5_17 : decode jdk_33_method_47_code 17 = .ok (.istore_n 1, 1) := by decide +kernel
theorem d5_18 : decode jdk_33_method_47_code 18 = .ok (.iload_n 0, 1) := by decide +kernel
theorem d5_19 : decode jdk_33_method_47_code 19 = .ok (.ldc_w 264, 3) := by decide +kernel
theorem d5_22 : decode jdk_33_method_47_code 22 = .ok (.if_icmp .lt 11, 3) := by decide +kernel
theorem d5_25 : decode jdk_33_method_47_code 25 = .ok (.iinc 1 (-16), 3) := by decide +kernel
theorem d5_28 : decode jdk_33_method_47_code 28 = .ok (.iload_n 0, 1) := by decide +kernel
theorem d5_29 : decode jdk_33_method_47_code 29 = .ok (.bipush 16, 2) := by decide +kernel
theorem d5_31 : decode jdk_33_method_47_code 31 = .ok (.iushr, 1) := by decide +kernel
theorem d5_32 : decode jdk_33_method_47_code 32 = .ok (.istore_n 0, 1) := by decide +kernel
theorem d5_33 : decode jdk_33_method_47_code 33 = .ok (.iload_n 0, 1) := by decide +kernel
theorem d5_34 : decode jdk_33_method_47_code 34 = .ok (.sipush 256, 3) := by decide +kernel
theorem d5_37 : decode jdk_33_method_47_code 37 = .ok (.if_icmp .lt 11, 3) := by decide +kernel
theorem d5_40 : decode jdk_33_method_47_code 40 = .ok (.iinc 1 (-8), 3) := by decide +kernel
theorem d5_43 : decode jdk_33_method_47_code 43 = .ok (.iload_n 0, 1) := by decide +kernel
theorem d5_44 : decode jdk_33_method_47_code 44 = .ok (.bipush 8, 2) := by decide +kernel
theorem d5_46 : decode jdk_33_method_47_code 46 = .ok (.iushr, 1) := by decide +kernel
theorem d5_47 : decode jdk_33_method_47_code 47 = .ok (.istore_n 0, 1) := by decide +kernel
theorem d5_48 : decode jdk_33_method_47_code 48 = .ok (.iload_n 0, 1) := by decide +kernel
theorem d5_49 : decode jdk_33_method_47_code 49 = .ok (.bipush 16, 2) := by decide +kernel
theorem d5_51 : decode jdk_33_method_47_code 51 = .ok (.if_icmp .lt 10, 3) := by decide +kernel
theorem d5_54 : decode jdk_33_method_47_code 54 = .ok (.iinc 1 (-4), 3) := by decide +kernel
theorem d5_57 : decode jdk_33_method_47_code 57 = .ok (.iload_n 0, 1) := by decide +kernel
theorem d5_58 : decode jdk_33_method_47_code 58 = .ok (.iconst 4, 1) := by decide +kernel
theorem d5_59 : decode jdk_33_method_47_code 59 = .ok (.iushr, 1) := by decide +kernel
theorem d5_60 : decode jdk_33_method_47_code 60 = .ok (.istore_n 0, 1) := by decide +kernel
theorem d5_61 : decode jdk_33_method_47_code 61 = .ok (.iload_n 0, 1) := by decide +kernel
theorem d5_62 : decode jdk_33_method_47_code 62 = .ok (.iconst 4, 1) := by decide +kernel
theorem d5_63 : decode jdk_33_method_47_code 63 = .ok (.if_icmp .lt 10, 3) := by decide +kernel
theorem d5_66 : decode jdk_33_method_47_code 66 = .ok (.iinc 1 (-2), 3) := by decide +kernel
theorem d5_69 : decode jdk_33_method_47_code 69 = .ok (.iload_n 0, 1) := by decide +kernel
theorem d5_70 : decode jdk_33_method_47_code 70 = .ok (.iconst 2, 1) := by decide +kernel
theorem d5_71 : decode jdk_33_method_47_code 71 = .ok (.iushr, 1) := by decide +kernel
theorem d5_72 : decode jdk_33_method_47_code 72 = .ok (.istore_n 0, 1) := by decide +kernel
theorem d5_73 : decode jdk_33_method_47_code 73 = .ok (.iload_n 1, 1) := by decide +kernel
theorem d5_74 : decode jdk_33_method_47_code 74 = .ok (.iload_n 0, 1) := by decide +kernel
theorem d5_75 : decode jdk_33_method_47_code 75 = .ok (.iconst 1, 1) := by decide +kernel
theorem d5_76 : decode jdk_33_method_47_code 76 = .ok (.iushr, 1) := by decide +kernel
theorem d5_77 : decode jdk_33_method_47_code 77 = .ok (.isub, 1) := by decide +kernel
theorem d5_78 : decode jdk_33_method_47_code 78 = .ok (.ireturn, 1) := by decide +kernel
theorem own_pn0 : plainName "java/lang/Integer" = true := by first | (simp [plainName, overriddenIn]; done) | decide +kernel
theorem ef_rm5 (m : MethodId)  : entryFrame m #[(.int (32 : Int32))] 2 = mkF m 0 #[.val (.int (32 : Int32)), .unset] [] := by first | (simp [entryFrame, mkF, argsToLocals, Value.category]; done) | rfl
set_option maxRecDepth 65536 in
set_option maxHeartbeats 40000000 in
theorem rm5 (l : Launch) (Z : State) (a0 : Array Value) (hw : ∀ d ∈ tables_1, d.before a0 Z = true) (ws : List Jvm.Cond) (h0 : Heap) (n0 : Nat) (Z0 : n0 ≤ h0.size) :
    MetFree l (⟨"java/lang/Integer", "numberOfLeadingZeros", "(I)I"⟩ : MethodName) (head1 (Jvm.Cond.code (⟨"java/lang/Integer", "numberOfLeadingZeros", "(I)I"⟩ : MethodName) jdk_33_method_47_code 2 (some .int) :: ws) ({ frames := 0, cells := 0, slots := 0, locals := 0 } : Room)) (fun a U => a = #[(.int (32 : Int32))] ∧ Z.Warmed39 U.vm ∧ U.heap = h0) (fun _ _ _ _ _ => True) (fun _ U o U' => ∃ vr Lr, o = .returned vr ∧ QI 26 h0 n0 vr U'.heap Lr ∧ FrameEnd U o U' Lr 0 0) := by
  refine MetFree.of_bodySF (plainFor_of_name own_pn0) hisR ?_
  intro p e s m args below meth c s₁ Bd hml0 hP hK
  obtain ⟨rfl, hZ, hh⟩ := hP
  have hx := Bd.exec
  have hby := Bd.bytes
  have hml : c.maxLocals = 2 := hml0
  have hown : s.vm.findClass "java/lang/Integer" = some m.cls := findClass_of_methodNamed Bd.named
  have hnm := (name_of_methodNamed Bd.named Bd.method).1
  have hlk : meth.locks = false := Bd.notSynchronized
  have hrt := Bd.returns
  have X0 : Stand p l e ({ frames := 0, cells := 0, slots := 0, locals := 0 } : Room) s m #[(.int (32 : Int32))] below meth c s₁ [] 0 0 := Stand.of_body Bd
  have e0 : s₁.heap = h0 := by rw [← hh, Bd.state]; rfl
  have N0 := Fr.nil n0
  show Done p e s below 0 0 (QI 26 h0 n0) s₁ (entryFrame m #[(.int (32 : Int32))] 2)
  rw [ef_rm5]
  show Done p e s below _ _ _ s₁ (mkF m 0 #[.val (.int (32 : Int32)), .unset] [])
  refine Done.go (fun _ kt_ => XS.iloadN X0.here hx rfl (hb hby d5_0) rfl kt_) ?_
  show Done p e s below _ _ _ s₁ (mkF m 1 #[.val (.int (32 : Int32)), .unset] [(.int (32 : Int32))])
  refine Done.go (fun _ kt_ => XS.ifYes X0.here hx rfl (pc0 := 1) (pc' := 15) rfl (hb hby d5_1) rfl ((if0 _ _).trans (tlt (by decide)).2.2.1) (by decide) (by decide) kt_) ?_
  show Done p e s below _ _ _ s₁ (mkF m 15 #[.val (.int (32 : Int32)), .unset] [])
  refine Done.go (fun _ kt_ => XS.bipush X0.here hx rfl (hb hby d5_15) kt_) ?_
  show Done p e s below _ _ _ s₁ (mkF m 17 #[.val (.int (32 : Int32)), .unset] [(.int (31 : Int32))])
  refine Done.go (fun _ kt_ => XS.istoreN X0.here hx rfl (hb hby d5_17) rfl (l' := #[.val (.int (32 : Int32)), .val (.int (31 : Int32))]) rfl kt_) ?_
  show Done p e s below _ _ _ s₁ (mkF m 18 #[.val (.int (32 : Int32)), .val (.int (31 : Int32))] [])
  refine Done.go (fun _ kt_ => XS.iloadN X0.here hx rfl (hb hby d5_18) rfl kt_) ?_
  show Done p e s below _ _ _ s₁ (mkF m 19 #[.val (.int (32 : Int32)), .val (.int (31 : Int32))] [(.int (32 : Int32))])
  refine Done.go (fun t_ kt_ => X0.ldcWInt hx hown (mvT hZ (hw _ (List.mem_of_getElem? (i := 27) rfl))) (g := (mkF m 19 #[.val (.int (32 : Int32)), .val (.int (31 : Int32))] [(.int (32 : Int32))])) rfl (hb hby d5_19) t_ kt_) ?_
  show Done p e s below _ _ _ s₁ (mkF m 22 #[.val (.int (32 : Int32)), .val (.int (31 : Int32))] [(.int (65536 : Int32)), (.int (32 : Int32))])
  refine Done.go (fun _ kt_ => XS.icmpYes X0.here hx rfl (pc0 := 22) (pc' := 33) rfl (hb hby d5_22) rfl (tlt (by decide)).1 (by decide) (by decide) kt_) ?_
  show Done p e s below _ _ _ s₁ (mkF m 33 #[.val (.int (32 : Int32)), .val (.int (31 : Int32))] [])
  refine Done.go (fun _ kt_ => XS.iloadN X0.here hx rfl (hb hby d5_33) rfl kt_) ?_
  show Done p e s below _ _ _ s₁ (mkF m 34 #[.val (.int (32 : Int32)), .val (.int (31 : Int32))] [(.int (32 : Int32))])
  refine Done.go (fun _ kt_ => XS.sipush X0.here hx rfl (hb hby d5_34) kt_) ?_
  show Done p e s below _ _ _ s₁ (mkF m 37 #[.val (.int (32 : Int32)), .val (.int (31 : Int32))] [(.int (256 : Int32)), (.int (32 : Int32))])
  refine Done.go (fun _ kt_ => XS.icmpYes X0.here hx rfl (pc0 := 37) (pc' := 48) rfl (hb hby d5_37) rfl (tlt (by decide)).1 (by decide) (by decide) kt_) ?_
  show Done p e s below _ _ _ s₁ (mkF m 48 #[.val (.int (32 : Int32)), .val (.int (31 : Int32))] [])
  refine Done.go (fun _ kt_ => XS.iloadN X0.here hx rfl (hb hby d5_48) rfl kt_) ?_
  show Done p e s below _ _ _ s₁ (mkF m 49 #[.val (.int (32 : Int32)), .val (.int (31 : Int32))] [(.int (32 : Int32))])
  refine Done.go (fun _ kt_ => XS.bipush X0.here hx rfl (hb hby d5_49) kt_) ?_
  show Done p e s below _ _ _ s₁ (mkF m 51 #[.val (.int (32 : Int32)), .val (.int (31 : Int32))] [(.int (16 : Int32)), (.int (32 : Int32))])
  refine Done.go (fun _ kt_ => XS.icmpNo X0.here hx rfl (hb hby d5_51) rfl (flt (by decide)).1 kt_) ?_
  show Done p e s below _ _ _ s₁ (mkF m 54 #[.val (.int (32 : Int32)), .val (.int (31 : Int32))] [])
  refine Done.go (fun _ kt_ => XS.iinc X0.here hx rfl (hb hby d5_54) rfl (l' := #[.val (.int (32 : Int32)), .val (.int ((31 : Int32) + (-4 : Int32)))]) rfl kt_) ?_
  show Done p e s below _ _ _ s₁ (mkF m 57 #[.val (.int (32 : Int32)), .val (.int ((31 : Int32) + (-4 : Int32)))] [])
  refine Done.go (fun _ kt_ => XS.iloadN X0.here hx rfl (hb hby d5_57) rfl kt_) ?_
  show Done p e s below _ _ _ s₁ (mkF m 58 #[.val (.int (32 : Int32)), .val (.int ((31 : Int32) + (-4 : Int32)))] [(.int (32 : Int32))])
  refine Done.go (fun _ kt_ => XS.iconst X0.here hx rfl (hb hby d5_58) kt_) ?_
  show Done p e s below _ _ _ s₁ (mkF m 59 #[.val (.int (32 : Int32)), .val (.int ((31 : Int32) + (-4 : Int32)))] [(.int (4 : Int32)), (.int (32 : Int32))])
  refine Done.go (fun _ kt_ => XS.iushr X0.here hx rfl (hb hby d5_59) rfl kt_) ?_
  show Done p e s below _ _ _ s₁ (mkF m 60 #[.val (.int (32 : Int32)), .val (.int ((31 : Int32) + (-4 : Int32)))] [(.int (((32 : Int32).toUInt32 >>> ((4 : Int32) &&& 31).toUInt32).toInt32))])
  rw [show (((32 : Int32).toUInt32 >>> ((4 : Int32) &&& 31).toUInt32).toInt32) = (2 : Int32) from by decide]
  show Done p e s below _ _ _ s₁ (mkF m 60 #[.val (.int (32 : Int32)), .val (.int ((31 : Int32) + (-4 : Int32)))] [(.int (2 : Int32))])
  refine Done.go (fun _ kt_ => XS.istoreN X0.here hx rfl (hb hby d5_60) rfl (l' := #[.val (.int (2 : Int32)), .val (.int ((31 : Int32) + (-4 : Int32)))]) rfl kt_) ?_
  show Done p e s below _ _ _ s₁ (mkF m 61 #[.val (.int (2 : Int32)), .val (.int ((31 : Int32) + (-4 : Int32)))] [])
  refine Done.go (fun _ kt_ => XS.iloadN X0.here hx rfl (hb hby d5_61) rfl kt_) ?_
  show Done p e s below _ _ _ s₁ (mkF m 62 #[.val (.int (2 : Int32)), .val (.int ((31 : Int32) + (-4 : Int32)))] [(.int (2 : Int32))])
  refine Done.go (fun _ kt_ => XS.iconst X0.here hx rfl (hb hby d5_62) kt_) ?_
  show Done p e s below _ _ _ s₁ (mkF m 63 #[.val (.int (2 : Int32)), .val (.int ((31 : Int32) + (-4 : Int32)))] [(.int (4 : Int32)), (.int (2 : Int32))])
  refine Done.go (fun _ kt_ => XS.icmpYes X0.here hx rfl (pc0 := 63) (pc' := 73) rfl (hb hby d5_63) rfl (tlt (by decide)).1 (by decide) (by decide) kt_) ?_
  show Done p e s below _ _ _ s₁ (mkF m 73 #[.val (.int (2 : Int32)), .val (.int ((31 : Int32) + (-4 : Int32)))] [])
  refine Done.go (fun _ kt_ => XS.iloadN X0.here hx rfl (hb hby d5_73) rfl kt_) ?_
  show Done p e s below _ _ _ s₁ (mkF m 74 #[.val (.int (2 : Int32)), .val (.int ((31 : Int32) + (-4 : Int32)))] [(.int ((31 : Int32) + (-4 : Int32)))])
  refine Done.go (fun _ kt_ => XS.iloadN X0.here hx rfl (hb hby d5_74) rfl kt_) ?_
  show Done p e s below _ _ _ s₁ (mkF m 75 #[.val (.int (2 : Int32)), .val (.int ((31 : Int32) + (-4 : Int32)))] [(.int (2 : Int32)), (.int ((31 : Int32) + (-4 : Int32)))])
  refine Done.go (fun _ kt_ => XS.iconst X0.here hx rfl (hb hby d5_75) kt_) ?_
  show Done p e s below _ _ _ s₁ (mkF m 76 #[.val (.int (2 : Int32)), .val (.int ((31 : Int32) + (-4 : Int32)))] [(.int (1 : Int32)), (.int (2 : Int32)), (.int ((31 : Int32) + (-4 : Int32)))])
  refine Done.go (fun _ kt_ => XS.iushr X0.here hx rfl (hb hby d5_76) rfl kt_) ?_
  show Done p e s below _ _ _ s₁ (mkF m 77 #[.val (.int (2 : Int32)), .val (.int ((31 : Int32) + (-4 : Int32)))] [(.int (((2 : Int32).toUInt32 >>> ((1 : Int32) &&& 31).toUInt32).toInt32)), (.int ((31 : Int32) + (-4 : Int32)))])
  rw [show (((2 : Int32).toUInt32 >>> ((1 : Int32) &&& 31).toUInt32).toInt32) = (1 : Int32) from by decide]
  show Done p e s below _ _ _ s₁ (mkF m 77 #[.val (.int (2 : Int32)), .val (.int ((31 : Int32) + (-4 : Int32)))] [(.int (1 : Int32)), (.int ((31 : Int32) + (-4 : Int32)))])
  refine Done.go (fun _ kt_ => XS.isub X0.here hx rfl (hb hby d5_77) rfl kt_) ?_
  show Done p e s below _ _ _ s₁ (mkF m 78 #[.val (.int (2 : Int32)), .val (.int ((31 : Int32) + (-4 : Int32)))] [(.int (((31 : Int32) + (-4 : Int32)) - (1 : Int32)))])
  refine Done.retI X0 hx hlk hrt (hb hby d5_78) ?_ (by first | decide | omega) (by first | decide | omega)
  rw [e0]
  exact ⟨by decide, N0, rfl⟩
theorem d4_0 : decode jdk_35_method_48_code 0 = .ok (.lload_n 0, 1) := by decide +kernel
theorem d4_1 : decode jdk_35_method_48_code 1 = .ok (.bipush 32, 2) := by decide +kernel
theorem d4_3 : decode jdk_35_method_48_code 3 = .ok (.lushr, 1) := by decide +kernel
theorem d4_4 : decode jdk_35_method_48_code 4 = .ok (.l2i, 1) := by decide +kernel
theorem d4_5 : decode jdk_35_method_48_code 5 = .ok (.istore_n 2, 1) := by decide +kernel
theorem d4_6 : decode jdk_35_method_48_code 6 = .ok (.iload_n 2, 1) := by decide +kernel
theorem d4_7 : decode jdk_35_method_48_code 7 = .ok (.ifCond .ne 14, 3) := by decide +kernel
theorem d4_10 : decode jdk_35_method_48_code 10 = .ok (.bipush 32, 2) := by decide +kernel
theorem d4_12 : decode jdk_35_method_48_code 12 = .ok (.lload_n 0, 1) := by decide +kernel
theorem d4_13 : decode jdk_35_method_48_code 13 = .ok (.l2i, 1) := by decide +kernel
theorem d4_14 : decode jdk_35_method_48_code 14 = .ok (.invokestatic 308, 3) := by decide +kernel
theorem d4_17 : decode jdk_35_method_48_code 17 = .ok (.iadd, 1) := by decide +kernel
theorem d4_18 : decode jdk_35_method_48_code 18 = .ok (.goto 7, 3) := by decide +kernel
theorem d4_21 : decode jdk_35_method_48_code 21 = .ok (.iload_n 2, 1) := by decide +kernel
theorem d4_22 : decode jdk_35_method_48_code 22 = .ok (.invokestatic 308, 3) := by decide +kernel
theorem d4_25 : decode jdk_35_method_48_code 25 = .ok (.ireturn, 1) := by decide +kernel
theorem own_pn1 : plainName "java/lang/Long" = true := by first | (simp [plainName, overriddenIn]; done) | decide +kernel
theorem ef_rm4 (m : MethodId)  : entryFrame m #[(.long (32 : Int64))] 3 = mkF m 0 #[.val (.long (32 : Int64)), .second, .unset] [] := by first | (simp [entryFrame, mkF, argsToLocals, Value.category]; done) | rfl
set_option maxRecDepth 65536 in
set_option maxHeartbeats 40000000 in
theorem rm4 (l : Launch) (Z : State) (a0 : Array Value) (hw : ∀ d ∈ tables_1, d.before a0 Z = true) (ws : List Jvm.Cond) (h0 : Heap) (n0 : Nat) (Z0 : n0 ≤ h0.size) :
    MetFree l (⟨"java/lang/Long", "numberOfLeadingZeros", "(J)I"⟩ : MethodName) (head1 (Jvm.Cond.code (⟨"java/lang/Long", "numberOfLeadingZeros", "(J)I"⟩ : MethodName) jdk_35_method_48_code 3 (some .int) :: ws) ({ frames := 1, cells := 0, slots := 0, locals := 14 } : Room)) (fun a U => a = #[(.long (32 : Int64))] ∧ Z.Warmed39 U.vm ∧ U.heap = h0) (fun _ _ _ _ _ => True) (fun _ U o U' => ∃ vr Lr, o = .returned vr ∧ QI 58 h0 n0 vr U'.heap Lr ∧ FrameEnd U o U' Lr 0 0) := by
  refine MetFree.of_bodySF (plainFor_of_name own_pn1) hisR ?_
  intro p e s m args below meth c s₁ Bd hml0 hP hK
  obtain ⟨rfl, hZ, hh⟩ := hP
  have hx := Bd.exec
  have hby := Bd.bytes
  have hml : c.maxLocals = 3 := hml0
  have hown : s.vm.findClass "java/lang/Long" = some m.cls := findClass_of_methodNamed Bd.named
  have hnm := (name_of_methodNamed Bd.named Bd.method).1
  have hlk : meth.locks = false := Bd.notSynchronized
  have hrt := Bd.returns
  have X0 : Stand p l e ({ frames := 1, cells := 0, slots := 0, locals := 14 } : Room) s m #[(.long (32 : Int64))] below meth c s₁ [] 0 0 := Stand.of_body Bd
  have e0 : s₁.heap = h0 := by rw [← hh, Bd.state]; rfl
  have N0 := Fr.nil n0
  show Done p e s below 0 0 (QI 58 h0 n0) s₁ (entryFrame m #[(.long (32 : Int64))] 3)
  rw [ef_rm4]
  show Done p e s below _ _ _ s₁ (mkF m 0 #[.val (.long (32 : Int64)), .second, .unset] [])
  refine Done.go (fun _ kt_ => XS.lloadN X0.here hx rfl (hb hby d4_0) rfl kt_) ?_
  show Done p e s below _ _ _ s₁ (mkF m 1 #[.val (.long (32 : Int64)), .second, .unset] [(.long (32 : Int64))])
  refine Done.go (fun _ kt_ => XS.bipush X0.here hx rfl (hb hby d4_1) kt_) ?_
  show Done p e s below _ _ _ s₁ (mkF m 3 #[.val (.long (32 : Int64)), .second, .unset] [(.int (32 : Int32)), (.long (32 : Int64))])
  refine Done.go (fun _ kt_ => XS.lushr X0.here hx rfl (hb hby d4_3) rfl kt_) ?_
  show Done p e s below _ _ _ s₁ (mkF m 4 #[.val (.long (32 : Int64)), .second, .unset] [(.long (((32 : Int64).toUInt64 >>> ((32 : Int32) &&& 0x3f).toInt64.toUInt64).toInt64))])
  rw [show (((32 : Int64).toUInt64 >>> ((32 : Int32) &&& 0x3f).toInt64.toUInt64).toInt64) = (0 : Int64) from by decide]
  show Done p e s below _ _ _ s₁ (mkF m 4 #[.val (.long (32 : Int64)), .second, .unset] [(.long (0 : Int64))])
  refine Done.go (fun _ kt_ => XS.l2i X0.here hx rfl (hb hby d4_4) rfl kt_) ?_
  show Done p e s below _ _ _ s₁ (mkF m 5 #[.val (.long (32 : Int64)), .second, .unset] [(.int ((0 : Int64).toInt32))])
  rw [show ((0 : Int64).toInt32) = (0 : Int32) from by decide]
  show Done p e s below _ _ _ s₁ (mkF m 5 #[.val (.long (32 : Int64)), .second, .unset] [(.int (0 : Int32))])
  refine Done.go (fun _ kt_ => XS.istoreN X0.here hx rfl (hb hby d4_5) rfl (l' := #[.val (.long (32 : Int64)), .second, .val (.int (0 : Int32))]) rfl kt_) ?_
  show Done p e s below _ _ _ s₁ (mkF m 6 #[.val (.long (32 : Int64)), .second, .val (.int (0 : Int32))] [])
  refine Done.go (fun _ kt_ => XS.iloadN X0.here hx rfl (hb hby d4_6) rfl kt_) ?_
  show Done p e s below _ _ _ s₁ (mkF m 7 #[.val (.long (32 : Int64)), .second, .val (.int (0 : Int32))] [(.int (0 : Int32))])
  refine Done.go (fun _ kt_ => XS.ifNo X0.here hx rfl (hb hby d4_7) rfl ((if0 _ _).trans (teq (by decide)).2) kt_) ?_
  show Done p e s below _ _ _ s₁ (mkF m 10 #[.val (.long (32 : Int64)), .second, .val (.int (0 : Int32))] [])
  refine Done.go (fun _ kt_ => XS.bipush X0.here hx rfl (hb hby d4_10) kt_) ?_
  show Done p e s below _ _ _ s₁ (mkF m 12 #[.val (.long (32 : Int64)), .second, .val (.int (0 : Int32))] [(.int (32 : Int32))])
  refine Done.go (fun _ kt_ => XS.lloadN X0.here hx rfl (hb hby d4_12) rfl kt_) ?_
  show Done p e s below _ _ _ s₁ (mkF m 13 #[.val (.long (32 : Int64)), .second, .val (.int (0 : Int32))] [(.long (32 : Int64)), (.int (32 : Int32))])
  refine Done.go (fun _ kt_ => XS.l2i X0.here hx rfl (hb hby d4_13) rfl kt_) ?_
  show Done p e s below _ _ _ s₁ (mkF m 14 #[.val (.long (32 : Int64)), .second, .val (.int (0 : Int32))] [(.int ((32 : Int64).toInt32)), (.int (32 : Int32))])
  rw [show ((32 : Int64).toInt32) = (32 : Int32) from by decide]
  show Done p e s below _ _ _ s₁ (mkF m 14 #[.val (.long (32 : Int64)), .second, .val (.int (0 : Int32))] [(.int (32 : Int32)), (.int (32 : Int32))])
  obtain ⟨v1, T1, Lc1, X1, hQ1, st1⟩ := own_backG (Jvm.LawKit.callS X0 hx (y := (⟨"java/lang/Integer", "numberOfLeadingZeros", "(I)I"⟩ : MethodName)) hown (mvT hZ (hw _ (List.mem_of_getElem? (i := 23) rfl))) (mvT hZ (hw _ (List.mem_of_getElem? (i := 24) rfl))) (mvT hZ (hw _ (List.mem_of_getElem? (i := 25) rfl))) (mvT hZ (hw _ (List.mem_of_getElem? (i := 26) rfl))) (by decide) (backOf (W := 1) (rm5 l Z a0 hw []  h0 n0 Z0) hZ (hw _ (List.mem_of_getElem? (i := 26) rfl)) (hw _ (List.mem_of_getElem? (i := 25) rfl)) (by decide) (by decide)) (g := (mkF m 14 #[.val (.long (32 : Int64)), .second, .val (.int (0 : Int32))] [(.int (32 : Int32)), (.int (32 : Int32))])) rfl (by rw [hml]; rfl) (argsL := [(.int (32 : Int32))]) (rest := [(.int (32 : Int32))]) (lenOf own_pd0 rfl) rfl (by show 2 * 0 + _ ≤ _; exact Nat.le_of_eq rfl) (hb hby d4_14) (fun _ _ => ⟨rfl, e0, (by first | decide | omega : 0 + 0 ≤ _), (by first | decide | omega : 0 + 0 ≤ _)⟩))
  obtain ⟨rfl, N1q, e1⟩ := hQ1
  refine Done.go st1 ?_
  clear st1
  have N1 := Fr.app N0 N1q
  clear N1q
  obtain ⟨Lh1, X1h, N1h⟩ : ∃ L, Stand p l e ({ frames := 1, cells := 0, slots := 0, locals := 14 } : Room) s m #[(.long (32 : Int64))] below meth c T1 L 0 0 ∧ Fr n0 L := ⟨_, X1, N1⟩
  clear X1 N1
  show Done p e s below _ _ _ T1 (mkF m 17 #[.val (.long (32 : Int64)), .second, .val (.int (0 : Int32))] [(.int (26 : Int32)), (.int (32 : Int32))])
  refine Done.go (fun _ kt_ => XS.iadd X1h.here hx rfl (hb hby d4_17) rfl kt_) ?_
  show Done p e s below _ _ _ T1 (mkF m 18 #[.val (.long (32 : Int64)), .second, .val (.int (0 : Int32))] [(.int ((32 : Int32) + (26 : Int32)))])
  rw [show ((32 : Int32) + (26 : Int32)) = (58 : Int32) from by decide]
  show Done p e s below _ _ _ T1 (mkF m 18 #[.val (.long (32 : Int64)), .second, .val (.int (0 : Int32))] [(.int (58 : Int32))])
  refine Done.go (fun _ kt_ => XS.goto X1h.here hx rfl (pc0 := 18) (pc' := 25) rfl (hb hby d4_18) (by decide) (by decide) kt_) ?_
  show Done p e s below _ _ _ T1 (mkF m 25 #[.val (.long (32 : Int64)), .second, .val (.int (0 : Int32))] [(.int (58 : Int32))])
  refine Done.retI X1h hx hlk hrt (hb hby d4_25) ?_ (by first | decide | omega) (by first | decide | omega)
  rw [e1]
  exact ⟨by decide, N1h, rfl⟩
def Q1 (Z : State) (a1 : Addr) (h0 : Heap) (n0 : Nat) (v : Option Value) (h : Heap) (L : List Loc) : Prop := v = none ∧ Fr n0 L ∧ h0.size ≤ h.size ∧ ∃ bP bB : Addr, n0 ≤ bP ∧ n0 ≤ bB ∧ a1 ≠ bP ∧ a1 ≠ bB ∧ bP ≠ bB ∧ Exa Z h a1 "com/example/pivotwise/pivotwise/index/PostingBuffer" ∧ Fld Z h a1 "com/example/pivotwise/pivotwise/index/PostingBuffer" "posting" "[B" (.ref bP) ∧ Fld Z h a1 "com/example/pivotwise/pivotwise/index/PostingBuffer" "blockBits" "I" (.int 5) ∧ Fld Z h a1 "com/example/pivotwise/pivotwise/index/PostingBuffer" "blockSize" "I" (.int 32) ∧ Fld Z h a1 "com/example/pivotwise/pivotwise/index/PostingBuffer" "mostSlice" "I" (.int 32) ∧ Fld Z h a1 "com/example/pivotwise/pivotwise/index/PostingBuffer" "blocks" "[[B" (.ref bB) ∧ Fld Z h a1 "com/example/pivotwise/pivotwise/index/PostingBuffer" "taken" "I" (.int 0) ∧ Fld Z h a1 "com/example/pivotwise/pivotwise/index/PostingBuffer" "block" "I" (.int 0) ∧ Ari Z h bP .byte 10 (fun _ => 0) ∧ Blk Z h bB .null
theorem d1_0 : decode prog_122_method_1_code 0 = .ok (.aload_n 0, 1) := by decide +kernel
theorem d1_1 : decode prog_122_method_1_code 1 = .ok (.invokespecial 1, 3) := by decide +kernel
theorem d1_4 : decode prog_122_method_1_code 4 = .ok (.aload_n 0, 1) := by decide +kernel
theorem d1_5 : decode prog_122_method_1_code 5 = .ok (.bipush 10, 2) := by decide +kernel
theorem d1_7 : decode prog_122_method_1_code 7 = .ok (.newarray .byte, 2) := by decide +kernel
theorem d1_9 : decode prog_122_method_1_code 9 = .ok (.putfield 9, 3) := by decide +kernel
theorem d1_12 : decode prog_122_method_1_code 12 = .ok (.aload_n 0, 1) := by decide +kernel
theorem d1_13 : decode prog_122_method_1_code 13 = .ok (.bipush 63, 2) := by decide +kernel
theorem d1_15 : decode prog_122_method_1_code 15 = .ok (.lload_n 1, 1) := by decide +kernel
theorem d1_16 : decode prog_122_method_1_code 16 = .ok (.ldc2_w 13, 3) := by decide +kernel
theorem d1_19 : decode prog_122_method_1_code 19 = .ok (.invokestatic 15, 3) := by decide +kernel
theorem d1_22 : decode prog_122_method_1_code 22 = .ok (.invokestatic 21, 3) := by decide +kernel
theorem d1_25 : decode prog_122_method_1_code 25 = .ok (.isub, 1) := by decide +kernel
theorem d1_26 : decode prog_122_method_1_code 26 = .ok (.putfield 27, 3) := by decide +kernel
theorem d1_29 : decode prog_122_method_1_code 29 = .ok (.aload_n 0, 1) := by decide +kernel
theorem d1_30 : decode prog_122_method_1_code 30 = .ok (.iconst 1, 1) := by decide +kernel
theorem d1_31 : decode prog_122_method_1_code 31 = .ok (.aload_n 0, 1) := by decide +kernel
theorem d1_32 : decode prog_122_method_1_code 32 = .ok (.getfield 27, 3) := by decide +kernel
theorem d1_35 : decode prog_122_method_1_code 35 = .ok (.ishl, 1) := by decide +kernel
theorem d1_36 : decode prog_122_method_1_code 36 = .ok (.putfield 31, 3) := by decide +kernel
theorem d1_39 : decode prog_122_method_1_code 39 = .ok (.aload_n 0, 1) := by decide +kernel
theorem d1_40 : decode prog_122_method_1_code 40 = .ok (.sipush 8192, 3) := by decide +kernel
theorem d1_43 : decode prog_122_method_1_code 43 = .ok (.aload_n 0, 1) := by decide +kernel
theorem d1_44 : decode prog_122_method_1_code 44 = .ok (.getfield 31, 3) := by decide +kernel
theorem d1_47 : decode prog_122_method_1_code 47 = .ok (.invokestatic 34, 3) := by decide +kernel
theorem d1_50 : decode prog_122_method_1_code 50 = .ok (.putfield 37, 3) := by decide +kernel
theorem d1_53 : decode prog_122_method_1_code 53 = .ok (.aload_n 0, 1) := by decide +kernel
theorem d1_54 : decode prog_122_method_1_code 54 = .ok (.lload_n 1, 1) := by decide +kernel
theorem d1_55 : decode prog_122_method_1_code 55 = .ok (.aload_n 0, 1) := by decide +kernel
theorem d1_56 : decode prog_122_method_1_code 56 = .ok (.getfield 27, 3) := by decide +kernel
theorem d1_59 : decode prog_122_method_1_code 59 = .ok (.lshr, 1) := by decide +kernel
theorem d1_60 : decode prog_122_method_1_code 60 = .ok (.ldc 42, 2) := by decide +kernel
theorem d1_62 : decode prog_122_method_1_code 62 = .ok (.aload_n 0, 1) := by decide +kernel
theorem d1_63 : decode prog_122_method_1_code 63 = .ok (.getfield 27, 3) := by decide +kernel
theorem d1_66 : decode prog_122_method_1_code 66 = .ok (.ishr, 1) := by decide +kernel
theorem d1_67 : decode prog_122_method_1_code 67 = .ok (.i2l, 1) := by decide +kernel
theorem d1_68 : decode prog_122_method_1_code 68 = .ok (.invokestatic 15, 3) := by decide +kernel
theorem d1_71 : decode prog_122_method_1_code 71 = .ok (.l2i, 1) := by decide +kernel
theorem d1_72 : decode prog_122_method_1_code 72 = .ok (.anewarray 43, 3) := by decide +kernel
theorem d1_75 : decode prog_122_method_1_code 75 = .ok (.putfield 44, 3) := by decide +kernel
theorem d1_78 : decode prog_122_method_1_code 78 = .ok (.return_, 1) := by decide +kernel
theorem own_pn2 : plainName "com/example/pivotwise/pivotwise/index/PostingBuffer" = true := by first | (simp [plainName, overriddenIn]; done) | decide +kernel
theorem ef_rm1 (m : MethodId) (a1 : Addr) : entryFrame m #[(.ref a1), (.long (32 : Int64))] 3 = mkF m 0 #[.val (.ref a1), .val (.long (32 : Int64)), .second] [] := by first | (simp [entryFrame, mkF, argsToLocals, Value.category]; done) | rfl
set_option maxRecDepth 65536 in
set_option maxHeartbeats 40000000 in
theorem rm1 (l : Launch) (Z : State) (a0 : Array Value) (hw : ∀ d ∈ tables_1, d.before a0 Z = true) (ws : List Jvm.Cond) (a1 : Addr) (h0 : Heap) (n0 : Nat) (Z0 : n0 ≤ h0.size) (E1 : Exa Z h0 a1 "com/example/pivotwise/pivotwise/index/PostingBuffer") (g1 : n0 ≤ a1) (F_posting : Fld Z h0 a1 "com/example/pivotwise/pivotwise/index/PostingBuffer" "posting" "[B" .null) (F_blockBits : Fld Z h0 a1 "com/example/pivotwise/pivotwise/index/PostingBuffer" "blockBits" "I" (.int (0 : Int32))) (F_blockSize : Fld Z h0 a1 "com/example/pivotwise/pivotwise/index/PostingBuffer" "blockSize" "I" (.int (0 : Int32))) (F_mostSlice : Fld Z h0 a1 "com/example/pivotwise/pivotwise/index/PostingBuffer" "mostSlice" "I" (.int (0 : Int32))) (F_blocks : Fld Z h0 a1 "com/example/pivotwise/pivotwise/index/PostingBuffer" "blocks" "[[B" .null) (F_taken : Fld Z h0 a1 "com/example/pivotwise/pivotwise/index/PostingBuffer" "taken" "I" (.int (0 : Int32))) (F_block : Fld Z h0 a1 "com/example/pivotwise/pivotwise/index/PostingBuffer" "block" "I" (.int (0 : Int32))) :
    MetFree l (⟨"com/example/pivotwise/pivotwise/index/PostingBuffer", "<init>", "(J)V"⟩ : MethodName) (head1 (Jvm.Cond.code (⟨"com/example/pivotwise/pivotwise/index/PostingBuffer", "<init>", "(J)V"⟩ : MethodName) prog_122_method_1_code 3 none :: ws) ({ frames := 2, cells := 2, slots := 11, locals := 45 } : Room)) (fun a U => a = #[(.ref a1), (.long (32 : Int64))] ∧ Z.Warmed39 U.vm ∧ U.heap = h0) (fun _ _ _ _ _ => True) (fun _ U o U' => ∃ vr Lr, o = .returned vr ∧ Q1 Z a1 h0 n0 vr U'.heap Lr ∧ FrameEnd U o U' Lr 2 11) := by
  refine MetFree.of_bodySF (plainFor_of_name own_pn2) hisR ?_
  intro p e s m args below meth c s₁ Bd hml0 hP hK
  obtain ⟨rfl, hZ, hh⟩ := hP
  have hx := Bd.exec
  have hby := Bd.bytes
  have hml : c.maxLocals = 3 := hml0
  have hown : s.vm.findClass "com/example/pivotwise/pivotwise/index/PostingBuffer" = some m.cls := findClass_of_methodNamed Bd.named
  have hnm := (name_of_methodNamed Bd.named Bd.method).1
  have hlk : meth.locks = false := Bd.notSynchronized
  have hrt := Bd.returns
  have X0 : Stand p l e ({ frames := 2, cells := 2, slots := 11, locals := 45 } : Room) s m #[(.ref a1), (.long (32 : Int64))] below meth c s₁ [] 0 0 := Stand.of_body Bd
  have e0 : s₁.heap = h0 := by rw [← hh, Bd.state]; rfl
  have N0 := Fr.nil n0
  show Done p e s below 2 11 (Q1 Z a1 h0 n0) s₁ (entryFrame m #[(.ref a1), (.long (32 : Int64))] 3)
  rw [ef_rm1]
  show Done p e s below _ _ _ s₁ (mkF m 0 #[.val (.ref a1), .val (.long (32 : Int64)), .second] [])
  refine Done.go (fun _ kt_ => XS.aloadN X0.here hx rfl (hb hby d1_0) rfl rfl kt_) ?_
  show Done p e s below _ _ _ s₁ (mkF m 1 #[.val (.ref a1), .val (.long (32 : Int64)), .second] [(.ref a1)])
  obtain ⟨T2, X2, e2, st2⟩ := initO X0 hx hZ hown (hw _ (List.mem_of_getElem? (i := 8) rfl)) (hw _ (List.mem_of_getElem? (i := 9) rfl)) (hw _ (List.mem_of_getElem? (i := 10) rfl)) e0 (g := (mkF m 1 #[.val (.ref a1), .val (.long (32 : Int64)), .second] [(.ref a1)])) rfl (by rw [hml]; rfl) rfl (hb hby d1_1) (by decide) (W := 0) (by show 2 * 0 + _ ≤ _; exact Nat.le_of_eq rfl) (by decide)
  refine Done.go st2 ?_
  clear st2
  show Done p e s below _ _ _ T2 (mkF m 4 #[.val (.ref a1), .val (.long (32 : Int64)), .second] [])
  refine Done.go (fun _ kt_ => XS.aloadN X2.here hx rfl (hb hby d1_4) rfl rfl kt_) ?_
  show Done p e s below _ _ _ T2 (mkF m 5 #[.val (.ref a1), .val (.long (32 : Int64)), .second] [(.ref a1)])
  refine Done.go (fun _ kt_ => XS.bipush X2.here hx rfl (hb hby d1_5) kt_) ?_
  show Done p e s below _ _ _ T2 (mkF m 7 #[.val (.ref a1), .val (.long (32 : Int64)), .second] [(.int (10 : Int32)), (.ref a1)])
  obtain ⟨T3, h3, k3, X3, e3, E3, A3, st3⟩ := newP X2 hx hZ (hw _ (List.mem_of_getElem? (i := 11) rfl)) e2 (g := (mkF m 7 #[.val (.ref a1), .val (.long (32 : Int64)), .second] [(.int (10 : Int32)), (.ref a1)])) rfl (hb hby d1_7) rfl (by decide) (cap := 10) (by decide) (by decide) (by first | decide | omega) (by first | decide | omega)
  obtain ⟨b3, g3⟩ : ∃ z, z = h0.size := ⟨_, rfl⟩
  rw [← g3] at A3 st3
  have ne_a1_b3 : a1 ≠ b3 := Nat.ne_of_lt (Nat.lt_of_lt_of_le E1.lt (Nat.le_of_eq g3.symm))
  have gz_b3 : n0 ≤ b3 := Nat.le_trans Z0 (Nat.le_of_eq g3.symm)
  have Z3 : n0 ≤ h3.size := Nat.le_trans Z0 E3.1
  have hs_b3 : h0.size ≤ b3 := Nat.le_trans (Keep.refl h0 [a1]).1 (Nat.le_of_eq g3.symm)
  have K3 : Keep h0 h3 [a1] := (Keep.refl h0 [a1]).ext E3
  obtain ⟨Lh3, X3h, N3h⟩ : ∃ L, Stand p l e ({ frames := 2, cells := 2, slots := 11, locals := 45 } : Room) s m #[(.ref a1), (.long (32 : Int64))] below meth c T3 L 1 10 ∧ Fr n0 L := ⟨_, X3, N0⟩
  clear X3 X2 e2
  have V3 := Ari.new A3 (by decide) (n := 10) rfl rfl
  refine Done.go st3 ?_
  clear st3
  show Done p e s below _ _ _ T3 (mkF m 9 #[.val (.ref a1), .val (.long (32 : Int64)), .second] [(.ref b3), (.ref a1)])
  have f4 := (E1.ext E3)
  have f5 := (F_posting.ext E3)
  obtain ⟨T6, h6, X6, e6, W6, st6⟩ := putF X3h hx hZ hown (host := "") (Or.inl (hw _ (List.mem_of_getElem? (i := 12) rfl))) Via.refl e3 f5 f4 (Or.inr ⟨(hw _ (List.mem_of_getElem? (i := 13) rfl)), rfl, hnm⟩) (hw _ (List.mem_of_getElem? (i := 2) rfl)) (ty := (.array .byte)) (by decide) rfl rfl (g := (mkF m 9 #[.val (.ref a1), .val (.long (32 : Int64)), .second] [(.ref b3), (.ref a1)])) rfl rfl (hb hby d1_9)
  have Fw6 : Fld Z h6 a1 "com/example/pivotwise/pivotwise/index/PostingBuffer" "posting" "[B" (.ref b3) := f5.same W6
  have N6 := Fr.snoc X6 N3h g1
  have Z6 : n0 ≤ h6.size := by rw [W6.size]; exact Z3
  have K6 : Keep h0 h6 [a1] := K3.wr W6 (Or.inl (List.mem_of_getElem? (i := 0) rfl))
  obtain ⟨Lh6, X6h, N6h⟩ : ∃ L, Stand p l e ({ frames := 2, cells := 2, slots := 11, locals := 45 } : Room) s m #[(.ref a1), (.long (32 : Int64))] below meth c T6 L 1 10 ∧ Fr n0 L := ⟨_, X6, N6⟩
  clear X6 N6 X3h e3 N3h Z3 K3
  refine Done.go st6 ?_
  clear st6
  show Done p e s below _ _ _ T6 (mkF m 12 #[.val (.ref a1), .val (.long (32 : Int64)), .second] [])
  refine Done.go (fun _ kt_ => XS.aloadN X6h.here hx rfl (hb hby d1_12) rfl rfl kt_) ?_
  show Done p e s below _ _ _ T6 (mkF m 13 #[.val (.ref a1), .val (.long (32 : Int64)), .second] [(.ref a1)])
  refine Done.go (fun _ kt_ => XS.bipush X6h.here hx rfl (hb hby d1_13) kt_) ?_
  show Done p e s below _ _ _ T6 (mkF m 15 #[.val (.ref a1), .val (.long (32 : Int64)), .second] [(.int (63 : Int32)), (.ref a1)])
  refine Done.go (fun _ kt_ => XS.lloadN X6h.here hx rfl (hb hby d1_15) rfl kt_) ?_
  show Done p e s below _ _ _ T6 (mkF m 16 #[.val (.ref a1), .val (.long (32 : Int64)), .second] [(.long (32 : Int64)), (.int (63 : Int32)), (.ref a1)])
  refine Done.go (fun t_ kt_ => X6h.ldc2Long hx hown (mvT hZ (hw _ (List.mem_of_getElem? (i := 14) rfl))) (g := (mkF m 16 #[.val (.ref a1), .val (.long (32 : Int64)), .second] [(.long (32 : Int64)), (.int (63 : Int32)), (.ref a1)])) rfl (hb hby d1_16) t_ kt_) ?_
  show Done p e s below _ _ _ T6 (mkF m 19 #[.val (.ref a1), .val (.long (32 : Int64)), .second] [(.long (65536 : Int64)), (.long (32 : Int64)), (.int (63 : Int32)), (.ref a1)])
  obtain ⟨v7, T7, Lc7, X7, hQ7, st7⟩ := own_backG (Jvm.LawKit.callS X6h hx (y := (⟨"java/lang/Math", "min", "(JJ)J"⟩ : MethodName)) hown (mvT hZ (hw _ (List.mem_of_getElem? (i := 15) rfl))) (mvT hZ (hw _ (List.mem_of_getElem? (i := 16) rfl))) (mvT hZ (hw _ (List.mem_of_getElem? (i := 17) rfl))) (mvT hZ (hw _ (List.mem_of_getElem? (i := 18) rfl))) (by decide) (backOf (W := 2) (rm3 l Z a0 hw [] (32 : Int64) (65536 : Int64) h6 n0 Z6) hZ (hw _ (List.mem_of_getElem? (i := 18) rfl)) (hw _ (List.mem_of_getElem? (i := 17) rfl)) (by decide) (by decide)) (g := (mkF m 19 #[.val (.ref a1), .val (.long (32 : Int64)), .second] [(.long (65536 : Int64)), (.long (32 : Int64)), (.int (63 : Int32)), (.ref a1)])) rfl (by rw [hml]; rfl) (argsL := [(.long (32 : Int64)), (.long (65536 : Int64))]) (rest := [(.int (63 : Int32)), (.ref a1)]) (lenOf own_pd1 rfl) rfl (by show 2 * 0 + _ ≤ _; exact Nat.le_of_eq rfl) (hb hby d1_19) (fun _ _ => ⟨rfl, e6, (by first | decide | omega : 1 + 0 ≤ _), (by first | decide | omega : 10 + 0 ≤ _)⟩))
  obtain ⟨rfl, N7q, e7⟩ := hQ7
  refine Done.go st7 ?_
  clear st7
  have N7 := Fr.app N6h N7q
  clear N7q
  obtain ⟨Lh7, X7h, N7h⟩ : ∃ L, Stand p l e ({ frames := 2, cells := 2, slots := 11, locals := 45 } : Room) s m #[(.ref a1), (.long (32 : Int64))] below meth c T7 L 1 10 ∧ Fr n0 L := ⟨_, X7, N7⟩
  clear X7 N7 X6h e6 N6h
  show Done p e s below _ _ _ T7 (mkF m 22 #[.val (.ref a1), .val (.long (32 : Int64)), .second] [(.long (own_minJ (32 : Int64) (65536 : Int64))), (.int (63 : Int32)), (.ref a1)])
  rw [show (own_minJ (32 : Int64) (65536 : Int64)) = (32 : Int64) from by decide]
  show Done p e s below _ _ _ T7 (mkF m 22 #[.val (.ref a1), .val (.long (32 : Int64)), .second] [(.long (32 : Int64)), (.int (63 : Int32)), (.ref a1)])
  obtain ⟨v8, T8, Lc8, X8, hQ8, st8⟩ := own_backG (Jvm.LawKit.callS X7h hx (y := (⟨"java/lang/Long", "numberOfLeadingZeros", "(J)I"⟩ : MethodName)) hown (mvT hZ (hw _ (List.mem_of_getElem? (i := 19) rfl))) (mvT hZ (hw _ (List.mem_of_getElem? (i := 20) rfl))) (mvT hZ (hw _ (List.mem_of_getElem? (i := 21) rfl))) (mvT hZ (hw _ (List.mem_of_getElem? (i := 22) rfl))) (by decide) (backOf (W := 2) (rm4 l Z a0 hw []  h6 n0 Z6) hZ (hw _ (List.mem_of_getElem? (i := 22) rfl)) (hw _ (List.mem_of_getElem? (i := 21) rfl)) (by decide) (by decide)) (g := (mkF m 22 #[.val (.ref a1), .val (.long (32 : Int64)), .second] [(.long (32 : Int64)), (.int (63 : Int32)), (.ref a1)])) rfl (by rw [hml]; rfl) (argsL := [(.long (32 : Int64))]) (rest := [(.int (63 : Int32)), (.ref a1)]) (lenOf own_pd2 rfl) rfl (by show 2 * 0 + _ ≤ _; exact Nat.le_of_eq rfl) (hb hby d1_22) (fun _ _ => ⟨rfl, e7, (by first | decide | omega : 1 + 0 ≤ _), (by first | decide | omega : 10 + 0 ≤ _)⟩))
  obtain ⟨rfl, N8q, e8⟩ := hQ8
  refine Done.go st8 ?_
  clear st8
  have N8 := Fr.app N7h N8q
  clear N8q
  obtain ⟨Lh8, X8h, N8h⟩ : ∃ L, Stand p l e ({ frames := 2, cells := 2, slots := 11, locals := 45 } : Room) s m #[(.ref a1), (.long (32 : Int64))] below meth c T8 L 1 10 ∧ Fr n0 L := ⟨_, X8, N8⟩
  clear X8 N8 X7h e7 N7h
  show Done p e s below _ _ _ T8 (mkF m 25 #[.val (.ref a1), .val (.long (32 : Int64)), .second] [(.int (58 : Int32)), (.int (63 : Int32)), (.ref a1)])
  refine Done.go (fun _ kt_ => XS.isub X8h.here hx rfl (hb hby d1_25) rfl kt_) ?_
  show Done p e s below _ _ _ T8 (mkF m 26 #[.val (.ref a1), .val (.long (32 : Int64)), .second] [(.int ((63 : Int32) - (58 : Int32))), (.ref a1)])
  rw [show ((63 : Int32) - (58 : Int32)) = (5 : Int32) from by decide]
  show Done p e s below _ _ _ T8 (mkF m 26 #[.val (.ref a1), .val (.long (32 : Int64)), .second] [(.int (5 : Int32)), (.ref a1)])
  have f9 := (f4.wr W6)
  have f10 := ((F_blockBits.ext E3).other W6 (Or.inr (slot_ne (Or.inr (hw _ (List.mem_of_getElem? (i := 29) rfl))) (Or.inr (hw _ (List.mem_of_getElem? (i := 13) rfl))) (by decide) (t := .int) (t' := (.array .byte)) (by decide) (by decide))))
  obtain ⟨T11, h11, X11, e11, W11, st11⟩ := putF X8h hx hZ hown (host := "") (Or.inl (hw _ (List.mem_of_getElem? (i := 28) rfl))) Via.refl e8 f10 f9 (Or.inr ⟨(hw _ (List.mem_of_getElem? (i := 29) rfl)), rfl, hnm⟩) (hw _ (List.mem_of_getElem? (i := 2) rfl)) (ty := .int) (by decide) rfl rfl (g := (mkF m 26 #[.val (.ref a1), .val (.long (32 : Int64)), .second] [(.int (5 : Int32)), (.ref a1)])) rfl rfl (hb hby d1_26)
  have Fw11 : Fld Z h11 a1 "com/example/pivotwise/pivotwise/index/PostingBuffer" "blockBits" "I" (.int (5 : Int32)) := f10.same W11
  have N11 := Fr.snoc X11 N8h g1
  have Z11 : n0 ≤ h11.size := by rw [W11.size]; exact Z6
  have K11 : Keep h0 h11 [a1] := K6.wr W11 (Or.inl (List.mem_of_getElem? (i := 0) rfl))
  obtain ⟨Lh11, X11h, N11h⟩ : ∃ L, Stand p l e ({ frames := 2, cells := 2, slots := 11, locals := 45 } : Room) s m #[(.ref a1), (.long (32 : Int64))] below meth c T11 L 1 10 ∧ Fr n0 L := ⟨_, X11, N11⟩
  clear X11 N11 X8h e8 N8h Z6 K6
  refine Done.go st11 ?_
  clear st11
  show Done p e s below _ _ _ T11 (mkF m 29 #[.val (.ref a1), .val (.long (32 : Int64)), .second] [])
  refine Done.go (fun _ kt_ => XS.aloadN X11h.here hx rfl (hb hby d1_29) rfl rfl kt_) ?_
  show Done p e s below _ _ _ T11 (mkF m 30 #[.val (.ref a1), .val (.long (32 : Int64)), .second] [(.ref a1)])
  refine Done.go (fun _ kt_ => XS.iconst X11h.here hx rfl (hb hby d1_30) kt_) ?_
  show Done p e s below _ _ _ T11 (mkF m 31 #[.val (.ref a1), .val (.long (32 : Int64)), .second] [(.int (1 : Int32)), (.ref a1)])
  refine Done.go (fun _ kt_ => XS.aloadN X11h.here hx rfl (hb hby d1_31) rfl rfl kt_) ?_
  show Done p e s below _ _ _ T11 (mkF m 32 #[.val (.ref a1), .val (.long (32 : Int64)), .second] [(.ref a1), (.int (1 : Int32)), (.ref a1)])
  obtain ⟨T12, X12, e12, st12⟩ := getF X11h hx hZ hown (host := "") (Or.inl (hw _ (List.mem_of_getElem? (i := 28) rfl))) Via.refl e11 Fw11 (g := (mkF m 32 #[.val (.ref a1), .val (.long (32 : Int64)), .second] [(.ref a1), (.int (1 : Int32)), (.ref a1)])) rfl rfl (hb hby d1_32)
  refine Done.go st12 ?_
  clear st12 X11h e11
  show Done p e s below _ _ _ T12 (mkF m 35 #[.val (.ref a1), .val (.long (32 : Int64)), .second] [(.int (5 : Int32)), (.int (1 : Int32)), (.ref a1)])
  refine Done.go (fun _ kt_ => XS.ishl X12.here hx rfl (hb hby d1_35) rfl kt_) ?_
  show Done p e s below _ _ _ T12 (mkF m 36 #[.val (.ref a1), .val (.long (32 : Int64)), .second] [(.int ((1 : Int32) <<< ((5 : Int32) &&& 31))), (.ref a1)])
  rw [show ((1 : Int32) <<< ((5 : Int32) &&& 31)) = (32 : Int32) from by decide]
  show Done p e s below _ _ _ T12 (mkF m 36 #[.val (.ref a1), .val (.long (32 : Int64)), .second] [(.int (32 : Int32)), (.ref a1)])
  have f13 := (f9.wr W11)
  have f14 := (((F_blockSize.ext E3).other W6 (Or.inr (slot_ne (Or.inr (hw _ (List.mem_of_getElem? (i := 31) rfl))) (Or.inr (hw _ (List.mem_of_getElem? (i := 13) rfl))) (by decide) (t := .int) (t' := (.array .byte)) (by decide) (by decide)))).other W11 (Or.inr (slot_ne (Or.inr (hw _ (List.mem_of_getElem? (i := 31) rfl))) (Or.inr (hw _ (List.mem_of_getElem? (i := 29) rfl))) (by decide) (t := .int) (t' := .int) (by decide) (by decide))))
  obtain ⟨T15, h15, X15, e15, W15, st15⟩ := putF X12 hx hZ hown (host := "") (Or.inl (hw _ (List.mem_of_getElem? (i := 30) rfl))) Via.refl e12 f14 f13 (Or.inr ⟨(hw _ (List.mem_of_getElem? (i := 31) rfl)), rfl, hnm⟩) (hw _ (List.mem_of_getElem? (i := 2) rfl)) (ty := .int) (by decide) rfl rfl (g := (mkF m 36 #[.val (.ref a1), .val (.long (32 : Int64)), .second] [(.int (32 : Int32)), (.ref a1)])) rfl rfl (hb hby d1_36)
  have Fw15 : Fld Z h15 a1 "com/example/pivotwise/pivotwise/index/PostingBuffer" "blockSize" "I" (.int (32 : Int32)) := f14.same W15
  have N15 := Fr.snoc X15 N11h g1
  have Z15 : n0 ≤ h15.size := by rw [W15.size]; exact Z11
  have K15 : Keep h0 h15 [a1] := K11.wr W15 (Or.inl (List.mem_of_getElem? (i := 0) rfl))
  obtain ⟨Lh15, X15h, N15h⟩ : ∃ L, Stand p l e ({ frames := 2, cells := 2, slots := 11, locals := 45 } : Room) s m #[(.ref a1), (.long (32 : Int64))] below meth c T15 L 1 10 ∧ Fr n0 L := ⟨_, X15, N15⟩
  clear X15 N15 X12 e12 N11h Z11 K11
  refine Done.go st15 ?_
  clear st15
  show Done p e s below _ _ _ T15 (mkF m 39 #[.val (.ref a1), .val (.long (32 : Int64)), .second] [])
  refine Done.go (fun _ kt_ => XS.aloadN X15h.here hx rfl (hb hby d1_39) rfl rfl kt_) ?_
  show Done p e s below _ _ _ T15 (mkF m 40 #[.val (.ref a1), .val (.long (32 : Int64)), .second] [(.ref a1)])
  refine Done.go (fun _ kt_ => XS.sipush X15h.here hx rfl (hb hby d1_40) kt_) ?_
  show Done p e s below _ _ _ T15 (mkF m 43 #[.val (.ref a1), .val (.long (32 : Int64)), .second] [(.int (8192 : Int32)), (.ref a1)])
  refine Done.go (fun _ kt_ => XS.aloadN X15h.here hx rfl (hb hby d1_43) rfl rfl kt_) ?_
  show Done p e s below _ _ _ T15 (mkF m 44 #[.val (.ref a1), .val (.long (32 : Int64)), .second] [(.ref a1), (.int (8192 : Int32)), (.ref a1)])
  obtain ⟨T16, X16, e16, st16⟩ := getF X15h hx hZ hown (host := "") (Or.inl (hw _ (List.mem_of_getElem? (i := 30) rfl))) Via.refl e15 Fw15 (g := (mkF m 44 #[.val (.ref a1), .val (.long (32 : Int64)), .second] [(.ref a1), (.int (8192 : Int32)), (.ref a1)])) rfl rfl (hb hby d1_44)
  refine Done.go st16 ?_
  clear st16 X15h e15
  show Done p e s below _ _ _ T16 (mkF m 47 #[.val (.ref a1), .val (.long (32 : Int64)), .second] [(.int (32 : Int32)), (.int (8192 : Int32)), (.ref a1)])
  obtain ⟨v17, T17, Lc17, X17, hQ17, st17⟩ := own_backG (Jvm.LawKit.callS X16 hx (y := (⟨"java/lang/Math", "min", "(II)I"⟩ : MethodName)) hown (mvT hZ (hw _ (List.mem_of_getElem? (i := 32) rfl))) (mvT hZ (hw _ (List.mem_of_getElem? (i := 33) rfl))) (mvT hZ (hw _ (List.mem_of_getElem? (i := 17) rfl))) (mvT hZ (hw _ (List.mem_of_getElem? (i := 34) rfl))) (by decide) (backOf (W := 1) (rm6 l Z a0 hw [] (8192 : Int32) (32 : Int32) h15 n0 Z15) hZ (hw _ (List.mem_of_getElem? (i := 34) rfl)) (hw _ (List.mem_of_getElem? (i := 17) rfl)) (by decide) (by decide)) (g := (mkF m 47 #[.val (.ref a1), .val (.long (32 : Int64)), .second] [(.int (32 : Int32)), (.int (8192 : Int32)), (.ref a1)])) rfl (by rw [hml]; rfl) (argsL := [(.int (8192 : Int32)), (.int (32 : Int32))]) (rest := [(.ref a1)]) (lenOf own_pd3 rfl) rfl (by show 2 * 0 + _ ≤ _; exact Nat.le_of_eq rfl) (hb hby d1_47) (fun _ _ => ⟨rfl, e16, (by first | decide | omega : 1 + 0 ≤ _), (by first | decide | omega : 10 + 0 ≤ _)⟩))
  obtain ⟨rfl, N17q, e17⟩ := hQ17
  refine Done.go st17 ?_
  clear st17
  have N17 := Fr.app N15h N17q
  clear N17q
  obtain ⟨Lh17, X17h, N17h⟩ : ∃ L, Stand p l e ({ frames := 2, cells := 2, slots := 11, locals := 45 } : Room) s m #[(.ref a1), (.long (32 : Int64))] below meth c T17 L 1 10 ∧ Fr n0 L := ⟨_, X17, N17⟩
  clear X17 N17 X16 e16 N15h
  show Done p e s below _ _ _ T17 (mkF m 50 #[.val (.ref a1), .val (.long (32 : Int64)), .second] [(.int (own_minI (8192 : Int32) (32 : Int32))), (.ref a1)])
  rw [show (own_minI (8192 : Int32) (32 : Int32)) = (32 : Int32) from by decide]
  show Done p e s below _ _ _ T17 (mkF m 50 #[.val (.ref a1), .val (.long (32 : Int64)), .second] [(.int (32 : Int32)), (.ref a1)])
  have f18 := (f13.wr W15)
  have f19 := ((((F_mostSlice.ext E3).other W6 (Or.inr (slot_ne (Or.inr (hw _ (List.mem_of_getElem? (i := 36) rfl))) (Or.inr (hw _ (List.mem_of_getElem? (i := 13) rfl))) (by decide) (t := .int) (t' := (.array .byte)) (by decide) (by decide)))).other W11 (Or.inr (slot_ne (Or.inr (hw _ (List.mem_of_getElem? (i := 36) rfl))) (Or.inr (hw _ (List.mem_of_getElem? (i := 29) rfl))) (by decide) (t := .int) (t' := .int) (by decide) (by decide)))).other W15 (Or.inr (slot_ne (Or.inr (hw _ (List.mem_of_getElem? (i := 36) rfl))) (Or.inr (hw _ (List.mem_of_getElem? (i := 31) rfl))) (by decide) (t := .int) (t' := .int) (by decide) (by decide))))
  obtain ⟨T20, h20, X20, e20, W20, st20⟩ := putF X17h hx hZ hown (host := "") (Or.inl (hw _ (List.mem_of_getElem? (i := 35) rfl))) Via.refl e17 f19 f18 (Or.inr ⟨(hw _ (List.mem_of_getElem? (i := 36) rfl)), rfl, hnm⟩) (hw _ (List.mem_of_getElem? (i := 2) rfl)) (ty := .int) (by decide) rfl rfl (g := (mkF m 50 #[.val (.ref a1), .val (.long (32 : Int64)), .second] [(.int (32 : Int32)), (.ref a1)])) rfl rfl (hb hby d1_50)
  have Fw20 : Fld Z h20 a1 "com/example/pivotwise/pivotwise/index/PostingBuffer" "mostSlice" "I" (.int (32 : Int32)) := f19.same W20
  have N20 := Fr.snoc X20 N17h g1
  have Z20 : n0 ≤ h20.size := by rw [W20.size]; exact Z15
  have K20 : Keep h0 h20 [a1] := K15.wr W20 (Or.inl (List.mem_of_getElem? (i := 0) rfl))
  obtain ⟨Lh20, X20h, N20h⟩ : ∃ L, Stand p l e ({ frames := 2, cells := 2, slots := 11, locals := 45 } : Room) s m #[(.ref a1), (.long (32 : Int64))] below meth c T20 L 1 10 ∧ Fr n0 L := ⟨_, X20, N20⟩
  clear X20 N20 X17h e17 N17h Z15 K15
  refine Done.go st20 ?_
  clear st20
  show Done p e s below _ _ _ T20 (mkF m 53 #[.val (.ref a1), .val (.long (32 : Int64)), .second] [])
  refine Done.go (fun _ kt_ => XS.aloadN X20h.here hx rfl (hb hby d1_53) rfl rfl kt_) ?_
  show Done p e s below _ _ _ T20 (mkF m 54 #[.val (.ref a1), .val (.long (32 : Int64)), .second] [(.ref a1)])
  refine Done.go (fun _ kt_ => XS.lloadN X20h.here hx rfl (hb hby d1_54) rfl kt_) ?_
  show Done p e s below _ _ _ T20 (mkF m 55 #[.val (.ref a1), .val (.long (32 : Int64)), .second] [(.long (32 : Int64)), (.ref a1)])
  refine Done.go (fun _ kt_ => XS.aloadN X20h.here hx rfl (hb hby d1_55) rfl rfl kt_) ?_
  show Done p e s below _ _ _ T20 (mkF m 56 #[.val (.ref a1), .val (.long (32 : Int64)), .second] [(.ref a1), (.long (32 : Int64)), (.ref a1)])
  have f21 := ((Fw11.other W15 (Or.inr (slot_ne (Or.inr (hw _ (List.mem_of_getElem? (i := 29) rfl))) (Or.inr (hw _ (List.mem_of_getElem? (i := 31) rfl))) (by decide) (t := .int) (t' := .int) (by decide) (by decide)))).other W20 (Or.inr (slot_ne (Or.inr (hw _ (List.mem_of_getElem? (i := 29) rfl))) (Or.inr (hw _ (List.mem_of_getElem? (i := 36) rfl))) (by decide) (t := .int) (t' := .int) (by decide) (by decide))))
  obtain ⟨T22, X22, e22, st22⟩ := getF X20h hx hZ hown (host := "") (Or.inl (hw _ (List.mem_of_getElem? (i := 28) rfl))) Via.refl e20 f21 (g := (mkF m 56 #[.val (.ref a1), .val (.long (32 : Int64)), .second] [(.ref a1), (.long (32 : Int64)), (.ref a1)])) rfl rfl (hb hby d1_56)
  refine Done.go st22 ?_
  clear st22 X20h e20
  show Done p e s below _ _ _ T22 (mkF m 59 #[.val (.ref a1), .val (.long (32 : Int64)), .second] [(.int (5 : Int32)), (.long (32 : Int64)), (.ref a1)])
  refine Done.go (fun _ kt_ => XS.lshr X22.here hx rfl (hb hby d1_59) rfl kt_) ?_
  show Done p e s below _ _ _ T22 (mkF m 60 #[.val (.ref a1), .val (.long (32 : Int64)), .second] [(.long ((32 : Int64) >>> ((5 : Int32) &&& 0x3f).toInt64)), (.ref a1)])
  rw [show ((32 : Int64) >>> ((5 : Int32) &&& 0x3f).toInt64) = (1 : Int64) from by decide]
  show Done p e s below _ _ _ T22 (mkF m 60 #[.val (.ref a1), .val (.long (32 : Int64)), .second] [(.long (1 : Int64)), (.ref a1)])
  refine Done.go (fun t_ kt_ => X22.ldcInt hx hown (mvT hZ (hw _ (List.mem_of_getElem? (i := 37) rfl))) (g := (mkF m 60 #[.val (.ref a1), .val (.long (32 : Int64)), .second] [(.long (1 : Int64)), (.ref a1)])) rfl (hb hby d1_60) t_ kt_) ?_
  show Done p e s below _ _ _ T22 (mkF m 62 #[.val (.ref a1), .val (.long (32 : Int64)), .second] [(.int (2147483647 : Int32)), (.long (1 : Int64)), (.ref a1)])
  refine Done.go (fun _ kt_ => XS.aloadN X22.here hx rfl (hb hby d1_62) rfl rfl kt_) ?_
  show Done p e s below _ _ _ T22 (mkF m 63 #[.val (.ref a1), .val (.long (32 : Int64)), .second] [(.ref a1), (.int (2147483647 : Int32)), (.long (1 : Int64)), (.ref a1)])
  obtain ⟨T23, X23, e23, st23⟩ := getF X22 hx hZ hown (host := "") (Or.inl (hw _ (List.mem_of_getElem? (i := 28) rfl))) Via.refl e22 f21 (g := (mkF m 63 #[.val (.ref a1), .val (.long (32 : Int64)), .second] [(.ref a1), (.int (2147483647 : Int32)), (.long (1 : Int64)), (.ref a1)])) rfl rfl (hb hby d1_63)
  refine Done.go st23 ?_
  clear st23 X22 e22
  show Done p e s below _ _ _ T23 (mkF m 66 #[.val (.ref a1), .val (.long (32 : Int64)), .second] [(.int (5 : Int32)), (.int (2147483647 : Int32)), (.long (1 : Int64)), (.ref a1)])
  refine Done.go (fun _ kt_ => XS.ishr X23.here hx rfl (hb hby d1_66) rfl kt_) ?_
  show Done p e s below _ _ _ T23 (mkF m 67 #[.val (.ref a1), .val (.long (32 : Int64)), .second] [(.int ((2147483647 : Int32) >>> ((5 : Int32) &&& 31))), (.long (1 : Int64)), (.ref a1)])
  rw [show ((2147483647 : Int32) >>> ((5 : Int32) &&& 31)) = (67108863 : Int32) from by decide]
  show Done p e s below _ _ _ T23 (mkF m 67 #[.val (.ref a1), .val (.long (32 : Int64)), .second] [(.int (67108863 : Int32)), (.long (1 : Int64)), (.ref a1)])
  refine Done.go (fun _ kt_ => XS.i2l X23.here hx rfl (hb hby d1_67) rfl kt_) ?_
  show Done p e s below _ _ _ T23 (mkF m 68 #[.val (.ref a1), .val (.long (32 : Int64)), .second] [(.long ((67108863 : Int32).toInt64)), (.long (1 : Int64)), (.ref a1)])
  rw [show ((67108863 : Int32).toInt64) = (67108863 : Int64) from by decide]
  show Done p e s below _ _ _ T23 (mkF m 68 #[.val (.ref a1), .val (.long (32 : Int64)), .second] [(.long (67108863 : Int64)), (.long (1 : Int64)), (.ref a1)])
  obtain ⟨v24, T24, Lc24, X24, hQ24, st24⟩ := own_backG (Jvm.LawKit.callS X23 hx (y := (⟨"java/lang/Math", "min", "(JJ)J"⟩ : MethodName)) hown (mvT hZ (hw _ (List.mem_of_getElem? (i := 15) rfl))) (mvT hZ (hw _ (List.mem_of_getElem? (i := 16) rfl))) (mvT hZ (hw _ (List.mem_of_getElem? (i := 17) rfl))) (mvT hZ (hw _ (List.mem_of_getElem? (i := 18) rfl))) (by decide) (backOf (W := 1) (rm3 l Z a0 hw [] (1 : Int64) (67108863 : Int64) h20 n0 Z20) hZ (hw _ (List.mem_of_getElem? (i := 18) rfl)) (hw _ (List.mem_of_getElem? (i := 17) rfl)) (by decide) (by decide)) (g := (mkF m 68 #[.val (.ref a1), .val (.long (32 : Int64)), .second] [(.long (67108863 : Int64)), (.long (1 : Int64)), (.ref a1)])) rfl (by rw [hml]; rfl) (argsL := [(.long (1 : Int64)), (.long (67108863 : Int64))]) (rest := [(.ref a1)]) (lenOf own_pd1 rfl) rfl (by show 2 * 0 + _ ≤ _; exact Nat.le_of_eq rfl) (hb hby d1_68) (fun _ _ => ⟨rfl, e23, (by first | decide | omega : 1 + 0 ≤ _), (by first | decide | omega : 10 + 0 ≤ _)⟩))
  obtain ⟨rfl, N24q, e24⟩ := hQ24
  refine Done.go st24 ?_
  clear st24
  have N24 := Fr.app N20h N24q
  clear N24q
  obtain ⟨Lh24, X24h, N24h⟩ : ∃ L, Stand p l e ({ frames := 2, cells := 2, slots := 11, locals := 45 } : Room) s m #[(.ref a1), (.long (32 : Int64))] below meth c T24 L 1 10 ∧ Fr n0 L := ⟨_, X24, N24⟩
  clear X24 N24 X23 e23 N20h
  show Done p e s below _ _ _ T24 (mkF m 71 #[.val (.ref a1), .val (.long (32 : Int64)), .second] [(.long (own_minJ (1 : Int64) (67108863 : Int64))), (.ref a1)])
  rw [show (own_minJ (1 : Int64) (67108863 : Int64)) = (1 : Int64) from by decide]
  show Done p e s below _ _ _ T24 (mkF m 71 #[.val (.ref a1), .val (.long (32 : Int64)), .second] [(.long (1 : Int64)), (.ref a1)])
  refine Done.go (fun _ kt_ => XS.l2i X24h.here hx rfl (hb hby d1_71) rfl kt_) ?_
  show Done p e s below _ _ _ T24 (mkF m 72 #[.val (.ref a1), .val (.long (32 : Int64)), .second] [(.int ((1 : Int64).toInt32)), (.ref a1)])
  rw [show ((1 : Int64).toInt32) = (1 : Int32) from by decide]
  show Done p e s below _ _ _ T24 (mkF m 72 #[.val (.ref a1), .val (.long (32 : Int64)), .second] [(.int (1 : Int32)), (.ref a1)])
  obtain ⟨T25, h25, X25, e25, E25, A25, st25⟩ := own_newBlk X24h hx hZ hown (hw _ (List.mem_of_getElem? (i := 38) rfl)) (hw _ (List.mem_of_getElem? (i := 39) rfl)) e24 (g := (mkF m 72 #[.val (.ref a1), .val (.long (32 : Int64)), .second] [(.int (1 : Int32)), (.ref a1)])) rfl (hb hby d1_72) rfl (by decide) (by decide)
  have f26 := (f18.wr W20)
  have f27 := ((((V3.other W6 (Ne.symm ne_a1_b3)).other W11 (Ne.symm ne_a1_b3)).other W15 (Ne.symm ne_a1_b3)).other W20 (Ne.symm ne_a1_b3))
  obtain ⟨b25, g25⟩ : ∃ z, z = h20.size := ⟨_, rfl⟩
  rw [← g25] at A25 st25
  have ne_a1_b25 : a1 ≠ b25 := Nat.ne_of_lt (Nat.lt_of_lt_of_le f26.lt (Nat.le_of_eq g25.symm))
  have ne_b3_b25 : b3 ≠ b25 := Nat.ne_of_lt (Nat.lt_of_lt_of_le f27.lt (Nat.le_of_eq g25.symm))
  have gz_b25 : n0 ≤ b25 := Nat.le_trans Z20 (Nat.le_of_eq g25.symm)
  have Z25 : n0 ≤ h25.size := Nat.le_trans Z20 E25.1
  have hs_b25 : h0.size ≤ b25 := Nat.le_trans K20.1 (Nat.le_of_eq g25.symm)
  have K25 : Keep h0 h25 [a1] := K20.ext E25
  obtain ⟨Lh25, X25h, N25h⟩ : ∃ L, Stand p l e ({ frames := 2, cells := 2, slots := 11, locals := 45 } : Room) s m #[(.ref a1), (.long (32 : Int64))] below meth c T25 L 2 11 ∧ Fr n0 L := ⟨_, X25, N24h⟩
  clear X25 N24h X24h e24 Z20 K20
  refine Done.go st25 ?_
  clear st25
  show Done p e s below _ _ _ T25 (mkF m 75 #[.val (.ref a1), .val (.long (32 : Int64)), .second] [(.ref b25), (.ref a1)])
  have f28 := (f26.ext E25)
  have f29 := ((((((F_blocks.ext E3).other W6 (Or.inr (slot_ne (Or.inr (hw _ (List.mem_of_getElem? (i := 41) rfl))) (Or.inr (hw _ (List.mem_of_getElem? (i := 13) rfl))) (by decide) (t := (.array (.array .byte))) (t' := (.array .byte)) (by decide) (by decide)))).other W11 (Or.inr (slot_ne (Or.inr (hw _ (List.mem_of_getElem? (i := 41) rfl))) (Or.inr (hw _ (List.mem_of_getElem? (i := 29) rfl))) (by decide) (t := (.array (.array .byte))) (t' := .int) (by decide) (by decide)))).other W15 (Or.inr (slot_ne (Or.inr (hw _ (List.mem_of_getElem? (i := 41) rfl))) (Or.inr (hw _ (List.mem_of_getElem? (i := 31) rfl))) (by decide) (t := (.array (.array .byte))) (t' := .int) (by decide) (by decide)))).other W20 (Or.inr (slot_ne (Or.inr (hw _ (List.mem_of_getElem? (i := 41) rfl))) (Or.inr (hw _ (List.mem_of_getElem? (i := 36) rfl))) (by decide) (t := (.array (.array .byte))) (t' := .int) (by decide) (by decide)))).ext E25)
  obtain ⟨T30, h30, X30, e30, W30, st30⟩ := putF X25h hx hZ hown (host := "") (Or.inl (hw _ (List.mem_of_getElem? (i := 40) rfl))) Via.refl e25 f29 f28 (Or.inr ⟨(hw _ (List.mem_of_getElem? (i := 41) rfl)), rfl, hnm⟩) (hw _ (List.mem_of_getElem? (i := 2) rfl)) (ty := (.array (.array .byte))) (by decide) rfl rfl (g := (mkF m 75 #[.val (.ref a1), .val (.long (32 : Int64)), .second] [(.ref b25), (.ref a1)])) rfl rfl (hb hby d1_75)
  have Fw30 : Fld Z h30 a1 "com/example/pivotwise/pivotwise/index/PostingBuffer" "blocks" "[[B" (.ref b25) := f29.same W30
  have N30 := Fr.snoc X30 N25h g1
  have Z30 : n0 ≤ h30.size := by rw [W30.size]; exact Z25
  have K30 : Keep h0 h30 [a1] := K25.wr W30 (Or.inl (List.mem_of_getElem? (i := 0) rfl))
  obtain ⟨Lh30, X30h, N30h⟩ : ∃ L, Stand p l e ({ frames := 2, cells := 2, slots := 11, locals := 45 } : Room) s m #[(.ref a1), (.long (32 : Int64))] below meth c T30 L 2 11 ∧ Fr n0 L := ⟨_, X30, N30⟩
  clear X30 N30 X25h e25 N25h Z25 K25
  refine Done.go st30 ?_
  clear st30
  show Done p e s below _ _ _ T30 (mkF m 78 #[.val (.ref a1), .val (.long (32 : Int64)), .second] [])
  refine Done.retV X30h hx hlk hrt (hb hby d1_78) ?_ (by first | decide | omega) (by first | decide | omega)
  rw [e30]
  have f31 := (f28.wr W30)
  have f32 := (((((Fw6.other W11 (Or.inr (slot_ne (Or.inr (hw _ (List.mem_of_getElem? (i := 13) rfl))) (Or.inr (hw _ (List.mem_of_getElem? (i := 29) rfl))) (by decide) (t := (.array .byte)) (t' := .int) (by decide) (by decide)))).other W15 (Or.inr (slot_ne (Or.inr (hw _ (List.mem_of_getElem? (i := 13) rfl))) (Or.inr (hw _ (List.mem_of_getElem? (i := 31) rfl))) (by decide) (t := (.array .byte)) (t' := .int) (by decide) (by decide)))).other W20 (Or.inr (slot_ne (Or.inr (hw _ (List.mem_of_getElem? (i := 13) rfl))) (Or.inr (hw _ (List.mem_of_getElem? (i := 36) rfl))) (by decide) (t := (.array .byte)) (t' := .int) (by decide) (by decide)))).ext E25).other W30 (Or.inr (slot_ne (Or.inr (hw _ (List.mem_of_getElem? (i := 13) rfl))) (Or.inr (hw _ (List.mem_of_getElem? (i := 41) rfl))) (by decide) (t := (.array .byte)) (t' := (.array (.array .byte))) (by decide) (by decide))))
  have f33 := ((f21.ext E25).other W30 (Or.inr (slot_ne (Or.inr (hw _ (List.mem_of_getElem? (i := 29) rfl))) (Or.inr (hw _ (List.mem_of_getElem? (i := 41) rfl))) (by decide) (t := .int) (t' := (.array (.array .byte))) (by decide) (by decide))))
  have f34 := (((Fw15.other W20 (Or.inr (slot_ne (Or.inr (hw _ (List.mem_of_getElem? (i := 31) rfl))) (Or.inr (hw _ (List.mem_of_getElem? (i := 36) rfl))) (by decide) (t := .int) (t' := .int) (by decide) (by decide)))).ext E25).other W30 (Or.inr (slot_ne (Or.inr (hw _ (List.mem_of_getElem? (i := 31) rfl))) (Or.inr (hw _ (List.mem_of_getElem? (i := 41) rfl))) (by decide) (t := .int) (t' := (.array (.array .byte))) (by decide) (by decide))))
  have f35 := ((Fw20.ext E25).other W30 (Or.inr (slot_ne (Or.inr (hw _ (List.mem_of_getElem? (i := 36) rfl))) (Or.inr (hw _ (List.mem_of_getElem? (i := 41) rfl))) (by decide) (t := .int) (t' := (.array (.array .byte))) (by decide) (by decide))))
  have f36 := (((((((F_taken.ext E3).other W6 (Or.inr (slot_ne (Or.inl (hw _ (List.mem_of_getElem? (i := 77) rfl))) (Or.inr (hw _ (List.mem_of_getElem? (i := 13) rfl))) (by decide) (t := .int) (t' := (.array .byte)) (by decide) (by decide)))).other W11 (Or.inr (slot_ne (Or.inl (hw _ (List.mem_of_getElem? (i := 77) rfl))) (Or.inr (hw _ (List.mem_of_getElem? (i := 29) rfl))) (by decide) (t := .int) (t' := .int) (by decide) (by decide)))).other W15 (Or.inr (slot_ne (Or.inl (hw _ (List.mem_of_getElem? (i := 77) rfl))) (Or.inr (hw _ (List.mem_of_getElem? (i := 31) rfl))) (by decide) (t := .int) (t' := .int) (by decide) (by decide)))).other W20 (Or.inr (slot_ne (Or.inl (hw _ (List.mem_of_getElem? (i := 77) rfl))) (Or.inr (hw _ (List.mem_of_getElem? (i := 36) rfl))) (by decide) (t := .int) (t' := .int) (by decide) (by decide)))).ext E25).other W30 (Or.inr (slot_ne (Or.inl (hw _ (List.mem_of_getElem? (i := 77) rfl))) (Or.inr (hw _ (List.mem_of_getElem? (i := 41) rfl))) (by decide) (t := .int) (t' := (.array (.array .byte))) (by decide) (by decide))))
  have f37 := (((((((F_block.ext E3).other W6 (Or.inr (slot_ne (Or.inl (hw _ (List.mem_of_getElem? (i := 98) rfl))) (Or.inr (hw _ (List.mem_of_getElem? (i := 13) rfl))) (by decide) (t := .int) (t' := (.array .byte)) (by decide) (by decide)))).other W11 (Or.inr (slot_ne (Or.inl (hw _ (List.mem_of_getElem? (i := 98) rfl))) (Or.inr (hw _ (List.mem_of_getElem? (i := 29) rfl))) (by decide) (t := .int) (t' := .int) (by decide) (by decide)))).other W15 (Or.inr (slot_ne (Or.inl (hw _ (List.mem_of_getElem? (i := 98) rfl))) (Or.inr (hw _ (List.mem_of_getElem? (i := 31) rfl))) (by decide) (t := .int) (t' := .int) (by decide) (by decide)))).other W20 (Or.inr (slot_ne (Or.inl (hw _ (List.mem_of_getElem? (i := 98) rfl))) (Or.inr (hw _ (List.mem_of_getElem? (i := 36) rfl))) (by decide) (t := .int) (t' := .int) (by decide) (by decide)))).ext E25).other W30 (Or.inr (slot_ne (Or.inl (hw _ (List.mem_of_getElem? (i := 98) rfl))) (Or.inr (hw _ (List.mem_of_getElem? (i := 41) rfl))) (by decide) (t := .int) (t' := (.array (.array .byte))) (by decide) (by decide))))
  have f38 := ((f27.ext E25).other W30 (Ne.symm ne_a1_b3))
  have f39 := (A25.other W30 (Ne.symm ne_a1_b25))
  exact ⟨rfl, N30h, K30.1, b3, b25, gz_b3, gz_b25, ne_a1_b3, ne_a1_b25, ne_b3_b25, f31, f32, f33, f34, f35, Fw30, f36, f37, f38, f39⟩
def QC (Z : State) (a1 : Addr) (h0 : Heap) (n0 : Nat) (v : Option Value) (h : Heap) (L : List Loc) : Prop := v = none ∧ Fr n0 L ∧ Keep h0 h [a1] ∧ Exa Z h a1 "com/example/pivotwise/pivotwise/index/PostingBuffer$Chain" ∧ Fld Z h a1 "com/example/pivotwise/pivotwise/index/PostingBuffer$Chain" "first" "I" (.int (-1)) ∧ Fld Z h a1 "com/example/pivotwise/pivotwise/index/PostingBuffer$Chain" "next" "I" (.int 0) ∧ Fld Z h a1 "com/example/pivotwise/pivotwise/index/PostingBuffer$Chain" "end" "I" (.int 0) ∧ Fld Z h a1 "com/example/pivotwise/pivotwise/index/PostingBuffer$Chain" "slice" "I" (.int 0) ∧ Fld Z h a1 "com/example/pivotwise/pivotwise/index/PostingBuffer$Chain" "length" "I" (.int 0)
theorem d7_0 : decode prog_123_method_1_code 0 = .ok (.aload_n 0, 1) := by decide +kernel
theorem d7_1 : decode prog_123_method_1_code 1 = .ok (.invokespecial 1, 3) := by decide +kernel
theorem d7_4 : decode prog_123_method_1_code 4 = .ok (.aload_n 0, 1) := by decide +kernel
theorem d7_5 : decode prog_123_method_1_code 5 = .ok (.iconst (-1), 1) := by decide +kernel
theorem d7_6 : decode prog_123_method_1_code 6 = .ok (.putfield 7, 3) := by decide +kernel
theorem d7_9 : decode prog_123_method_1_code 9 = .ok (.return_, 1) := by decide +kernel
theorem own_pn3 : plainName "com/example/pivotwise/pivotwise/index/PostingBuffer$Chain" = true := by first | (simp [plainName, overriddenIn]; done) | decide +kernel
theorem ef_rm7 (m : MethodId) (a1 : Addr) : entryFrame m #[(.ref a1)] 1 = mkF m 0 #[.val (.ref a1)] [] := by first | (simp [entryFrame, mkF, argsToLocals, Value.category]; done) | rfl
set_option maxRecDepth 65536 in
set_option maxHeartbeats 40000000 in
theorem rm7 (l : Launch) (Z : State) (a0 : Array Value) (hw : ∀ d ∈ tables_1, d.before a0 Z = true) (ws : List Jvm.Cond) (a1 : Addr) (h0 : Heap) (n0 : Nat) (Z0 : n0 ≤ h0.size) (E1 : Exa Z h0 a1 "com/example/pivotwise/pivotwise/index/PostingBuffer$Chain") (g1 : n0 ≤ a1) (F_first : Fld Z h0 a1 "com/example/pivotwise/pivotwise/index/PostingBuffer$Chain" "first" "I" (.int (0 : Int32))) (F_next : Fld Z h0 a1 "com/example/pivotwise/pivotwise/index/PostingBuffer$Chain" "next" "I" (.int (0 : Int32))) (F_end : Fld Z h0 a1 "com/example/pivotwise/pivotwise/index/PostingBuffer$Chain" "end" "I" (.int (0 : Int32))) (F_slice : Fld Z h0 a1 "com/example/pivotwise/pivotwise/index/PostingBuffer$Chain" "slice" "I" (.int (0 : Int32))) (F_length : Fld Z h0 a1 "com/example/pivotwise/pivotwise/index/PostingBuffer$Chain" "length" "I" (.int (0 : Int32))) :
    MetFree l (⟨"com/example/pivotwise/pivotwise/index/PostingBuffer$Chain", "<init>", "()V"⟩ : MethodName) (head1 (Jvm.Cond.code (⟨"com/example/pivotwise/pivotwise/index/PostingBuffer$Chain", "<init>", "()V"⟩ : MethodName) prog_123_method_1_code 1 none :: ws) ({ frames := 1, cells := 0, slots := 0, locals := 12 } : Room)) (fun a U => a = #[(.ref a1)] ∧ Z.Warmed39 U.vm ∧ U.heap = h0) (fun _ _ _ _ _ => True) (fun _ U o U' => ∃ vr Lr, o = .returned vr ∧ QC Z a1 h0 n0 vr U'.heap Lr ∧ FrameEnd U o U' Lr 0 0) := by
  refine MetFree.of_bodySF (plainFor_of_name own_pn3) hisR ?_
  intro p e s m args below meth c s₁ Bd hml0 hP hK
  obtain ⟨rfl, hZ, hh⟩ := hP
  have hx := Bd.exec
  have hby := Bd.bytes
  have hml : c.maxLocals = 1 := hml0
  have hown : s.vm.findClass "com/example/pivotwise/pivotwise/index/PostingBuffer$Chain" = some m.cls := findClass_of_methodNamed Bd.named
  have hnm := (name_of_methodNamed Bd.named Bd.method).1
  have hlk : meth.locks = false := Bd.notSynchronized
  have hrt := Bd.returns
  have X0 : Stand p l e ({ frames := 1, cells := 0, slots := 0, locals := 12 } : Room) s m #[(.ref a1)] below meth c s₁ [] 0 0 := Stand.of_body Bd
  have e0 : s₁.heap = h0 := by rw [← hh, Bd.state]; rfl
  have N0 := Fr.nil n0
  show Done p e s below 0 0 (QC Z a1 h0 n0) s₁ (entryFrame m #[(.ref a1)] 1)
  rw [ef_rm7]
  show Done p e s below _ _ _ s₁ (mkF m 0 #[.val (.ref a1)] [])
  refine Done.go (fun _ kt_ => XS.aloadN X0.here hx rfl (hb hby d7_0) rfl rfl kt_) ?_
  show Done p e s below _ _ _ s₁ (mkF m 1 #[.val (.ref a1)] [(.ref a1)])
  obtain ⟨T40, X40, e40, st40⟩ := initO X0 hx hZ hown (hw _ (List.mem_of_getElem? (i := 48) rfl)) (hw _ (List.mem_of_getElem? (i := 9) rfl)) (hw _ (List.mem_of_getElem? (i := 10) rfl)) e0 (g := (mkF m 1 #[.val (.ref a1)] [(.ref a1)])) rfl (by rw [hml]; rfl) rfl (hb hby d7_1) (by decide) (W := 0) (by show 2 * 0 + _ ≤ _; exact Nat.le_of_eq rfl) (by decide)
  refine Done.go st40 ?_
  clear st40
  show Done p e s below _ _ _ T40 (mkF m 4 #[.val (.ref a1)] [])
  refine Done.go (fun _ kt_ => XS.aloadN X40.here hx rfl (hb hby d7_4) rfl rfl kt_) ?_
  show Done p e s below _ _ _ T40 (mkF m 5 #[.val (.ref a1)] [(.ref a1)])
  refine Done.go (fun _ kt_ => XS.iconst X40.here hx rfl (hb hby d7_5) kt_) ?_
  show Done p e s below _ _ _ T40 (mkF m 6 #[.val (.ref a1)] [(.int (-1 : Int32)), (.ref a1)])
  obtain ⟨T41, h41, X41, e41, W41, st41⟩ := putF X40 hx hZ hown (host := "") (Or.inl (hw _ (List.mem_of_getElem? (i := 49) rfl))) Via.refl e40 F_first E1 (Or.inl (hw _ (List.mem_of_getElem? (i := 50) rfl))) (hw _ (List.mem_of_getElem? (i := 43) rfl)) (ty := .int) (by decide) rfl rfl (g := (mkF m 6 #[.val (.ref a1)] [(.int (-1 : Int32)), (.ref a1)])) rfl rfl (hb hby d7_6)
  have Fw41 : Fld Z h41 a1 "com/example/pivotwise/pivotwise/index/PostingBuffer$Chain" "first" "I" (.int (-1 : Int32)) := F_first.same W41
  have N41 := Fr.snoc X41 N0 g1
  have Z41 : n0 ≤ h41.size := by rw [W41.size]; exact Z0
  have K41 : Keep h0 h41 [a1] := (Keep.refl h0 [a1]).wr W41 (Or.inl (List.mem_of_getElem? (i := 0) rfl))
  obtain ⟨Lh41, X41h, N41h⟩ : ∃ L, Stand p l e ({ frames := 1, cells := 0, slots := 0, locals := 12 } : Room) s m #[(.ref a1)] below meth c T41 L 0 0 ∧ Fr n0 L := ⟨_, X41, N41⟩
  clear X41 N41 X40 e40
  refine Done.go st41 ?_
  clear st41
  show Done p e s below _ _ _ T41 (mkF m 9 #[.val (.ref a1)] [])
  refine Done.retV X41h hx hlk hrt (hb hby d7_9) ?_ (by first | decide | omega) (by first | decide | omega)
  rw [e41]
  have f42 := (E1.wr W41)
  have f43 := (F_next.other W41 (Or.inr (slot_ne (Or.inl (hw _ (List.mem_of_getElem? (i := 57) rfl))) (Or.inl (hw _ (List.mem_of_getElem? (i := 50) rfl))) (by decide) (t := .int) (t' := .int) (by decide) (by decide))))
  have f44 := (F_end.other W41 (Or.inr (slot_ne (Or.inl (hw _ (List.mem_of_getElem? (i := 59) rfl))) (Or.inl (hw _ (List.mem_of_getElem? (i := 50) rfl))) (by decide) (t := .int) (t' := .int) (by decide) (by decide))))
  have f45 := (F_slice.other W41 (Or.inr (slot_ne (Or.inl (hw _ (List.mem_of_getElem? (i := 61) rfl))) (Or.inl (hw _ (List.mem_of_getElem? (i := 50) rfl))) (by decide) (t := .int) (t' := .int) (by decide) (by decide))))
  have f46 := (F_length.other W41 (Or.inr (slot_ne (Or.inl (hw _ (List.mem_of_getElem? (i := 63) rfl))) (Or.inl (hw _ (List.mem_of_getElem? (i := 50) rfl))) (by decide) (t := .int) (t' := .int) (by decide) (by decide))))
  exact ⟨rfl, N41h, K41, f42, Fw41, f43, f44, f45, f46⟩
theorem d8_0 : decode prog_123_method_3_code 0 = .ok (.aload_n 0, 1) := by decide +kernel
theorem d8_1 : decode prog_123_method_3_code 1 = .ok (.iconst (-1), 1) := by decide +kernel
theorem d8_2 : decode prog_123_method_3_code 2 = .ok (.putfield 7, 3) := by decide +kernel
theorem d8_5 : decode prog_123_method_3_code 5 = .ok (.aload_n 0, 1) := by decide +kernel
theorem d8_6 : decode prog_123_method_3_code 6 = .ok (.iconst 0, 1) := by decide +kernel
theorem d8_7 : decode prog_123_method_3_code 7 = .ok (.putfield 16, 3) := by decide +kernel
theorem d8_10 : decode prog_123_method_3_code 10 = .ok (.aload_n 0, 1) := by decide +kernel
theorem d8_11 : decode prog_123_method_3_code 11 = .ok (.iconst 0, 1) := by decide +kernel
theorem d8_12 : decode prog_123_method_3_code 12 = .ok (.putfield 19, 3) := by decide +kernel
theorem d8_15 : decode prog_123_method_3_code 15 = .ok (.aload_n 0, 1) := by decide +kernel
theorem d8_16 : decode prog_123_method_3_code 16 = .ok (.iconst 0, 1) := by decide +kernel
theorem d8_17 : decode prog_123_method_3_code 17 = .ok (.putfield 22, 3) := by decide +kernel
theorem d8_20 : decode prog_123_method_3_code 20 = .ok (.aload_n 0, 1) := by decide +kernel
theorem d8_21 : decode prog_123_method_3_code 21 = .ok (.iconst 0, 1) := by decide +kernel
theorem d8_22 : decode prog_123_method_3_code 22 = .ok (.putfield 13, 3) := by decide +kernel
theorem d8_25 : decode prog_123_method_3_code 25 = .ok (.return_, 1) := by decide +kernel
theorem ef_rm8 (m : MethodId) (a1 : Addr) : entryFrame m #[(.ref a1)] 1 = mkF m 0 #[.val (.ref a1)] [] := by first | (simp [entryFrame, mkF, argsToLocals, Value.category]; done) | rfl
set_option maxRecDepth 65536 in
set_option maxHeartbeats 40000000 in
theorem rm8 (l : Launch) (Z : State) (a0 : Array Value) (hw : ∀ d ∈ tables_1, d.before a0 Z = true) (ws : List Jvm.Cond) (a1 : Addr) (u0 : Int32) (u1 : Int32) (u2 : Int32) (u3 : Int32) (u4 : Int32) (h0 : Heap) (n0 : Nat) (Z0 : n0 ≤ h0.size) (E1 : Exa Z h0 a1 "com/example/pivotwise/pivotwise/index/PostingBuffer$Chain") (g1 : n0 ≤ a1) (F_first : Fld Z h0 a1 "com/example/pivotwise/pivotwise/index/PostingBuffer$Chain" "first" "I" (.int u0)) (F_next : Fld Z h0 a1 "com/example/pivotwise/pivotwise/index/PostingBuffer$Chain" "next" "I" (.int u1)) (F_end : Fld Z h0 a1 "com/example/pivotwise/pivotwise/index/PostingBuffer$Chain" "end" "I" (.int u2)) (F_slice : Fld Z h0 a1 "com/example/pivotwise/pivotwise/index/PostingBuffer$Chain" "slice" "I" (.int u3)) (F_length : Fld Z h0 a1 "com/example/pivotwise/pivotwise/index/PostingBuffer$Chain" "length" "I" (.int u4)) :
    MetFree l (⟨"com/example/pivotwise/pivotwise/index/PostingBuffer$Chain", "clear", "()V"⟩ : MethodName) (head1 (Jvm.Cond.code (⟨"com/example/pivotwise/pivotwise/index/PostingBuffer$Chain", "clear", "()V"⟩ : MethodName) prog_123_method_3_code 1 none :: ws) ({ frames := 0, cells := 0, slots := 0, locals := 0 } : Room)) (fun a U => a = #[(.ref a1)] ∧ Z.Warmed39 U.vm ∧ U.heap = h0) (fun _ _ _ _ _ => True) (fun _ U o U' => ∃ vr Lr, o = .returned vr ∧ QC Z a1 h0 n0 vr U'.heap Lr ∧ FrameEnd U o U' Lr 0 0) := by
  refine MetFree.of_bodySF (plainFor_of_name own_pn3) hisR ?_
  intro p e s m args below meth c s₁ Bd hml0 hP hK
  obtain ⟨rfl, hZ, hh⟩ := hP
  have hx := Bd.exec
  have hby := Bd.bytes
  have hml : c.maxLocals = 1 := hml0
  have hown : s.vm.findClass "com/example/pivotwise/pivotwise/index/PostingBuffer$Chain" = some m.cls := findClass_of_methodNamed Bd.named
  have hnm := (name_of_methodNamed Bd.named Bd.method).1
  have hlk : meth.locks = false := Bd.notSynchronized
  have hrt := Bd.returns
  have X0 : Stand p l e ({ frames := 0, cells := 0, slots := 0, locals := 0 } : Room) s m #[(.ref a1)] below meth c s₁ [] 0 0 := Stand.of_body Bd
  have e0 : s₁.heap = h0 := by rw [← hh, Bd.state]; rfl
  have N0 := Fr.nil n0
  show Done p e s below 0 0 (QC Z a1 h0 n0) s₁ (entryFrame m #[(.ref a1)] 1)
  rw [ef_rm8]
  show Done p e s below _ _ _ s₁ (mkF m 0 #[.val (.ref a1)] [])
  refine Done.go (fun _ kt_ => XS.aloadN X0.here hx rfl (hb hby d8_0) rfl rfl kt_) ?_
  show Done p e s below _ _ _ s₁ (mkF m 1 #[.val (.ref a1)] [(.ref a1)])
  refine Done.go (fun _ kt_ => XS.iconst X0.here hx rfl (hb hby d8_1) kt_) ?_
  show Done p e s below _ _ _ s₁ (mkF m 2 #[.val (.ref a1)] [(.int (-1 : Int32)), (.ref a1)])
  obtain ⟨T47, h47, X47, e47, W47, st47⟩ := putF X0 hx hZ hown (host := "") (Or.inl (hw _ (List.mem_of_getElem? (i := 49) rfl))) Via.refl e0 F_first E1 (Or.inl (hw _ (List.mem_of_getElem? (i := 50) rfl))) (hw _ (List.mem_of_getElem? (i := 43) rfl)) (ty := .int) (by decide) rfl rfl (g := (mkF m 2 #[.val (.ref a1)] [(.int (-1 : Int32)), (.ref a1)])) rfl rfl (hb hby d8_2)
  have Fw47 : Fld Z h47 a1 "com/example/pivotwise/pivotwise/index/PostingBuffer$Chain" "first" "I" (.int (-1 : Int32)) := F_first.same W47
  have N47 := Fr.snoc X47 N0 g1
  have Z47 : n0 ≤ h47.size := by rw [W47.size]; exact Z0
  have K47 : Keep h0 h47 [a1] := (Keep.refl h0 [a1]).wr W47 (Or.inl (List.mem_of_getElem? (i := 0) rfl))
  obtain ⟨Lh47, X47h, N47h⟩ : ∃ L, Stand p l e ({ frames := 0, cells := 0, slots := 0, locals := 0 } : Room) s m #[(.ref a1)] below meth c T47 L 0 0 ∧ Fr n0 L := ⟨_, X47, N47⟩
  clear X47 N47
  refine Done.go st47 ?_
  clear st47
  show Done p e s below _ _ _ T47 (mkF m 5 #[.val (.ref a1)] [])
  refine Done.go (fun _ kt_ => XS.aloadN X47h.here hx rfl (hb hby d8_5) rfl rfl kt_) ?_
  show Done p e s below _ _ _ T47 (mkF m 6 #[.val (.ref a1)] [(.ref a1)])
  refine Done.go (fun _ kt_ => XS.iconst X47h.here hx rfl (hb hby d8_6) kt_) ?_
  show Done p e s below _ _ _ T47 (mkF m 7 #[.val (.ref a1)] [(.int (0 : Int32)), (.ref a1)])
  have f48 := (E1.wr W47)
  have f49 := (F_next.other W47 (Or.inr (slot_ne (Or.inl (hw _ (List.mem_of_getElem? (i := 57) rfl))) (Or.inl (hw _ (List.mem_of_getElem? (i := 50) rfl))) (by decide) (t := .int) (t' := .int) (by decide) (by decide))))
  obtain ⟨T50, h50, X50, e50, W50, st50⟩ := putF X47h hx hZ hown (host := "") (Or.inl (hw _ (List.mem_of_getElem? (i := 56) rfl))) Via.refl e47 f49 f48 (Or.inl (hw _ (List.mem_of_getElem? (i := 57) rfl))) (hw _ (List.mem_of_getElem? (i := 43) rfl)) (ty := .int) (by decide) rfl rfl (g := (mkF m 7 #[.val (.ref a1)] [(.int (0 : Int32)), (.ref a1)])) rfl rfl (hb hby d8_7)
  have Fw50 : Fld Z h50 a1 "com/example/pivotwise/pivotwise/index/PostingBuffer$Chain" "next" "I" (.int (0 : Int32)) := f49.same W50
  have N50 := Fr.snoc X50 N47h g1
  have Z50 : n0 ≤ h50.size := by rw [W50.size]; exact Z47
  have K50 : Keep h0 h50 [a1] := K47.wr W50 (Or.inl (List.mem_of_getElem? (i := 0) rfl))
  obtain ⟨Lh50, X50h, N50h⟩ : ∃ L, Stand p l e ({ frames := 0, cells := 0, slots := 0, locals := 0 } : Room) s m #[(.ref a1)] below meth c T50 L 0 0 ∧ Fr n0 L := ⟨_, X50, N50⟩
  clear X50 N50 X47h e47 N47h Z47 K47
  refine Done.go st50 ?_
  clear st50
  show Done p e s below _ _ _ T50 (mkF m 10 #[.val (.ref a1)] [])
  refine Done.go (fun _ kt_ => XS.aloadN X50h.here hx rfl (hb hby d8_10) rfl rfl kt_) ?_
  show Done p e s below _ _ _ T50 (mkF m 11 #[.val (.ref a1)] [(.ref a1)])
  refine Done.go (fun _ kt_ => XS.iconst X50h.here hx rfl (hb hby d8_11) kt_) ?_
  show Done p e s below _ _ _ T50 (mkF m 12 #[.val (.ref a1)] [(.int (0 : Int32)), (.ref a1)])
  have f51 := (f48.wr W50)
  have f52 := ((F_end.other W47 (Or.inr (slot_ne (Or.inl (hw _ (List.mem_of_getElem? (i := 59) rfl))) (Or.inl (hw _ (List.mem_of_getElem? (i := 50) rfl))) (by decide) (t := .int) (t' := .int) (by decide) (by decide)))).other W50 (Or.inr (slot_ne (Or.inl (hw _ (List.mem_of_getElem? (i := 59) rfl))) (Or.inl (hw _ (List.mem_of_getElem? (i := 57) rfl))) (by decide) (t := .int) (t' := .int) (by decide) (by decide))))
  obtain ⟨T53, h53, X53, e53, W53, st53⟩ := putF X50h hx hZ hown (host := "") (Or.inl (hw _ (List.mem_of_getElem? (i := 58) rfl))) Via.refl e50 f52 f51 (Or.inl (hw _ (List.mem_of_getElem? (i := 59) rfl))) (hw _ (List.mem_of_getElem? (i := 43) rfl)) (ty := .int) (by decide) rfl rfl (g := (mkF m 12 #[.val (.ref a1)] [(.int (0 : Int32)), (.ref a1)])) rfl rfl (hb hby d8_12)
  have Fw53 : Fld Z h53 a1 "com/example/pivotwise/pivotwise/index/PostingBuffer$Chain" "end" "I" (.int (0 : Int32)) := f52.same W53
  have N53 := Fr.snoc X53 N50h g1
  have Z53 : n0 ≤ h53.size := by rw [W53.size]; exact Z50
  have K53 : Keep h0 h53 [a1] := K50.wr W53 (Or.inl (List.mem_of_getElem? (i := 0) rfl))
  obtain ⟨Lh53, X53h, N53h⟩ : ∃ L, Stand p l e ({ frames := 0, cells := 0, slots := 0, locals := 0 } : Room) s m #[(.ref a1)] below meth c T53 L 0 0 ∧ Fr n0 L := ⟨_, X53, N53⟩
  clear X53 N53 X50h e50 N50h Z50 K50
  refine Done.go st53 ?_
  clear st53
  show Done p e s below _ _ _ T53 (mkF m 15 #[.val (.ref a1)] [])
  refine Done.go (fun _ kt_ => XS.aloadN X53h.here hx rfl (hb hby d8_15) rfl rfl kt_) ?_
  show Done p e s below _ _ _ T53 (mkF m 16 #[.val (.ref a1)] [(.ref a1)])
  refine Done.go (fun _ kt_ => XS.iconst X53h.here hx rfl (hb hby d8_16) kt_) ?_
  show Done p e s below _ _ _ T53 (mkF m 17 #[.val (.ref a1)] [(.int (0 : Int32)), (.ref a1)])
  have f54 := (f51.wr W53)
  have f55 := (((F_slice.other W47 (Or.inr (slot_ne (Or.inl (hw _ (List.mem_of_getElem? (i := 61) rfl))) (Or.inl (hw _ (List.mem_of_getElem? (i := 50) rfl))) (by decide) (t := .int) (t' := .int) (by decide) (by decide)))).other W50 (Or.inr (slot_ne (Or.inl (hw _ (List.mem_of_getElem? (i := 61) rfl))) (Or.inl (hw _ (List.mem_of_getElem? (i := 57) rfl))) (by decide) (t := .int) (t' := .int) (by decide) (by decide)))).other W53 (Or.inr (slot_ne (Or.inl (hw _ (List.mem_of_getElem? (i := 61) rfl))) (Or.inl (hw _ (List.mem_of_getElem? (i := 59) rfl))) (by decide) (t := .int) (t' := .int) (by decide) (by decide))))
  obtain ⟨T56, h56, X56, e56, W56, st56⟩ := putF X53h hx hZ hown (host := "") (Or.inl (hw _ (List.mem_of_getElem? (i := 60) rfl))) Via.refl e53 f55 f54 (Or.inl (hw _ (List.mem_of_getElem? (i := 61) rfl))) (hw _ (List.mem_of_getElem? (i := 43) rfl)) (ty := .int) (by decide) rfl rfl (g := (mkF m 17 #[.val (.ref a1)] [(.int (0 : Int32)), (.ref a1)])) rfl rfl (hb hby d8_17)
  have Fw56 : Fld Z h56 a1 "com/example/pivotwise/pivotwise/index/PostingBuffer$Chain" "slice" "I" (.int (0 : Int32)) := f55.same W56
  have N56 := Fr.snoc X56 N53h g1
  have Z56 : n0 ≤ h56.size := by rw [W56.size]; exact Z53
  have K56 : Keep h0 h56 [a1] := K53.wr W56 (Or.inl (List.mem_of_getElem? (i := 0) rfl))
  obtain ⟨Lh56, X56h, N56h⟩ : ∃ L, Stand p l e ({ frames := 0, cells := 0, slots := 0, locals := 0 } : Room) s m #[(.ref a1)] below meth c T56 L 0 0 ∧ Fr n0 L := ⟨_, X56, N56⟩
  clear X56 N56 X53h e53 N53h Z53 K53
  refine Done.go st56 ?_
  clear st56
  show Done p e s below _ _ _ T56 (mkF m 20 #[.val (.ref a1)] [])
  refine Done.go (fun _ kt_ => XS.aloadN X56h.here hx rfl (hb hby d8_20) rfl rfl kt_) ?_
  show Done p e s below _ _ _ T56 (mkF m 21 #[.val (.ref a1)] [(.ref a1)])
  refine Done.go (fun _ kt_ => XS.iconst X56h.here hx rfl (hb hby d8_21) kt_) ?_
  show Done p e s below _ _ _ T56 (mkF m 22 #[.val (.ref a1)] [(.int (0 : Int32)), (.ref a1)])
  have f57 := (f54.wr W56)
  have f58 := ((((F_length.other W47 (Or.inr (slot_ne (Or.inl (hw _ (List.mem_of_getElem? (i := 63) rfl))) (Or.inl (hw _ (List.mem_of_getElem? (i := 50) rfl))) (by decide) (t := .int) (t' := .int) (by decide) (by decide)))).other W50 (Or.inr (slot_ne (Or.inl (hw _ (List.mem_of_getElem? (i := 63) rfl))) (Or.inl (hw _ (List.mem_of_getElem? (i := 57) rfl))) (by decide) (t := .int) (t' := .int) (by decide) (by decide)))).other W53 (Or.inr (slot_ne (Or.inl (hw _ (List.mem_of_getElem? (i := 63) rfl))) (Or.inl (hw _ (List.mem_of_getElem? (i := 59) rfl))) (by decide) (t := .int) (t' := .int) (by decide) (by decide)))).other W56 (Or.inr (slot_ne (Or.inl (hw _ (List.mem_of_getElem? (i := 63) rfl))) (Or.inl (hw _ (List.mem_of_getElem? (i := 61) rfl))) (by decide) (t := .int) (t' := .int) (by decide) (by decide))))
  obtain ⟨T59, h59, X59, e59, W59, st59⟩ := putF X56h hx hZ hown (host := "") (Or.inl (hw _ (List.mem_of_getElem? (i := 62) rfl))) Via.refl e56 f58 f57 (Or.inl (hw _ (List.mem_of_getElem? (i := 63) rfl))) (hw _ (List.mem_of_getElem? (i := 43) rfl)) (ty := .int) (by decide) rfl rfl (g := (mkF m 22 #[.val (.ref a1)] [(.int (0 : Int32)), (.ref a1)])) rfl rfl (hb hby d8_22)
  have Fw59 : Fld Z h59 a1 "com/example/pivotwise/pivotwise/index/PostingBuffer$Chain" "length" "I" (.int (0 : Int32)) := f58.same W59
  have N59 := Fr.snoc X59 N56h g1
  have Z59 : n0 ≤ h59.size := by rw [W59.size]; exact Z56
  have K59 : Keep h0 h59 [a1] := K56.wr W59 (Or.inl (List.mem_of_getElem? (i := 0) rfl))
  obtain ⟨Lh59, X59h, N59h⟩ : ∃ L, Stand p l e ({ frames := 0, cells := 0, slots := 0, locals := 0 } : Room) s m #[(.ref a1)] below meth c T59 L 0 0 ∧ Fr n0 L := ⟨_, X59, N59⟩
  clear X59 N59 X56h e56 N56h Z56 K56
  refine Done.go st59 ?_
  clear st59
  show Done p e s below _ _ _ T59 (mkF m 25 #[.val (.ref a1)] [])
  refine Done.retV X59h hx hlk hrt (hb hby d8_25) ?_ (by first | decide | omega) (by first | decide | omega)
  rw [e59]
  have f60 := (f57.wr W59)
  have f61 := ((((Fw47.other W50 (Or.inr (slot_ne (Or.inl (hw _ (List.mem_of_getElem? (i := 50) rfl))) (Or.inl (hw _ (List.mem_of_getElem? (i := 57) rfl))) (by decide) (t := .int) (t' := .int) (by decide) (by decide)))).other W53 (Or.inr (slot_ne (Or.inl (hw _ (List.mem_of_getElem? (i := 50) rfl))) (Or.inl (hw _ (List.mem_of_getElem? (i := 59) rfl))) (by decide) (t := .int) (t' := .int) (by decide) (by decide)))).other W56 (Or.inr (slot_ne (Or.inl (hw _ (List.mem_of_getElem? (i := 50) rfl))) (Or.inl (hw _ (List.mem_of_getElem? (i := 61) rfl))) (by decide) (t := .int) (t' := .int) (by decide) (by decide)))).other W59 (Or.inr (slot_ne (Or.inl (hw _ (List.mem_of_getElem? (i := 50) rfl))) (Or.inl (hw _ (List.mem_of_getElem? (i := 63) rfl))) (by decide) (t := .int) (t' := .int) (by decide) (by decide))))
  have f62 := (((Fw50.other W53 (Or.inr (slot_ne (Or.inl (hw _ (List.mem_of_getElem? (i := 57) rfl))) (Or.inl (hw _ (List.mem_of_getElem? (i := 59) rfl))) (by decide) (t := .int) (t' := .int) (by decide) (by decide)))).other W56 (Or.inr (slot_ne (Or.inl (hw _ (List.mem_of_getElem? (i := 57) rfl))) (Or.inl (hw _ (List.mem_of_getElem? (i := 61) rfl))) (by decide) (t := .int) (t' := .int) (by decide) (by decide)))).other W59 (Or.inr (slot_ne (Or.inl (hw _ (List.mem_of_getElem? (i := 57) rfl))) (Or.inl (hw _ (List.mem_of_getElem? (i := 63) rfl))) (by decide) (t := .int) (t' := .int) (by decide) (by decide))))
  have f63 := ((Fw53.other W56 (Or.inr (slot_ne (Or.inl (hw _ (List.mem_of_getElem? (i := 59) rfl))) (Or.inl (hw _ (List.mem_of_getElem? (i := 61) rfl))) (by decide) (t := .int) (t' := .int) (by decide) (by decide)))).other W59 (Or.inr (slot_ne (Or.inl (hw _ (List.mem_of_getElem? (i := 59) rfl))) (Or.inl (hw _ (List.mem_of_getElem? (i := 63) rfl))) (by decide) (t := .int) (t' := .int) (by decide) (by decide))))
  have f64 := (Fw56.other W59 (Or.inr (slot_ne (Or.inl (hw _ (List.mem_of_getElem? (i := 61) rfl))) (Or.inl (hw _ (List.mem_of_getElem? (i := 63) rfl))) (by decide) (t := .int) (t' := .int) (by decide) (by decide))))
  exact ⟨rfl, N59h, K59, f60, f61, f62, f63, f64, Fw59⟩
theorem d9_0 : decode prog_123_method_2_code 0 = .ok (.aload_n 0, 1) := by decide +kernel
theorem d9_1 : decode prog_123_method_2_code 1 = .ok (.getfield 13, 3) := by decide +kernel
theorem d9_4 : decode prog_123_method_2_code 4 = .ok (.ireturn, 1) := by decide +kernel
theorem ef_rm9 (m : MethodId) (a1 : Addr) : entryFrame m #[(.ref a1)] 1 = mkF m 0 #[.val (.ref a1)] [] := by first | (simp [entryFrame, mkF, argsToLocals, Value.category]; done) | rfl
set_option maxRecDepth 65536 in
set_option maxHeartbeats 40000000 in
theorem rm9 (l : Launch) (Z : State) (a0 : Array Value) (hw : ∀ d ∈ tables_1, d.before a0 Z = true) (ws : List Jvm.Cond) (a1 : Addr) (ln : Int32) (h0 : Heap) (n0 : Nat) (Z0 : n0 ≤ h0.size) (F1 : Fld Z h0 a1 "com/example/pivotwise/pivotwise/index/PostingBuffer$Chain" "length" "I" (.int ln)) :
    MetFree l (⟨"com/example/pivotwise/pivotwise/index/PostingBuffer$Chain", "length", "()I"⟩ : MethodName) (head1 (Jvm.Cond.code (⟨"com/example/pivotwise/pivotwise/index/PostingBuffer$Chain", "length", "()I"⟩ : MethodName) prog_123_method_2_code 1 (some .int) :: ws) ({ frames := 0, cells := 0, slots := 0, locals := 0 } : Room)) (fun a U => a = #[(.ref a1)] ∧ Z.Warmed39 U.vm ∧ U.heap = h0) (fun _ _ _ _ _ => True) (fun _ U o U' => ∃ vr Lr, o = .returned vr ∧ QI ln h0 n0 vr U'.heap Lr ∧ FrameEnd U o U' Lr 0 0) := by
  refine MetFree.of_bodySF (plainFor_of_name own_pn3) hisR ?_
  intro p e s m args below meth c s₁ Bd hml0 hP hK
  obtain ⟨rfl, hZ, hh⟩ := hP
  have hx := Bd.exec
  have hby := Bd.bytes
  have hml : c.maxLocals = 1 := hml0
  have hown : s.vm.findClass "com/example/pivotwise/pivotwise/index/PostingBuffer$Chain" = some m.cls := findClass_of_methodNamed Bd.named
  have hnm := (name_of_methodNamed Bd.named Bd.method).1
  have hlk : meth.locks = false := Bd.notSynchronized
  have hrt := Bd.returns
  have X0 : Stand p l e ({ frames := 0, cells := 0, slots := 0, locals := 0 } : Room) s m #[(.ref a1)] below meth c s₁ [] 0 0 := Stand.of_body Bd
  have e0 : s₁.heap = h0 := by rw [← hh, Bd.state]; rfl
  have N0 := Fr.nil n0
  show Done p e s below 0 0 (QI ln h0 n0) s₁ (entryFrame m #[(.ref a1)] 1)
  rw [ef_rm9]
  show Done p e s below _ _ _ s₁ (mkF m 0 #[.val (.ref a1)] [])
  refine Done.go (fun _ kt_ => XS.aloadN X0.here hx rfl (hb hby d9_0) rfl rfl kt_) ?_
  show Done p e s below _ _ _ s₁ (mkF m 1 #[.val (.ref a1)] [(.ref a1)])
  obtain ⟨T65, X65, e65, st65⟩ := getF X0 hx hZ hown (host := "") (Or.inl (hw _ (List.mem_of_getElem? (i := 62) rfl))) Via.refl e0 F1 (g := (mkF m 1 #[.val (.ref a1)] [(.ref a1)])) rfl rfl (hb hby d9_1)
  refine Done.go st65 ?_
  clear st65
  show Done p e s below _ _ _ T65 (mkF m 4 #[.val (.ref a1)] [(.int ln)])
  refine Done.retI X65 hx hlk hrt (hb hby d9_4) ?_ (by first | decide | omega) (by first | decide | omega)
  rw [e65]
  exact ⟨rfl, N0, rfl⟩
theorem d11_0 : decode prog_122_method_7_code 0 = .ok (.aload_n 1, 1) := by decide +kernel
theorem d11_1 : decode prog_122_method_7_code 1 = .ok (.getfield 79, 3) := by decide +kernel
theorem d11_4 : decode prog_122_method_7_code 4 = .ok (.ifCond .ge 8, 3) := by decide +kernel
theorem d11_7 : decode prog_122_method_7_code 7 = .ok (.bipush 16, 2) := by decide +kernel
theorem d11_9 : decode prog_122_method_7_code 9 = .ok (.goto 16, 3) := by decide +kernel
theorem d11_12 : decode prog_122_method_7_code 12 = .ok (.aload_n 1, 1) := by decide +kernel
theorem d11_13 : decode prog_122_method_7_code 13 = .ok (.getfield 101, 3) := by decide +kernel
theorem d11_16 : decode prog_122_method_7_code 16 = .ok (.iconst 2, 1) := by decide +kernel
theorem d11_17 : decode prog_122_method_7_code 17 = .ok (.imul, 1) := by decide +kernel
theorem d11_18 : decode prog_122_method_7_code 18 = .ok (.aload_n 0, 1) := by decide +kernel
theorem d11_19 : decode prog_122_method_7_code 19 = .ok (.getfield 37, 3) := by decide +kernel
theorem d11_22 : decode prog_122_method_7_code 22 = .ok (.invokestatic 34, 3) := by decide +kernel
theorem d11_25 : decode prog_122_method_7_code 25 = .ok (.ireturn, 1) := by decide +kernel
theorem ef_rm11 (m : MethodId) (a1 : Addr) (a2 : Addr) : entryFrame m #[(.ref a1), (.ref a2)] 2 = mkF m 0 #[.val (.ref a1), .val (.ref a2)] [] := by first | (simp [entryFrame, mkF, argsToLocals, Value.category]; done) | rfl
set_option maxRecDepth 65536 in
set_option maxHeartbeats 40000000 in
theorem rm11 (l : Launch) (Z : State) (a0 : Array Value) (hw : ∀ d ∈ tables_1, d.before a0 Z = true) (ws : List Jvm.Cond) (a1 : Addr) (a2 : Addr) (fi : Int32) (sl : Int32) (h0 : Heap) (n0 : Nat) (Z0 : n0 ≤ h0.size) (F1 : Fld Z h0 a2 "com/example/pivotwise/pivotwise/index/PostingBuffer$Chain" "first" "I" (.int fi)) (F2 : Fld Z h0 a2 "com/example/pivotwise/pivotwise/index/PostingBuffer$Chain" "slice" "I" (.int sl)) (F3 : Fld Z h0 a1 "com/example/pivotwise/pivotwise/index/PostingBuffer" "mostSlice" "I" (.int 32)) :
    MetFree l (⟨"com/example/pivotwise/pivotwise/index/PostingBuffer", "nextSlice", "(Lcom/example/pivotwise/pivotwise/index/PostingBuffer$Chain;)I"⟩ : MethodName) (head1 (Jvm.Cond.code (⟨"com/example/pivotwise/pivotwise/index/PostingBuffer", "nextSlice", "(Lcom/example/pivotwise/pivotwise/index/PostingBuffer$Chain;)I"⟩ : MethodName) prog_122_method_7_code 2 (some .int) :: ws) ({ frames := 1, cells := 0, slots := 0, locals := 13 } : Room)) (fun a U => a = #[(.ref a1), (.ref a2)] ∧ Z.Warmed39 U.vm ∧ U.heap = h0) (fun _ _ _ _ _ => True) (fun _ U o U' => ∃ vr Lr, o = .returned vr ∧ QI (own_ns fi sl) h0 n0 vr U'.heap Lr ∧ FrameEnd U o U' Lr 0 0) := by
  refine MetFree.of_bodySF (plainFor_of_name own_pn2) hisR ?_
  intro p e s m args below meth c s₁ Bd hml0 hP hK
  obtain ⟨rfl, hZ, hh⟩ := hP
  have hx := Bd.exec
  have hby := Bd.bytes
  have hml : c.maxLocals = 2 := hml0
  have hown : s.vm.findClass "com/example/pivotwise/pivotwise/index/PostingBuffer" = some m.cls := findClass_of_methodNamed Bd.named
  have hnm := (name_of_methodNamed Bd.named Bd.method).1
  have hlk : meth.locks = false := Bd.notSynchronized
  have hrt := Bd.returns
  have X0 : Stand p l e ({ frames := 1, cells := 0, slots := 0, locals := 13 } : Room) s m #[(.ref a1), (.ref a2)] below meth c s₁ [] 0 0 := Stand.of_body Bd
  have e0 : s₁.heap = h0 := by rw [← hh, Bd.state]; rfl
  have N0 := Fr.nil n0
  show Done p e s below 0 0 (QI (own_ns fi sl) h0 n0) s₁ (entryFrame m #[(.ref a1), (.ref a2)] 2)
  rw [ef_rm11]
  show Done p e s below _ _ _ s₁ (mkF m 0 #[.val (.ref a1), .val (.ref a2)] [])
  refine Done.go (fun _ kt_ => XS.aloadN X0.here hx rfl (hb hby d11_0) rfl rfl kt_) ?_
  show Done p e s below _ _ _ s₁ (mkF m 1 #[.val (.ref a1), .val (.ref a2)] [(.ref a2)])
  refine Done.go (own_getFR X0 hx hZ hown (hw _ (List.mem_of_getElem? (i := 82) rfl)) e0 F1 (g := (mkF m 1 #[.val (.ref a1), .val (.ref a2)] [(.ref a2)])) rfl rfl (hb hby d11_1)) ?_
  show Done p e s below _ _ _ s₁ (mkF m 4 #[.val (.ref a1), .val (.ref a2)] [(.int fi)])
  by_cases hc4 : fi < (0 : Int32)
  · skip
    refine Done.go (fun _ kt_ => XS.ifNo X0.here hx rfl (hb hby d11_4) rfl ((if0 _ _).trans (tlt hc4).2.1) kt_) ?_
    show Done p e s below _ _ _ s₁ (mkF m 7 #[.val (.ref a1), .val (.ref a2)] [])
    refine Done.go (fun _ kt_ => XS.bipush X0.here hx rfl (hb hby d11_7) kt_) ?_
    show Done p e s below _ _ _ s₁ (mkF m 9 #[.val (.ref a1), .val (.ref a2)] [(.int (16 : Int32))])
    refine Done.go (fun _ kt_ => XS.goto X0.here hx rfl (pc0 := 9) (pc' := 25) rfl (hb hby d11_9) (by decide) (by decide) kt_) ?_
    show Done p e s below _ _ _ s₁ (mkF m 25 #[.val (.ref a1), .val (.ref a2)] [(.int (16 : Int32))])
    refine Done.retI X0 hx hlk hrt (hb hby d11_25) ?_ (by first | decide | omega) (by first | decide | omega)
    rw [e0]
    exact ⟨by simp only [own_ns, hc4, if_true, if_false], N0, rfl⟩
  · skip
    refine Done.go (fun _ kt_ => XS.ifYes X0.here hx rfl (pc0 := 4) (pc' := 12) rfl (hb hby d11_4) rfl ((if0 _ _).trans (flt hc4).2.1) (by decide) (by decide) kt_) ?_
    show Done p e s below _ _ _ s₁ (mkF m 12 #[.val (.ref a1), .val (.ref a2)] [])
    refine Done.go (fun _ kt_ => XS.aloadN X0.here hx rfl (hb hby d11_12) rfl rfl kt_) ?_
    show Done p e s below _ _ _ s₁ (mkF m 13 #[.val (.ref a1), .val (.ref a2)] [(.ref a2)])
    refine Done.go (own_getFR X0 hx hZ hown (hw _ (List.mem_of_getElem? (i := 100) rfl)) e0 F2 (g := (mkF m 13 #[.val (.ref a1), .val (.ref a2)] [(.ref a2)])) rfl rfl (hb hby d11_13)) ?_
    show Done p e s below _ _ _ s₁ (mkF m 16 #[.val (.ref a1), .val (.ref a2)] [(.int sl)])
    refine Done.go (fun _ kt_ => XS.iconst X0.here hx rfl (hb hby d11_16) kt_) ?_
    show Done p e s below _ _ _ s₁ (mkF m 17 #[.val (.ref a1), .val (.ref a2)] [(.int (2 : Int32)), (.int sl)])
    refine Done.go (fun _ kt_ => XS.imul X0.here hx rfl (hb hby d11_17) rfl kt_) ?_
    show Done p e s below _ _ _ s₁ (mkF m 18 #[.val (.ref a1), .val (.ref a2)] [(.int (sl * (2 : Int32)))])
    refine Done.go (fun _ kt_ => XS.aloadN X0.here hx rfl (hb hby d11_18) rfl rfl kt_) ?_
    show Done p e s below _ _ _ s₁ (mkF m 19 #[.val (.ref a1), .val (.ref a2)] [(.ref a1), (.int (sl * (2 : Int32)))])
    obtain ⟨T66, X66, e66, st66⟩ := getF X0 hx hZ hown (host := "") (Or.inl (hw _ (List.mem_of_getElem? (i := 35) rfl))) Via.refl e0 F3 (g := (mkF m 19 #[.val (.ref a1), .val (.ref a2)] [(.ref a1), (.int (sl * (2 : Int32)))])) rfl rfl (hb hby d11_19)
    refine Done.go st66 ?_
    clear st66
    show Done p e s below _ _ _ T66 (mkF m 22 #[.val (.ref a1), .val (.ref a2)] [(.int (32 : Int32)), (.int (sl * (2 : Int32)))])
    obtain ⟨v67, T67, Lc67, X67, hQ67, st67⟩ := own_backG (Jvm.LawKit.callS X66 hx (y := (⟨"java/lang/Math", "min", "(II)I"⟩ : MethodName)) hown (mvT hZ (hw _ (List.mem_of_getElem? (i := 32) rfl))) (mvT hZ (hw _ (List.mem_of_getElem? (i := 33) rfl))) (mvT hZ (hw _ (List.mem_of_getElem? (i := 17) rfl))) (mvT hZ (hw _ (List.mem_of_getElem? (i := 34) rfl))) (by decide) (backOf (W := 0) (rm6 l Z a0 hw [] (sl * (2 : Int32)) (32 : Int32) h0 n0 Z0) hZ (hw _ (List.mem_of_getElem? (i := 34) rfl)) (hw _ (List.mem_of_getElem? (i := 17) rfl)) (by decide) (by decide)) (g := (mkF m 22 #[.val (.ref a1), .val (.ref a2)] [(.int (32 : Int32)), (.int (sl * (2 : Int32)))])) rfl (by rw [hml]; rfl) (argsL := [(.int (sl * (2 : Int32))), (.int (32 : Int32))]) (rest := []) (lenOf own_pd3 rfl) rfl (by show 2 * 0 + _ ≤ _; exact Nat.le_of_eq rfl) (hb hby d11_22) (fun _ _ => ⟨rfl, e66, (by first | decide | omega : 0 + 0 ≤ _), (by first | decide | omega : 0 + 0 ≤ _)⟩))
    obtain ⟨rfl, N67q, e67⟩ := hQ67
    refine Done.go st67 ?_
    clear st67
    have N67 := Fr.app N0 N67q
    clear N67q
    obtain ⟨Lh67, X67h, N67h⟩ : ∃ L, Stand p l e ({ frames := 1, cells := 0, slots := 0, locals := 13 } : Room) s m #[(.ref a1), (.ref a2)] below meth c T67 L 0 0 ∧ Fr n0 L := ⟨_, X67, N67⟩
    clear X67 N67 X66 e66
    show Done p e s below _ _ _ T67 (mkF m 25 #[.val (.ref a1), .val (.ref a2)] [(.int (own_minI (sl * (2 : Int32)) (32 : Int32)))])
    refine Done.retI X67h hx hlk hrt (hb hby d11_25) ?_ (by first | decide | omega) (by first | decide | omega)
    rw [e67]
    exact ⟨by simp only [own_ns, hc4, if_true, if_false], N67h, rfl⟩
theorem d10_0 : decode prog_122_method_2_code 0 = .ok (.aload_n 1, 1) := by decide +kernel
theorem d10_1 : decode prog_122_method_2_code 1 = .ok (.getfield 48, 3) := by decide +kernel
theorem d10_4 : decode prog_122_method_2_code 4 = .ok (.aload_n 1, 1) := by decide +kernel
theorem d10_5 : decode prog_122_method_2_code 5 = .ok (.getfield 53, 3) := by decide +kernel
theorem d10_8 : decode prog_122_method_2_code 8 = .ok (.isub, 1) := by decide +kernel
theorem d10_9 : decode prog_122_method_2_code 9 = .ok (.bipush 10, 2) := by decide +kernel
theorem d10_11 : decode prog_122_method_2_code 11 = .ok (.if_icmp .ge 34, 3) := by decide +kernel
theorem d10_14 : decode prog_122_method_2_code 14 = .ok (.aload_n 0, 1) := by decide +kernel
theorem d10_15 : decode prog_122_method_2_code 15 = .ok (.getfield 56, 3) := by decide +kernel
theorem d10_18 : decode prog_122_method_2_code 18 = .ok (.aload_n 0, 1) := by decide +kernel
theorem d10_19 : decode prog_122_method_2_code 19 = .ok (.aload_n 1, 1) := by decide +kernel
theorem d10_20 : decode prog_122_method_2_code 20 = .ok (.invokevirtual 59, 3) := by decide +kernel
theorem d10_23 : decode prog_122_method_2_code 23 = .ok (.iadd, 1) := by decide +kernel
theorem d10_24 : decode prog_122_method_2_code 24 = .ok (.aload_n 0, 1) := by decide +kernel
theorem d10_25 : decode prog_122_method_2_code 25 = .ok (.getfield 31, 3) := by decide +kernel
theorem d10_28 : decode prog_122_method_2_code 28 = .ok (.if_icmp .le 17, 3) := by decide +kernel
theorem d10_31 : decode prog_122_method_2_code 31 = .ok (.aload_n 0, 1) := by decide +kernel
theorem d10_32 : decode prog_122_method_2_code 32 = .ok (.getfield 63, 3) := by decide +kernel
theorem d10_35 : decode prog_122_method_2_code 35 = .ok (.iconst 1, 1) := by decide +kernel
theorem d10_36 : decode prog_122_method_2_code 36 = .ok (.iadd, 1) := by decide +kernel
theorem d10_37 : decode prog_122_method_2_code 37 = .ok (.aload_n 0, 1) := by decide +kernel
theorem d10_38 : decode prog_122_method_2_code 38 = .ok (.getfield 44, 3) := by decide +kernel
theorem d10_41 : decode prog_122_method_2_code 41 = .ok (.arraylength, 1) := by decide +kernel
theorem d10_42 : decode prog_122_method_2_code 42 = .ok (.if_icmp .ge 7, 3) := by decide +kernel
theorem d10_45 : decode prog_122_method_2_code 45 = .ok (.iconst 1, 1) := by decide +kernel
theorem d10_46 : decode prog_122_method_2_code 46 = .ok (.goto 4, 3) := by decide +kernel
theorem d10_49 : decode prog_122_method_2_code 49 = .ok (.iconst 0, 1) := by decide +kernel
theorem d10_50 : decode prog_122_method_2_code 50 = .ok (.ireturn, 1) := by decide +kernel
theorem ef_rm10 (m : MethodId) (ab : Addr) (ac : Addr) : entryFrame m #[(.ref ab), (.ref ac)] 2 = mkF m 0 #[.val (.ref ab), .val (.ref ac)] [] := by first | (simp [entryFrame, mkF, argsToLocals, Value.category]; done) | rfl
set_option maxRecDepth 65536 in
set_option maxHeartbeats 40000000 in
theorem rm10 (l : Launch) (Z : State) (a0 : Array Value) (hw : ∀ d ∈ tables_1, d.before a0 Z = true) (ws : List Jvm.Cond) (ab : Addr) (ac : Addr) (bP : Addr) (bB : Addr) (v : Value) (tk : Int32) (fi : Int32) (nx : Int32) (en : Int32) (sl : Int32) (ln : Int32) (h0 : Heap) (n0 : Nat) (Z0 : n0 ≤ h0.size) (P : own_pb Z h0 ab ac bP bB v tk fi nx en sl ln) :
    MetFree l (⟨"com/example/pivotwise/pivotwise/index/PostingBuffer", "fits", "(Lcom/example/pivotwise/pivotwise/index/PostingBuffer$Chain;)Z"⟩ : MethodName) (head1 (Jvm.Cond.code (⟨"com/example/pivotwise/pivotwise/index/PostingBuffer", "fits", "(Lcom/example/pivotwise/pivotwise/index/PostingBuffer$Chain;)Z"⟩ : MethodName) prog_122_method_2_code 2 (some .boolean) :: ws) ({ frames := 2, cells := 0, slots := 0, locals := 27 } : Room)) (fun a U => a = #[(.ref ab), (.ref ac)] ∧ Z.Warmed39 U.vm ∧ U.heap = h0) (fun _ _ _ _ _ => True) (fun _ U o U' => ∃ vr Lr, o = .returned vr ∧ QI (own_fit en nx tk (own_ns fi sl)) h0 n0 vr U'.heap Lr ∧ FrameEnd U o U' Lr 0 0) := by
  refine MetFree.of_bodySF (plainFor_of_name own_pn2) hisR ?_
  intro p e s m args below meth c s₁ Bd hml0 hP hK
  obtain ⟨rfl, hZ, hh⟩ := hP
  have hx := Bd.exec
  have hby := Bd.bytes
  have hml : c.maxLocals = 2 := hml0
  have hown : s.vm.findClass "com/example/pivotwise/pivotwise/index/PostingBuffer" = some m.cls := findClass_of_methodNamed Bd.named
  have hnm := (name_of_methodNamed Bd.named Bd.method).1
  have hlk : meth.locks = false := Bd.notSynchronized
  have hrt := Bd.returns
  have X0 : Stand p l e ({ frames := 2, cells := 0, slots := 0, locals := 27 } : Room) s m #[(.ref ab), (.ref ac)] below meth c s₁ [] 0 0 := Stand.of_body Bd
  have e0 : s₁.heap = h0 := by rw [← hh, Bd.state]; rfl
  have N0 := Fr.nil n0
  show Done p e s below 0 0 (QI (own_fit en nx tk (own_ns fi sl)) h0 n0) s₁ (entryFrame m #[(.ref ab), (.ref ac)] 2)
  rw [ef_rm10]
  obtain ⟨Ea0, Ec0, Pposting0, PblockBits0, PblockSize0, PmostSlice0, Pblocks0, Ptaken0, Pblock0, Cfirst0, Cnext0, Cend0, Cslice0, Clength0, ⟨fP0, VP0⟩, BB0⟩ := P
  show Done p e s below _ _ _ s₁ (mkF m 0 #[.val (.ref ab), .val (.ref ac)] [])
  refine Done.go (fun _ kt_ => XS.aloadN X0.here hx rfl (hb hby d10_0) rfl rfl kt_) ?_
  show Done p e s below _ _ _ s₁ (mkF m 1 #[.val (.ref ab), .val (.ref ac)] [(.ref ac)])
  refine Done.go (own_getFR X0 hx hZ hown (hw _ (List.mem_of_getElem? (i := 74) rfl)) e0 Cend0 (g := (mkF m 1 #[.val (.ref ab), .val (.ref ac)] [(.ref ac)])) rfl rfl (hb hby d10_1)) ?_
  show Done p e s below _ _ _ s₁ (mkF m 4 #[.val (.ref ab), .val (.ref ac)] [(.int en)])
  refine Done.go (fun _ kt_ => XS.aloadN X0.here hx rfl (hb hby d10_4) rfl rfl kt_) ?_
  show Done p e s below _ _ _ s₁ (mkF m 5 #[.val (.ref ab), .val (.ref ac)] [(.ref ac), (.int en)])
  refine Done.go (own_getFR X0 hx hZ hown (hw _ (List.mem_of_getElem? (i := 75) rfl)) e0 Cnext0 (g := (mkF m 5 #[.val (.ref ab), .val (.ref ac)] [(.ref ac), (.int en)])) rfl rfl (hb hby d10_5)) ?_
  show Done p e s below _ _ _ s₁ (mkF m 8 #[.val (.ref ab), .val (.ref ac)] [(.int nx), (.int en)])
  refine Done.go (fun _ kt_ => XS.isub X0.here hx rfl (hb hby d10_8) rfl kt_) ?_
  show Done p e s below _ _ _ s₁ (mkF m 9 #[.val (.ref ab), .val (.ref ac)] [(.int (en - nx))])
  refine Done.go (fun _ kt_ => XS.bipush X0.here hx rfl (hb hby d10_9) kt_) ?_
  show Done p e s below _ _ _ s₁ (mkF m 11 #[.val (.ref ab), .val (.ref ac)] [(.int (10 : Int32)), (.int (en - nx))])
  by_cases hc11 : (en - nx) < (10 : Int32)
  · skip
    refine Done.go (fun _ kt_ => XS.icmpNo X0.here hx rfl (hb hby d10_11) rfl (tlt hc11).2.1 kt_) ?_
    show Done p e s below _ _ _ s₁ (mkF m 14 #[.val (.ref ab), .val (.ref ac)] [])
    refine Done.go (fun _ kt_ => XS.aloadN X0.here hx rfl (hb hby d10_14) rfl rfl kt_) ?_
    show Done p e s below _ _ _ s₁ (mkF m 15 #[.val (.ref ab), .val (.ref ac)] [(.ref ab)])
    obtain ⟨T68, X68, e68, st68⟩ := getF X0 hx hZ hown (host := "") (Or.inl (hw _ (List.mem_of_getElem? (i := 76) rfl))) Via.refl e0 Ptaken0 (g := (mkF m 15 #[.val (.ref ab), .val (.ref ac)] [(.ref ab)])) rfl rfl (hb hby d10_15)
    refine Done.go st68 ?_
    clear st68
    show Done p e s below _ _ _ T68 (mkF m 18 #[.val (.ref ab), .val (.ref ac)] [(.int tk)])
    refine Done.go (fun _ kt_ => XS.aloadN X68.here hx rfl (hb hby d10_18) rfl rfl kt_) ?_
    show Done p e s below _ _ _ T68 (mkF m 19 #[.val (.ref ab), .val (.ref ac)] [(.ref ab), (.int tk)])
    refine Done.go (fun _ kt_ => XS.aloadN X68.here hx rfl (hb hby d10_19) rfl rfl kt_) ?_
    show Done p e s below _ _ _ T68 (mkF m 20 #[.val (.ref ab), .val (.ref ac)] [(.ref ac), (.ref ab), (.int tk)])
    obtain ⟨cq69, q69, q69'⟩ := Ea0.cell
    obtain ⟨v69, T69, Lc69, X69, hQ69, st69⟩ := own_backV (X68.privateBack hx (y := (⟨"com/example/pivotwise/pivotwise/index/PostingBuffer", "nextSlice", "(Lcom/example/pivotwise/pivotwise/index/PostingBuffer$Chain;)I"⟩ : MethodName)) hown (mvT hZ (hw _ (List.mem_of_getElem? (i := 78) rfl))) (mvT hZ (hw _ (List.mem_of_getElem? (i := 79) rfl))) (mvT hZ (own_selPriv (n := 7) (by decide) (hw _ (List.mem_of_getElem? (i := 2) rfl)) (hw _ (List.mem_of_getElem? (i := 80) rfl)) (hw _ (List.mem_of_getElem? (i := 79) rfl)))) (Cond.privateMethod_at (mvP hZ (hw _ (List.mem_of_getElem? (i := 80) rfl)) (args := #[]))) (mvT hZ (hw _ (List.mem_of_getElem? (i := 81) rfl))) (by decide) (backOf (W := 1) (rm11 l Z a0 hw [] ab ac fi sl h0 n0 Z0 Cfirst0 Cslice0 PmostSlice0) hZ (hw _ (List.mem_of_getElem? (i := 81) rfl)) (hw _ (List.mem_of_getElem? (i := 3) rfl)) (by decide) (by decide)) (g := (mkF m 20 #[.val (.ref ab), .val (.ref ac)] [(.ref ac), (.ref ab), (.int tk)])) rfl (by rw [hml]; rfl) (Steps.refl _) (a := ab) (by rw [e68]; exact q69) q69' (argsL := [(.ref ac)]) (rest := [(.int tk)]) (lenOf own_pd4 rfl) rfl (by show 2 * 0 + _ ≤ _; exact Nat.le_of_eq rfl) (hb hby d10_20) (fun _ _ => ⟨rfl, e68, (by first | decide | omega : 0 + 0 ≤ _), (by first | decide | omega : 0 + 0 ≤ _)⟩))
    obtain ⟨rfl, N69q, e69⟩ := hQ69
    refine Done.go st69 ?_
    clear st69
    have N69 := Fr.app N0 N69q
    clear N69q
    obtain ⟨Lh69, X69h, N69h⟩ : ∃ L, Stand p l e ({ frames := 2, cells := 0, slots := 0, locals := 27 } : Room) s m #[(.ref ab), (.ref ac)] below meth c T69 L 0 0 ∧ Fr n0 L := ⟨_, X69, N69⟩
    clear X69 N69 X68 e68
    show Done p e s below _ _ _ T69 (mkF m 23 #[.val (.ref ab), .val (.ref ac)] [(.int (own_ns fi sl)), (.int tk)])
    refine Done.go (fun _ kt_ => XS.iadd X69h.here hx rfl (hb hby d10_23) rfl kt_) ?_
    show Done p e s below _ _ _ T69 (mkF m 24 #[.val (.ref ab), .val (.ref ac)] [(.int (tk + (own_ns fi sl)))])
    refine Done.go (fun _ kt_ => XS.aloadN X69h.here hx rfl (hb hby d10_24) rfl rfl kt_) ?_
    show Done p e s below _ _ _ T69 (mkF m 25 #[.val (.ref ab), .val (.ref ac)] [(.ref ab), (.int (tk + (own_ns fi sl)))])
    obtain ⟨T70, X70, e70, st70⟩ := getF X69h hx hZ hown (host := "") (Or.inl (hw _ (List.mem_of_getElem? (i := 30) rfl))) Via.refl e69 PblockSize0 (g := (mkF m 25 #[.val (.ref ab), .val (.ref ac)] [(.ref ab), (.int (tk + (own_ns fi sl)))])) rfl rfl (hb hby d10_25)
    refine Done.go st70 ?_
    clear st70 X69h e69
    show Done p e s below _ _ _ T70 (mkF m 28 #[.val (.ref ab), .val (.ref ac)] [(.int (32 : Int32)), (.int (tk + (own_ns fi sl)))])
    by_cases hc28 : (32 : Int32) < (tk + (own_ns fi sl))
    · skip
      refine Done.go (fun _ kt_ => XS.icmpNo X70.here hx rfl (hb hby d10_28) rfl (tlt hc28).2.2.2 kt_) ?_
      show Done p e s below _ _ _ T70 (mkF m 31 #[.val (.ref ab), .val (.ref ac)] [])
      refine Done.go (fun _ kt_ => XS.aloadN X70.here hx rfl (hb hby d10_31) rfl rfl kt_) ?_
      show Done p e s below _ _ _ T70 (mkF m 32 #[.val (.ref ab), .val (.ref ac)] [(.ref ab)])
      obtain ⟨T71, X71, e71, st71⟩ := getF X70 hx hZ hown (host := "") (Or.inl (hw _ (List.mem_of_getElem? (i := 97) rfl))) Via.refl e70 Pblock0 (g := (mkF m 32 #[.val (.ref ab), .val (.ref ac)] [(.ref ab)])) rfl rfl (hb hby d10_32)
      refine Done.go st71 ?_
      clear st71 X70 e70
      show Done p e s below _ _ _ T71 (mkF m 35 #[.val (.ref ab), .val (.ref ac)] [(.int (0 : Int32))])
      refine Done.go (fun _ kt_ => XS.iconst X71.here hx rfl (hb hby d10_35) kt_) ?_
      show Done p e s below _ _ _ T71 (mkF m 36 #[.val (.ref ab), .val (.ref ac)] [(.int (1 : Int32)), (.int (0 : Int32))])
      refine Done.go (fun _ kt_ => XS.iadd X71.here hx rfl (hb hby d10_36) rfl kt_) ?_
      show Done p e s below _ _ _ T71 (mkF m 37 #[.val (.ref ab), .val (.ref ac)] [(.int ((0 : Int32) + (1 : Int32)))])
      rw [show ((0 : Int32) + (1 : Int32)) = (1 : Int32) from by decide]
      show Done p e s below _ _ _ T71 (mkF m 37 #[.val (.ref ab), .val (.ref ac)] [(.int (1 : Int32))])
      refine Done.go (fun _ kt_ => XS.aloadN X71.here hx rfl (hb hby d10_37) rfl rfl kt_) ?_
      show Done p e s below _ _ _ T71 (mkF m 38 #[.val (.ref ab), .val (.ref ac)] [(.ref ab), (.int (1 : Int32))])
      obtain ⟨T72, X72, e72, st72⟩ := getF X71 hx hZ hown (host := "") (Or.inl (hw _ (List.mem_of_getElem? (i := 40) rfl))) Via.refl e71 Pblocks0 (g := (mkF m 38 #[.val (.ref ab), .val (.ref ac)] [(.ref ab), (.int (1 : Int32))])) rfl rfl (hb hby d10_38)
      refine Done.go st72 ?_
      clear st72 X71 e71
      show Done p e s below _ _ _ T72 (mkF m 41 #[.val (.ref ab), .val (.ref ac)] [(.ref bB), (.int (1 : Int32))])
      refine Done.lenBlk X72 hx hZ e72 BB0 (hb hby d10_41) ?_
      show Done p e s below _ _ _ T72 (mkF m 42 #[.val (.ref ab), .val (.ref ac)] [(.int (1 : Int32)), (.int (1 : Int32))])
      refine Done.go (fun _ kt_ => XS.icmpYes X72.here hx rfl (pc0 := 42) (pc' := 49) rfl (hb hby d10_42) rfl (flt (by decide)).2.1 (by decide) (by decide) kt_) ?_
      show Done p e s below _ _ _ T72 (mkF m 49 #[.val (.ref ab), .val (.ref ac)] [])
      refine Done.go (fun _ kt_ => XS.iconst X72.here hx rfl (hb hby d10_49) kt_) ?_
      show Done p e s below _ _ _ T72 (mkF m 50 #[.val (.ref ab), .val (.ref ac)] [(.int (0 : Int32))])
      refine Done.retN X72 hx hlk (t := .boolean) hrt (by simp) (z' := (0 : Int32)) rfl (hb hby d10_50) ?_ (by first | decide | omega) (by first | decide | omega)
      rw [e72]
      exact ⟨by simp only [own_fit, hc11, hc28, if_true, if_false], N69h, rfl⟩
    · skip
      refine Done.go (fun _ kt_ => XS.icmpYes X70.here hx rfl (pc0 := 28) (pc' := 45) rfl (hb hby d10_28) rfl (flt hc28).2.2.2 (by decide) (by decide) kt_) ?_
      show Done p e s below _ _ _ T70 (mkF m 45 #[.val (.ref ab), .val (.ref ac)] [])
      refine Done.go (fun _ kt_ => XS.iconst X70.here hx rfl (hb hby d10_45) kt_) ?_
      show Done p e s below _ _ _ T70 (mkF m 46 #[.val (.ref ab), .val (.ref ac)] [(.int (1 : Int32))])
      refine Done.go (fun _ kt_ => XS.goto X70.here hx rfl (pc0 := 46) (pc' := 50) rfl (hb hby d10_46) (by decide) (by decide) kt_) ?_
      show Done p e s below _ _ _ T70 (mkF m 50 #[.val (.ref ab), .val (.ref ac)] [(.int (1 : Int32))])
      refine Done.retN X70 hx hlk (t := .boolean) hrt (by simp) (z' := (1 : Int32)) rfl (hb hby d10_50) ?_ (by first | decide | omega) (by first | decide | omega)
      rw [e70]
      exact ⟨by simp only [own_fit, hc11, hc28, if_true, if_false], N69h, rfl⟩
  · skip
    refine Done.go (fun _ kt_ => XS.icmpYes X0.here hx rfl (pc0 := 11) (pc' := 45) rfl (hb hby d10_11) rfl (flt hc11).2.1 (by decide) (by decide) kt_) ?_
    show Done p e s below _ _ _ s₁ (mkF m 45 #[.val (.ref ab), .val (.ref ac)] [])
    refine Done.go (fun _ kt_ => XS.iconst X0.here hx rfl (hb hby d10_45) kt_) ?_
    show Done p e s below _ _ _ s₁ (mkF m 46 #[.val (.ref ab), .val (.ref ac)] [(.int (1 : Int32))])
    refine Done.go (fun _ kt_ => XS.goto X0.here hx rfl (pc0 := 46) (pc' := 50) rfl (hb hby d10_46) (by decide) (by decide) kt_) ?_
    show Done p e s below _ _ _ s₁ (mkF m 50 #[.val (.ref ab), .val (.ref ac)] [(.int (1 : Int32))])
    refine Done.retN X0 hx hlk (t := .boolean) hrt (by simp) (z' := (1 : Int32)) rfl (hb hby d10_50) ?_ (by first | decide | omega) (by first | decide | omega)
    rw [e0]
    exact ⟨by simp only [own_fit, hc11, if_true, if_false], N0, rfl⟩
def QE (Z : State) (v : Int64) (a1 : Addr) (n : Nat) (f : Nat → Int32) (A B : Nat) (h0 : Heap) (n0 : Nat) (r : Option Value) (h : Heap) (L : List Loc) : Prop := ∃ (z : Int32) (N : Nat), r = some (.int z) ∧ z.toInt = ((A + N : Nat) : Int) ∧ 1 ≤ N ∧ N ≤ B ∧ own_isN v N ∧ Fr n0 L ∧ Keep h0 h [a1] ∧ Ari Z h a1 .byte n (own_fin f v A N)
theorem d13_0 : decode prog_97_method_2_code 0 = .ok (.iload_n 3, 1) := by decide +kernel
theorem d13_1 : decode prog_97_method_2_code 1 = .ok (.istore 4, 2) := by decide +kernel
theorem d13_3 : decode prog_97_method_2_code 3 = .ok (.lload_n 0, 1) := by decide +kernel
theorem d13_4 : decode prog_97_method_2_code 4 = .ok (.lstore 5, 2) := by decide +kernel
theorem d13_6 : decode prog_97_method_2_code 6 = .ok (.lload 5, 2) := by decide +kernel
theorem d13_8 : decode prog_97_method_2_code 8 = .ok (.ldc2_w 13, 3) := by decide +kernel
theorem d13_11 : decode prog_97_method_2_code 11 = .ok (.lcmp, 1) := by decide +kernel
theorem d13_12 : decode prog_97_method_2_code 12 = .ok (.ifCond .lt 28, 3) := by decide +kernel
theorem d13_15 : decode prog_97_method_2_code 15 = .ok (.aload_n 2, 1) := by decide +kernel
theorem d13_16 : decode prog_97_method_2_code 16 = .ok (.iload 4, 2) := by decide +kernel
theorem d13_18 : decode prog_97_method_2_code 18 = .ok (.iinc 4 1, 3) := by decide +kernel
theorem d13_21 : decode prog_97_method_2_code 21 = .ok (.lload 5, 2) := by decide +kernel
theorem d13_23 : decode prog_97_method_2_code 23 = .ok (.ldc2_w 13, 3) := by decide +kernel
theorem d13_26 : decode prog_97_method_2_code 26 = .ok (.lor, 1) := by decide +kernel
theorem d13_27 : decode prog_97_method_2_code 27 = .ok (.l2i, 1) := by decide +kernel
theorem d13_28 : decode prog_97_method_2_code 28 = .ok (.i2b, 1) := by decide +kernel
theorem d13_29 : decode prog_97_method_2_code 29 = .ok (.bastore, 1) := by decide +kernel
theorem d13_30 : decode prog_97_method_2_code 30 = .ok (.lload 5, 2) := by decide +kernel
theorem d13_32 : decode prog_97_method_2_code 32 = .ok (.bipush 7, 2) := by decide +kernel
theorem d13_34 : decode prog_97_method_2_code 34 = .ok (.lushr, 1) := by decide +kernel
theorem d13_35 : decode prog_97_method_2_code 35 = .ok (.lstore 5, 2) := by decide +kernel
theorem d13_37 : decode prog_97_method_2_code 37 = .ok (.goto (-31), 3) := by decide +kernel
theorem d13_40 : decode prog_97_method_2_code 40 = .ok (.aload_n 2, 1) := by decide +kernel
theorem d13_41 : decode prog_97_method_2_code 41 = .ok (.iload 4, 2) := by decide +kernel
theorem d13_43 : decode prog_97_method_2_code 43 = .ok (.iinc 4 1, 3) := by decide +kernel
theorem d13_46 : decode prog_97_method_2_code 46 = .ok (.lload 5, 2) := by decide +kernel
theorem d13_48 : decode prog_97_method_2_code 48 = .ok (.l2i, 1) := by decide +kernel
theorem d13_49 : decode prog_97_method_2_code 49 = .ok (.i2b, 1) := by decide +kernel
theorem d13_50 : decode prog_97_method_2_code 50 = .ok (.bastore, 1) := by decide +kernel
theorem d13_51 : decode prog_97_method_2_code 51 = .ok (.iload 4, 2) := by decide +kernel
theorem d13_53 : decode prog_97_method_2_code 53 = .ok (.ireturn, 1) := by decide +kernel
theorem own_pn4 : plainName "com/example/pivotwise/pivotwise/index/ByteEncoder" = true := by first | (simp [plainName, overriddenIn]; done) | decide +kernel
theorem ef_rmE (m : MethodId) (v : Int64) (a1 : Addr) (pa : Int32) : entryFrame m #[(.long v), (.ref a1), (.int pa)] 7 = mkF m 0 #[.val (.long v), .second, .val (.ref a1), .val (.int pa), .unset, .unset, .unset] [] := by first | (simp [entryFrame, mkF, argsToLocals, Value.category]; done) | rfl
set_option maxRecDepth 65536 in
set_option maxHeartbeats 40000000 in
theorem rmE (l : Launch) (Z : State) (a0 : Array Value) (hw : ∀ d ∈ tables_1, d.before a0 Z = true) (ws : List Jvm.Cond) (v : Int64) (a1 : Addr) (pa : Int32) (n : Nat) (f : Nat → Int32) (A : Nat) (B : Nat) (h0 : Heap) (n0 : Nat) (Z0 : n0 ≤ h0.size) (V0 : Ari Z h0 a1 .byte n f) (g1 : n0 ≤ a1) (hA : pa.toInt = (A : Int)) (hv : 0 ≤ v.toInt) (hB : v.toInt < ((128 ^ B : Nat) : Int)) (hn : A + B ≤ n) (hn2 : n < 1000) (hB1 : 1 ≤ B) :
    MetFree l (⟨"com/example/pivotwise/pivotwise/index/ByteEncoder", "encode", "(J[BI)I"⟩ : MethodName) (head1 (Jvm.Cond.code (⟨"com/example/pivotwise/pivotwise/index/ByteEncoder", "encode", "(J[BI)I"⟩ : MethodName) prog_97_method_2_code 7 (some .int) :: ws) ({ frames := 0, cells := 0, slots := 0, locals := 0 } : Room)) (fun a U => a = #[(.long v), (.ref a1), (.int pa)] ∧ Z.Warmed39 U.vm ∧ U.heap = h0) (fun _ _ _ _ _ => True) (fun _ U o U' => ∃ vr Lr, o = .returned vr ∧ QE Z v a1 n f A B h0 n0 vr U'.heap Lr ∧ FrameEnd U o U' Lr 0 0) := by
  refine MetFree.of_bodySF (plainFor_of_name own_pn4) hisR ?_
  intro p e s m args below meth c s₁ Bd hml0 hP hK
  obtain ⟨rfl, hZ, hh⟩ := hP
  have hx := Bd.exec
  have hby := Bd.bytes
  have hml : c.maxLocals = 7 := hml0
  have hown : s.vm.findClass "com/example/pivotwise/pivotwise/index/ByteEncoder" = some m.cls := findClass_of_methodNamed Bd.named
  have hnm := (name_of_methodNamed Bd.named Bd.method).1
  have hlk : meth.locks = false := Bd.notSynchronized
  have hrt := Bd.returns
  have X0 : Stand p l e ({ frames := 0, cells := 0, slots := 0, locals := 0 } : Room) s m #[(.long v), (.ref a1), (.int pa)] below meth c s₁ [] 0 0 := Stand.of_body Bd
  have e0 : s₁.heap = h0 := by rw [← hh, Bd.state]; rfl
  have N0 := Fr.nil n0
  show Done p e s below 0 0 (QE Z v a1 n f A B h0 n0) s₁ (entryFrame m #[(.long v), (.ref a1), (.int pa)] 7)
  rw [ef_rmE]
  have loop : ∀ (d k : Nat) (T1 : State) (h1 : Heap) (L1 : List Loc) (pos : Int32), d + 1 + k = B → Stand p l e ({ frames := 0, cells := 0, slots := 0, locals := 0 } : Room) s m #[(.long v), (.ref a1), (.int pa)] below meth c T1 L1 0 0 → T1.heap = h1 → Fr n0 L1 → n0 ≤ h1.size → Keep h0 h1 [a1] → Ari Z h1 a1 .byte n (own_enc f v A k) → pos.toInt = ((A + k : Nat) : Int) → (k = 0 ∨ ((128 ^ k : Nat) : Int) ≤ v.toInt) → Done p e s below 0 0 (QE Z v a1 n f A B h0 n0) T1 (mkF m 6 #[.val (.long v), .second, .val (.ref a1), .val (.int pa), .val (.int pos), .val (.long (own_sh v k)), .second] []) := by
    intro d
    induction d with
    | zero =>
      intro k T1 h1 L1 pos hd X1 e1 N1 z1 K1 V1 hpos hk
      obtain ⟨hp0, hpn⟩ := own_ix hpos
      have hlt : (own_sh v k).toInt < 128 ↔ own_sh v k < 128 := by rw [Int64.lt_iff_toInt_lt]; rfl
      have hsm : (own_sh v k).toInt < 128 := own_end hv (by rw [show k + 1 = B from (by omega)]; exact hB)
      show Done p e s below _ _ _ T1 (mkF m 6 #[.val (.long v), .second, .val (.ref a1), .val (.int pa), .val (.int pos), .val (.long (own_sh v k)), .second] [])
      refine Done.go (fun _ kt_ => XS.lload X1.here hx rfl (hb hby d13_6) rfl kt_) ?_
      show Done p e s below _ _ _ T1 (mkF m 8 #[.val (.long v), .second, .val (.ref a1), .val (.int pa), .val (.int pos), .val (.long (own_sh v k)), .second] [(.long (own_sh v k))])
      refine Done.go (fun t_ kt_ => X1.ldc2Long hx hown (mvT hZ (hw _ (List.mem_of_getElem? (i := 92) rfl))) (g := (mkF m 8 #[.val (.long v), .second, .val (.ref a1), .val (.int pa), .val (.int pos), .val (.long (own_sh v k)), .second] [(.long (own_sh v k))])) rfl (hb hby d13_8) t_ kt_) ?_
      show Done p e s below _ _ _ T1 (mkF m 11 #[.val (.long v), .second, .val (.ref a1), .val (.int pa), .val (.int pos), .val (.long (own_sh v k)), .second] [(.long (128 : Int64)), (.long (own_sh v k))])
      refine Done.go (fun _ kt_ => XS.lcmp X1.here hx rfl (hb hby d13_11) rfl kt_) ?_
      show Done p e s below _ _ _ T1 (mkF m 12 #[.val (.long v), .second, .val (.ref a1), .val (.int pa), .val (.int pos), .val (.long (own_sh v k)), .second] [(.int (lcmpW (own_sh v k) (128 : Int64)))])
      refine Done.go (fun _ kt_ => XS.ifYes X1.here hx rfl (pc0 := 12) (pc' := 40) rfl (hb hby d13_12) rfl ((if0 _ _).trans (tlt ((lw_lt _ _).mpr (hlt.mp hsm))).1) (by decide) (by decide) kt_) ?_
      show Done p e s below _ _ _ T1 (mkF m 40 #[.val (.long v), .second, .val (.ref a1), .val (.int pa), .val (.int pos), .val (.long (own_sh v k)), .second] [])
      refine Done.go (fun _ kt_ => XS.aloadN X1.here hx rfl (hb hby d13_40) rfl rfl kt_) ?_
      show Done p e s below _ _ _ T1 (mkF m 41 #[.val (.long v), .second, .val (.ref a1), .val (.int pa), .val (.int pos), .val (.long (own_sh v k)), .second] [(.ref a1)])
      refine Done.go (fun _ kt_ => XS.iload X1.here hx rfl (hb hby d13_41) rfl kt_) ?_
      show Done p e s below _ _ _ T1 (mkF m 43 #[.val (.long v), .second, .val (.ref a1), .val (.int pa), .val (.int pos), .val (.long (own_sh v k)), .second] [(.int pos), (.ref a1)])
      refine Done.go (fun _ kt_ => XS.iinc X1.here hx rfl (hb hby d13_43) rfl (l' := #[.val (.long v), .second, .val (.ref a1), .val (.int pa), .val (.int (pos + (1 : Int32))), .val (.long (own_sh v k)), .second]) rfl kt_) ?_
      show Done p e s below _ _ _ T1 (mkF m 46 #[.val (.long v), .second, .val (.ref a1), .val (.int pa), .val (.int (pos + (1 : Int32))), .val (.long (own_sh v k)), .second] [(.int pos), (.ref a1)])
      refine Done.go (fun _ kt_ => XS.lload X1.here hx rfl (hb hby d13_46) rfl kt_) ?_
      show Done p e s below _ _ _ T1 (mkF m 48 #[.val (.long v), .second, .val (.ref a1), .val (.int pa), .val (.int (pos + (1 : Int32))), .val (.long (own_sh v k)), .second] [(.long (own_sh v k)), (.int pos), (.ref a1)])
      refine Done.go (fun _ kt_ => XS.l2i X1.here hx rfl (hb hby d13_48) rfl kt_) ?_
      show Done p e s below _ _ _ T1 (mkF m 49 #[.val (.long v), .second, .val (.ref a1), .val (.int pa), .val (.int (pos + (1 : Int32))), .val (.long (own_sh v k)), .second] [(.int ((own_sh v k).toInt32)), (.int pos), (.ref a1)])
      refine Done.go (fun _ kt_ => XS.i2b X1.here hx rfl (hb hby d13_49) rfl kt_) ?_
      show Done p e s below _ _ _ T1 (mkF m 50 #[.val (.long v), .second, .val (.ref a1), .val (.int pa), .val (.int (pos + (1 : Int32))), .val (.long (own_sh v k)), .second] [(.int (((own_sh v k).toInt32).toInt8.toInt32)), (.int pos), (.ref a1)])
      obtain ⟨T73, h73, X73, e73, W73, V73, st73⟩ := own_stB X1 hx hZ e1 V1 (j := pos) (A + k) hp0 hpn (by omega) (g := (mkF m 50 #[.val (.long v), .second, .val (.ref a1), .val (.int pa), .val (.int (pos + (1 : Int32))), .val (.long (own_sh v k)), .second] [(.int (((own_sh v k).toInt32).toInt8.toInt32)), (.int pos), (.ref a1)])) rfl rfl (hb hby d13_50)
      have N73 := Fr.snoc X73 N1 g1
      have Z73 : n0 ≤ h73.size := by rw [W73.size]; exact z1
      have K73 : Keep h0 h73 [a1] := K1.wr W73 (Or.inl (List.mem_of_getElem? (i := 0) rfl))
      obtain ⟨Lh73, X73h, N73h⟩ : ∃ L, Stand p l e ({ frames := 0, cells := 0, slots := 0, locals := 0 } : Room) s m #[(.long v), (.ref a1), (.int pa)] below meth c T73 L 0 0 ∧ Fr n0 L := ⟨_, X73, N73⟩
      clear X73 N73 X1 e1 N1 z1 K1
      refine Done.go st73 ?_
      clear st73
      show Done p e s below _ _ _ T73 (mkF m 51 #[.val (.long v), .second, .val (.ref a1), .val (.int pa), .val (.int (pos + (1 : Int32))), .val (.long (own_sh v k)), .second] [])
      refine Done.go (fun _ kt_ => XS.iload X73h.here hx rfl (hb hby d13_51) rfl kt_) ?_
      show Done p e s below _ _ _ T73 (mkF m 53 #[.val (.long v), .second, .val (.ref a1), .val (.int pa), .val (.int (pos + (1 : Int32))), .val (.long (own_sh v k)), .second] [(.int (pos + (1 : Int32)))])
      refine Done.retI X73h hx hlk hrt (hb hby d13_53) ?_ (by first | decide | omega) (by first | decide | omega)
      rw [e73]
      refine ⟨_, k + 1, rfl, own_inc (i := A + k) hpos (by omega), by omega, by omega, own_isN_last hv (hsm) hk, N73h, K73, ?_⟩
      exact V73.congr (fun i _ => by rw [own_narB]; exact own_enc_fin f v A k i)
    | succ d ih =>
      intro k T1 h1 L1 pos hd X1 e1 N1 z1 K1 V1 hpos hk
      obtain ⟨hp0, hpn⟩ := own_ix hpos
      have hlt : (own_sh v k).toInt < 128 ↔ own_sh v k < 128 := by rw [Int64.lt_iff_toInt_lt]; rfl
      show Done p e s below _ _ _ T1 (mkF m 6 #[.val (.long v), .second, .val (.ref a1), .val (.int pa), .val (.int pos), .val (.long (own_sh v k)), .second] [])
      refine Done.go (fun _ kt_ => XS.lload X1.here hx rfl (hb hby d13_6) rfl kt_) ?_
      show Done p e s below _ _ _ T1 (mkF m 8 #[.val (.long v), .second, .val (.ref a1), .val (.int pa), .val (.int pos), .val (.long (own_sh v k)), .second] [(.long (own_sh v k))])
      refine Done.go (fun t_ kt_ => X1.ldc2Long hx hown (mvT hZ (hw _ (List.mem_of_getElem? (i := 92) rfl))) (g := (mkF m 8 #[.val (.long v), .second, .val (.ref a1), .val (.int pa), .val (.int pos), .val (.long (own_sh v k)), .second] [(.long (own_sh v k))])) rfl (hb hby d13_8) t_ kt_) ?_
      show Done p e s below _ _ _ T1 (mkF m 11 #[.val (.long v), .second, .val (.ref a1), .val (.int pa), .val (.int pos), .val (.long (own_sh v k)), .second] [(.long (128 : Int64)), (.long (own_sh v k))])
      refine Done.go (fun _ kt_ => XS.lcmp X1.here hx rfl (hb hby d13_11) rfl kt_) ?_
      show Done p e s below _ _ _ T1 (mkF m 12 #[.val (.long v), .second, .val (.ref a1), .val (.int pa), .val (.int pos), .val (.long (own_sh v k)), .second] [(.int (lcmpW (own_sh v k) (128 : Int64)))])
      by_cases hc12 : (lcmpW (own_sh v k) (128 : Int64)) < (0 : Int32)
      · skip
        refine Done.go (fun _ kt_ => XS.ifYes X1.here hx rfl (pc0 := 12) (pc' := 40) rfl (hb hby d13_12) rfl ((if0 _ _).trans (tlt hc12).1) (by decide) (by decide) kt_) ?_
        show Done p e s below _ _ _ T1 (mkF m 40 #[.val (.long v), .second, .val (.ref a1), .val (.int pa), .val (.int pos), .val (.long (own_sh v k)), .second] [])
        refine Done.go (fun _ kt_ => XS.aloadN X1.here hx rfl (hb hby d13_40) rfl rfl kt_) ?_
        show Done p e s below _ _ _ T1 (mkF m 41 #[.val (.long v), .second, .val (.ref a1), .val (.int pa), .val (.int pos), .val (.long (own_sh v k)), .second] [(.ref a1)])
        refine Done.go (fun _ kt_ => XS.iload X1.here hx rfl (hb hby d13_41) rfl kt_) ?_
        show Done p e s below _ _ _ T1 (mkF m 43 #[.val (.long v), .second, .val (.ref a1), .val (.int pa), .val (.int pos), .val (.long (own_sh v k)), .second] [(.int pos), (.ref a1)])
        refine Done.go (fun _ kt_ => XS.iinc X1.here hx rfl (hb hby d13_43) rfl (l' := #[.val (.long v), .second, .val (.ref a1), .val (.int pa), .val (.int (pos + (1 : Int32))), .val (.long (own_sh v k)), .second]) rfl kt_) ?_
        show Done p e s below _ _ _ T1 (mkF m 46 #[.val (.long v), .second, .val (.ref a1), .val (.int pa), .val (.int (pos + (1 : Int32))), .val (.long (own_sh v k)), .second] [(.int pos), (.ref a1)])
        refine Done.go (fun _ kt_ => XS.lload X1.here hx rfl (hb hby d13_46) rfl kt_) ?_
        show Done p e s below _ _ _ T1 (mkF m 48 #[.val (.long v), .second, .val (.ref a1), .val (.int pa), .val (.int (pos + (1 : Int32))), .val (.long (own_sh v k)), .second] [(.long (own_sh v k)), (.int pos), (.ref a1)])
        refine Done.go (fun _ kt_ => XS.l2i X1.here hx rfl (hb hby d13_48) rfl kt_) ?_
        show Done p e s below _ _ _ T1 (mkF m 49 #[.val (.long v), .second, .val (.ref a1), .val (.int pa), .val (.int (pos + (1 : Int32))), .val (.long (own_sh v k)), .second] [(.int ((own_sh v k).toInt32)), (.int pos), (.ref a1)])
        refine Done.go (fun _ kt_ => XS.i2b X1.here hx rfl (hb hby d13_49) rfl kt_) ?_
        show Done p e s below _ _ _ T1 (mkF m 50 #[.val (.long v), .second, .val (.ref a1), .val (.int pa), .val (.int (pos + (1 : Int32))), .val (.long (own_sh v k)), .second] [(.int (((own_sh v k).toInt32).toInt8.toInt32)), (.int pos), (.ref a1)])
        obtain ⟨T74, h74, X74, e74, W74, V74, st74⟩ := own_stB X1 hx hZ e1 V1 (j := pos) (A + k) hp0 hpn (by omega) (g := (mkF m 50 #[.val (.long v), .second, .val (.ref a1), .val (.int pa), .val (.int (pos + (1 : Int32))), .val (.long (own_sh v k)), .second] [(.int (((own_sh v k).toInt32).toInt8.toInt32)), (.int pos), (.ref a1)])) rfl rfl (hb hby d13_50)
        have N74 := Fr.snoc X74 N1 g1
        have Z74 : n0 ≤ h74.size := by rw [W74.size]; exact z1
        have K74 : Keep h0 h74 [a1] := K1.wr W74 (Or.inl (List.mem_of_getElem? (i := 0) rfl))
        obtain ⟨Lh74, X74h, N74h⟩ : ∃ L, Stand p l e ({ frames := 0, cells := 0, slots := 0, locals := 0 } : Room) s m #[(.long v), (.ref a1), (.int pa)] below meth c T74 L 0 0 ∧ Fr n0 L := ⟨_, X74, N74⟩
        clear X74 N74 X1 e1 N1 z1 K1
        refine Done.go st74 ?_
        clear st74
        show Done p e s below _ _ _ T74 (mkF m 51 #[.val (.long v), .second, .val (.ref a1), .val (.int pa), .val (.int (pos + (1 : Int32))), .val (.long (own_sh v k)), .second] [])
        refine Done.go (fun _ kt_ => XS.iload X74h.here hx rfl (hb hby d13_51) rfl kt_) ?_
        show Done p e s below _ _ _ T74 (mkF m 53 #[.val (.long v), .second, .val (.ref a1), .val (.int pa), .val (.int (pos + (1 : Int32))), .val (.long (own_sh v k)), .second] [(.int (pos + (1 : Int32)))])
        refine Done.retI X74h hx hlk hrt (hb hby d13_53) ?_ (by first | decide | omega) (by first | decide | omega)
        rw [e74]
        refine ⟨_, k + 1, rfl, own_inc (i := A + k) hpos (by omega), by omega, by omega, own_isN_last hv (hlt.mpr ((lw_lt _ _).mp hc12)) hk, N74h, K74, ?_⟩
        exact V74.congr (fun i _ => by rw [own_narB]; exact own_enc_fin f v A k i)
      · skip
        refine Done.go (fun _ kt_ => XS.ifNo X1.here hx rfl (hb hby d13_12) rfl ((if0 _ _).trans (flt hc12).1) kt_) ?_
        show Done p e s below _ _ _ T1 (mkF m 15 #[.val (.long v), .second, .val (.ref a1), .val (.int pa), .val (.int pos), .val (.long (own_sh v k)), .second] [])
        refine Done.go (fun _ kt_ => XS.aloadN X1.here hx rfl (hb hby d13_15) rfl rfl kt_) ?_
        show Done p e s below _ _ _ T1 (mkF m 16 #[.val (.long v), .second, .val (.ref a1), .val (.int pa), .val (.int pos), .val (.long (own_sh v k)), .second] [(.ref a1)])
        refine Done.go (fun _ kt_ => XS.iload X1.here hx rfl (hb hby d13_16) rfl kt_) ?_
        show Done p e s below _ _ _ T1 (mkF m 18 #[.val (.long v), .second, .val (.ref a1), .val (.int pa), .val (.int pos), .val (.long (own_sh v k)), .second] [(.int pos), (.ref a1)])
        refine Done.go (fun _ kt_ => XS.iinc X1.here hx rfl (hb hby d13_18) rfl (l' := #[.val (.long v), .second, .val (.ref a1), .val (.int pa), .val (.int (pos + (1 : Int32))), .val (.long (own_sh v k)), .second]) rfl kt_) ?_
        show Done p e s below _ _ _ T1 (mkF m 21 #[.val (.long v), .second, .val (.ref a1), .val (.int pa), .val (.int (pos + (1 : Int32))), .val (.long (own_sh v k)), .second] [(.int pos), (.ref a1)])
        refine Done.go (fun _ kt_ => XS.lload X1.here hx rfl (hb hby d13_21) rfl kt_) ?_
        show Done p e s below _ _ _ T1 (mkF m 23 #[.val (.long v), .second, .val (.ref a1), .val (.int pa), .val (.int (pos + (1 : Int32))), .val (.long (own_sh v k)), .second] [(.long (own_sh v k)), (.int pos), (.ref a1)])
        refine Done.go (fun t_ kt_ => X1.ldc2Long hx hown (mvT hZ (hw _ (List.mem_of_getElem? (i := 92) rfl))) (g := (mkF m 23 #[.val (.long v), .second, .val (.ref a1), .val (.int pa), .val (.int (pos + (1 : Int32))), .val (.long (own_sh v k)), .second] [(.long (own_sh v k)), (.int pos), (.ref a1)])) rfl (hb hby d13_23) t_ kt_) ?_
        show Done p e s below _ _ _ T1 (mkF m 26 #[.val (.long v), .second, .val (.ref a1), .val (.int pa), .val (.int (pos + (1 : Int32))), .val (.long (own_sh v k)), .second] [(.long (128 : Int64)), (.long (own_sh v k)), (.int pos), (.ref a1)])
        refine Done.go (fun _ kt_ => XS.lor X1.here hx rfl (hb hby d13_26) rfl kt_) ?_
        show Done p e s below _ _ _ T1 (mkF m 27 #[.val (.long v), .second, .val (.ref a1), .val (.int pa), .val (.int (pos + (1 : Int32))), .val (.long (own_sh v k)), .second] [(.long ((own_sh v k) ||| (128 : Int64))), (.int pos), (.ref a1)])
        refine Done.go (fun _ kt_ => XS.l2i X1.here hx rfl (hb hby d13_27) rfl kt_) ?_
        show Done p e s below _ _ _ T1 (mkF m 28 #[.val (.long v), .second, .val (.ref a1), .val (.int pa), .val (.int (pos + (1 : Int32))), .val (.long (own_sh v k)), .second] [(.int (((own_sh v k) ||| (128 : Int64)).toInt32)), (.int pos), (.ref a1)])
        refine Done.go (fun _ kt_ => XS.i2b X1.here hx rfl (hb hby d13_28) rfl kt_) ?_
        show Done p e s below _ _ _ T1 (mkF m 29 #[.val (.long v), .second, .val (.ref a1), .val (.int pa), .val (.int (pos + (1 : Int32))), .val (.long (own_sh v k)), .second] [(.int ((((own_sh v k) ||| (128 : Int64)).toInt32).toInt8.toInt32)), (.int pos), (.ref a1)])
        obtain ⟨T75, h75, X75, e75, W75, V75, st75⟩ := own_stB X1 hx hZ e1 V1 (j := pos) (A + k) hp0 hpn (by omega) (g := (mkF m 29 #[.val (.long v), .second, .val (.ref a1), .val (.int pa), .val (.int (pos + (1 : Int32))), .val (.long (own_sh v k)), .second] [(.int ((((own_sh v k) ||| (128 : Int64)).toInt32).toInt8.toInt32)), (.int pos), (.ref a1)])) rfl rfl (hb hby d13_29)
        have N75 := Fr.snoc X75 N1 g1
        have Z75 : n0 ≤ h75.size := by rw [W75.size]; exact z1
        have K75 : Keep h0 h75 [a1] := K1.wr W75 (Or.inl (List.mem_of_getElem? (i := 0) rfl))
        obtain ⟨Lh75, X75h, N75h⟩ : ∃ L, Stand p l e ({ frames := 0, cells := 0, slots := 0, locals := 0 } : Room) s m #[(.long v), (.ref a1), (.int pa)] below meth c T75 L 0 0 ∧ Fr n0 L := ⟨_, X75, N75⟩
        clear X75 N75 X1 e1 N1 z1 K1
        refine Done.go st75 ?_
        clear st75
        show Done p e s below _ _ _ T75 (mkF m 30 #[.val (.long v), .second, .val (.ref a1), .val (.int pa), .val (.int (pos + (1 : Int32))), .val (.long (own_sh v k)), .second] [])
        refine Done.go (fun _ kt_ => XS.lload X75h.here hx rfl (hb hby d13_30) rfl kt_) ?_
        show Done p e s below _ _ _ T75 (mkF m 32 #[.val (.long v), .second, .val (.ref a1), .val (.int pa), .val (.int (pos + (1 : Int32))), .val (.long (own_sh v k)), .second] [(.long (own_sh v k))])
        refine Done.go (fun _ kt_ => XS.bipush X75h.here hx rfl (hb hby d13_32) kt_) ?_
        show Done p e s below _ _ _ T75 (mkF m 34 #[.val (.long v), .second, .val (.ref a1), .val (.int pa), .val (.int (pos + (1 : Int32))), .val (.long (own_sh v k)), .second] [(.int (7 : Int32)), (.long (own_sh v k))])
        refine Done.go (fun _ kt_ => XS.lushr X75h.here hx rfl (hb hby d13_34) rfl kt_) ?_
        show Done p e s below _ _ _ T75 (mkF m 35 #[.val (.long v), .second, .val (.ref a1), .val (.int pa), .val (.int (pos + (1 : Int32))), .val (.long (own_sh v k)), .second] [(.long (((own_sh v k).toUInt64 >>> ((7 : Int32) &&& 0x3f).toInt64.toUInt64).toInt64))])
        refine Done.go (fun _ kt_ => XS.lstore X75h.here hx rfl (hb hby d13_35) rfl (l' := #[.val (.long v), .second, .val (.ref a1), .val (.int pa), .val (.int (pos + (1 : Int32))), .val (.long (((own_sh v k).toUInt64 >>> ((7 : Int32) &&& 0x3f).toInt64.toUInt64).toInt64)), .second]) rfl kt_) ?_
        show Done p e s below _ _ _ T75 (mkF m 37 #[.val (.long v), .second, .val (.ref a1), .val (.int pa), .val (.int (pos + (1 : Int32))), .val (.long (((own_sh v k).toUInt64 >>> ((7 : Int32) &&& 0x3f).toInt64.toUInt64).toInt64)), .second] [])
        refine Done.go (fun _ kt_ => XS.goto X75h.here hx rfl (pc0 := 37) (pc' := 6) rfl (hb hby d13_37) (by decide) (by decide) kt_) ?_
        show Done p e s below _ _ _ T75 (mkF m 6 #[.val (.long v), .second, .val (.ref a1), .val (.int pa), .val (.int (pos + (1 : Int32))), .val (.long (((own_sh v k).toUInt64 >>> ((7 : Int32) &&& 0x3f).toInt64.toUInt64).toInt64)), .second] [])
        rw [own_sh_succ]
        refine ih (k + 1) _ _ _ _ (by omega) X75h e75 N75h Z75 K75 (V75.congr (fun i _ => by rw [own_narB]; exact own_enc_succ f v A k i)) (own_inc (i := A + k) hpos (by omega)) (Or.inr (own_more hv (fun q => hc12 ((lw_lt _ _).mpr (hlt.mp q)))))
  show Done p e s below _ _ _ s₁ (mkF m 0 #[.val (.long v), .second, .val (.ref a1), .val (.int pa), .unset, .unset, .unset] [])
  refine Done.go (fun _ kt_ => XS.iloadN X0.here hx rfl (hb hby d13_0) rfl kt_) ?_
  show Done p e s below _ _ _ s₁ (mkF m 1 #[.val (.long v), .second, .val (.ref a1), .val (.int pa), .unset, .unset, .unset] [(.int pa)])
  refine Done.go (fun _ kt_ => XS.istore X0.here hx rfl (hb hby d13_1) rfl (l' := #[.val (.long v), .second, .val (.ref a1), .val (.int pa), .val (.int pa), .unset, .unset]) rfl kt_) ?_
  show Done p e s below _ _ _ s₁ (mkF m 3 #[.val (.long v), .second, .val (.ref a1), .val (.int pa), .val (.int pa), .unset, .unset] [])
  refine Done.go (fun _ kt_ => XS.lloadN X0.here hx rfl (hb hby d13_3) rfl kt_) ?_
  show Done p e s below _ _ _ s₁ (mkF m 4 #[.val (.long v), .second, .val (.ref a1), .val (.int pa), .val (.int pa), .unset, .unset] [(.long v)])
  refine Done.go (fun _ kt_ => XS.lstore X0.here hx rfl (hb hby d13_4) rfl (l' := #[.val (.long v), .second, .val (.ref a1), .val (.int pa), .val (.int pa), .val (.long v), .second]) rfl kt_) ?_
  show Done p e s below _ _ _ s₁ (mkF m 6 #[.val (.long v), .second, .val (.ref a1), .val (.int pa), .val (.int pa), .val (.long v), .second] [])
  have e1 := own_sh_zero v
  have q := loop (B - 1) 0 _ _ _ pa (by omega) X0 e0 N0 Z0 (Keep.refl _ _) (by rw [own_enc_zero]; exact V0) (by rw [hA]; rfl) (Or.inl rfl)
  rw [own_sh_zero] at q
  exact q
def Q14 (Z : State) (ab ac bP bB : Addr) (TK : Int32) (tk2 en : Int32) (ln : Int32) (h0 : Heap) (n0 : Nat) (r : Option Value) (h : Heap) (L : List Loc) : Prop := r = none ∧ Fr n0 L ∧ h0.size ≤ h.size ∧ ∃ (bk : Addr) (g : Nat → Int32), own_pb Z h ab ac bP bB (.ref bk) tk2 TK TK en 16 ln ∧ Ari Z h bk .byte 32 g ∧ own_dk bk ab ac bP bB ∧ n0 ≤ bk
theorem d14_0 : decode prog_122_method_8_code 0 = .ok (.aload_n 0, 1) := by decide +kernel
theorem d14_1 : decode prog_122_method_8_code 1 = .ok (.aload_n 1, 1) := by decide +kernel
theorem d14_2 : decode prog_122_method_8_code 2 = .ok (.invokevirtual 59, 3) := by decide +kernel
theorem d14_5 : decode prog_122_method_8_code 5 = .ok (.istore_n 2, 1) := by decide +kernel
theorem d14_6 : decode prog_122_method_8_code 6 = .ok (.aload_n 0, 1) := by decide +kernel
theorem d14_7 : decode prog_122_method_8_code 7 = .ok (.getfield 56, 3) := by decide +kernel
theorem d14_10 : decode prog_122_method_8_code 10 = .ok (.iload_n 2, 1) := by decide +kernel
theorem d14_11 : decode prog_122_method_8_code 11 = .ok (.iadd, 1) := by decide +kernel
theorem d14_12 : decode prog_122_method_8_code 12 = .ok (.aload_n 0, 1) := by decide +kernel
theorem d14_13 : decode prog_122_method_8_code 13 = .ok (.getfield 31, 3) := by decide +kernel
theorem d14_16 : decode prog_122_method_8_code 16 = .ok (.if_icmp .le 18, 3) := by decide +kernel
theorem d14_19 : decode prog_122_method_8_code 19 = .ok (.aload_n 0, 1) := by decide +kernel
theorem d14_20 : decode prog_122_method_8_code 20 = .ok (.dup, 1) := by decide +kernel
theorem d14_21 : decode prog_122_method_8_code 21 = .ok (.getfield 63, 3) := by decide +kernel
theorem d14_24 : decode prog_122_method_8_code 24 = .ok (.iconst 1, 1) := by decide +kernel
theorem d14_25 : decode prog_122_method_8_code 25 = .ok (.iadd, 1) := by decide +kernel
theorem d14_26 : decode prog_122_method_8_code 26 = .ok (.putfield 63, 3) := by decide +kernel
theorem d14_29 : decode prog_122_method_8_code 29 = .ok (.aload_n 0, 1) := by decide +kernel
theorem d14_30 : decode prog_122_method_8_code 30 = .ok (.iconst 0, 1) := by decide +kernel
theorem d14_31 : decode prog_122_method_8_code 31 = .ok (.putfield 56, 3) := by decide +kernel
theorem d14_34 : decode prog_122_method_8_code 34 = .ok (.aload_n 0, 1) := by decide +kernel
theorem d14_35 : decode prog_122_method_8_code 35 = .ok (.getfield 44, 3) := by decide +kernel
theorem d14_38 : decode prog_122_method_8_code 38 = .ok (.aload_n 0, 1) := by decide +kernel
theorem d14_39 : decode prog_122_method_8_code 39 = .ok (.getfield 63, 3) := by decide +kernel
theorem d14_42 : decode prog_122_method_8_code 42 = .ok (.aaload, 1) := by decide +kernel
theorem d14_43 : decode prog_122_method_8_code 43 = .ok (.ifnonnull 18, 3) := by decide +kernel
theorem d14_46 : decode prog_122_method_8_code 46 = .ok (.aload_n 0, 1) := by decide +kernel
theorem d14_47 : decode prog_122_method_8_code 47 = .ok (.getfield 44, 3) := by decide +kernel
theorem d14_50 : decode prog_122_method_8_code 50 = .ok (.aload_n 0, 1) := by decide +kernel
theorem d14_51 : decode prog_122_method_8_code 51 = .ok (.getfield 63, 3) := by decide +kernel
theorem d14_54 : decode prog_122_method_8_code 54 = .ok (.aload_n 0, 1) := by decide +kernel
theorem d14_55 : decode prog_122_method_8_code 55 = .ok (.getfield 31, 3) := by decide +kernel
theorem d14_58 : decode prog_122_method_8_code 58 = .ok (.newarray .byte, 2) := by decide +kernel
theorem d14_60 : decode prog_122_method_8_code 60 = .ok (.aastore, 1) := by decide +kernel
theorem d14_61 : decode prog_122_method_8_code 61 = .ok (.aload_n 0, 1) := by decide +kernel
theorem d14_62 : decode prog_122_method_8_code 62 = .ok (.getfield 63, 3) := by decide +kernel
theorem d14_65 : decode prog_122_method_8_code 65 = .ok (.aload_n 0, 1) := by decide +kernel
theorem d14_66 : decode prog_122_method_8_code 66 = .ok (.getfield 27, 3) := by decide +kernel
theorem d14_69 : decode prog_122_method_8_code 69 = .ok (.ishl, 1) := by decide +kernel
theorem d14_70 : decode prog_122_method_8_code 70 = .ok (.aload_n 0, 1) := by decide +kernel
theorem d14_71 : decode prog_122_method_8_code 71 = .ok (.getfield 56, 3) := by decide +kernel
theorem d14_74 : decode prog_122_method_8_code 74 = .ok (.iadd, 1) := by decide +kernel
theorem d14_75 : decode prog_122_method_8_code 75 = .ok (.istore_n 3, 1) := by decide +kernel
theorem d14_76 : decode prog_122_method_8_code 76 = .ok (.aload_n 0, 1) := by decide +kernel
theorem d14_77 : decode prog_122_method_8_code 77 = .ok (.dup, 1) := by decide +kernel
theorem d14_78 : decode prog_122_method_8_code 78 = .ok (.getfield 56, 3) := by decide +kernel
theorem d14_81 : decode prog_122_method_8_code 81 = .ok (.iload_n 2, 1) := by decide +kernel
theorem d14_82 : decode prog_122_method_8_code 82 = .ok (.iadd, 1) := by decide +kernel
theorem d14_83 : decode prog_122_method_8_code 83 = .ok (.putfield 56, 3) := by decide +kernel
theorem d14_86 : decode prog_122_method_8_code 86 = .ok (.aload_n 1, 1) := by decide +kernel
theorem d14_87 : decode prog_122_method_8_code 87 = .ok (.getfield 79, 3) := by decide +kernel
theorem d14_90 : decode prog_122_method_8_code 90 = .ok (.ifCond .ge 11, 3) := by decide +kernel
theorem d14_93 : decode prog_122_method_8_code 93 = .ok (.aload_n 1, 1) := by decide +kernel
theorem d14_94 : decode prog_122_method_8_code 94 = .ok (.iload_n 3, 1) := by decide +kernel
theorem d14_95 : decode prog_122_method_8_code 95 = .ok (.putfield 79, 3) := by decide +kernel
theorem d14_98 : decode prog_122_method_8_code 98 = .ok (.goto 12, 3) := by decide +kernel
theorem d14_101 : decode prog_122_method_8_code 101 = .ok (.aload_n 0, 1) := by decide +kernel
theorem d14_102 : decode prog_122_method_8_code 102 = .ok (.aload_n 1, 1) := by decide +kernel
theorem d14_103 : decode prog_122_method_8_code 103 = .ok (.getfield 48, 3) := by decide +kernel
theorem d14_106 : decode prog_122_method_8_code 106 = .ok (.iload_n 3, 1) := by decide +kernel
theorem d14_107 : decode prog_122_method_8_code 107 = .ok (.invokevirtual 104, 3) := by decide +kernel
theorem d14_110 : decode prog_122_method_8_code 110 = .ok (.aload_n 1, 1) := by decide +kernel
theorem d14_111 : decode prog_122_method_8_code 111 = .ok (.iload_n 3, 1) := by decide +kernel
theorem d14_112 : decode prog_122_method_8_code 112 = .ok (.putfield 53, 3) := by decide +kernel
theorem d14_115 : decode prog_122_method_8_code 115 = .ok (.aload_n 1, 1) := by decide +kernel
theorem d14_116 : decode prog_122_method_8_code 116 = .ok (.iload_n 3, 1) := by decide +kernel
theorem d14_117 : decode prog_122_method_8_code 117 = .ok (.iload_n 2, 1) := by decide +kernel
theorem d14_118 : decode prog_122_method_8_code 118 = .ok (.iadd, 1) := by decide +kernel
theorem d14_119 : decode prog_122_method_8_code 119 = .ok (.iconst 4, 1) := by decide +kernel
theorem d14_120 : decode prog_122_method_8_code 120 = .ok (.isub, 1) := by decide +kernel
theorem d14_121 : decode prog_122_method_8_code 121 = .ok (.putfield 48, 3) := by decide +kernel
theorem d14_124 : decode prog_122_method_8_code 124 = .ok (.aload_n 1, 1) := by decide +kernel
theorem d14_125 : decode prog_122_method_8_code 125 = .ok (.iload_n 2, 1) := by decide +kernel
theorem d14_126 : decode prog_122_method_8_code 126 = .ok (.putfield 101, 3) := by decide +kernel
theorem d14_129 : decode prog_122_method_8_code 129 = .ok (.return_, 1) := by decide +kernel
theorem ef_rm14N (m : MethodId) (ab : Addr) (ac : Addr) : entryFrame m #[(.ref ab), (.ref ac)] 4 = mkF m 0 #[.val (.ref ab), .val (.ref ac), .unset, .unset] [] := by first | (simp [entryFrame, mkF, argsToLocals, Value.category]; done) | rfl
set_option maxRecDepth 65536 in
set_option maxHeartbeats 40000000 in
theorem rm14N (l : Launch) (Z : State) (a0 : Array Value) (hw : ∀ d ∈ tables_1, d.before a0 Z = true) (ws : List Jvm.Cond) (ab : Addr) (ac : Addr) (bP : Addr) (bB : Addr) (nx : Int32) (en : Int32) (sl : Int32) (ln : Int32) (h0 : Heap) (n0 : Nat) (Z0 : n0 ≤ h0.size) (P : own_pb Z h0 ab ac bP bB .null (0 : Int32) (-1 : Int32) nx en sl ln) (hds : own_ds ab ac bP bB) (hgs : own_gs n0 ab ac bP bB) :
    MetFree l (⟨"com/example/pivotwise/pivotwise/index/PostingBuffer", "extend", "(Lcom/example/pivotwise/pivotwise/index/PostingBuffer$Chain;)V"⟩ : MethodName) (head1 (Jvm.Cond.code (⟨"com/example/pivotwise/pivotwise/index/PostingBuffer", "extend", "(Lcom/example/pivotwise/pivotwise/index/PostingBuffer$Chain;)V"⟩ : MethodName) prog_122_method_8_code 4 none :: ws) ({ frames := 2, cells := 1, slots := 32, locals := 27 } : Room)) (fun a U => a = #[(.ref ab), (.ref ac)] ∧ Z.Warmed39 U.vm ∧ U.heap = h0) (fun _ _ _ _ _ => True) (fun _ U o U' => ∃ vr Lr, o = .returned vr ∧ Q14 Z ab ac bP bB 0 16 12 ln h0 n0 vr U'.heap Lr ∧ FrameEnd U o U' Lr 1 32) := by
  refine MetFree.of_bodySF (plainFor_of_name own_pn2) hisR ?_
  intro p e s m args below meth c s₁ Bd hml0 hP hK
  obtain ⟨rfl, hZ, hh⟩ := hP
  have hx := Bd.exec
  have hby := Bd.bytes
  have hml : c.maxLocals = 4 := hml0
  have hown : s.vm.findClass "com/example/pivotwise/pivotwise/index/PostingBuffer" = some m.cls := findClass_of_methodNamed Bd.named
  have hnm := (name_of_methodNamed Bd.named Bd.method).1
  have hlk : meth.locks = false := Bd.notSynchronized
  have hrt := Bd.returns
  have X0 : Stand p l e ({ frames := 2, cells := 1, slots := 32, locals := 27 } : Room) s m #[(.ref ab), (.ref ac)] below meth c s₁ [] 0 0 := Stand.of_body Bd
  have e0 : s₁.heap = h0 := by rw [← hh, Bd.state]; rfl
  have N0 := Fr.nil n0
  show Done p e s below 1 32 (Q14 Z ab ac bP bB 0 16 12 ln h0 n0) s₁ (entryFrame m #[(.ref ab), (.ref ac)] 4)
  rw [ef_rm14N]
  obtain ⟨d1, d2, d3, d4, d5, d6⟩ := hds
  obtain ⟨ga, gc, gP, gB⟩ := hgs
  obtain ⟨Ea0, Ec0, Pposting0, PblockBits0, PblockSize0, PmostSlice0, Pblocks0, Ptaken0, Pblock0, Cfirst0, Cnext0, Cend0, Cslice0, Clength0, ⟨fP0, VP0⟩, BB0⟩ := P
  show Done p e s below _ _ _ s₁ (mkF m 0 #[.val (.ref ab), .val (.ref ac), .unset, .unset] [])
  refine Done.go (fun _ kt_ => XS.aloadN X0.here hx rfl (hb hby d14_0) rfl rfl kt_) ?_
  show Done p e s below _ _ _ s₁ (mkF m 1 #[.val (.ref ab), .val (.ref ac), .unset, .unset] [(.ref ab)])
  refine Done.go (fun _ kt_ => XS.aloadN X0.here hx rfl (hb hby d14_1) rfl rfl kt_) ?_
  show Done p e s below _ _ _ s₁ (mkF m 2 #[.val (.ref ab), .val (.ref ac), .unset, .unset] [(.ref ac), (.ref ab)])
  obtain ⟨cq76, q76, q76'⟩ := Ea0.cell
  obtain ⟨v76, T76, Lc76, X76, hQ76, st76⟩ := own_backV (X0.privateBack hx (y := (⟨"com/example/pivotwise/pivotwise/index/PostingBuffer", "nextSlice", "(Lcom/example/pivotwise/pivotwise/index/PostingBuffer$Chain;)I"⟩ : MethodName)) hown (mvT hZ (hw _ (List.mem_of_getElem? (i := 78) rfl))) (mvT hZ (hw _ (List.mem_of_getElem? (i := 79) rfl))) (mvT hZ (own_selPriv (n := 7) (by decide) (hw _ (List.mem_of_getElem? (i := 2) rfl)) (hw _ (List.mem_of_getElem? (i := 80) rfl)) (hw _ (List.mem_of_getElem? (i := 79) rfl)))) (Cond.privateMethod_at (mvP hZ (hw _ (List.mem_of_getElem? (i := 80) rfl)) (args := #[]))) (mvT hZ (hw _ (List.mem_of_getElem? (i := 81) rfl))) (by decide) (backOf (W := 0) (rm11 l Z a0 hw [] ab ac (-1 : Int32) sl h0 n0 Z0 Cfirst0 Cslice0 PmostSlice0) hZ (hw _ (List.mem_of_getElem? (i := 81) rfl)) (hw _ (List.mem_of_getElem? (i := 3) rfl)) (by decide) (by decide)) (g := (mkF m 2 #[.val (.ref ab), .val (.ref ac), .unset, .unset] [(.ref ac), (.ref ab)])) rfl (by rw [hml]; rfl) (Steps.refl _) (a := ab) (by rw [e0]; exact q76) q76' (argsL := [(.ref ac)]) (rest := []) (lenOf own_pd4 rfl) rfl (by show 2 * 0 + _ ≤ _; exact Nat.le_of_eq rfl) (hb hby d14_2) (fun _ _ => ⟨rfl, e0, (by first | decide | omega : 0 + 0 ≤ _), (by first | decide | omega : 0 + 0 ≤ _)⟩))
  obtain ⟨rfl, N76q, e76⟩ := hQ76
  refine Done.go st76 ?_
  clear st76
  have N76 := Fr.app N0 N76q
  clear N76q
  obtain ⟨Lh76, X76h, N76h⟩ : ∃ L, Stand p l e ({ frames := 2, cells := 1, slots := 32, locals := 27 } : Room) s m #[(.ref ab), (.ref ac)] below meth c T76 L 0 0 ∧ Fr n0 L := ⟨_, X76, N76⟩
  clear X76 N76
  show Done p e s below _ _ _ T76 (mkF m 5 #[.val (.ref ab), .val (.ref ac), .unset, .unset] [(.int (own_ns (-1 : Int32) sl))])
  rw [show own_ns (-1 : Int32) sl = (16 : Int32) from rfl]
  show Done p e s below _ _ _ T76 (mkF m 5 #[.val (.ref ab), .val (.ref ac), .unset, .unset] [(.int (16 : Int32))])
  refine Done.go (fun _ kt_ => XS.istoreN X76h.here hx rfl (hb hby d14_5) rfl (l' := #[.val (.ref ab), .val (.ref ac), .val (.int (16 : Int32)), .unset]) rfl kt_) ?_
  show Done p e s below _ _ _ T76 (mkF m 6 #[.val (.ref ab), .val (.ref ac), .val (.int (16 : Int32)), .unset] [])
  refine Done.go (fun _ kt_ => XS.aloadN X76h.here hx rfl (hb hby d14_6) rfl rfl kt_) ?_
  show Done p e s below _ _ _ T76 (mkF m 7 #[.val (.ref ab), .val (.ref ac), .val (.int (16 : Int32)), .unset] [(.ref ab)])
  obtain ⟨T77, X77, e77, st77⟩ := getF X76h hx hZ hown (host := "") (Or.inl (hw _ (List.mem_of_getElem? (i := 76) rfl))) Via.refl e76 Ptaken0 (g := (mkF m 7 #[.val (.ref ab), .val (.ref ac), .val (.int (16 : Int32)), .unset] [(.ref ab)])) rfl rfl (hb hby d14_7)
  refine Done.go st77 ?_
  clear st77 X76h e76
  show Done p e s below _ _ _ T77 (mkF m 10 #[.val (.ref ab), .val (.ref ac), .val (.int (16 : Int32)), .unset] [(.int (0 : Int32))])
  refine Done.go (fun _ kt_ => XS.iloadN X77.here hx rfl (hb hby d14_10) rfl kt_) ?_
  show Done p e s below _ _ _ T77 (mkF m 11 #[.val (.ref ab), .val (.ref ac), .val (.int (16 : Int32)), .unset] [(.int (16 : Int32)), (.int (0 : Int32))])
  refine Done.go (fun _ kt_ => XS.iadd X77.here hx rfl (hb hby d14_11) rfl kt_) ?_
  show Done p e s below _ _ _ T77 (mkF m 12 #[.val (.ref ab), .val (.ref ac), .val (.int (16 : Int32)), .unset] [(.int ((0 : Int32) + (16 : Int32)))])
  rw [show ((0 : Int32) + (16 : Int32)) = (16 : Int32) from by decide]
  show Done p e s below _ _ _ T77 (mkF m 12 #[.val (.ref ab), .val (.ref ac), .val (.int (16 : Int32)), .unset] [(.int (16 : Int32))])
  refine Done.go (fun _ kt_ => XS.aloadN X77.here hx rfl (hb hby d14_12) rfl rfl kt_) ?_
  show Done p e s below _ _ _ T77 (mkF m 13 #[.val (.ref ab), .val (.ref ac), .val (.int (16 : Int32)), .unset] [(.ref ab), (.int (16 : Int32))])
  obtain ⟨T78, X78, e78, st78⟩ := getF X77 hx hZ hown (host := "") (Or.inl (hw _ (List.mem_of_getElem? (i := 30) rfl))) Via.refl e77 PblockSize0 (g := (mkF m 13 #[.val (.ref ab), .val (.ref ac), .val (.int (16 : Int32)), .unset] [(.ref ab), (.int (16 : Int32))])) rfl rfl (hb hby d14_13)
  refine Done.go st78 ?_
  clear st78 X77 e77
  show Done p e s below _ _ _ T78 (mkF m 16 #[.val (.ref ab), .val (.ref ac), .val (.int (16 : Int32)), .unset] [(.int (32 : Int32)), (.int (16 : Int32))])
  refine Done.go (fun _ kt_ => XS.icmpYes X78.here hx rfl (pc0 := 16) (pc' := 34) rfl (hb hby d14_16) rfl (flt (by decide)).2.2.2 (by decide) (by decide) kt_) ?_
  show Done p e s below _ _ _ T78 (mkF m 34 #[.val (.ref ab), .val (.ref ac), .val (.int (16 : Int32)), .unset] [])
  refine Done.go (fun _ kt_ => XS.aloadN X78.here hx rfl (hb hby d14_34) rfl rfl kt_) ?_
  show Done p e s below _ _ _ T78 (mkF m 35 #[.val (.ref ab), .val (.ref ac), .val (.int (16 : Int32)), .unset] [(.ref ab)])
  obtain ⟨T79, X79, e79, st79⟩ := getF X78 hx hZ hown (host := "") (Or.inl (hw _ (List.mem_of_getElem? (i := 40) rfl))) Via.refl e78 Pblocks0 (g := (mkF m 35 #[.val (.ref ab), .val (.ref ac), .val (.int (16 : Int32)), .unset] [(.ref ab)])) rfl rfl (hb hby d14_35)
  refine Done.go st79 ?_
  clear st79 X78 e78
  show Done p e s below _ _ _ T79 (mkF m 38 #[.val (.ref ab), .val (.ref ac), .val (.int (16 : Int32)), .unset] [(.ref bB)])
  refine Done.go (fun _ kt_ => XS.aloadN X79.here hx rfl (hb hby d14_38) rfl rfl kt_) ?_
  show Done p e s below _ _ _ T79 (mkF m 39 #[.val (.ref ab), .val (.ref ac), .val (.int (16 : Int32)), .unset] [(.ref ab), (.ref bB)])
  obtain ⟨T80, X80, e80, st80⟩ := getF X79 hx hZ hown (host := "") (Or.inl (hw _ (List.mem_of_getElem? (i := 97) rfl))) Via.refl e79 Pblock0 (g := (mkF m 39 #[.val (.ref ab), .val (.ref ac), .val (.int (16 : Int32)), .unset] [(.ref ab), (.ref bB)])) rfl rfl (hb hby d14_39)
  refine Done.go st80 ?_
  clear st80 X79 e79
  show Done p e s below _ _ _ T80 (mkF m 42 #[.val (.ref ab), .val (.ref ac), .val (.int (16 : Int32)), .unset] [(.int (0 : Int32)), (.ref bB)])
  refine Done.ldBlk X80 hx hZ e80 BB0 (j := (0 : Int32)) rfl (hb hby d14_42) ?_
  show Done p e s below _ _ _ T80 (mkF m 43 #[.val (.ref ab), .val (.ref ac), .val (.int (16 : Int32)), .unset] [.null])
  refine Done.go (fun _ kt_ => XS.ifnonnullNo X80.here hx rfl (hb hby d14_43) rfl kt_) ?_
  show Done p e s below _ _ _ T80 (mkF m 46 #[.val (.ref ab), .val (.ref ac), .val (.int (16 : Int32)), .unset] [])
  refine Done.go (fun _ kt_ => XS.aloadN X80.here hx rfl (hb hby d14_46) rfl rfl kt_) ?_
  show Done p e s below _ _ _ T80 (mkF m 47 #[.val (.ref ab), .val (.ref ac), .val (.int (16 : Int32)), .unset] [(.ref ab)])
  obtain ⟨T81, X81, e81, st81⟩ := getF X80 hx hZ hown (host := "") (Or.inl (hw _ (List.mem_of_getElem? (i := 40) rfl))) Via.refl e80 Pblocks0 (g := (mkF m 47 #[.val (.ref ab), .val (.ref ac), .val (.int (16 : Int32)), .unset] [(.ref ab)])) rfl rfl (hb hby d14_47)
  refine Done.go st81 ?_
  clear st81 X80 e80
  show Done p e s below _ _ _ T81 (mkF m 50 #[.val (.ref ab), .val (.ref ac), .val (.int (16 : Int32)), .unset] [(.ref bB)])
  refine Done.go (fun _ kt_ => XS.aloadN X81.here hx rfl (hb hby d14_50) rfl rfl kt_) ?_
  show Done p e s below _ _ _ T81 (mkF m 51 #[.val (.ref ab), .val (.ref ac), .val (.int (16 : Int32)), .unset] [(.ref ab), (.ref bB)])
  obtain ⟨T82, X82, e82, st82⟩ := getF X81 hx hZ hown (host := "") (Or.inl (hw _ (List.mem_of_getElem? (i := 97) rfl))) Via.refl e81 Pblock0 (g := (mkF m 51 #[.val (.ref ab), .val (.ref ac), .val (.int (16 : Int32)), .unset] [(.ref ab), (.ref bB)])) rfl rfl (hb hby d14_51)
  refine Done.go st82 ?_
  clear st82 X81 e81
  show Done p e s below _ _ _ T82 (mkF m 54 #[.val (.ref ab), .val (.ref ac), .val (.int (16 : Int32)), .unset] [(.int (0 : Int32)), (.ref bB)])
  refine Done.go (fun _ kt_ => XS.aloadN X82.here hx rfl (hb hby d14_54) rfl rfl kt_) ?_
  show Done p e s below _ _ _ T82 (mkF m 55 #[.val (.ref ab), .val (.ref ac), .val (.int (16 : Int32)), .unset] [(.ref ab), (.int (0 : Int32)), (.ref bB)])
  obtain ⟨T83, X83, e83, st83⟩ := getF X82 hx hZ hown (host := "") (Or.inl (hw _ (List.mem_of_getElem? (i := 30) rfl))) Via.refl e82 PblockSize0 (g := (mkF m 55 #[.val (.ref ab), .val (.ref ac), .val (.int (16 : Int32)), .unset] [(.ref ab), (.int (0 : Int32)), (.ref bB)])) rfl rfl (hb hby d14_55)
  refine Done.go st83 ?_
  clear st83 X82 e82
  show Done p e s below _ _ _ T83 (mkF m 58 #[.val (.ref ab), .val (.ref ac), .val (.int (16 : Int32)), .unset] [(.int (32 : Int32)), (.int (0 : Int32)), (.ref bB)])
  obtain ⟨T84, h84, k84, X84, e84, E84, A84, J84, st84⟩ := newPE X83 hx hZ (hw _ (List.mem_of_getElem? (i := 11) rfl)) e83 (g := (mkF m 58 #[.val (.ref ab), .val (.ref ac), .val (.int (16 : Int32)), .unset] [(.int (32 : Int32)), (.int (0 : Int32)), (.ref bB)])) rfl (hb hby d14_58) rfl (by decide) (cap := 32) (by decide) (by decide) (by decide) (by decide) (ad := "[B") (by decide)
  obtain ⟨b84, g84⟩ : ∃ z, z = h0.size := ⟨_, rfl⟩
  rw [← g84] at A84 J84 st84
  have ne_ab_b84 : ab ≠ b84 := Nat.ne_of_lt (Nat.lt_of_lt_of_le Ea0.lt (Nat.le_of_eq g84.symm))
  have ne_ac_b84 : ac ≠ b84 := Nat.ne_of_lt (Nat.lt_of_lt_of_le Ec0.lt (Nat.le_of_eq g84.symm))
  have ne_bP_b84 : bP ≠ b84 := Nat.ne_of_lt (Nat.lt_of_lt_of_le VP0.lt (Nat.le_of_eq g84.symm))
  have ne_bB_b84 : bB ≠ b84 := Nat.ne_of_lt (Nat.lt_of_lt_of_le BB0.lt (Nat.le_of_eq g84.symm))
  have gz_b84 : n0 ≤ b84 := Nat.le_trans Z0 (Nat.le_of_eq g84.symm)
  have Z84 : n0 ≤ h84.size := Nat.le_trans Z0 E84.1
  have hs_b84 : h0.size ≤ b84 := Nat.le_trans (Keep.refl h0 [ab, ac, bP, bB]).1 (Nat.le_of_eq g84.symm)
  have K84 : Keep h0 h84 [ab, ac, bP, bB] := (Keep.refl h0 [ab, ac, bP, bB]).ext E84
  obtain ⟨Lh84, X84h, N84h⟩ : ∃ L, Stand p l e ({ frames := 2, cells := 1, slots := 32, locals := 27 } : Room) s m #[(.ref ab), (.ref ac)] below meth c T84 L 1 32 ∧ Fr n0 L := ⟨_, X84, N76h⟩
  clear X84 N76h X83 e83
  have V84 := Ari.new A84 (by decide) (n := 32) rfl rfl
  refine Done.go st84 ?_
  clear st84
  show Done p e s below _ _ _ T84 (mkF m 60 #[.val (.ref ab), .val (.ref ac), .val (.int (16 : Int32)), .unset] [(.ref b84), (.int (0 : Int32)), (.ref bB)])
  have f85 := (BB0.ext E84)
  obtain ⟨T86, h86, X86, e86, W86, V86, st86⟩ := own_stBlk X84h hx hZ e84 f85 J84 (hw _ (List.mem_of_getElem? (i := 99) rfl)) (g := (mkF m 60 #[.val (.ref ab), .val (.ref ac), .val (.int (16 : Int32)), .unset] [(.ref b84), (.int (0 : Int32)), (.ref bB)])) rfl rfl (hb hby d14_60)
  have N86 := Fr.snoc X86 N84h gB
  have Z86 : n0 ≤ h86.size := by rw [W86.size]; exact Z84
  have K86 : Keep h0 h86 [ab, ac, bP, bB] := K84.wr W86 (Or.inl (List.mem_of_getElem? (i := 3) rfl))
  obtain ⟨Lh86, X86h, N86h⟩ : ∃ L, Stand p l e ({ frames := 2, cells := 1, slots := 32, locals := 27 } : Room) s m #[(.ref ab), (.ref ac)] below meth c T86 L 1 32 ∧ Fr n0 L := ⟨_, X86, N86⟩
  clear X86 N86 X84h e84 N84h Z84 K84
  refine Done.go st86 ?_
  clear st86
  show Done p e s below _ _ _ T86 (mkF m 61 #[.val (.ref ab), .val (.ref ac), .val (.int (16 : Int32)), .unset] [])
  refine Done.go (fun _ kt_ => XS.aloadN X86h.here hx rfl (hb hby d14_61) rfl rfl kt_) ?_
  show Done p e s below _ _ _ T86 (mkF m 62 #[.val (.ref ab), .val (.ref ac), .val (.int (16 : Int32)), .unset] [(.ref ab)])
  have f87 := ((Pblock0.ext E84).other W86 (Or.inl d3))
  obtain ⟨T88, X88, e88, st88⟩ := getF X86h hx hZ hown (host := "") (Or.inl (hw _ (List.mem_of_getElem? (i := 97) rfl))) Via.refl e86 f87 (g := (mkF m 62 #[.val (.ref ab), .val (.ref ac), .val (.int (16 : Int32)), .unset] [(.ref ab)])) rfl rfl (hb hby d14_62)
  refine Done.go st88 ?_
  clear st88 X86h e86
  show Done p e s below _ _ _ T88 (mkF m 65 #[.val (.ref ab), .val (.ref ac), .val (.int (16 : Int32)), .unset] [(.int (0 : Int32))])
  refine Done.go (fun _ kt_ => XS.aloadN X88.here hx rfl (hb hby d14_65) rfl rfl kt_) ?_
  show Done p e s below _ _ _ T88 (mkF m 66 #[.val (.ref ab), .val (.ref ac), .val (.int (16 : Int32)), .unset] [(.ref ab), (.int (0 : Int32))])
  have f89 := ((PblockBits0.ext E84).other W86 (Or.inl d3))
  obtain ⟨T90, X90, e90, st90⟩ := getF X88 hx hZ hown (host := "") (Or.inl (hw _ (List.mem_of_getElem? (i := 28) rfl))) Via.refl e88 f89 (g := (mkF m 66 #[.val (.ref ab), .val (.ref ac), .val (.int (16 : Int32)), .unset] [(.ref ab), (.int (0 : Int32))])) rfl rfl (hb hby d14_66)
  refine Done.go st90 ?_
  clear st90 X88 e88
  show Done p e s below _ _ _ T90 (mkF m 69 #[.val (.ref ab), .val (.ref ac), .val (.int (16 : Int32)), .unset] [(.int (5 : Int32)), (.int (0 : Int32))])
  refine Done.go (fun _ kt_ => XS.ishl X90.here hx rfl (hb hby d14_69) rfl kt_) ?_
  show Done p e s below _ _ _ T90 (mkF m 70 #[.val (.ref ab), .val (.ref ac), .val (.int (16 : Int32)), .unset] [(.int ((0 : Int32) <<< ((5 : Int32) &&& 31)))])
  rw [show ((0 : Int32) <<< ((5 : Int32) &&& 31)) = (0 : Int32) from by decide]
  show Done p e s below _ _ _ T90 (mkF m 70 #[.val (.ref ab), .val (.ref ac), .val (.int (16 : Int32)), .unset] [(.int (0 : Int32))])
  refine Done.go (fun _ kt_ => XS.aloadN X90.here hx rfl (hb hby d14_70) rfl rfl kt_) ?_
  show Done p e s below _ _ _ T90 (mkF m 71 #[.val (.ref ab), .val (.ref ac), .val (.int (16 : Int32)), .unset] [(.ref ab), (.int (0 : Int32))])
  have f91 := ((Ptaken0.ext E84).other W86 (Or.inl d3))
  obtain ⟨T92, X92, e92, st92⟩ := getF X90 hx hZ hown (host := "") (Or.inl (hw _ (List.mem_of_getElem? (i := 76) rfl))) Via.refl e90 f91 (g := (mkF m 71 #[.val (.ref ab), .val (.ref ac), .val (.int (16 : Int32)), .unset] [(.ref ab), (.int (0 : Int32))])) rfl rfl (hb hby d14_71)
  refine Done.go st92 ?_
  clear st92 X90 e90
  show Done p e s below _ _ _ T92 (mkF m 74 #[.val (.ref ab), .val (.ref ac), .val (.int (16 : Int32)), .unset] [(.int (0 : Int32)), (.int (0 : Int32))])
  refine Done.go (fun _ kt_ => XS.iadd X92.here hx rfl (hb hby d14_74) rfl kt_) ?_
  show Done p e s below _ _ _ T92 (mkF m 75 #[.val (.ref ab), .val (.ref ac), .val (.int (16 : Int32)), .unset] [(.int ((0 : Int32) + (0 : Int32)))])
  rw [show ((0 : Int32) + (0 : Int32)) = (0 : Int32) from by decide]
  show Done p e s below _ _ _ T92 (mkF m 75 #[.val (.ref ab), .val (.ref ac), .val (.int (16 : Int32)), .unset] [(.int (0 : Int32))])
  refine Done.go (fun _ kt_ => XS.istoreN X92.here hx rfl (hb hby d14_75) rfl (l' := #[.val (.ref ab), .val (.ref ac), .val (.int (16 : Int32)), .val (.int (0 : Int32))]) rfl kt_) ?_
  show Done p e s below _ _ _ T92 (mkF m 76 #[.val (.ref ab), .val (.ref ac), .val (.int (16 : Int32)), .val (.int (0 : Int32))] [])
  refine Done.go (fun _ kt_ => XS.aloadN X92.here hx rfl (hb hby d14_76) rfl rfl kt_) ?_
  show Done p e s below _ _ _ T92 (mkF m 77 #[.val (.ref ab), .val (.ref ac), .val (.int (16 : Int32)), .val (.int (0 : Int32))] [(.ref ab)])
  refine Done.go (fun _ kt_ => XS.dup X92.here hx rfl (hb hby d14_77) rfl rfl kt_) ?_
  show Done p e s below _ _ _ T92 (mkF m 78 #[.val (.ref ab), .val (.ref ac), .val (.int (16 : Int32)), .val (.int (0 : Int32))] [(.ref ab), (.ref ab)])
  obtain ⟨T93, X93, e93, st93⟩ := getF X92 hx hZ hown (host := "") (Or.inl (hw _ (List.mem_of_getElem? (i := 76) rfl))) Via.refl e92 f91 (g := (mkF m 78 #[.val (.ref ab), .val (.ref ac), .val (.int (16 : Int32)), .val (.int (0 : Int32))] [(.ref ab), (.ref ab)])) rfl rfl (hb hby d14_78)
  refine Done.go st93 ?_
  clear st93 X92 e92
  show Done p e s below _ _ _ T93 (mkF m 81 #[.val (.ref ab), .val (.ref ac), .val (.int (16 : Int32)), .val (.int (0 : Int32))] [(.int (0 : Int32)), (.ref ab)])
  refine Done.go (fun _ kt_ => XS.iloadN X93.here hx rfl (hb hby d14_81) rfl kt_) ?_
  show Done p e s below _ _ _ T93 (mkF m 82 #[.val (.ref ab), .val (.ref ac), .val (.int (16 : Int32)), .val (.int (0 : Int32))] [(.int (16 : Int32)), (.int (0 : Int32)), (.ref ab)])
  refine Done.go (fun _ kt_ => XS.iadd X93.here hx rfl (hb hby d14_82) rfl kt_) ?_
  show Done p e s below _ _ _ T93 (mkF m 83 #[.val (.ref ab), .val (.ref ac), .val (.int (16 : Int32)), .val (.int (0 : Int32))] [(.int ((0 : Int32) + (16 : Int32))), (.ref ab)])
  rw [show ((0 : Int32) + (16 : Int32)) = (16 : Int32) from by decide]
  show Done p e s below _ _ _ T93 (mkF m 83 #[.val (.ref ab), .val (.ref ac), .val (.int (16 : Int32)), .val (.int (0 : Int32))] [(.int (16 : Int32)), (.ref ab)])
  have f94 := ((Ea0.ext E84).wr W86)
  obtain ⟨T95, h95, X95, e95, W95, st95⟩ := putF X93 hx hZ hown (host := "") (Or.inl (hw _ (List.mem_of_getElem? (i := 76) rfl))) Via.refl e93 f91 f94 (Or.inl (hw _ (List.mem_of_getElem? (i := 77) rfl))) (hw _ (List.mem_of_getElem? (i := 2) rfl)) (ty := .int) (by decide) rfl rfl (g := (mkF m 83 #[.val (.ref ab), .val (.ref ac), .val (.int (16 : Int32)), .val (.int (0 : Int32))] [(.int (16 : Int32)), (.ref ab)])) rfl rfl (hb hby d14_83)
  have Fw95 : Fld Z h95 ab "com/example/pivotwise/pivotwise/index/PostingBuffer" "taken" "I" (.int (16 : Int32)) := f91.same W95
  have N95 := Fr.snoc X95 N86h ga
  have Z95 : n0 ≤ h95.size := by rw [W95.size]; exact Z86
  have K95 : Keep h0 h95 [ab, ac, bP, bB] := K86.wr W95 (Or.inl (List.mem_of_getElem? (i := 0) rfl))
  obtain ⟨Lh95, X95h, N95h⟩ : ∃ L, Stand p l e ({ frames := 2, cells := 1, slots := 32, locals := 27 } : Room) s m #[(.ref ab), (.ref ac)] below meth c T95 L 1 32 ∧ Fr n0 L := ⟨_, X95, N95⟩
  clear X95 N95 X93 e93 N86h Z86 K86
  refine Done.go st95 ?_
  clear st95
  show Done p e s below _ _ _ T95 (mkF m 86 #[.val (.ref ab), .val (.ref ac), .val (.int (16 : Int32)), .val (.int (0 : Int32))] [])
  refine Done.go (fun _ kt_ => XS.aloadN X95h.here hx rfl (hb hby d14_86) rfl rfl kt_) ?_
  show Done p e s below _ _ _ T95 (mkF m 87 #[.val (.ref ab), .val (.ref ac), .val (.int (16 : Int32)), .val (.int (0 : Int32))] [(.ref ac)])
  have f96 := (((Cfirst0.ext E84).other W86 (Or.inl d5)).other W95 (Or.inl (Ne.symm d1)))
  refine Done.go (own_getFR X95h hx hZ hown (hw _ (List.mem_of_getElem? (i := 82) rfl)) e95 f96 (g := (mkF m 87 #[.val (.ref ab), .val (.ref ac), .val (.int (16 : Int32)), .val (.int (0 : Int32))] [(.ref ac)])) rfl rfl (hb hby d14_87)) ?_
  show Done p e s below _ _ _ T95 (mkF m 90 #[.val (.ref ab), .val (.ref ac), .val (.int (16 : Int32)), .val (.int (0 : Int32))] [(.int (-1 : Int32))])
  refine Done.go (fun _ kt_ => XS.ifNo X95h.here hx rfl (hb hby d14_90) rfl ((if0 _ _).trans (tlt (by decide)).2.1) kt_) ?_
  show Done p e s below _ _ _ T95 (mkF m 93 #[.val (.ref ab), .val (.ref ac), .val (.int (16 : Int32)), .val (.int (0 : Int32))] [])
  refine Done.go (fun _ kt_ => XS.aloadN X95h.here hx rfl (hb hby d14_93) rfl rfl kt_) ?_
  show Done p e s below _ _ _ T95 (mkF m 94 #[.val (.ref ab), .val (.ref ac), .val (.int (16 : Int32)), .val (.int (0 : Int32))] [(.ref ac)])
  refine Done.go (fun _ kt_ => XS.iloadN X95h.here hx rfl (hb hby d14_94) rfl kt_) ?_
  show Done p e s below _ _ _ T95 (mkF m 95 #[.val (.ref ab), .val (.ref ac), .val (.int (16 : Int32)), .val (.int (0 : Int32))] [(.int (0 : Int32)), (.ref ac)])
  have f97 := (((Ec0.ext E84).wr W86).wr W95)
  obtain ⟨T98, h98, X98, e98, W98, st98⟩ := own_putFR X95h hx hZ hown (hw _ (List.mem_of_getElem? (i := 82) rfl)) e95 f96 f97 (hw _ (List.mem_of_getElem? (i := 50) rfl)) (hw _ (List.mem_of_getElem? (i := 43) rfl)) (ty := .int) (by decide) rfl rfl (g := (mkF m 95 #[.val (.ref ab), .val (.ref ac), .val (.int (16 : Int32)), .val (.int (0 : Int32))] [(.int (0 : Int32)), (.ref ac)])) rfl rfl (hb hby d14_95)
  have Fw98 : Fld Z h98 ac "com/example/pivotwise/pivotwise/index/PostingBuffer$Chain" "first" "I" (.int (0 : Int32)) := f96.same W98
  have N98 := Fr.snoc X98 N95h gc
  have Z98 : n0 ≤ h98.size := by rw [W98.size]; exact Z95
  have K98 : Keep h0 h98 [ab, ac, bP, bB] := K95.wr W98 (Or.inl (List.mem_of_getElem? (i := 1) rfl))
  obtain ⟨Lh98, X98h, N98h⟩ : ∃ L, Stand p l e ({ frames := 2, cells := 1, slots := 32, locals := 27 } : Room) s m #[(.ref ab), (.ref ac)] below meth c T98 L 1 32 ∧ Fr n0 L := ⟨_, X98, N98⟩
  clear X98 N98 X95h e95 N95h Z95 K95
  refine Done.go st98 ?_
  clear st98
  show Done p e s below _ _ _ T98 (mkF m 98 #[.val (.ref ab), .val (.ref ac), .val (.int (16 : Int32)), .val (.int (0 : Int32))] [])
  refine Done.go (fun _ kt_ => XS.goto X98h.here hx rfl (pc0 := 98) (pc' := 110) rfl (hb hby d14_98) (by decide) (by decide) kt_) ?_
  show Done p e s below _ _ _ T98 (mkF m 110 #[.val (.ref ab), .val (.ref ac), .val (.int (16 : Int32)), .val (.int (0 : Int32))] [])
  refine Done.go (fun _ kt_ => XS.aloadN X98h.here hx rfl (hb hby d14_110) rfl rfl kt_) ?_
  show Done p e s below _ _ _ T98 (mkF m 111 #[.val (.ref ab), .val (.ref ac), .val (.int (16 : Int32)), .val (.int (0 : Int32))] [(.ref ac)])
  refine Done.go (fun _ kt_ => XS.iloadN X98h.here hx rfl (hb hby d14_111) rfl kt_) ?_
  show Done p e s below _ _ _ T98 (mkF m 112 #[.val (.ref ab), .val (.ref ac), .val (.int (16 : Int32)), .val (.int (0 : Int32))] [(.int (0 : Int32)), (.ref ac)])
  have f99 := (f97.wr W98)
  have f100 := ((((Cnext0.ext E84).other W86 (Or.inl d5)).other W95 (Or.inl (Ne.symm d1))).other W98 (Or.inr (slot_ne (Or.inl (hw _ (List.mem_of_getElem? (i := 57) rfl))) (Or.inl (hw _ (List.mem_of_getElem? (i := 50) rfl))) (by decide) (t := .int) (t' := .int) (by decide) (by decide))))
  obtain ⟨T101, h101, X101, e101, W101, st101⟩ := own_putFR X98h hx hZ hown (hw _ (List.mem_of_getElem? (i := 75) rfl)) e98 f100 f99 (hw _ (List.mem_of_getElem? (i := 57) rfl)) (hw _ (List.mem_of_getElem? (i := 43) rfl)) (ty := .int) (by decide) rfl rfl (g := (mkF m 112 #[.val (.ref ab), .val (.ref ac), .val (.int (16 : Int32)), .val (.int (0 : Int32))] [(.int (0 : Int32)), (.ref ac)])) rfl rfl (hb hby d14_112)
  have Fw101 : Fld Z h101 ac "com/example/pivotwise/pivotwise/index/PostingBuffer$Chain" "next" "I" (.int (0 : Int32)) := f100.same W101
  have N101 := Fr.snoc X101 N98h gc
  have Z101 : n0 ≤ h101.size := by rw [W101.size]; exact Z98
  have K101 : Keep h0 h101 [ab, ac, bP, bB] := K98.wr W101 (Or.inl (List.mem_of_getElem? (i := 1) rfl))
  obtain ⟨Lh101, X101h, N101h⟩ : ∃ L, Stand p l e ({ frames := 2, cells := 1, slots := 32, locals := 27 } : Room) s m #[(.ref ab), (.ref ac)] below meth c T101 L 1 32 ∧ Fr n0 L := ⟨_, X101, N101⟩
  clear X101 N101 X98h e98 N98h Z98 K98
  refine Done.go st101 ?_
  clear st101
  show Done p e s below _ _ _ T101 (mkF m 115 #[.val (.ref ab), .val (.ref ac), .val (.int (16 : Int32)), .val (.int (0 : Int32))] [])
  refine Done.go (fun _ kt_ => XS.aloadN X101h.here hx rfl (hb hby d14_115) rfl rfl kt_) ?_
  show Done p e s below _ _ _ T101 (mkF m 116 #[.val (.ref ab), .val (.ref ac), .val (.int (16 : Int32)), .val (.int (0 : Int32))] [(.ref ac)])
  refine Done.go (fun _ kt_ => XS.iloadN X101h.here hx rfl (hb hby d14_116) rfl kt_) ?_
  show Done p e s below _ _ _ T101 (mkF m 117 #[.val (.ref ab), .val (.ref ac), .val (.int (16 : Int32)), .val (.int (0 : Int32))] [(.int (0 : Int32)), (.ref ac)])
  refine Done.go (fun _ kt_ => XS.iloadN X101h.here hx rfl (hb hby d14_117) rfl kt_) ?_
  show Done p e s below _ _ _ T101 (mkF m 118 #[.val (.ref ab), .val (.ref ac), .val (.int (16 : Int32)), .val (.int (0 : Int32))] [(.int (16 : Int32)), (.int (0 : Int32)), (.ref ac)])
  refine Done.go (fun _ kt_ => XS.iadd X101h.here hx rfl (hb hby d14_118) rfl kt_) ?_
  show Done p e s below _ _ _ T101 (mkF m 119 #[.val (.ref ab), .val (.ref ac), .val (.int (16 : Int32)), .val (.int (0 : Int32))] [(.int ((0 : Int32) + (16 : Int32))), (.ref ac)])
  rw [show ((0 : Int32) + (16 : Int32)) = (16 : Int32) from by decide]
  show Done p e s below _ _ _ T101 (mkF m 119 #[.val (.ref ab), .val (.ref ac), .val (.int (16 : Int32)), .val (.int (0 : Int32))] [(.int (16 : Int32)), (.ref ac)])
  refine Done.go (fun _ kt_ => XS.iconst X101h.here hx rfl (hb hby d14_119) kt_) ?_
  show Done p e s below _ _ _ T101 (mkF m 120 #[.val (.ref ab), .val (.ref ac), .val (.int (16 : Int32)), .val (.int (0 : Int32))] [(.int (4 : Int32)), (.int (16 : Int32)), (.ref ac)])
  refine Done.go (fun _ kt_ => XS.isub X101h.here hx rfl (hb hby d14_120) rfl kt_) ?_
  show Done p e s below _ _ _ T101 (mkF m 121 #[.val (.ref ab), .val (.ref ac), .val (.int (16 : Int32)), .val (.int (0 : Int32))] [(.int ((16 : Int32) - (4 : Int32))), (.ref ac)])
  rw [show ((16 : Int32) - (4 : Int32)) = (12 : Int32) from by decide]
  show Done p e s below _ _ _ T101 (mkF m 121 #[.val (.ref ab), .val (.ref ac), .val (.int (16 : Int32)), .val (.int (0 : Int32))] [(.int (12 : Int32)), (.ref ac)])
  have f102 := (f99.wr W101)
  have f103 := (((((Cend0.ext E84).other W86 (Or.inl d5)).other W95 (Or.inl (Ne.symm d1))).other W98 (Or.inr (slot_ne (Or.inl (hw _ (List.mem_of_getElem? (i := 59) rfl))) (Or.inl (hw _ (List.mem_of_getElem? (i := 50) rfl))) (by decide) (t := .int) (t' := .int) (by decide) (by decide)))).other W101 (Or.inr (slot_ne (Or.inl (hw _ (List.mem_of_getElem? (i := 59) rfl))) (Or.inl (hw _ (List.mem_of_getElem? (i := 57) rfl))) (by decide) (t := .int) (t' := .int) (by decide) (by decide))))
  obtain ⟨T104, h104, X104, e104, W104, st104⟩ := own_putFR X101h hx hZ hown (hw _ (List.mem_of_getElem? (i := 74) rfl)) e101 f103 f102 (hw _ (List.mem_of_getElem? (i := 59) rfl)) (hw _ (List.mem_of_getElem? (i := 43) rfl)) (ty := .int) (by decide) rfl rfl (g := (mkF m 121 #[.val (.ref ab), .val (.ref ac), .val (.int (16 : Int32)), .val (.int (0 : Int32))] [(.int (12 : Int32)), (.ref ac)])) rfl rfl (hb hby d14_121)
  have Fw104 : Fld Z h104 ac "com/example/pivotwise/pivotwise/index/PostingBuffer$Chain" "end" "I" (.int (12 : Int32)) := f103.same W104
  have N104 := Fr.snoc X104 N101h gc
  have Z104 : n0 ≤ h104.size := by rw [W104.size]; exact Z101
  have K104 : Keep h0 h104 [ab, ac, bP, bB] := K101.wr W104 (Or.inl (List.mem_of_getElem? (i := 1) rfl))
  obtain ⟨Lh104, X104h, N104h⟩ : ∃ L, Stand p l e ({ frames := 2, cells := 1, slots := 32, locals := 27 } : Room) s m #[(.ref ab), (.ref ac)] below meth c T104 L 1 32 ∧ Fr n0 L := ⟨_, X104, N104⟩
  clear X104 N104 X101h e101 N101h Z101 K101
  refine Done.go st104 ?_
  clear st104
  show Done p e s below _ _ _ T104 (mkF m 124 #[.val (.ref ab), .val (.ref ac), .val (.int (16 : Int32)), .val (.int (0 : Int32))] [])
  refine Done.go (fun _ kt_ => XS.aloadN X104h.here hx rfl (hb hby d14_124) rfl rfl kt_) ?_
  show Done p e s below _ _ _ T104 (mkF m 125 #[.val (.ref ab), .val (.ref ac), .val (.int (16 : Int32)), .val (.int (0 : Int32))] [(.ref ac)])
  refine Done.go (fun _ kt_ => XS.iloadN X104h.here hx rfl (hb hby d14_125) rfl kt_) ?_
  show Done p e s below _ _ _ T104 (mkF m 126 #[.val (.ref ab), .val (.ref ac), .val (.int (16 : Int32)), .val (.int (0 : Int32))] [(.int (16 : Int32)), (.ref ac)])
  have f105 := (f102.wr W104)
  have f106 := ((((((Cslice0.ext E84).other W86 (Or.inl d5)).other W95 (Or.inl (Ne.symm d1))).other W98 (Or.inr (slot_ne (Or.inl (hw _ (List.mem_of_getElem? (i := 61) rfl))) (Or.inl (hw _ (List.mem_of_getElem? (i := 50) rfl))) (by decide) (t := .int) (t' := .int) (by decide) (by decide)))).other W101 (Or.inr (slot_ne (Or.inl (hw _ (List.mem_of_getElem? (i := 61) rfl))) (Or.inl (hw _ (List.mem_of_getElem? (i := 57) rfl))) (by decide) (t := .int) (t' := .int) (by decide) (by decide)))).other W104 (Or.inr (slot_ne (Or.inl (hw _ (List.mem_of_getElem? (i := 61) rfl))) (Or.inl (hw _ (List.mem_of_getElem? (i := 59) rfl))) (by decide) (t := .int) (t' := .int) (by decide) (by decide))))
  obtain ⟨T107, h107, X107, e107, W107, st107⟩ := own_putFR X104h hx hZ hown (hw _ (List.mem_of_getElem? (i := 100) rfl)) e104 f106 f105 (hw _ (List.mem_of_getElem? (i := 61) rfl)) (hw _ (List.mem_of_getElem? (i := 43) rfl)) (ty := .int) (by decide) rfl rfl (g := (mkF m 126 #[.val (.ref ab), .val (.ref ac), .val (.int (16 : Int32)), .val (.int (0 : Int32))] [(.int (16 : Int32)), (.ref ac)])) rfl rfl (hb hby d14_126)
  have Fw107 : Fld Z h107 ac "com/example/pivotwise/pivotwise/index/PostingBuffer$Chain" "slice" "I" (.int (16 : Int32)) := f106.same W107
  have N107 := Fr.snoc X107 N104h gc
  have Z107 : n0 ≤ h107.size := by rw [W107.size]; exact Z104
  have K107 : Keep h0 h107 [ab, ac, bP, bB] := K104.wr W107 (Or.inl (List.mem_of_getElem? (i := 1) rfl))
  obtain ⟨Lh107, X107h, N107h⟩ : ∃ L, Stand p l e ({ frames := 2, cells := 1, slots := 32, locals := 27 } : Room) s m #[(.ref ab), (.ref ac)] below meth c T107 L 1 32 ∧ Fr n0 L := ⟨_, X107, N107⟩
  clear X107 N107 X104h e104 N104h Z104 K104
  refine Done.go st107 ?_
  clear st107
  show Done p e s below _ _ _ T107 (mkF m 129 #[.val (.ref ab), .val (.ref ac), .val (.int (16 : Int32)), .val (.int (0 : Int32))] [])
  refine Done.retV X107h hx hlk hrt (hb hby d14_129) ?_ (by first | decide | omega) (by first | decide | omega)
  rw [e107]
  have f108 := (((((f94.wr W95).wr W98).wr W101).wr W104).wr W107)
  have f109 := (f105.wr W107)
  have f110 := (((((((Pposting0.ext E84).other W86 (Or.inl d3)).other W95 (Or.inr (slot_ne (Or.inr (hw _ (List.mem_of_getElem? (i := 13) rfl))) (Or.inl (hw _ (List.mem_of_getElem? (i := 77) rfl))) (by decide) (t := (.array .byte)) (t' := .int) (by decide) (by decide)))).other W98 (Or.inl d1)).other W101 (Or.inl d1)).other W104 (Or.inl d1)).other W107 (Or.inl d1))
  have f111 := (((((f89.other W95 (Or.inr (slot_ne (Or.inr (hw _ (List.mem_of_getElem? (i := 29) rfl))) (Or.inl (hw _ (List.mem_of_getElem? (i := 77) rfl))) (by decide) (t := .int) (t' := .int) (by decide) (by decide)))).other W98 (Or.inl d1)).other W101 (Or.inl d1)).other W104 (Or.inl d1)).other W107 (Or.inl d1))
  have f112 := (((((((PblockSize0.ext E84).other W86 (Or.inl d3)).other W95 (Or.inr (slot_ne (Or.inr (hw _ (List.mem_of_getElem? (i := 31) rfl))) (Or.inl (hw _ (List.mem_of_getElem? (i := 77) rfl))) (by decide) (t := .int) (t' := .int) (by decide) (by decide)))).other W98 (Or.inl d1)).other W101 (Or.inl d1)).other W104 (Or.inl d1)).other W107 (Or.inl d1))
  have f113 := (((((((PmostSlice0.ext E84).other W86 (Or.inl d3)).other W95 (Or.inr (slot_ne (Or.inr (hw _ (List.mem_of_getElem? (i := 36) rfl))) (Or.inl (hw _ (List.mem_of_getElem? (i := 77) rfl))) (by decide) (t := .int) (t' := .int) (by decide) (by decide)))).other W98 (Or.inl d1)).other W101 (Or.inl d1)).other W104 (Or.inl d1)).other W107 (Or.inl d1))
  have f114 := (((((((Pblocks0.ext E84).other W86 (Or.inl d3)).other W95 (Or.inr (slot_ne (Or.inr (hw _ (List.mem_of_getElem? (i := 41) rfl))) (Or.inl (hw _ (List.mem_of_getElem? (i := 77) rfl))) (by decide) (t := (.array (.array .byte))) (t' := .int) (by decide) (by decide)))).other W98 (Or.inl d1)).other W101 (Or.inl d1)).other W104 (Or.inl d1)).other W107 (Or.inl d1))
  have f115 := ((((Fw95.other W98 (Or.inl d1)).other W101 (Or.inl d1)).other W104 (Or.inl d1)).other W107 (Or.inl d1))
  have f116 := (((((f87.other W95 (Or.inr (slot_ne (Or.inl (hw _ (List.mem_of_getElem? (i := 98) rfl))) (Or.inl (hw _ (List.mem_of_getElem? (i := 77) rfl))) (by decide) (t := .int) (t' := .int) (by decide) (by decide)))).other W98 (Or.inl d1)).other W101 (Or.inl d1)).other W104 (Or.inl d1)).other W107 (Or.inl d1))
  have f117 := (((Fw98.other W101 (Or.inr (slot_ne (Or.inl (hw _ (List.mem_of_getElem? (i := 50) rfl))) (Or.inl (hw _ (List.mem_of_getElem? (i := 57) rfl))) (by decide) (t := .int) (t' := .int) (by decide) (by decide)))).other W104 (Or.inr (slot_ne (Or.inl (hw _ (List.mem_of_getElem? (i := 50) rfl))) (Or.inl (hw _ (List.mem_of_getElem? (i := 59) rfl))) (by decide) (t := .int) (t' := .int) (by decide) (by decide)))).other W107 (Or.inr (slot_ne (Or.inl (hw _ (List.mem_of_getElem? (i := 50) rfl))) (Or.inl (hw _ (List.mem_of_getElem? (i := 61) rfl))) (by decide) (t := .int) (t' := .int) (by decide) (by decide))))
  have f118 := ((Fw101.other W104 (Or.inr (slot_ne (Or.inl (hw _ (List.mem_of_getElem? (i := 57) rfl))) (Or.inl (hw _ (List.mem_of_getElem? (i := 59) rfl))) (by decide) (t := .int) (t' := .int) (by decide) (by decide)))).other W107 (Or.inr (slot_ne (Or.inl (hw _ (List.mem_of_getElem? (i := 57) rfl))) (Or.inl (hw _ (List.mem_of_getElem? (i := 61) rfl))) (by decide) (t := .int) (t' := .int) (by decide) (by decide))))
  have f119 := (Fw104.other W107 (Or.inr (slot_ne (Or.inl (hw _ (List.mem_of_getElem? (i := 59) rfl))) (Or.inl (hw _ (List.mem_of_getElem? (i := 61) rfl))) (by decide) (t := .int) (t' := .int) (by decide) (by decide))))
  have f120 := (((((((Clength0.ext E84).other W86 (Or.inl d5)).other W95 (Or.inl (Ne.symm d1))).other W98 (Or.inr (slot_ne (Or.inl (hw _ (List.mem_of_getElem? (i := 63) rfl))) (Or.inl (hw _ (List.mem_of_getElem? (i := 50) rfl))) (by decide) (t := .int) (t' := .int) (by decide) (by decide)))).other W101 (Or.inr (slot_ne (Or.inl (hw _ (List.mem_of_getElem? (i := 63) rfl))) (Or.inl (hw _ (List.mem_of_getElem? (i := 57) rfl))) (by decide) (t := .int) (t' := .int) (by decide) (by decide)))).other W104 (Or.inr (slot_ne (Or.inl (hw _ (List.mem_of_getElem? (i := 63) rfl))) (Or.inl (hw _ (List.mem_of_getElem? (i := 59) rfl))) (by decide) (t := .int) (t' := .int) (by decide) (by decide)))).other W107 (Or.inr (slot_ne (Or.inl (hw _ (List.mem_of_getElem? (i := 63) rfl))) (Or.inl (hw _ (List.mem_of_getElem? (i := 61) rfl))) (by decide) (t := .int) (t' := .int) (by decide) (by decide))))
  have f121 := (((((((VP0.ext E84).other W86 d6).other W95 (Ne.symm d2)).other W98 (Ne.symm d4)).other W101 (Ne.symm d4)).other W104 (Ne.symm d4)).other W107 (Ne.symm d4))
  have f122 := (((((V86.other W95 (Ne.symm d3)).other W98 (Ne.symm d5)).other W101 (Ne.symm d5)).other W104 (Ne.symm d5)).other W107 (Ne.symm d5))
  have f123 := ((((((V84.other W86 (Ne.symm ne_bB_b84)).other W95 (Ne.symm ne_ab_b84)).other W98 (Ne.symm ne_ac_b84)).other W101 (Ne.symm ne_ac_b84)).other W104 (Ne.symm ne_ac_b84)).other W107 (Ne.symm ne_ac_b84))
  exact ⟨rfl, N107h, K107.1, b84, _, ⟨f108, f109, f110, f111, f112, f113, f114, f115, f116, f117, f118, f119, Fw107, f120, ⟨_, f121⟩, f122⟩, f123, ⟨(Ne.symm ne_ab_b84), (Ne.symm ne_ac_b84), (Ne.symm ne_bP_b84), (Ne.symm ne_bB_b84)⟩, gz_b84⟩
theorem ef_rm14S (m : MethodId) (ab : Addr) (ac : Addr) : entryFrame m #[(.ref ab), (.ref ac)] 4 = mkF m 0 #[.val (.ref ab), .val (.ref ac), .unset, .unset] [] := by first | (simp [entryFrame, mkF, argsToLocals, Value.category]; done) | rfl
set_option maxRecDepth 65536 in
set_option maxHeartbeats 40000000 in
theorem rm14S (l : Launch) (Z : State) (a0 : Array Value) (hw : ∀ d ∈ tables_1, d.before a0 Z = true) (ws : List Jvm.Cond) (ab : Addr) (ac : Addr) (bP : Addr) (bB : Addr) (bk : Addr) (g0 : Nat → Int32) (nx : Int32) (en : Int32) (sl : Int32) (ln : Int32) (h0 : Heap) (n0 : Nat) (Z0 : n0 ≤ h0.size) (P : own_pb Z h0 ab ac bP bB (.ref bk) (16 : Int32) (-1 : Int32) nx en sl ln) (hds : own_ds ab ac bP bB) (hgs : own_gs n0 ab ac bP bB) (Vk : Ari Z h0 bk .byte 32 g0) (hdk : own_dk bk ab ac bP bB) (hgk : n0 ≤ bk) :
    MetFree l (⟨"com/example/pivotwise/pivotwise/index/PostingBuffer", "extend", "(Lcom/example/pivotwise/pivotwise/index/PostingBuffer$Chain;)V"⟩ : MethodName) (head1 (Jvm.Cond.code (⟨"com/example/pivotwise/pivotwise/index/PostingBuffer", "extend", "(Lcom/example/pivotwise/pivotwise/index/PostingBuffer$Chain;)V"⟩ : MethodName) prog_122_method_8_code 4 none :: ws) ({ frames := 2, cells := 0, slots := 0, locals := 27 } : Room)) (fun a U => a = #[(.ref ab), (.ref ac)] ∧ Z.Warmed39 U.vm ∧ U.heap = h0) (fun _ _ _ _ _ => True) (fun _ U o U' => ∃ vr Lr, o = .returned vr ∧ Q14 Z ab ac bP bB 16 32 28 ln h0 n0 vr U'.heap Lr ∧ FrameEnd U o U' Lr 0 0) := by
  refine MetFree.of_bodySF (plainFor_of_name own_pn2) hisR ?_
  intro p e s m args below meth c s₁ Bd hml0 hP hK
  obtain ⟨rfl, hZ, hh⟩ := hP
  have hx := Bd.exec
  have hby := Bd.bytes
  have hml : c.maxLocals = 4 := hml0
  have hown : s.vm.findClass "com/example/pivotwise/pivotwise/index/PostingBuffer" = some m.cls := findClass_of_methodNamed Bd.named
  have hnm := (name_of_methodNamed Bd.named Bd.method).1
  have hlk : meth.locks = false := Bd.notSynchronized
  have hrt := Bd.returns
  have X0 : Stand p l e ({ frames := 2, cells := 0, slots := 0, locals := 27 } : Room) s m #[(.ref ab), (.ref ac)] below meth c s₁ [] 0 0 := Stand.of_body Bd
  have e0 : s₁.heap = h0 := by rw [← hh, Bd.state]; rfl
  have N0 := Fr.nil n0
  show Done p e s below 0 0 (Q14 Z ab ac bP bB 16 32 28 ln h0 n0) s₁ (entryFrame m #[(.ref ab), (.ref ac)] 4)
  rw [ef_rm14S]
  obtain ⟨d1, d2, d3, d4, d5, d6⟩ := hds
  obtain ⟨ga, gc, gP, gB⟩ := hgs
  obtain ⟨Ea0, Ec0, Pposting0, PblockBits0, PblockSize0, PmostSlice0, Pblocks0, Ptaken0, Pblock0, Cfirst0, Cnext0, Cend0, Cslice0, Clength0, ⟨fP0, VP0⟩, BB0⟩ := P
  obtain ⟨k1, k2, k3, k4⟩ := hdk
  show Done p e s below _ _ _ s₁ (mkF m 0 #[.val (.ref ab), .val (.ref ac), .unset, .unset] [])
  refine Done.go (fun _ kt_ => XS.aloadN X0.here hx rfl (hb hby d14_0) rfl rfl kt_) ?_
  show Done p e s below _ _ _ s₁ (mkF m 1 #[.val (.ref ab), .val (.ref ac), .unset, .unset] [(.ref ab)])
  refine Done.go (fun _ kt_ => XS.aloadN X0.here hx rfl (hb hby d14_1) rfl rfl kt_) ?_
  show Done p e s below _ _ _ s₁ (mkF m 2 #[.val (.ref ab), .val (.ref ac), .unset, .unset] [(.ref ac), (.ref ab)])
  obtain ⟨cq124, q124, q124'⟩ := Ea0.cell
  obtain ⟨v124, T124, Lc124, X124, hQ124, st124⟩ := own_backV (X0.privateBack hx (y := (⟨"com/example/pivotwise/pivotwise/index/PostingBuffer", "nextSlice", "(Lcom/example/pivotwise/pivotwise/index/PostingBuffer$Chain;)I"⟩ : MethodName)) hown (mvT hZ (hw _ (List.mem_of_getElem? (i := 78) rfl))) (mvT hZ (hw _ (List.mem_of_getElem? (i := 79) rfl))) (mvT hZ (own_selPriv (n := 7) (by decide) (hw _ (List.mem_of_getElem? (i := 2) rfl)) (hw _ (List.mem_of_getElem? (i := 80) rfl)) (hw _ (List.mem_of_getElem? (i := 79) rfl)))) (Cond.privateMethod_at (mvP hZ (hw _ (List.mem_of_getElem? (i := 80) rfl)) (args := #[]))) (mvT hZ (hw _ (List.mem_of_getElem? (i := 81) rfl))) (by decide) (backOf (W := 0) (rm11 l Z a0 hw [] ab ac (-1 : Int32) sl h0 n0 Z0 Cfirst0 Cslice0 PmostSlice0) hZ (hw _ (List.mem_of_getElem? (i := 81) rfl)) (hw _ (List.mem_of_getElem? (i := 3) rfl)) (by decide) (by decide)) (g := (mkF m 2 #[.val (.ref ab), .val (.ref ac), .unset, .unset] [(.ref ac), (.ref ab)])) rfl (by rw [hml]; rfl) (Steps.refl _) (a := ab) (by rw [e0]; exact q124) q124' (argsL := [(.ref ac)]) (rest := []) (lenOf own_pd4 rfl) rfl (by show 2 * 0 + _ ≤ _; exact Nat.le_of_eq rfl) (hb hby d14_2) (fun _ _ => ⟨rfl, e0, (by first | decide | omega : 0 + 0 ≤ _), (by first | decide | omega : 0 + 0 ≤ _)⟩))
  obtain ⟨rfl, N124q, e124⟩ := hQ124
  refine Done.go st124 ?_
  clear st124
  have N124 := Fr.app N0 N124q
  clear N124q
  obtain ⟨Lh124, X124h, N124h⟩ : ∃ L, Stand p l e ({ frames := 2, cells := 0, slots := 0, locals := 27 } : Room) s m #[(.ref ab), (.ref ac)] below meth c T124 L 0 0 ∧ Fr n0 L := ⟨_, X124, N124⟩
  clear X124 N124
  show Done p e s below _ _ _ T124 (mkF m 5 #[.val (.ref ab), .val (.ref ac), .unset, .unset] [(.int (own_ns (-1 : Int32) sl))])
  rw [show own_ns (-1 : Int32) sl = (16 : Int32) from rfl]
  show Done p e s below _ _ _ T124 (mkF m 5 #[.val (.ref ab), .val (.ref ac), .unset, .unset] [(.int (16 : Int32))])
  refine Done.go (fun _ kt_ => XS.istoreN X124h.here hx rfl (hb hby d14_5) rfl (l' := #[.val (.ref ab), .val (.ref ac), .val (.int (16 : Int32)), .unset]) rfl kt_) ?_
  show Done p e s below _ _ _ T124 (mkF m 6 #[.val (.ref ab), .val (.ref ac), .val (.int (16 : Int32)), .unset] [])
  refine Done.go (fun _ kt_ => XS.aloadN X124h.here hx rfl (hb hby d14_6) rfl rfl kt_) ?_
  show Done p e s below _ _ _ T124 (mkF m 7 #[.val (.ref ab), .val (.ref ac), .val (.int (16 : Int32)), .unset] [(.ref ab)])
  obtain ⟨T125, X125, e125, st125⟩ := getF X124h hx hZ hown (host := "") (Or.inl (hw _ (List.mem_of_getElem? (i := 76) rfl))) Via.refl e124 Ptaken0 (g := (mkF m 7 #[.val (.ref ab), .val (.ref ac), .val (.int (16 : Int32)), .unset] [(.ref ab)])) rfl rfl (hb hby d14_7)
  refine Done.go st125 ?_
  clear st125 X124h e124
  show Done p e s below _ _ _ T125 (mkF m 10 #[.val (.ref ab), .val (.ref ac), .val (.int (16 : Int32)), .unset] [(.int (16 : Int32))])
  refine Done.go (fun _ kt_ => XS.iloadN X125.here hx rfl (hb hby d14_10) rfl kt_) ?_
  show Done p e s below _ _ _ T125 (mkF m 11 #[.val (.ref ab), .val (.ref ac), .val (.int (16 : Int32)), .unset] [(.int (16 : Int32)), (.int (16 : Int32))])
  refine Done.go (fun _ kt_ => XS.iadd X125.here hx rfl (hb hby d14_11) rfl kt_) ?_
  show Done p e s below _ _ _ T125 (mkF m 12 #[.val (.ref ab), .val (.ref ac), .val (.int (16 : Int32)), .unset] [(.int ((16 : Int32) + (16 : Int32)))])
  rw [show ((16 : Int32) + (16 : Int32)) = (32 : Int32) from by decide]
  show Done p e s below _ _ _ T125 (mkF m 12 #[.val (.ref ab), .val (.ref ac), .val (.int (16 : Int32)), .unset] [(.int (32 : Int32))])
  refine Done.go (fun _ kt_ => XS.aloadN X125.here hx rfl (hb hby d14_12) rfl rfl kt_) ?_
  show Done p e s below _ _ _ T125 (mkF m 13 #[.val (.ref ab), .val (.ref ac), .val (.int (16 : Int32)), .unset] [(.ref ab), (.int (32 : Int32))])
  obtain ⟨T126, X126, e126, st126⟩ := getF X125 hx hZ hown (host := "") (Or.inl (hw _ (List.mem_of_getElem? (i := 30) rfl))) Via.refl e125 PblockSize0 (g := (mkF m 13 #[.val (.ref ab), .val (.ref ac), .val (.int (16 : Int32)), .unset] [(.ref ab), (.int (32 : Int32))])) rfl rfl (hb hby d14_13)
  refine Done.go st126 ?_
  clear st126 X125 e125
  show Done p e s below _ _ _ T126 (mkF m 16 #[.val (.ref ab), .val (.ref ac), .val (.int (16 : Int32)), .unset] [(.int (32 : Int32)), (.int (32 : Int32))])
  refine Done.go (fun _ kt_ => XS.icmpYes X126.here hx rfl (pc0 := 16) (pc' := 34) rfl (hb hby d14_16) rfl (flt (by decide)).2.2.2 (by decide) (by decide) kt_) ?_
  show Done p e s below _ _ _ T126 (mkF m 34 #[.val (.ref ab), .val (.ref ac), .val (.int (16 : Int32)), .unset] [])
  refine Done.go (fun _ kt_ => XS.aloadN X126.here hx rfl (hb hby d14_34) rfl rfl kt_) ?_
  show Done p e s below _ _ _ T126 (mkF m 35 #[.val (.ref ab), .val (.ref ac), .val (.int (16 : Int32)), .unset] [(.ref ab)])
  obtain ⟨T127, X127, e127, st127⟩ := getF X126 hx hZ hown (host := "") (Or.inl (hw _ (List.mem_of_getElem? (i := 40) rfl))) Via.refl e126 Pblocks0 (g := (mkF m 35 #[.val (.ref ab), .val (.ref ac), .val (.int (16 : Int32)), .unset] [(.ref ab)])) rfl rfl (hb hby d14_35)
  refine Done.go st127 ?_
  clear st127 X126 e126
  show Done p e s below _ _ _ T127 (mkF m 38 #[.val (.ref ab), .val (.ref ac), .val (.int (16 : Int32)), .unset] [(.ref bB)])
  refine Done.go (fun _ kt_ => XS.aloadN X127.here hx rfl (hb hby d14_38) rfl rfl kt_) ?_
  show Done p e s below _ _ _ T127 (mkF m 39 #[.val (.ref ab), .val (.ref ac), .val (.int (16 : Int32)), .unset] [(.ref ab), (.ref bB)])
  obtain ⟨T128, X128, e128, st128⟩ := getF X127 hx hZ hown (host := "") (Or.inl (hw _ (List.mem_of_getElem? (i := 97) rfl))) Via.refl e127 Pblock0 (g := (mkF m 39 #[.val (.ref ab), .val (.ref ac), .val (.int (16 : Int32)), .unset] [(.ref ab), (.ref bB)])) rfl rfl (hb hby d14_39)
  refine Done.go st128 ?_
  clear st128 X127 e127
  show Done p e s below _ _ _ T128 (mkF m 42 #[.val (.ref ab), .val (.ref ac), .val (.int (16 : Int32)), .unset] [(.int (0 : Int32)), (.ref bB)])
  refine Done.ldBlk X128 hx hZ e128 BB0 (j := (0 : Int32)) rfl (hb hby d14_42) ?_
  show Done p e s below _ _ _ T128 (mkF m 43 #[.val (.ref ab), .val (.ref ac), .val (.int (16 : Int32)), .unset] [(.ref bk)])
  refine Done.go (fun _ kt_ => XS.ifnonnullYes X128.here hx rfl (pc0 := 43) (pc' := 61) rfl (hb hby d14_43) rfl (by decide) (by decide) kt_) ?_
  show Done p e s below _ _ _ T128 (mkF m 61 #[.val (.ref ab), .val (.ref ac), .val (.int (16 : Int32)), .unset] [])
  refine Done.go (fun _ kt_ => XS.aloadN X128.here hx rfl (hb hby d14_61) rfl rfl kt_) ?_
  show Done p e s below _ _ _ T128 (mkF m 62 #[.val (.ref ab), .val (.ref ac), .val (.int (16 : Int32)), .unset] [(.ref ab)])
  obtain ⟨T129, X129, e129, st129⟩ := getF X128 hx hZ hown (host := "") (Or.inl (hw _ (List.mem_of_getElem? (i := 97) rfl))) Via.refl e128 Pblock0 (g := (mkF m 62 #[.val (.ref ab), .val (.ref ac), .val (.int (16 : Int32)), .unset] [(.ref ab)])) rfl rfl (hb hby d14_62)
  refine Done.go st129 ?_
  clear st129 X128 e128
  show Done p e s below _ _ _ T129 (mkF m 65 #[.val (.ref ab), .val (.ref ac), .val (.int (16 : Int32)), .unset] [(.int (0 : Int32))])
  refine Done.go (fun _ kt_ => XS.aloadN X129.here hx rfl (hb hby d14_65) rfl rfl kt_) ?_
  show Done p e s below _ _ _ T129 (mkF m 66 #[.val (.ref ab), .val (.ref ac), .val (.int (16 : Int32)), .unset] [(.ref ab), (.int (0 : Int32))])
  obtain ⟨T130, X130, e130, st130⟩ := getF X129 hx hZ hown (host := "") (Or.inl (hw _ (List.mem_of_getElem? (i := 28) rfl))) Via.refl e129 PblockBits0 (g := (mkF m 66 #[.val (.ref ab), .val (.ref ac), .val (.int (16 : Int32)), .unset] [(.ref ab), (.int (0 : Int32))])) rfl rfl (hb hby d14_66)
  refine Done.go st130 ?_
  clear st130 X129 e129
  show Done p e s below _ _ _ T130 (mkF m 69 #[.val (.ref ab), .val (.ref ac), .val (.int (16 : Int32)), .unset] [(.int (5 : Int32)), (.int (0 : Int32))])
  refine Done.go (fun _ kt_ => XS.ishl X130.here hx rfl (hb hby d14_69) rfl kt_) ?_
  show Done p e s below _ _ _ T130 (mkF m 70 #[.val (.ref ab), .val (.ref ac), .val (.int (16 : Int32)), .unset] [(.int ((0 : Int32) <<< ((5 : Int32) &&& 31)))])
  rw [show ((0 : Int32) <<< ((5 : Int32) &&& 31)) = (0 : Int32) from by decide]
  show Done p e s below _ _ _ T130 (mkF m 70 #[.val (.ref ab), .val (.ref ac), .val (.int (16 : Int32)), .unset] [(.int (0 : Int32))])
  refine Done.go (fun _ kt_ => XS.aloadN X130.here hx rfl (hb hby d14_70) rfl rfl kt_) ?_
  show Done p e s below _ _ _ T130 (mkF m 71 #[.val (.ref ab), .val (.ref ac), .val (.int (16 : Int32)), .unset] [(.ref ab), (.int (0 : Int32))])
  obtain ⟨T131, X131, e131, st131⟩ := getF X130 hx hZ hown (host := "") (Or.inl (hw _ (List.mem_of_getElem? (i := 76) rfl))) Via.refl e130 Ptaken0 (g := (mkF m 71 #[.val (.ref ab), .val (.ref ac), .val (.int (16 : Int32)), .unset] [(.ref ab), (.int (0 : Int32))])) rfl rfl (hb hby d14_71)
  refine Done.go st131 ?_
  clear st131 X130 e130
  show Done p e s below _ _ _ T131 (mkF m 74 #[.val (.ref ab), .val (.ref ac), .val (.int (16 : Int32)), .unset] [(.int (16 : Int32)), (.int (0 : Int32))])
  refine Done.go (fun _ kt_ => XS.iadd X131.here hx rfl (hb hby d14_74) rfl kt_) ?_
  show Done p e s below _ _ _ T131 (mkF m 75 #[.val (.ref ab), .val (.ref ac), .val (.int (16 : Int32)), .unset] [(.int ((0 : Int32) + (16 : Int32)))])
  rw [show ((0 : Int32) + (16 : Int32)) = (16 : Int32) from by decide]
  show Done p e s below _ _ _ T131 (mkF m 75 #[.val (.ref ab), .val (.ref ac), .val (.int (16 : Int32)), .unset] [(.int (16 : Int32))])
  refine Done.go (fun _ kt_ => XS.istoreN X131.here hx rfl (hb hby d14_75) rfl (l' := #[.val (.ref ab), .val (.ref ac), .val (.int (16 : Int32)), .val (.int (16 : Int32))]) rfl kt_) ?_
  show Done p e s below _ _ _ T131 (mkF m 76 #[.val (.ref ab), .val (.ref ac), .val (.int (16 : Int32)), .val (.int (16 : Int32))] [])
  refine Done.go (fun _ kt_ => XS.aloadN X131.here hx rfl (hb hby d14_76) rfl rfl kt_) ?_
  show Done p e s below _ _ _ T131 (mkF m 77 #[.val (.ref ab), .val (.ref ac), .val (.int (16 : Int32)), .val (.int (16 : Int32))] [(.ref ab)])
  refine Done.go (fun _ kt_ => XS.dup X131.here hx rfl (hb hby d14_77) rfl rfl kt_) ?_
  show Done p e s below _ _ _ T131 (mkF m 78 #[.val (.ref ab), .val (.ref ac), .val (.int (16 : Int32)), .val (.int (16 : Int32))] [(.ref ab), (.ref ab)])
  obtain ⟨T132, X132, e132, st132⟩ := getF X131 hx hZ hown (host := "") (Or.inl (hw _ (List.mem_of_getElem? (i := 76) rfl))) Via.refl e131 Ptaken0 (g := (mkF m 78 #[.val (.ref ab), .val (.ref ac), .val (.int (16 : Int32)), .val (.int (16 : Int32))] [(.ref ab), (.ref ab)])) rfl rfl (hb hby d14_78)
  refine Done.go st132 ?_
  clear st132 X131 e131
  show Done p e s below _ _ _ T132 (mkF m 81 #[.val (.ref ab), .val (.ref ac), .val (.int (16 : Int32)), .val (.int (16 : Int32))] [(.int (16 : Int32)), (.ref ab)])
  refine Done.go (fun _ kt_ => XS.iloadN X132.here hx rfl (hb hby d14_81) rfl kt_) ?_
  show Done p e s below _ _ _ T132 (mkF m 82 #[.val (.ref ab), .val (.ref ac), .val (.int (16 : Int32)), .val (.int (16 : Int32))] [(.int (16 : Int32)), (.int (16 : Int32)), (.ref ab)])
  refine Done.go (fun _ kt_ => XS.iadd X132.here hx rfl (hb hby d14_82) rfl kt_) ?_
  show Done p e s below _ _ _ T132 (mkF m 83 #[.val (.ref ab), .val (.ref ac), .val (.int (16 : Int32)), .val (.int (16 : Int32))] [(.int ((16 : Int32) + (16 : Int32))), (.ref ab)])
  rw [show ((16 : Int32) + (16 : Int32)) = (32 : Int32) from by decide]
  show Done p e s below _ _ _ T132 (mkF m 83 #[.val (.ref ab), .val (.ref ac), .val (.int (16 : Int32)), .val (.int (16 : Int32))] [(.int (32 : Int32)), (.ref ab)])
  obtain ⟨T133, h133, X133, e133, W133, st133⟩ := putF X132 hx hZ hown (host := "") (Or.inl (hw _ (List.mem_of_getElem? (i := 76) rfl))) Via.refl e132 Ptaken0 Ea0 (Or.inl (hw _ (List.mem_of_getElem? (i := 77) rfl))) (hw _ (List.mem_of_getElem? (i := 2) rfl)) (ty := .int) (by decide) rfl rfl (g := (mkF m 83 #[.val (.ref ab), .val (.ref ac), .val (.int (16 : Int32)), .val (.int (16 : Int32))] [(.int (32 : Int32)), (.ref ab)])) rfl rfl (hb hby d14_83)
  have Fw133 : Fld Z h133 ab "com/example/pivotwise/pivotwise/index/PostingBuffer" "taken" "I" (.int (32 : Int32)) := Ptaken0.same W133
  have N133 := Fr.snoc X133 N124h ga
  have Z133 : n0 ≤ h133.size := by rw [W133.size]; exact Z0
  have K133 : Keep h0 h133 [ab, ac, bP, bB, bk] := (Keep.refl h0 [ab, ac, bP, bB, bk]).wr W133 (Or.inl (List.mem_of_getElem? (i := 0) rfl))
  obtain ⟨Lh133, X133h, N133h⟩ : ∃ L, Stand p l e ({ frames := 2, cells := 0, slots := 0, locals := 27 } : Room) s m #[(.ref ab), (.ref ac)] below meth c T133 L 0 0 ∧ Fr n0 L := ⟨_, X133, N133⟩
  clear X133 N133 X132 e132 N124h
  refine Done.go st133 ?_
  clear st133
  show Done p e s below _ _ _ T133 (mkF m 86 #[.val (.ref ab), .val (.ref ac), .val (.int (16 : Int32)), .val (.int (16 : Int32))] [])
  refine Done.go (fun _ kt_ => XS.aloadN X133h.here hx rfl (hb hby d14_86) rfl rfl kt_) ?_
  show Done p e s below _ _ _ T133 (mkF m 87 #[.val (.ref ab), .val (.ref ac), .val (.int (16 : Int32)), .val (.int (16 : Int32))] [(.ref ac)])
  have f134 := (Cfirst0.other W133 (Or.inl (Ne.symm d1)))
  refine Done.go (own_getFR X133h hx hZ hown (hw _ (List.mem_of_getElem? (i := 82) rfl)) e133 f134 (g := (mkF m 87 #[.val (.ref ab), .val (.ref ac), .val (.int (16 : Int32)), .val (.int (16 : Int32))] [(.ref ac)])) rfl rfl (hb hby d14_87)) ?_
  show Done p e s below _ _ _ T133 (mkF m 90 #[.val (.ref ab), .val (.ref ac), .val (.int (16 : Int32)), .val (.int (16 : Int32))] [(.int (-1 : Int32))])
  refine Done.go (fun _ kt_ => XS.ifNo X133h.here hx rfl (hb hby d14_90) rfl ((if0 _ _).trans (tlt (by decide)).2.1) kt_) ?_
  show Done p e s below _ _ _ T133 (mkF m 93 #[.val (.ref ab), .val (.ref ac), .val (.int (16 : Int32)), .val (.int (16 : Int32))] [])
  refine Done.go (fun _ kt_ => XS.aloadN X133h.here hx rfl (hb hby d14_93) rfl rfl kt_) ?_
  show Done p e s below _ _ _ T133 (mkF m 94 #[.val (.ref ab), .val (.ref ac), .val (.int (16 : Int32)), .val (.int (16 : Int32))] [(.ref ac)])
  refine Done.go (fun _ kt_ => XS.iloadN X133h.here hx rfl (hb hby d14_94) rfl kt_) ?_
  show Done p e s below _ _ _ T133 (mkF m 95 #[.val (.ref ab), .val (.ref ac), .val (.int (16 : Int32)), .val (.int (16 : Int32))] [(.int (16 : Int32)), (.ref ac)])
  have f135 := (Ec0.wr W133)
  obtain ⟨T136, h136, X136, e136, W136, st136⟩ := own_putFR X133h hx hZ hown (hw _ (List.mem_of_getElem? (i := 82) rfl)) e133 f134 f135 (hw _ (List.mem_of_getElem? (i := 50) rfl)) (hw _ (List.mem_of_getElem? (i := 43) rfl)) (ty := .int) (by decide) rfl rfl (g := (mkF m 95 #[.val (.ref ab), .val (.ref ac), .val (.int (16 : Int32)), .val (.int (16 : Int32))] [(.int (16 : Int32)), (.ref ac)])) rfl rfl (hb hby d14_95)
  have Fw136 : Fld Z h136 ac "com/example/pivotwise/pivotwise/index/PostingBuffer$Chain" "first" "I" (.int (16 : Int32)) := f134.same W136
  have N136 := Fr.snoc X136 N133h gc
  have Z136 : n0 ≤ h136.size := by rw [W136.size]; exact Z133
  have K136 : Keep h0 h136 [ab, ac, bP, bB, bk] := K133.wr W136 (Or.inl (List.mem_of_getElem? (i := 1) rfl))
  obtain ⟨Lh136, X136h, N136h⟩ : ∃ L, Stand p l e ({ frames := 2, cells := 0, slots := 0, locals := 27 } : Room) s m #[(.ref ab), (.ref ac)] below meth c T136 L 0 0 ∧ Fr n0 L := ⟨_, X136, N136⟩
  clear X136 N136 X133h e133 N133h Z133 K133
  refine Done.go st136 ?_
  clear st136
  show Done p e s below _ _ _ T136 (mkF m 98 #[.val (.ref ab), .val (.ref ac), .val (.int (16 : Int32)), .val (.int (16 : Int32))] [])
  refine Done.go (fun _ kt_ => XS.goto X136h.here hx rfl (pc0 := 98) (pc' := 110) rfl (hb hby d14_98) (by decide) (by decide) kt_) ?_
  show Done p e s below _ _ _ T136 (mkF m 110 #[.val (.ref ab), .val (.ref ac), .val (.int (16 : Int32)), .val (.int (16 : Int32))] [])
  refine Done.go (fun _ kt_ => XS.aloadN X136h.here hx rfl (hb hby d14_110) rfl rfl kt_) ?_
  show Done p e s below _ _ _ T136 (mkF m 111 #[.val (.ref ab), .val (.ref ac), .val (.int (16 : Int32)), .val (.int (16 : Int32))] [(.ref ac)])
  refine Done.go (fun _ kt_ => XS.iloadN X136h.here hx rfl (hb hby d14_111) rfl kt_) ?_
  show Done p e s below _ _ _ T136 (mkF m 112 #[.val (.ref ab), .val (.ref ac), .val (.int (16 : Int32)), .val (.int (16 : Int32))] [(.int (16 : Int32)), (.ref ac)])
  have f137 := (f135.wr W136)
  have f138 := ((Cnext0.other W133 (Or.inl (Ne.symm d1))).other W136 (Or.inr (slot_ne (Or.inl (hw _ (List.mem_of_getElem? (i := 57) rfl))) (Or.inl (hw _ (List.mem_of_getElem? (i := 50) rfl))) (by decide) (t := .int) (t' := .int) (by decide) (by decide))))
  obtain ⟨T139, h139, X139, e139, W139, st139⟩ := own_putFR X136h hx hZ hown (hw _ (List.mem_of_getElem? (i := 75) rfl)) e136 f138 f137 (hw _ (List.mem_of_getElem? (i := 57) rfl)) (hw _ (List.mem_of_getElem? (i := 43) rfl)) (ty := .int) (by decide) rfl rfl (g := (mkF m 112 #[.val (.ref ab), .val (.ref ac), .val (.int (16 : Int32)), .val (.int (16 : Int32))] [(.int (16 : Int32)), (.ref ac)])) rfl rfl (hb hby d14_112)
  have Fw139 : Fld Z h139 ac "com/example/pivotwise/pivotwise/index/PostingBuffer$Chain" "next" "I" (.int (16 : Int32)) := f138.same W139
  have N139 := Fr.snoc X139 N136h gc
  have Z139 : n0 ≤ h139.size := by rw [W139.size]; exact Z136
  have K139 : Keep h0 h139 [ab, ac, bP, bB, bk] := K136.wr W139 (Or.inl (List.mem_of_getElem? (i := 1) rfl))
  obtain ⟨Lh139, X139h, N139h⟩ : ∃ L, Stand p l e ({ frames := 2, cells := 0, slots := 0, locals := 27 } : Room) s m #[(.ref ab), (.ref ac)] below meth c T139 L 0 0 ∧ Fr n0 L := ⟨_, X139, N139⟩
  clear X139 N139 X136h e136 N136h Z136 K136
  refine Done.go st139 ?_
  clear st139
  show Done p e s below _ _ _ T139 (mkF m 115 #[.val (.ref ab), .val (.ref ac), .val (.int (16 : Int32)), .val (.int (16 : Int32))] [])
  refine Done.go (fun _ kt_ => XS.aloadN X139h.here hx rfl (hb hby d14_115) rfl rfl kt_) ?_
  show Done p e s below _ _ _ T139 (mkF m 116 #[.val (.ref ab), .val (.ref ac), .val (.int (16 : Int32)), .val (.int (16 : Int32))] [(.ref ac)])
  refine Done.go (fun _ kt_ => XS.iloadN X139h.here hx rfl (hb hby d14_116) rfl kt_) ?_
  show Done p e s below _ _ _ T139 (mkF m 117 #[.val (.ref ab), .val (.ref ac), .val (.int (16 : Int32)), .val (.int (16 : Int32))] [(.int (16 : Int32)), (.ref ac)])
  refine Done.go (fun _ kt_ => XS.iloadN X139h.here hx rfl (hb hby d14_117) rfl kt_) ?_
  show Done p e s below _ _ _ T139 (mkF m 118 #[.val (.ref ab), .val (.ref ac), .val (.int (16 : Int32)), .val (.int (16 : Int32))] [(.int (16 : Int32)), (.int (16 : Int32)), (.ref ac)])
  refine Done.go (fun _ kt_ => XS.iadd X139h.here hx rfl (hb hby d14_118) rfl kt_) ?_
  show Done p e s below _ _ _ T139 (mkF m 119 #[.val (.ref ab), .val (.ref ac), .val (.int (16 : Int32)), .val (.int (16 : Int32))] [(.int ((16 : Int32) + (16 : Int32))), (.ref ac)])
  rw [show ((16 : Int32) + (16 : Int32)) = (32 : Int32) from by decide]
  show Done p e s below _ _ _ T139 (mkF m 119 #[.val (.ref ab), .val (.ref ac), .val (.int (16 : Int32)), .val (.int (16 : Int32))] [(.int (32 : Int32)), (.ref ac)])
  refine Done.go (fun _ kt_ => XS.iconst X139h.here hx rfl (hb hby d14_119) kt_) ?_
  show Done p e s below _ _ _ T139 (mkF m 120 #[.val (.ref ab), .val (.ref ac), .val (.int (16 : Int32)), .val (.int (16 : Int32))] [(.int (4 : Int32)), (.int (32 : Int32)), (.ref ac)])
  refine Done.go (fun _ kt_ => XS.isub X139h.here hx rfl (hb hby d14_120) rfl kt_) ?_
  show Done p e s below _ _ _ T139 (mkF m 121 #[.val (.ref ab), .val (.ref ac), .val (.int (16 : Int32)), .val (.int (16 : Int32))] [(.int ((32 : Int32) - (4 : Int32))), (.ref ac)])
  rw [show ((32 : Int32) - (4 : Int32)) = (28 : Int32) from by decide]
  show Done p e s below _ _ _ T139 (mkF m 121 #[.val (.ref ab), .val (.ref ac), .val (.int (16 : Int32)), .val (.int (16 : Int32))] [(.int (28 : Int32)), (.ref ac)])
  have f140 := (f137.wr W139)
  have f141 := (((Cend0.other W133 (Or.inl (Ne.symm d1))).other W136 (Or.inr (slot_ne (Or.inl (hw _ (List.mem_of_getElem? (i := 59) rfl))) (Or.inl (hw _ (List.mem_of_getElem? (i := 50) rfl))) (by decide) (t := .int) (t' := .int) (by decide) (by decide)))).other W139 (Or.inr (slot_ne (Or.inl (hw _ (List.mem_of_getElem? (i := 59) rfl))) (Or.inl (hw _ (List.mem_of_getElem? (i := 57) rfl))) (by decide) (t := .int) (t' := .int) (by decide) (by decide))))
  obtain ⟨T142, h142, X142, e142, W142, st142⟩ := own_putFR X139h hx hZ hown (hw _ (List.mem_of_getElem? (i := 74) rfl)) e139 f141 f140 (hw _ (List.mem_of_getElem? (i := 59) rfl)) (hw _ (List.mem_of_getElem? (i := 43) rfl)) (ty := .int) (by decide) rfl rfl (g := (mkF m 121 #[.val (.ref ab), .val (.ref ac), .val (.int (16 : Int32)), .val (.int (16 : Int32))] [(.int (28 : Int32)), (.ref ac)])) rfl rfl (hb hby d14_121)
  have Fw142 : Fld Z h142 ac "com/example/pivotwise/pivotwise/index/PostingBuffer$Chain" "end" "I" (.int (28 : Int32)) := f141.same W142
  have N142 := Fr.snoc X142 N139h gc
  have Z142 : n0 ≤ h142.size := by rw [W142.size]; exact Z139
  have K142 : Keep h0 h142 [ab, ac, bP, bB, bk] := K139.wr W142 (Or.inl (List.mem_of_getElem? (i := 1) rfl))
  obtain ⟨Lh142, X142h, N142h⟩ : ∃ L, Stand p l e ({ frames := 2, cells := 0, slots := 0, locals := 27 } : Room) s m #[(.ref ab), (.ref ac)] below meth c T142 L 0 0 ∧ Fr n0 L := ⟨_, X142, N142⟩
  clear X142 N142 X139h e139 N139h Z139 K139
  refine Done.go st142 ?_
  clear st142
  show Done p e s below _ _ _ T142 (mkF m 124 #[.val (.ref ab), .val (.ref ac), .val (.int (16 : Int32)), .val (.int (16 : Int32))] [])
  refine Done.go (fun _ kt_ => XS.aloadN X142h.here hx rfl (hb hby d14_124) rfl rfl kt_) ?_
  show Done p e s below _ _ _ T142 (mkF m 125 #[.val (.ref ab), .val (.ref ac), .val (.int (16 : Int32)), .val (.int (16 : Int32))] [(.ref ac)])
  refine Done.go (fun _ kt_ => XS.iloadN X142h.here hx rfl (hb hby d14_125) rfl kt_) ?_
  show Done p e s below _ _ _ T142 (mkF m 126 #[.val (.ref ab), .val (.ref ac), .val (.int (16 : Int32)), .val (.int (16 : Int32))] [(.int (16 : Int32)), (.ref ac)])
  have f143 := (f140.wr W142)
  have f144 := ((((Cslice0.other W133 (Or.inl (Ne.symm d1))).other W136 (Or.inr (slot_ne (Or.inl (hw _ (List.mem_of_getElem? (i := 61) rfl))) (Or.inl (hw _ (List.mem_of_getElem? (i := 50) rfl))) (by decide) (t := .int) (t' := .int) (by decide) (by decide)))).other W139 (Or.inr (slot_ne (Or.inl (hw _ (List.mem_of_getElem? (i := 61) rfl))) (Or.inl (hw _ (List.mem_of_getElem? (i := 57) rfl))) (by decide) (t := .int) (t' := .int) (by decide) (by decide)))).other W142 (Or.inr (slot_ne (Or.inl (hw _ (List.mem_of_getElem? (i := 61) rfl))) (Or.inl (hw _ (List.mem_of_getElem? (i := 59) rfl))) (by decide) (t := .int) (t' := .int) (by decide) (by decide))))
  obtain ⟨T145, h145, X145, e145, W145, st145⟩ := own_putFR X142h hx hZ hown (hw _ (List.mem_of_getElem? (i := 100) rfl)) e142 f144 f143 (hw _ (List.mem_of_getElem? (i := 61) rfl)) (hw _ (List.mem_of_getElem? (i := 43) rfl)) (ty := .int) (by decide) rfl rfl (g := (mkF m 126 #[.val (.ref ab), .val (.ref ac), .val (.int (16 : Int32)), .val (.int (16 : Int32))] [(.int (16 : Int32)), (.ref ac)])) rfl rfl (hb hby d14_126)
  have Fw145 : Fld Z h145 ac "com/example/pivotwise/pivotwise/index/PostingBuffer$Chain" "slice" "I" (.int (16 : Int32)) := f144.same W145
  have N145 := Fr.snoc X145 N142h gc
  have Z145 : n0 ≤ h145.size := by rw [W145.size]; exact Z142
  have K145 : Keep h0 h145 [ab, ac, bP, bB, bk] := K142.wr W145 (Or.inl (List.mem_of_getElem? (i := 1) rfl))
  obtain ⟨Lh145, X145h, N145h⟩ : ∃ L, Stand p l e ({ frames := 2, cells := 0, slots := 0, locals := 27 } : Room) s m #[(.ref ab), (.ref ac)] below meth c T145 L 0 0 ∧ Fr n0 L := ⟨_, X145, N145⟩
  clear X145 N145 X142h e142 N142h Z142 K142
  refine Done.go st145 ?_
  clear st145
  show Done p e s below _ _ _ T145 (mkF m 129 #[.val (.ref ab), .val (.ref ac), .val (.int (16 : Int32)), .val (.int (16 : Int32))] [])
  refine Done.retV X145h hx hlk hrt (hb hby d14_129) ?_ (by first | decide | omega) (by first | decide | omega)
  rw [e145]
  have f146 := (((((Ea0.wr W133).wr W136).wr W139).wr W142).wr W145)
  have f147 := (f143.wr W145)
  have f148 := (((((Pposting0.other W133 (Or.inr (slot_ne (Or.inr (hw _ (List.mem_of_getElem? (i := 13) rfl))) (Or.inl (hw _ (List.mem_of_getElem? (i := 77) rfl))) (by decide) (t := (.array .byte)) (t' := .int) (by decide) (by decide)))).other W136 (Or.inl d1)).other W139 (Or.inl d1)).other W142 (Or.inl d1)).other W145 (Or.inl d1))
  have f149 := (((((PblockBits0.other W133 (Or.inr (slot_ne (Or.inr (hw _ (List.mem_of_getElem? (i := 29) rfl))) (Or.inl (hw _ (List.mem_of_getElem? (i := 77) rfl))) (by decide) (t := .int) (t' := .int) (by decide) (by decide)))).other W136 (Or.inl d1)).other W139 (Or.inl d1)).other W142 (Or.inl d1)).other W145 (Or.inl d1))
  have f150 := (((((PblockSize0.other W133 (Or.inr (slot_ne (Or.inr (hw _ (List.mem_of_getElem? (i := 31) rfl))) (Or.inl (hw _ (List.mem_of_getElem? (i := 77) rfl))) (by decide) (t := .int) (t' := .int) (by decide) (by decide)))).other W136 (Or.inl d1)).other W139 (Or.inl d1)).other W142 (Or.inl d1)).other W145 (Or.inl d1))
  have f151 := (((((PmostSlice0.other W133 (Or.inr (slot_ne (Or.inr (hw _ (List.mem_of_getElem? (i := 36) rfl))) (Or.inl (hw _ (List.mem_of_getElem? (i := 77) rfl))) (by decide) (t := .int) (t' := .int) (by decide) (by decide)))).other W136 (Or.inl d1)).other W139 (Or.inl d1)).other W142 (Or.inl d1)).other W145 (Or.inl d1))
  have f152 := (((((Pblocks0.other W133 (Or.inr (slot_ne (Or.inr (hw _ (List.mem_of_getElem? (i := 41) rfl))) (Or.inl (hw _ (List.mem_of_getElem? (i := 77) rfl))) (by decide) (t := (.array (.array .byte))) (t' := .int) (by decide) (by decide)))).other W136 (Or.inl d1)).other W139 (Or.inl d1)).other W142 (Or.inl d1)).other W145 (Or.inl d1))
  have f153 := ((((Fw133.other W136 (Or.inl d1)).other W139 (Or.inl d1)).other W142 (Or.inl d1)).other W145 (Or.inl d1))
  have f154 := (((((Pblock0.other W133 (Or.inr (slot_ne (Or.inl (hw _ (List.mem_of_getElem? (i := 98) rfl))) (Or.inl (hw _ (List.mem_of_getElem? (i := 77) rfl))) (by decide) (t := .int) (t' := .int) (by decide) (by decide)))).other W136 (Or.inl d1)).other W139 (Or.inl d1)).other W142 (Or.inl d1)).other W145 (Or.inl d1))
  have f155 := (((Fw136.other W139 (Or.inr (slot_ne (Or.inl (hw _ (List.mem_of_getElem? (i := 50) rfl))) (Or.inl (hw _ (List.mem_of_getElem? (i := 57) rfl))) (by decide) (t := .int) (t' := .int) (by decide) (by decide)))).other W142 (Or.inr (slot_ne (Or.inl (hw _ (List.mem_of_getElem? (i := 50) rfl))) (Or.inl (hw _ (List.mem_of_getElem? (i := 59) rfl))) (by decide) (t := .int) (t' := .int) (by decide) (by decide)))).other W145 (Or.inr (slot_ne (Or.inl (hw _ (List.mem_of_getElem? (i := 50) rfl))) (Or.inl (hw _ (List.mem_of_getElem? (i := 61) rfl))) (by decide) (t := .int) (t' := .int) (by decide) (by decide))))
  have f156 := ((Fw139.other W142 (Or.inr (slot_ne (Or.inl (hw _ (List.mem_of_getElem? (i := 57) rfl))) (Or.inl (hw _ (List.mem_of_getElem? (i := 59) rfl))) (by decide) (t := .int) (t' := .int) (by decide) (by decide)))).other W145 (Or.inr (slot_ne (Or.inl (hw _ (List.mem_of_getElem? (i := 57) rfl))) (Or.inl (hw _ (List.mem_of_getElem? (i := 61) rfl))) (by decide) (t := .int) (t' := .int) (by decide) (by decide))))
  have f157 := (Fw142.other W145 (Or.inr (slot_ne (Or.inl (hw _ (List.mem_of_getElem? (i := 59) rfl))) (Or.inl (hw _ (List.mem_of_getElem? (i := 61) rfl))) (by decide) (t := .int) (t' := .int) (by decide) (by decide))))
  have f158 := (((((Clength0.other W133 (Or.inl (Ne.symm d1))).other W136 (Or.inr (slot_ne (Or.inl (hw _ (List.mem_of_getElem? (i := 63) rfl))) (Or.inl (hw _ (List.mem_of_getElem? (i := 50) rfl))) (by decide) (t := .int) (t' := .int) (by decide) (by decide)))).other W139 (Or.inr (slot_ne (Or.inl (hw _ (List.mem_of_getElem? (i := 63) rfl))) (Or.inl (hw _ (List.mem_of_getElem? (i := 57) rfl))) (by decide) (t := .int) (t' := .int) (by decide) (by decide)))).other W142 (Or.inr (slot_ne (Or.inl (hw _ (List.mem_of_getElem? (i := 63) rfl))) (Or.inl (hw _ (List.mem_of_getElem? (i := 59) rfl))) (by decide) (t := .int) (t' := .int) (by decide) (by decide)))).other W145 (Or.inr (slot_ne (Or.inl (hw _ (List.mem_of_getElem? (i := 63) rfl))) (Or.inl (hw _ (List.mem_of_getElem? (i := 61) rfl))) (by decide) (t := .int) (t' := .int) (by decide) (by decide))))
  have f159 := (((((VP0.other W133 (Ne.symm d2)).other W136 (Ne.symm d4)).other W139 (Ne.symm d4)).other W142 (Ne.symm d4)).other W145 (Ne.symm d4))
  have f160 := (((((BB0.other W133 (Ne.symm d3)).other W136 (Ne.symm d5)).other W139 (Ne.symm d5)).other W142 (Ne.symm d5)).other W145 (Ne.symm d5))
  have f161 := (((((Vk.other W133 k1).other W136 k2).other W139 k2).other W142 k2).other W145 k2)
  exact ⟨rfl, N145h, K145.1, bk, _, ⟨f146, f147, f148, f149, f150, f151, f152, f153, f154, f155, f156, f157, Fw145, f158, ⟨_, f159⟩, f160⟩, f161, ⟨k1, k2, k3, k4⟩, hgk⟩
def Q12 (Z : State) (ab ac bP bB : Addr) (p2 p3 : Int32) (T0 : Nat) (TK tk2 en : Int32) (h0 : Heap) (n0 : Nat) (r : Option Value) (h : Heap) (L : List Loc) : Prop := r = none ∧ Fr n0 L ∧ h0.size ≤ h.size ∧ ∃ (bk : Addr) (g : Nat → Int32) (nn nx : Int32) (N1 N2 : Nat), (1 ≤ N1 ∧ N1 ≤ 5 ∧ own_isN p2.toInt64 N1) ∧ (1 ≤ N2 ∧ N2 ≤ 5 ∧ own_isN p3.toInt64 N2) ∧ nn.toInt = ((N1 + N2 : Nat) : Int) ∧ nx.toInt = ((T0 + (N1 + N2) : Nat) : Int) ∧ own_pb Z h ab ac bP bB (.ref bk) tk2 TK nx en 16 (0 + nn) ∧ Ari Z h bk .byte 32 g ∧ own_dk bk ab ac bP bB ∧ n0 ≤ bk
theorem d12_0 : decode prog_122_method_3_code 0 = .ok (.iload_n 3, 1) := by decide +kernel
theorem d12_1 : decode prog_122_method_3_code 1 = .ok (.i2l, 1) := by decide +kernel
theorem d12_2 : decode prog_122_method_3_code 2 = .ok (.aload_n 0, 1) := by decide +kernel
theorem d12_3 : decode prog_122_method_3_code 3 = .ok (.getfield 9, 3) := by decide +kernel
theorem d12_6 : decode prog_122_method_3_code 6 = .ok (.iload_n 2, 1) := by decide +kernel
theorem d12_7 : decode prog_122_method_3_code 7 = .ok (.i2l, 1) := by decide +kernel
theorem d12_8 : decode prog_122_method_3_code 8 = .ok (.aload_n 0, 1) := by decide +kernel
theorem d12_9 : decode prog_122_method_3_code 9 = .ok (.getfield 9, 3) := by decide +kernel
theorem d12_12 : decode prog_122_method_3_code 12 = .ok (.iconst 0, 1) := by decide +kernel
theorem d12_13 : decode prog_122_method_3_code 13 = .ok (.invokestatic 66, 3) := by decide +kernel
theorem d12_16 : decode prog_122_method_3_code 16 = .ok (.invokestatic 66, 3) := by decide +kernel
theorem d12_19 : decode prog_122_method_3_code 19 = .ok (.istore 4, 2) := by decide +kernel
theorem d12_21 : decode prog_122_method_3_code 21 = .ok (.iconst 0, 1) := by decide +kernel
theorem d12_22 : decode prog_122_method_3_code 22 = .ok (.istore 5, 2) := by decide +kernel
theorem d12_24 : decode prog_122_method_3_code 24 = .ok (.iload 5, 2) := by decide +kernel
theorem d12_26 : decode prog_122_method_3_code 26 = .ok (.iload 4, 2) := by decide +kernel
theorem d12_28 : decode prog_122_method_3_code 28 = .ok (.if_icmp .ge 68, 3) := by decide +kernel
theorem d12_31 : decode prog_122_method_3_code 31 = .ok (.aload_n 1, 1) := by decide +kernel
theorem d12_32 : decode prog_122_method_3_code 32 = .ok (.getfield 53, 3) := by decide +kernel
theorem d12_35 : decode prog_122_method_3_code 35 = .ok (.aload_n 1, 1) := by decide +kernel
theorem d12_36 : decode prog_122_method_3_code 36 = .ok (.getfield 48, 3) := by decide +kernel
theorem d12_39 : decode prog_122_method_3_code 39 = .ok (.if_icmp .ne 8, 3) := by decide +kernel
theorem d12_42 : decode prog_122_method_3_code 42 = .ok (.aload_n 0, 1) := by decide +kernel
theorem d12_43 : decode prog_122_method_3_code 43 = .ok (.aload_n 1, 1) := by decide +kernel
theorem d12_44 : decode prog_122_method_3_code 44 = .ok (.invokevirtual 72, 3) := by decide +kernel
theorem d12_47 : decode prog_122_method_3_code 47 = .ok (.aload_n 0, 1) := by decide +kernel
theorem d12_48 : decode prog_122_method_3_code 48 = .ok (.getfield 44, 3) := by decide +kernel
theorem d12_51 : decode prog_122_method_3_code 51 = .ok (.aload_n 1, 1) := by decide +kernel
theorem d12_52 : decode prog_122_method_3_code 52 = .ok (.getfield 53, 3) := by decide +kernel
theorem d12_55 : decode prog_122_method_3_code 55 = .ok (.aload_n 0, 1) := by decide +kernel
theorem d12_56 : decode prog_122_method_3_code 56 = .ok (.getfield 27, 3) := by decide +kernel
theorem d12_59 : decode prog_122_method_3_code 59 = .ok (.iushr, 1) := by decide +kernel
theorem d12_60 : decode prog_122_method_3_code 60 = .ok (.aaload, 1) := by decide +kernel
theorem d12_61 : decode prog_122_method_3_code 61 = .ok (.aload_n 1, 1) := by decide +kernel
theorem d12_62 : decode prog_122_method_3_code 62 = .ok (.getfield 53, 3) := by decide +kernel
theorem d12_65 : decode prog_122_method_3_code 65 = .ok (.aload_n 0, 1) := by decide +kernel
theorem d12_66 : decode prog_122_method_3_code 66 = .ok (.getfield 31, 3) := by decide +kernel
theorem d12_69 : decode prog_122_method_3_code 69 = .ok (.iconst 1, 1) := by decide +kernel
theorem d12_70 : decode prog_122_method_3_code 70 = .ok (.isub, 1) := by decide +kernel
theorem d12_71 : decode prog_122_method_3_code 71 = .ok (.iand, 1) := by decide +kernel
theorem d12_72 : decode prog_122_method_3_code 72 = .ok (.aload_n 0, 1) := by decide +kernel
theorem d12_73 : decode prog_122_method_3_code 73 = .ok (.getfield 9, 3) := by decide +kernel
theorem d12_76 : decode prog_122_method_3_code 76 = .ok (.iload 5, 2) := by decide +kernel
theorem d12_78 : decode prog_122_method_3_code 78 = .ok (.baload, 1) := by decide +kernel
theorem d12_79 : decode prog_122_method_3_code 79 = .ok (.bastore, 1) := by decide +kernel
theorem d12_80 : decode prog_122_method_3_code 80 = .ok (.aload_n 1, 1) := by decide +kernel
theorem d12_81 : decode prog_122_method_3_code 81 = .ok (.dup, 1) := by decide +kernel
theorem d12_82 : decode prog_122_method_3_code 82 = .ok (.getfield 53, 3) := by decide +kernel
theorem d12_85 : decode prog_122_method_3_code 85 = .ok (.iconst 1, 1) := by decide +kernel
theorem d12_86 : decode prog_122_method_3_code 86 = .ok (.iadd, 1) := by decide +kernel
theorem d12_87 : decode prog_122_method_3_code 87 = .ok (.putfield 53, 3) := by decide +kernel
theorem d12_90 : decode prog_122_method_3_code 90 = .ok (.iinc 5 1, 3) := by decide +kernel
theorem d12_93 : decode prog_122_method_3_code 93 = .ok (.goto (-69), 3) := by decide +kernel
theorem d12_96 : decode prog_122_method_3_code 96 = .ok (.aload_n 1, 1) := by decide +kernel
theorem d12_97 : decode prog_122_method_3_code 97 = .ok (.dup, 1) := by decide +kernel
theorem d12_98 : decode prog_122_method_3_code 98 = .ok (.getfield 76, 3) := by decide +kernel
theorem d12_101 : decode prog_122_method_3_code 101 = .ok (.iload 4, 2) := by decide +kernel
theorem d12_103 : decode prog_122_method_3_code 103 = .ok (.iadd, 1) := by decide +kernel
theorem d12_104 : decode prog_122_method_3_code 104 = .ok (.putfield 76, 3) := by decide +kernel
theorem d12_107 : decode prog_122_method_3_code 107 = .ok (.return_, 1) := by decide +kernel
theorem ef_rm12N (m : MethodId) (ab : Addr) (ac : Addr) (p2 : Int32) (p3 : Int32) : entryFrame m #[(.ref ab), (.ref ac), (.int p2), (.int p3)] 6 = mkF m 0 #[.val (.ref ab), .val (.ref ac), .val (.int p2), .val (.int p3), .unset, .unset] [] := by first | (simp [entryFrame, mkF, argsToLocals, Value.category]; done) | rfl
set_option maxRecDepth 65536 in
set_option maxHeartbeats 40000000 in
theorem rm12N (l : Launch) (Z : State) (a0 : Array Value) (hw : ∀ d ∈ tables_1, d.before a0 Z = true) (ws : List Jvm.Cond) (ab : Addr) (ac : Addr) (bP : Addr) (bB : Addr) (p2 : Int32) (p3 : Int32) (h0 : Heap) (n0 : Nat) (Z0 : n0 ≤ h0.size) (P : own_pb Z h0 ab ac bP bB .null (0 : Int32) (-1 : Int32) (0 : Int32) (0 : Int32) (0 : Int32) (0 : Int32)) (hds : own_ds ab ac bP bB) (hgs : own_gs n0 ab ac bP bB) (h2 : 0 ≤ p2.toInt) (h3 : 0 ≤ p3.toInt) :
    MetFree l (⟨"com/example/pivotwise/pivotwise/index/PostingBuffer", "add", "(Lcom/example/pivotwise/pivotwise/index/PostingBuffer$Chain;II)V"⟩ : MethodName) (head1 (Jvm.Cond.code (⟨"com/example/pivotwise/pivotwise/index/PostingBuffer", "add", "(Lcom/example/pivotwise/pivotwise/index/PostingBuffer$Chain;II)V"⟩ : MethodName) prog_122_method_3_code 6 none :: ws) ({ frames := 3, cells := 1, slots := 32, locals := 45 } : Room)) (fun a U => a = #[(.ref ab), (.ref ac), (.int p2), (.int p3)] ∧ Z.Warmed39 U.vm ∧ U.heap = h0) (fun _ _ _ _ _ => True) (fun _ U o U' => ∃ vr Lr, o = .returned vr ∧ Q12 Z ab ac bP bB p2 p3 0 0 16 12 h0 n0 vr U'.heap Lr ∧ FrameEnd U o U' Lr 1 32) := by
  refine MetFree.of_bodySF (plainFor_of_name own_pn2) hisR ?_
  intro p e s m args below meth c s₁ Bd hml0 hP hK
  obtain ⟨rfl, hZ, hh⟩ := hP
  have hx := Bd.exec
  have hby := Bd.bytes
  have hml : c.maxLocals = 6 := hml0
  have hown : s.vm.findClass "com/example/pivotwise/pivotwise/index/PostingBuffer" = some m.cls := findClass_of_methodNamed Bd.named
  have hnm := (name_of_methodNamed Bd.named Bd.method).1
  have hlk : meth.locks = false := Bd.notSynchronized
  have hrt := Bd.returns
  have X0 : Stand p l e ({ frames := 3, cells := 1, slots := 32, locals := 45 } : Room) s m #[(.ref ab), (.ref ac), (.int p2), (.int p3)] below meth c s₁ [] 0 0 := Stand.of_body Bd
  have e0 : s₁.heap = h0 := by rw [← hh, Bd.state]; rfl
  have N0 := Fr.nil n0
  show Done p e s below 1 32 (Q12 Z ab ac bP bB p2 p3 0 0 16 12 h0 n0) s₁ (entryFrame m #[(.ref ab), (.ref ac), (.int p2), (.int p3)] 6)
  rw [ef_rm12N]
  obtain ⟨d1, d2, d3, d4, d5, d6⟩ := hds
  obtain ⟨ga, gc, gP, gB⟩ := hgs
  obtain ⟨Ea0, Ec0, Pposting0, PblockBits0, PblockSize0, PmostSlice0, Pblocks0, Ptaken0, Pblock0, Cfirst0, Cnext0, Cend0, Cslice0, Clength0, ⟨fP0, VP0⟩, BB0⟩ := P
  show Done p e s below _ _ _ s₁ (mkF m 0 #[.val (.ref ab), .val (.ref ac), .val (.int p2), .val (.int p3), .unset, .unset] [])
  refine Done.go (fun _ kt_ => XS.iloadN X0.here hx rfl (hb hby d12_0) rfl kt_) ?_
  show Done p e s below _ _ _ s₁ (mkF m 1 #[.val (.ref ab), .val (.ref ac), .val (.int p2), .val (.int p3), .unset, .unset] [(.int p3)])
  refine Done.go (fun _ kt_ => XS.i2l X0.here hx rfl (hb hby d12_1) rfl kt_) ?_
  show Done p e s below _ _ _ s₁ (mkF m 2 #[.val (.ref ab), .val (.ref ac), .val (.int p2), .val (.int p3), .unset, .unset] [(.long (p3.toInt64))])
  refine Done.go (fun _ kt_ => XS.aloadN X0.here hx rfl (hb hby d12_2) rfl rfl kt_) ?_
  show Done p e s below _ _ _ s₁ (mkF m 3 #[.val (.ref ab), .val (.ref ac), .val (.int p2), .val (.int p3), .unset, .unset] [(.ref ab), (.long (p3.toInt64))])
  obtain ⟨T162, X162, e162, st162⟩ := getF X0 hx hZ hown (host := "") (Or.inl (hw _ (List.mem_of_getElem? (i := 12) rfl))) Via.refl e0 Pposting0 (g := (mkF m 3 #[.val (.ref ab), .val (.ref ac), .val (.int p2), .val (.int p3), .unset, .unset] [(.ref ab), (.long (p3.toInt64))])) rfl rfl (hb hby d12_3)
  refine Done.go st162 ?_
  clear st162
  show Done p e s below _ _ _ T162 (mkF m 6 #[.val (.ref ab), .val (.ref ac), .val (.int p2), .val (.int p3), .unset, .unset] [(.ref bP), (.long (p3.toInt64))])
  refine Done.go (fun _ kt_ => XS.iloadN X162.here hx rfl (hb hby d12_6) rfl kt_) ?_
  show Done p e s below _ _ _ T162 (mkF m 7 #[.val (.ref ab), .val (.ref ac), .val (.int p2), .val (.int p3), .unset, .unset] [(.int p2), (.ref bP), (.long (p3.toInt64))])
  refine Done.go (fun _ kt_ => XS.i2l X162.here hx rfl (hb hby d12_7) rfl kt_) ?_
  show Done p e s below _ _ _ T162 (mkF m 8 #[.val (.ref ab), .val (.ref ac), .val (.int p2), .val (.int p3), .unset, .unset] [(.long (p2.toInt64)), (.ref bP), (.long (p3.toInt64))])
  refine Done.go (fun _ kt_ => XS.aloadN X162.here hx rfl (hb hby d12_8) rfl rfl kt_) ?_
  show Done p e s below _ _ _ T162 (mkF m 9 #[.val (.ref ab), .val (.ref ac), .val (.int p2), .val (.int p3), .unset, .unset] [(.ref ab), (.long (p2.toInt64)), (.ref bP), (.long (p3.toInt64))])
  obtain ⟨T163, X163, e163, st163⟩ := getF X162 hx hZ hown (host := "") (Or.inl (hw _ (List.mem_of_getElem? (i := 12) rfl))) Via.refl e162 Pposting0 (g := (mkF m 9 #[.val (.ref ab), .val (.ref ac), .val (.int p2), .val (.int p3), .unset, .unset] [(.ref ab), (.long (p2.toInt64)), (.ref bP), (.long (p3.toInt64))])) rfl rfl (hb hby d12_9)
  refine Done.go st163 ?_
  clear st163 X162 e162
  show Done p e s below _ _ _ T163 (mkF m 12 #[.val (.ref ab), .val (.ref ac), .val (.int p2), .val (.int p3), .unset, .unset] [(.ref bP), (.long (p2.toInt64)), (.ref bP), (.long (p3.toInt64))])
  refine Done.go (fun _ kt_ => XS.iconst X163.here hx rfl (hb hby d12_12) kt_) ?_
  show Done p e s below _ _ _ T163 (mkF m 13 #[.val (.ref ab), .val (.ref ac), .val (.int p2), .val (.int p3), .unset, .unset] [(.int (0 : Int32)), (.ref bP), (.long (p2.toInt64)), (.ref bP), (.long (p3.toInt64))])
  obtain ⟨v164, T164, Lc164, X164, hQ164, st164⟩ := own_backG (Jvm.LawKit.callS X163 hx (y := (⟨"com/example/pivotwise/pivotwise/index/ByteEncoder", "encode", "(J[BI)I"⟩ : MethodName)) hown (mvT hZ (hw _ (List.mem_of_getElem? (i := 88) rfl))) (mvT hZ (hw _ (List.mem_of_getElem? (i := 89) rfl))) (mvT hZ (hw _ (List.mem_of_getElem? (i := 90) rfl))) (mvT hZ (hw _ (List.mem_of_getElem? (i := 91) rfl))) (by decide) (backOf (W := 3) (rmE l Z a0 hw [] (p2.toInt64) bP (0 : Int32) 10 fP0 0 5 h0 n0 Z0 VP0 gP rfl (by rw [own_wide]; exact h2) (own_b5 p2) (by decide) (by decide) (by decide)) hZ (hw _ (List.mem_of_getElem? (i := 91) rfl)) (hw _ (List.mem_of_getElem? (i := 90) rfl)) (by decide) (by decide)) (g := (mkF m 13 #[.val (.ref ab), .val (.ref ac), .val (.int p2), .val (.int p3), .unset, .unset] [(.int (0 : Int32)), (.ref bP), (.long (p2.toInt64)), (.ref bP), (.long (p3.toInt64))])) rfl (by rw [hml]; rfl) (argsL := [(.long (p2.toInt64)), (.ref bP), (.int (0 : Int32))]) (rest := [(.ref bP), (.long (p3.toInt64))]) (lenOf own_pd5 rfl) rfl (by show 2 * 0 + _ ≤ _; exact Nat.le_of_eq rfl) (hb hby d12_13) (fun _ _ => ⟨rfl, e163, (by first | decide | omega : 0 + 0 ≤ _), (by first | decide | omega : 0 + 0 ≤ _)⟩))
  obtain ⟨z1, N1, rfl, hz1, hN1, hN1b, hf1, N164q, K164k, VE1⟩ := hQ164
  refine Done.go st164 ?_
  clear st164
  have N164 := Fr.app N0 N164q
  clear N164q
  have Z164 : n0 ≤ T164.heap.size := Nat.le_trans Z0 K164k.1
  have KK164 : Keep h0 T164.heap [ab, ac, bP, bB] := (Keep.refl h0 [ab, ac, bP, bB]).trans K164k (allS (Or.inl (List.mem_of_getElem? (i := 2) rfl)) all0)
  obtain ⟨Lh164, X164h, N164h⟩ : ∃ L, Stand p l e ({ frames := 3, cells := 1, slots := 32, locals := 45 } : Room) s m #[(.ref ab), (.ref ac), (.int p2), (.int p3)] below meth c T164 L 0 0 ∧ Fr n0 L := ⟨_, X164, N164⟩
  clear X164 N164 X163 e163
  rw [Nat.zero_add] at hz1
  show Done p e s below _ _ _ T164 (mkF m 16 #[.val (.ref ab), .val (.ref ac), .val (.int p2), .val (.int p3), .unset, .unset] [(.int z1), (.ref bP), (.long (p3.toInt64))])
  obtain ⟨v165, T165, Lc165, X165, hQ165, st165⟩ := own_backG (Jvm.LawKit.callS X164h hx (y := (⟨"com/example/pivotwise/pivotwise/index/ByteEncoder", "encode", "(J[BI)I"⟩ : MethodName)) hown (mvT hZ (hw _ (List.mem_of_getElem? (i := 88) rfl))) (mvT hZ (hw _ (List.mem_of_getElem? (i := 89) rfl))) (mvT hZ (hw _ (List.mem_of_getElem? (i := 90) rfl))) (mvT hZ (hw _ (List.mem_of_getElem? (i := 91) rfl))) (by decide) (backOf (W := 0) (rmE l Z a0 hw [] (p3.toInt64) bP z1 10 _ N1 5 T164.heap n0 Z164 VE1 gP hz1 (by rw [own_wide]; exact h3) (own_b5 p3) (by omega) (by decide) (by decide)) hZ (hw _ (List.mem_of_getElem? (i := 91) rfl)) (hw _ (List.mem_of_getElem? (i := 90) rfl)) (by decide) (by decide)) (g := (mkF m 16 #[.val (.ref ab), .val (.ref ac), .val (.int p2), .val (.int p3), .unset, .unset] [(.int z1), (.ref bP), (.long (p3.toInt64))])) rfl (by rw [hml]; rfl) (argsL := [(.long (p3.toInt64)), (.ref bP), (.int z1)]) (rest := []) (lenOf own_pd5 rfl) rfl (by show 2 * 0 + _ ≤ _; exact Nat.le_of_eq rfl) (hb hby d12_16) (fun _ _ => ⟨rfl, rfl, (by first | decide | omega : 0 + 0 ≤ _), (by first | decide | omega : 0 + 0 ≤ _)⟩))
  obtain ⟨nn, N2, rfl, hnn, hN2, hN2b, hf2, N165q, K165k, VE2⟩ := hQ165
  refine Done.go st165 ?_
  clear st165
  have N165 := Fr.app N164h N165q
  clear N165q
  have Z165 : n0 ≤ T165.heap.size := Nat.le_trans Z164 K165k.1
  have KK165 : Keep h0 T165.heap [ab, ac, bP, bB] := KK164.trans K165k (allS (Or.inl (List.mem_of_getElem? (i := 2) rfl)) all0)
  obtain ⟨Lh165, X165h, N165h⟩ : ∃ L, Stand p l e ({ frames := 3, cells := 1, slots := 32, locals := 45 } : Room) s m #[(.ref ab), (.ref ac), (.int p2), (.int p3)] below meth c T165 L 0 0 ∧ Fr n0 L := ⟨_, X165, N165⟩
  clear X165 N165 X164h N164h Z164 KK164
  show Done p e s below _ _ _ T165 (mkF m 19 #[.val (.ref ab), .val (.ref ac), .val (.int p2), .val (.int p3), .unset, .unset] [(.int nn)])
  refine Done.go (fun _ kt_ => XS.istore X165h.here hx rfl (hb hby d12_19) rfl (l' := #[.val (.ref ab), .val (.ref ac), .val (.int p2), .val (.int p3), .val (.int nn), .unset]) rfl kt_) ?_
  show Done p e s below _ _ _ T165 (mkF m 21 #[.val (.ref ab), .val (.ref ac), .val (.int p2), .val (.int p3), .val (.int nn), .unset] [])
  refine Done.go (fun _ kt_ => XS.iconst X165h.here hx rfl (hb hby d12_21) kt_) ?_
  show Done p e s below _ _ _ T165 (mkF m 22 #[.val (.ref ab), .val (.ref ac), .val (.int p2), .val (.int p3), .val (.int nn), .unset] [(.int (0 : Int32))])
  refine Done.go (fun _ kt_ => XS.istore X165h.here hx rfl (hb hby d12_22) rfl (l' := #[.val (.ref ab), .val (.ref ac), .val (.int p2), .val (.int p3), .val (.int nn), .val (.int (0 : Int32))]) rfl kt_) ?_
  show Done p e s below _ _ _ T165 (mkF m 24 #[.val (.ref ab), .val (.ref ac), .val (.int p2), .val (.int p3), .val (.int nn), .val (.int (0 : Int32))] [])
  refine Done.go (fun _ kt_ => XS.iload X165h.here hx rfl (hb hby d12_24) rfl kt_) ?_
  show Done p e s below _ _ _ T165 (mkF m 26 #[.val (.ref ab), .val (.ref ac), .val (.int p2), .val (.int p3), .val (.int nn), .val (.int (0 : Int32))] [(.int (0 : Int32))])
  refine Done.go (fun _ kt_ => XS.iload X165h.here hx rfl (hb hby d12_26) rfl kt_) ?_
  show Done p e s below _ _ _ T165 (mkF m 28 #[.val (.ref ab), .val (.ref ac), .val (.int p2), .val (.int p3), .val (.int nn), .val (.int (0 : Int32))] [(.int nn), (.int (0 : Int32))])
  refine Done.go (fun _ kt_ => XS.icmpNo X165h.here hx rfl (hb hby d12_28) rfl (tlt ((own_ltI (by decide : (0 : Int32).toInt = ((0 : Nat) : Int)) hnn).mpr (by omega))).2.1 kt_) ?_
  show Done p e s below _ _ _ T165 (mkF m 31 #[.val (.ref ab), .val (.ref ac), .val (.int p2), .val (.int p3), .val (.int nn), .val (.int (0 : Int32))] [])
  refine Done.go (fun _ kt_ => XS.aloadN X165h.here hx rfl (hb hby d12_31) rfl rfl kt_) ?_
  show Done p e s below _ _ _ T165 (mkF m 32 #[.val (.ref ab), .val (.ref ac), .val (.int p2), .val (.int p3), .val (.int nn), .val (.int (0 : Int32))] [(.ref ac)])
  have f166 := ((Cnext0.keep K164k (ninS d4 nin0)).keep K165k (ninS d4 nin0))
  refine Done.go (own_getFR X165h hx hZ hown (hw _ (List.mem_of_getElem? (i := 75) rfl)) rfl f166 (g := (mkF m 32 #[.val (.ref ab), .val (.ref ac), .val (.int p2), .val (.int p3), .val (.int nn), .val (.int (0 : Int32))] [(.ref ac)])) rfl rfl (hb hby d12_32)) ?_
  show Done p e s below _ _ _ T165 (mkF m 35 #[.val (.ref ab), .val (.ref ac), .val (.int p2), .val (.int p3), .val (.int nn), .val (.int (0 : Int32))] [(.int (0 : Int32))])
  refine Done.go (fun _ kt_ => XS.aloadN X165h.here hx rfl (hb hby d12_35) rfl rfl kt_) ?_
  show Done p e s below _ _ _ T165 (mkF m 36 #[.val (.ref ab), .val (.ref ac), .val (.int p2), .val (.int p3), .val (.int nn), .val (.int (0 : Int32))] [(.ref ac), (.int (0 : Int32))])
  have f167 := ((Cend0.keep K164k (ninS d4 nin0)).keep K165k (ninS d4 nin0))
  refine Done.go (own_getFR X165h hx hZ hown (hw _ (List.mem_of_getElem? (i := 74) rfl)) rfl f167 (g := (mkF m 36 #[.val (.ref ab), .val (.ref ac), .val (.int p2), .val (.int p3), .val (.int nn), .val (.int (0 : Int32))] [(.ref ac), (.int (0 : Int32))])) rfl rfl (hb hby d12_36)) ?_
  show Done p e s below _ _ _ T165 (mkF m 39 #[.val (.ref ab), .val (.ref ac), .val (.int p2), .val (.int p3), .val (.int nn), .val (.int (0 : Int32))] [(.int (0 : Int32)), (.int (0 : Int32))])
  refine Done.go (fun _ kt_ => XS.icmpNo X165h.here hx rfl (hb hby d12_39) rfl (teq rfl).2 kt_) ?_
  show Done p e s below _ _ _ T165 (mkF m 42 #[.val (.ref ab), .val (.ref ac), .val (.int p2), .val (.int p3), .val (.int nn), .val (.int (0 : Int32))] [])
  refine Done.go (fun _ kt_ => XS.aloadN X165h.here hx rfl (hb hby d12_42) rfl rfl kt_) ?_
  show Done p e s below _ _ _ T165 (mkF m 43 #[.val (.ref ab), .val (.ref ac), .val (.int p2), .val (.int p3), .val (.int nn), .val (.int (0 : Int32))] [(.ref ab)])
  refine Done.go (fun _ kt_ => XS.aloadN X165h.here hx rfl (hb hby d12_43) rfl rfl kt_) ?_
  show Done p e s below _ _ _ T165 (mkF m 44 #[.val (.ref ab), .val (.ref ac), .val (.int p2), .val (.int p3), .val (.int nn), .val (.int (0 : Int32))] [(.ref ac), (.ref ab)])
  have f168 := ((Ea0.keep K164k).keep K165k)
  have f169 := ((Ec0.keep K164k).keep K165k)
  have f170 := ((Pposting0.keep K164k (ninS d2 nin0)).keep K165k (ninS d2 nin0))
  have f171 := ((PblockBits0.keep K164k (ninS d2 nin0)).keep K165k (ninS d2 nin0))
  have f172 := ((PblockSize0.keep K164k (ninS d2 nin0)).keep K165k (ninS d2 nin0))
  have f173 := ((PmostSlice0.keep K164k (ninS d2 nin0)).keep K165k (ninS d2 nin0))
  have f174 := ((Pblocks0.keep K164k (ninS d2 nin0)).keep K165k (ninS d2 nin0))
  have f175 := ((Ptaken0.keep K164k (ninS d2 nin0)).keep K165k (ninS d2 nin0))
  have f176 := ((Pblock0.keep K164k (ninS d2 nin0)).keep K165k (ninS d2 nin0))
  have f177 := ((Cfirst0.keep K164k (ninS d4 nin0)).keep K165k (ninS d4 nin0))
  have f178 := ((Cslice0.keep K164k (ninS d4 nin0)).keep K165k (ninS d4 nin0))
  have f179 := ((Clength0.keep K164k (ninS d4 nin0)).keep K165k (ninS d4 nin0))
  have f180 := ((BB0.keep K164k (ninS (Ne.symm d6) nin0)).keep K165k (ninS (Ne.symm d6) nin0))
  obtain ⟨cq181, q181, q181'⟩ := f168.cell
  obtain ⟨v181, T181, Lc181, X181, hQ181, st181⟩ := own_backV (X165h.privateBack hx (y := (⟨"com/example/pivotwise/pivotwise/index/PostingBuffer", "extend", "(Lcom/example/pivotwise/pivotwise/index/PostingBuffer$Chain;)V"⟩ : MethodName)) hown (mvT hZ (hw _ (List.mem_of_getElem? (i := 93) rfl))) (mvT hZ (hw _ (List.mem_of_getElem? (i := 94) rfl))) (mvT hZ (own_selPriv (n := 7) (by decide) (hw _ (List.mem_of_getElem? (i := 2) rfl)) (hw _ (List.mem_of_getElem? (i := 95) rfl)) (hw _ (List.mem_of_getElem? (i := 94) rfl)))) (Cond.privateMethod_at (mvP hZ (hw _ (List.mem_of_getElem? (i := 95) rfl)) (args := #[]))) (mvT hZ (hw _ (List.mem_of_getElem? (i := 96) rfl))) (by decide) (backOf (W := 0) (rm14N l Z a0 hw [] ab ac bP bB (0 : Int32) (0 : Int32) (0 : Int32) (0 : Int32) T165.heap n0 Z165 ⟨f168, f169, f170, f171, f172, f173, f174, f175, f176, f177, f166, f167, f178, f179, ⟨_, VE2⟩, f180⟩ ⟨d1, d2, d3, d4, d5, d6⟩ ⟨ga, gc, gP, gB⟩) hZ (hw _ (List.mem_of_getElem? (i := 96) rfl)) (hw _ (List.mem_of_getElem? (i := 3) rfl)) (by decide) (by decide)) (g := (mkF m 44 #[.val (.ref ab), .val (.ref ac), .val (.int p2), .val (.int p3), .val (.int nn), .val (.int (0 : Int32))] [(.ref ac), (.ref ab)])) rfl (by rw [hml]; rfl) (Steps.refl _) (a := ab) q181 q181' (argsL := [(.ref ac)]) (rest := []) (lenOf own_pd6 rfl) rfl (by show 2 * 0 + _ ≤ _; exact Nat.le_of_eq rfl) (hb hby d12_44) (fun _ _ => ⟨rfl, rfl, (by first | decide | omega : 0 + 1 ≤ _), (by first | decide | omega : 0 + 32 ≤ _)⟩))
  obtain ⟨rfl, N181q, hs181, bk, g181, P181, Vk181, hdk181, hgk181⟩ := hQ181
  refine Done.go st181 ?_
  clear st181
  have N181 := Fr.app N165h N181q
  clear N181q
  have HS : h0.size ≤ T181.heap.size := Nat.le_trans KK165.1 hs181
  have Z181 : n0 ≤ T181.heap.size := Nat.le_trans Z165 hs181
  obtain ⟨Lh181, X181h, N181h⟩ : ∃ L, Stand p l e ({ frames := 3, cells := 1, slots := 32, locals := 45 } : Room) s m #[(.ref ab), (.ref ac), (.int p2), (.int p3)] below meth c T181 L 1 32 ∧ Fr n0 L := ⟨_, X181, N181⟩
  clear X181 N181 X165h N165h Z165 KK165
  obtain ⟨k1_, k2_, k3_, k4_⟩ := hdk181
  obtain ⟨Ea9, Ec9, Pposting9, PblockBits9, PblockSize9, PmostSlice9, Pblocks9, Ptaken9, Pblock9, Cfirst9, Cnext9, Cend9, Cslice9, Clength9, ⟨fP9, VP9⟩, BB9⟩ := P181
  have loop : ∀ (d i : Nat) (T1 : State) (h1 : Heap) (L1 : List Loc) (pj nx : Int32) (g : Nat → Int32), d + i = N1 + N2 → 1 ≤ i → pj.toInt = (i : Int) → nx.toInt = ((0 + i : Nat) : Int) → Stand p l e ({ frames := 3, cells := 1, slots := 32, locals := 45 } : Room) s m #[(.ref ab), (.ref ac), (.int p2), (.int p3)] below meth c T1 L1 1 32 → T1.heap = h1 → Fr n0 L1 → n0 ≤ h1.size → h0.size ≤ h1.size → own_pb Z h1 ab ac bP bB (.ref bk) 16 0 nx 12 16 0 → Ari Z h1 bk .byte 32 g → Done p e s below 1 32 (Q12 Z ab ac bP bB p2 p3 0 0 16 12 h0 n0) T1 (mkF m 24 #[.val (.ref ab), .val (.ref ac), .val (.int p2), .val (.int p3), .val (.int nn), .val (.int pj)] []) := by
    intro d
    induction d with
    | zero =>
      intro i T1 h1 L1 pj nx g hd hi hpj hnx X1 e1 N1f z1f s1f P1 V1
      obtain ⟨Ea7, Ec7, Pposting7, PblockBits7, PblockSize7, PmostSlice7, Pblocks7, Ptaken7, Pblock7, Cfirst7, Cnext7, Cend7, Cslice7, Clength7, ⟨fP7, VP7⟩, BB7⟩ := P1
      show Done p e s below _ _ _ T1 (mkF m 24 #[.val (.ref ab), .val (.ref ac), .val (.int p2), .val (.int p3), .val (.int nn), .val (.int pj)] [])
      refine Done.go (fun _ kt_ => XS.iload X1.here hx rfl (hb hby d12_24) rfl kt_) ?_
      show Done p e s below _ _ _ T1 (mkF m 26 #[.val (.ref ab), .val (.ref ac), .val (.int p2), .val (.int p3), .val (.int nn), .val (.int pj)] [(.int pj)])
      refine Done.go (fun _ kt_ => XS.iload X1.here hx rfl (hb hby d12_26) rfl kt_) ?_
      show Done p e s below _ _ _ T1 (mkF m 28 #[.val (.ref ab), .val (.ref ac), .val (.int p2), .val (.int p3), .val (.int nn), .val (.int pj)] [(.int nn), (.int pj)])
      refine Done.go (fun _ kt_ => XS.icmpYes X1.here hx rfl (pc0 := 28) (pc' := 96) rfl (hb hby d12_28) rfl (flt (fun q => absurd ((own_ltI hpj hnn).mp q) (by omega))).2.1 (by decide) (by decide) kt_) ?_
      show Done p e s below _ _ _ T1 (mkF m 96 #[.val (.ref ab), .val (.ref ac), .val (.int p2), .val (.int p3), .val (.int nn), .val (.int pj)] [])
      refine Done.go (fun _ kt_ => XS.aloadN X1.here hx rfl (hb hby d12_96) rfl rfl kt_) ?_
      show Done p e s below _ _ _ T1 (mkF m 97 #[.val (.ref ab), .val (.ref ac), .val (.int p2), .val (.int p3), .val (.int nn), .val (.int pj)] [(.ref ac)])
      refine Done.go (fun _ kt_ => XS.dup X1.here hx rfl (hb hby d12_97) rfl rfl kt_) ?_
      show Done p e s below _ _ _ T1 (mkF m 98 #[.val (.ref ab), .val (.ref ac), .val (.int p2), .val (.int p3), .val (.int nn), .val (.int pj)] [(.ref ac), (.ref ac)])
      refine Done.go (own_getFR X1 hx hZ hown (hw _ (List.mem_of_getElem? (i := 101) rfl)) e1 Clength7 (g := (mkF m 98 #[.val (.ref ab), .val (.ref ac), .val (.int p2), .val (.int p3), .val (.int nn), .val (.int pj)] [(.ref ac), (.ref ac)])) rfl rfl (hb hby d12_98)) ?_
      show Done p e s below _ _ _ T1 (mkF m 101 #[.val (.ref ab), .val (.ref ac), .val (.int p2), .val (.int p3), .val (.int nn), .val (.int pj)] [(.int (0 : Int32)), (.ref ac)])
      refine Done.go (fun _ kt_ => XS.iload X1.here hx rfl (hb hby d12_101) rfl kt_) ?_
      show Done p e s below _ _ _ T1 (mkF m 103 #[.val (.ref ab), .val (.ref ac), .val (.int p2), .val (.int p3), .val (.int nn), .val (.int pj)] [(.int nn), (.int (0 : Int32)), (.ref ac)])
      refine Done.go (fun _ kt_ => XS.iadd X1.here hx rfl (hb hby d12_103) rfl kt_) ?_
      show Done p e s below _ _ _ T1 (mkF m 104 #[.val (.ref ab), .val (.ref ac), .val (.int p2), .val (.int p3), .val (.int nn), .val (.int pj)] [(.int ((0 : Int32) + nn)), (.ref ac)])
      obtain ⟨T182, h182, X182, e182, W182, st182⟩ := own_putFR X1 hx hZ hown (hw _ (List.mem_of_getElem? (i := 101) rfl)) e1 Clength7 Ec7 (hw _ (List.mem_of_getElem? (i := 63) rfl)) (hw _ (List.mem_of_getElem? (i := 43) rfl)) (ty := .int) (by decide) rfl rfl (g := (mkF m 104 #[.val (.ref ab), .val (.ref ac), .val (.int p2), .val (.int p3), .val (.int nn), .val (.int pj)] [(.int ((0 : Int32) + nn)), (.ref ac)])) rfl rfl (hb hby d12_104)
      have Fw182 : Fld Z h182 ac "com/example/pivotwise/pivotwise/index/PostingBuffer$Chain" "length" "I" (.int ((0 : Int32) + nn)) := Clength7.same W182
      have N182 := Fr.snoc X182 N1f gc
      have Z182 : n0 ≤ h182.size := by rw [W182.size]; exact z1f
      obtain ⟨Lh182, X182h, N182h⟩ : ∃ L, Stand p l e ({ frames := 3, cells := 1, slots := 32, locals := 45 } : Room) s m #[(.ref ab), (.ref ac), (.int p2), (.int p3)] below meth c T182 L 1 32 ∧ Fr n0 L := ⟨_, X182, N182⟩
      clear X182 N182 X1 e1
      refine Done.go st182 ?_
      clear st182
      have s9 : h0.size ≤ h182.size := by rw [W182.size]; exact s1f
      show Done p e s below _ _ _ T182 (mkF m 107 #[.val (.ref ab), .val (.ref ac), .val (.int p2), .val (.int p3), .val (.int nn), .val (.int pj)] [])
      refine Done.retV X182h hx hlk hrt (hb hby d12_107) ?_ (by first | decide | omega) (by first | decide | omega)
      rw [e182]
      have hii : i = N1 + N2 := by omega
      subst hii
      have f183 := (Ea7.wr W182)
      have f184 := (Ec7.wr W182)
      have f185 := (Pposting7.other W182 (Or.inl d1))
      have f186 := (PblockBits7.other W182 (Or.inl d1))
      have f187 := (PblockSize7.other W182 (Or.inl d1))
      have f188 := (PmostSlice7.other W182 (Or.inl d1))
      have f189 := (Pblocks7.other W182 (Or.inl d1))
      have f190 := (Ptaken7.other W182 (Or.inl d1))
      have f191 := (Pblock7.other W182 (Or.inl d1))
      have f192 := (Cfirst7.other W182 (Or.inr (slot_ne (Or.inl (hw _ (List.mem_of_getElem? (i := 50) rfl))) (Or.inl (hw _ (List.mem_of_getElem? (i := 63) rfl))) (by decide) (t := .int) (t' := .int) (by decide) (by decide))))
      have f193 := (Cnext7.other W182 (Or.inr (slot_ne (Or.inl (hw _ (List.mem_of_getElem? (i := 57) rfl))) (Or.inl (hw _ (List.mem_of_getElem? (i := 63) rfl))) (by decide) (t := .int) (t' := .int) (by decide) (by decide))))
      have f194 := (Cend7.other W182 (Or.inr (slot_ne (Or.inl (hw _ (List.mem_of_getElem? (i := 59) rfl))) (Or.inl (hw _ (List.mem_of_getElem? (i := 63) rfl))) (by decide) (t := .int) (t' := .int) (by decide) (by decide))))
      have f195 := (Cslice7.other W182 (Or.inr (slot_ne (Or.inl (hw _ (List.mem_of_getElem? (i := 61) rfl))) (Or.inl (hw _ (List.mem_of_getElem? (i := 63) rfl))) (by decide) (t := .int) (t' := .int) (by decide) (by decide))))
      have f196 := (VP7.other W182 (Ne.symm d4))
      have f197 := (BB7.other W182 (Ne.symm d5))
      have f198 := (V1.other W182 k2_)
      exact ⟨rfl, N182h, s9, bk, _, nn, nx, N1, N2, ⟨hN1, hN1b, hf1⟩, ⟨hN2, hN2b, hf2⟩, hnn, hnx, ⟨f183, f184, f185, f186, f187, f188, f189, f190, f191, f192, f193, f194, f195, Fw182, ⟨_, f196⟩, f197⟩, f198, ⟨k1_, k2_, k3_, k4_⟩, hgk181⟩
    | succ d ih =>
      intro i T1 h1 L1 pj nx g hd hi hpj hnx X1 e1 N1f z1f s1f P1 V1
      obtain ⟨Ea7, Ec7, Pposting7, PblockBits7, PblockSize7, PmostSlice7, Pblocks7, Ptaken7, Pblock7, Cfirst7, Cnext7, Cend7, Cslice7, Clength7, ⟨fP7, VP7⟩, BB7⟩ := P1
      show Done p e s below _ _ _ T1 (mkF m 24 #[.val (.ref ab), .val (.ref ac), .val (.int p2), .val (.int p3), .val (.int nn), .val (.int pj)] [])
      refine Done.go (fun _ kt_ => XS.iload X1.here hx rfl (hb hby d12_24) rfl kt_) ?_
      show Done p e s below _ _ _ T1 (mkF m 26 #[.val (.ref ab), .val (.ref ac), .val (.int p2), .val (.int p3), .val (.int nn), .val (.int pj)] [(.int pj)])
      refine Done.go (fun _ kt_ => XS.iload X1.here hx rfl (hb hby d12_26) rfl kt_) ?_
      show Done p e s below _ _ _ T1 (mkF m 28 #[.val (.ref ab), .val (.ref ac), .val (.int p2), .val (.int p3), .val (.int nn), .val (.int pj)] [(.int nn), (.int pj)])
      refine Done.go (fun _ kt_ => XS.icmpNo X1.here hx rfl (hb hby d12_28) rfl (tlt ((own_ltI hpj hnn).mpr (by omega))).2.1 kt_) ?_
      show Done p e s below _ _ _ T1 (mkF m 31 #[.val (.ref ab), .val (.ref ac), .val (.int p2), .val (.int p3), .val (.int nn), .val (.int pj)] [])
      refine Done.go (fun _ kt_ => XS.aloadN X1.here hx rfl (hb hby d12_31) rfl rfl kt_) ?_
      show Done p e s below _ _ _ T1 (mkF m 32 #[.val (.ref ab), .val (.ref ac), .val (.int p2), .val (.int p3), .val (.int nn), .val (.int pj)] [(.ref ac)])
      refine Done.go (own_getFR X1 hx hZ hown (hw _ (List.mem_of_getElem? (i := 75) rfl)) e1 Cnext7 (g := (mkF m 32 #[.val (.ref ab), .val (.ref ac), .val (.int p2), .val (.int p3), .val (.int nn), .val (.int pj)] [(.ref ac)])) rfl rfl (hb hby d12_32)) ?_
      show Done p e s below _ _ _ T1 (mkF m 35 #[.val (.ref ab), .val (.ref ac), .val (.int p2), .val (.int p3), .val (.int nn), .val (.int pj)] [(.int nx)])
      refine Done.go (fun _ kt_ => XS.aloadN X1.here hx rfl (hb hby d12_35) rfl rfl kt_) ?_
      show Done p e s below _ _ _ T1 (mkF m 36 #[.val (.ref ab), .val (.ref ac), .val (.int p2), .val (.int p3), .val (.int nn), .val (.int pj)] [(.ref ac), (.int nx)])
      refine Done.go (own_getFR X1 hx hZ hown (hw _ (List.mem_of_getElem? (i := 74) rfl)) e1 Cend7 (g := (mkF m 36 #[.val (.ref ab), .val (.ref ac), .val (.int p2), .val (.int p3), .val (.int nn), .val (.int pj)] [(.ref ac), (.int nx)])) rfl rfl (hb hby d12_36)) ?_
      show Done p e s below _ _ _ T1 (mkF m 39 #[.val (.ref ab), .val (.ref ac), .val (.int p2), .val (.int p3), .val (.int nn), .val (.int pj)] [(.int (12 : Int32)), (.int nx)])
      refine Done.go (fun _ kt_ => XS.icmpYes X1.here hx rfl (pc0 := 39) (pc' := 47) rfl (hb hby d12_39) rfl (feq (own_neL hnx (by decide : (12 : Int32).toInt = ((12 : Nat) : Int)) (by omega))).2 (by decide) (by decide) kt_) ?_
      show Done p e s below _ _ _ T1 (mkF m 47 #[.val (.ref ab), .val (.ref ac), .val (.int p2), .val (.int p3), .val (.int nn), .val (.int pj)] [])
      refine Done.go (fun _ kt_ => XS.aloadN X1.here hx rfl (hb hby d12_47) rfl rfl kt_) ?_
      show Done p e s below _ _ _ T1 (mkF m 48 #[.val (.ref ab), .val (.ref ac), .val (.int p2), .val (.int p3), .val (.int nn), .val (.int pj)] [(.ref ab)])
      obtain ⟨T199, X199, e199, st199⟩ := getF X1 hx hZ hown (host := "") (Or.inl (hw _ (List.mem_of_getElem? (i := 40) rfl))) Via.refl e1 Pblocks7 (g := (mkF m 48 #[.val (.ref ab), .val (.ref ac), .val (.int p2), .val (.int p3), .val (.int nn), .val (.int pj)] [(.ref ab)])) rfl rfl (hb hby d12_48)
      refine Done.go st199 ?_
      clear st199 X1 e1
      show Done p e s below _ _ _ T199 (mkF m 51 #[.val (.ref ab), .val (.ref ac), .val (.int p2), .val (.int p3), .val (.int nn), .val (.int pj)] [(.ref bB)])
      refine Done.go (fun _ kt_ => XS.aloadN X199.here hx rfl (hb hby d12_51) rfl rfl kt_) ?_
      show Done p e s below _ _ _ T199 (mkF m 52 #[.val (.ref ab), .val (.ref ac), .val (.int p2), .val (.int p3), .val (.int nn), .val (.int pj)] [(.ref ac), (.ref bB)])
      refine Done.go (own_getFR X199 hx hZ hown (hw _ (List.mem_of_getElem? (i := 75) rfl)) e199 Cnext7 (g := (mkF m 52 #[.val (.ref ab), .val (.ref ac), .val (.int p2), .val (.int p3), .val (.int nn), .val (.int pj)] [(.ref ac), (.ref bB)])) rfl rfl (hb hby d12_52)) ?_
      show Done p e s below _ _ _ T199 (mkF m 55 #[.val (.ref ab), .val (.ref ac), .val (.int p2), .val (.int p3), .val (.int nn), .val (.int pj)] [(.int nx), (.ref bB)])
      refine Done.go (fun _ kt_ => XS.aloadN X199.here hx rfl (hb hby d12_55) rfl rfl kt_) ?_
      show Done p e s below _ _ _ T199 (mkF m 56 #[.val (.ref ab), .val (.ref ac), .val (.int p2), .val (.int p3), .val (.int nn), .val (.int pj)] [(.ref ab), (.int nx), (.ref bB)])
      obtain ⟨T200, X200, e200, st200⟩ := getF X199 hx hZ hown (host := "") (Or.inl (hw _ (List.mem_of_getElem? (i := 28) rfl))) Via.refl e199 PblockBits7 (g := (mkF m 56 #[.val (.ref ab), .val (.ref ac), .val (.int p2), .val (.int p3), .val (.int nn), .val (.int pj)] [(.ref ab), (.int nx), (.ref bB)])) rfl rfl (hb hby d12_56)
      refine Done.go st200 ?_
      clear st200 X199 e199
      show Done p e s below _ _ _ T200 (mkF m 59 #[.val (.ref ab), .val (.ref ac), .val (.int p2), .val (.int p3), .val (.int nn), .val (.int pj)] [(.int (5 : Int32)), (.int nx), (.ref bB)])
      refine Done.go (fun _ kt_ => XS.iushr X200.here hx rfl (hb hby d12_59) rfl kt_) ?_
      show Done p e s below _ _ _ T200 (mkF m 60 #[.val (.ref ab), .val (.ref ac), .val (.int p2), .val (.int p3), .val (.int nn), .val (.int pj)] [(.int ((nx.toUInt32 >>> ((5 : Int32) &&& 31).toUInt32).toInt32)), (.ref bB)])
      refine Done.ldBlk X200 hx hZ e200 BB7 (j := ((nx.toUInt32 >>> ((5 : Int32) &&& 31).toUInt32).toInt32)) (own_sh5 hnx (by omega)) (hb hby d12_60) ?_
      show Done p e s below _ _ _ T200 (mkF m 61 #[.val (.ref ab), .val (.ref ac), .val (.int p2), .val (.int p3), .val (.int nn), .val (.int pj)] [(.ref bk)])
      refine Done.go (fun _ kt_ => XS.aloadN X200.here hx rfl (hb hby d12_61) rfl rfl kt_) ?_
      show Done p e s below _ _ _ T200 (mkF m 62 #[.val (.ref ab), .val (.ref ac), .val (.int p2), .val (.int p3), .val (.int nn), .val (.int pj)] [(.ref ac), (.ref bk)])
      refine Done.go (own_getFR X200 hx hZ hown (hw _ (List.mem_of_getElem? (i := 75) rfl)) e200 Cnext7 (g := (mkF m 62 #[.val (.ref ab), .val (.ref ac), .val (.int p2), .val (.int p3), .val (.int nn), .val (.int pj)] [(.ref ac), (.ref bk)])) rfl rfl (hb hby d12_62)) ?_
      show Done p e s below _ _ _ T200 (mkF m 65 #[.val (.ref ab), .val (.ref ac), .val (.int p2), .val (.int p3), .val (.int nn), .val (.int pj)] [(.int nx), (.ref bk)])
      refine Done.go (fun _ kt_ => XS.aloadN X200.here hx rfl (hb hby d12_65) rfl rfl kt_) ?_
      show Done p e s below _ _ _ T200 (mkF m 66 #[.val (.ref ab), .val (.ref ac), .val (.int p2), .val (.int p3), .val (.int nn), .val (.int pj)] [(.ref ab), (.int nx), (.ref bk)])
      obtain ⟨T201, X201, e201, st201⟩ := getF X200 hx hZ hown (host := "") (Or.inl (hw _ (List.mem_of_getElem? (i := 30) rfl))) Via.refl e200 PblockSize7 (g := (mkF m 66 #[.val (.ref ab), .val (.ref ac), .val (.int p2), .val (.int p3), .val (.int nn), .val (.int pj)] [(.ref ab), (.int nx), (.ref bk)])) rfl rfl (hb hby d12_66)
      refine Done.go st201 ?_
      clear st201 X200 e200
      show Done p e s below _ _ _ T201 (mkF m 69 #[.val (.ref ab), .val (.ref ac), .val (.int p2), .val (.int p3), .val (.int nn), .val (.int pj)] [(.int (32 : Int32)), (.int nx), (.ref bk)])
      refine Done.go (fun _ kt_ => XS.iconst X201.here hx rfl (hb hby d12_69) kt_) ?_
      show Done p e s below _ _ _ T201 (mkF m 70 #[.val (.ref ab), .val (.ref ac), .val (.int p2), .val (.int p3), .val (.int nn), .val (.int pj)] [(.int (1 : Int32)), (.int (32 : Int32)), (.int nx), (.ref bk)])
      refine Done.go (fun _ kt_ => XS.isub X201.here hx rfl (hb hby d12_70) rfl kt_) ?_
      show Done p e s below _ _ _ T201 (mkF m 71 #[.val (.ref ab), .val (.ref ac), .val (.int p2), .val (.int p3), .val (.int nn), .val (.int pj)] [(.int ((32 : Int32) - (1 : Int32))), (.int nx), (.ref bk)])
      rw [show ((32 : Int32) - (1 : Int32)) = (31 : Int32) from by decide]
      show Done p e s below _ _ _ T201 (mkF m 71 #[.val (.ref ab), .val (.ref ac), .val (.int p2), .val (.int p3), .val (.int nn), .val (.int pj)] [(.int (31 : Int32)), (.int nx), (.ref bk)])
      refine Done.go (fun _ kt_ => XS.iand X201.here hx rfl (hb hby d12_71) rfl kt_) ?_
      show Done p e s below _ _ _ T201 (mkF m 72 #[.val (.ref ab), .val (.ref ac), .val (.int p2), .val (.int p3), .val (.int nn), .val (.int pj)] [(.int (nx &&& (31 : Int32))), (.ref bk)])
      refine Done.go (fun _ kt_ => XS.aloadN X201.here hx rfl (hb hby d12_72) rfl rfl kt_) ?_
      show Done p e s below _ _ _ T201 (mkF m 73 #[.val (.ref ab), .val (.ref ac), .val (.int p2), .val (.int p3), .val (.int nn), .val (.int pj)] [(.ref ab), (.int (nx &&& (31 : Int32))), (.ref bk)])
      obtain ⟨T202, X202, e202, st202⟩ := getF X201 hx hZ hown (host := "") (Or.inl (hw _ (List.mem_of_getElem? (i := 12) rfl))) Via.refl e201 Pposting7 (g := (mkF m 73 #[.val (.ref ab), .val (.ref ac), .val (.int p2), .val (.int p3), .val (.int nn), .val (.int pj)] [(.ref ab), (.int (nx &&& (31 : Int32))), (.ref bk)])) rfl rfl (hb hby d12_73)
      refine Done.go st202 ?_
      clear st202 X201 e201
      show Done p e s below _ _ _ T202 (mkF m 76 #[.val (.ref ab), .val (.ref ac), .val (.int p2), .val (.int p3), .val (.int nn), .val (.int pj)] [(.ref bP), (.int (nx &&& (31 : Int32))), (.ref bk)])
      refine Done.go (fun _ kt_ => XS.iload X202.here hx rfl (hb hby d12_76) rfl kt_) ?_
      show Done p e s below _ _ _ T202 (mkF m 78 #[.val (.ref ab), .val (.ref ac), .val (.int p2), .val (.int p3), .val (.int nn), .val (.int pj)] [(.int pj), (.ref bP), (.int (nx &&& (31 : Int32))), (.ref bk)])
      refine Done.ldB X202 hx hZ e202 VP7 (j := pj) (w := (fP7 i)) i (own_ix hpj).1 (own_ix hpj).2 (by omega) rfl (hb hby d12_78) ?_
      show Done p e s below _ _ _ T202 (mkF m 79 #[.val (.ref ab), .val (.ref ac), .val (.int p2), .val (.int p3), .val (.int nn), .val (.int pj)] [(.int (fP7 i)), (.int (nx &&& (31 : Int32))), (.ref bk)])
      obtain ⟨T203, h203, X203, e203, W203, V203, st203⟩ := own_stB X202 hx hZ e202 V1 (j := (nx &&& (31 : Int32))) (0 + i) (own_m31 hnx (by omega)).1 (own_m31 hnx (by omega)).2 (by omega) (g := (mkF m 79 #[.val (.ref ab), .val (.ref ac), .val (.int p2), .val (.int p3), .val (.int nn), .val (.int pj)] [(.int (fP7 i)), (.int (nx &&& (31 : Int32))), (.ref bk)])) rfl rfl (hb hby d12_79)
      have N203 := Fr.snoc X203 N1f hgk181
      have Z203 : n0 ≤ h203.size := by rw [W203.size]; exact z1f
      obtain ⟨Lh203, X203h, N203h⟩ : ∃ L, Stand p l e ({ frames := 3, cells := 1, slots := 32, locals := 45 } : Room) s m #[(.ref ab), (.ref ac), (.int p2), (.int p3)] below meth c T203 L 1 32 ∧ Fr n0 L := ⟨_, X203, N203⟩
      clear X203 N203 X202 e202
      refine Done.go st203 ?_
      clear st203
      show Done p e s below _ _ _ T203 (mkF m 80 #[.val (.ref ab), .val (.ref ac), .val (.int p2), .val (.int p3), .val (.int nn), .val (.int pj)] [])
      refine Done.go (fun _ kt_ => XS.aloadN X203h.here hx rfl (hb hby d12_80) rfl rfl kt_) ?_
      show Done p e s below _ _ _ T203 (mkF m 81 #[.val (.ref ab), .val (.ref ac), .val (.int p2), .val (.int p3), .val (.int nn), .val (.int pj)] [(.ref ac)])
      refine Done.go (fun _ kt_ => XS.dup X203h.here hx rfl (hb hby d12_81) rfl rfl kt_) ?_
      show Done p e s below _ _ _ T203 (mkF m 82 #[.val (.ref ab), .val (.ref ac), .val (.int p2), .val (.int p3), .val (.int nn), .val (.int pj)] [(.ref ac), (.ref ac)])
      have f204 := (Cnext7.other W203 (Or.inl (Ne.symm k2_)))
      refine Done.go (own_getFR X203h hx hZ hown (hw _ (List.mem_of_getElem? (i := 75) rfl)) e203 f204 (g := (mkF m 82 #[.val (.ref ab), .val (.ref ac), .val (.int p2), .val (.int p3), .val (.int nn), .val (.int pj)] [(.ref ac), (.ref ac)])) rfl rfl (hb hby d12_82)) ?_
      show Done p e s below _ _ _ T203 (mkF m 85 #[.val (.ref ab), .val (.ref ac), .val (.int p2), .val (.int p3), .val (.int nn), .val (.int pj)] [(.int nx), (.ref ac)])
      refine Done.go (fun _ kt_ => XS.iconst X203h.here hx rfl (hb hby d12_85) kt_) ?_
      show Done p e s below _ _ _ T203 (mkF m 86 #[.val (.ref ab), .val (.ref ac), .val (.int p2), .val (.int p3), .val (.int nn), .val (.int pj)] [(.int (1 : Int32)), (.int nx), (.ref ac)])
      refine Done.go (fun _ kt_ => XS.iadd X203h.here hx rfl (hb hby d12_86) rfl kt_) ?_
      show Done p e s below _ _ _ T203 (mkF m 87 #[.val (.ref ab), .val (.ref ac), .val (.int p2), .val (.int p3), .val (.int nn), .val (.int pj)] [(.int (nx + (1 : Int32))), (.ref ac)])
      have f205 := (Ec7.wr W203)
      obtain ⟨T206, h206, X206, e206, W206, st206⟩ := own_putFR X203h hx hZ hown (hw _ (List.mem_of_getElem? (i := 75) rfl)) e203 f204 f205 (hw _ (List.mem_of_getElem? (i := 57) rfl)) (hw _ (List.mem_of_getElem? (i := 43) rfl)) (ty := .int) (by decide) rfl rfl (g := (mkF m 87 #[.val (.ref ab), .val (.ref ac), .val (.int p2), .val (.int p3), .val (.int nn), .val (.int pj)] [(.int (nx + (1 : Int32))), (.ref ac)])) rfl rfl (hb hby d12_87)
      have Fw206 : Fld Z h206 ac "com/example/pivotwise/pivotwise/index/PostingBuffer$Chain" "next" "I" (.int (nx + (1 : Int32))) := f204.same W206
      have N206 := Fr.snoc X206 N203h gc
      have Z206 : n0 ≤ h206.size := by rw [W206.size]; exact Z203
      obtain ⟨Lh206, X206h, N206h⟩ : ∃ L, Stand p l e ({ frames := 3, cells := 1, slots := 32, locals := 45 } : Room) s m #[(.ref ab), (.ref ac), (.int p2), (.int p3)] below meth c T206 L 1 32 ∧ Fr n0 L := ⟨_, X206, N206⟩
      clear X206 N206 X203h e203 N203h Z203
      refine Done.go st206 ?_
      clear st206
      show Done p e s below _ _ _ T206 (mkF m 90 #[.val (.ref ab), .val (.ref ac), .val (.int p2), .val (.int p3), .val (.int nn), .val (.int pj)] [])
      refine Done.go (fun _ kt_ => XS.iinc X206h.here hx rfl (hb hby d12_90) rfl (l' := #[.val (.ref ab), .val (.ref ac), .val (.int p2), .val (.int p3), .val (.int nn), .val (.int (pj + (1 : Int32)))]) rfl kt_) ?_
      show Done p e s below _ _ _ T206 (mkF m 93 #[.val (.ref ab), .val (.ref ac), .val (.int p2), .val (.int p3), .val (.int nn), .val (.int (pj + (1 : Int32)))] [])
      refine Done.go (fun _ kt_ => XS.goto X206h.here hx rfl (pc0 := 93) (pc' := 24) rfl (hb hby d12_93) (by decide) (by decide) kt_) ?_
      show Done p e s below _ _ _ T206 (mkF m 24 #[.val (.ref ab), .val (.ref ac), .val (.int p2), .val (.int p3), .val (.int nn), .val (.int (pj + (1 : Int32)))] [])
      have f207 := ((Ea7.wr W203).wr W206)
      have f208 := (f205.wr W206)
      have f209 := ((Pposting7.other W203 (Or.inl (Ne.symm k1_))).other W206 (Or.inl d1))
      have f210 := ((PblockBits7.other W203 (Or.inl (Ne.symm k1_))).other W206 (Or.inl d1))
      have f211 := ((PblockSize7.other W203 (Or.inl (Ne.symm k1_))).other W206 (Or.inl d1))
      have f212 := ((PmostSlice7.other W203 (Or.inl (Ne.symm k1_))).other W206 (Or.inl d1))
      have f213 := ((Pblocks7.other W203 (Or.inl (Ne.symm k1_))).other W206 (Or.inl d1))
      have f214 := ((Ptaken7.other W203 (Or.inl (Ne.symm k1_))).other W206 (Or.inl d1))
      have f215 := ((Pblock7.other W203 (Or.inl (Ne.symm k1_))).other W206 (Or.inl d1))
      have f216 := ((Cfirst7.other W203 (Or.inl (Ne.symm k2_))).other W206 (Or.inr (slot_ne (Or.inl (hw _ (List.mem_of_getElem? (i := 50) rfl))) (Or.inl (hw _ (List.mem_of_getElem? (i := 57) rfl))) (by decide) (t := .int) (t' := .int) (by decide) (by decide))))
      have f217 := ((Cend7.other W203 (Or.inl (Ne.symm k2_))).other W206 (Or.inr (slot_ne (Or.inl (hw _ (List.mem_of_getElem? (i := 59) rfl))) (Or.inl (hw _ (List.mem_of_getElem? (i := 57) rfl))) (by decide) (t := .int) (t' := .int) (by decide) (by decide))))
      have f218 := ((Cslice7.other W203 (Or.inl (Ne.symm k2_))).other W206 (Or.inr (slot_ne (Or.inl (hw _ (List.mem_of_getElem? (i := 61) rfl))) (Or.inl (hw _ (List.mem_of_getElem? (i := 57) rfl))) (by decide) (t := .int) (t' := .int) (by decide) (by decide))))
      have f219 := ((Clength7.other W203 (Or.inl (Ne.symm k2_))).other W206 (Or.inr (slot_ne (Or.inl (hw _ (List.mem_of_getElem? (i := 63) rfl))) (Or.inl (hw _ (List.mem_of_getElem? (i := 57) rfl))) (by decide) (t := .int) (t' := .int) (by decide) (by decide))))
      have f220 := ((VP7.other W203 (Ne.symm k3_)).other W206 (Ne.symm d4))
      have f221 := ((BB7.other W203 (Ne.symm k4_)).other W206 (Ne.symm d5))
      have f222 := (V203.other W206 k2_)
      refine ih (i + 1) _ _ _ _ _ _ (by omega) (by omega) (own_inc (i := i) hpj (by omega)) (own_inc (i := 0 + i) hnx (by omega)) X206h e206 N206h Z206 ?_ ⟨f207, f208, f209, f210, f211, f212, f213, f214, f215, f216, Fw206, f217, f218, f219, ⟨_, f220⟩, f221⟩ f222
      rw [W206.size, W203.size]; exact s1f
  show Done p e s below _ _ _ T181 (mkF m 47 #[.val (.ref ab), .val (.ref ac), .val (.int p2), .val (.int p3), .val (.int nn), .val (.int (0 : Int32))] [])
  refine Done.go (fun _ kt_ => XS.aloadN X181h.here hx rfl (hb hby d12_47) rfl rfl kt_) ?_
  show Done p e s below _ _ _ T181 (mkF m 48 #[.val (.ref ab), .val (.ref ac), .val (.int p2), .val (.int p3), .val (.int nn), .val (.int (0 : Int32))] [(.ref ab)])
  obtain ⟨T223, X223, e223, st223⟩ := getF X181h hx hZ hown (host := "") (Or.inl (hw _ (List.mem_of_getElem? (i := 40) rfl))) Via.refl rfl Pblocks9 (g := (mkF m 48 #[.val (.ref ab), .val (.ref ac), .val (.int p2), .val (.int p3), .val (.int nn), .val (.int (0 : Int32))] [(.ref ab)])) rfl rfl (hb hby d12_48)
  refine Done.go st223 ?_
  clear st223 X181h
  show Done p e s below _ _ _ T223 (mkF m 51 #[.val (.ref ab), .val (.ref ac), .val (.int p2), .val (.int p3), .val (.int nn), .val (.int (0 : Int32))] [(.ref bB)])
  refine Done.go (fun _ kt_ => XS.aloadN X223.here hx rfl (hb hby d12_51) rfl rfl kt_) ?_
  show Done p e s below _ _ _ T223 (mkF m 52 #[.val (.ref ab), .val (.ref ac), .val (.int p2), .val (.int p3), .val (.int nn), .val (.int (0 : Int32))] [(.ref ac), (.ref bB)])
  refine Done.go (own_getFR X223 hx hZ hown (hw _ (List.mem_of_getElem? (i := 75) rfl)) e223 Cnext9 (g := (mkF m 52 #[.val (.ref ab), .val (.ref ac), .val (.int p2), .val (.int p3), .val (.int nn), .val (.int (0 : Int32))] [(.ref ac), (.ref bB)])) rfl rfl (hb hby d12_52)) ?_
  show Done p e s below _ _ _ T223 (mkF m 55 #[.val (.ref ab), .val (.ref ac), .val (.int p2), .val (.int p3), .val (.int nn), .val (.int (0 : Int32))] [(.int (0 : Int32)), (.ref bB)])
  refine Done.go (fun _ kt_ => XS.aloadN X223.here hx rfl (hb hby d12_55) rfl rfl kt_) ?_
  show Done p e s below _ _ _ T223 (mkF m 56 #[.val (.ref ab), .val (.ref ac), .val (.int p2), .val (.int p3), .val (.int nn), .val (.int (0 : Int32))] [(.ref ab), (.int (0 : Int32)), (.ref bB)])
  obtain ⟨T224, X224, e224, st224⟩ := getF X223 hx hZ hown (host := "") (Or.inl (hw _ (List.mem_of_getElem? (i := 28) rfl))) Via.refl e223 PblockBits9 (g := (mkF m 56 #[.val (.ref ab), .val (.ref ac), .val (.int p2), .val (.int p3), .val (.int nn), .val (.int (0 : Int32))] [(.ref ab), (.int (0 : Int32)), (.ref bB)])) rfl rfl (hb hby d12_56)
  refine Done.go st224 ?_
  clear st224 X223 e223
  show Done p e s below _ _ _ T224 (mkF m 59 #[.val (.ref ab), .val (.ref ac), .val (.int p2), .val (.int p3), .val (.int nn), .val (.int (0 : Int32))] [(.int (5 : Int32)), (.int (0 : Int32)), (.ref bB)])
  refine Done.go (fun _ kt_ => XS.iushr X224.here hx rfl (hb hby d12_59) rfl kt_) ?_
  show Done p e s below _ _ _ T224 (mkF m 60 #[.val (.ref ab), .val (.ref ac), .val (.int p2), .val (.int p3), .val (.int nn), .val (.int (0 : Int32))] [(.int (((0 : Int32).toUInt32 >>> ((5 : Int32) &&& 31).toUInt32).toInt32)), (.ref bB)])
  rw [show (((0 : Int32).toUInt32 >>> ((5 : Int32) &&& 31).toUInt32).toInt32) = (0 : Int32) from by decide]
  show Done p e s below _ _ _ T224 (mkF m 60 #[.val (.ref ab), .val (.ref ac), .val (.int p2), .val (.int p3), .val (.int nn), .val (.int (0 : Int32))] [(.int (0 : Int32)), (.ref bB)])
  refine Done.ldBlk X224 hx hZ e224 BB9 (j := (0 : Int32)) rfl (hb hby d12_60) ?_
  show Done p e s below _ _ _ T224 (mkF m 61 #[.val (.ref ab), .val (.ref ac), .val (.int p2), .val (.int p3), .val (.int nn), .val (.int (0 : Int32))] [(.ref bk)])
  refine Done.go (fun _ kt_ => XS.aloadN X224.here hx rfl (hb hby d12_61) rfl rfl kt_) ?_
  show Done p e s below _ _ _ T224 (mkF m 62 #[.val (.ref ab), .val (.ref ac), .val (.int p2), .val (.int p3), .val (.int nn), .val (.int (0 : Int32))] [(.ref ac), (.ref bk)])
  refine Done.go (own_getFR X224 hx hZ hown (hw _ (List.mem_of_getElem? (i := 75) rfl)) e224 Cnext9 (g := (mkF m 62 #[.val (.ref ab), .val (.ref ac), .val (.int p2), .val (.int p3), .val (.int nn), .val (.int (0 : Int32))] [(.ref ac), (.ref bk)])) rfl rfl (hb hby d12_62)) ?_
  show Done p e s below _ _ _ T224 (mkF m 65 #[.val (.ref ab), .val (.ref ac), .val (.int p2), .val (.int p3), .val (.int nn), .val (.int (0 : Int32))] [(.int (0 : Int32)), (.ref bk)])
  refine Done.go (fun _ kt_ => XS.aloadN X224.here hx rfl (hb hby d12_65) rfl rfl kt_) ?_
  show Done p e s below _ _ _ T224 (mkF m 66 #[.val (.ref ab), .val (.ref ac), .val (.int p2), .val (.int p3), .val (.int nn), .val (.int (0 : Int32))] [(.ref ab), (.int (0 : Int32)), (.ref bk)])
  obtain ⟨T225, X225, e225, st225⟩ := getF X224 hx hZ hown (host := "") (Or.inl (hw _ (List.mem_of_getElem? (i := 30) rfl))) Via.refl e224 PblockSize9 (g := (mkF m 66 #[.val (.ref ab), .val (.ref ac), .val (.int p2), .val (.int p3), .val (.int nn), .val (.int (0 : Int32))] [(.ref ab), (.int (0 : Int32)), (.ref bk)])) rfl rfl (hb hby d12_66)
  refine Done.go st225 ?_
  clear st225 X224 e224
  show Done p e s below _ _ _ T225 (mkF m 69 #[.val (.ref ab), .val (.ref ac), .val (.int p2), .val (.int p3), .val (.int nn), .val (.int (0 : Int32))] [(.int (32 : Int32)), (.int (0 : Int32)), (.ref bk)])
  refine Done.go (fun _ kt_ => XS.iconst X225.here hx rfl (hb hby d12_69) kt_) ?_
  show Done p e s below _ _ _ T225 (mkF m 70 #[.val (.ref ab), .val (.ref ac), .val (.int p2), .val (.int p3), .val (.int nn), .val (.int (0 : Int32))] [(.int (1 : Int32)), (.int (32 : Int32)), (.int (0 : Int32)), (.ref bk)])
  refine Done.go (fun _ kt_ => XS.isub X225.here hx rfl (hb hby d12_70) rfl kt_) ?_
  show Done p e s below _ _ _ T225 (mkF m 71 #[.val (.ref ab), .val (.ref ac), .val (.int p2), .val (.int p3), .val (.int nn), .val (.int (0 : Int32))] [(.int ((32 : Int32) - (1 : Int32))), (.int (0 : Int32)), (.ref bk)])
  rw [show ((32 : Int32) - (1 : Int32)) = (31 : Int32) from by decide]
  show Done p e s below _ _ _ T225 (mkF m 71 #[.val (.ref ab), .val (.ref ac), .val (.int p2), .val (.int p3), .val (.int nn), .val (.int (0 : Int32))] [(.int (31 : Int32)), (.int (0 : Int32)), (.ref bk)])
  refine Done.go (fun _ kt_ => XS.iand X225.here hx rfl (hb hby d12_71) rfl kt_) ?_
  show Done p e s below _ _ _ T225 (mkF m 72 #[.val (.ref ab), .val (.ref ac), .val (.int p2), .val (.int p3), .val (.int nn), .val (.int (0 : Int32))] [(.int ((0 : Int32) &&& (31 : Int32))), (.ref bk)])
  rw [show ((0 : Int32) &&& (31 : Int32)) = (0 : Int32) from by decide]
  show Done p e s below _ _ _ T225 (mkF m 72 #[.val (.ref ab), .val (.ref ac), .val (.int p2), .val (.int p3), .val (.int nn), .val (.int (0 : Int32))] [(.int (0 : Int32)), (.ref bk)])
  refine Done.go (fun _ kt_ => XS.aloadN X225.here hx rfl (hb hby d12_72) rfl rfl kt_) ?_
  show Done p e s below _ _ _ T225 (mkF m 73 #[.val (.ref ab), .val (.ref ac), .val (.int p2), .val (.int p3), .val (.int nn), .val (.int (0 : Int32))] [(.ref ab), (.int (0 : Int32)), (.ref bk)])
  obtain ⟨T226, X226, e226, st226⟩ := getF X225 hx hZ hown (host := "") (Or.inl (hw _ (List.mem_of_getElem? (i := 12) rfl))) Via.refl e225 Pposting9 (g := (mkF m 73 #[.val (.ref ab), .val (.ref ac), .val (.int p2), .val (.int p3), .val (.int nn), .val (.int (0 : Int32))] [(.ref ab), (.int (0 : Int32)), (.ref bk)])) rfl rfl (hb hby d12_73)
  refine Done.go st226 ?_
  clear st226 X225 e225
  show Done p e s below _ _ _ T226 (mkF m 76 #[.val (.ref ab), .val (.ref ac), .val (.int p2), .val (.int p3), .val (.int nn), .val (.int (0 : Int32))] [(.ref bP), (.int (0 : Int32)), (.ref bk)])
  refine Done.go (fun _ kt_ => XS.iload X226.here hx rfl (hb hby d12_76) rfl kt_) ?_
  show Done p e s below _ _ _ T226 (mkF m 78 #[.val (.ref ab), .val (.ref ac), .val (.int p2), .val (.int p3), .val (.int nn), .val (.int (0 : Int32))] [(.int (0 : Int32)), (.ref bP), (.int (0 : Int32)), (.ref bk)])
  refine Done.ldB X226 hx hZ e226 VP9 (j := (0 : Int32)) (w := (fP9 0)) 0 (by decide) rfl (by decide) rfl (hb hby d12_78) ?_
  show Done p e s below _ _ _ T226 (mkF m 79 #[.val (.ref ab), .val (.ref ac), .val (.int p2), .val (.int p3), .val (.int nn), .val (.int (0 : Int32))] [(.int (fP9 0)), (.int (0 : Int32)), (.ref bk)])
  obtain ⟨T227, h227, X227, e227, W227, V227, st227⟩ := own_stB X226 hx hZ e226 Vk181 (j := (0 : Int32)) 0 (by decide) rfl (by decide) (g := (mkF m 79 #[.val (.ref ab), .val (.ref ac), .val (.int p2), .val (.int p3), .val (.int nn), .val (.int (0 : Int32))] [(.int (fP9 0)), (.int (0 : Int32)), (.ref bk)])) rfl rfl (hb hby d12_79)
  have N227 := Fr.snoc X227 N181h hgk181
  have Z227 : n0 ≤ h227.size := by rw [W227.size]; exact Z181
  obtain ⟨Lh227, X227h, N227h⟩ : ∃ L, Stand p l e ({ frames := 3, cells := 1, slots := 32, locals := 45 } : Room) s m #[(.ref ab), (.ref ac), (.int p2), (.int p3)] below meth c T227 L 1 32 ∧ Fr n0 L := ⟨_, X227, N227⟩
  clear X227 N227 X226 e226 N181h Z181
  refine Done.go st227 ?_
  clear st227
  show Done p e s below _ _ _ T227 (mkF m 80 #[.val (.ref ab), .val (.ref ac), .val (.int p2), .val (.int p3), .val (.int nn), .val (.int (0 : Int32))] [])
  refine Done.go (fun _ kt_ => XS.aloadN X227h.here hx rfl (hb hby d12_80) rfl rfl kt_) ?_
  show Done p e s below _ _ _ T227 (mkF m 81 #[.val (.ref ab), .val (.ref ac), .val (.int p2), .val (.int p3), .val (.int nn), .val (.int (0 : Int32))] [(.ref ac)])
  refine Done.go (fun _ kt_ => XS.dup X227h.here hx rfl (hb hby d12_81) rfl rfl kt_) ?_
  show Done p e s below _ _ _ T227 (mkF m 82 #[.val (.ref ab), .val (.ref ac), .val (.int p2), .val (.int p3), .val (.int nn), .val (.int (0 : Int32))] [(.ref ac), (.ref ac)])
  have f228 := (Cnext9.other W227 (Or.inl (Ne.symm k2_)))
  refine Done.go (own_getFR X227h hx hZ hown (hw _ (List.mem_of_getElem? (i := 75) rfl)) e227 f228 (g := (mkF m 82 #[.val (.ref ab), .val (.ref ac), .val (.int p2), .val (.int p3), .val (.int nn), .val (.int (0 : Int32))] [(.ref ac), (.ref ac)])) rfl rfl (hb hby d12_82)) ?_
  show Done p e s below _ _ _ T227 (mkF m 85 #[.val (.ref ab), .val (.ref ac), .val (.int p2), .val (.int p3), .val (.int nn), .val (.int (0 : Int32))] [(.int (0 : Int32)), (.ref ac)])
  refine Done.go (fun _ kt_ => XS.iconst X227h.here hx rfl (hb hby d12_85) kt_) ?_
  show Done p e s below _ _ _ T227 (mkF m 86 #[.val (.ref ab), .val (.ref ac), .val (.int p2), .val (.int p3), .val (.int nn), .val (.int (0 : Int32))] [(.int (1 : Int32)), (.int (0 : Int32)), (.ref ac)])
  refine Done.go (fun _ kt_ => XS.iadd X227h.here hx rfl (hb hby d12_86) rfl kt_) ?_
  show Done p e s below _ _ _ T227 (mkF m 87 #[.val (.ref ab), .val (.ref ac), .val (.int p2), .val (.int p3), .val (.int nn), .val (.int (0 : Int32))] [(.int ((0 : Int32) + (1 : Int32))), (.ref ac)])
  rw [show ((0 : Int32) + (1 : Int32)) = (1 : Int32) from by decide]
  show Done p e s below _ _ _ T227 (mkF m 87 #[.val (.ref ab), .val (.ref ac), .val (.int p2), .val (.int p3), .val (.int nn), .val (.int (0 : Int32))] [(.int (1 : Int32)), (.ref ac)])
  have f229 := (Ec9.wr W227)
  obtain ⟨T230, h230, X230, e230, W230, st230⟩ := own_putFR X227h hx hZ hown (hw _ (List.mem_of_getElem? (i := 75) rfl)) e227 f228 f229 (hw _ (List.mem_of_getElem? (i := 57) rfl)) (hw _ (List.mem_of_getElem? (i := 43) rfl)) (ty := .int) (by decide) rfl rfl (g := (mkF m 87 #[.val (.ref ab), .val (.ref ac), .val (.int p2), .val (.int p3), .val (.int nn), .val (.int (0 : Int32))] [(.int (1 : Int32)), (.ref ac)])) rfl rfl (hb hby d12_87)
  have Fw230 : Fld Z h230 ac "com/example/pivotwise/pivotwise/index/PostingBuffer$Chain" "next" "I" (.int (1 : Int32)) := f228.same W230
  have N230 := Fr.snoc X230 N227h gc
  have Z230 : n0 ≤ h230.size := by rw [W230.size]; exact Z227
  obtain ⟨Lh230, X230h, N230h⟩ : ∃ L, Stand p l e ({ frames := 3, cells := 1, slots := 32, locals := 45 } : Room) s m #[(.ref ab), (.ref ac), (.int p2), (.int p3)] below meth c T230 L 1 32 ∧ Fr n0 L := ⟨_, X230, N230⟩
  clear X230 N230 X227h e227 N227h Z227
  refine Done.go st230 ?_
  clear st230
  show Done p e s below _ _ _ T230 (mkF m 90 #[.val (.ref ab), .val (.ref ac), .val (.int p2), .val (.int p3), .val (.int nn), .val (.int (0 : Int32))] [])
  refine Done.go (fun _ kt_ => XS.iinc X230h.here hx rfl (hb hby d12_90) rfl (l' := #[.val (.ref ab), .val (.ref ac), .val (.int p2), .val (.int p3), .val (.int nn), .val (.int ((0 : Int32) + (1 : Int32)))]) rfl kt_) ?_
  show Done p e s below _ _ _ T230 (mkF m 93 #[.val (.ref ab), .val (.ref ac), .val (.int p2), .val (.int p3), .val (.int nn), .val (.int ((0 : Int32) + (1 : Int32)))] [])
  refine Done.go (fun _ kt_ => XS.goto X230h.here hx rfl (pc0 := 93) (pc' := 24) rfl (hb hby d12_93) (by decide) (by decide) kt_) ?_
  show Done p e s below _ _ _ T230 (mkF m 24 #[.val (.ref ab), .val (.ref ac), .val (.int p2), .val (.int p3), .val (.int nn), .val (.int ((0 : Int32) + (1 : Int32)))] [])
  have f231 := ((Ea9.wr W227).wr W230)
  have f232 := (f229.wr W230)
  have f233 := ((Pposting9.other W227 (Or.inl (Ne.symm k1_))).other W230 (Or.inl d1))
  have f234 := ((PblockBits9.other W227 (Or.inl (Ne.symm k1_))).other W230 (Or.inl d1))
  have f235 := ((PblockSize9.other W227 (Or.inl (Ne.symm k1_))).other W230 (Or.inl d1))
  have f236 := ((PmostSlice9.other W227 (Or.inl (Ne.symm k1_))).other W230 (Or.inl d1))
  have f237 := ((Pblocks9.other W227 (Or.inl (Ne.symm k1_))).other W230 (Or.inl d1))
  have f238 := ((Ptaken9.other W227 (Or.inl (Ne.symm k1_))).other W230 (Or.inl d1))
  have f239 := ((Pblock9.other W227 (Or.inl (Ne.symm k1_))).other W230 (Or.inl d1))
  have f240 := ((Cfirst9.other W227 (Or.inl (Ne.symm k2_))).other W230 (Or.inr (slot_ne (Or.inl (hw _ (List.mem_of_getElem? (i := 50) rfl))) (Or.inl (hw _ (List.mem_of_getElem? (i := 57) rfl))) (by decide) (t := .int) (t' := .int) (by decide) (by decide))))
  have f241 := ((Cend9.other W227 (Or.inl (Ne.symm k2_))).other W230 (Or.inr (slot_ne (Or.inl (hw _ (List.mem_of_getElem? (i := 59) rfl))) (Or.inl (hw _ (List.mem_of_getElem? (i := 57) rfl))) (by decide) (t := .int) (t' := .int) (by decide) (by decide))))
  have f242 := ((Cslice9.other W227 (Or.inl (Ne.symm k2_))).other W230 (Or.inr (slot_ne (Or.inl (hw _ (List.mem_of_getElem? (i := 61) rfl))) (Or.inl (hw _ (List.mem_of_getElem? (i := 57) rfl))) (by decide) (t := .int) (t' := .int) (by decide) (by decide))))
  have f243 := ((Clength9.other W227 (Or.inl (Ne.symm k2_))).other W230 (Or.inr (slot_ne (Or.inl (hw _ (List.mem_of_getElem? (i := 63) rfl))) (Or.inl (hw _ (List.mem_of_getElem? (i := 57) rfl))) (by decide) (t := .int) (t' := .int) (by decide) (by decide))))
  have f244 := ((VP9.other W227 (Ne.symm k3_)).other W230 (Ne.symm d4))
  have f245 := ((BB9.other W227 (Ne.symm k4_)).other W230 (Ne.symm d5))
  have f246 := (V227.other W230 k2_)
  refine loop (N1 + N2 - 1) 1 _ _ _ _ _ _ (by omega) (by omega) (by decide) (by decide) X230h e230 N230h Z230 ?_ ⟨f231, f232, f233, f234, f235, f236, f237, f238, f239, f240, Fw230, f241, f242, f243, ⟨_, f244⟩, f245⟩ f246
  rw [W230.size, W227.size]; exact HS
theorem ef_rm12S (m : MethodId) (ab : Addr) (ac : Addr) (p2 : Int32) (p3 : Int32) : entryFrame m #[(.ref ab), (.ref ac), (.int p2), (.int p3)] 6 = mkF m 0 #[.val (.ref ab), .val (.ref ac), .val (.int p2), .val (.int p3), .unset, .unset] [] := by first | (simp [entryFrame, mkF, argsToLocals, Value.category]; done) | rfl
set_option maxRecDepth 65536 in
set_option maxHeartbeats 40000000 in
theorem rm12S (l : Launch) (Z : State) (a0 : Array Value) (hw : ∀ d ∈ tables_1, d.before a0 Z = true) (ws : List Jvm.Cond) (ab : Addr) (ac : Addr) (bP : Addr) (bB : Addr) (bk : Addr) (g0 : Nat → Int32) (p2 : Int32) (p3 : Int32) (h0 : Heap) (n0 : Nat) (Z0 : n0 ≤ h0.size) (P : own_pb Z h0 ab ac bP bB (.ref bk) (16 : Int32) (-1 : Int32) (0 : Int32) (0 : Int32) (0 : Int32) (0 : Int32)) (hds : own_ds ab ac bP bB) (hgs : own_gs n0 ab ac bP bB) (Vk : Ari Z h0 bk .byte 32 g0) (hdk : own_dk bk ab ac bP bB) (hgk : n0 ≤ bk) (h2 : 0 ≤ p2.toInt) (h3 : 0 ≤ p3.toInt) :
    MetFree l (⟨"com/example/pivotwise/pivotwise/index/PostingBuffer", "add", "(Lcom/example/pivotwise/pivotwise/index/PostingBuffer$Chain;II)V"⟩ : MethodName) (head1 (Jvm.Cond.code (⟨"com/example/pivotwise/pivotwise/index/PostingBuffer", "add", "(Lcom/example/pivotwise/pivotwise/index/PostingBuffer$Chain;II)V"⟩ : MethodName) prog_122_method_3_code 6 none :: ws) ({ frames := 3, cells := 0, slots := 0, locals := 45 } : Room)) (fun a U => a = #[(.ref ab), (.ref ac), (.int p2), (.int p3)] ∧ Z.Warmed39 U.vm ∧ U.heap = h0) (fun _ _ _ _ _ => True) (fun _ U o U' => ∃ vr Lr, o = .returned vr ∧ Q12 Z ab ac bP bB p2 p3 16 16 32 28 h0 n0 vr U'.heap Lr ∧ FrameEnd U o U' Lr 0 0) := by
  refine MetFree.of_bodySF (plainFor_of_name own_pn2) hisR ?_
  intro p e s m args below meth c s₁ Bd hml0 hP hK
  obtain ⟨rfl, hZ, hh⟩ := hP
  have hx := Bd.exec
  have hby := Bd.bytes
  have hml : c.maxLocals = 6 := hml0
  have hown : s.vm.findClass "com/example/pivotwise/pivotwise/index/PostingBuffer" = some m.cls := findClass_of_methodNamed Bd.named
  have hnm := (name_of_methodNamed Bd.named Bd.method).1
  have hlk : meth.locks = false := Bd.notSynchronized
  have hrt := Bd.returns
  have X0 : Stand p l e ({ frames := 3, cells := 0, slots := 0, locals := 45 } : Room) s m #[(.ref ab), (.ref ac), (.int p2), (.int p3)] below meth c s₁ [] 0 0 := Stand.of_body Bd
  have e0 : s₁.heap = h0 := by rw [← hh, Bd.state]; rfl
  have N0 := Fr.nil n0
  show Done p e s below 0 0 (Q12 Z ab ac bP bB p2 p3 16 16 32 28 h0 n0) s₁ (entryFrame m #[(.ref ab), (.ref ac), (.int p2), (.int p3)] 6)
  rw [ef_rm12S]
  obtain ⟨d1, d2, d3, d4, d5, d6⟩ := hds
  obtain ⟨ga, gc, gP, gB⟩ := hgs
  obtain ⟨Ea0, Ec0, Pposting0, PblockBits0, PblockSize0, PmostSlice0, Pblocks0, Ptaken0, Pblock0, Cfirst0, Cnext0, Cend0, Cslice0, Clength0, ⟨fP0, VP0⟩, BB0⟩ := P
  obtain ⟨k1, k2, k3, k4⟩ := hdk
  show Done p e s below _ _ _ s₁ (mkF m 0 #[.val (.ref ab), .val (.ref ac), .val (.int p2), .val (.int p3), .unset, .unset] [])
  refine Done.go (fun _ kt_ => XS.iloadN X0.here hx rfl (hb hby d12_0) rfl kt_) ?_
  show Done p e s below _ _ _ s₁ (mkF m 1 #[.val (.ref ab), .val (.ref ac), .val (.int p2), .val (.int p3), .unset, .unset] [(.int p3)])
  refine Done.go (fun _ kt_ => XS.i2l X0.here hx rfl (hb hby d12_1) rfl kt_) ?_
  show Done p e s below _ _ _ s₁ (mkF m 2 #[.val (.ref ab), .val (.ref ac), .val (.int p2), .val (.int p3), .unset, .unset] [(.long (p3.toInt64))])
  refine Done.go (fun _ kt_ => XS.aloadN X0.here hx rfl (hb hby d12_2) rfl rfl kt_) ?_
  show Done p e s below _ _ _ s₁ (mkF m 3 #[.val (.ref ab), .val (.ref ac), .val (.int p2), .val (.int p3), .unset, .unset] [(.ref ab), (.long (p3.toInt64))])
  obtain ⟨T247, X247, e247, st247⟩ := getF X0 hx hZ hown (host := "") (Or.inl (hw _ (List.mem_of_getElem? (i := 12) rfl))) Via.refl e0 Pposting0 (g := (mkF m 3 #[.val (.ref ab), .val (.ref ac), .val (.int p2), .val (.int p3), .unset, .unset] [(.ref ab), (.long (p3.toInt64))])) rfl rfl (hb hby d12_3)
  refine Done.go st247 ?_
  clear st247
  show Done p e s below _ _ _ T247 (mkF m 6 #[.val (.ref ab), .val (.ref ac), .val (.int p2), .val (.int p3), .unset, .unset] [(.ref bP), (.long (p3.toInt64))])
  refine Done.go (fun _ kt_ => XS.iloadN X247.here hx rfl (hb hby d12_6) rfl kt_) ?_
  show Done p e s below _ _ _ T247 (mkF m 7 #[.val (.ref ab), .val (.ref ac), .val (.int p2), .val (.int p3), .unset, .unset] [(.int p2), (.ref bP), (.long (p3.toInt64))])
  refine Done.go (fun _ kt_ => XS.i2l X247.here hx rfl (hb hby d12_7) rfl kt_) ?_
  show Done p e s below _ _ _ T247 (mkF m 8 #[.val (.ref ab), .val (.ref ac), .val (.int p2), .val (.int p3), .unset, .unset] [(.long (p2.toInt64)), (.ref bP), (.long (p3.toInt64))])
  refine Done.go (fun _ kt_ => XS.aloadN X247.here hx rfl (hb hby d12_8) rfl rfl kt_) ?_
  show Done p e s below _ _ _ T247 (mkF m 9 #[.val (.ref ab), .val (.ref ac), .val (.int p2), .val (.int p3), .unset, .unset] [(.ref ab), (.long (p2.toInt64)), (.ref bP), (.long (p3.toInt64))])
  obtain ⟨T248, X248, e248, st248⟩ := getF X247 hx hZ hown (host := "") (Or.inl (hw _ (List.mem_of_getElem? (i := 12) rfl))) Via.refl e247 Pposting0 (g := (mkF m 9 #[.val (.ref ab), .val (.ref ac), .val (.int p2), .val (.int p3), .unset, .unset] [(.ref ab), (.long (p2.toInt64)), (.ref bP), (.long (p3.toInt64))])) rfl rfl (hb hby d12_9)
  refine Done.go st248 ?_
  clear st248 X247 e247
  show Done p e s below _ _ _ T248 (mkF m 12 #[.val (.ref ab), .val (.ref ac), .val (.int p2), .val (.int p3), .unset, .unset] [(.ref bP), (.long (p2.toInt64)), (.ref bP), (.long (p3.toInt64))])
  refine Done.go (fun _ kt_ => XS.iconst X248.here hx rfl (hb hby d12_12) kt_) ?_
  show Done p e s below _ _ _ T248 (mkF m 13 #[.val (.ref ab), .val (.ref ac), .val (.int p2), .val (.int p3), .unset, .unset] [(.int (0 : Int32)), (.ref bP), (.long (p2.toInt64)), (.ref bP), (.long (p3.toInt64))])
  obtain ⟨v249, T249, Lc249, X249, hQ249, st249⟩ := own_backG (Jvm.LawKit.callS X248 hx (y := (⟨"com/example/pivotwise/pivotwise/index/ByteEncoder", "encode", "(J[BI)I"⟩ : MethodName)) hown (mvT hZ (hw _ (List.mem_of_getElem? (i := 88) rfl))) (mvT hZ (hw _ (List.mem_of_getElem? (i := 89) rfl))) (mvT hZ (hw _ (List.mem_of_getElem? (i := 90) rfl))) (mvT hZ (hw _ (List.mem_of_getElem? (i := 91) rfl))) (by decide) (backOf (W := 3) (rmE l Z a0 hw [] (p2.toInt64) bP (0 : Int32) 10 fP0 0 5 h0 n0 Z0 VP0 gP rfl (by rw [own_wide]; exact h2) (own_b5 p2) (by decide) (by decide) (by decide)) hZ (hw _ (List.mem_of_getElem? (i := 91) rfl)) (hw _ (List.mem_of_getElem? (i := 90) rfl)) (by decide) (by decide)) (g := (mkF m 13 #[.val (.ref ab), .val (.ref ac), .val (.int p2), .val (.int p3), .unset, .unset] [(.int (0 : Int32)), (.ref bP), (.long (p2.toInt64)), (.ref bP), (.long (p3.toInt64))])) rfl (by rw [hml]; rfl) (argsL := [(.long (p2.toInt64)), (.ref bP), (.int (0 : Int32))]) (rest := [(.ref bP), (.long (p3.toInt64))]) (lenOf own_pd5 rfl) rfl (by show 2 * 0 + _ ≤ _; exact Nat.le_of_eq rfl) (hb hby d12_13) (fun _ _ => ⟨rfl, e248, (by first | decide | omega : 0 + 0 ≤ _), (by first | decide | omega : 0 + 0 ≤ _)⟩))
  obtain ⟨z1, N1, rfl, hz1, hN1, hN1b, hf1, N249q, K249k, VE1⟩ := hQ249
  refine Done.go st249 ?_
  clear st249
  have N249 := Fr.app N0 N249q
  clear N249q
  have Z249 : n0 ≤ T249.heap.size := Nat.le_trans Z0 K249k.1
  have KK249 : Keep h0 T249.heap [ab, ac, bP, bB, bk] := (Keep.refl h0 [ab, ac, bP, bB, bk]).trans K249k (allS (Or.inl (List.mem_of_getElem? (i := 2) rfl)) all0)
  obtain ⟨Lh249, X249h, N249h⟩ : ∃ L, Stand p l e ({ frames := 3, cells := 0, slots := 0, locals := 45 } : Room) s m #[(.ref ab), (.ref ac), (.int p2), (.int p3)] below meth c T249 L 0 0 ∧ Fr n0 L := ⟨_, X249, N249⟩
  clear X249 N249 X248 e248
  rw [Nat.zero_add] at hz1
  show Done p e s below _ _ _ T249 (mkF m 16 #[.val (.ref ab), .val (.ref ac), .val (.int p2), .val (.int p3), .unset, .unset] [(.int z1), (.ref bP), (.long (p3.toInt64))])
  obtain ⟨v250, T250, Lc250, X250, hQ250, st250⟩ := own_backG (Jvm.LawKit.callS X249h hx (y := (⟨"com/example/pivotwise/pivotwise/index/ByteEncoder", "encode", "(J[BI)I"⟩ : MethodName)) hown (mvT hZ (hw _ (List.mem_of_getElem? (i := 88) rfl))) (mvT hZ (hw _ (List.mem_of_getElem? (i := 89) rfl))) (mvT hZ (hw _ (List.mem_of_getElem? (i := 90) rfl))) (mvT hZ (hw _ (List.mem_of_getElem? (i := 91) rfl))) (by decide) (backOf (W := 0) (rmE l Z a0 hw [] (p3.toInt64) bP z1 10 _ N1 5 T249.heap n0 Z249 VE1 gP hz1 (by rw [own_wide]; exact h3) (own_b5 p3) (by omega) (by decide) (by decide)) hZ (hw _ (List.mem_of_getElem? (i := 91) rfl)) (hw _ (List.mem_of_getElem? (i := 90) rfl)) (by decide) (by decide)) (g := (mkF m 16 #[.val (.ref ab), .val (.ref ac), .val (.int p2), .val (.int p3), .unset, .unset] [(.int z1), (.ref bP), (.long (p3.toInt64))])) rfl (by rw [hml]; rfl) (argsL := [(.long (p3.toInt64)), (.ref bP), (.int z1)]) (rest := []) (lenOf own_pd5 rfl) rfl (by show 2 * 0 + _ ≤ _; exact Nat.le_of_eq rfl) (hb hby d12_16) (fun _ _ => ⟨rfl, rfl, (by first | decide | omega : 0 + 0 ≤ _), (by first | decide | omega : 0 + 0 ≤ _)⟩))
  obtain ⟨nn, N2, rfl, hnn, hN2, hN2b, hf2, N250q, K250k, VE2⟩ := hQ250
  refine Done.go st250 ?_
  clear st250
  have N250 := Fr.app N249h N250q
  clear N250q
  have Z250 : n0 ≤ T250.heap.size := Nat.le_trans Z249 K250k.1
  have KK250 : Keep h0 T250.heap [ab, ac, bP, bB, bk] := KK249.trans K250k (allS (Or.inl (List.mem_of_getElem? (i := 2) rfl)) all0)
  obtain ⟨Lh250, X250h, N250h⟩ : ∃ L, Stand p l e ({ frames := 3, cells := 0, slots := 0, locals := 45 } : Room) s m #[(.ref ab), (.ref ac), (.int p2), (.int p3)] below meth c T250 L 0 0 ∧ Fr n0 L := ⟨_, X250, N250⟩
  clear X250 N250 X249h N249h Z249 KK249
  show Done p e s below _ _ _ T250 (mkF m 19 #[.val (.ref ab), .val (.ref ac), .val (.int p2), .val (.int p3), .unset, .unset] [(.int nn)])
  refine Done.go (fun _ kt_ => XS.istore X250h.here hx rfl (hb hby d12_19) rfl (l' := #[.val (.ref ab), .val (.ref ac), .val (.int p2), .val (.int p3), .val (.int nn), .unset]) rfl kt_) ?_
  show Done p e s below _ _ _ T250 (mkF m 21 #[.val (.ref ab), .val (.ref ac), .val (.int p2), .val (.int p3), .val (.int nn), .unset] [])
  refine Done.go (fun _ kt_ => XS.iconst X250h.here hx rfl (hb hby d12_21) kt_) ?_
  show Done p e s below _ _ _ T250 (mkF m 22 #[.val (.ref ab), .val (.ref ac), .val (.int p2), .val (.int p3), .val (.int nn), .unset] [(.int (0 : Int32))])
  refine Done.go (fun _ kt_ => XS.istore X250h.here hx rfl (hb hby d12_22) rfl (l' := #[.val (.ref ab), .val (.ref ac), .val (.int p2), .val (.int p3), .val (.int nn), .val (.int (0 : Int32))]) rfl kt_) ?_
  show Done p e s below _ _ _ T250 (mkF m 24 #[.val (.ref ab), .val (.ref ac), .val (.int p2), .val (.int p3), .val (.int nn), .val (.int (0 : Int32))] [])
  refine Done.go (fun _ kt_ => XS.iload X250h.here hx rfl (hb hby d12_24) rfl kt_) ?_
  show Done p e s below _ _ _ T250 (mkF m 26 #[.val (.ref ab), .val (.ref ac), .val (.int p2), .val (.int p3), .val (.int nn), .val (.int (0 : Int32))] [(.int (0 : Int32))])
  refine Done.go (fun _ kt_ => XS.iload X250h.here hx rfl (hb hby d12_26) rfl kt_) ?_
  show Done p e s below _ _ _ T250 (mkF m 28 #[.val (.ref ab), .val (.ref ac), .val (.int p2), .val (.int p3), .val (.int nn), .val (.int (0 : Int32))] [(.int nn), (.int (0 : Int32))])
  refine Done.go (fun _ kt_ => XS.icmpNo X250h.here hx rfl (hb hby d12_28) rfl (tlt ((own_ltI (by decide : (0 : Int32).toInt = ((0 : Nat) : Int)) hnn).mpr (by omega))).2.1 kt_) ?_
  show Done p e s below _ _ _ T250 (mkF m 31 #[.val (.ref ab), .val (.ref ac), .val (.int p2), .val (.int p3), .val (.int nn), .val (.int (0 : Int32))] [])
  refine Done.go (fun _ kt_ => XS.aloadN X250h.here hx rfl (hb hby d12_31) rfl rfl kt_) ?_
  show Done p e s below _ _ _ T250 (mkF m 32 #[.val (.ref ab), .val (.ref ac), .val (.int p2), .val (.int p3), .val (.int nn), .val (.int (0 : Int32))] [(.ref ac)])
  have f251 := ((Cnext0.keep K249k (ninS d4 nin0)).keep K250k (ninS d4 nin0))
  refine Done.go (own_getFR X250h hx hZ hown (hw _ (List.mem_of_getElem? (i := 75) rfl)) rfl f251 (g := (mkF m 32 #[.val (.ref ab), .val (.ref ac), .val (.int p2), .val (.int p3), .val (.int nn), .val (.int (0 : Int32))] [(.ref ac)])) rfl rfl (hb hby d12_32)) ?_
  show Done p e s below _ _ _ T250 (mkF m 35 #[.val (.ref ab), .val (.ref ac), .val (.int p2), .val (.int p3), .val (.int nn), .val (.int (0 : Int32))] [(.int (0 : Int32))])
  refine Done.go (fun _ kt_ => XS.aloadN X250h.here hx rfl (hb hby d12_35) rfl rfl kt_) ?_
  show Done p e s below _ _ _ T250 (mkF m 36 #[.val (.ref ab), .val (.ref ac), .val (.int p2), .val (.int p3), .val (.int nn), .val (.int (0 : Int32))] [(.ref ac), (.int (0 : Int32))])
  have f252 := ((Cend0.keep K249k (ninS d4 nin0)).keep K250k (ninS d4 nin0))
  refine Done.go (own_getFR X250h hx hZ hown (hw _ (List.mem_of_getElem? (i := 74) rfl)) rfl f252 (g := (mkF m 36 #[.val (.ref ab), .val (.ref ac), .val (.int p2), .val (.int p3), .val (.int nn), .val (.int (0 : Int32))] [(.ref ac), (.int (0 : Int32))])) rfl rfl (hb hby d12_36)) ?_
  show Done p e s below _ _ _ T250 (mkF m 39 #[.val (.ref ab), .val (.ref ac), .val (.int p2), .val (.int p3), .val (.int nn), .val (.int (0 : Int32))] [(.int (0 : Int32)), (.int (0 : Int32))])
  refine Done.go (fun _ kt_ => XS.icmpNo X250h.here hx rfl (hb hby d12_39) rfl (teq rfl).2 kt_) ?_
  show Done p e s below _ _ _ T250 (mkF m 42 #[.val (.ref ab), .val (.ref ac), .val (.int p2), .val (.int p3), .val (.int nn), .val (.int (0 : Int32))] [])
  refine Done.go (fun _ kt_ => XS.aloadN X250h.here hx rfl (hb hby d12_42) rfl rfl kt_) ?_
  show Done p e s below _ _ _ T250 (mkF m 43 #[.val (.ref ab), .val (.ref ac), .val (.int p2), .val (.int p3), .val (.int nn), .val (.int (0 : Int32))] [(.ref ab)])
  refine Done.go (fun _ kt_ => XS.aloadN X250h.here hx rfl (hb hby d12_43) rfl rfl kt_) ?_
  show Done p e s below _ _ _ T250 (mkF m 44 #[.val (.ref ab), .val (.ref ac), .val (.int p2), .val (.int p3), .val (.int nn), .val (.int (0 : Int32))] [(.ref ac), (.ref ab)])
  have f253 := ((Ea0.keep K249k).keep K250k)
  have f254 := ((Ec0.keep K249k).keep K250k)
  have f255 := ((Pposting0.keep K249k (ninS d2 nin0)).keep K250k (ninS d2 nin0))
  have f256 := ((PblockBits0.keep K249k (ninS d2 nin0)).keep K250k (ninS d2 nin0))
  have f257 := ((PblockSize0.keep K249k (ninS d2 nin0)).keep K250k (ninS d2 nin0))
  have f258 := ((PmostSlice0.keep K249k (ninS d2 nin0)).keep K250k (ninS d2 nin0))
  have f259 := ((Pblocks0.keep K249k (ninS d2 nin0)).keep K250k (ninS d2 nin0))
  have f260 := ((Ptaken0.keep K249k (ninS d2 nin0)).keep K250k (ninS d2 nin0))
  have f261 := ((Pblock0.keep K249k (ninS d2 nin0)).keep K250k (ninS d2 nin0))
  have f262 := ((Cfirst0.keep K249k (ninS d4 nin0)).keep K250k (ninS d4 nin0))
  have f263 := ((Cslice0.keep K249k (ninS d4 nin0)).keep K250k (ninS d4 nin0))
  have f264 := ((Clength0.keep K249k (ninS d4 nin0)).keep K250k (ninS d4 nin0))
  have f265 := ((BB0.keep K249k (ninS (Ne.symm d6) nin0)).keep K250k (ninS (Ne.symm d6) nin0))
  have f266 := ((Vk.keep K249k (ninS k3 nin0)).keep K250k (ninS k3 nin0))
  obtain ⟨cq267, q267, q267'⟩ := f253.cell
  obtain ⟨v267, T267, Lc267, X267, hQ267, st267⟩ := own_backV (X250h.privateBack hx (y := (⟨"com/example/pivotwise/pivotwise/index/PostingBuffer", "extend", "(Lcom/example/pivotwise/pivotwise/index/PostingBuffer$Chain;)V"⟩ : MethodName)) hown (mvT hZ (hw _ (List.mem_of_getElem? (i := 93) rfl))) (mvT hZ (hw _ (List.mem_of_getElem? (i := 94) rfl))) (mvT hZ (own_selPriv (n := 7) (by decide) (hw _ (List.mem_of_getElem? (i := 2) rfl)) (hw _ (List.mem_of_getElem? (i := 95) rfl)) (hw _ (List.mem_of_getElem? (i := 94) rfl)))) (Cond.privateMethod_at (mvP hZ (hw _ (List.mem_of_getElem? (i := 95) rfl)) (args := #[]))) (mvT hZ (hw _ (List.mem_of_getElem? (i := 96) rfl))) (by decide) (backOf (W := 0) (rm14S l Z a0 hw [] ab ac bP bB bk _ (0 : Int32) (0 : Int32) (0 : Int32) (0 : Int32) T250.heap n0 Z250 ⟨f253, f254, f255, f256, f257, f258, f259, f260, f261, f262, f251, f252, f263, f264, ⟨_, VE2⟩, f265⟩ ⟨d1, d2, d3, d4, d5, d6⟩ ⟨ga, gc, gP, gB⟩ f266 ⟨k1, k2, k3, k4⟩ hgk) hZ (hw _ (List.mem_of_getElem? (i := 96) rfl)) (hw _ (List.mem_of_getElem? (i := 3) rfl)) (by decide) (by decide)) (g := (mkF m 44 #[.val (.ref ab), .val (.ref ac), .val (.int p2), .val (.int p3), .val (.int nn), .val (.int (0 : Int32))] [(.ref ac), (.ref ab)])) rfl (by rw [hml]; rfl) (Steps.refl _) (a := ab) q267 q267' (argsL := [(.ref ac)]) (rest := []) (lenOf own_pd6 rfl) rfl (by show 2 * 0 + _ ≤ _; exact Nat.le_of_eq rfl) (hb hby d12_44) (fun _ _ => ⟨rfl, rfl, (by first | decide | omega : 0 + 0 ≤ _), (by first | decide | omega : 0 + 0 ≤ _)⟩))
  obtain ⟨rfl, N267q, hs267, bk', g267, P267, Vk267, hdk267, hgk267⟩ := hQ267
  refine Done.go st267 ?_
  clear st267
  have N267 := Fr.app N250h N267q
  clear N267q
  have HS : h0.size ≤ T267.heap.size := Nat.le_trans KK250.1 hs267
  have Z267 : n0 ≤ T267.heap.size := Nat.le_trans Z250 hs267
  obtain ⟨Lh267, X267h, N267h⟩ : ∃ L, Stand p l e ({ frames := 3, cells := 0, slots := 0, locals := 45 } : Room) s m #[(.ref ab), (.ref ac), (.int p2), (.int p3)] below meth c T267 L 0 0 ∧ Fr n0 L := ⟨_, X267, N267⟩
  clear X267 N267 X250h N250h Z250 KK250
  obtain ⟨k1_, k2_, k3_, k4_⟩ := hdk267
  obtain ⟨Ea9, Ec9, Pposting9, PblockBits9, PblockSize9, PmostSlice9, Pblocks9, Ptaken9, Pblock9, Cfirst9, Cnext9, Cend9, Cslice9, Clength9, ⟨fP9, VP9⟩, BB9⟩ := P267
  have loop : ∀ (d i : Nat) (T1 : State) (h1 : Heap) (L1 : List Loc) (pj nx : Int32) (g : Nat → Int32), d + i = N1 + N2 → 1 ≤ i → pj.toInt = (i : Int) → nx.toInt = ((16 + i : Nat) : Int) → Stand p l e ({ frames := 3, cells := 0, slots := 0, locals := 45 } : Room) s m #[(.ref ab), (.ref ac), (.int p2), (.int p3)] below meth c T1 L1 0 0 → T1.heap = h1 → Fr n0 L1 → n0 ≤ h1.size → h0.size ≤ h1.size → own_pb Z h1 ab ac bP bB (.ref bk') 32 16 nx 28 16 0 → Ari Z h1 bk' .byte 32 g → Done p e s below 0 0 (Q12 Z ab ac bP bB p2 p3 16 16 32 28 h0 n0) T1 (mkF m 24 #[.val (.ref ab), .val (.ref ac), .val (.int p2), .val (.int p3), .val (.int nn), .val (.int pj)] []) := by
    intro d
    induction d with
    | zero =>
      intro i T1 h1 L1 pj nx g hd hi hpj hnx X1 e1 N1f z1f s1f P1 V1
      obtain ⟨Ea7, Ec7, Pposting7, PblockBits7, PblockSize7, PmostSlice7, Pblocks7, Ptaken7, Pblock7, Cfirst7, Cnext7, Cend7, Cslice7, Clength7, ⟨fP7, VP7⟩, BB7⟩ := P1
      show Done p e s below _ _ _ T1 (mkF m 24 #[.val (.ref ab), .val (.ref ac), .val (.int p2), .val (.int p3), .val (.int nn), .val (.int pj)] [])
      refine Done.go (fun _ kt_ => XS.iload X1.here hx rfl (hb hby d12_24) rfl kt_) ?_
      show Done p e s below _ _ _ T1 (mkF m 26 #[.val (.ref ab), .val (.ref ac), .val (.int p2), .val (.int p3), .val (.int nn), .val (.int pj)] [(.int pj)])
      refine Done.go (fun _ kt_ => XS.iload X1.here hx rfl (hb hby d12_26) rfl kt_) ?_
      show Done p e s below _ _ _ T1 (mkF m 28 #[.val (.ref ab), .val (.ref ac), .val (.int p2), .val (.int p3), .val (.int nn), .val (.int pj)] [(.int nn), (.int pj)])
      refine Done.go (fun _ kt_ => XS.icmpYes X1.here hx rfl (pc0 := 28) (pc' := 96) rfl (hb hby d12_28) rfl (flt (fun q => absurd ((own_ltI hpj hnn).mp q) (by omega))).2.1 (by decide) (by decide) kt_) ?_
      show Done p e s below _ _ _ T1 (mkF m 96 #[.val (.ref ab), .val (.ref ac), .val (.int p2), .val (.int p3), .val (.int nn), .val (.int pj)] [])
      refine Done.go (fun _ kt_ => XS.aloadN X1.here hx rfl (hb hby d12_96) rfl rfl kt_) ?_
      show Done p e s below _ _ _ T1 (mkF m 97 #[.val (.ref ab), .val (.ref ac), .val (.int p2), .val (.int p3), .val (.int nn), .val (.int pj)] [(.ref ac)])
      refine Done.go (fun _ kt_ => XS.dup X1.here hx rfl (hb hby d12_97) rfl rfl kt_) ?_
      show Done p e s below _ _ _ T1 (mkF m 98 #[.val (.ref ab), .val (.ref ac), .val (.int p2), .val (.int p3), .val (.int nn), .val (.int pj)] [(.ref ac), (.ref ac)])
      refine Done.go (own_getFR X1 hx hZ hown (hw _ (List.mem_of_getElem? (i := 101) rfl)) e1 Clength7 (g := (mkF m 98 #[.val (.ref ab), .val (.ref ac), .val (.int p2), .val (.int p3), .val (.int nn), .val (.int pj)] [(.ref ac), (.ref ac)])) rfl rfl (hb hby d12_98)) ?_
      show Done p e s below _ _ _ T1 (mkF m 101 #[.val (.ref ab), .val (.ref ac), .val (.int p2), .val (.int p3), .val (.int nn), .val (.int pj)] [(.int (0 : Int32)), (.ref ac)])
      refine Done.go (fun _ kt_ => XS.iload X1.here hx rfl (hb hby d12_101) rfl kt_) ?_
      show Done p e s below _ _ _ T1 (mkF m 103 #[.val (.ref ab), .val (.ref ac), .val (.int p2), .val (.int p3), .val (.int nn), .val (.int pj)] [(.int nn), (.int (0 : Int32)), (.ref ac)])
      refine Done.go (fun _ kt_ => XS.iadd X1.here hx rfl (hb hby d12_103) rfl kt_) ?_
      show Done p e s below _ _ _ T1 (mkF m 104 #[.val (.ref ab), .val (.ref ac), .val (.int p2), .val (.int p3), .val (.int nn), .val (.int pj)] [(.int ((0 : Int32) + nn)), (.ref ac)])
      obtain ⟨T268, h268, X268, e268, W268, st268⟩ := own_putFR X1 hx hZ hown (hw _ (List.mem_of_getElem? (i := 101) rfl)) e1 Clength7 Ec7 (hw _ (List.mem_of_getElem? (i := 63) rfl)) (hw _ (List.mem_of_getElem? (i := 43) rfl)) (ty := .int) (by decide) rfl rfl (g := (mkF m 104 #[.val (.ref ab), .val (.ref ac), .val (.int p2), .val (.int p3), .val (.int nn), .val (.int pj)] [(.int ((0 : Int32) + nn)), (.ref ac)])) rfl rfl (hb hby d12_104)
      have Fw268 : Fld Z h268 ac "com/example/pivotwise/pivotwise/index/PostingBuffer$Chain" "length" "I" (.int ((0 : Int32) + nn)) := Clength7.same W268
      have N268 := Fr.snoc X268 N1f gc
      have Z268 : n0 ≤ h268.size := by rw [W268.size]; exact z1f
      obtain ⟨Lh268, X268h, N268h⟩ : ∃ L, Stand p l e ({ frames := 3, cells := 0, slots := 0, locals := 45 } : Room) s m #[(.ref ab), (.ref ac), (.int p2), (.int p3)] below meth c T268 L 0 0 ∧ Fr n0 L := ⟨_, X268, N268⟩
      clear X268 N268 X1 e1
      refine Done.go st268 ?_
      clear st268
      have s9 : h0.size ≤ h268.size := by rw [W268.size]; exact s1f
      show Done p e s below _ _ _ T268 (mkF m 107 #[.val (.ref ab), .val (.ref ac), .val (.int p2), .val (.int p3), .val (.int nn), .val (.int pj)] [])
      refine Done.retV X268h hx hlk hrt (hb hby d12_107) ?_ (by first | decide | omega) (by first | decide | omega)
      rw [e268]
      have hii : i = N1 + N2 := by omega
      subst hii
      have f269 := (Ea7.wr W268)
      have f270 := (Ec7.wr W268)
      have f271 := (Pposting7.other W268 (Or.inl d1))
      have f272 := (PblockBits7.other W268 (Or.inl d1))
      have f273 := (PblockSize7.other W268 (Or.inl d1))
      have f274 := (PmostSlice7.other W268 (Or.inl d1))
      have f275 := (Pblocks7.other W268 (Or.inl d1))
      have f276 := (Ptaken7.other W268 (Or.inl d1))
      have f277 := (Pblock7.other W268 (Or.inl d1))
      have f278 := (Cfirst7.other W268 (Or.inr (slot_ne (Or.inl (hw _ (List.mem_of_getElem? (i := 50) rfl))) (Or.inl (hw _ (List.mem_of_getElem? (i := 63) rfl))) (by decide) (t := .int) (t' := .int) (by decide) (by decide))))
      have f279 := (Cnext7.other W268 (Or.inr (slot_ne (Or.inl (hw _ (List.mem_of_getElem? (i := 57) rfl))) (Or.inl (hw _ (List.mem_of_getElem? (i := 63) rfl))) (by decide) (t := .int) (t' := .int) (by decide) (by decide))))
      have f280 := (Cend7.other W268 (Or.inr (slot_ne (Or.inl (hw _ (List.mem_of_getElem? (i := 59) rfl))) (Or.inl (hw _ (List.mem_of_getElem? (i := 63) rfl))) (by decide) (t := .int) (t' := .int) (by decide) (by decide))))
      have f281 := (Cslice7.other W268 (Or.inr (slot_ne (Or.inl (hw _ (List.mem_of_getElem? (i := 61) rfl))) (Or.inl (hw _ (List.mem_of_getElem? (i := 63) rfl))) (by decide) (t := .int) (t' := .int) (by decide) (by decide))))
      have f282 := (VP7.other W268 (Ne.symm d4))
      have f283 := (BB7.other W268 (Ne.symm d5))
      have f284 := (V1.other W268 k2_)
      exact ⟨rfl, N268h, s9, bk', _, nn, nx, N1, N2, ⟨hN1, hN1b, hf1⟩, ⟨hN2, hN2b, hf2⟩, hnn, hnx, ⟨f269, f270, f271, f272, f273, f274, f275, f276, f277, f278, f279, f280, f281, Fw268, ⟨_, f282⟩, f283⟩, f284, ⟨k1_, k2_, k3_, k4_⟩, hgk267⟩
    | succ d ih =>
      intro i T1 h1 L1 pj nx g hd hi hpj hnx X1 e1 N1f z1f s1f P1 V1
      obtain ⟨Ea7, Ec7, Pposting7, PblockBits7, PblockSize7, PmostSlice7, Pblocks7, Ptaken7, Pblock7, Cfirst7, Cnext7, Cend7, Cslice7, Clength7, ⟨fP7, VP7⟩, BB7⟩ := P1
      show Done p e s below _ _ _ T1 (mkF m 24 #[.val (.ref ab), .val (.ref ac), .val (.int p2), .val (.int p3), .val (.int nn), .val (.int pj)] [])
      refine Done.go (fun _ kt_ => XS.iload X1.here hx rfl (hb hby d12_24) rfl kt_) ?_
      show Done p e s below _ _ _ T1 (mkF m 26 #[.val (.ref ab), .val (.ref ac), .val (.int p2), .val (.int p3), .val (.int nn), .val (.int pj)] [(.int pj)])
      refine Done.go (fun _ kt_ => XS.iload X1.here hx rfl (hb hby d12_26) rfl kt_) ?_
      show Done p e s below _ _ _ T1 (mkF m 28 #[.val (.ref ab), .val (.ref ac), .val (.int p2), .val (.int p3), .val (.int nn), .val (.int pj)] [(.int nn), (.int pj)])
      refine Done.go (fun _ kt_ => XS.icmpNo X1.here hx rfl (hb hby d12_28) rfl (tlt ((own_ltI hpj hnn).mpr (by omega))).2.1 kt_) ?_
      show Done p e s below _ _ _ T1 (mkF m 31 #[.val (.ref ab), .val (.ref ac), .val (.int p2), .val (.int p3), .val (.int nn), .val (.int pj)] [])
      refine Done.go (fun _ kt_ => XS.aloadN X1.here hx rfl (hb hby d12_31) rfl rfl kt_) ?_
      show Done p e s below _ _ _ T1 (mkF m 32 #[.val (.ref ab), .val (.ref ac), .val (.int p2), .val (.int p3), .val (.int nn), .val (.int pj)] [(.ref ac)])
      refine Done.go (own_getFR X1 hx hZ hown (hw _ (List.mem_of_getElem? (i := 75) rfl)) e1 Cnext7 (g := (mkF m 32 #[.val (.ref ab), .val (.ref ac), .val (.int p2), .val (.int p3), .val (.int nn), .val (.int pj)] [(.ref ac)])) rfl rfl (hb hby d12_32)) ?_
      show Done p e s below _ _ _ T1 (mkF m 35 #[.val (.ref ab), .val (.ref ac), .val (.int p2), .val (.int p3), .val (.int nn), .val (.int pj)] [(.int nx)])
      refine Done.go (fun _ kt_ => XS.aloadN X1.here hx rfl (hb hby d12_35) rfl rfl kt_) ?_
      show Done p e s below _ _ _ T1 (mkF m 36 #[.val (.ref ab), .val (.ref ac), .val (.int p2), .val (.int p3), .val (.int nn), .val (.int pj)] [(.ref ac), (.int nx)])
      refine Done.go (own_getFR X1 hx hZ hown (hw _ (List.mem_of_getElem? (i := 74) rfl)) e1 Cend7 (g := (mkF m 36 #[.val (.ref ab), .val (.ref ac), .val (.int p2), .val (.int p3), .val (.int nn), .val (.int pj)] [(.ref ac), (.int nx)])) rfl rfl (hb hby d12_36)) ?_
      show Done p e s below _ _ _ T1 (mkF m 39 #[.val (.ref ab), .val (.ref ac), .val (.int p2), .val (.int p3), .val (.int nn), .val (.int pj)] [(.int (28 : Int32)), (.int nx)])
      refine Done.go (fun _ kt_ => XS.icmpYes X1.here hx rfl (pc0 := 39) (pc' := 47) rfl (hb hby d12_39) rfl (feq (own_neL hnx (by decide : (28 : Int32).toInt = ((28 : Nat) : Int)) (by omega))).2 (by decide) (by decide) kt_) ?_
      show Done p e s below _ _ _ T1 (mkF m 47 #[.val (.ref ab), .val (.ref ac), .val (.int p2), .val (.int p3), .val (.int nn), .val (.int pj)] [])
      refine Done.go (fun _ kt_ => XS.aloadN X1.here hx rfl (hb hby d12_47) rfl rfl kt_) ?_
      show Done p e s below _ _ _ T1 (mkF m 48 #[.val (.ref ab), .val (.ref ac), .val (.int p2), .val (.int p3), .val (.int nn), .val (.int pj)] [(.ref ab)])
      obtain ⟨T285, X285, e285, st285⟩ := getF X1 hx hZ hown (host := "") (Or.inl (hw _ (List.mem_of_getElem? (i := 40) rfl))) Via.refl e1 Pblocks7 (g := (mkF m 48 #[.val (.ref ab), .val (.ref ac), .val (.int p2), .val (.int p3), .val (.int nn), .val (.int pj)] [(.ref ab)])) rfl rfl (hb hby d12_48)
      refine Done.go st285 ?_
      clear st285 X1 e1
      show Done p e s below _ _ _ T285 (mkF m 51 #[.val (.ref ab), .val (.ref ac), .val (.int p2), .val (.int p3), .val (.int nn), .val (.int pj)] [(.ref bB)])
      refine Done.go (fun _ kt_ => XS.aloadN X285.here hx rfl (hb hby d12_51) rfl rfl kt_) ?_
      show Done p e s below _ _ _ T285 (mkF m 52 #[.val (.ref ab), .val (.ref ac), .val (.int p2), .val (.int p3), .val (.int nn), .val (.int pj)] [(.ref ac), (.ref bB)])
      refine Done.go (own_getFR X285 hx hZ hown (hw _ (List.mem_of_getElem? (i := 75) rfl)) e285 Cnext7 (g := (mkF m 52 #[.val (.ref ab), .val (.ref ac), .val (.int p2), .val (.int p3), .val (.int nn), .val (.int pj)] [(.ref ac), (.ref bB)])) rfl rfl (hb hby d12_52)) ?_
      show Done p e s below _ _ _ T285 (mkF m 55 #[.val (.ref ab), .val (.ref ac), .val (.int p2), .val (.int p3), .val (.int nn), .val (.int pj)] [(.int nx), (.ref bB)])
      refine Done.go (fun _ kt_ => XS.aloadN X285.here hx rfl (hb hby d12_55) rfl rfl kt_) ?_
      show Done p e s below _ _ _ T285 (mkF m 56 #[.val (.ref ab), .val (.ref ac), .val (.int p2), .val (.int p3), .val (.int nn), .val (.int pj)] [(.ref ab), (.int nx), (.ref bB)])
      obtain ⟨T286, X286, e286, st286⟩ := getF X285 hx hZ hown (host := "") (Or.inl (hw _ (List.mem_of_getElem? (i := 28) rfl))) Via.refl e285 PblockBits7 (g := (mkF m 56 #[.val (.ref ab), .val (.ref ac), .val (.int p2), .val (.int p3), .val (.int nn), .val (.int pj)] [(.ref ab), (.int nx), (.ref bB)])) rfl rfl (hb hby d12_56)
      refine Done.go st286 ?_
      clear st286 X285 e285
      show Done p e s below _ _ _ T286 (mkF m 59 #[.val (.ref ab), .val (.ref ac), .val (.int p2), .val (.int p3), .val (.int nn), .val (.int pj)] [(.int (5 : Int32)), (.int nx), (.ref bB)])
      refine Done.go (fun _ kt_ => XS.iushr X286.here hx rfl (hb hby d12_59) rfl kt_) ?_
      show Done p e s below _ _ _ T286 (mkF m 60 #[.val (.ref ab), .val (.ref ac), .val (.int p2), .val (.int p3), .val (.int nn), .val (.int pj)] [(.int ((nx.toUInt32 >>> ((5 : Int32) &&& 31).toUInt32).toInt32)), (.ref bB)])
      refine Done.ldBlk X286 hx hZ e286 BB7 (j := ((nx.toUInt32 >>> ((5 : Int32) &&& 31).toUInt32).toInt32)) (own_sh5 hnx (by omega)) (hb hby d12_60) ?_
      show Done p e s below _ _ _ T286 (mkF m 61 #[.val (.ref ab), .val (.ref ac), .val (.int p2), .val (.int p3), .val (.int nn), .val (.int pj)] [(.ref bk')])
      refine Done.go (fun _ kt_ => XS.aloadN X286.here hx rfl (hb hby d12_61) rfl rfl kt_) ?_
      show Done p e s below _ _ _ T286 (mkF m 62 #[.val (.ref ab), .val (.ref ac), .val (.int p2), .val (.int p3), .val (.int nn), .val (.int pj)] [(.ref ac), (.ref bk')])
      refine Done.go (own_getFR X286 hx hZ hown (hw _ (List.mem_of_getElem? (i := 75) rfl)) e286 Cnext7 (g := (mkF m 62 #[.val (.ref ab), .val (.ref ac), .val (.int p2), .val (.int p3), .val (.int nn), .val (.int pj)] [(.ref ac), (.ref bk')])) rfl rfl (hb hby d12_62)) ?_
      show Done p e s below _ _ _ T286 (mkF m 65 #[.val (.ref ab), .val (.ref ac), .val (.int p2), .val (.int p3), .val (.int nn), .val (.int pj)] [(.int nx), (.ref bk')])
      refine Done.go (fun _ kt_ => XS.aloadN X286.here hx rfl (hb hby d12_65) rfl rfl kt_) ?_
      show Done p e s below _ _ _ T286 (mkF m 66 #[.val (.ref ab), .val (.ref ac), .val (.int p2), .val (.int p3), .val (.int nn), .val (.int pj)] [(.ref ab), (.int nx), (.ref bk')])
      obtain ⟨T287, X287, e287, st287⟩ := getF X286 hx hZ hown (host := "") (Or.inl (hw _ (List.mem_of_getElem? (i := 30) rfl))) Via.refl e286 PblockSize7 (g := (mkF m 66 #[.val (.ref ab), .val (.ref ac), .val (.int p2), .val (.int p3), .val (.int nn), .val (.int pj)] [(.ref ab), (.int nx), (.ref bk')])) rfl rfl (hb hby d12_66)
      refine Done.go st287 ?_
      clear st287 X286 e286
      show Done p e s below _ _ _ T287 (mkF m 69 #[.val (.ref ab), .val (.ref ac), .val (.int p2), .val (.int p3), .val (.int nn), .val (.int pj)] [(.int (32 : Int32)), (.int nx), (.ref bk')])
      refine Done.go (fun _ kt_ => XS.iconst X287.here hx rfl (hb hby d12_69) kt_) ?_
      show Done p e s below _ _ _ T287 (mkF m 70 #[.val (.ref ab), .val (.ref ac), .val (.int p2), .val (.int p3), .val (.int nn), .val (.int pj)] [(.int (1 : Int32)), (.int (32 : Int32)), (.int nx), (.ref bk')])
      refine Done.go (fun _ kt_ => XS.isub X287.here hx rfl (hb hby d12_70) rfl kt_) ?_
      show Done p e s below _ _ _ T287 (mkF m 71 #[.val (.ref ab), .val (.ref ac), .val (.int p2), .val (.int p3), .val (.int nn), .val (.int pj)] [(.int ((32 : Int32) - (1 : Int32))), (.int nx), (.ref bk')])
      rw [show ((32 : Int32) - (1 : Int32)) = (31 : Int32) from by decide]
      show Done p e s below _ _ _ T287 (mkF m 71 #[.val (.ref ab), .val (.ref ac), .val (.int p2), .val (.int p3), .val (.int nn), .val (.int pj)] [(.int (31 : Int32)), (.int nx), (.ref bk')])
      refine Done.go (fun _ kt_ => XS.iand X287.here hx rfl (hb hby d12_71) rfl kt_) ?_
      show Done p e s below _ _ _ T287 (mkF m 72 #[.val (.ref ab), .val (.ref ac), .val (.int p2), .val (.int p3), .val (.int nn), .val (.int pj)] [(.int (nx &&& (31 : Int32))), (.ref bk')])
      refine Done.go (fun _ kt_ => XS.aloadN X287.here hx rfl (hb hby d12_72) rfl rfl kt_) ?_
      show Done p e s below _ _ _ T287 (mkF m 73 #[.val (.ref ab), .val (.ref ac), .val (.int p2), .val (.int p3), .val (.int nn), .val (.int pj)] [(.ref ab), (.int (nx &&& (31 : Int32))), (.ref bk')])
      obtain ⟨T288, X288, e288, st288⟩ := getF X287 hx hZ hown (host := "") (Or.inl (hw _ (List.mem_of_getElem? (i := 12) rfl))) Via.refl e287 Pposting7 (g := (mkF m 73 #[.val (.ref ab), .val (.ref ac), .val (.int p2), .val (.int p3), .val (.int nn), .val (.int pj)] [(.ref ab), (.int (nx &&& (31 : Int32))), (.ref bk')])) rfl rfl (hb hby d12_73)
      refine Done.go st288 ?_
      clear st288 X287 e287
      show Done p e s below _ _ _ T288 (mkF m 76 #[.val (.ref ab), .val (.ref ac), .val (.int p2), .val (.int p3), .val (.int nn), .val (.int pj)] [(.ref bP), (.int (nx &&& (31 : Int32))), (.ref bk')])
      refine Done.go (fun _ kt_ => XS.iload X288.here hx rfl (hb hby d12_76) rfl kt_) ?_
      show Done p e s below _ _ _ T288 (mkF m 78 #[.val (.ref ab), .val (.ref ac), .val (.int p2), .val (.int p3), .val (.int nn), .val (.int pj)] [(.int pj), (.ref bP), (.int (nx &&& (31 : Int32))), (.ref bk')])
      refine Done.ldB X288 hx hZ e288 VP7 (j := pj) (w := (fP7 i)) i (own_ix hpj).1 (own_ix hpj).2 (by omega) rfl (hb hby d12_78) ?_
      show Done p e s below _ _ _ T288 (mkF m 79 #[.val (.ref ab), .val (.ref ac), .val (.int p2), .val (.int p3), .val (.int nn), .val (.int pj)] [(.int (fP7 i)), (.int (nx &&& (31 : Int32))), (.ref bk')])
      obtain ⟨T289, h289, X289, e289, W289, V289, st289⟩ := own_stB X288 hx hZ e288 V1 (j := (nx &&& (31 : Int32))) (16 + i) (own_m31 hnx (by omega)).1 (own_m31 hnx (by omega)).2 (by omega) (g := (mkF m 79 #[.val (.ref ab), .val (.ref ac), .val (.int p2), .val (.int p3), .val (.int nn), .val (.int pj)] [(.int (fP7 i)), (.int (nx &&& (31 : Int32))), (.ref bk')])) rfl rfl (hb hby d12_79)
      have N289 := Fr.snoc X289 N1f hgk267
      have Z289 : n0 ≤ h289.size := by rw [W289.size]; exact z1f
      obtain ⟨Lh289, X289h, N289h⟩ : ∃ L, Stand p l e ({ frames := 3, cells := 0, slots := 0, locals := 45 } : Room) s m #[(.ref ab), (.ref ac), (.int p2), (.int p3)] below meth c T289 L 0 0 ∧ Fr n0 L := ⟨_, X289, N289⟩
      clear X289 N289 X288 e288
      refine Done.go st289 ?_
      clear st289
      show Done p e s below _ _ _ T289 (mkF m 80 #[.val (.ref ab), .val (.ref ac), .val (.int p2), .val (.int p3), .val (.int nn), .val (.int pj)] [])
      refine Done.go (fun _ kt_ => XS.aloadN X289h.here hx rfl (hb hby d12_80) rfl rfl kt_) ?_
      show Done p e s below _ _ _ T289 (mkF m 81 #[.val (.ref ab), .val (.ref ac), .val (.int p2), .val (.int p3), .val (.int nn), .val (.int pj)] [(.ref ac)])
      refine Done.go (fun _ kt_ => XS.dup X289h.here hx rfl (hb hby d12_81) rfl rfl kt_) ?_
      show Done p e s below _ _ _ T289 (mkF m 82 #[.val (.ref ab), .val (.ref ac), .val (.int p2), .val (.int p3), .val (.int nn), .val (.int pj)] [(.ref ac), (.ref ac)])
      have f290 := (Cnext7.other W289 (Or.inl (Ne.symm k2_)))
      refine Done.go (own_getFR X289h hx hZ hown (hw _ (List.mem_of_getElem? (i := 75) rfl)) e289 f290 (g := (mkF m 82 #[.val (.ref ab), .val (.ref ac), .val (.int p2), .val (.int p3), .val (.int nn), .val (.int pj)] [(.ref ac), (.ref ac)])) rfl rfl (hb hby d12_82)) ?_
      show Done p e s below _ _ _ T289 (mkF m 85 #[.val (.ref ab), .val (.ref ac), .val (.int p2), .val (.int p3), .val (.int nn), .val (.int pj)] [(.int nx), (.ref ac)])
      refine Done.go (fun _ kt_ => XS.iconst X289h.here hx rfl (hb hby d12_85) kt_) ?_
      show Done p e s below _ _ _ T289 (mkF m 86 #[.val (.ref ab), .val (.ref ac), .val (.int p2), .val (.int p3), .val (.int nn), .val (.int pj)] [(.int (1 : Int32)), (.int nx), (.ref ac)])
      refine Done.go (fun _ kt_ => XS.iadd X289h.here hx rfl (hb hby d12_86) rfl kt_) ?_
      show Done p e s below _ _ _ T289 (mkF m 87 #[.val (.ref ab), .val (.ref ac), .val (.int p2), .val (.int p3), .val (.int nn), .val (.int pj)] [(.int (nx + (1 : Int32))), (.ref ac)])
      have f291 := (Ec7.wr W289)
      obtain ⟨T292, h292, X292, e292, W292, st292⟩ := own_putFR X289h hx hZ hown (hw _ (List.mem_of_getElem? (i := 75) rfl)) e289 f290 f291 (hw _ (List.mem_of_getElem? (i := 57) rfl)) (hw _ (List.mem_of_getElem? (i := 43) rfl)) (ty := .int) (by decide) rfl rfl (g := (mkF m 87 #[.val (.ref ab), .val (.ref ac), .val (.int p2), .val (.int p3), .val (.int nn), .val (.int pj)] [(.int (nx + (1 : Int32))), (.ref ac)])) rfl rfl (hb hby d12_87)
      have Fw292 : Fld Z h292 ac "com/example/pivotwise/pivotwise/index/PostingBuffer$Chain" "next" "I" (.int (nx + (1 : Int32))) := f290.same W292
      have N292 := Fr.snoc X292 N289h gc
      have Z292 : n0 ≤ h292.size := by rw [W292.size]; exact Z289
      obtain ⟨Lh292, X292h, N292h⟩ : ∃ L, Stand p l e ({ frames := 3, cells := 0, slots := 0, locals := 45 } : Room) s m #[(.ref ab), (.ref ac), (.int p2), (.int p3)] below meth c T292 L 0 0 ∧ Fr n0 L := ⟨_, X292, N292⟩
      clear X292 N292 X289h e289 N289h Z289
      refine Done.go st292 ?_
      clear st292
      show Done p e s below _ _ _ T292 (mkF m 90 #[.val (.ref ab), .val (.ref ac), .val (.int p2), .val (.int p3), .val (.int nn), .val (.int pj)] [])
      refine Done.go (fun _ kt_ => XS.iinc X292h.here hx rfl (hb hby d12_90) rfl (l' := #[.val (.ref ab), .val (.ref ac), .val (.int p2), .val (.int p3), .val (.int nn), .val (.int (pj + (1 : Int32)))]) rfl kt_) ?_
      show Done p e s below _ _ _ T292 (mkF m 93 #[.val (.ref ab), .val (.ref ac), .val (.int p2), .val (.int p3), .val (.int nn), .val (.int (pj + (1 : Int32)))] [])
      refine Done.go (fun _ kt_ => XS.goto X292h.here hx rfl (pc0 := 93) (pc' := 24) rfl (hb hby d12_93) (by decide) (by decide) kt_) ?_
      show Done p e s below _ _ _ T292 (mkF m 24 #[.val (.ref ab), .val (.ref ac), .val (.int p2), .val (.int p3), .val (.int nn), .val (.int (pj + (1 : Int32)))] [])
      have f293 := ((Ea7.wr W289).wr W292)
      have f294 := (f291.wr W292)
      have f295 := ((Pposting7.other W289 (Or.inl (Ne.symm k1_))).other W292 (Or.inl d1))
      have f296 := ((PblockBits7.other W289 (Or.inl (Ne.symm k1_))).other W292 (Or.inl d1))
      have f297 := ((PblockSize7.other W289 (Or.inl (Ne.symm k1_))).other W292 (Or.inl d1))
      have f298 := ((PmostSlice7.other W289 (Or.inl (Ne.symm k1_))).other W292 (Or.inl d1))
      have f299 := ((Pblocks7.other W289 (Or.inl (Ne.symm k1_))).other W292 (Or.inl d1))
      have f300 := ((Ptaken7.other W289 (Or.inl (Ne.symm k1_))).other W292 (Or.inl d1))
      have f301 := ((Pblock7.other W289 (Or.inl (Ne.symm k1_))).other W292 (Or.inl d1))
      have f302 := ((Cfirst7.other W289 (Or.inl (Ne.symm k2_))).other W292 (Or.inr (slot_ne (Or.inl (hw _ (List.mem_of_getElem? (i := 50) rfl))) (Or.inl (hw _ (List.mem_of_getElem? (i := 57) rfl))) (by decide) (t := .int) (t' := .int) (by decide) (by decide))))
      have f303 := ((Cend7.other W289 (Or.inl (Ne.symm k2_))).other W292 (Or.inr (slot_ne (Or.inl (hw _ (List.mem_of_getElem? (i := 59) rfl))) (Or.inl (hw _ (List.mem_of_getElem? (i := 57) rfl))) (by decide) (t := .int) (t' := .int) (by decide) (by decide))))
      have f304 := ((Cslice7.other W289 (Or.inl (Ne.symm k2_))).other W292 (Or.inr (slot_ne (Or.inl (hw _ (List.mem_of_getElem? (i := 61) rfl))) (Or.inl (hw _ (List.mem_of_getElem? (i := 57) rfl))) (by decide) (t := .int) (t' := .int) (by decide) (by decide))))
      have f305 := ((Clength7.other W289 (Or.inl (Ne.symm k2_))).other W292 (Or.inr (slot_ne (Or.inl (hw _ (List.mem_of_getElem? (i := 63) rfl))) (Or.inl (hw _ (List.mem_of_getElem? (i := 57) rfl))) (by decide) (t := .int) (t' := .int) (by decide) (by decide))))
      have f306 := ((VP7.other W289 (Ne.symm k3_)).other W292 (Ne.symm d4))
      have f307 := ((BB7.other W289 (Ne.symm k4_)).other W292 (Ne.symm d5))
      have f308 := (V289.other W292 k2_)
      refine ih (i + 1) _ _ _ _ _ _ (by omega) (by omega) (own_inc (i := i) hpj (by omega)) (own_inc (i := 16 + i) hnx (by omega)) X292h e292 N292h Z292 ?_ ⟨f293, f294, f295, f296, f297, f298, f299, f300, f301, f302, Fw292, f303, f304, f305, ⟨_, f306⟩, f307⟩ f308
      rw [W292.size, W289.size]; exact s1f
  show Done p e s below _ _ _ T267 (mkF m 47 #[.val (.ref ab), .val (.ref ac), .val (.int p2), .val (.int p3), .val (.int nn), .val (.int (0 : Int32))] [])
  refine Done.go (fun _ kt_ => XS.aloadN X267h.here hx rfl (hb hby d12_47) rfl rfl kt_) ?_
  show Done p e s below _ _ _ T267 (mkF m 48 #[.val (.ref ab), .val (.ref ac), .val (.int p2), .val (.int p3), .val (.int nn), .val (.int (0 : Int32))] [(.ref ab)])
  obtain ⟨T309, X309, e309, st309⟩ := getF X267h hx hZ hown (host := "") (Or.inl (hw _ (List.mem_of_getElem? (i := 40) rfl))) Via.refl rfl Pblocks9 (g := (mkF m 48 #[.val (.ref ab), .val (.ref ac), .val (.int p2), .val (.int p3), .val (.int nn), .val (.int (0 : Int32))] [(.ref ab)])) rfl rfl (hb hby d12_48)
  refine Done.go st309 ?_
  clear st309 X267h
  show Done p e s below _ _ _ T309 (mkF m 51 #[.val (.ref ab), .val (.ref ac), .val (.int p2), .val (.int p3), .val (.int nn), .val (.int (0 : Int32))] [(.ref bB)])
  refine Done.go (fun _ kt_ => XS.aloadN X309.here hx rfl (hb hby d12_51) rfl rfl kt_) ?_
  show Done p e s below _ _ _ T309 (mkF m 52 #[.val (.ref ab), .val (.ref ac), .val (.int p2), .val (.int p3), .val (.int nn), .val (.int (0 : Int32))] [(.ref ac), (.ref bB)])
  refine Done.go (own_getFR X309 hx hZ hown (hw _ (List.mem_of_getElem? (i := 75) rfl)) e309 Cnext9 (g := (mkF m 52 #[.val (.ref ab), .val (.ref ac), .val (.int p2), .val (.int p3), .val (.int nn), .val (.int (0 : Int32))] [(.ref ac), (.ref bB)])) rfl rfl (hb hby d12_52)) ?_
  show Done p e s below _ _ _ T309 (mkF m 55 #[.val (.ref ab), .val (.ref ac), .val (.int p2), .val (.int p3), .val (.int nn), .val (.int (0 : Int32))] [(.int (16 : Int32)), (.ref bB)])
  refine Done.go (fun _ kt_ => XS.aloadN X309.here hx rfl (hb hby d12_55) rfl rfl kt_) ?_
  show Done p e s below _ _ _ T309 (mkF m 56 #[.val (.ref ab), .val (.ref ac), .val (.int p2), .val (.int p3), .val (.int nn), .val (.int (0 : Int32))] [(.ref ab), (.int (16 : Int32)), (.ref bB)])
  obtain ⟨T310, X310, e310, st310⟩ := getF X309 hx hZ hown (host := "") (Or.inl (hw _ (List.mem_of_getElem? (i := 28) rfl))) Via.refl e309 PblockBits9 (g := (mkF m 56 #[.val (.ref ab), .val (.ref ac), .val (.int p2), .val (.int p3), .val (.int nn), .val (.int (0 : Int32))] [(.ref ab), (.int (16 : Int32)), (.ref bB)])) rfl rfl (hb hby d12_56)
  refine Done.go st310 ?_
  clear st310 X309 e309
  show Done p e s below _ _ _ T310 (mkF m 59 #[.val (.ref ab), .val (.ref ac), .val (.int p2), .val (.int p3), .val (.int nn), .val (.int (0 : Int32))] [(.int (5 : Int32)), (.int (16 : Int32)), (.ref bB)])
  refine Done.go (fun _ kt_ => XS.iushr X310.here hx rfl (hb hby d12_59) rfl kt_) ?_
  show Done p e s below _ _ _ T310 (mkF m 60 #[.val (.ref ab), .val (.ref ac), .val (.int p2), .val (.int p3), .val (.int nn), .val (.int (0 : Int32))] [(.int (((16 : Int32).toUInt32 >>> ((5 : Int32) &&& 31).toUInt32).toInt32)), (.ref bB)])
  rw [show (((16 : Int32).toUInt32 >>> ((5 : Int32) &&& 31).toUInt32).toInt32) = (0 : Int32) from by decide]
  show Done p e s below _ _ _ T310 (mkF m 60 #[.val (.ref ab), .val (.ref ac), .val (.int p2), .val (.int p3), .val (.int nn), .val (.int (0 : Int32))] [(.int (0 : Int32)), (.ref bB)])
  refine Done.ldBlk X310 hx hZ e310 BB9 (j := (0 : Int32)) rfl (hb hby d12_60) ?_
  show Done p e s below _ _ _ T310 (mkF m 61 #[.val (.ref ab), .val (.ref ac), .val (.int p2), .val (.int p3), .val (.int nn), .val (.int (0 : Int32))] [(.ref bk')])
  refine Done.go (fun _ kt_ => XS.aloadN X310.here hx rfl (hb hby d12_61) rfl rfl kt_) ?_
  show Done p e s below _ _ _ T310 (mkF m 62 #[.val (.ref ab), .val (.ref ac), .val (.int p2), .val (.int p3), .val (.int nn), .val (.int (0 : Int32))] [(.ref ac), (.ref bk')])
  refine Done.go (own_getFR X310 hx hZ hown (hw _ (List.mem_of_getElem? (i := 75) rfl)) e310 Cnext9 (g := (mkF m 62 #[.val (.ref ab), .val (.ref ac), .val (.int p2), .val (.int p3), .val (.int nn), .val (.int (0 : Int32))] [(.ref ac), (.ref bk')])) rfl rfl (hb hby d12_62)) ?_
  show Done p e s below _ _ _ T310 (mkF m 65 #[.val (.ref ab), .val (.ref ac), .val (.int p2), .val (.int p3), .val (.int nn), .val (.int (0 : Int32))] [(.int (16 : Int32)), (.ref bk')])
  refine Done.go (fun _ kt_ => XS.aloadN X310.here hx rfl (hb hby d12_65) rfl rfl kt_) ?_
  show Done p e s below _ _ _ T310 (mkF m 66 #[.val (.ref ab), .val (.ref ac), .val (.int p2), .val (.int p3), .val (.int nn), .val (.int (0 : Int32))] [(.ref ab), (.int (16 : Int32)), (.ref bk')])
  obtain ⟨T311, X311, e311, st311⟩ := getF X310 hx hZ hown (host := "") (Or.inl (hw _ (List.mem_of_getElem? (i := 30) rfl))) Via.refl e310 PblockSize9 (g := (mkF m 66 #[.val (.ref ab), .val (.ref ac), .val (.int p2), .val (.int p3), .val (.int nn), .val (.int (0 : Int32))] [(.ref ab), (.int (16 : Int32)), (.ref bk')])) rfl rfl (hb hby d12_66)
  refine Done.go st311 ?_
  clear st311 X310 e310
  show Done p e s below _ _ _ T311 (mkF m 69 #[.val (.ref ab), .val (.ref ac), .val (.int p2), .val (.int p3), .val (.int nn), .val (.int (0 : Int32))] [(.int (32 : Int32)), (.int (16 : Int32)), (.ref bk')])
  refine Done.go (fun _ kt_ => XS.iconst X311.here hx rfl (hb hby d12_69) kt_) ?_
  show Done p e s below _ _ _ T311 (mkF m 70 #[.val (.ref ab), .val (.ref ac), .val (.int p2), .val (.int p3), .val (.int nn), .val (.int (0 : Int32))] [(.int (1 : Int32)), (.int (32 : Int32)), (.int (16 : Int32)), (.ref bk')])
  refine Done.go (fun _ kt_ => XS.isub X311.here hx rfl (hb hby d12_70) rfl kt_) ?_
  show Done p e s below _ _ _ T311 (mkF m 71 #[.val (.ref ab), .val (.ref ac), .val (.int p2), .val (.int p3), .val (.int nn), .val (.int (0 : Int32))] [(.int ((32 : Int32) - (1 : Int32))), (.int (16 : Int32)), (.ref bk')])
  rw [show ((32 : Int32) - (1 : Int32)) = (31 : Int32) from by decide]
  show Done p e s below _ _ _ T311 (mkF m 71 #[.val (.ref ab), .val (.ref ac), .val (.int p2), .val (.int p3), .val (.int nn), .val (.int (0 : Int32))] [(.int (31 : Int32)), (.int (16 : Int32)), (.ref bk')])
  refine Done.go (fun _ kt_ => XS.iand X311.here hx rfl (hb hby d12_71) rfl kt_) ?_
  show Done p e s below _ _ _ T311 (mkF m 72 #[.val (.ref ab), .val (.ref ac), .val (.int p2), .val (.int p3), .val (.int nn), .val (.int (0 : Int32))] [(.int ((16 : Int32) &&& (31 : Int32))), (.ref bk')])
  rw [show ((16 : Int32) &&& (31 : Int32)) = (16 : Int32) from by decide]
  show Done p e s below _ _ _ T311 (mkF m 72 #[.val (.ref ab), .val (.ref ac), .val (.int p2), .val (.int p3), .val (.int nn), .val (.int (0 : Int32))] [(.int (16 : Int32)), (.ref bk')])
  refine Done.go (fun _ kt_ => XS.aloadN X311.here hx rfl (hb hby d12_72) rfl rfl kt_) ?_
  show Done p e s below _ _ _ T311 (mkF m 73 #[.val (.ref ab), .val (.ref ac), .val (.int p2), .val (.int p3), .val (.int nn), .val (.int (0 : Int32))] [(.ref ab), (.int (16 : Int32)), (.ref bk')])
  obtain ⟨T312, X312, e312, st312⟩ := getF X311 hx hZ hown (host := "") (Or.inl (hw _ (List.mem_of_getElem? (i := 12) rfl))) Via.refl e311 Pposting9 (g := (mkF m 73 #[.val (.ref ab), .val (.ref ac), .val (.int p2), .val (.int p3), .val (.int nn), .val (.int (0 : Int32))] [(.ref ab), (.int (16 : Int32)), (.ref bk')])) rfl rfl (hb hby d12_73)
  refine Done.go st312 ?_
  clear st312 X311 e311
  show Done p e s below _ _ _ T312 (mkF m 76 #[.val (.ref ab), .val (.ref ac), .val (.int p2), .val (.int p3), .val (.int nn), .val (.int (0 : Int32))] [(.ref bP), (.int (16 : Int32)), (.ref bk')])
  refine Done.go (fun _ kt_ => XS.iload X312.here hx rfl (hb hby d12_76) rfl kt_) ?_
  show Done p e s below _ _ _ T312 (mkF m 78 #[.val (.ref ab), .val (.ref ac), .val (.int p2), .val (.int p3), .val (.int nn), .val (.int (0 : Int32))] [(.int (0 : Int32)), (.ref bP), (.int (16 : Int32)), (.ref bk')])
  refine Done.ldB X312 hx hZ e312 VP9 (j := (0 : Int32)) (w := (fP9 0)) 0 (by decide) rfl (by decide) rfl (hb hby d12_78) ?_
  show Done p e s below _ _ _ T312 (mkF m 79 #[.val (.ref ab), .val (.ref ac), .val (.int p2), .val (.int p3), .val (.int nn), .val (.int (0 : Int32))] [(.int (fP9 0)), (.int (16 : Int32)), (.ref bk')])
  obtain ⟨T313, h313, X313, e313, W313, V313, st313⟩ := own_stB X312 hx hZ e312 Vk267 (j := (16 : Int32)) 16 (by decide) rfl (by decide) (g := (mkF m 79 #[.val (.ref ab), .val (.ref ac), .val (.int p2), .val (.int p3), .val (.int nn), .val (.int (0 : Int32))] [(.int (fP9 0)), (.int (16 : Int32)), (.ref bk')])) rfl rfl (hb hby d12_79)
  have N313 := Fr.snoc X313 N267h hgk267
  have Z313 : n0 ≤ h313.size := by rw [W313.size]; exact Z267
  obtain ⟨Lh313, X313h, N313h⟩ : ∃ L, Stand p l e ({ frames := 3, cells := 0, slots := 0, locals := 45 } : Room) s m #[(.ref ab), (.ref ac), (.int p2), (.int p3)] below meth c T313 L 0 0 ∧ Fr n0 L := ⟨_, X313, N313⟩
  clear X313 N313 X312 e312 N267h Z267
  refine Done.go st313 ?_
  clear st313
  show Done p e s below _ _ _ T313 (mkF m 80 #[.val (.ref ab), .val (.ref ac), .val (.int p2), .val (.int p3), .val (.int nn), .val (.int (0 : Int32))] [])
  refine Done.go (fun _ kt_ => XS.aloadN X313h.here hx rfl (hb hby d12_80) rfl rfl kt_) ?_
  show Done p e s below _ _ _ T313 (mkF m 81 #[.val (.ref ab), .val (.ref ac), .val (.int p2), .val (.int p3), .val (.int nn), .val (.int (0 : Int32))] [(.ref ac)])
  refine Done.go (fun _ kt_ => XS.dup X313h.here hx rfl (hb hby d12_81) rfl rfl kt_) ?_
  show Done p e s below _ _ _ T313 (mkF m 82 #[.val (.ref ab), .val (.ref ac), .val (.int p2), .val (.int p3), .val (.int nn), .val (.int (0 : Int32))] [(.ref ac), (.ref ac)])
  have f314 := (Cnext9.other W313 (Or.inl (Ne.symm k2_)))
  refine Done.go (own_getFR X313h hx hZ hown (hw _ (List.mem_of_getElem? (i := 75) rfl)) e313 f314 (g := (mkF m 82 #[.val (.ref ab), .val (.ref ac), .val (.int p2), .val (.int p3), .val (.int nn), .val (.int (0 : Int32))] [(.ref ac), (.ref ac)])) rfl rfl (hb hby d12_82)) ?_
  show Done p e s below _ _ _ T313 (mkF m 85 #[.val (.ref ab), .val (.ref ac), .val (.int p2), .val (.int p3), .val (.int nn), .val (.int (0 : Int32))] [(.int (16 : Int32)), (.ref ac)])
  refine Done.go (fun _ kt_ => XS.iconst X313h.here hx rfl (hb hby d12_85) kt_) ?_
  show Done p e s below _ _ _ T313 (mkF m 86 #[.val (.ref ab), .val (.ref ac), .val (.int p2), .val (.int p3), .val (.int nn), .val (.int (0 : Int32))] [(.int (1 : Int32)), (.int (16 : Int32)), (.ref ac)])
  refine Done.go (fun _ kt_ => XS.iadd X313h.here hx rfl (hb hby d12_86) rfl kt_) ?_
  show Done p e s below _ _ _ T313 (mkF m 87 #[.val (.ref ab), .val (.ref ac), .val (.int p2), .val (.int p3), .val (.int nn), .val (.int (0 : Int32))] [(.int ((16 : Int32) + (1 : Int32))), (.ref ac)])
  rw [show ((16 : Int32) + (1 : Int32)) = (17 : Int32) from by decide]
  show Done p e s below _ _ _ T313 (mkF m 87 #[.val (.ref ab), .val (.ref ac), .val (.int p2), .val (.int p3), .val (.int nn), .val (.int (0 : Int32))] [(.int (17 : Int32)), (.ref ac)])
  have f315 := (Ec9.wr W313)
  obtain ⟨T316, h316, X316, e316, W316, st316⟩ := own_putFR X313h hx hZ hown (hw _ (List.mem_of_getElem? (i := 75) rfl)) e313 f314 f315 (hw _ (List.mem_of_getElem? (i := 57) rfl)) (hw _ (List.mem_of_getElem? (i := 43) rfl)) (ty := .int) (by decide) rfl rfl (g := (mkF m 87 #[.val (.ref ab), .val (.ref ac), .val (.int p2), .val (.int p3), .val (.int nn), .val (.int (0 : Int32))] [(.int (17 : Int32)), (.ref ac)])) rfl rfl (hb hby d12_87)
  have Fw316 : Fld Z h316 ac "com/example/pivotwise/pivotwise/index/PostingBuffer$Chain" "next" "I" (.int (17 : Int32)) := f314.same W316
  have N316 := Fr.snoc X316 N313h gc
  have Z316 : n0 ≤ h316.size := by rw [W316.size]; exact Z313
  obtain ⟨Lh316, X316h, N316h⟩ : ∃ L, Stand p l e ({ frames := 3, cells := 0, slots := 0, locals := 45 } : Room) s m #[(.ref ab), (.ref ac), (.int p2), (.int p3)] below meth c T316 L 0 0 ∧ Fr n0 L := ⟨_, X316, N316⟩
  clear X316 N316 X313h e313 N313h Z313
  refine Done.go st316 ?_
  clear st316
  show Done p e s below _ _ _ T316 (mkF m 90 #[.val (.ref ab), .val (.ref ac), .val (.int p2), .val (.int p3), .val (.int nn), .val (.int (0 : Int32))] [])
  refine Done.go (fun _ kt_ => XS.iinc X316h.here hx rfl (hb hby d12_90) rfl (l' := #[.val (.ref ab), .val (.ref ac), .val (.int p2), .val (.int p3), .val (.int nn), .val (.int ((0 : Int32) + (1 : Int32)))]) rfl kt_) ?_
  show Done p e s below _ _ _ T316 (mkF m 93 #[.val (.ref ab), .val (.ref ac), .val (.int p2), .val (.int p3), .val (.int nn), .val (.int ((0 : Int32) + (1 : Int32)))] [])
  refine Done.go (fun _ kt_ => XS.goto X316h.here hx rfl (pc0 := 93) (pc' := 24) rfl (hb hby d12_93) (by decide) (by decide) kt_) ?_
  show Done p e s below _ _ _ T316 (mkF m 24 #[.val (.ref ab), .val (.ref ac), .val (.int p2), .val (.int p3), .val (.int nn), .val (.int ((0 : Int32) + (1 : Int32)))] [])
  have f317 := ((Ea9.wr W313).wr W316)
  have f318 := (f315.wr W316)
  have f319 := ((Pposting9.other W313 (Or.inl (Ne.symm k1_))).other W316 (Or.inl d1))
  have f320 := ((PblockBits9.other W313 (Or.inl (Ne.symm k1_))).other W316 (Or.inl d1))
  have f321 := ((PblockSize9.other W313 (Or.inl (Ne.symm k1_))).other W316 (Or.inl d1))
  have f322 := ((PmostSlice9.other W313 (Or.inl (Ne.symm k1_))).other W316 (Or.inl d1))
  have f323 := ((Pblocks9.other W313 (Or.inl (Ne.symm k1_))).other W316 (Or.inl d1))
  have f324 := ((Ptaken9.other W313 (Or.inl (Ne.symm k1_))).other W316 (Or.inl d1))
  have f325 := ((Pblock9.other W313 (Or.inl (Ne.symm k1_))).other W316 (Or.inl d1))
  have f326 := ((Cfirst9.other W313 (Or.inl (Ne.symm k2_))).other W316 (Or.inr (slot_ne (Or.inl (hw _ (List.mem_of_getElem? (i := 50) rfl))) (Or.inl (hw _ (List.mem_of_getElem? (i := 57) rfl))) (by decide) (t := .int) (t' := .int) (by decide) (by decide))))
  have f327 := ((Cend9.other W313 (Or.inl (Ne.symm k2_))).other W316 (Or.inr (slot_ne (Or.inl (hw _ (List.mem_of_getElem? (i := 59) rfl))) (Or.inl (hw _ (List.mem_of_getElem? (i := 57) rfl))) (by decide) (t := .int) (t' := .int) (by decide) (by decide))))
  have f328 := ((Cslice9.other W313 (Or.inl (Ne.symm k2_))).other W316 (Or.inr (slot_ne (Or.inl (hw _ (List.mem_of_getElem? (i := 61) rfl))) (Or.inl (hw _ (List.mem_of_getElem? (i := 57) rfl))) (by decide) (t := .int) (t' := .int) (by decide) (by decide))))
  have f329 := ((Clength9.other W313 (Or.inl (Ne.symm k2_))).other W316 (Or.inr (slot_ne (Or.inl (hw _ (List.mem_of_getElem? (i := 63) rfl))) (Or.inl (hw _ (List.mem_of_getElem? (i := 57) rfl))) (by decide) (t := .int) (t' := .int) (by decide) (by decide))))
  have f330 := ((VP9.other W313 (Ne.symm k3_)).other W316 (Ne.symm d4))
  have f331 := ((BB9.other W313 (Ne.symm k4_)).other W316 (Ne.symm d5))
  have f332 := (V313.other W316 k2_)
  refine loop (N1 + N2 - 1) 1 _ _ _ _ _ _ (by omega) (by omega) (by decide) (by decide) X316h e316 N316h Z316 ?_ ⟨f317, f318, f319, f320, f321, f322, f323, f324, f325, f326, Fw316, f327, f328, f329, ⟨_, f330⟩, f331⟩ f332
  rw [W316.size, W313.size]; exact HS
def Q15 (p1 : Int32) (h0 : Heap) (n0 : Nat) (r : Option Value) (h : Heap) (L : List Loc) : Prop := ∃ (z : Int32) (N : Nat), r = some (.int z) ∧ z.toInt = (N : Int) ∧ 1 ≤ N ∧ N ≤ 5 ∧ own_isN p1.toInt64 N ∧ Fr n0 L ∧ h = h0
theorem d15_0 : decode method_2_code 0 = .ok (.iload_n 0, 1) := by decide +kernel
theorem d15_1 : decode method_2_code 1 = .ok (.sipush 128, 3) := by decide +kernel
theorem d15_4 : decode method_2_code 4 = .ok (.if_icmp .ge 5, 3) := by decide +kernel
theorem d15_7 : decode method_2_code 7 = .ok (.iconst 1, 1) := by decide +kernel
theorem d15_8 : decode method_2_code 8 = .ok (.ireturn, 1) := by decide +kernel
theorem d15_9 : decode method_2_code 9 = .ok (.iload_n 0, 1) := by decide +kernel
theorem d15_10 : decode method_2_code 10 = .ok (.sipush 16384, 3) := by decide +kernel
theorem d15_13 : decode method_2_code 13 = .ok (.if_icmp .ge 5, 3) := by decide +kernel
theorem d15_16 : decode method_2_code 16 = .ok (.iconst 2, 1) := by decide +kernel
theorem d15_17 : decode method_2_code 17 = .ok (.ireturn, 1) := by decide +kernel
theorem d15_18 : decode method_2_code 18 = .ok (.iload_n 0, 1) := by decide +kernel
theorem d15_19 : decode method_2_code 19 = .ok (.ldc 7, 2) := by decide +kernel
theorem d15_21 : decode method_2_code 21 = .ok (.if_icmp .ge 5, 3) := by decide +kernel
theorem d15_24 : decode method_2_code 24 = .ok (.iconst 3, 1) := by decide +kernel
theorem d15_25 : decode method_2_code 25 = .ok (.ireturn, 1) := by decide +kernel
theorem d15_26 : decode method_2_code 26 = .ok (.iload_n 0, 1) := by decide +kernel
theorem d15_27 : decode method_2_code 27 = .ok (.ldc 8, 2) := by decide +kernel
theorem d15_29 : decode method_2_code 29 = .ok (.if_icmp .ge 5, 3) := by decide +kernel
theorem d15_32 : decode method_2_code 32 = .ok (.iconst 4, 1) := by decide +kernel
theorem d15_33 : decode method_2_code 33 = .ok (.ireturn, 1) := by decide +kernel
theorem d15_34 : decode method_2_code 34 = .ok (.iconst 5, 1) := by decide +kernel
theorem d15_35 : decode method_2_code 35 = .ok (.ireturn, 1) := by decide +kernel
theorem own_pn5 : plainName "com/example/pivotwise/pivotwise/index/ChainClearPinLaw" = true := by first | (simp [plainName, overriddenIn]; done) | decide +kernel
theorem ef_rm15 (m : MethodId) (p1 : Int32) : entryFrame m #[(.int p1)] 1 = mkF m 0 #[.val (.int p1)] [] := by first | (simp [entryFrame, mkF, argsToLocals, Value.category]; done) | rfl
set_option maxRecDepth 65536 in
set_option maxHeartbeats 40000000 in
theorem rm15 (l : Launch) (Z : State) (a0 : Array Value) (hw : ∀ d ∈ tables_1, d.before a0 Z = true) (ws : List Jvm.Cond) (p1 : Int32) (h0 : Heap) (n0 : Nat) (Z0 : n0 ≤ h0.size) :
    MetFree l (⟨"com/example/pivotwise/pivotwise/index/ChainClearPinLaw", "vlen", "(I)I"⟩ : MethodName) (head1 (Jvm.Cond.code (⟨"com/example/pivotwise/pivotwise/index/ChainClearPinLaw", "vlen", "(I)I"⟩ : MethodName) method_2_code 1 (some .int) :: ws) ({ frames := 0, cells := 0, slots := 0, locals := 0 } : Room)) (fun a U => a = #[(.int p1)] ∧ Z.Warmed39 U.vm ∧ U.heap = h0) (fun _ _ _ _ _ => True) (fun _ U o U' => ∃ vr Lr, o = .returned vr ∧ Q15 p1 h0 n0 vr U'.heap Lr ∧ FrameEnd U o U' Lr 0 0) := by
  refine MetFree.of_bodySF (plainFor_of_name own_pn5) hisR ?_
  intro p e s m args below meth c s₁ Bd hml0 hP hK
  obtain ⟨rfl, hZ, hh⟩ := hP
  have hx := Bd.exec
  have hby := Bd.bytes
  have hml : c.maxLocals = 1 := hml0
  have hown : s.vm.findClass "com/example/pivotwise/pivotwise/index/ChainClearPinLaw" = some m.cls := findClass_of_methodNamed Bd.named
  have hnm := (name_of_methodNamed Bd.named Bd.method).1
  have hlk : meth.locks = false := Bd.notSynchronized
  have hrt := Bd.returns
  have X0 : Stand p l e ({ frames := 0, cells := 0, slots := 0, locals := 0 } : Room) s m #[(.int p1)] below meth c s₁ [] 0 0 := Stand.of_body Bd
  have e0 : s₁.heap = h0 := by rw [← hh, Bd.state]; rfl
  have N0 := Fr.nil n0
  show Done p e s below 0 0 (Q15 p1 h0 n0) s₁ (entryFrame m #[(.int p1)] 1)
  rw [ef_rm15]
  show Done p e s below _ _ _ s₁ (mkF m 0 #[.val (.int p1)] [])
  refine Done.go (fun _ kt_ => XS.iloadN X0.here hx rfl (hb hby d15_0) rfl kt_) ?_
  show Done p e s below _ _ _ s₁ (mkF m 1 #[.val (.int p1)] [(.int p1)])
  refine Done.go (fun _ kt_ => XS.sipush X0.here hx rfl (hb hby d15_1) kt_) ?_
  show Done p e s below _ _ _ s₁ (mkF m 4 #[.val (.int p1)] [(.int (128 : Int32)), (.int p1)])
  by_cases hc4 : p1 < (128 : Int32)
  · skip
    refine Done.go (fun _ kt_ => XS.icmpNo X0.here hx rfl (hb hby d15_4) rfl (tlt hc4).2.1 kt_) ?_
    show Done p e s below _ _ _ s₁ (mkF m 7 #[.val (.int p1)] [])
    refine Done.go (fun _ kt_ => XS.iconst X0.here hx rfl (hb hby d15_7) kt_) ?_
    show Done p e s below _ _ _ s₁ (mkF m 8 #[.val (.int p1)] [(.int (1 : Int32))])
    refine Done.retI X0 hx hlk hrt (hb hby d15_8) ?_ (by first | decide | omega) (by first | decide | omega)
    rw [e0]
    refine ⟨_, 1, rfl, by decide, by decide, by decide, ⟨?_, ?_⟩, N0, rfl⟩
    · exact by rw [own_wide]; have q := Int32.lt_iff_toInt_lt.mp hc4; rw [show (128 : Int32).toInt = 128 from by decide] at q; exact q
    · exact Or.inl rfl
  · skip
    refine Done.go (fun _ kt_ => XS.icmpYes X0.here hx rfl (pc0 := 4) (pc' := 9) rfl (hb hby d15_4) rfl (flt hc4).2.1 (by decide) (by decide) kt_) ?_
    show Done p e s below _ _ _ s₁ (mkF m 9 #[.val (.int p1)] [])
    refine Done.go (fun _ kt_ => XS.iloadN X0.here hx rfl (hb hby d15_9) rfl kt_) ?_
    show Done p e s below _ _ _ s₁ (mkF m 10 #[.val (.int p1)] [(.int p1)])
    refine Done.go (fun _ kt_ => XS.sipush X0.here hx rfl (hb hby d15_10) kt_) ?_
    show Done p e s below _ _ _ s₁ (mkF m 13 #[.val (.int p1)] [(.int (16384 : Int32)), (.int p1)])
    by_cases hc13 : p1 < (16384 : Int32)
    · skip
      refine Done.go (fun _ kt_ => XS.icmpNo X0.here hx rfl (hb hby d15_13) rfl (tlt hc13).2.1 kt_) ?_
      show Done p e s below _ _ _ s₁ (mkF m 16 #[.val (.int p1)] [])
      refine Done.go (fun _ kt_ => XS.iconst X0.here hx rfl (hb hby d15_16) kt_) ?_
      show Done p e s below _ _ _ s₁ (mkF m 17 #[.val (.int p1)] [(.int (2 : Int32))])
      refine Done.retI X0 hx hlk hrt (hb hby d15_17) ?_ (by first | decide | omega) (by first | decide | omega)
      rw [e0]
      refine ⟨_, 2, rfl, by decide, by decide, by decide, ⟨?_, ?_⟩, N0, rfl⟩
      · exact by rw [own_wide]; have q := Int32.lt_iff_toInt_lt.mp hc13; rw [show (16384 : Int32).toInt = 16384 from by decide] at q; exact q
      · exact Or.inr (by rw [own_wide]; have q := own_nt Int32.lt_iff_toInt_lt hc4; rw [show (128 : Int32).toInt = 128 from by decide] at q; exact Int.not_lt.mp q)
    · skip
      refine Done.go (fun _ kt_ => XS.icmpYes X0.here hx rfl (pc0 := 13) (pc' := 18) rfl (hb hby d15_13) rfl (flt hc13).2.1 (by decide) (by decide) kt_) ?_
      show Done p e s below _ _ _ s₁ (mkF m 18 #[.val (.int p1)] [])
      refine Done.go (fun _ kt_ => XS.iloadN X0.here hx rfl (hb hby d15_18) rfl kt_) ?_
      show Done p e s below _ _ _ s₁ (mkF m 19 #[.val (.int p1)] [(.int p1)])
      refine Done.go (fun t_ kt_ => X0.ldcInt hx hown (mvT hZ (hw _ (List.mem_of_getElem? (i := 106) rfl))) (g := (mkF m 19 #[.val (.int p1)] [(.int p1)])) rfl (hb hby d15_19) t_ kt_) ?_
      show Done p e s below _ _ _ s₁ (mkF m 21 #[.val (.int p1)] [(.int (2097152 : Int32)), (.int p1)])
      by_cases hc21 : p1 < (2097152 : Int32)
      · skip
        refine Done.go (fun _ kt_ => XS.icmpNo X0.here hx rfl (hb hby d15_21) rfl (tlt hc21).2.1 kt_) ?_
        show Done p e s below _ _ _ s₁ (mkF m 24 #[.val (.int p1)] [])
        refine Done.go (fun _ kt_ => XS.iconst X0.here hx rfl (hb hby d15_24) kt_) ?_
        show Done p e s below _ _ _ s₁ (mkF m 25 #[.val (.int p1)] [(.int (3 : Int32))])
        refine Done.retI X0 hx hlk hrt (hb hby d15_25) ?_ (by first | decide | omega) (by first | decide | omega)
        rw [e0]
        refine ⟨_, 3, rfl, by decide, by decide, by decide, ⟨?_, ?_⟩, N0, rfl⟩
        · exact by rw [own_wide]; have q := Int32.lt_iff_toInt_lt.mp hc21; rw [show (2097152 : Int32).toInt = 2097152 from by decide] at q; exact q
        · exact Or.inr (by rw [own_wide]; have q := own_nt Int32.lt_iff_toInt_lt hc13; rw [show (16384 : Int32).toInt = 16384 from by decide] at q; exact Int.not_lt.mp q)
      · skip
        refine Done.go (fun _ kt_ => XS.icmpYes X0.here hx rfl (pc0 := 21) (pc' := 26) rfl (hb hby d15_21) rfl (flt hc21).2.1 (by decide) (by decide) kt_) ?_
        show Done p e s below _ _ _ s₁ (mkF m 26 #[.val (.int p1)] [])
        refine Done.go (fun _ kt_ => XS.iloadN X0.here hx rfl (hb hby d15_26) rfl kt_) ?_
        show Done p e s below _ _ _ s₁ (mkF m 27 #[.val (.int p1)] [(.int p1)])
        refine Done.go (fun t_ kt_ => X0.ldcInt hx hown (mvT hZ (hw _ (List.mem_of_getElem? (i := 107) rfl))) (g := (mkF m 27 #[.val (.int p1)] [(.int p1)])) rfl (hb hby d15_27) t_ kt_) ?_
        show Done p e s below _ _ _ s₁ (mkF m 29 #[.val (.int p1)] [(.int (268435456 : Int32)), (.int p1)])
        by_cases hc29 : p1 < (268435456 : Int32)
        · skip
          refine Done.go (fun _ kt_ => XS.icmpNo X0.here hx rfl (hb hby d15_29) rfl (tlt hc29).2.1 kt_) ?_
          show Done p e s below _ _ _ s₁ (mkF m 32 #[.val (.int p1)] [])
          refine Done.go (fun _ kt_ => XS.iconst X0.here hx rfl (hb hby d15_32) kt_) ?_
          show Done p e s below _ _ _ s₁ (mkF m 33 #[.val (.int p1)] [(.int (4 : Int32))])
          refine Done.retI X0 hx hlk hrt (hb hby d15_33) ?_ (by first | decide | omega) (by first | decide | omega)
          rw [e0]
          refine ⟨_, 4, rfl, by decide, by decide, by decide, ⟨?_, ?_⟩, N0, rfl⟩
          · exact by rw [own_wide]; have q := Int32.lt_iff_toInt_lt.mp hc29; rw [show (268435456 : Int32).toInt = 268435456 from by decide] at q; exact q
          · exact Or.inr (by rw [own_wide]; have q := own_nt Int32.lt_iff_toInt_lt hc21; rw [show (2097152 : Int32).toInt = 2097152 from by decide] at q; exact Int.not_lt.mp q)
        · skip
          refine Done.go (fun _ kt_ => XS.icmpYes X0.here hx rfl (pc0 := 29) (pc' := 34) rfl (hb hby d15_29) rfl (flt hc29).2.1 (by decide) (by decide) kt_) ?_
          show Done p e s below _ _ _ s₁ (mkF m 34 #[.val (.int p1)] [])
          refine Done.go (fun _ kt_ => XS.iconst X0.here hx rfl (hb hby d15_34) kt_) ?_
          show Done p e s below _ _ _ s₁ (mkF m 35 #[.val (.int p1)] [(.int (5 : Int32))])
          refine Done.retI X0 hx hlk hrt (hb hby d15_35) ?_ (by first | decide | omega) (by first | decide | omega)
          rw [e0]
          refine ⟨_, 5, rfl, by decide, by decide, by decide, ⟨?_, ?_⟩, N0, rfl⟩
          · exact own_b5 p1
          · exact Or.inr (by rw [own_wide]; have q := own_nt Int32.lt_iff_toInt_lt hc29; rw [show (268435456 : Int32).toInt = 268435456 from by decide] at q; exact Int.not_lt.mp q)
def Q0 (n0 : Nat) (v : Option Value) (h : Heap) (L : List Loc) : Prop := v = some (.int 1) ∧ Fr n0 L
theorem ef_rm0 (m : MethodId) (p0 : Int32) (p1 : Int32) (p2 : Int32) (p3 : Int32) (p4 : Int32) : entryFrame m #[(.int p0), (.int p1), (.int p2), (.int p3), (.int p4)] maxLocals = mkF m 0 #[.val (.int p0), .val (.int p1), .val (.int p2), .val (.int p3), .val (.int p4), .unset, .unset, .unset, .unset, .unset, .unset, .unset, .unset, .unset, .unset, .unset] [] := by first | (simp [entryFrame, mkF, argsToLocals, Value.category, maxLocals]; done) | rfl
set_option maxRecDepth 65536 in
set_option maxHeartbeats 40000000 in
theorem rm0 (l : Launch) (Z : State) (a0 : Array Value) (hw : ∀ d ∈ tables_1, d.before a0 Z = true) (ws : List Jvm.Cond) (p0 : Int32) (p1 : Int32) (p2 : Int32) (p3 : Int32) (p4 : Int32) (h0 : Heap) (n0 : Nat) (Z0 : n0 ≤ h0.size) :
    MetFree l x (head1 (Jvm.Cond.code x code maxLocals ret :: ws) room_1) (fun a U => a = #[(.int p0), (.int p1), (.int p2), (.int p3), (.int p4)] ∧ Z.Warmed39 U.vm ∧ U.heap = h0) (fun _ _ _ _ _ => True) (fun _ U o U' => ∃ vr Lr, o = .returned vr ∧ Q0 n0 vr U'.heap Lr ∧ FrameEnd U o U' Lr 24 192) := by
  refine MetFree.of_bodySF (plainFor_of_name own_pn5) hisR ?_
  intro p e s m args below meth c s₁ Bd hml0 hP hK
  obtain ⟨rfl, hZ, hh⟩ := hP
  have hx := Bd.exec
  have hby := Bd.bytes
  have hml : c.maxLocals = 16 := hml0
  have hown : s.vm.findClass "com/example/pivotwise/pivotwise/index/ChainClearPinLaw" = some m.cls := findClass_of_methodNamed Bd.named
  have hnm := (name_of_methodNamed Bd.named Bd.method).1
  have hlk : meth.locks = false := Bd.notSynchronized
  have hrt := Bd.returns
  have X0 : Stand p l e room_1 s m #[(.int p0), (.int p1), (.int p2), (.int p3), (.int p4)] below meth c s₁ [] 0 0 := Stand.of_body Bd
  have e0 : s₁.heap = h0 := by rw [← hh, Bd.state]; rfl
  have N0 := Fr.nil n0
  show Done p e s below 24 192 (Q0 n0) s₁ (entryFrame m #[(.int p0), (.int p1), (.int p2), (.int p3), (.int p4)] maxLocals)
  rw [ef_rm0]
  show Done p e s below _ _ _ s₁ (mkF m 0 #[.val (.int p0), .val (.int p1), .val (.int p2), .val (.int p3), .val (.int p4), .unset, .unset, .unset, .unset, .unset, .unset, .unset, .unset, .unset, .unset, .unset] [])
  refine Done.go (fun _ kt_ => XS.iloadN X0.here hx rfl (hb hby at_0) rfl kt_) ?_
  show Done p e s below _ _ _ s₁ (mkF m 1 #[.val (.int p0), .val (.int p1), .val (.int p2), .val (.int p3), .val (.int p4), .unset, .unset, .unset, .unset, .unset, .unset, .unset, .unset, .unset, .unset, .unset] [(.int p1)])
  refine Done.go (fun t_ kt_ => X0.ldcInt hx hown (mvT hZ (hw _ (List.mem_of_getElem? (i := 0) rfl))) (g := (mkF m 1 #[.val (.int p0), .val (.int p1), .val (.int p2), .val (.int p3), .val (.int p4), .unset, .unset, .unset, .unset, .unset, .unset, .unset, .unset, .unset, .unset, .unset] [(.int p1)])) rfl (hb hby at_1) t_ kt_) ?_
  show Done p e s below _ _ _ s₁ (mkF m 3 #[.val (.int p0), .val (.int p1), .val (.int p2), .val (.int p3), .val (.int p4), .unset, .unset, .unset, .unset, .unset, .unset, .unset, .unset, .unset, .unset, .unset] [(.int (2147483647 : Int32)), (.int p1)])
  refine Done.go (fun _ kt_ => XS.iand X0.here hx rfl (hb hby at_3) rfl kt_) ?_
  show Done p e s below _ _ _ s₁ (mkF m 4 #[.val (.int p0), .val (.int p1), .val (.int p2), .val (.int p3), .val (.int p4), .unset, .unset, .unset, .unset, .unset, .unset, .unset, .unset, .unset, .unset, .unset] [(.int (p1 &&& (2147483647 : Int32)))])
  refine Done.go (fun _ kt_ => XS.istore X0.here hx rfl (hb hby at_4) rfl (l' := #[.val (.int p0), .val (.int p1), .val (.int p2), .val (.int p3), .val (.int p4), .val (.int (p1 &&& (2147483647 : Int32))), .unset, .unset, .unset, .unset, .unset, .unset, .unset, .unset, .unset, .unset]) rfl kt_) ?_
  have hm5 := own_pos (x := p1) (m := 2147483647) (by decide)
  show Done p e s below _ _ _ s₁ (mkF m 6 #[.val (.int p0), .val (.int p1), .val (.int p2), .val (.int p3), .val (.int p4), .val (.int (p1 &&& (2147483647 : Int32))), .unset, .unset, .unset, .unset, .unset, .unset, .unset, .unset, .unset, .unset] [])
  generalize h_m5 : (p1 &&& (2147483647 : Int32)) = m5
  rw [h_m5] at hm5
  show Done p e s below _ _ _ s₁ (mkF m 6 #[.val (.int p0), .val (.int p1), .val (.int p2), .val (.int p3), .val (.int p4), .val (.int m5), .unset, .unset, .unset, .unset, .unset, .unset, .unset, .unset, .unset, .unset] [])
  refine Done.go (fun _ kt_ => XS.iloadN X0.here hx rfl (hb hby at_6) rfl kt_) ?_
  show Done p e s below _ _ _ s₁ (mkF m 7 #[.val (.int p0), .val (.int p1), .val (.int p2), .val (.int p3), .val (.int p4), .val (.int m5), .unset, .unset, .unset, .unset, .unset, .unset, .unset, .unset, .unset, .unset] [(.int p2)])
  refine Done.go (fun t_ kt_ => X0.ldcInt hx hown (mvT hZ (hw _ (List.mem_of_getElem? (i := 0) rfl))) (g := (mkF m 7 #[.val (.int p0), .val (.int p1), .val (.int p2), .val (.int p3), .val (.int p4), .val (.int m5), .unset, .unset, .unset, .unset, .unset, .unset, .unset, .unset, .unset, .unset] [(.int p2)])) rfl (hb hby at_7) t_ kt_) ?_
  show Done p e s below _ _ _ s₁ (mkF m 9 #[.val (.int p0), .val (.int p1), .val (.int p2), .val (.int p3), .val (.int p4), .val (.int m5), .unset, .unset, .unset, .unset, .unset, .unset, .unset, .unset, .unset, .unset] [(.int (2147483647 : Int32)), (.int p2)])
  refine Done.go (fun _ kt_ => XS.iand X0.here hx rfl (hb hby at_9) rfl kt_) ?_
  show Done p e s below _ _ _ s₁ (mkF m 10 #[.val (.int p0), .val (.int p1), .val (.int p2), .val (.int p3), .val (.int p4), .val (.int m5), .unset, .unset, .unset, .unset, .unset, .unset, .unset, .unset, .unset, .unset] [(.int (p2 &&& (2147483647 : Int32)))])
  refine Done.go (fun _ kt_ => XS.istore X0.here hx rfl (hb hby at_10) rfl (l' := #[.val (.int p0), .val (.int p1), .val (.int p2), .val (.int p3), .val (.int p4), .val (.int m5), .val (.int (p2 &&& (2147483647 : Int32))), .unset, .unset, .unset, .unset, .unset, .unset, .unset, .unset, .unset]) rfl kt_) ?_
  have hm6 := own_pos (x := p2) (m := 2147483647) (by decide)
  show Done p e s below _ _ _ s₁ (mkF m 12 #[.val (.int p0), .val (.int p1), .val (.int p2), .val (.int p3), .val (.int p4), .val (.int m5), .val (.int (p2 &&& (2147483647 : Int32))), .unset, .unset, .unset, .unset, .unset, .unset, .unset, .unset, .unset] [])
  generalize h_m6 : (p2 &&& (2147483647 : Int32)) = m6
  rw [h_m6] at hm6
  show Done p e s below _ _ _ s₁ (mkF m 12 #[.val (.int p0), .val (.int p1), .val (.int p2), .val (.int p3), .val (.int p4), .val (.int m5), .val (.int m6), .unset, .unset, .unset, .unset, .unset, .unset, .unset, .unset, .unset] [])
  refine Done.go (fun _ kt_ => XS.iloadN X0.here hx rfl (hb hby at_12) rfl kt_) ?_
  show Done p e s below _ _ _ s₁ (mkF m 13 #[.val (.int p0), .val (.int p1), .val (.int p2), .val (.int p3), .val (.int p4), .val (.int m5), .val (.int m6), .unset, .unset, .unset, .unset, .unset, .unset, .unset, .unset, .unset] [(.int p3)])
  refine Done.go (fun t_ kt_ => X0.ldcInt hx hown (mvT hZ (hw _ (List.mem_of_getElem? (i := 0) rfl))) (g := (mkF m 13 #[.val (.int p0), .val (.int p1), .val (.int p2), .val (.int p3), .val (.int p4), .val (.int m5), .val (.int m6), .unset, .unset, .unset, .unset, .unset, .unset, .unset, .unset, .unset] [(.int p3)])) rfl (hb hby at_13) t_ kt_) ?_
  show Done p e s below _ _ _ s₁ (mkF m 15 #[.val (.int p0), .val (.int p1), .val (.int p2), .val (.int p3), .val (.int p4), .val (.int m5), .val (.int m6), .unset, .unset, .unset, .unset, .unset, .unset, .unset, .unset, .unset] [(.int (2147483647 : Int32)), (.int p3)])
  refine Done.go (fun _ kt_ => XS.iand X0.here hx rfl (hb hby at_15) rfl kt_) ?_
  show Done p e s below _ _ _ s₁ (mkF m 16 #[.val (.int p0), .val (.int p1), .val (.int p2), .val (.int p3), .val (.int p4), .val (.int m5), .val (.int m6), .unset, .unset, .unset, .unset, .unset, .unset, .unset, .unset, .unset] [(.int (p3 &&& (2147483647 : Int32)))])
  refine Done.go (fun _ kt_ => XS.istore X0.here hx rfl (hb hby at_16) rfl (l' := #[.val (.int p0), .val (.int p1), .val (.int p2), .val (.int p3), .val (.int p4), .val (.int m5), .val (.int m6), .val (.int (p3 &&& (2147483647 : Int32))), .unset, .unset, .unset, .unset, .unset, .unset, .unset, .unset]) rfl kt_) ?_
  have hm7 := own_pos (x := p3) (m := 2147483647) (by decide)
  show Done p e s below _ _ _ s₁ (mkF m 18 #[.val (.int p0), .val (.int p1), .val (.int p2), .val (.int p3), .val (.int p4), .val (.int m5), .val (.int m6), .val (.int (p3 &&& (2147483647 : Int32))), .unset, .unset, .unset, .unset, .unset, .unset, .unset, .unset] [])
  generalize h_m7 : (p3 &&& (2147483647 : Int32)) = m7
  rw [h_m7] at hm7
  show Done p e s below _ _ _ s₁ (mkF m 18 #[.val (.int p0), .val (.int p1), .val (.int p2), .val (.int p3), .val (.int p4), .val (.int m5), .val (.int m6), .val (.int m7), .unset, .unset, .unset, .unset, .unset, .unset, .unset, .unset] [])
  refine Done.go (fun _ kt_ => XS.iload X0.here hx rfl (hb hby at_18) rfl kt_) ?_
  show Done p e s below _ _ _ s₁ (mkF m 20 #[.val (.int p0), .val (.int p1), .val (.int p2), .val (.int p3), .val (.int p4), .val (.int m5), .val (.int m6), .val (.int m7), .unset, .unset, .unset, .unset, .unset, .unset, .unset, .unset] [(.int p4)])
  refine Done.go (fun t_ kt_ => X0.ldcInt hx hown (mvT hZ (hw _ (List.mem_of_getElem? (i := 0) rfl))) (g := (mkF m 20 #[.val (.int p0), .val (.int p1), .val (.int p2), .val (.int p3), .val (.int p4), .val (.int m5), .val (.int m6), .val (.int m7), .unset, .unset, .unset, .unset, .unset, .unset, .unset, .unset] [(.int p4)])) rfl (hb hby at_20) t_ kt_) ?_
  show Done p e s below _ _ _ s₁ (mkF m 22 #[.val (.int p0), .val (.int p1), .val (.int p2), .val (.int p3), .val (.int p4), .val (.int m5), .val (.int m6), .val (.int m7), .unset, .unset, .unset, .unset, .unset, .unset, .unset, .unset] [(.int (2147483647 : Int32)), (.int p4)])
  refine Done.go (fun _ kt_ => XS.iand X0.here hx rfl (hb hby at_22) rfl kt_) ?_
  show Done p e s below _ _ _ s₁ (mkF m 23 #[.val (.int p0), .val (.int p1), .val (.int p2), .val (.int p3), .val (.int p4), .val (.int m5), .val (.int m6), .val (.int m7), .unset, .unset, .unset, .unset, .unset, .unset, .unset, .unset] [(.int (p4 &&& (2147483647 : Int32)))])
  refine Done.go (fun _ kt_ => XS.istore X0.here hx rfl (hb hby at_23) rfl (l' := #[.val (.int p0), .val (.int p1), .val (.int p2), .val (.int p3), .val (.int p4), .val (.int m5), .val (.int m6), .val (.int m7), .val (.int (p4 &&& (2147483647 : Int32))), .unset, .unset, .unset, .unset, .unset, .unset, .unset]) rfl kt_) ?_
  have hm8 := own_pos (x := p4) (m := 2147483647) (by decide)
  show Done p e s below _ _ _ s₁ (mkF m 25 #[.val (.int p0), .val (.int p1), .val (.int p2), .val (.int p3), .val (.int p4), .val (.int m5), .val (.int m6), .val (.int m7), .val (.int (p4 &&& (2147483647 : Int32))), .unset, .unset, .unset, .unset, .unset, .unset, .unset] [])
  generalize h_m8 : (p4 &&& (2147483647 : Int32)) = m8
  rw [h_m8] at hm8
  show Done p e s below _ _ _ s₁ (mkF m 25 #[.val (.int p0), .val (.int p1), .val (.int p2), .val (.int p3), .val (.int p4), .val (.int m5), .val (.int m6), .val (.int m7), .val (.int m8), .unset, .unset, .unset, .unset, .unset, .unset, .unset] [])
  obtain ⟨T333, h333, X333, e333, E333, A333, D333, -, st333⟩ := newO X0 hx hZ hown (hw _ (List.mem_of_getElem? (i := 1) rfl)) (hw _ (List.mem_of_getElem? (i := 2) rfl)) (hw _ (List.mem_of_getElem? (i := 3) rfl)) e0 (g := (mkF m 25 #[.val (.int p0), .val (.int p1), .val (.int p2), .val (.int p3), .val (.int p4), .val (.int m5), .val (.int m6), .val (.int m7), .val (.int m8), .unset, .unset, .unset, .unset, .unset, .unset, .unset] [])) rfl (hb hby at_25) (by first | decide | omega) (by first | decide | omega)
  obtain ⟨b333, g333⟩ : ∃ z, z = h0.size := ⟨_, rfl⟩
  rw [← g333] at A333 D333 st333
  have gz_b333 : n0 ≤ b333 := Nat.le_trans Z0 (Nat.le_of_eq g333.symm)
  have Z333 : n0 ≤ h333.size := Nat.le_trans Z0 E333.1
  obtain ⟨Lh333, X333h, N333h⟩ : ∃ L, Stand p l e room_1 s m #[(.int p0), (.int p1), (.int p2), (.int p3), (.int p4)] below meth c T333 L 1 7 ∧ Fr n0 L := ⟨_, X333, N0⟩
  clear X333
  have F333_posting : Fld Z h333 b333 "com/example/pivotwise/pivotwise/index/PostingBuffer" "posting" "[B" .null := D333 (Or.inr (hw _ (List.mem_of_getElem? (i := 13) rfl))) (ty := (.array .byte)) (by decide)
  have F333_blockBits : Fld Z h333 b333 "com/example/pivotwise/pivotwise/index/PostingBuffer" "blockBits" "I" (.int (0 : Int32)) := D333 (Or.inr (hw _ (List.mem_of_getElem? (i := 29) rfl))) (ty := .int) (by decide)
  have F333_blockSize : Fld Z h333 b333 "com/example/pivotwise/pivotwise/index/PostingBuffer" "blockSize" "I" (.int (0 : Int32)) := D333 (Or.inr (hw _ (List.mem_of_getElem? (i := 31) rfl))) (ty := .int) (by decide)
  have F333_mostSlice : Fld Z h333 b333 "com/example/pivotwise/pivotwise/index/PostingBuffer" "mostSlice" "I" (.int (0 : Int32)) := D333 (Or.inr (hw _ (List.mem_of_getElem? (i := 36) rfl))) (ty := .int) (by decide)
  have F333_blocks : Fld Z h333 b333 "com/example/pivotwise/pivotwise/index/PostingBuffer" "blocks" "[[B" .null := D333 (Or.inr (hw _ (List.mem_of_getElem? (i := 41) rfl))) (ty := (.array (.array .byte))) (by decide)
  have F333_taken : Fld Z h333 b333 "com/example/pivotwise/pivotwise/index/PostingBuffer" "taken" "I" (.int (0 : Int32)) := D333 (Or.inl (hw _ (List.mem_of_getElem? (i := 77) rfl))) (ty := .int) (by decide)
  have F333_block : Fld Z h333 b333 "com/example/pivotwise/pivotwise/index/PostingBuffer" "block" "I" (.int (0 : Int32)) := D333 (Or.inl (hw _ (List.mem_of_getElem? (i := 98) rfl))) (ty := .int) (by decide)
  refine Done.go st333 ?_
  clear st333
  show Done p e s below _ _ _ T333 (mkF m 28 #[.val (.int p0), .val (.int p1), .val (.int p2), .val (.int p3), .val (.int p4), .val (.int m5), .val (.int m6), .val (.int m7), .val (.int m8), .unset, .unset, .unset, .unset, .unset, .unset, .unset] [(.ref b333)])
  refine Done.go (fun _ kt_ => XS.dup X333h.here hx rfl (hb hby at_28) rfl rfl kt_) ?_
  show Done p e s below _ _ _ T333 (mkF m 29 #[.val (.int p0), .val (.int p1), .val (.int p2), .val (.int p3), .val (.int p4), .val (.int m5), .val (.int m6), .val (.int m7), .val (.int m8), .unset, .unset, .unset, .unset, .unset, .unset, .unset] [(.ref b333), (.ref b333)])
  refine Done.go (fun t_ kt_ => X333h.ldc2Long hx hown (mvT hZ (hw _ (List.mem_of_getElem? (i := 4) rfl))) (g := (mkF m 29 #[.val (.int p0), .val (.int p1), .val (.int p2), .val (.int p3), .val (.int p4), .val (.int m5), .val (.int m6), .val (.int m7), .val (.int m8), .unset, .unset, .unset, .unset, .unset, .unset, .unset] [(.ref b333), (.ref b333)])) rfl (hb hby at_29) t_ kt_) ?_
  show Done p e s below _ _ _ T333 (mkF m 32 #[.val (.int p0), .val (.int p1), .val (.int p2), .val (.int p3), .val (.int p4), .val (.int m5), .val (.int m6), .val (.int m7), .val (.int m8), .unset, .unset, .unset, .unset, .unset, .unset, .unset] [(.long (32 : Int64)), (.ref b333), (.ref b333)])
  obtain ⟨v334, T334, Lc334, X334, hQ334, st334⟩ := own_backV (X333h.specialBack hx (y := (⟨"com/example/pivotwise/pivotwise/index/PostingBuffer", "<init>", "(J)V"⟩ : MethodName)) rfl hown (mvT hZ (hw _ (List.mem_of_getElem? (i := 5) rfl))) (mvT hZ (hw _ (List.mem_of_getElem? (i := 6) rfl))) (mvT hZ (hw _ (List.mem_of_getElem? (i := 7) rfl))) (by decide) (backOf (W := 1) (rm1 l Z a0 hw [] b333 h333 n0 Z333 A333 gz_b333 F333_posting F333_blockBits F333_blockSize F333_mostSlice F333_blocks F333_taken F333_block) hZ (hw _ (List.mem_of_getElem? (i := 7) rfl)) (hw _ (List.mem_of_getElem? (i := 3) rfl)) (by decide) (by decide)) (g := (mkF m 32 #[.val (.int p0), .val (.int p1), .val (.int p2), .val (.int p3), .val (.int p4), .val (.int m5), .val (.int m6), .val (.int m7), .val (.int m8), .unset, .unset, .unset, .unset, .unset, .unset, .unset] [(.long (32 : Int64)), (.ref b333), (.ref b333)])) rfl (by rw [hml]; rfl) (Steps.refl _) (a := b333) (argsL := [(.long (32 : Int64))]) (rest := [(.ref b333)]) (lenOf own_pd7 rfl) rfl (by show 2 * 0 + _ ≤ _; exact Nat.le_of_eq rfl) (hb hby at_32) (fun _ _ => ⟨rfl, e333, (by first | decide | omega : 1 + 2 ≤ _), (by first | decide | omega : 7 + 11 ≤ _)⟩))
  obtain ⟨rfl, N334q, hs334, bP, bB, gP, gB, d2, d3, d6, Eb, Pposting, PblockBits, PblockSize, PmostSlice, Pblocks, Ptaken, Pblock, VP, BB⟩ := hQ334
  refine Done.go st334 ?_
  clear st334
  have N334 := Fr.app N333h N334q
  clear N334q
  have Z334 : n0 ≤ T334.heap.size := Nat.le_trans Z333 hs334
  obtain ⟨Lh334, X334h, N334h⟩ : ∃ L, Stand p l e room_1 s m #[(.int p0), (.int p1), (.int p2), (.int p3), (.int p4)] below meth c T334 L 3 18 ∧ Fr n0 L := ⟨_, X334, N334⟩
  clear X334 N334 X333h e333 N333h Z333
  show Done p e s below _ _ _ T334 (mkF m 35 #[.val (.int p0), .val (.int p1), .val (.int p2), .val (.int p3), .val (.int p4), .val (.int m5), .val (.int m6), .val (.int m7), .val (.int m8), .unset, .unset, .unset, .unset, .unset, .unset, .unset] [(.ref b333)])
  refine Done.go (fun _ kt_ => XS.astore X334h.here hx rfl (hb hby at_35) rfl rfl (l' := #[.val (.int p0), .val (.int p1), .val (.int p2), .val (.int p3), .val (.int p4), .val (.int m5), .val (.int m6), .val (.int m7), .val (.int m8), .val (.ref b333), .unset, .unset, .unset, .unset, .unset, .unset]) rfl kt_) ?_
  show Done p e s below _ _ _ T334 (mkF m 37 #[.val (.int p0), .val (.int p1), .val (.int p2), .val (.int p3), .val (.int p4), .val (.int m5), .val (.int m6), .val (.int m7), .val (.int m8), .val (.ref b333), .unset, .unset, .unset, .unset, .unset, .unset] [])
  obtain ⟨T335, h335, X335, e335, E335, A335, D335, -, st335⟩ := newO X334h hx hZ hown (hw _ (List.mem_of_getElem? (i := 42) rfl)) (hw _ (List.mem_of_getElem? (i := 43) rfl)) (hw _ (List.mem_of_getElem? (i := 44) rfl)) rfl (g := (mkF m 37 #[.val (.int p0), .val (.int p1), .val (.int p2), .val (.int p3), .val (.int p4), .val (.int m5), .val (.int m6), .val (.int m7), .val (.int m8), .val (.ref b333), .unset, .unset, .unset, .unset, .unset, .unset] [])) rfl (hb hby at_37) (by first | decide | omega) (by first | decide | omega)
  obtain ⟨b335, g335⟩ : ∃ z, z = T334.heap.size := ⟨_, rfl⟩
  rw [← g335] at A335 D335 st335
  have ne_b333_b335 : b333 ≠ b335 := Nat.ne_of_lt (Nat.lt_of_lt_of_le Eb.lt (Nat.le_of_eq g335.symm))
  have ne_bP_b335 : bP ≠ b335 := Nat.ne_of_lt (Nat.lt_of_lt_of_le VP.lt (Nat.le_of_eq g335.symm))
  have ne_bB_b335 : bB ≠ b335 := Nat.ne_of_lt (Nat.lt_of_lt_of_le BB.lt (Nat.le_of_eq g335.symm))
  have gz_b335 : n0 ≤ b335 := Nat.le_trans Z334 (Nat.le_of_eq g335.symm)
  have Z335 : n0 ≤ h335.size := Nat.le_trans Z334 E335.1
  obtain ⟨Lh335, X335h, N335h⟩ : ∃ L, Stand p l e room_1 s m #[(.int p0), (.int p1), (.int p2), (.int p3), (.int p4)] below meth c T335 L 4 23 ∧ Fr n0 L := ⟨_, X335, N334h⟩
  clear X335 N334h X334h Z334
  have F335_first : Fld Z h335 b335 "com/example/pivotwise/pivotwise/index/PostingBuffer$Chain" "first" "I" (.int (0 : Int32)) := D335 (Or.inl (hw _ (List.mem_of_getElem? (i := 50) rfl))) (ty := .int) (by decide)
  have F335_next : Fld Z h335 b335 "com/example/pivotwise/pivotwise/index/PostingBuffer$Chain" "next" "I" (.int (0 : Int32)) := D335 (Or.inl (hw _ (List.mem_of_getElem? (i := 57) rfl))) (ty := .int) (by decide)
  have F335_end : Fld Z h335 b335 "com/example/pivotwise/pivotwise/index/PostingBuffer$Chain" "end" "I" (.int (0 : Int32)) := D335 (Or.inl (hw _ (List.mem_of_getElem? (i := 59) rfl))) (ty := .int) (by decide)
  have F335_slice : Fld Z h335 b335 "com/example/pivotwise/pivotwise/index/PostingBuffer$Chain" "slice" "I" (.int (0 : Int32)) := D335 (Or.inl (hw _ (List.mem_of_getElem? (i := 61) rfl))) (ty := .int) (by decide)
  have F335_length : Fld Z h335 b335 "com/example/pivotwise/pivotwise/index/PostingBuffer$Chain" "length" "I" (.int (0 : Int32)) := D335 (Or.inl (hw _ (List.mem_of_getElem? (i := 63) rfl))) (ty := .int) (by decide)
  refine Done.go st335 ?_
  clear st335
  show Done p e s below _ _ _ T335 (mkF m 40 #[.val (.int p0), .val (.int p1), .val (.int p2), .val (.int p3), .val (.int p4), .val (.int m5), .val (.int m6), .val (.int m7), .val (.int m8), .val (.ref b333), .unset, .unset, .unset, .unset, .unset, .unset] [(.ref b335)])
  refine Done.go (fun _ kt_ => XS.dup X335h.here hx rfl (hb hby at_40) rfl rfl kt_) ?_
  show Done p e s below _ _ _ T335 (mkF m 41 #[.val (.int p0), .val (.int p1), .val (.int p2), .val (.int p3), .val (.int p4), .val (.int m5), .val (.int m6), .val (.int m7), .val (.int m8), .val (.ref b333), .unset, .unset, .unset, .unset, .unset, .unset] [(.ref b335), (.ref b335)])
  obtain ⟨v336, T336, Lc336, X336, hQ336, st336⟩ := own_backV (X335h.specialBack hx (y := (⟨"com/example/pivotwise/pivotwise/index/PostingBuffer$Chain", "<init>", "()V"⟩ : MethodName)) rfl hown (mvT hZ (hw _ (List.mem_of_getElem? (i := 45) rfl))) (mvT hZ (hw _ (List.mem_of_getElem? (i := 46) rfl))) (mvT hZ (hw _ (List.mem_of_getElem? (i := 47) rfl))) (by decide) (backOf (W := 1) (rm7 l Z a0 hw [] b335 h335 n0 Z335 A335 gz_b335 F335_first F335_next F335_end F335_slice F335_length) hZ (hw _ (List.mem_of_getElem? (i := 47) rfl)) (hw _ (List.mem_of_getElem? (i := 44) rfl)) (by decide) (by decide)) (g := (mkF m 41 #[.val (.int p0), .val (.int p1), .val (.int p2), .val (.int p3), .val (.int p4), .val (.int m5), .val (.int m6), .val (.int m7), .val (.int m8), .val (.ref b333), .unset, .unset, .unset, .unset, .unset, .unset] [(.ref b335), (.ref b335)])) rfl (by rw [hml]; rfl) (Steps.refl _) (a := b335) (argsL := []) (rest := [(.ref b335)]) (lenOf own_pd8 rfl) rfl (by show 2 * 0 + _ ≤ _; exact Nat.le_of_eq rfl) (hb hby at_41) (fun _ _ => ⟨rfl, e335, (by first | decide | omega : 4 + 0 ≤ _), (by first | decide | omega : 23 + 0 ≤ _)⟩))
  obtain ⟨rfl, N336q, K336k, Ec336, Cfirst336, Cnext336, Cend336, Cslice336, Clength336⟩ := hQ336
  refine Done.go st336 ?_
  clear st336
  have N336 := Fr.app N335h N336q
  clear N336q
  have Z336 : n0 ≤ T336.heap.size := Nat.le_trans Z335 K336k.1
  obtain ⟨Lh336, X336h, N336h⟩ : ∃ L, Stand p l e room_1 s m #[(.int p0), (.int p1), (.int p2), (.int p3), (.int p4)] below meth c T336 L 4 23 ∧ Fr n0 L := ⟨_, X336, N336⟩
  clear X336 N336 X335h e335 N335h Z335
  show Done p e s below _ _ _ T336 (mkF m 44 #[.val (.int p0), .val (.int p1), .val (.int p2), .val (.int p3), .val (.int p4), .val (.int m5), .val (.int m6), .val (.int m7), .val (.int m8), .val (.ref b333), .unset, .unset, .unset, .unset, .unset, .unset] [(.ref b335)])
  refine Done.go (fun _ kt_ => XS.astore X336h.here hx rfl (hb hby at_44) rfl rfl (l' := #[.val (.int p0), .val (.int p1), .val (.int p2), .val (.int p3), .val (.int p4), .val (.int m5), .val (.int m6), .val (.int m7), .val (.int m8), .val (.ref b333), .val (.ref b335), .unset, .unset, .unset, .unset, .unset]) rfl kt_) ?_
  show Done p e s below _ _ _ T336 (mkF m 46 #[.val (.int p0), .val (.int p1), .val (.int p2), .val (.int p3), .val (.int p4), .val (.int m5), .val (.int m6), .val (.int m7), .val (.int m8), .val (.ref b333), .val (.ref b335), .unset, .unset, .unset, .unset, .unset] [])
  refine Done.go (fun _ kt_ => XS.iloadN X336h.here hx rfl (hb hby at_46) rfl kt_) ?_
  show Done p e s below _ _ _ T336 (mkF m 47 #[.val (.int p0), .val (.int p1), .val (.int p2), .val (.int p3), .val (.int p4), .val (.int m5), .val (.int m6), .val (.int m7), .val (.int m8), .val (.ref b333), .val (.ref b335), .unset, .unset, .unset, .unset, .unset] [(.int p0)])
  refine Done.go (fun _ kt_ => XS.iconst X336h.here hx rfl (hb hby at_47) kt_) ?_
  show Done p e s below _ _ _ T336 (mkF m 48 #[.val (.int p0), .val (.int p1), .val (.int p2), .val (.int p3), .val (.int p4), .val (.int m5), .val (.int m6), .val (.int m7), .val (.int m8), .val (.ref b333), .val (.ref b335), .unset, .unset, .unset, .unset, .unset] [(.int (1 : Int32)), (.int p0)])
  refine Done.go (fun _ kt_ => XS.iand X336h.here hx rfl (hb hby at_48) rfl kt_) ?_
  show Done p e s below _ _ _ T336 (mkF m 49 #[.val (.int p0), .val (.int p1), .val (.int p2), .val (.int p3), .val (.int p4), .val (.int m5), .val (.int m6), .val (.int m7), .val (.int m8), .val (.ref b333), .val (.ref b335), .unset, .unset, .unset, .unset, .unset] [(.int (p0 &&& (1 : Int32)))])
  by_cases hc49 : (p0 &&& (1 : Int32)) = (0 : Int32)
  · skip
    refine Done.go (fun _ kt_ => XS.ifYes X336h.here hx rfl (pc0 := 49) (pc' := 63) rfl (hb hby at_49) rfl ((if0 _ _).trans (teq hc49).1) (by decide) (by decide) kt_) ?_
    show Done p e s below _ _ _ T336 (mkF m 63 #[.val (.int p0), .val (.int p1), .val (.int p2), .val (.int p3), .val (.int p4), .val (.int m5), .val (.int m6), .val (.int m7), .val (.int m8), .val (.ref b333), .val (.ref b335), .unset, .unset, .unset, .unset, .unset] [])
    refine Done.go (fun _ kt_ => XS.aload X336h.here hx rfl (hb hby at_63) rfl rfl kt_) ?_
    show Done p e s below _ _ _ T336 (mkF m 65 #[.val (.int p0), .val (.int p1), .val (.int p2), .val (.int p3), .val (.int p4), .val (.int m5), .val (.int m6), .val (.int m7), .val (.int m8), .val (.ref b333), .val (.ref b335), .unset, .unset, .unset, .unset, .unset] [(.ref b335)])
    obtain ⟨cq337, kq337, q337a, q337b, q337c⟩ := isOf hZ rfl Ec336
    obtain ⟨v337, T337, Lc337, X337, hQ337, st337⟩ := own_backV (X336h.virtualBack hx (y := (⟨"com/example/pivotwise/pivotwise/index/PostingBuffer$Chain", "clear", "()V"⟩ : MethodName)) (z := (⟨"com/example/pivotwise/pivotwise/index/PostingBuffer$Chain", "clear", "()V"⟩ : MethodName)) hown (mvT hZ (hw _ (List.mem_of_getElem? (i := 51) rfl))) (mvT hZ (hw _ (List.mem_of_getElem? (i := 52) rfl))) (notFace_of_selects (args := #[]) (mvT hZ (hw _ (List.mem_of_getElem? (i := 54) rfl)))) (mvT hZ (hw _ (List.mem_of_getElem? (i := 54) rfl))) (mvT hZ (hw _ (List.mem_of_getElem? (i := 53) rfl))) (by decide) (backOf (W := 0) (rm8 l Z a0 hw [] b335 (-1 : Int32) (0 : Int32) (0 : Int32) (0 : Int32) (0 : Int32) T336.heap n0 Z336 Ec336 gz_b335 Cfirst336 Cnext336 Cend336 Cslice336 Clength336) hZ (hw _ (List.mem_of_getElem? (i := 55) rfl)) (hw _ (List.mem_of_getElem? (i := 44) rfl)) (by decide) (by decide)) q337a q337c (g := (mkF m 65 #[.val (.int p0), .val (.int p1), .val (.int p2), .val (.int p3), .val (.int p4), .val (.int m5), .val (.int m6), .val (.int m7), .val (.int m8), .val (.ref b333), .val (.ref b335), .unset, .unset, .unset, .unset, .unset] [(.ref b335)])) rfl (by rw [hml]; rfl) (Steps.refl _) (argsL := []) (rest := []) (lenOf own_pd8 rfl) rfl (by show 2 * 0 + _ ≤ _; exact Nat.le_of_eq rfl) (hb hby at_65) (fun _ _ => ⟨rfl, rfl, (by first | decide | omega : 4 + 0 ≤ _), (by first | decide | omega : 23 + 0 ≤ _)⟩))
    obtain ⟨rfl, N337q, K337k, Ec337, Cfirst337, Cnext337, Cend337, Cslice337, Clength337⟩ := hQ337
    refine Done.go st337 ?_
    clear st337
    have N337 := Fr.app N336h N337q
    clear N337q
    have Z337 : n0 ≤ T337.heap.size := Nat.le_trans Z336 K337k.1
    obtain ⟨Lh337, X337h, N337h⟩ : ∃ L, Stand p l e room_1 s m #[(.int p0), (.int p1), (.int p2), (.int p3), (.int p4)] below meth c T337 L 4 23 ∧ Fr n0 L := ⟨_, X337, N337⟩
    clear X337 N337 X336h N336h Z336
    show Done p e s below _ _ _ T337 (mkF m 68 #[.val (.int p0), .val (.int p1), .val (.int p2), .val (.int p3), .val (.int p4), .val (.int m5), .val (.int m6), .val (.int m7), .val (.int m8), .val (.ref b333), .val (.ref b335), .unset, .unset, .unset, .unset, .unset] [])
    refine Done.go (fun _ kt_ => XS.aload X337h.here hx rfl (hb hby at_68) rfl rfl kt_) ?_
    show Done p e s below _ _ _ T337 (mkF m 70 #[.val (.int p0), .val (.int p1), .val (.int p2), .val (.int p3), .val (.int p4), .val (.int m5), .val (.int m6), .val (.int m7), .val (.int m8), .val (.ref b333), .val (.ref b335), .unset, .unset, .unset, .unset, .unset] [(.ref b335)])
    obtain ⟨cq338, kq338, q338a, q338b, q338c⟩ := isOf hZ rfl Ec337
    obtain ⟨v338, T338, Lc338, X338, hQ338, st338⟩ := own_backV (X337h.virtualBack hx (y := (⟨"com/example/pivotwise/pivotwise/index/PostingBuffer$Chain", "length", "()I"⟩ : MethodName)) (z := (⟨"com/example/pivotwise/pivotwise/index/PostingBuffer$Chain", "length", "()I"⟩ : MethodName)) hown (mvT hZ (hw _ (List.mem_of_getElem? (i := 64) rfl))) (mvT hZ (hw _ (List.mem_of_getElem? (i := 65) rfl))) (notFace_of_selects (args := #[]) (mvT hZ (hw _ (List.mem_of_getElem? (i := 67) rfl)))) (mvT hZ (hw _ (List.mem_of_getElem? (i := 67) rfl))) (mvT hZ (hw _ (List.mem_of_getElem? (i := 66) rfl))) (by decide) (backOf (W := 0) (rm9 l Z a0 hw [] b335 (0 : Int32) T337.heap n0 Z337 Clength337) hZ (hw _ (List.mem_of_getElem? (i := 68) rfl)) (hw _ (List.mem_of_getElem? (i := 44) rfl)) (by decide) (by decide)) q338a q338c (g := (mkF m 70 #[.val (.int p0), .val (.int p1), .val (.int p2), .val (.int p3), .val (.int p4), .val (.int m5), .val (.int m6), .val (.int m7), .val (.int m8), .val (.ref b333), .val (.ref b335), .unset, .unset, .unset, .unset, .unset] [(.ref b335)])) rfl (by rw [hml]; rfl) (Steps.refl _) (argsL := []) (rest := []) (lenOf own_pd9 rfl) rfl (by show 2 * 0 + _ ≤ _; exact Nat.le_of_eq rfl) (hb hby at_70) (fun _ _ => ⟨rfl, rfl, (by first | decide | omega : 4 + 0 ≤ _), (by first | decide | omega : 23 + 0 ≤ _)⟩))
    obtain ⟨rfl, N338q, e338⟩ := hQ338
    refine Done.go st338 ?_
    clear st338
    have N338 := Fr.app N337h N338q
    clear N338q
    obtain ⟨Lh338, X338h, N338h⟩ : ∃ L, Stand p l e room_1 s m #[(.int p0), (.int p1), (.int p2), (.int p3), (.int p4)] below meth c T338 L 4 23 ∧ Fr n0 L := ⟨_, X338, N338⟩
    clear X338 N338 X337h N337h
    show Done p e s below _ _ _ T338 (mkF m 73 #[.val (.int p0), .val (.int p1), .val (.int p2), .val (.int p3), .val (.int p4), .val (.int m5), .val (.int m6), .val (.int m7), .val (.int m8), .val (.ref b333), .val (.ref b335), .unset, .unset, .unset, .unset, .unset] [(.int (0 : Int32))])
    refine Done.go (fun _ kt_ => XS.istore X338h.here hx rfl (hb hby at_73) rfl (l' := #[.val (.int p0), .val (.int p1), .val (.int p2), .val (.int p3), .val (.int p4), .val (.int m5), .val (.int m6), .val (.int m7), .val (.int m8), .val (.ref b333), .val (.ref b335), .val (.int (0 : Int32)), .unset, .unset, .unset, .unset]) rfl kt_) ?_
    show Done p e s below _ _ _ T338 (mkF m 75 #[.val (.int p0), .val (.int p1), .val (.int p2), .val (.int p3), .val (.int p4), .val (.int m5), .val (.int m6), .val (.int m7), .val (.int m8), .val (.ref b333), .val (.ref b335), .val (.int (0 : Int32)), .unset, .unset, .unset, .unset] [])
    refine Done.go (fun _ kt_ => XS.aload X338h.here hx rfl (hb hby at_75) rfl rfl kt_) ?_
    show Done p e s below _ _ _ T338 (mkF m 77 #[.val (.int p0), .val (.int p1), .val (.int p2), .val (.int p3), .val (.int p4), .val (.int m5), .val (.int m6), .val (.int m7), .val (.int m8), .val (.ref b333), .val (.ref b335), .val (.int (0 : Int32)), .unset, .unset, .unset, .unset] [(.ref b333)])
    refine Done.go (fun _ kt_ => XS.aload X338h.here hx rfl (hb hby at_77) rfl rfl kt_) ?_
    show Done p e s below _ _ _ T338 (mkF m 79 #[.val (.int p0), .val (.int p1), .val (.int p2), .val (.int p3), .val (.int p4), .val (.int m5), .val (.int m6), .val (.int m7), .val (.int m8), .val (.ref b333), .val (.ref b335), .val (.int (0 : Int32)), .unset, .unset, .unset, .unset] [(.ref b335), (.ref b333)])
    have f339 := (((Eb.ext E335).keep K336k).keep K337k)
    have f340 := (((Pposting.ext E335).keep K336k (ninS ne_b333_b335 nin0)).keep K337k (ninS ne_b333_b335 nin0))
    have f341 := (((PblockBits.ext E335).keep K336k (ninS ne_b333_b335 nin0)).keep K337k (ninS ne_b333_b335 nin0))
    have f342 := (((PblockSize.ext E335).keep K336k (ninS ne_b333_b335 nin0)).keep K337k (ninS ne_b333_b335 nin0))
    have f343 := (((PmostSlice.ext E335).keep K336k (ninS ne_b333_b335 nin0)).keep K337k (ninS ne_b333_b335 nin0))
    have f344 := (((Pblocks.ext E335).keep K336k (ninS ne_b333_b335 nin0)).keep K337k (ninS ne_b333_b335 nin0))
    have f345 := (((Ptaken.ext E335).keep K336k (ninS ne_b333_b335 nin0)).keep K337k (ninS ne_b333_b335 nin0))
    have f346 := (((Pblock.ext E335).keep K336k (ninS ne_b333_b335 nin0)).keep K337k (ninS ne_b333_b335 nin0))
    have f347 := (((VP.ext E335).keep K336k (ninS ne_bP_b335 nin0)).keep K337k (ninS ne_bP_b335 nin0))
    have f348 := (((BB.ext E335).keep K336k (ninS ne_bB_b335 nin0)).keep K337k (ninS ne_bB_b335 nin0))
    obtain ⟨cq349, kq349, q349a, q349b, q349c⟩ := isOf hZ e338 f339
    obtain ⟨v349, T349, Lc349, X349, hQ349, st349⟩ := own_backV (X338h.virtualBack hx (y := (⟨"com/example/pivotwise/pivotwise/index/PostingBuffer", "fits", "(Lcom/example/pivotwise/pivotwise/index/PostingBuffer$Chain;)Z"⟩ : MethodName)) (z := (⟨"com/example/pivotwise/pivotwise/index/PostingBuffer", "fits", "(Lcom/example/pivotwise/pivotwise/index/PostingBuffer$Chain;)Z"⟩ : MethodName)) hown (mvT hZ (hw _ (List.mem_of_getElem? (i := 69) rfl))) (mvT hZ (hw _ (List.mem_of_getElem? (i := 70) rfl))) (notFace_of_selects (args := #[]) (mvT hZ (hw _ (List.mem_of_getElem? (i := 72) rfl)))) (mvT hZ (hw _ (List.mem_of_getElem? (i := 72) rfl))) (mvT hZ (hw _ (List.mem_of_getElem? (i := 71) rfl))) (by decide) (backOf (W := 0) (rm10 l Z a0 hw [] b333 b335 bP bB .null (0 : Int32) (-1 : Int32) (0 : Int32) (0 : Int32) (0 : Int32) (0 : Int32) T337.heap n0 Z337 ⟨f339, Ec337, f340, f341, f342, f343, f344, f345, f346, Cfirst337, Cnext337, Cend337, Cslice337, Clength337, ⟨_, f347⟩, f348⟩) hZ (hw _ (List.mem_of_getElem? (i := 73) rfl)) (hw _ (List.mem_of_getElem? (i := 3) rfl)) (by decide) (by decide)) q349a q349c (g := (mkF m 79 #[.val (.int p0), .val (.int p1), .val (.int p2), .val (.int p3), .val (.int p4), .val (.int m5), .val (.int m6), .val (.int m7), .val (.int m8), .val (.ref b333), .val (.ref b335), .val (.int (0 : Int32)), .unset, .unset, .unset, .unset] [(.ref b335), (.ref b333)])) rfl (by rw [hml]; rfl) (Steps.refl _) (argsL := [(.ref b335)]) (rest := []) (lenOf own_pd10 rfl) rfl (by show 2 * 0 + _ ≤ _; exact Nat.le_of_eq rfl) (hb hby at_79) (fun _ _ => ⟨rfl, e338, (by first | decide | omega : 4 + 0 ≤ _), (by first | decide | omega : 23 + 0 ≤ _)⟩))
    obtain ⟨rfl, N349q, e349⟩ := hQ349
    refine Done.go st349 ?_
    clear st349
    have N349 := Fr.app N338h N349q
    clear N349q
    obtain ⟨Lh349, X349h, N349h⟩ : ∃ L, Stand p l e room_1 s m #[(.int p0), (.int p1), (.int p2), (.int p3), (.int p4)] below meth c T349 L 4 23 ∧ Fr n0 L := ⟨_, X349, N349⟩
    clear X349 N349 X338h e338 N338h
    show Done p e s below _ _ _ T349 (mkF m 82 #[.val (.int p0), .val (.int p1), .val (.int p2), .val (.int p3), .val (.int p4), .val (.int m5), .val (.int m6), .val (.int m7), .val (.int m8), .val (.ref b333), .val (.ref b335), .val (.int (0 : Int32)), .unset, .unset, .unset, .unset] [(.int (own_fit (0 : Int32) (0 : Int32) (0 : Int32) (own_ns (-1 : Int32) (0 : Int32))))])
    rw [show (own_fit (0 : Int32) (0 : Int32) (0 : Int32) (own_ns (-1 : Int32) (0 : Int32))) = (1 : Int32) from by decide]
    show Done p e s below _ _ _ T349 (mkF m 82 #[.val (.int p0), .val (.int p1), .val (.int p2), .val (.int p3), .val (.int p4), .val (.int m5), .val (.int m6), .val (.int m7), .val (.int m8), .val (.ref b333), .val (.ref b335), .val (.int (0 : Int32)), .unset, .unset, .unset, .unset] [(.int (1 : Int32))])
    refine Done.go (fun _ kt_ => XS.istore X349h.here hx rfl (hb hby at_82) rfl (l' := #[.val (.int p0), .val (.int p1), .val (.int p2), .val (.int p3), .val (.int p4), .val (.int m5), .val (.int m6), .val (.int m7), .val (.int m8), .val (.ref b333), .val (.ref b335), .val (.int (0 : Int32)), .val (.int (1 : Int32)), .unset, .unset, .unset]) rfl kt_) ?_
    show Done p e s below _ _ _ T349 (mkF m 84 #[.val (.int p0), .val (.int p1), .val (.int p2), .val (.int p3), .val (.int p4), .val (.int m5), .val (.int m6), .val (.int m7), .val (.int m8), .val (.ref b333), .val (.ref b335), .val (.int (0 : Int32)), .val (.int (1 : Int32)), .unset, .unset, .unset] [])
    refine Done.go (fun _ kt_ => XS.aload X349h.here hx rfl (hb hby at_84) rfl rfl kt_) ?_
    show Done p e s below _ _ _ T349 (mkF m 86 #[.val (.int p0), .val (.int p1), .val (.int p2), .val (.int p3), .val (.int p4), .val (.int m5), .val (.int m6), .val (.int m7), .val (.int m8), .val (.ref b333), .val (.ref b335), .val (.int (0 : Int32)), .val (.int (1 : Int32)), .unset, .unset, .unset] [(.ref b333)])
    refine Done.go (fun _ kt_ => XS.aload X349h.here hx rfl (hb hby at_86) rfl rfl kt_) ?_
    show Done p e s below _ _ _ T349 (mkF m 88 #[.val (.int p0), .val (.int p1), .val (.int p2), .val (.int p3), .val (.int p4), .val (.int m5), .val (.int m6), .val (.int m7), .val (.int m8), .val (.ref b333), .val (.ref b335), .val (.int (0 : Int32)), .val (.int (1 : Int32)), .unset, .unset, .unset] [(.ref b335), (.ref b333)])
    refine Done.go (fun _ kt_ => XS.iload X349h.here hx rfl (hb hby at_88) rfl kt_) ?_
    show Done p e s below _ _ _ T349 (mkF m 90 #[.val (.int p0), .val (.int p1), .val (.int p2), .val (.int p3), .val (.int p4), .val (.int m5), .val (.int m6), .val (.int m7), .val (.int m8), .val (.ref b333), .val (.ref b335), .val (.int (0 : Int32)), .val (.int (1 : Int32)), .unset, .unset, .unset] [(.int m7), (.ref b335), (.ref b333)])
    refine Done.go (fun _ kt_ => XS.iload X349h.here hx rfl (hb hby at_90) rfl kt_) ?_
    show Done p e s below _ _ _ T349 (mkF m 92 #[.val (.int p0), .val (.int p1), .val (.int p2), .val (.int p3), .val (.int p4), .val (.int m5), .val (.int m6), .val (.int m7), .val (.int m8), .val (.ref b333), .val (.ref b335), .val (.int (0 : Int32)), .val (.int (1 : Int32)), .unset, .unset, .unset] [(.int m8), (.int m7), (.ref b335), (.ref b333)])
    obtain ⟨cq350, kq350, q350a, q350b, q350c⟩ := isOf hZ e349 f339
    obtain ⟨v350, T350, Lc350, X350, hQ350, st350⟩ := own_backV (X349h.virtualBack hx (y := (⟨"com/example/pivotwise/pivotwise/index/PostingBuffer", "add", "(Lcom/example/pivotwise/pivotwise/index/PostingBuffer$Chain;II)V"⟩ : MethodName)) (z := (⟨"com/example/pivotwise/pivotwise/index/PostingBuffer", "add", "(Lcom/example/pivotwise/pivotwise/index/PostingBuffer$Chain;II)V"⟩ : MethodName)) hown (mvT hZ (hw _ (List.mem_of_getElem? (i := 83) rfl))) (mvT hZ (hw _ (List.mem_of_getElem? (i := 84) rfl))) (notFace_of_selects (args := #[]) (mvT hZ (hw _ (List.mem_of_getElem? (i := 86) rfl)))) (mvT hZ (hw _ (List.mem_of_getElem? (i := 86) rfl))) (mvT hZ (hw _ (List.mem_of_getElem? (i := 85) rfl))) (by decide) (backOf (W := 0) (rm12N l Z a0 hw [] b333 b335 bP bB m7 m8 T337.heap n0 Z337 ⟨f339, Ec337, f340, f341, f342, f343, f344, f345, f346, Cfirst337, Cnext337, Cend337, Cslice337, Clength337, ⟨_, f347⟩, f348⟩ ⟨ne_b333_b335, d2, d3, (Ne.symm ne_bP_b335), (Ne.symm ne_bB_b335), d6⟩ ⟨gz_b333, gz_b335, gP, gB⟩ hm7 hm8) hZ (hw _ (List.mem_of_getElem? (i := 87) rfl)) (hw _ (List.mem_of_getElem? (i := 3) rfl)) (by decide) (by decide)) q350a q350c (g := (mkF m 92 #[.val (.int p0), .val (.int p1), .val (.int p2), .val (.int p3), .val (.int p4), .val (.int m5), .val (.int m6), .val (.int m7), .val (.int m8), .val (.ref b333), .val (.ref b335), .val (.int (0 : Int32)), .val (.int (1 : Int32)), .unset, .unset, .unset] [(.int m8), (.int m7), (.ref b335), (.ref b333)])) rfl (by rw [hml]; rfl) (Steps.refl _) (argsL := [(.ref b335), (.int m7), (.int m8)]) (rest := []) (lenOf own_pd11 rfl) rfl (by show 2 * 0 + _ ≤ _; exact Nat.le_of_eq rfl) (hb hby at_92) (fun _ _ => ⟨rfl, e349, (by first | decide | omega : 4 + 1 ≤ _), (by first | decide | omega : 23 + 32 ≤ _)⟩))
    obtain ⟨rfl, N350q, hs350, bk350, g350, nn350, nx350, Na350, Nb350, hna350, hnb350, hnn350, hnx350, P350, Vk350, hdk350, hgk350⟩ := hQ350
    refine Done.go st350 ?_
    clear st350
    have N350 := Fr.app N349h N350q
    clear N350q
    have Z350 : n0 ≤ T350.heap.size := Nat.le_trans Z337 hs350
    obtain ⟨Lh350, X350h, N350h⟩ : ∃ L, Stand p l e room_1 s m #[(.int p0), (.int p1), (.int p2), (.int p3), (.int p4)] below meth c T350 L 5 55 ∧ Fr n0 L := ⟨_, X350, N350⟩
    clear X350 N350 X349h e349 N349h Z337
    obtain ⟨k1_350, k2_350, k3_350, k4_350⟩ := hdk350
    obtain ⟨Ea350, Ec350, Pposting350, PblockBits350, PblockSize350, PmostSlice350, Pblocks350, Ptaken350, Pblock350, Cfirst350, Cnext350, Cend350, Cslice350, Clength350, ⟨fP350, VP350⟩, BB350⟩ := P350
    show Done p e s below _ _ _ T350 (mkF m 95 #[.val (.int p0), .val (.int p1), .val (.int p2), .val (.int p3), .val (.int p4), .val (.int m5), .val (.int m6), .val (.int m7), .val (.int m8), .val (.ref b333), .val (.ref b335), .val (.int (0 : Int32)), .val (.int (1 : Int32)), .unset, .unset, .unset] [])
    refine Done.go (fun _ kt_ => XS.aload X350h.here hx rfl (hb hby at_95) rfl rfl kt_) ?_
    show Done p e s below _ _ _ T350 (mkF m 97 #[.val (.int p0), .val (.int p1), .val (.int p2), .val (.int p3), .val (.int p4), .val (.int m5), .val (.int m6), .val (.int m7), .val (.int m8), .val (.ref b333), .val (.ref b335), .val (.int (0 : Int32)), .val (.int (1 : Int32)), .unset, .unset, .unset] [(.ref b335)])
    obtain ⟨cq351, kq351, q351a, q351b, q351c⟩ := isOf hZ rfl Ec350
    obtain ⟨v351, T351, Lc351, X351, hQ351, st351⟩ := own_backV (X350h.virtualBack hx (y := (⟨"com/example/pivotwise/pivotwise/index/PostingBuffer$Chain", "length", "()I"⟩ : MethodName)) (z := (⟨"com/example/pivotwise/pivotwise/index/PostingBuffer$Chain", "length", "()I"⟩ : MethodName)) hown (mvT hZ (hw _ (List.mem_of_getElem? (i := 64) rfl))) (mvT hZ (hw _ (List.mem_of_getElem? (i := 65) rfl))) (notFace_of_selects (args := #[]) (mvT hZ (hw _ (List.mem_of_getElem? (i := 67) rfl)))) (mvT hZ (hw _ (List.mem_of_getElem? (i := 67) rfl))) (mvT hZ (hw _ (List.mem_of_getElem? (i := 66) rfl))) (by decide) (backOf (W := 0) (rm9 l Z a0 hw [] b335 ((0 : Int32) + nn350) T350.heap n0 Z350 Clength350) hZ (hw _ (List.mem_of_getElem? (i := 68) rfl)) (hw _ (List.mem_of_getElem? (i := 44) rfl)) (by decide) (by decide)) q351a q351c (g := (mkF m 97 #[.val (.int p0), .val (.int p1), .val (.int p2), .val (.int p3), .val (.int p4), .val (.int m5), .val (.int m6), .val (.int m7), .val (.int m8), .val (.ref b333), .val (.ref b335), .val (.int (0 : Int32)), .val (.int (1 : Int32)), .unset, .unset, .unset] [(.ref b335)])) rfl (by rw [hml]; rfl) (Steps.refl _) (argsL := []) (rest := []) (lenOf own_pd9 rfl) rfl (by show 2 * 0 + _ ≤ _; exact Nat.le_of_eq rfl) (hb hby at_97) (fun _ _ => ⟨rfl, rfl, (by first | decide | omega : 5 + 0 ≤ _), (by first | decide | omega : 55 + 0 ≤ _)⟩))
    obtain ⟨rfl, N351q, e351⟩ := hQ351
    refine Done.go st351 ?_
    clear st351
    have N351 := Fr.app N350h N351q
    clear N351q
    obtain ⟨Lh351, X351h, N351h⟩ : ∃ L, Stand p l e room_1 s m #[(.int p0), (.int p1), (.int p2), (.int p3), (.int p4)] below meth c T351 L 5 55 ∧ Fr n0 L := ⟨_, X351, N351⟩
    clear X351 N351 X350h N350h
    show Done p e s below _ _ _ T351 (mkF m 100 #[.val (.int p0), .val (.int p1), .val (.int p2), .val (.int p3), .val (.int p4), .val (.int m5), .val (.int m6), .val (.int m7), .val (.int m8), .val (.ref b333), .val (.ref b335), .val (.int (0 : Int32)), .val (.int (1 : Int32)), .unset, .unset, .unset] [(.int ((0 : Int32) + nn350))])
    refine Done.go (fun _ kt_ => XS.istore X351h.here hx rfl (hb hby at_100) rfl (l' := #[.val (.int p0), .val (.int p1), .val (.int p2), .val (.int p3), .val (.int p4), .val (.int m5), .val (.int m6), .val (.int m7), .val (.int m8), .val (.ref b333), .val (.ref b335), .val (.int (0 : Int32)), .val (.int (1 : Int32)), .val (.int ((0 : Int32) + nn350)), .unset, .unset]) rfl kt_) ?_
    show Done p e s below _ _ _ T351 (mkF m 102 #[.val (.int p0), .val (.int p1), .val (.int p2), .val (.int p3), .val (.int p4), .val (.int m5), .val (.int m6), .val (.int m7), .val (.int m8), .val (.ref b333), .val (.ref b335), .val (.int (0 : Int32)), .val (.int (1 : Int32)), .val (.int ((0 : Int32) + nn350)), .unset, .unset] [])
    refine Done.go (fun _ kt_ => XS.aload X351h.here hx rfl (hb hby at_102) rfl rfl kt_) ?_
    show Done p e s below _ _ _ T351 (mkF m 104 #[.val (.int p0), .val (.int p1), .val (.int p2), .val (.int p3), .val (.int p4), .val (.int m5), .val (.int m6), .val (.int m7), .val (.int m8), .val (.ref b333), .val (.ref b335), .val (.int (0 : Int32)), .val (.int (1 : Int32)), .val (.int ((0 : Int32) + nn350)), .unset, .unset] [(.ref b333)])
    refine Done.go (fun _ kt_ => XS.aload X351h.here hx rfl (hb hby at_104) rfl rfl kt_) ?_
    show Done p e s below _ _ _ T351 (mkF m 106 #[.val (.int p0), .val (.int p1), .val (.int p2), .val (.int p3), .val (.int p4), .val (.int m5), .val (.int m6), .val (.int m7), .val (.int m8), .val (.ref b333), .val (.ref b335), .val (.int (0 : Int32)), .val (.int (1 : Int32)), .val (.int ((0 : Int32) + nn350)), .unset, .unset] [(.ref b335), (.ref b333)])
    obtain ⟨cq352, kq352, q352a, q352b, q352c⟩ := isOf hZ e351 Ea350
    obtain ⟨v352, T352, Lc352, X352, hQ352, st352⟩ := own_backV (X351h.virtualBack hx (y := (⟨"com/example/pivotwise/pivotwise/index/PostingBuffer", "fits", "(Lcom/example/pivotwise/pivotwise/index/PostingBuffer$Chain;)Z"⟩ : MethodName)) (z := (⟨"com/example/pivotwise/pivotwise/index/PostingBuffer", "fits", "(Lcom/example/pivotwise/pivotwise/index/PostingBuffer$Chain;)Z"⟩ : MethodName)) hown (mvT hZ (hw _ (List.mem_of_getElem? (i := 69) rfl))) (mvT hZ (hw _ (List.mem_of_getElem? (i := 70) rfl))) (notFace_of_selects (args := #[]) (mvT hZ (hw _ (List.mem_of_getElem? (i := 72) rfl)))) (mvT hZ (hw _ (List.mem_of_getElem? (i := 72) rfl))) (mvT hZ (hw _ (List.mem_of_getElem? (i := 71) rfl))) (by decide) (backOf (W := 0) (rm10 l Z a0 hw [] b333 b335 bP bB (.ref bk350) (16 : Int32) (0 : Int32) nx350 (12 : Int32) (16 : Int32) ((0 : Int32) + nn350) T350.heap n0 Z350 ⟨Ea350, Ec350, Pposting350, PblockBits350, PblockSize350, PmostSlice350, Pblocks350, Ptaken350, Pblock350, Cfirst350, Cnext350, Cend350, Cslice350, Clength350, ⟨_, VP350⟩, BB350⟩) hZ (hw _ (List.mem_of_getElem? (i := 73) rfl)) (hw _ (List.mem_of_getElem? (i := 3) rfl)) (by decide) (by decide)) q352a q352c (g := (mkF m 106 #[.val (.int p0), .val (.int p1), .val (.int p2), .val (.int p3), .val (.int p4), .val (.int m5), .val (.int m6), .val (.int m7), .val (.int m8), .val (.ref b333), .val (.ref b335), .val (.int (0 : Int32)), .val (.int (1 : Int32)), .val (.int ((0 : Int32) + nn350)), .unset, .unset] [(.ref b335), (.ref b333)])) rfl (by rw [hml]; rfl) (Steps.refl _) (argsL := [(.ref b335)]) (rest := []) (lenOf own_pd10 rfl) rfl (by show 2 * 0 + _ ≤ _; exact Nat.le_of_eq rfl) (hb hby at_106) (fun _ _ => ⟨rfl, e351, (by first | decide | omega : 5 + 0 ≤ _), (by first | decide | omega : 55 + 0 ≤ _)⟩))
    obtain ⟨rfl, N352q, e352⟩ := hQ352
    refine Done.go st352 ?_
    clear st352
    have N352 := Fr.app N351h N352q
    clear N352q
    obtain ⟨Lh352, X352h, N352h⟩ : ∃ L, Stand p l e room_1 s m #[(.int p0), (.int p1), (.int p2), (.int p3), (.int p4)] below meth c T352 L 5 55 ∧ Fr n0 L := ⟨_, X352, N352⟩
    clear X352 N352 X351h e351 N351h
    show Done p e s below _ _ _ T352 (mkF m 109 #[.val (.int p0), .val (.int p1), .val (.int p2), .val (.int p3), .val (.int p4), .val (.int m5), .val (.int m6), .val (.int m7), .val (.int m8), .val (.ref b333), .val (.ref b335), .val (.int (0 : Int32)), .val (.int (1 : Int32)), .val (.int ((0 : Int32) + nn350)), .unset, .unset] [(.int (own_fit (12 : Int32) nx350 (16 : Int32) (own_ns (0 : Int32) (16 : Int32))))])
    refine Done.go (fun _ kt_ => XS.istore X352h.here hx rfl (hb hby at_109) rfl (l' := #[.val (.int p0), .val (.int p1), .val (.int p2), .val (.int p3), .val (.int p4), .val (.int m5), .val (.int m6), .val (.int m7), .val (.int m8), .val (.ref b333), .val (.ref b335), .val (.int (0 : Int32)), .val (.int (1 : Int32)), .val (.int ((0 : Int32) + nn350)), .val (.int (own_fit (12 : Int32) nx350 (16 : Int32) (own_ns (0 : Int32) (16 : Int32)))), .unset]) rfl kt_) ?_
    show Done p e s below _ _ _ T352 (mkF m 111 #[.val (.int p0), .val (.int p1), .val (.int p2), .val (.int p3), .val (.int p4), .val (.int m5), .val (.int m6), .val (.int m7), .val (.int m8), .val (.ref b333), .val (.ref b335), .val (.int (0 : Int32)), .val (.int (1 : Int32)), .val (.int ((0 : Int32) + nn350)), .val (.int (own_fit (12 : Int32) nx350 (16 : Int32) (own_ns (0 : Int32) (16 : Int32)))), .unset] [])
    refine Done.go (fun _ kt_ => XS.iload X352h.here hx rfl (hb hby at_111) rfl kt_) ?_
    show Done p e s below _ _ _ T352 (mkF m 113 #[.val (.int p0), .val (.int p1), .val (.int p2), .val (.int p3), .val (.int p4), .val (.int m5), .val (.int m6), .val (.int m7), .val (.int m8), .val (.ref b333), .val (.ref b335), .val (.int (0 : Int32)), .val (.int (1 : Int32)), .val (.int ((0 : Int32) + nn350)), .val (.int (own_fit (12 : Int32) nx350 (16 : Int32) (own_ns (0 : Int32) (16 : Int32)))), .unset] [(.int m7)])
    obtain ⟨v353, T353, Lc353, X353, hQ353, st353⟩ := own_backG (Jvm.LawKit.callS X352h hx (y := (⟨"com/example/pivotwise/pivotwise/index/ChainClearPinLaw", "vlen", "(I)I"⟩ : MethodName)) hown (mvT hZ (hw _ (List.mem_of_getElem? (i := 102) rfl))) (mvT hZ (hw _ (List.mem_of_getElem? (i := 103) rfl))) (mvT hZ (hw _ (List.mem_of_getElem? (i := 104) rfl))) (mvT hZ (hw _ (List.mem_of_getElem? (i := 105) rfl))) (by decide) (backOf (W := 0) (rm15 l Z a0 hw [] m7 T350.heap n0 Z350) hZ (hw _ (List.mem_of_getElem? (i := 105) rfl)) (hw _ (List.mem_of_getElem? (i := 104) rfl)) (by decide) (by decide)) (g := (mkF m 113 #[.val (.int p0), .val (.int p1), .val (.int p2), .val (.int p3), .val (.int p4), .val (.int m5), .val (.int m6), .val (.int m7), .val (.int m8), .val (.ref b333), .val (.ref b335), .val (.int (0 : Int32)), .val (.int (1 : Int32)), .val (.int ((0 : Int32) + nn350)), .val (.int (own_fit (12 : Int32) nx350 (16 : Int32) (own_ns (0 : Int32) (16 : Int32)))), .unset] [(.int m7)])) rfl (by rw [hml]; rfl) (argsL := [(.int m7)]) (rest := []) (lenOf own_pd0 rfl) rfl (by show 2 * 0 + _ ≤ _; exact Nat.le_of_eq rfl) (hb hby at_113) (fun _ _ => ⟨rfl, e352, (by first | decide | omega : 5 + 0 ≤ _), (by first | decide | omega : 55 + 0 ≤ _)⟩))
    obtain ⟨za, Ma, rfl, hza, hMa1, hMa5, hMa, N353q, e353⟩ := hQ353
    refine Done.go st353 ?_
    clear st353
    have N353 := Fr.app N352h N353q
    clear N353q
    obtain ⟨Lh353, X353h, N353h⟩ : ∃ L, Stand p l e room_1 s m #[(.int p0), (.int p1), (.int p2), (.int p3), (.int p4)] below meth c T353 L 5 55 ∧ Fr n0 L := ⟨_, X353, N353⟩
    clear X353 N353 X352h e352 N352h
    show Done p e s below _ _ _ T353 (mkF m 116 #[.val (.int p0), .val (.int p1), .val (.int p2), .val (.int p3), .val (.int p4), .val (.int m5), .val (.int m6), .val (.int m7), .val (.int m8), .val (.ref b333), .val (.ref b335), .val (.int (0 : Int32)), .val (.int (1 : Int32)), .val (.int ((0 : Int32) + nn350)), .val (.int (own_fit (12 : Int32) nx350 (16 : Int32) (own_ns (0 : Int32) (16 : Int32)))), .unset] [(.int za)])
    refine Done.go (fun _ kt_ => XS.iload X353h.here hx rfl (hb hby at_116) rfl kt_) ?_
    show Done p e s below _ _ _ T353 (mkF m 118 #[.val (.int p0), .val (.int p1), .val (.int p2), .val (.int p3), .val (.int p4), .val (.int m5), .val (.int m6), .val (.int m7), .val (.int m8), .val (.ref b333), .val (.ref b335), .val (.int (0 : Int32)), .val (.int (1 : Int32)), .val (.int ((0 : Int32) + nn350)), .val (.int (own_fit (12 : Int32) nx350 (16 : Int32) (own_ns (0 : Int32) (16 : Int32)))), .unset] [(.int m8), (.int za)])
    obtain ⟨v354, T354, Lc354, X354, hQ354, st354⟩ := own_backG (Jvm.LawKit.callS X353h hx (y := (⟨"com/example/pivotwise/pivotwise/index/ChainClearPinLaw", "vlen", "(I)I"⟩ : MethodName)) hown (mvT hZ (hw _ (List.mem_of_getElem? (i := 102) rfl))) (mvT hZ (hw _ (List.mem_of_getElem? (i := 103) rfl))) (mvT hZ (hw _ (List.mem_of_getElem? (i := 104) rfl))) (mvT hZ (hw _ (List.mem_of_getElem? (i := 105) rfl))) (by decide) (backOf (W := 1) (rm15 l Z a0 hw [] m8 T350.heap n0 Z350) hZ (hw _ (List.mem_of_getElem? (i := 105) rfl)) (hw _ (List.mem_of_getElem? (i := 104) rfl)) (by decide) (by decide)) (g := (mkF m 118 #[.val (.int p0), .val (.int p1), .val (.int p2), .val (.int p3), .val (.int p4), .val (.int m5), .val (.int m6), .val (.int m7), .val (.int m8), .val (.ref b333), .val (.ref b335), .val (.int (0 : Int32)), .val (.int (1 : Int32)), .val (.int ((0 : Int32) + nn350)), .val (.int (own_fit (12 : Int32) nx350 (16 : Int32) (own_ns (0 : Int32) (16 : Int32)))), .unset] [(.int m8), (.int za)])) rfl (by rw [hml]; rfl) (argsL := [(.int m8)]) (rest := [(.int za)]) (lenOf own_pd0 rfl) rfl (by show 2 * 0 + _ ≤ _; exact Nat.le_of_eq rfl) (hb hby at_118) (fun _ _ => ⟨rfl, e353, (by first | decide | omega : 5 + 0 ≤ _), (by first | decide | omega : 55 + 0 ≤ _)⟩))
    obtain ⟨zb, Mb, rfl, hzb, hMb1, hMb5, hMb, N354q, e354⟩ := hQ354
    refine Done.go st354 ?_
    clear st354
    have N354 := Fr.app N353h N354q
    clear N354q
    obtain ⟨Lh354, X354h, N354h⟩ : ∃ L, Stand p l e room_1 s m #[(.int p0), (.int p1), (.int p2), (.int p3), (.int p4)] below meth c T354 L 5 55 ∧ Fr n0 L := ⟨_, X354, N354⟩
    clear X354 N354 X353h e353 N353h
    show Done p e s below _ _ _ T354 (mkF m 121 #[.val (.int p0), .val (.int p1), .val (.int p2), .val (.int p3), .val (.int p4), .val (.int m5), .val (.int m6), .val (.int m7), .val (.int m8), .val (.ref b333), .val (.ref b335), .val (.int (0 : Int32)), .val (.int (1 : Int32)), .val (.int ((0 : Int32) + nn350)), .val (.int (own_fit (12 : Int32) nx350 (16 : Int32) (own_ns (0 : Int32) (16 : Int32)))), .unset] [(.int zb), (.int za)])
    refine Done.go (fun _ kt_ => XS.iadd X354h.here hx rfl (hb hby at_121) rfl kt_) ?_
    show Done p e s below _ _ _ T354 (mkF m 122 #[.val (.int p0), .val (.int p1), .val (.int p2), .val (.int p3), .val (.int p4), .val (.int m5), .val (.int m6), .val (.int m7), .val (.int m8), .val (.ref b333), .val (.ref b335), .val (.int (0 : Int32)), .val (.int (1 : Int32)), .val (.int ((0 : Int32) + nn350)), .val (.int (own_fit (12 : Int32) nx350 (16 : Int32) (own_ns (0 : Int32) (16 : Int32)))), .unset] [(.int (za + zb))])
    refine Done.go (fun _ kt_ => XS.istore X354h.here hx rfl (hb hby at_122) rfl (l' := #[.val (.int p0), .val (.int p1), .val (.int p2), .val (.int p3), .val (.int p4), .val (.int m5), .val (.int m6), .val (.int m7), .val (.int m8), .val (.ref b333), .val (.ref b335), .val (.int (0 : Int32)), .val (.int (1 : Int32)), .val (.int ((0 : Int32) + nn350)), .val (.int (own_fit (12 : Int32) nx350 (16 : Int32) (own_ns (0 : Int32) (16 : Int32)))), .val (.int (za + zb))]) rfl kt_) ?_
    show Done p e s below _ _ _ T354 (mkF m 124 #[.val (.int p0), .val (.int p1), .val (.int p2), .val (.int p3), .val (.int p4), .val (.int m5), .val (.int m6), .val (.int m7), .val (.int m8), .val (.ref b333), .val (.ref b335), .val (.int (0 : Int32)), .val (.int (1 : Int32)), .val (.int ((0 : Int32) + nn350)), .val (.int (own_fit (12 : Int32) nx350 (16 : Int32) (own_ns (0 : Int32) (16 : Int32)))), .val (.int (za + zb))] [])
    refine Done.go (fun _ kt_ => XS.iload X354h.here hx rfl (hb hby at_124) rfl kt_) ?_
    show Done p e s below _ _ _ T354 (mkF m 126 #[.val (.int p0), .val (.int p1), .val (.int p2), .val (.int p3), .val (.int p4), .val (.int m5), .val (.int m6), .val (.int m7), .val (.int m8), .val (.ref b333), .val (.ref b335), .val (.int (0 : Int32)), .val (.int (1 : Int32)), .val (.int ((0 : Int32) + nn350)), .val (.int (own_fit (12 : Int32) nx350 (16 : Int32) (own_ns (0 : Int32) (16 : Int32)))), .val (.int (za + zb))] [(.int (0 : Int32))])
    refine Done.go (fun _ kt_ => XS.ifNo X354h.here hx rfl (hb hby at_126) rfl ((if0 _ _).trans (teq rfl).2) kt_) ?_
    show Done p e s below _ _ _ T354 (mkF m 129 #[.val (.int p0), .val (.int p1), .val (.int p2), .val (.int p3), .val (.int p4), .val (.int m5), .val (.int m6), .val (.int m7), .val (.int m8), .val (.ref b333), .val (.ref b335), .val (.int (0 : Int32)), .val (.int (1 : Int32)), .val (.int ((0 : Int32) + nn350)), .val (.int (own_fit (12 : Int32) nx350 (16 : Int32) (own_ns (0 : Int32) (16 : Int32)))), .val (.int (za + zb))] [])
    refine Done.go (fun _ kt_ => XS.iload X354h.here hx rfl (hb hby at_129) rfl kt_) ?_
    show Done p e s below _ _ _ T354 (mkF m 131 #[.val (.int p0), .val (.int p1), .val (.int p2), .val (.int p3), .val (.int p4), .val (.int m5), .val (.int m6), .val (.int m7), .val (.int m8), .val (.ref b333), .val (.ref b335), .val (.int (0 : Int32)), .val (.int (1 : Int32)), .val (.int ((0 : Int32) + nn350)), .val (.int (own_fit (12 : Int32) nx350 (16 : Int32) (own_ns (0 : Int32) (16 : Int32)))), .val (.int (za + zb))] [(.int (1 : Int32))])
    refine Done.go (fun _ kt_ => XS.ifNo X354h.here hx rfl (hb hby at_131) rfl ((if0 _ _).trans (feq (by decide)).1) kt_) ?_
    have qa : Ma = Na350 := own_uniq hMa1 hna350.1 hMa hna350.2.2
    have qb : Mb = Nb350 := own_uniq hMb1 hnb350.1 hMb hnb350.2.2
    rw [qa] at hza; rw [qb] at hzb
    have hsum := own_add hza hzb (by have := hna350.2.1; have := hnb350.2.1; omega)
    have hl0 : ((0 : Int32) + nn350) = (za + zb) := by rw [Int32.zero_add]; exact Int32.toInt_inj.mp (by rw [hnn350, hsum])
    show Done p e s below _ _ _ T354 (mkF m 134 #[.val (.int p0), .val (.int p1), .val (.int p2), .val (.int p3), .val (.int p4), .val (.int m5), .val (.int m6), .val (.int m7), .val (.int m8), .val (.ref b333), .val (.ref b335), .val (.int (0 : Int32)), .val (.int (1 : Int32)), .val (.int ((0 : Int32) + nn350)), .val (.int (own_fit (12 : Int32) nx350 (16 : Int32) (own_ns (0 : Int32) (16 : Int32)))), .val (.int (za + zb))] [])
    refine Done.go (fun _ kt_ => XS.iload X354h.here hx rfl (hb hby at_134) rfl kt_) ?_
    show Done p e s below _ _ _ T354 (mkF m 136 #[.val (.int p0), .val (.int p1), .val (.int p2), .val (.int p3), .val (.int p4), .val (.int m5), .val (.int m6), .val (.int m7), .val (.int m8), .val (.ref b333), .val (.ref b335), .val (.int (0 : Int32)), .val (.int (1 : Int32)), .val (.int ((0 : Int32) + nn350)), .val (.int (own_fit (12 : Int32) nx350 (16 : Int32) (own_ns (0 : Int32) (16 : Int32)))), .val (.int (za + zb))] [(.int ((0 : Int32) + nn350))])
    refine Done.go (fun _ kt_ => XS.iload X354h.here hx rfl (hb hby at_136) rfl kt_) ?_
    show Done p e s below _ _ _ T354 (mkF m 138 #[.val (.int p0), .val (.int p1), .val (.int p2), .val (.int p3), .val (.int p4), .val (.int m5), .val (.int m6), .val (.int m7), .val (.int m8), .val (.ref b333), .val (.ref b335), .val (.int (0 : Int32)), .val (.int (1 : Int32)), .val (.int ((0 : Int32) + nn350)), .val (.int (own_fit (12 : Int32) nx350 (16 : Int32) (own_ns (0 : Int32) (16 : Int32)))), .val (.int (za + zb))] [(.int (za + zb)), (.int ((0 : Int32) + nn350))])
    refine Done.go (fun _ kt_ => XS.icmpNo X354h.here hx rfl (hb hby at_138) rfl (teq hl0).2 kt_) ?_
    show Done p e s below _ _ _ T354 (mkF m 141 #[.val (.int p0), .val (.int p1), .val (.int p2), .val (.int p3), .val (.int p4), .val (.int m5), .val (.int m6), .val (.int m7), .val (.int m8), .val (.ref b333), .val (.ref b335), .val (.int (0 : Int32)), .val (.int (1 : Int32)), .val (.int ((0 : Int32) + nn350)), .val (.int (own_fit (12 : Int32) nx350 (16 : Int32) (own_ns (0 : Int32) (16 : Int32)))), .val (.int (za + zb))] [])
    refine Done.go (fun _ kt_ => XS.iload X354h.here hx rfl (hb hby at_141) rfl kt_) ?_
    show Done p e s below _ _ _ T354 (mkF m 143 #[.val (.int p0), .val (.int p1), .val (.int p2), .val (.int p3), .val (.int p4), .val (.int m5), .val (.int m6), .val (.int m7), .val (.int m8), .val (.ref b333), .val (.ref b335), .val (.int (0 : Int32)), .val (.int (1 : Int32)), .val (.int ((0 : Int32) + nn350)), .val (.int (own_fit (12 : Int32) nx350 (16 : Int32) (own_ns (0 : Int32) (16 : Int32)))), .val (.int (za + zb))] [(.int (own_fit (12 : Int32) nx350 (16 : Int32) (own_ns (0 : Int32) (16 : Int32))))])
    refine Done.go (fun _ kt_ => XS.iload X354h.here hx rfl (hb hby at_143) rfl kt_) ?_
    show Done p e s below _ _ _ T354 (mkF m 145 #[.val (.int p0), .val (.int p1), .val (.int p2), .val (.int p3), .val (.int p4), .val (.int m5), .val (.int m6), .val (.int m7), .val (.int m8), .val (.ref b333), .val (.ref b335), .val (.int (0 : Int32)), .val (.int (1 : Int32)), .val (.int ((0 : Int32) + nn350)), .val (.int (own_fit (12 : Int32) nx350 (16 : Int32) (own_ns (0 : Int32) (16 : Int32)))), .val (.int (za + zb))] [(.int (za + zb)), (.int (own_fit (12 : Int32) nx350 (16 : Int32) (own_ns (0 : Int32) (16 : Int32))))])
    refine Done.go (fun _ kt_ => XS.iconst X354h.here hx rfl (hb hby at_145) kt_) ?_
    show Done p e s below _ _ _ T354 (mkF m 146 #[.val (.int p0), .val (.int p1), .val (.int p2), .val (.int p3), .val (.int p4), .val (.int m5), .val (.int m6), .val (.int m7), .val (.int m8), .val (.ref b333), .val (.ref b335), .val (.int (0 : Int32)), .val (.int (1 : Int32)), .val (.int ((0 : Int32) + nn350)), .val (.int (own_fit (12 : Int32) nx350 (16 : Int32) (own_ns (0 : Int32) (16 : Int32)))), .val (.int (za + zb))] [(.int (2 : Int32)), (.int (za + zb)), (.int (own_fit (12 : Int32) nx350 (16 : Int32) (own_ns (0 : Int32) (16 : Int32))))])
    by_cases hc146 : (2 : Int32) < (za + zb)
    · skip
      refine Done.go (fun _ kt_ => XS.icmpYes X354h.here hx rfl (pc0 := 146) (pc' := 153) rfl (hb hby at_146) rfl (tlt hc146).2.2.1 (by decide) (by decide) kt_) ?_
      show Done p e s below _ _ _ T354 (mkF m 153 #[.val (.int p0), .val (.int p1), .val (.int p2), .val (.int p3), .val (.int p4), .val (.int m5), .val (.int m6), .val (.int m7), .val (.int m8), .val (.ref b333), .val (.ref b335), .val (.int (0 : Int32)), .val (.int (1 : Int32)), .val (.int ((0 : Int32) + nn350)), .val (.int (own_fit (12 : Int32) nx350 (16 : Int32) (own_ns (0 : Int32) (16 : Int32)))), .val (.int (za + zb))] [(.int (own_fit (12 : Int32) nx350 (16 : Int32) (own_ns (0 : Int32) (16 : Int32))))])
      refine Done.go (fun _ kt_ => XS.iconst X354h.here hx rfl (hb hby at_153) kt_) ?_
      show Done p e s below _ _ _ T354 (mkF m 154 #[.val (.int p0), .val (.int p1), .val (.int p2), .val (.int p3), .val (.int p4), .val (.int m5), .val (.int m6), .val (.int m7), .val (.int m8), .val (.ref b333), .val (.ref b335), .val (.int (0 : Int32)), .val (.int (1 : Int32)), .val (.int ((0 : Int32) + nn350)), .val (.int (own_fit (12 : Int32) nx350 (16 : Int32) (own_ns (0 : Int32) (16 : Int32)))), .val (.int (za + zb))] [(.int (0 : Int32)), (.int (own_fit (12 : Int32) nx350 (16 : Int32) (own_ns (0 : Int32) (16 : Int32))))])
      have hdf := own_sub (by decide : (12 : Int32).toInt = ((12 : Nat) : Int)) hnx350
      have h12 := own_ltI (by decide : (2 : Int32).toInt = ((2 : Nat) : Int)) hsum
      rw [h12] at hc146
      have hlt : (12 : Int32) - nx350 < 10 := (by rw [Int32.lt_iff_toInt_lt, hdf, show (10 : Int32).toInt = 10 from by decide]; have := hna350.2.1; have := hnb350.2.1; have := hna350.1; have := hnb350.1; omega)
      refine Done.go (fun _ kt_ => XS.icmpNo X354h.here hx rfl (hb hby at_154) rfl (teq (by unfold own_fit; rw [if_pos hlt]; rfl)).2 kt_) ?_
      show Done p e s below _ _ _ T354 (mkF m 157 #[.val (.int p0), .val (.int p1), .val (.int p2), .val (.int p3), .val (.int p4), .val (.int m5), .val (.int m6), .val (.int m7), .val (.int m8), .val (.ref b333), .val (.ref b335), .val (.int (0 : Int32)), .val (.int (1 : Int32)), .val (.int ((0 : Int32) + nn350)), .val (.int (own_fit (12 : Int32) nx350 (16 : Int32) (own_ns (0 : Int32) (16 : Int32)))), .val (.int (za + zb))] [])
      refine Done.go (fun _ kt_ => XS.iconst X354h.here hx rfl (hb hby at_157) kt_) ?_
      show Done p e s below _ _ _ T354 (mkF m 158 #[.val (.int p0), .val (.int p1), .val (.int p2), .val (.int p3), .val (.int p4), .val (.int m5), .val (.int m6), .val (.int m7), .val (.int m8), .val (.ref b333), .val (.ref b335), .val (.int (0 : Int32)), .val (.int (1 : Int32)), .val (.int ((0 : Int32) + nn350)), .val (.int (own_fit (12 : Int32) nx350 (16 : Int32) (own_ns (0 : Int32) (16 : Int32)))), .val (.int (za + zb))] [(.int (1 : Int32))])
      refine Done.go (fun _ kt_ => XS.goto X354h.here hx rfl (pc0 := 158) (pc' := 162) rfl (hb hby at_158) (by decide) (by decide) kt_) ?_
      show Done p e s below _ _ _ T354 (mkF m 162 #[.val (.int p0), .val (.int p1), .val (.int p2), .val (.int p3), .val (.int p4), .val (.int m5), .val (.int m6), .val (.int m7), .val (.int m8), .val (.ref b333), .val (.ref b335), .val (.int (0 : Int32)), .val (.int (1 : Int32)), .val (.int ((0 : Int32) + nn350)), .val (.int (own_fit (12 : Int32) nx350 (16 : Int32) (own_ns (0 : Int32) (16 : Int32)))), .val (.int (za + zb))] [(.int (1 : Int32))])
      refine Done.retN X354h hx hlk (t := .boolean) hrt (by simp) (z' := (1 : Int32)) rfl (hb hby at_162) ?_ (by first | decide | omega) (by first | decide | omega)
      rw [e354]
      exact ⟨rfl, N354h⟩
    · skip
      refine Done.go (fun _ kt_ => XS.icmpNo X354h.here hx rfl (hb hby at_146) rfl (flt hc146).2.2.1 kt_) ?_
      show Done p e s below _ _ _ T354 (mkF m 149 #[.val (.int p0), .val (.int p1), .val (.int p2), .val (.int p3), .val (.int p4), .val (.int m5), .val (.int m6), .val (.int m7), .val (.int m8), .val (.ref b333), .val (.ref b335), .val (.int (0 : Int32)), .val (.int (1 : Int32)), .val (.int ((0 : Int32) + nn350)), .val (.int (own_fit (12 : Int32) nx350 (16 : Int32) (own_ns (0 : Int32) (16 : Int32)))), .val (.int (za + zb))] [(.int (own_fit (12 : Int32) nx350 (16 : Int32) (own_ns (0 : Int32) (16 : Int32))))])
      refine Done.go (fun _ kt_ => XS.iconst X354h.here hx rfl (hb hby at_149) kt_) ?_
      show Done p e s below _ _ _ T354 (mkF m 150 #[.val (.int p0), .val (.int p1), .val (.int p2), .val (.int p3), .val (.int p4), .val (.int m5), .val (.int m6), .val (.int m7), .val (.int m8), .val (.ref b333), .val (.ref b335), .val (.int (0 : Int32)), .val (.int (1 : Int32)), .val (.int ((0 : Int32) + nn350)), .val (.int (own_fit (12 : Int32) nx350 (16 : Int32) (own_ns (0 : Int32) (16 : Int32)))), .val (.int (za + zb))] [(.int (1 : Int32)), (.int (own_fit (12 : Int32) nx350 (16 : Int32) (own_ns (0 : Int32) (16 : Int32))))])
      refine Done.go (fun _ kt_ => XS.goto X354h.here hx rfl (pc0 := 150) (pc' := 154) rfl (hb hby at_150) (by decide) (by decide) kt_) ?_
      show Done p e s below _ _ _ T354 (mkF m 154 #[.val (.int p0), .val (.int p1), .val (.int p2), .val (.int p3), .val (.int p4), .val (.int m5), .val (.int m6), .val (.int m7), .val (.int m8), .val (.ref b333), .val (.ref b335), .val (.int (0 : Int32)), .val (.int (1 : Int32)), .val (.int ((0 : Int32) + nn350)), .val (.int (own_fit (12 : Int32) nx350 (16 : Int32) (own_ns (0 : Int32) (16 : Int32)))), .val (.int (za + zb))] [(.int (1 : Int32)), (.int (own_fit (12 : Int32) nx350 (16 : Int32) (own_ns (0 : Int32) (16 : Int32))))])
      have hdf := own_sub (by decide : (12 : Int32).toInt = ((12 : Nat) : Int)) hnx350
      have h12 := own_ltI (by decide : (2 : Int32).toInt = ((2 : Nat) : Int)) hsum
      rw [h12] at hc146
      have hlt : ¬ (12 : Int32) - nx350 < 10 := (by rw [Int32.lt_iff_toInt_lt, hdf, show (10 : Int32).toInt = 10 from by decide]; have := hna350.2.1; have := hnb350.2.1; have := hna350.1; have := hnb350.1; omega)
      refine Done.go (fun _ kt_ => XS.icmpNo X354h.here hx rfl (hb hby at_154) rfl (teq (by unfold own_fit; rw [if_neg hlt])).2 kt_) ?_
      show Done p e s below _ _ _ T354 (mkF m 157 #[.val (.int p0), .val (.int p1), .val (.int p2), .val (.int p3), .val (.int p4), .val (.int m5), .val (.int m6), .val (.int m7), .val (.int m8), .val (.ref b333), .val (.ref b335), .val (.int (0 : Int32)), .val (.int (1 : Int32)), .val (.int ((0 : Int32) + nn350)), .val (.int (own_fit (12 : Int32) nx350 (16 : Int32) (own_ns (0 : Int32) (16 : Int32)))), .val (.int (za + zb))] [])
      refine Done.go (fun _ kt_ => XS.iconst X354h.here hx rfl (hb hby at_157) kt_) ?_
      show Done p e s below _ _ _ T354 (mkF m 158 #[.val (.int p0), .val (.int p1), .val (.int p2), .val (.int p3), .val (.int p4), .val (.int m5), .val (.int m6), .val (.int m7), .val (.int m8), .val (.ref b333), .val (.ref b335), .val (.int (0 : Int32)), .val (.int (1 : Int32)), .val (.int ((0 : Int32) + nn350)), .val (.int (own_fit (12 : Int32) nx350 (16 : Int32) (own_ns (0 : Int32) (16 : Int32)))), .val (.int (za + zb))] [(.int (1 : Int32))])
      refine Done.go (fun _ kt_ => XS.goto X354h.here hx rfl (pc0 := 158) (pc' := 162) rfl (hb hby at_158) (by decide) (by decide) kt_) ?_
      show Done p e s below _ _ _ T354 (mkF m 162 #[.val (.int p0), .val (.int p1), .val (.int p2), .val (.int p3), .val (.int p4), .val (.int m5), .val (.int m6), .val (.int m7), .val (.int m8), .val (.ref b333), .val (.ref b335), .val (.int (0 : Int32)), .val (.int (1 : Int32)), .val (.int ((0 : Int32) + nn350)), .val (.int (own_fit (12 : Int32) nx350 (16 : Int32) (own_ns (0 : Int32) (16 : Int32)))), .val (.int (za + zb))] [(.int (1 : Int32))])
      refine Done.retN X354h hx hlk (t := .boolean) hrt (by simp) (z' := (1 : Int32)) rfl (hb hby at_162) ?_ (by first | decide | omega) (by first | decide | omega)
      rw [e354]
      exact ⟨rfl, N354h⟩
  · skip
    refine Done.go (fun _ kt_ => XS.ifNo X336h.here hx rfl (hb hby at_49) rfl ((if0 _ _).trans (feq hc49).1) kt_) ?_
    show Done p e s below _ _ _ T336 (mkF m 52 #[.val (.int p0), .val (.int p1), .val (.int p2), .val (.int p3), .val (.int p4), .val (.int m5), .val (.int m6), .val (.int m7), .val (.int m8), .val (.ref b333), .val (.ref b335), .unset, .unset, .unset, .unset, .unset] [])
    refine Done.go (fun _ kt_ => XS.aload X336h.here hx rfl (hb hby at_52) rfl rfl kt_) ?_
    show Done p e s below _ _ _ T336 (mkF m 54 #[.val (.int p0), .val (.int p1), .val (.int p2), .val (.int p3), .val (.int p4), .val (.int m5), .val (.int m6), .val (.int m7), .val (.int m8), .val (.ref b333), .val (.ref b335), .unset, .unset, .unset, .unset, .unset] [(.ref b333)])
    refine Done.go (fun _ kt_ => XS.aload X336h.here hx rfl (hb hby at_54) rfl rfl kt_) ?_
    show Done p e s below _ _ _ T336 (mkF m 56 #[.val (.int p0), .val (.int p1), .val (.int p2), .val (.int p3), .val (.int p4), .val (.int m5), .val (.int m6), .val (.int m7), .val (.int m8), .val (.ref b333), .val (.ref b335), .unset, .unset, .unset, .unset, .unset] [(.ref b335), (.ref b333)])
    refine Done.go (fun _ kt_ => XS.iload X336h.here hx rfl (hb hby at_56) rfl kt_) ?_
    show Done p e s below _ _ _ T336 (mkF m 58 #[.val (.int p0), .val (.int p1), .val (.int p2), .val (.int p3), .val (.int p4), .val (.int m5), .val (.int m6), .val (.int m7), .val (.int m8), .val (.ref b333), .val (.ref b335), .unset, .unset, .unset, .unset, .unset] [(.int m5), (.ref b335), (.ref b333)])
    refine Done.go (fun _ kt_ => XS.iload X336h.here hx rfl (hb hby at_58) rfl kt_) ?_
    show Done p e s below _ _ _ T336 (mkF m 60 #[.val (.int p0), .val (.int p1), .val (.int p2), .val (.int p3), .val (.int p4), .val (.int m5), .val (.int m6), .val (.int m7), .val (.int m8), .val (.ref b333), .val (.ref b335), .unset, .unset, .unset, .unset, .unset] [(.int m6), (.int m5), (.ref b335), (.ref b333)])
    have f355 := ((Eb.ext E335).keep K336k)
    have f356 := ((Pposting.ext E335).keep K336k (ninS ne_b333_b335 nin0))
    have f357 := ((PblockBits.ext E335).keep K336k (ninS ne_b333_b335 nin0))
    have f358 := ((PblockSize.ext E335).keep K336k (ninS ne_b333_b335 nin0))
    have f359 := ((PmostSlice.ext E335).keep K336k (ninS ne_b333_b335 nin0))
    have f360 := ((Pblocks.ext E335).keep K336k (ninS ne_b333_b335 nin0))
    have f361 := ((Ptaken.ext E335).keep K336k (ninS ne_b333_b335 nin0))
    have f362 := ((Pblock.ext E335).keep K336k (ninS ne_b333_b335 nin0))
    have f363 := ((VP.ext E335).keep K336k (ninS ne_bP_b335 nin0))
    have f364 := ((BB.ext E335).keep K336k (ninS ne_bB_b335 nin0))
    obtain ⟨cq365, kq365, q365a, q365b, q365c⟩ := isOf hZ rfl f355
    obtain ⟨v365, T365, Lc365, X365, hQ365, st365⟩ := own_backV (X336h.virtualBack hx (y := (⟨"com/example/pivotwise/pivotwise/index/PostingBuffer", "add", "(Lcom/example/pivotwise/pivotwise/index/PostingBuffer$Chain;II)V"⟩ : MethodName)) (z := (⟨"com/example/pivotwise/pivotwise/index/PostingBuffer", "add", "(Lcom/example/pivotwise/pivotwise/index/PostingBuffer$Chain;II)V"⟩ : MethodName)) hown (mvT hZ (hw _ (List.mem_of_getElem? (i := 83) rfl))) (mvT hZ (hw _ (List.mem_of_getElem? (i := 84) rfl))) (notFace_of_selects (args := #[]) (mvT hZ (hw _ (List.mem_of_getElem? (i := 86) rfl)))) (mvT hZ (hw _ (List.mem_of_getElem? (i := 86) rfl))) (mvT hZ (hw _ (List.mem_of_getElem? (i := 85) rfl))) (by decide) (backOf (W := 0) (rm12N l Z a0 hw [] b333 b335 bP bB m5 m6 T336.heap n0 Z336 ⟨f355, Ec336, f356, f357, f358, f359, f360, f361, f362, Cfirst336, Cnext336, Cend336, Cslice336, Clength336, ⟨_, f363⟩, f364⟩ ⟨ne_b333_b335, d2, d3, (Ne.symm ne_bP_b335), (Ne.symm ne_bB_b335), d6⟩ ⟨gz_b333, gz_b335, gP, gB⟩ hm5 hm6) hZ (hw _ (List.mem_of_getElem? (i := 87) rfl)) (hw _ (List.mem_of_getElem? (i := 3) rfl)) (by decide) (by decide)) q365a q365c (g := (mkF m 60 #[.val (.int p0), .val (.int p1), .val (.int p2), .val (.int p3), .val (.int p4), .val (.int m5), .val (.int m6), .val (.int m7), .val (.int m8), .val (.ref b333), .val (.ref b335), .unset, .unset, .unset, .unset, .unset] [(.int m6), (.int m5), (.ref b335), (.ref b333)])) rfl (by rw [hml]; rfl) (Steps.refl _) (argsL := [(.ref b335), (.int m5), (.int m6)]) (rest := []) (lenOf own_pd11 rfl) rfl (by show 2 * 0 + _ ≤ _; exact Nat.le_of_eq rfl) (hb hby at_60) (fun _ _ => ⟨rfl, rfl, (by first | decide | omega : 4 + 1 ≤ _), (by first | decide | omega : 23 + 32 ≤ _)⟩))
    obtain ⟨rfl, N365q, hs365, bk365, g365, nn365, nx365, Na365, Nb365, hna365, hnb365, hnn365, hnx365, P365, Vk365, hdk365, hgk365⟩ := hQ365
    refine Done.go st365 ?_
    clear st365
    have N365 := Fr.app N336h N365q
    clear N365q
    have Z365 : n0 ≤ T365.heap.size := Nat.le_trans Z336 hs365
    obtain ⟨Lh365, X365h, N365h⟩ : ∃ L, Stand p l e room_1 s m #[(.int p0), (.int p1), (.int p2), (.int p3), (.int p4)] below meth c T365 L 5 55 ∧ Fr n0 L := ⟨_, X365, N365⟩
    clear X365 N365 X336h N336h Z336
    obtain ⟨k1_365, k2_365, k3_365, k4_365⟩ := hdk365
    obtain ⟨Ea365, Ec365, Pposting365, PblockBits365, PblockSize365, PmostSlice365, Pblocks365, Ptaken365, Pblock365, Cfirst365, Cnext365, Cend365, Cslice365, Clength365, ⟨fP365, VP365⟩, BB365⟩ := P365
    show Done p e s below _ _ _ T365 (mkF m 63 #[.val (.int p0), .val (.int p1), .val (.int p2), .val (.int p3), .val (.int p4), .val (.int m5), .val (.int m6), .val (.int m7), .val (.int m8), .val (.ref b333), .val (.ref b335), .unset, .unset, .unset, .unset, .unset] [])
    refine Done.go (fun _ kt_ => XS.aload X365h.here hx rfl (hb hby at_63) rfl rfl kt_) ?_
    show Done p e s below _ _ _ T365 (mkF m 65 #[.val (.int p0), .val (.int p1), .val (.int p2), .val (.int p3), .val (.int p4), .val (.int m5), .val (.int m6), .val (.int m7), .val (.int m8), .val (.ref b333), .val (.ref b335), .unset, .unset, .unset, .unset, .unset] [(.ref b335)])
    obtain ⟨cq366, kq366, q366a, q366b, q366c⟩ := isOf hZ rfl Ec365
    obtain ⟨v366, T366, Lc366, X366, hQ366, st366⟩ := own_backV (X365h.virtualBack hx (y := (⟨"com/example/pivotwise/pivotwise/index/PostingBuffer$Chain", "clear", "()V"⟩ : MethodName)) (z := (⟨"com/example/pivotwise/pivotwise/index/PostingBuffer$Chain", "clear", "()V"⟩ : MethodName)) hown (mvT hZ (hw _ (List.mem_of_getElem? (i := 51) rfl))) (mvT hZ (hw _ (List.mem_of_getElem? (i := 52) rfl))) (notFace_of_selects (args := #[]) (mvT hZ (hw _ (List.mem_of_getElem? (i := 54) rfl)))) (mvT hZ (hw _ (List.mem_of_getElem? (i := 54) rfl))) (mvT hZ (hw _ (List.mem_of_getElem? (i := 53) rfl))) (by decide) (backOf (W := 0) (rm8 l Z a0 hw [] b335 (0 : Int32) nx365 (12 : Int32) (16 : Int32) ((0 : Int32) + nn365) T365.heap n0 Z365 Ec365 gz_b335 Cfirst365 Cnext365 Cend365 Cslice365 Clength365) hZ (hw _ (List.mem_of_getElem? (i := 55) rfl)) (hw _ (List.mem_of_getElem? (i := 44) rfl)) (by decide) (by decide)) q366a q366c (g := (mkF m 65 #[.val (.int p0), .val (.int p1), .val (.int p2), .val (.int p3), .val (.int p4), .val (.int m5), .val (.int m6), .val (.int m7), .val (.int m8), .val (.ref b333), .val (.ref b335), .unset, .unset, .unset, .unset, .unset] [(.ref b335)])) rfl (by rw [hml]; rfl) (Steps.refl _) (argsL := []) (rest := []) (lenOf own_pd8 rfl) rfl (by show 2 * 0 + _ ≤ _; exact Nat.le_of_eq rfl) (hb hby at_65) (fun _ _ => ⟨rfl, rfl, (by first | decide | omega : 5 + 0 ≤ _), (by first | decide | omega : 55 + 0 ≤ _)⟩))
    obtain ⟨rfl, N366q, K366k, Ec366, Cfirst366, Cnext366, Cend366, Cslice366, Clength366⟩ := hQ366
    refine Done.go st366 ?_
    clear st366
    have N366 := Fr.app N365h N366q
    clear N366q
    have Z366 : n0 ≤ T366.heap.size := Nat.le_trans Z365 K366k.1
    obtain ⟨Lh366, X366h, N366h⟩ : ∃ L, Stand p l e room_1 s m #[(.int p0), (.int p1), (.int p2), (.int p3), (.int p4)] below meth c T366 L 5 55 ∧ Fr n0 L := ⟨_, X366, N366⟩
    clear X366 N366 X365h N365h Z365
    show Done p e s below _ _ _ T366 (mkF m 68 #[.val (.int p0), .val (.int p1), .val (.int p2), .val (.int p3), .val (.int p4), .val (.int m5), .val (.int m6), .val (.int m7), .val (.int m8), .val (.ref b333), .val (.ref b335), .unset, .unset, .unset, .unset, .unset] [])
    refine Done.go (fun _ kt_ => XS.aload X366h.here hx rfl (hb hby at_68) rfl rfl kt_) ?_
    show Done p e s below _ _ _ T366 (mkF m 70 #[.val (.int p0), .val (.int p1), .val (.int p2), .val (.int p3), .val (.int p4), .val (.int m5), .val (.int m6), .val (.int m7), .val (.int m8), .val (.ref b333), .val (.ref b335), .unset, .unset, .unset, .unset, .unset] [(.ref b335)])
    obtain ⟨cq367, kq367, q367a, q367b, q367c⟩ := isOf hZ rfl Ec366
    obtain ⟨v367, T367, Lc367, X367, hQ367, st367⟩ := own_backV (X366h.virtualBack hx (y := (⟨"com/example/pivotwise/pivotwise/index/PostingBuffer$Chain", "length", "()I"⟩ : MethodName)) (z := (⟨"com/example/pivotwise/pivotwise/index/PostingBuffer$Chain", "length", "()I"⟩ : MethodName)) hown (mvT hZ (hw _ (List.mem_of_getElem? (i := 64) rfl))) (mvT hZ (hw _ (List.mem_of_getElem? (i := 65) rfl))) (notFace_of_selects (args := #[]) (mvT hZ (hw _ (List.mem_of_getElem? (i := 67) rfl)))) (mvT hZ (hw _ (List.mem_of_getElem? (i := 67) rfl))) (mvT hZ (hw _ (List.mem_of_getElem? (i := 66) rfl))) (by decide) (backOf (W := 0) (rm9 l Z a0 hw [] b335 (0 : Int32) T366.heap n0 Z366 Clength366) hZ (hw _ (List.mem_of_getElem? (i := 68) rfl)) (hw _ (List.mem_of_getElem? (i := 44) rfl)) (by decide) (by decide)) q367a q367c (g := (mkF m 70 #[.val (.int p0), .val (.int p1), .val (.int p2), .val (.int p3), .val (.int p4), .val (.int m5), .val (.int m6), .val (.int m7), .val (.int m8), .val (.ref b333), .val (.ref b335), .unset, .unset, .unset, .unset, .unset] [(.ref b335)])) rfl (by rw [hml]; rfl) (Steps.refl _) (argsL := []) (rest := []) (lenOf own_pd9 rfl) rfl (by show 2 * 0 + _ ≤ _; exact Nat.le_of_eq rfl) (hb hby at_70) (fun _ _ => ⟨rfl, rfl, (by first | decide | omega : 5 + 0 ≤ _), (by first | decide | omega : 55 + 0 ≤ _)⟩))
    obtain ⟨rfl, N367q, e367⟩ := hQ367
    refine Done.go st367 ?_
    clear st367
    have N367 := Fr.app N366h N367q
    clear N367q
    obtain ⟨Lh367, X367h, N367h⟩ : ∃ L, Stand p l e room_1 s m #[(.int p0), (.int p1), (.int p2), (.int p3), (.int p4)] below meth c T367 L 5 55 ∧ Fr n0 L := ⟨_, X367, N367⟩
    clear X367 N367 X366h N366h
    show Done p e s below _ _ _ T367 (mkF m 73 #[.val (.int p0), .val (.int p1), .val (.int p2), .val (.int p3), .val (.int p4), .val (.int m5), .val (.int m6), .val (.int m7), .val (.int m8), .val (.ref b333), .val (.ref b335), .unset, .unset, .unset, .unset, .unset] [(.int (0 : Int32))])
    refine Done.go (fun _ kt_ => XS.istore X367h.here hx rfl (hb hby at_73) rfl (l' := #[.val (.int p0), .val (.int p1), .val (.int p2), .val (.int p3), .val (.int p4), .val (.int m5), .val (.int m6), .val (.int m7), .val (.int m8), .val (.ref b333), .val (.ref b335), .val (.int (0 : Int32)), .unset, .unset, .unset, .unset]) rfl kt_) ?_
    show Done p e s below _ _ _ T367 (mkF m 75 #[.val (.int p0), .val (.int p1), .val (.int p2), .val (.int p3), .val (.int p4), .val (.int m5), .val (.int m6), .val (.int m7), .val (.int m8), .val (.ref b333), .val (.ref b335), .val (.int (0 : Int32)), .unset, .unset, .unset, .unset] [])
    refine Done.go (fun _ kt_ => XS.aload X367h.here hx rfl (hb hby at_75) rfl rfl kt_) ?_
    show Done p e s below _ _ _ T367 (mkF m 77 #[.val (.int p0), .val (.int p1), .val (.int p2), .val (.int p3), .val (.int p4), .val (.int m5), .val (.int m6), .val (.int m7), .val (.int m8), .val (.ref b333), .val (.ref b335), .val (.int (0 : Int32)), .unset, .unset, .unset, .unset] [(.ref b333)])
    refine Done.go (fun _ kt_ => XS.aload X367h.here hx rfl (hb hby at_77) rfl rfl kt_) ?_
    show Done p e s below _ _ _ T367 (mkF m 79 #[.val (.int p0), .val (.int p1), .val (.int p2), .val (.int p3), .val (.int p4), .val (.int m5), .val (.int m6), .val (.int m7), .val (.int m8), .val (.ref b333), .val (.ref b335), .val (.int (0 : Int32)), .unset, .unset, .unset, .unset] [(.ref b335), (.ref b333)])
    have f368 := (Ea365.keep K366k)
    have f369 := (Pposting365.keep K366k (ninS ne_b333_b335 nin0))
    have f370 := (PblockBits365.keep K366k (ninS ne_b333_b335 nin0))
    have f371 := (PblockSize365.keep K366k (ninS ne_b333_b335 nin0))
    have f372 := (PmostSlice365.keep K366k (ninS ne_b333_b335 nin0))
    have f373 := (Pblocks365.keep K366k (ninS ne_b333_b335 nin0))
    have f374 := (Ptaken365.keep K366k (ninS ne_b333_b335 nin0))
    have f375 := (Pblock365.keep K366k (ninS ne_b333_b335 nin0))
    have f376 := (VP365.keep K366k (ninS ne_bP_b335 nin0))
    have f377 := (BB365.keep K366k (ninS ne_bB_b335 nin0))
    obtain ⟨cq378, kq378, q378a, q378b, q378c⟩ := isOf hZ e367 f368
    obtain ⟨v378, T378, Lc378, X378, hQ378, st378⟩ := own_backV (X367h.virtualBack hx (y := (⟨"com/example/pivotwise/pivotwise/index/PostingBuffer", "fits", "(Lcom/example/pivotwise/pivotwise/index/PostingBuffer$Chain;)Z"⟩ : MethodName)) (z := (⟨"com/example/pivotwise/pivotwise/index/PostingBuffer", "fits", "(Lcom/example/pivotwise/pivotwise/index/PostingBuffer$Chain;)Z"⟩ : MethodName)) hown (mvT hZ (hw _ (List.mem_of_getElem? (i := 69) rfl))) (mvT hZ (hw _ (List.mem_of_getElem? (i := 70) rfl))) (notFace_of_selects (args := #[]) (mvT hZ (hw _ (List.mem_of_getElem? (i := 72) rfl)))) (mvT hZ (hw _ (List.mem_of_getElem? (i := 72) rfl))) (mvT hZ (hw _ (List.mem_of_getElem? (i := 71) rfl))) (by decide) (backOf (W := 0) (rm10 l Z a0 hw [] b333 b335 bP bB (.ref bk365) (16 : Int32) (-1 : Int32) (0 : Int32) (0 : Int32) (0 : Int32) (0 : Int32) T366.heap n0 Z366 ⟨f368, Ec366, f369, f370, f371, f372, f373, f374, f375, Cfirst366, Cnext366, Cend366, Cslice366, Clength366, ⟨_, f376⟩, f377⟩) hZ (hw _ (List.mem_of_getElem? (i := 73) rfl)) (hw _ (List.mem_of_getElem? (i := 3) rfl)) (by decide) (by decide)) q378a q378c (g := (mkF m 79 #[.val (.int p0), .val (.int p1), .val (.int p2), .val (.int p3), .val (.int p4), .val (.int m5), .val (.int m6), .val (.int m7), .val (.int m8), .val (.ref b333), .val (.ref b335), .val (.int (0 : Int32)), .unset, .unset, .unset, .unset] [(.ref b335), (.ref b333)])) rfl (by rw [hml]; rfl) (Steps.refl _) (argsL := [(.ref b335)]) (rest := []) (lenOf own_pd10 rfl) rfl (by show 2 * 0 + _ ≤ _; exact Nat.le_of_eq rfl) (hb hby at_79) (fun _ _ => ⟨rfl, e367, (by first | decide | omega : 5 + 0 ≤ _), (by first | decide | omega : 55 + 0 ≤ _)⟩))
    obtain ⟨rfl, N378q, e378⟩ := hQ378
    refine Done.go st378 ?_
    clear st378
    have N378 := Fr.app N367h N378q
    clear N378q
    obtain ⟨Lh378, X378h, N378h⟩ : ∃ L, Stand p l e room_1 s m #[(.int p0), (.int p1), (.int p2), (.int p3), (.int p4)] below meth c T378 L 5 55 ∧ Fr n0 L := ⟨_, X378, N378⟩
    clear X378 N378 X367h e367 N367h
    show Done p e s below _ _ _ T378 (mkF m 82 #[.val (.int p0), .val (.int p1), .val (.int p2), .val (.int p3), .val (.int p4), .val (.int m5), .val (.int m6), .val (.int m7), .val (.int m8), .val (.ref b333), .val (.ref b335), .val (.int (0 : Int32)), .unset, .unset, .unset, .unset] [(.int (own_fit (0 : Int32) (0 : Int32) (16 : Int32) (own_ns (-1 : Int32) (0 : Int32))))])
    rw [show (own_fit (0 : Int32) (0 : Int32) (16 : Int32) (own_ns (-1 : Int32) (0 : Int32))) = (1 : Int32) from by decide]
    show Done p e s below _ _ _ T378 (mkF m 82 #[.val (.int p0), .val (.int p1), .val (.int p2), .val (.int p3), .val (.int p4), .val (.int m5), .val (.int m6), .val (.int m7), .val (.int m8), .val (.ref b333), .val (.ref b335), .val (.int (0 : Int32)), .unset, .unset, .unset, .unset] [(.int (1 : Int32))])
    refine Done.go (fun _ kt_ => XS.istore X378h.here hx rfl (hb hby at_82) rfl (l' := #[.val (.int p0), .val (.int p1), .val (.int p2), .val (.int p3), .val (.int p4), .val (.int m5), .val (.int m6), .val (.int m7), .val (.int m8), .val (.ref b333), .val (.ref b335), .val (.int (0 : Int32)), .val (.int (1 : Int32)), .unset, .unset, .unset]) rfl kt_) ?_
    show Done p e s below _ _ _ T378 (mkF m 84 #[.val (.int p0), .val (.int p1), .val (.int p2), .val (.int p3), .val (.int p4), .val (.int m5), .val (.int m6), .val (.int m7), .val (.int m8), .val (.ref b333), .val (.ref b335), .val (.int (0 : Int32)), .val (.int (1 : Int32)), .unset, .unset, .unset] [])
    refine Done.go (fun _ kt_ => XS.aload X378h.here hx rfl (hb hby at_84) rfl rfl kt_) ?_
    show Done p e s below _ _ _ T378 (mkF m 86 #[.val (.int p0), .val (.int p1), .val (.int p2), .val (.int p3), .val (.int p4), .val (.int m5), .val (.int m6), .val (.int m7), .val (.int m8), .val (.ref b333), .val (.ref b335), .val (.int (0 : Int32)), .val (.int (1 : Int32)), .unset, .unset, .unset] [(.ref b333)])
    refine Done.go (fun _ kt_ => XS.aload X378h.here hx rfl (hb hby at_86) rfl rfl kt_) ?_
    show Done p e s below _ _ _ T378 (mkF m 88 #[.val (.int p0), .val (.int p1), .val (.int p2), .val (.int p3), .val (.int p4), .val (.int m5), .val (.int m6), .val (.int m7), .val (.int m8), .val (.ref b333), .val (.ref b335), .val (.int (0 : Int32)), .val (.int (1 : Int32)), .unset, .unset, .unset] [(.ref b335), (.ref b333)])
    refine Done.go (fun _ kt_ => XS.iload X378h.here hx rfl (hb hby at_88) rfl kt_) ?_
    show Done p e s below _ _ _ T378 (mkF m 90 #[.val (.int p0), .val (.int p1), .val (.int p2), .val (.int p3), .val (.int p4), .val (.int m5), .val (.int m6), .val (.int m7), .val (.int m8), .val (.ref b333), .val (.ref b335), .val (.int (0 : Int32)), .val (.int (1 : Int32)), .unset, .unset, .unset] [(.int m7), (.ref b335), (.ref b333)])
    refine Done.go (fun _ kt_ => XS.iload X378h.here hx rfl (hb hby at_90) rfl kt_) ?_
    show Done p e s below _ _ _ T378 (mkF m 92 #[.val (.int p0), .val (.int p1), .val (.int p2), .val (.int p3), .val (.int p4), .val (.int m5), .val (.int m6), .val (.int m7), .val (.int m8), .val (.ref b333), .val (.ref b335), .val (.int (0 : Int32)), .val (.int (1 : Int32)), .unset, .unset, .unset] [(.int m8), (.int m7), (.ref b335), (.ref b333)])
    have f379 := (Vk365.keep K366k (ninS k2_365 nin0))
    obtain ⟨cq380, kq380, q380a, q380b, q380c⟩ := isOf hZ e378 f368
    obtain ⟨v380, T380, Lc380, X380, hQ380, st380⟩ := own_backV (X378h.virtualBack hx (y := (⟨"com/example/pivotwise/pivotwise/index/PostingBuffer", "add", "(Lcom/example/pivotwise/pivotwise/index/PostingBuffer$Chain;II)V"⟩ : MethodName)) (z := (⟨"com/example/pivotwise/pivotwise/index/PostingBuffer", "add", "(Lcom/example/pivotwise/pivotwise/index/PostingBuffer$Chain;II)V"⟩ : MethodName)) hown (mvT hZ (hw _ (List.mem_of_getElem? (i := 83) rfl))) (mvT hZ (hw _ (List.mem_of_getElem? (i := 84) rfl))) (notFace_of_selects (args := #[]) (mvT hZ (hw _ (List.mem_of_getElem? (i := 86) rfl)))) (mvT hZ (hw _ (List.mem_of_getElem? (i := 86) rfl))) (mvT hZ (hw _ (List.mem_of_getElem? (i := 85) rfl))) (by decide) (backOf (W := 0) (rm12S l Z a0 hw [] b333 b335 bP bB bk365 _ m7 m8 T366.heap n0 Z366 ⟨f368, Ec366, f369, f370, f371, f372, f373, f374, f375, Cfirst366, Cnext366, Cend366, Cslice366, Clength366, ⟨_, f376⟩, f377⟩ ⟨ne_b333_b335, d2, d3, (Ne.symm ne_bP_b335), (Ne.symm ne_bB_b335), d6⟩ ⟨gz_b333, gz_b335, gP, gB⟩ f379 ⟨k1_365, k2_365, k3_365, k4_365⟩ hgk365 hm7 hm8) hZ (hw _ (List.mem_of_getElem? (i := 87) rfl)) (hw _ (List.mem_of_getElem? (i := 3) rfl)) (by decide) (by decide)) q380a q380c (g := (mkF m 92 #[.val (.int p0), .val (.int p1), .val (.int p2), .val (.int p3), .val (.int p4), .val (.int m5), .val (.int m6), .val (.int m7), .val (.int m8), .val (.ref b333), .val (.ref b335), .val (.int (0 : Int32)), .val (.int (1 : Int32)), .unset, .unset, .unset] [(.int m8), (.int m7), (.ref b335), (.ref b333)])) rfl (by rw [hml]; rfl) (Steps.refl _) (argsL := [(.ref b335), (.int m7), (.int m8)]) (rest := []) (lenOf own_pd11 rfl) rfl (by show 2 * 0 + _ ≤ _; exact Nat.le_of_eq rfl) (hb hby at_92) (fun _ _ => ⟨rfl, e378, (by first | decide | omega : 5 + 0 ≤ _), (by first | decide | omega : 55 + 0 ≤ _)⟩))
    obtain ⟨rfl, N380q, hs380, bk380, g380, nn380, nx380, Na380, Nb380, hna380, hnb380, hnn380, hnx380, P380, Vk380, hdk380, hgk380⟩ := hQ380
    refine Done.go st380 ?_
    clear st380
    have N380 := Fr.app N378h N380q
    clear N380q
    have Z380 : n0 ≤ T380.heap.size := Nat.le_trans Z366 hs380
    obtain ⟨Lh380, X380h, N380h⟩ : ∃ L, Stand p l e room_1 s m #[(.int p0), (.int p1), (.int p2), (.int p3), (.int p4)] below meth c T380 L 5 55 ∧ Fr n0 L := ⟨_, X380, N380⟩
    clear X380 N380 X378h e378 N378h Z366
    obtain ⟨k1_380, k2_380, k3_380, k4_380⟩ := hdk380
    obtain ⟨Ea380, Ec380, Pposting380, PblockBits380, PblockSize380, PmostSlice380, Pblocks380, Ptaken380, Pblock380, Cfirst380, Cnext380, Cend380, Cslice380, Clength380, ⟨fP380, VP380⟩, BB380⟩ := P380
    show Done p e s below _ _ _ T380 (mkF m 95 #[.val (.int p0), .val (.int p1), .val (.int p2), .val (.int p3), .val (.int p4), .val (.int m5), .val (.int m6), .val (.int m7), .val (.int m8), .val (.ref b333), .val (.ref b335), .val (.int (0 : Int32)), .val (.int (1 : Int32)), .unset, .unset, .unset] [])
    refine Done.go (fun _ kt_ => XS.aload X380h.here hx rfl (hb hby at_95) rfl rfl kt_) ?_
    show Done p e s below _ _ _ T380 (mkF m 97 #[.val (.int p0), .val (.int p1), .val (.int p2), .val (.int p3), .val (.int p4), .val (.int m5), .val (.int m6), .val (.int m7), .val (.int m8), .val (.ref b333), .val (.ref b335), .val (.int (0 : Int32)), .val (.int (1 : Int32)), .unset, .unset, .unset] [(.ref b335)])
    obtain ⟨cq381, kq381, q381a, q381b, q381c⟩ := isOf hZ rfl Ec380
    obtain ⟨v381, T381, Lc381, X381, hQ381, st381⟩ := own_backV (X380h.virtualBack hx (y := (⟨"com/example/pivotwise/pivotwise/index/PostingBuffer$Chain", "length", "()I"⟩ : MethodName)) (z := (⟨"com/example/pivotwise/pivotwise/index/PostingBuffer$Chain", "length", "()I"⟩ : MethodName)) hown (mvT hZ (hw _ (List.mem_of_getElem? (i := 64) rfl))) (mvT hZ (hw _ (List.mem_of_getElem? (i := 65) rfl))) (notFace_of_selects (args := #[]) (mvT hZ (hw _ (List.mem_of_getElem? (i := 67) rfl)))) (mvT hZ (hw _ (List.mem_of_getElem? (i := 67) rfl))) (mvT hZ (hw _ (List.mem_of_getElem? (i := 66) rfl))) (by decide) (backOf (W := 0) (rm9 l Z a0 hw [] b335 ((0 : Int32) + nn380) T380.heap n0 Z380 Clength380) hZ (hw _ (List.mem_of_getElem? (i := 68) rfl)) (hw _ (List.mem_of_getElem? (i := 44) rfl)) (by decide) (by decide)) q381a q381c (g := (mkF m 97 #[.val (.int p0), .val (.int p1), .val (.int p2), .val (.int p3), .val (.int p4), .val (.int m5), .val (.int m6), .val (.int m7), .val (.int m8), .val (.ref b333), .val (.ref b335), .val (.int (0 : Int32)), .val (.int (1 : Int32)), .unset, .unset, .unset] [(.ref b335)])) rfl (by rw [hml]; rfl) (Steps.refl _) (argsL := []) (rest := []) (lenOf own_pd9 rfl) rfl (by show 2 * 0 + _ ≤ _; exact Nat.le_of_eq rfl) (hb hby at_97) (fun _ _ => ⟨rfl, rfl, (by first | decide | omega : 5 + 0 ≤ _), (by first | decide | omega : 55 + 0 ≤ _)⟩))
    obtain ⟨rfl, N381q, e381⟩ := hQ381
    refine Done.go st381 ?_
    clear st381
    have N381 := Fr.app N380h N381q
    clear N381q
    obtain ⟨Lh381, X381h, N381h⟩ : ∃ L, Stand p l e room_1 s m #[(.int p0), (.int p1), (.int p2), (.int p3), (.int p4)] below meth c T381 L 5 55 ∧ Fr n0 L := ⟨_, X381, N381⟩
    clear X381 N381 X380h N380h
    show Done p e s below _ _ _ T381 (mkF m 100 #[.val (.int p0), .val (.int p1), .val (.int p2), .val (.int p3), .val (.int p4), .val (.int m5), .val (.int m6), .val (.int m7), .val (.int m8), .val (.ref b333), .val (.ref b335), .val (.int (0 : Int32)), .val (.int (1 : Int32)), .unset, .unset, .unset] [(.int ((0 : Int32) + nn380))])
    refine Done.go (fun _ kt_ => XS.istore X381h.here hx rfl (hb hby at_100) rfl (l' := #[.val (.int p0), .val (.int p1), .val (.int p2), .val (.int p3), .val (.int p4), .val (.int m5), .val (.int m6), .val (.int m7), .val (.int m8), .val (.ref b333), .val (.ref b335), .val (.int (0 : Int32)), .val (.int (1 : Int32)), .val (.int ((0 : Int32) + nn380)), .unset, .unset]) rfl kt_) ?_
    show Done p e s below _ _ _ T381 (mkF m 102 #[.val (.int p0), .val (.int p1), .val (.int p2), .val (.int p3), .val (.int p4), .val (.int m5), .val (.int m6), .val (.int m7), .val (.int m8), .val (.ref b333), .val (.ref b335), .val (.int (0 : Int32)), .val (.int (1 : Int32)), .val (.int ((0 : Int32) + nn380)), .unset, .unset] [])
    refine Done.go (fun _ kt_ => XS.aload X381h.here hx rfl (hb hby at_102) rfl rfl kt_) ?_
    show Done p e s below _ _ _ T381 (mkF m 104 #[.val (.int p0), .val (.int p1), .val (.int p2), .val (.int p3), .val (.int p4), .val (.int m5), .val (.int m6), .val (.int m7), .val (.int m8), .val (.ref b333), .val (.ref b335), .val (.int (0 : Int32)), .val (.int (1 : Int32)), .val (.int ((0 : Int32) + nn380)), .unset, .unset] [(.ref b333)])
    refine Done.go (fun _ kt_ => XS.aload X381h.here hx rfl (hb hby at_104) rfl rfl kt_) ?_
    show Done p e s below _ _ _ T381 (mkF m 106 #[.val (.int p0), .val (.int p1), .val (.int p2), .val (.int p3), .val (.int p4), .val (.int m5), .val (.int m6), .val (.int m7), .val (.int m8), .val (.ref b333), .val (.ref b335), .val (.int (0 : Int32)), .val (.int (1 : Int32)), .val (.int ((0 : Int32) + nn380)), .unset, .unset] [(.ref b335), (.ref b333)])
    obtain ⟨cq382, kq382, q382a, q382b, q382c⟩ := isOf hZ e381 Ea380
    obtain ⟨v382, T382, Lc382, X382, hQ382, st382⟩ := own_backV (X381h.virtualBack hx (y := (⟨"com/example/pivotwise/pivotwise/index/PostingBuffer", "fits", "(Lcom/example/pivotwise/pivotwise/index/PostingBuffer$Chain;)Z"⟩ : MethodName)) (z := (⟨"com/example/pivotwise/pivotwise/index/PostingBuffer", "fits", "(Lcom/example/pivotwise/pivotwise/index/PostingBuffer$Chain;)Z"⟩ : MethodName)) hown (mvT hZ (hw _ (List.mem_of_getElem? (i := 69) rfl))) (mvT hZ (hw _ (List.mem_of_getElem? (i := 70) rfl))) (notFace_of_selects (args := #[]) (mvT hZ (hw _ (List.mem_of_getElem? (i := 72) rfl)))) (mvT hZ (hw _ (List.mem_of_getElem? (i := 72) rfl))) (mvT hZ (hw _ (List.mem_of_getElem? (i := 71) rfl))) (by decide) (backOf (W := 0) (rm10 l Z a0 hw [] b333 b335 bP bB (.ref bk380) (32 : Int32) (16 : Int32) nx380 (28 : Int32) (16 : Int32) ((0 : Int32) + nn380) T380.heap n0 Z380 ⟨Ea380, Ec380, Pposting380, PblockBits380, PblockSize380, PmostSlice380, Pblocks380, Ptaken380, Pblock380, Cfirst380, Cnext380, Cend380, Cslice380, Clength380, ⟨_, VP380⟩, BB380⟩) hZ (hw _ (List.mem_of_getElem? (i := 73) rfl)) (hw _ (List.mem_of_getElem? (i := 3) rfl)) (by decide) (by decide)) q382a q382c (g := (mkF m 106 #[.val (.int p0), .val (.int p1), .val (.int p2), .val (.int p3), .val (.int p4), .val (.int m5), .val (.int m6), .val (.int m7), .val (.int m8), .val (.ref b333), .val (.ref b335), .val (.int (0 : Int32)), .val (.int (1 : Int32)), .val (.int ((0 : Int32) + nn380)), .unset, .unset] [(.ref b335), (.ref b333)])) rfl (by rw [hml]; rfl) (Steps.refl _) (argsL := [(.ref b335)]) (rest := []) (lenOf own_pd10 rfl) rfl (by show 2 * 0 + _ ≤ _; exact Nat.le_of_eq rfl) (hb hby at_106) (fun _ _ => ⟨rfl, e381, (by first | decide | omega : 5 + 0 ≤ _), (by first | decide | omega : 55 + 0 ≤ _)⟩))
    obtain ⟨rfl, N382q, e382⟩ := hQ382
    refine Done.go st382 ?_
    clear st382
    have N382 := Fr.app N381h N382q
    clear N382q
    obtain ⟨Lh382, X382h, N382h⟩ : ∃ L, Stand p l e room_1 s m #[(.int p0), (.int p1), (.int p2), (.int p3), (.int p4)] below meth c T382 L 5 55 ∧ Fr n0 L := ⟨_, X382, N382⟩
    clear X382 N382 X381h e381 N381h
    show Done p e s below _ _ _ T382 (mkF m 109 #[.val (.int p0), .val (.int p1), .val (.int p2), .val (.int p3), .val (.int p4), .val (.int m5), .val (.int m6), .val (.int m7), .val (.int m8), .val (.ref b333), .val (.ref b335), .val (.int (0 : Int32)), .val (.int (1 : Int32)), .val (.int ((0 : Int32) + nn380)), .unset, .unset] [(.int (own_fit (28 : Int32) nx380 (32 : Int32) (own_ns (16 : Int32) (16 : Int32))))])
    refine Done.go (fun _ kt_ => XS.istore X382h.here hx rfl (hb hby at_109) rfl (l' := #[.val (.int p0), .val (.int p1), .val (.int p2), .val (.int p3), .val (.int p4), .val (.int m5), .val (.int m6), .val (.int m7), .val (.int m8), .val (.ref b333), .val (.ref b335), .val (.int (0 : Int32)), .val (.int (1 : Int32)), .val (.int ((0 : Int32) + nn380)), .val (.int (own_fit (28 : Int32) nx380 (32 : Int32) (own_ns (16 : Int32) (16 : Int32)))), .unset]) rfl kt_) ?_
    show Done p e s below _ _ _ T382 (mkF m 111 #[.val (.int p0), .val (.int p1), .val (.int p2), .val (.int p3), .val (.int p4), .val (.int m5), .val (.int m6), .val (.int m7), .val (.int m8), .val (.ref b333), .val (.ref b335), .val (.int (0 : Int32)), .val (.int (1 : Int32)), .val (.int ((0 : Int32) + nn380)), .val (.int (own_fit (28 : Int32) nx380 (32 : Int32) (own_ns (16 : Int32) (16 : Int32)))), .unset] [])
    refine Done.go (fun _ kt_ => XS.iload X382h.here hx rfl (hb hby at_111) rfl kt_) ?_
    show Done p e s below _ _ _ T382 (mkF m 113 #[.val (.int p0), .val (.int p1), .val (.int p2), .val (.int p3), .val (.int p4), .val (.int m5), .val (.int m6), .val (.int m7), .val (.int m8), .val (.ref b333), .val (.ref b335), .val (.int (0 : Int32)), .val (.int (1 : Int32)), .val (.int ((0 : Int32) + nn380)), .val (.int (own_fit (28 : Int32) nx380 (32 : Int32) (own_ns (16 : Int32) (16 : Int32)))), .unset] [(.int m7)])
    obtain ⟨v383, T383, Lc383, X383, hQ383, st383⟩ := own_backG (Jvm.LawKit.callS X382h hx (y := (⟨"com/example/pivotwise/pivotwise/index/ChainClearPinLaw", "vlen", "(I)I"⟩ : MethodName)) hown (mvT hZ (hw _ (List.mem_of_getElem? (i := 102) rfl))) (mvT hZ (hw _ (List.mem_of_getElem? (i := 103) rfl))) (mvT hZ (hw _ (List.mem_of_getElem? (i := 104) rfl))) (mvT hZ (hw _ (List.mem_of_getElem? (i := 105) rfl))) (by decide) (backOf (W := 0) (rm15 l Z a0 hw [] m7 T380.heap n0 Z380) hZ (hw _ (List.mem_of_getElem? (i := 105) rfl)) (hw _ (List.mem_of_getElem? (i := 104) rfl)) (by decide) (by decide)) (g := (mkF m 113 #[.val (.int p0), .val (.int p1), .val (.int p2), .val (.int p3), .val (.int p4), .val (.int m5), .val (.int m6), .val (.int m7), .val (.int m8), .val (.ref b333), .val (.ref b335), .val (.int (0 : Int32)), .val (.int (1 : Int32)), .val (.int ((0 : Int32) + nn380)), .val (.int (own_fit (28 : Int32) nx380 (32 : Int32) (own_ns (16 : Int32) (16 : Int32)))), .unset] [(.int m7)])) rfl (by rw [hml]; rfl) (argsL := [(.int m7)]) (rest := []) (lenOf own_pd0 rfl) rfl (by show 2 * 0 + _ ≤ _; exact Nat.le_of_eq rfl) (hb hby at_113) (fun _ _ => ⟨rfl, e382, (by first | decide | omega : 5 + 0 ≤ _), (by first | decide | omega : 55 + 0 ≤ _)⟩))
    obtain ⟨za, Ma, rfl, hza, hMa1, hMa5, hMa, N383q, e383⟩ := hQ383
    refine Done.go st383 ?_
    clear st383
    have N383 := Fr.app N382h N383q
    clear N383q
    obtain ⟨Lh383, X383h, N383h⟩ : ∃ L, Stand p l e room_1 s m #[(.int p0), (.int p1), (.int p2), (.int p3), (.int p4)] below meth c T383 L 5 55 ∧ Fr n0 L := ⟨_, X383, N383⟩
    clear X383 N383 X382h e382 N382h
    show Done p e s below _ _ _ T383 (mkF m 116 #[.val (.int p0), .val (.int p1), .val (.int p2), .val (.int p3), .val (.int p4), .val (.int m5), .val (.int m6), .val (.int m7), .val (.int m8), .val (.ref b333), .val (.ref b335), .val (.int (0 : Int32)), .val (.int (1 : Int32)), .val (.int ((0 : Int32) + nn380)), .val (.int (own_fit (28 : Int32) nx380 (32 : Int32) (own_ns (16 : Int32) (16 : Int32)))), .unset] [(.int za)])
    refine Done.go (fun _ kt_ => XS.iload X383h.here hx rfl (hb hby at_116) rfl kt_) ?_
    show Done p e s below _ _ _ T383 (mkF m 118 #[.val (.int p0), .val (.int p1), .val (.int p2), .val (.int p3), .val (.int p4), .val (.int m5), .val (.int m6), .val (.int m7), .val (.int m8), .val (.ref b333), .val (.ref b335), .val (.int (0 : Int32)), .val (.int (1 : Int32)), .val (.int ((0 : Int32) + nn380)), .val (.int (own_fit (28 : Int32) nx380 (32 : Int32) (own_ns (16 : Int32) (16 : Int32)))), .unset] [(.int m8), (.int za)])
    obtain ⟨v384, T384, Lc384, X384, hQ384, st384⟩ := own_backG (Jvm.LawKit.callS X383h hx (y := (⟨"com/example/pivotwise/pivotwise/index/ChainClearPinLaw", "vlen", "(I)I"⟩ : MethodName)) hown (mvT hZ (hw _ (List.mem_of_getElem? (i := 102) rfl))) (mvT hZ (hw _ (List.mem_of_getElem? (i := 103) rfl))) (mvT hZ (hw _ (List.mem_of_getElem? (i := 104) rfl))) (mvT hZ (hw _ (List.mem_of_getElem? (i := 105) rfl))) (by decide) (backOf (W := 1) (rm15 l Z a0 hw [] m8 T380.heap n0 Z380) hZ (hw _ (List.mem_of_getElem? (i := 105) rfl)) (hw _ (List.mem_of_getElem? (i := 104) rfl)) (by decide) (by decide)) (g := (mkF m 118 #[.val (.int p0), .val (.int p1), .val (.int p2), .val (.int p3), .val (.int p4), .val (.int m5), .val (.int m6), .val (.int m7), .val (.int m8), .val (.ref b333), .val (.ref b335), .val (.int (0 : Int32)), .val (.int (1 : Int32)), .val (.int ((0 : Int32) + nn380)), .val (.int (own_fit (28 : Int32) nx380 (32 : Int32) (own_ns (16 : Int32) (16 : Int32)))), .unset] [(.int m8), (.int za)])) rfl (by rw [hml]; rfl) (argsL := [(.int m8)]) (rest := [(.int za)]) (lenOf own_pd0 rfl) rfl (by show 2 * 0 + _ ≤ _; exact Nat.le_of_eq rfl) (hb hby at_118) (fun _ _ => ⟨rfl, e383, (by first | decide | omega : 5 + 0 ≤ _), (by first | decide | omega : 55 + 0 ≤ _)⟩))
    obtain ⟨zb, Mb, rfl, hzb, hMb1, hMb5, hMb, N384q, e384⟩ := hQ384
    refine Done.go st384 ?_
    clear st384
    have N384 := Fr.app N383h N384q
    clear N384q
    obtain ⟨Lh384, X384h, N384h⟩ : ∃ L, Stand p l e room_1 s m #[(.int p0), (.int p1), (.int p2), (.int p3), (.int p4)] below meth c T384 L 5 55 ∧ Fr n0 L := ⟨_, X384, N384⟩
    clear X384 N384 X383h e383 N383h
    show Done p e s below _ _ _ T384 (mkF m 121 #[.val (.int p0), .val (.int p1), .val (.int p2), .val (.int p3), .val (.int p4), .val (.int m5), .val (.int m6), .val (.int m7), .val (.int m8), .val (.ref b333), .val (.ref b335), .val (.int (0 : Int32)), .val (.int (1 : Int32)), .val (.int ((0 : Int32) + nn380)), .val (.int (own_fit (28 : Int32) nx380 (32 : Int32) (own_ns (16 : Int32) (16 : Int32)))), .unset] [(.int zb), (.int za)])
    refine Done.go (fun _ kt_ => XS.iadd X384h.here hx rfl (hb hby at_121) rfl kt_) ?_
    show Done p e s below _ _ _ T384 (mkF m 122 #[.val (.int p0), .val (.int p1), .val (.int p2), .val (.int p3), .val (.int p4), .val (.int m5), .val (.int m6), .val (.int m7), .val (.int m8), .val (.ref b333), .val (.ref b335), .val (.int (0 : Int32)), .val (.int (1 : Int32)), .val (.int ((0 : Int32) + nn380)), .val (.int (own_fit (28 : Int32) nx380 (32 : Int32) (own_ns (16 : Int32) (16 : Int32)))), .unset] [(.int (za + zb))])
    refine Done.go (fun _ kt_ => XS.istore X384h.here hx rfl (hb hby at_122) rfl (l' := #[.val (.int p0), .val (.int p1), .val (.int p2), .val (.int p3), .val (.int p4), .val (.int m5), .val (.int m6), .val (.int m7), .val (.int m8), .val (.ref b333), .val (.ref b335), .val (.int (0 : Int32)), .val (.int (1 : Int32)), .val (.int ((0 : Int32) + nn380)), .val (.int (own_fit (28 : Int32) nx380 (32 : Int32) (own_ns (16 : Int32) (16 : Int32)))), .val (.int (za + zb))]) rfl kt_) ?_
    show Done p e s below _ _ _ T384 (mkF m 124 #[.val (.int p0), .val (.int p1), .val (.int p2), .val (.int p3), .val (.int p4), .val (.int m5), .val (.int m6), .val (.int m7), .val (.int m8), .val (.ref b333), .val (.ref b335), .val (.int (0 : Int32)), .val (.int (1 : Int32)), .val (.int ((0 : Int32) + nn380)), .val (.int (own_fit (28 : Int32) nx380 (32 : Int32) (own_ns (16 : Int32) (16 : Int32)))), .val (.int (za + zb))] [])
    refine Done.go (fun _ kt_ => XS.iload X384h.here hx rfl (hb hby at_124) rfl kt_) ?_
    show Done p e s below _ _ _ T384 (mkF m 126 #[.val (.int p0), .val (.int p1), .val (.int p2), .val (.int p3), .val (.int p4), .val (.int m5), .val (.int m6), .val (.int m7), .val (.int m8), .val (.ref b333), .val (.ref b335), .val (.int (0 : Int32)), .val (.int (1 : Int32)), .val (.int ((0 : Int32) + nn380)), .val (.int (own_fit (28 : Int32) nx380 (32 : Int32) (own_ns (16 : Int32) (16 : Int32)))), .val (.int (za + zb))] [(.int (0 : Int32))])
    refine Done.go (fun _ kt_ => XS.ifNo X384h.here hx rfl (hb hby at_126) rfl ((if0 _ _).trans (teq rfl).2) kt_) ?_
    show Done p e s below _ _ _ T384 (mkF m 129 #[.val (.int p0), .val (.int p1), .val (.int p2), .val (.int p3), .val (.int p4), .val (.int m5), .val (.int m6), .val (.int m7), .val (.int m8), .val (.ref b333), .val (.ref b335), .val (.int (0 : Int32)), .val (.int (1 : Int32)), .val (.int ((0 : Int32) + nn380)), .val (.int (own_fit (28 : Int32) nx380 (32 : Int32) (own_ns (16 : Int32) (16 : Int32)))), .val (.int (za + zb))] [])
    refine Done.go (fun _ kt_ => XS.iload X384h.here hx rfl (hb hby at_129) rfl kt_) ?_
    show Done p e s below _ _ _ T384 (mkF m 131 #[.val (.int p0), .val (.int p1), .val (.int p2), .val (.int p3), .val (.int p4), .val (.int m5), .val (.int m6), .val (.int m7), .val (.int m8), .val (.ref b333), .val (.ref b335), .val (.int (0 : Int32)), .val (.int (1 : Int32)), .val (.int ((0 : Int32) + nn380)), .val (.int (own_fit (28 : Int32) nx380 (32 : Int32) (own_ns (16 : Int32) (16 : Int32)))), .val (.int (za + zb))] [(.int (1 : Int32))])
    refine Done.go (fun _ kt_ => XS.ifNo X384h.here hx rfl (hb hby at_131) rfl ((if0 _ _).trans (feq (by decide)).1) kt_) ?_
    have qa : Ma = Na380 := own_uniq hMa1 hna380.1 hMa hna380.2.2
    have qb : Mb = Nb380 := own_uniq hMb1 hnb380.1 hMb hnb380.2.2
    rw [qa] at hza; rw [qb] at hzb
    have hsum := own_add hza hzb (by have := hna380.2.1; have := hnb380.2.1; omega)
    have hl0 : ((0 : Int32) + nn380) = (za + zb) := by rw [Int32.zero_add]; exact Int32.toInt_inj.mp (by rw [hnn380, hsum])
    show Done p e s below _ _ _ T384 (mkF m 134 #[.val (.int p0), .val (.int p1), .val (.int p2), .val (.int p3), .val (.int p4), .val (.int m5), .val (.int m6), .val (.int m7), .val (.int m8), .val (.ref b333), .val (.ref b335), .val (.int (0 : Int32)), .val (.int (1 : Int32)), .val (.int ((0 : Int32) + nn380)), .val (.int (own_fit (28 : Int32) nx380 (32 : Int32) (own_ns (16 : Int32) (16 : Int32)))), .val (.int (za + zb))] [])
    refine Done.go (fun _ kt_ => XS.iload X384h.here hx rfl (hb hby at_134) rfl kt_) ?_
    show Done p e s below _ _ _ T384 (mkF m 136 #[.val (.int p0), .val (.int p1), .val (.int p2), .val (.int p3), .val (.int p4), .val (.int m5), .val (.int m6), .val (.int m7), .val (.int m8), .val (.ref b333), .val (.ref b335), .val (.int (0 : Int32)), .val (.int (1 : Int32)), .val (.int ((0 : Int32) + nn380)), .val (.int (own_fit (28 : Int32) nx380 (32 : Int32) (own_ns (16 : Int32) (16 : Int32)))), .val (.int (za + zb))] [(.int ((0 : Int32) + nn380))])
    refine Done.go (fun _ kt_ => XS.iload X384h.here hx rfl (hb hby at_136) rfl kt_) ?_
    show Done p e s below _ _ _ T384 (mkF m 138 #[.val (.int p0), .val (.int p1), .val (.int p2), .val (.int p3), .val (.int p4), .val (.int m5), .val (.int m6), .val (.int m7), .val (.int m8), .val (.ref b333), .val (.ref b335), .val (.int (0 : Int32)), .val (.int (1 : Int32)), .val (.int ((0 : Int32) + nn380)), .val (.int (own_fit (28 : Int32) nx380 (32 : Int32) (own_ns (16 : Int32) (16 : Int32)))), .val (.int (za + zb))] [(.int (za + zb)), (.int ((0 : Int32) + nn380))])
    refine Done.go (fun _ kt_ => XS.icmpNo X384h.here hx rfl (hb hby at_138) rfl (teq hl0).2 kt_) ?_
    show Done p e s below _ _ _ T384 (mkF m 141 #[.val (.int p0), .val (.int p1), .val (.int p2), .val (.int p3), .val (.int p4), .val (.int m5), .val (.int m6), .val (.int m7), .val (.int m8), .val (.ref b333), .val (.ref b335), .val (.int (0 : Int32)), .val (.int (1 : Int32)), .val (.int ((0 : Int32) + nn380)), .val (.int (own_fit (28 : Int32) nx380 (32 : Int32) (own_ns (16 : Int32) (16 : Int32)))), .val (.int (za + zb))] [])
    refine Done.go (fun _ kt_ => XS.iload X384h.here hx rfl (hb hby at_141) rfl kt_) ?_
    show Done p e s below _ _ _ T384 (mkF m 143 #[.val (.int p0), .val (.int p1), .val (.int p2), .val (.int p3), .val (.int p4), .val (.int m5), .val (.int m6), .val (.int m7), .val (.int m8), .val (.ref b333), .val (.ref b335), .val (.int (0 : Int32)), .val (.int (1 : Int32)), .val (.int ((0 : Int32) + nn380)), .val (.int (own_fit (28 : Int32) nx380 (32 : Int32) (own_ns (16 : Int32) (16 : Int32)))), .val (.int (za + zb))] [(.int (own_fit (28 : Int32) nx380 (32 : Int32) (own_ns (16 : Int32) (16 : Int32))))])
    refine Done.go (fun _ kt_ => XS.iload X384h.here hx rfl (hb hby at_143) rfl kt_) ?_
    show Done p e s below _ _ _ T384 (mkF m 145 #[.val (.int p0), .val (.int p1), .val (.int p2), .val (.int p3), .val (.int p4), .val (.int m5), .val (.int m6), .val (.int m7), .val (.int m8), .val (.ref b333), .val (.ref b335), .val (.int (0 : Int32)), .val (.int (1 : Int32)), .val (.int ((0 : Int32) + nn380)), .val (.int (own_fit (28 : Int32) nx380 (32 : Int32) (own_ns (16 : Int32) (16 : Int32)))), .val (.int (za + zb))] [(.int (za + zb)), (.int (own_fit (28 : Int32) nx380 (32 : Int32) (own_ns (16 : Int32) (16 : Int32))))])
    refine Done.go (fun _ kt_ => XS.iconst X384h.here hx rfl (hb hby at_145) kt_) ?_
    show Done p e s below _ _ _ T384 (mkF m 146 #[.val (.int p0), .val (.int p1), .val (.int p2), .val (.int p3), .val (.int p4), .val (.int m5), .val (.int m6), .val (.int m7), .val (.int m8), .val (.ref b333), .val (.ref b335), .val (.int (0 : Int32)), .val (.int (1 : Int32)), .val (.int ((0 : Int32) + nn380)), .val (.int (own_fit (28 : Int32) nx380 (32 : Int32) (own_ns (16 : Int32) (16 : Int32)))), .val (.int (za + zb))] [(.int (2 : Int32)), (.int (za + zb)), (.int (own_fit (28 : Int32) nx380 (32 : Int32) (own_ns (16 : Int32) (16 : Int32))))])
    by_cases hc146 : (2 : Int32) < (za + zb)
    · skip
      refine Done.go (fun _ kt_ => XS.icmpYes X384h.here hx rfl (pc0 := 146) (pc' := 153) rfl (hb hby at_146) rfl (tlt hc146).2.2.1 (by decide) (by decide) kt_) ?_
      show Done p e s below _ _ _ T384 (mkF m 153 #[.val (.int p0), .val (.int p1), .val (.int p2), .val (.int p3), .val (.int p4), .val (.int m5), .val (.int m6), .val (.int m7), .val (.int m8), .val (.ref b333), .val (.ref b335), .val (.int (0 : Int32)), .val (.int (1 : Int32)), .val (.int ((0 : Int32) + nn380)), .val (.int (own_fit (28 : Int32) nx380 (32 : Int32) (own_ns (16 : Int32) (16 : Int32)))), .val (.int (za + zb))] [(.int (own_fit (28 : Int32) nx380 (32 : Int32) (own_ns (16 : Int32) (16 : Int32))))])
      refine Done.go (fun _ kt_ => XS.iconst X384h.here hx rfl (hb hby at_153) kt_) ?_
      show Done p e s below _ _ _ T384 (mkF m 154 #[.val (.int p0), .val (.int p1), .val (.int p2), .val (.int p3), .val (.int p4), .val (.int m5), .val (.int m6), .val (.int m7), .val (.int m8), .val (.ref b333), .val (.ref b335), .val (.int (0 : Int32)), .val (.int (1 : Int32)), .val (.int ((0 : Int32) + nn380)), .val (.int (own_fit (28 : Int32) nx380 (32 : Int32) (own_ns (16 : Int32) (16 : Int32)))), .val (.int (za + zb))] [(.int (0 : Int32)), (.int (own_fit (28 : Int32) nx380 (32 : Int32) (own_ns (16 : Int32) (16 : Int32))))])
      have hdf := own_sub (by decide : (28 : Int32).toInt = ((28 : Nat) : Int)) hnx380
      have h12 := own_ltI (by decide : (2 : Int32).toInt = ((2 : Nat) : Int)) hsum
      rw [h12] at hc146
      have hlt : (28 : Int32) - nx380 < 10 := (by rw [Int32.lt_iff_toInt_lt, hdf, show (10 : Int32).toInt = 10 from by decide]; have := hna380.2.1; have := hnb380.2.1; have := hna380.1; have := hnb380.1; omega)
      refine Done.go (fun _ kt_ => XS.icmpNo X384h.here hx rfl (hb hby at_154) rfl (teq (by unfold own_fit; rw [if_pos hlt]; rfl)).2 kt_) ?_
      show Done p e s below _ _ _ T384 (mkF m 157 #[.val (.int p0), .val (.int p1), .val (.int p2), .val (.int p3), .val (.int p4), .val (.int m5), .val (.int m6), .val (.int m7), .val (.int m8), .val (.ref b333), .val (.ref b335), .val (.int (0 : Int32)), .val (.int (1 : Int32)), .val (.int ((0 : Int32) + nn380)), .val (.int (own_fit (28 : Int32) nx380 (32 : Int32) (own_ns (16 : Int32) (16 : Int32)))), .val (.int (za + zb))] [])
      refine Done.go (fun _ kt_ => XS.iconst X384h.here hx rfl (hb hby at_157) kt_) ?_
      show Done p e s below _ _ _ T384 (mkF m 158 #[.val (.int p0), .val (.int p1), .val (.int p2), .val (.int p3), .val (.int p4), .val (.int m5), .val (.int m6), .val (.int m7), .val (.int m8), .val (.ref b333), .val (.ref b335), .val (.int (0 : Int32)), .val (.int (1 : Int32)), .val (.int ((0 : Int32) + nn380)), .val (.int (own_fit (28 : Int32) nx380 (32 : Int32) (own_ns (16 : Int32) (16 : Int32)))), .val (.int (za + zb))] [(.int (1 : Int32))])
      refine Done.go (fun _ kt_ => XS.goto X384h.here hx rfl (pc0 := 158) (pc' := 162) rfl (hb hby at_158) (by decide) (by decide) kt_) ?_
      show Done p e s below _ _ _ T384 (mkF m 162 #[.val (.int p0), .val (.int p1), .val (.int p2), .val (.int p3), .val (.int p4), .val (.int m5), .val (.int m6), .val (.int m7), .val (.int m8), .val (.ref b333), .val (.ref b335), .val (.int (0 : Int32)), .val (.int (1 : Int32)), .val (.int ((0 : Int32) + nn380)), .val (.int (own_fit (28 : Int32) nx380 (32 : Int32) (own_ns (16 : Int32) (16 : Int32)))), .val (.int (za + zb))] [(.int (1 : Int32))])
      refine Done.retN X384h hx hlk (t := .boolean) hrt (by simp) (z' := (1 : Int32)) rfl (hb hby at_162) ?_ (by first | decide | omega) (by first | decide | omega)
      rw [e384]
      exact ⟨rfl, N384h⟩
    · skip
      refine Done.go (fun _ kt_ => XS.icmpNo X384h.here hx rfl (hb hby at_146) rfl (flt hc146).2.2.1 kt_) ?_
      show Done p e s below _ _ _ T384 (mkF m 149 #[.val (.int p0), .val (.int p1), .val (.int p2), .val (.int p3), .val (.int p4), .val (.int m5), .val (.int m6), .val (.int m7), .val (.int m8), .val (.ref b333), .val (.ref b335), .val (.int (0 : Int32)), .val (.int (1 : Int32)), .val (.int ((0 : Int32) + nn380)), .val (.int (own_fit (28 : Int32) nx380 (32 : Int32) (own_ns (16 : Int32) (16 : Int32)))), .val (.int (za + zb))] [(.int (own_fit (28 : Int32) nx380 (32 : Int32) (own_ns (16 : Int32) (16 : Int32))))])
      refine Done.go (fun _ kt_ => XS.iconst X384h.here hx rfl (hb hby at_149) kt_) ?_
      show Done p e s below _ _ _ T384 (mkF m 150 #[.val (.int p0), .val (.int p1), .val (.int p2), .val (.int p3), .val (.int p4), .val (.int m5), .val (.int m6), .val (.int m7), .val (.int m8), .val (.ref b333), .val (.ref b335), .val (.int (0 : Int32)), .val (.int (1 : Int32)), .val (.int ((0 : Int32) + nn380)), .val (.int (own_fit (28 : Int32) nx380 (32 : Int32) (own_ns (16 : Int32) (16 : Int32)))), .val (.int (za + zb))] [(.int (1 : Int32)), (.int (own_fit (28 : Int32) nx380 (32 : Int32) (own_ns (16 : Int32) (16 : Int32))))])
      refine Done.go (fun _ kt_ => XS.goto X384h.here hx rfl (pc0 := 150) (pc' := 154) rfl (hb hby at_150) (by decide) (by decide) kt_) ?_
      show Done p e s below _ _ _ T384 (mkF m 154 #[.val (.int p0), .val (.int p1), .val (.int p2), .val (.int p3), .val (.int p4), .val (.int m5), .val (.int m6), .val (.int m7), .val (.int m8), .val (.ref b333), .val (.ref b335), .val (.int (0 : Int32)), .val (.int (1 : Int32)), .val (.int ((0 : Int32) + nn380)), .val (.int (own_fit (28 : Int32) nx380 (32 : Int32) (own_ns (16 : Int32) (16 : Int32)))), .val (.int (za + zb))] [(.int (1 : Int32)), (.int (own_fit (28 : Int32) nx380 (32 : Int32) (own_ns (16 : Int32) (16 : Int32))))])
      have hdf := own_sub (by decide : (28 : Int32).toInt = ((28 : Nat) : Int)) hnx380
      have h12 := own_ltI (by decide : (2 : Int32).toInt = ((2 : Nat) : Int)) hsum
      rw [h12] at hc146
      have hlt : ¬ (28 : Int32) - nx380 < 10 := (by rw [Int32.lt_iff_toInt_lt, hdf, show (10 : Int32).toInt = 10 from by decide]; have := hna380.2.1; have := hnb380.2.1; have := hna380.1; have := hnb380.1; omega)
      refine Done.go (fun _ kt_ => XS.icmpNo X384h.here hx rfl (hb hby at_154) rfl (teq (by unfold own_fit; rw [if_neg hlt])).2 kt_) ?_
      show Done p e s below _ _ _ T384 (mkF m 157 #[.val (.int p0), .val (.int p1), .val (.int p2), .val (.int p3), .val (.int p4), .val (.int m5), .val (.int m6), .val (.int m7), .val (.int m8), .val (.ref b333), .val (.ref b335), .val (.int (0 : Int32)), .val (.int (1 : Int32)), .val (.int ((0 : Int32) + nn380)), .val (.int (own_fit (28 : Int32) nx380 (32 : Int32) (own_ns (16 : Int32) (16 : Int32)))), .val (.int (za + zb))] [])
      refine Done.go (fun _ kt_ => XS.iconst X384h.here hx rfl (hb hby at_157) kt_) ?_
      show Done p e s below _ _ _ T384 (mkF m 158 #[.val (.int p0), .val (.int p1), .val (.int p2), .val (.int p3), .val (.int p4), .val (.int m5), .val (.int m6), .val (.int m7), .val (.int m8), .val (.ref b333), .val (.ref b335), .val (.int (0 : Int32)), .val (.int (1 : Int32)), .val (.int ((0 : Int32) + nn380)), .val (.int (own_fit (28 : Int32) nx380 (32 : Int32) (own_ns (16 : Int32) (16 : Int32)))), .val (.int (za + zb))] [(.int (1 : Int32))])
      refine Done.go (fun _ kt_ => XS.goto X384h.here hx rfl (pc0 := 158) (pc' := 162) rfl (hb hby at_158) (by decide) (by decide) kt_) ?_
      show Done p e s below _ _ _ T384 (mkF m 162 #[.val (.int p0), .val (.int p1), .val (.int p2), .val (.int p3), .val (.int p4), .val (.int m5), .val (.int m6), .val (.int m7), .val (.int m8), .val (.ref b333), .val (.ref b335), .val (.int (0 : Int32)), .val (.int (1 : Int32)), .val (.int ((0 : Int32) + nn380)), .val (.int (own_fit (28 : Int32) nx380 (32 : Int32) (own_ns (16 : Int32) (16 : Int32)))), .val (.int (za + zb))] [(.int (1 : Int32))])
      refine Done.retN X384h hx hlk (t := .boolean) hrt (by simp) (z' := (1 : Int32)) rfl (hb hby at_162) ?_ (by first | decide | omega) (by first | decide | omega)
      rw [e384]
      exact ⟨rfl, N384h⟩
set_option maxRecDepth 65536 in
set_option maxHeartbeats 40000000 in
theorem comes_1 {Post : Tables → Env → Array Value → State → Outcome → State → Prop} (hpost : ∀ tb e args s v u, (limb_1_1.after args s (.returned v) u = true ∧ limb_1_2.after args s (.returned v) u = true ∧ True) → FrameEnd s (.returned v) u (Jvm.fieldLocs frame_1_writes args s ++ Jvm.arrayLocs frame_1_arrays args s ++ Jvm.staticLocs frame_1_statics s) 24 192 → Post tb e args s (.returned v) u) :
    ArmFor flags0 classFile x code maxLocals ret World_1 tables_1 room_1 Calls_1 rest_1 Pre_1 Post := by
  intro l hfl _ _ p e ha hc hk s m args below hf hA hF happ hP
  obtain ⟨hcalls, hrest, hpre⟩ := hP
  obtain ⟨-, -, -, hnamed, -, -, -, hat⟩ := (Spec.applies_iff hf).mp happ
  obtain ⟨hg, hn⟩ := and_e (Cond.before_iff.mp (show (Jvm.Cond.and given_1 narrow_1).before args s = true from hpre))
  obtain ⟨hcount, hg⟩ := and_e hg
  obtain ⟨hv0, hg⟩ := and_e hg
  obtain ⟨hv1, hg⟩ := and_e hg
  obtain ⟨hv2, hg⟩ := and_e hg
  obtain ⟨hv3, hg⟩ := and_e hg
  have hv4 := hg
  obtain ⟨w0, w1, w2, w3, w4, rfl⟩ : ∃ w0 w1 w2 w3 w4 : Value, args = #[w0, w1, w2, w3, w4] := by
    have hs : args.size = 5 := by simpa [Cond.value, given_1] using hcount
    obtain ⟨L⟩ := args
    match L, hs with
    | [w0, w1, w2, w3, w4], _ => exact ⟨w0, w1, w2, w3, w4, rfl⟩
  have hw := fun d (hd : d ∈ tables_1) => atoms_spec (ws := Jvm.Cond.code x code maxLocals ret :: tables_1) hat d (List.mem_cons_of_mem _ hd)
  have hfit : Fit s := fun {y c} hc i hi => by
    obtain ⟨ha, rfl⟩ := Array.getElem?_eq_some_iff.mp hc
    have q := List.all_eq_true.mp ((Array.all_eq_true_iff_forall_mem.mp hF) _ (Array.getElem_mem ha)) i (List.mem_range.mpr hi)
    simpa [Array.getElem?_eq_getElem hi] using q
  obtain ⟨i0, ei0⟩ := is_v hv0
  obtain rfl : w0 = (.int i0) := Option.some.inj ei0
  obtain ⟨i1, ei1⟩ := is_v hv1
  obtain rfl : w1 = (.int i1) := Option.some.inj ei1
  obtain ⟨i2, ei2⟩ := is_v hv2
  obtain rfl : w2 = (.int i2) := Option.some.inj ei2
  obtain ⟨i3, ei3⟩ := is_v hv3
  obtain rfl : w3 = (.int i3) := Option.some.inj ei3
  obtain ⟨i4, ei4⟩ := is_v hv4
  obtain rfl : w4 = (.int i4) := Option.some.inj ei4
  obtain ⟨n, o, h1, h2, h3, _, L, rfl, ⟨rfl, N⟩, hq⟩ := rm0 l s _ hw tables_1 i0 i1 i2 i3 i4 s.heap s.heap.size (Nat.le_refl _)  p e ha hc hk s m _ below hf ((Spec.applies_iff_loose hf).mp happ).1 ⟨rfl, State.Warmed39.refl s, rfl⟩ trivial
  refine ⟨n, _, h1, h2, h3, hpost _ _ _ _ _ _ ⟨Cond.after_iff.mpr rfl, Cond.after_iff.mpr (eq_i res_at (Term.int_eval (1)) rfl), trivial⟩ ⟨hq.1, hq.2.1, (hq.2.2.sift fun y hy => Or.inr (N y hy)).mono (by decide) (by decide)⟩⟩
theorem main_1_1 : Claimed_1_1 := comes_1 fun _ _ _ _ _ _ h hF => ⟨h.1, hF⟩
theorem main_1_2 : Claimed_1_2 := comes_1 fun _ _ _ _ _ _ h hF => ⟨h.2.1, hF⟩
end Jvm.Pilot.@@N@@
namespace Jvm.Pilot.@@N@@
open Jvm Jvm.ClassFile Sem Op Lib Jvm.Free Jvm.Stand Jvm.Pilot.@@N@@.Jvm.D
/-! MADE BY PROGRAM (witnessworld.py) out of the Statement's table words and the real class files: 18 classes; the members and pool entries that the words name. The judged class is class 1, her method 2. -/
namespace start1
open Jvm.ClassFile
def u (s : String) : CpInfo := .utf8 (stringToUtf16 s)
/-- a pool by its gaps: so many unusable entries, then the entry; so many at the end -/
def gap : Nat → List CpInfo → List CpInfo
  | 0, r => r
  | n + 1, r => .unusable :: gap n r
def poolList (es : List (Nat × CpInfo)) (last : Nat) : List CpInfo := es.foldr (fun e r => gap e.1 (e.2 :: r)) (gap last [])
def pool (es : List (Nat × CpInfo)) (last : Nat) : Array CpInfo := ⟨poolList es last⟩
def fileOf (pool : Array CpInfo) (this : Nat) (attrs : Array Attribute := #[]) (ms : Array MethodInfo := #[]) (fl : Nat := 33) (sup : Nat := 0) (ifs : Array Nat := #[]) (fds : Array FieldInfo := #[]) : ClassFile where
  minorVersion := 0
  majorVersion := 65
  constantPool := pool
  accessFlags := fl
  thisClass := this
  superClass := sup
  interfaces := ifs
  fields := fds
  methods := ms
  attributes := attrs
def plain (name : String) (sup : Option ClassId) : Class where
  name := name
  kind := .ordinary
  loader := none
  accessFlags := 33
  super := sup
  interfaces := #[]
  cf := none
  fields := #[]
  methods := #[]
  instanceTypes := #[]
  staticTypes := #[]
  resolved := #[]
  callSites := []
  init := .initialized
  statics := none
  mirror := none

def pool0 : Array CpInfo := pool [(5, u "<init>"), (0, u "()V"), (1, .class_ 10), (1, u "java/lang/Object")] 113

def k0c0 : Code := { maxStack := 0, maxLocals := 1, code := object_method_1_code, exceptionTable := #[], attributes := #[] }
def k0m0 : Method := { name := "<init>", desc := "()V", sig := { parameters := [], returnType := none }, accessFlags := 1, code := some k0c0 }
/-- java/lang/Object -/
def k0 : Class := { plain "java/lang/Object" none with
  accessFlags := 33
  interfaces := #[]
  cf := some (fileOf pool0 8 #[] #[{ accessFlags := 1, nameIndex := 5, descriptorIndex := 6, attributes := #[] }] 33 0 #[] #[])
  fields := #[]
  methods := #[k0m0]
  instanceTypes := #[]
  staticTypes := #[]
  resolved := Array.replicate 124 none
  statics := none }

def pool1 : Array CpInfo := pool [(2, .class_ 4), (0, .nameAndType 5 6), (0, u "java/lang/Object"), (0, u "<init>"), (0, u "()V"), (0, .integer 2097152), (0, .integer 268435456), (0, .integer 2147483647), (0, .class_ 11), (0, u "com/example/pivotwise/pivotwise/index/PostingBuffer"), (0, .long 32), (1, .methodref 10 15), (0, .nameAndType 5 16), (0, u "(J)V"), (0, .class_ 18), (0, u "com/example/pivotwise/pivotwise/index/PostingBuffer$Chain"), (0, .methodref 17 3), (0, .methodref 10 21), (0, .nameAndType 22 23), (0, u "add"), (0, u "(Lcom/example/pivotwise/pivotwise/index/PostingBuffer$Chain;II)V"), (0, .methodref 17 25), (0, .nameAndType 26 6), (0, u "clear"), (0, .methodref 17 28), (0, .nameAndType 29 30), (0, u "length"), (0, u "()I"), (0, .methodref 10 32), (0, .nameAndType 33 34), (0, u "fits"), (0, u "(Lcom/example/pivotwise/pivotwise/index/PostingBuffer$Chain;)Z"), (0, .methodref 36 37), (0, .class_ 38), (0, .nameAndType 39 40), (0, u "com/example/pivotwise/pivotwise/index/ChainClearPinLaw"), (0, u "vlen"), (0, u "(I)I"), (3, u "law"), (0, u "(IIIII)Z")] 4

def k1m0 : Method := { name := "<init>", desc := "()V", sig := { parameters := [], returnType := none }, accessFlags := 2, code := none }
def k1c1 : Code := { maxStack := 2, maxLocals := 1, code := method_2_code, exceptionTable := #[], attributes := #[] }
def k1m1 : Method := { name := "vlen", desc := "(I)I", sig := { parameters := [.int], returnType := some .int }, accessFlags := 10, code := some k1c1 }
def k1c2 : Code := { maxStack := 4, maxLocals := 16, code := code, exceptionTable := #[], attributes := #[] }
def k1m2 : Method := { name := "law", desc := "(IIIII)Z", sig := { parameters := [.int, .int, .int, .int, .int], returnType := some .boolean }, accessFlags := 9, code := some k1c2 }
/-- com/example/pivotwise/pivotwise/index/ChainClearPinLaw -/
def k1 : Class := { plain "com/example/pivotwise/pivotwise/index/ChainClearPinLaw" (some 0) with
  accessFlags := 49
  interfaces := #[]
  cf := some (fileOf pool1 36 #[] #[{ accessFlags := 2, nameIndex := 5, descriptorIndex := 6, attributes := #[] }, { accessFlags := 10, nameIndex := 39, descriptorIndex := 40, attributes := #[] }, { accessFlags := 9, nameIndex := 44, descriptorIndex := 45, attributes := #[] }] 49 2 #[] #[])
  fields := #[]
  methods := #[k1m0, k1m1, k1m2]
  instanceTypes := #[]
  staticTypes := #[]
  resolved := Array.replicate 50 none
  statics := none }

def pool2 : Array CpInfo := pool [(1, .methodref 2 3), (0, .class_ 4), (0, .nameAndType 5 6), (0, u "java/lang/Object"), (0, u "<init>"), (0, u "()V"), (0, .class_ 8), (0, u "com/example/pivotwise/pivotwise/index/PostingBuffer"), (0, .fieldref 7 10), (0, .nameAndType 11 12), (0, u "posting"), (0, u "[B"), (0, .long 65536), (1, .methodref 16 17), (0, .class_ 18), (0, .nameAndType 19 20), (0, u "java/lang/Math"), (0, u "min"), (0, u "(JJ)J"), (0, .methodref 22 23), (0, .class_ 24), (0, .nameAndType 25 26), (0, u "java/lang/Long"), (0, u "numberOfLeadingZeros"), (0, u "(J)I"), (0, .fieldref 7 28), (0, .nameAndType 29 30), (0, u "blockBits"), (0, u "I"), (0, .fieldref 7 32), (0, .nameAndType 33 30), (0, u "blockSize"), (0, .methodref 16 35), (0, .nameAndType 19 36), (0, u "(II)I"), (0, .fieldref 7 38), (0, .nameAndType 39 30), (0, u "mostSlice"), (2, .integer 2147483647), (0, .class_ 12), (0, .fieldref 7 45), (0, .nameAndType 46 47), (0, u "blocks"), (0, u "[[B"), (0, .fieldref 49 50), (0, .class_ 51), (0, .nameAndType 52 30), (0, u "com/example/pivotwise/pivotwise/index/PostingBuffer$Chain"), (0, u "end"), (0, .fieldref 49 54), (0, .nameAndType 55 30), (0, u "next"), (0, .fieldref 7 57), (0, .nameAndType 58 30), (0, u "taken"), (0, .methodref 7 60), (0, .nameAndType 61 62), (0, u "nextSlice"), (0, u "(Lcom/example/pivotwise/pivotwise/index/PostingBuffer$Chain;)I"), (0, .fieldref 7 64), (0, .nameAndType 65 30), (0, u "block"), (0, .methodref 67 68), (0, .class_ 69), (0, .nameAndType 70 71), (0, u "com/example/pivotwise/pivotwise/index/ByteEncoder"), (0, u "encode"), (0, u "(J[BI)I"), (0, .methodref 7 73), (0, .nameAndType 74 75), (0, u "extend"), (0, u "(Lcom/example/pivotwise/pivotwise/index/PostingBuffer$Chain;)V"), (0, .fieldref 49 77), (0, .nameAndType 78 30), (0, u "length"), (0, .fieldref 49 80), (0, .nameAndType 81 30), (0, u "first"), (19, .fieldref 49 102), (0, .nameAndType 103 30), (0, u "slice"), (4, u "LEAST_SIZE"), (2, u "POSTING_BYTES"), (1, u "FIRST_SLICE"), (1, u "MOST_SLICE"), (1, u "LINK"), (1, u "MOST_BLOCK"), (1, u "(J)V"), (2, u "fits"), (0, u "(Lcom/example/pivotwise/pivotwise/index/PostingBuffer$Chain;)Z"), (1, u "add"), (0, u "(Lcom/example/pivotwise/pivotwise/index/PostingBuffer$Chain;II)V")] 11

def k2c0 : Code := { maxStack := 6, maxLocals := 3, code := prog_122_method_1_code, exceptionTable := #[], attributes := #[] }
def k2m0 : Method := { name := "<init>", desc := "(J)V", sig := { parameters := [.long], returnType := none }, accessFlags := 0, code := some k2c0 }
def k2c1 : Code := { maxStack := 3, maxLocals := 2, code := prog_122_method_2_code, exceptionTable := #[], attributes := #[] }
def k2m1 : Method := { name := "fits", desc := "(Lcom/example/pivotwise/pivotwise/index/PostingBuffer$Chain;)Z", sig := { parameters := [(.object "com/example/pivotwise/pivotwise/index/PostingBuffer$Chain")], returnType := some .boolean }, accessFlags := 0, code := some k2c1 }
def k2c2 : Code := { maxStack := 7, maxLocals := 6, code := prog_122_method_3_code, exceptionTable := #[], attributes := #[] }
def k2m2 : Method := { name := "add", desc := "(Lcom/example/pivotwise/pivotwise/index/PostingBuffer$Chain;II)V", sig := { parameters := [(.object "com/example/pivotwise/pivotwise/index/PostingBuffer$Chain"), .int, .int], returnType := none }, accessFlags := 0, code := some k2c2 }
def k2c3 : Code := { maxStack := 2, maxLocals := 2, code := prog_122_method_7_code, exceptionTable := #[], attributes := #[] }
def k2m3 : Method := { name := "nextSlice", desc := "(Lcom/example/pivotwise/pivotwise/index/PostingBuffer$Chain;)I", sig := { parameters := [(.object "com/example/pivotwise/pivotwise/index/PostingBuffer$Chain")], returnType := some .int }, accessFlags := 2, code := some k2c3 }
def k2c4 : Code := { maxStack := 3, maxLocals := 4, code := prog_122_method_8_code, exceptionTable := #[], attributes := #[] }
def k2m4 : Method := { name := "extend", desc := "(Lcom/example/pivotwise/pivotwise/index/PostingBuffer$Chain;)V", sig := { parameters := [(.object "com/example/pivotwise/pivotwise/index/PostingBuffer$Chain")], returnType := none }, accessFlags := 2, code := some k2c4 }
/-- com/example/pivotwise/pivotwise/index/PostingBuffer -/
def k2 : Class := { plain "com/example/pivotwise/pivotwise/index/PostingBuffer" (some 0) with
  accessFlags := 48
  interfaces := #[]
  cf := some (fileOf pool2 7 #[.nestMembers #[49]] #[{ accessFlags := 0, nameIndex := 5, descriptorIndex := 121, attributes := #[] }, { accessFlags := 0, nameIndex := 124, descriptorIndex := 125, attributes := #[] }, { accessFlags := 0, nameIndex := 127, descriptorIndex := 128, attributes := #[] }, { accessFlags := 2, nameIndex := 61, descriptorIndex := 62, attributes := #[] }, { accessFlags := 2, nameIndex := 74, descriptorIndex := 75, attributes := #[] }] 48 2 #[] #[{ accessFlags := 24, nameIndex := 108, descriptorIndex := 30, attributes := #[] }, { accessFlags := 26, nameIndex := 111, descriptorIndex := 30, attributes := #[] }, { accessFlags := 26, nameIndex := 113, descriptorIndex := 30, attributes := #[] }, { accessFlags := 26, nameIndex := 115, descriptorIndex := 30, attributes := #[] }, { accessFlags := 26, nameIndex := 117, descriptorIndex := 30, attributes := #[] }, { accessFlags := 26, nameIndex := 119, descriptorIndex := 30, attributes := #[] }, { accessFlags := 18, nameIndex := 29, descriptorIndex := 30, attributes := #[] }, { accessFlags := 18, nameIndex := 33, descriptorIndex := 30, attributes := #[] }, { accessFlags := 18, nameIndex := 39, descriptorIndex := 30, attributes := #[] }, { accessFlags := 18, nameIndex := 46, descriptorIndex := 47, attributes := #[] }, { accessFlags := 2, nameIndex := 65, descriptorIndex := 30, attributes := #[] }, { accessFlags := 2, nameIndex := 58, descriptorIndex := 30, attributes := #[] }, { accessFlags := 18, nameIndex := 11, descriptorIndex := 12, attributes := #[] }])
  fields := #[{ name := "LEAST_SIZE", type := .int, accessFlags := 24, slot := 0, constantValue := 0 }, { name := "POSTING_BYTES", type := .int, accessFlags := 26, slot := 1, constantValue := 0 }, { name := "FIRST_SLICE", type := .int, accessFlags := 26, slot := 2, constantValue := 0 }, { name := "MOST_SLICE", type := .int, accessFlags := 26, slot := 3, constantValue := 0 }, { name := "LINK", type := .int, accessFlags := 26, slot := 4, constantValue := 0 }, { name := "MOST_BLOCK", type := .int, accessFlags := 26, slot := 5, constantValue := 0 }, { name := "blockBits", type := .int, accessFlags := 18, slot := 0, constantValue := 0 }, { name := "blockSize", type := .int, accessFlags := 18, slot := 1, constantValue := 0 }, { name := "mostSlice", type := .int, accessFlags := 18, slot := 2, constantValue := 0 }, { name := "blocks", type := (.array (.array .byte)), accessFlags := 18, slot := 3, constantValue := 0 }, { name := "block", type := .int, accessFlags := 2, slot := 4, constantValue := 0 }, { name := "taken", type := .int, accessFlags := 2, slot := 5, constantValue := 0 }, { name := "posting", type := (.array .byte), accessFlags := 18, slot := 6, constantValue := 0 }]
  methods := #[k2m0, k2m1, k2m2, k2m3, k2m4]
  instanceTypes := #[.int, .int, .int, (.array (.array .byte)), .int, .int, (.array .byte)]
  staticTypes := #[.int, .int, .int, .int, .int, .int]
  resolved := ((((((Array.replicate 140 none).setIfInBounds 48 (some (.field 11 2))).setIfInBounds 53 (some (.field 11 1))).setIfInBounds 79 (some (.field 11 0))).setIfInBounds 101 (some (.field 11 3))).setIfInBounds 76 (some (.field 11 4)))
  statics := none }

def pool3 : Array CpInfo := pool [(1, .class_ 2), (0, u "java/lang/Math"), (1, .class_ 6), (1, u "java/lang/Object"), (0, u "<init>"), (0, u "()V"), (89, .class_ 100), (1, u "java/lang/Math$RandomNumberGeneratorHolder"), (20, u "(JJ)J"), (50, u "negativeZeroFloatBits"), (0, u "J"), (2, u "negativeZeroDoubleBits"), (24, u "min"), (43, u "$assertionsDisabled"), (0, u "Z"), (88, u "(II)I"), (2, u "twoToTheDoubleScaleDown"), (0, u "D"), (4, u "twoToTheDoubleScaleUp"), (9, u "E"), (3, u "PI"), (2, u "TAU"), (2, u "DEGREES_TO_RADIANS"), (0, u "RADIANS_TO_DEGREES")] 94

def k3m0 : Method := { name := "<init>", desc := "()V", sig := { parameters := [], returnType := none }, accessFlags := 2, code := none }
def k3c1 : Code := { maxStack := 2, maxLocals := 2, code := jdk_29_method_69_code, exceptionTable := #[], attributes := #[] }
def k3m1 : Method := { name := "min", desc := "(II)I", sig := { parameters := [.int, .int], returnType := some .int }, accessFlags := 9, code := some k3c1 }
def k3c2 : Code := { maxStack := 4, maxLocals := 4, code := jdk_29_method_70_code, exceptionTable := #[], attributes := #[] }
def k3m2 : Method := { name := "min", desc := "(JJ)J", sig := { parameters := [.long, .long], returnType := some .long }, accessFlags := 9, code := some k3c2 }
/-- java/lang/Math -/
def k3 : Class := { plain "java/lang/Math" (some 0) with
  accessFlags := 49
  interfaces := #[]
  cf := some (fileOf pool3 1 #[.nestMembers #[98]] #[{ accessFlags := 2, nameIndex := 7, descriptorIndex := 8, attributes := #[] }, { accessFlags := 9, nameIndex := 201, descriptorIndex := 335, attributes := #[] }, { accessFlags := 9, nameIndex := 201, descriptorIndex := 121, attributes := #[] }] 49 4 #[] #[{ accessFlags := 25, nameIndex := 354, descriptorIndex := 339, attributes := #[] }, { accessFlags := 25, nameIndex := 358, descriptorIndex := 339, attributes := #[] }, { accessFlags := 25, nameIndex := 361, descriptorIndex := 339, attributes := #[] }, { accessFlags := 26, nameIndex := 364, descriptorIndex := 339, attributes := #[] }, { accessFlags := 26, nameIndex := 365, descriptorIndex := 339, attributes := #[] }, { accessFlags := 26, nameIndex := 172, descriptorIndex := 173, attributes := #[] }, { accessFlags := 26, nameIndex := 176, descriptorIndex := 173, attributes := #[] }, { accessFlags := 8, nameIndex := 344, descriptorIndex := 339, attributes := #[] }, { accessFlags := 8, nameIndex := 338, descriptorIndex := 339, attributes := #[] }, { accessFlags := 4120, nameIndex := 245, descriptorIndex := 246, attributes := #[] }])
  fields := #[{ name := "E", type := .double, accessFlags := 25, slot := 0, constantValue := 0 }, { name := "PI", type := .double, accessFlags := 25, slot := 1, constantValue := 0 }, { name := "TAU", type := .double, accessFlags := 25, slot := 2, constantValue := 0 }, { name := "DEGREES_TO_RADIANS", type := .double, accessFlags := 26, slot := 3, constantValue := 0 }, { name := "RADIANS_TO_DEGREES", type := .double, accessFlags := 26, slot := 4, constantValue := 0 }, { name := "negativeZeroFloatBits", type := .long, accessFlags := 26, slot := 5, constantValue := 0 }, { name := "negativeZeroDoubleBits", type := .long, accessFlags := 26, slot := 6, constantValue := 0 }, { name := "twoToTheDoubleScaleUp", type := .double, accessFlags := 8, slot := 7, constantValue := 0 }, { name := "twoToTheDoubleScaleDown", type := .double, accessFlags := 8, slot := 8, constantValue := 0 }, { name := "$assertionsDisabled", type := .boolean, accessFlags := 4120, slot := 9, constantValue := 0 }]
  methods := #[k3m0, k3m1, k3m2]
  instanceTypes := #[]
  staticTypes := #[.double, .double, .double, .double, .double, .long, .long, .double, .double, .boolean]
  resolved := Array.replicate 460 none
  statics := none }

def pool4 : Array CpInfo := pool [(1, .class_ 2), (0, u "java/io/Serializable"), (0, .class_ 4), (0, u "java/lang/Object")] 2

/-- java/io/Serializable -/
def k4 : Class := { plain "java/io/Serializable" (some 0) with
  accessFlags := 1537
  interfaces := #[]
  cf := some (fileOf pool4 1 #[] #[] 1537 3 #[] #[])
  fields := #[]
  methods := #[]
  instanceTypes := #[]
  staticTypes := #[]
  resolved := Array.replicate 7 none
  statics := none }

def pool5 : Array CpInfo := pool [(2, .class_ 4), (1, u "java/lang/Object"), (0, u "<init>"), (0, u "()V"), (1, .class_ 10), (1, u "java/lang/Number"), (2, .class_ 14), (0, u "java/io/Serializable"), (0, u "serialVersionUID"), (0, u "J")] 20

def k5m0 : Method := { name := "<init>", desc := "()V", sig := { parameters := [], returnType := none }, accessFlags := 1, code := none }
/-- java/lang/Number -/
def k5 : Class := { plain "java/lang/Number" (some 0) with
  accessFlags := 1057
  interfaces := #[4]
  cf := some (fileOf pool5 8 #[] #[{ accessFlags := 1, nameIndex := 5, descriptorIndex := 6, attributes := #[] }] 1057 2 #[13] #[{ accessFlags := 26, nameIndex := 15, descriptorIndex := 16, attributes := #[] }])
  fields := #[{ name := "serialVersionUID", type := .long, accessFlags := 26, slot := 0, constantValue := 0 }]
  methods := #[k5m0]
  instanceTypes := #[]
  staticTypes := #[.long]
  resolved := Array.replicate 37 none
  statics := none }

def pool6 : Array CpInfo := pool [(1, .class_ 2), (0, u "java/lang/Comparable"), (0, .class_ 4), (0, u "java/lang/Object")] 7

/-- java/lang/Comparable -/
def k6 : Class := { plain "java/lang/Comparable" (some 0) with
  accessFlags := 1537
  interfaces := #[]
  cf := some (fileOf pool6 1 #[] #[] 1537 3 #[] #[])
  fields := #[]
  methods := #[]
  instanceTypes := #[]
  staticTypes := #[]
  resolved := Array.replicate 12 none
  statics := none }

def pool7 : Array CpInfo := pool [(1, .class_ 2), (0, u "java/lang/constant/Constable"), (0, .class_ 4), (0, u "java/lang/Object")] 6

/-- java/lang/constant/Constable -/
def k7 : Class := { plain "java/lang/constant/Constable" (some 0) with
  accessFlags := 1537
  interfaces := #[]
  cf := some (fileOf pool7 1 #[] #[] 1537 3 #[] #[])
  fields := #[]
  methods := #[]
  instanceTypes := #[]
  staticTypes := #[]
  resolved := Array.replicate 11 none
  statics := none }

def pool8 : Array CpInfo := pool [(1, .class_ 2), (0, u "java/lang/constant/ConstantDesc"), (0, .class_ 4), (0, u "java/lang/Object")] 32

/-- java/lang/constant/ConstantDesc -/
def k8 : Class := { plain "java/lang/constant/ConstantDesc" (some 0) with
  accessFlags := 1537
  interfaces := #[]
  cf := some (fileOf pool8 1 #[] #[] 1537 3 #[] #[])
  fields := #[]
  methods := #[]
  instanceTypes := #[]
  staticTypes := #[]
  resolved := Array.replicate 37 none
  statics := none }

def pool9 : Array CpInfo := pool [(1, .class_ 2), (0, u "java/lang/Long"), (15, .class_ 20), (1, u "java/lang/Integer"), (79, u "numberOfLeadingZeros"), (0, u "(J)I"), (133, .class_ 237), (1, u "java/lang/Long$LongCache"), (33, .class_ 272), (0, u "java/lang/Number"), (2, u "value"), (0, u "J"), (31, .methodref 18 309), (0, .nameAndType 100 310), (0, u "(I)I"), (50, u "TYPE"), (0, u "Ljava/lang/Class;"), (0, .class_ 364), (0, u "java/lang/Comparable"), (0, .class_ 366), (0, u "java/lang/constant/Constable"), (0, .class_ 368), (0, u "java/lang/constant/ConstantDesc"), (0, u "MIN_VALUE"), (1, u "MAX_VALUE"), (4, u "SIZE"), (0, u "I"), (1, u "BYTES"), (1, u "serialVersionUID")] 142

def k9c0 : Code := { maxStack := 3, maxLocals := 3, code := jdk_35_method_48_code, exceptionTable := #[], attributes := #[] }
def k9m0 : Method := { name := "numberOfLeadingZeros", desc := "(J)I", sig := { parameters := [.long], returnType := some .int }, accessFlags := 9, code := some k9c0 }
/-- java/lang/Long -/
def k9 : Class := { plain "java/lang/Long" (some 5) with
  accessFlags := 49
  interfaces := #[6, 7, 8]
  cf := some (fileOf pool9 1 #[.nestMembers #[235]] #[{ accessFlags := 9, nameIndex := 100, descriptorIndex := 101, attributes := #[] }] 49 271 #[363, 365, 367] #[{ accessFlags := 25, nameIndex := 369, descriptorIndex := 276, attributes := #[] }, { accessFlags := 25, nameIndex := 371, descriptorIndex := 276, attributes := #[] }, { accessFlags := 25, nameIndex := 361, descriptorIndex := 362, attributes := #[] }, { accessFlags := 18, nameIndex := 275, descriptorIndex := 276, attributes := #[] }, { accessFlags := 25, nameIndex := 376, descriptorIndex := 377, attributes := #[] }, { accessFlags := 25, nameIndex := 379, descriptorIndex := 377, attributes := #[] }, { accessFlags := 26, nameIndex := 381, descriptorIndex := 276, attributes := #[] }])
  fields := #[{ name := "MIN_VALUE", type := .long, accessFlags := 25, slot := 0, constantValue := 0 }, { name := "MAX_VALUE", type := .long, accessFlags := 25, slot := 1, constantValue := 0 }, { name := "TYPE", type := (.object "java/lang/Class"), accessFlags := 25, slot := 2, constantValue := 0 }, { name := "value", type := .long, accessFlags := 18, slot := 0, constantValue := 0 }, { name := "SIZE", type := .int, accessFlags := 25, slot := 3, constantValue := 0 }, { name := "BYTES", type := .int, accessFlags := 25, slot := 4, constantValue := 0 }, { name := "serialVersionUID", type := .long, accessFlags := 26, slot := 5, constantValue := 0 }]
  methods := #[k9m0]
  instanceTypes := #[.long]
  staticTypes := #[.long, .long, (.object "java/lang/Class"), .int, .int, .long]
  resolved := Array.replicate 524 none
  statics := none }

def pool10 : Array CpInfo := pool [(1, .class_ 2), (0, u "java/lang/Integer"), (16, u "digits"), (0, u "[C"), (32, u "numberOfLeadingZeros"), (0, u "(I)I"), (30, u "DigitOnes"), (0, u "[B"), (2, u "DigitTens"), (99, .class_ 190), (0, u "java/lang/Integer$IntegerCache"), (3, u "I"), (8, .class_ 204), (0, u "java/lang/Number"), (2, u "value"), (56, .integer 65536), (37, u "TYPE"), (0, u "Ljava/lang/Class;"), (0, .class_ 305), (0, u "java/lang/Comparable"), (0, .class_ 307), (0, u "java/lang/constant/Constable"), (0, .class_ 309), (0, u "java/lang/constant/ConstantDesc"), (0, u "MIN_VALUE"), (1, u "MAX_VALUE"), (3, u "SIZE"), (1, u "BYTES"), (1, u "serialVersionUID"), (0, u "J")] 131

def k10c0 : Code := { maxStack := 3, maxLocals := 2, code := jdk_33_method_47_code, exceptionTable := #[], attributes := #[] }
def k10m0 : Method := { name := "numberOfLeadingZeros", desc := "(I)I", sig := { parameters := [.int], returnType := some .int }, accessFlags := 9, code := some k10c0 }
/-- java/lang/Integer -/
def k10 : Class := { plain "java/lang/Integer" (some 5) with
  accessFlags := 49
  interfaces := #[6, 7, 8]
  cf := some (fileOf pool10 1 #[.nestMembers #[189]] #[{ accessFlags := 9, nameIndex := 53, descriptorIndex := 54, attributes := #[] }] 49 203 #[304, 306, 308] #[{ accessFlags := 25, nameIndex := 310, descriptorIndex := 194, attributes := #[] }, { accessFlags := 25, nameIndex := 312, descriptorIndex := 194, attributes := #[] }, { accessFlags := 25, nameIndex := 302, descriptorIndex := 303, attributes := #[] }, { accessFlags := 24, nameIndex := 19, descriptorIndex := 20, attributes := #[] }, { accessFlags := 24, nameIndex := 89, descriptorIndex := 86, attributes := #[] }, { accessFlags := 24, nameIndex := 85, descriptorIndex := 86, attributes := #[] }, { accessFlags := 18, nameIndex := 207, descriptorIndex := 194, attributes := #[] }, { accessFlags := 25, nameIndex := 316, descriptorIndex := 194, attributes := #[] }, { accessFlags := 25, nameIndex := 318, descriptorIndex := 194, attributes := #[] }, { accessFlags := 26, nameIndex := 320, descriptorIndex := 321, attributes := #[] }])
  fields := #[{ name := "MIN_VALUE", type := .int, accessFlags := 25, slot := 0, constantValue := 0 }, { name := "MAX_VALUE", type := .int, accessFlags := 25, slot := 1, constantValue := 0 }, { name := "TYPE", type := (.object "java/lang/Class"), accessFlags := 25, slot := 2, constantValue := 0 }, { name := "digits", type := (.array .char), accessFlags := 24, slot := 3, constantValue := 0 }, { name := "DigitTens", type := (.array .byte), accessFlags := 24, slot := 4, constantValue := 0 }, { name := "DigitOnes", type := (.array .byte), accessFlags := 24, slot := 5, constantValue := 0 }, { name := "value", type := .int, accessFlags := 18, slot := 0, constantValue := 0 }, { name := "SIZE", type := .int, accessFlags := 25, slot := 6, constantValue := 0 }, { name := "BYTES", type := .int, accessFlags := 25, slot := 7, constantValue := 0 }, { name := "serialVersionUID", type := .long, accessFlags := 26, slot := 8, constantValue := 0 }]
  methods := #[k10m0]
  instanceTypes := #[.int]
  staticTypes := #[.int, .int, (.object "java/lang/Class"), (.array .char), (.array .byte), (.array .byte), .int, .int, .long]
  resolved := Array.replicate 453 none
  statics := none }

def pool11 : Array CpInfo := pool [(1, .methodref 2 3), (0, .class_ 4), (0, .nameAndType 5 6), (0, u "java/lang/Object"), (0, u "<init>"), (0, u "()V"), (0, .fieldref 8 9), (0, .class_ 10), (0, .nameAndType 11 12), (0, u "com/example/pivotwise/pivotwise/index/PostingBuffer$Chain"), (0, u "first"), (0, u "I"), (0, .fieldref 8 14), (0, .nameAndType 15 12), (0, u "length"), (0, .fieldref 8 17), (0, .nameAndType 18 12), (0, u "next"), (0, .fieldref 8 20), (0, .nameAndType 21 12), (0, u "end"), (0, .fieldref 8 23), (0, .nameAndType 24 12), (0, u "slice"), (2, u "()I"), (0, u "clear"), (3, .class_ 33), (0, u "com/example/pivotwise/pivotwise/index/PostingBuffer")] 2

def k11c0 : Code := { maxStack := 2, maxLocals := 1, code := prog_123_method_1_code, exceptionTable := #[], attributes := #[] }
def k11m0 : Method := { name := "<init>", desc := "()V", sig := { parameters := [], returnType := none }, accessFlags := 0, code := some k11c0 }
def k11c1 : Code := { maxStack := 1, maxLocals := 1, code := prog_123_method_2_code, exceptionTable := #[], attributes := #[] }
def k11m1 : Method := { name := "length", desc := "()I", sig := { parameters := [], returnType := some .int }, accessFlags := 0, code := some k11c1 }
def k11c2 : Code := { maxStack := 2, maxLocals := 1, code := prog_123_method_3_code, exceptionTable := #[], attributes := #[] }
def k11m2 : Method := { name := "clear", desc := "()V", sig := { parameters := [], returnType := none }, accessFlags := 0, code := some k11c2 }
/-- com/example/pivotwise/pivotwise/index/PostingBuffer$Chain -/
def k11 : Class := { plain "com/example/pivotwise/pivotwise/index/PostingBuffer$Chain" (some 0) with
  accessFlags := 32
  interfaces := #[]
  cf := some (fileOf pool11 8 #[.nestHost 32] #[{ accessFlags := 0, nameIndex := 5, descriptorIndex := 6, attributes := #[] }, { accessFlags := 0, nameIndex := 15, descriptorIndex := 27, attributes := #[] }, { accessFlags := 0, nameIndex := 28, descriptorIndex := 6, attributes := #[] }] 32 2 #[] #[{ accessFlags := 2, nameIndex := 11, descriptorIndex := 12, attributes := #[] }, { accessFlags := 2, nameIndex := 18, descriptorIndex := 12, attributes := #[] }, { accessFlags := 2, nameIndex := 21, descriptorIndex := 12, attributes := #[] }, { accessFlags := 2, nameIndex := 24, descriptorIndex := 12, attributes := #[] }, { accessFlags := 2, nameIndex := 15, descriptorIndex := 12, attributes := #[] }])
  fields := #[{ name := "first", type := .int, accessFlags := 2, slot := 0, constantValue := 0 }, { name := "next", type := .int, accessFlags := 2, slot := 1, constantValue := 0 }, { name := "end", type := .int, accessFlags := 2, slot := 2, constantValue := 0 }, { name := "slice", type := .int, accessFlags := 2, slot := 3, constantValue := 0 }, { name := "length", type := .int, accessFlags := 2, slot := 4, constantValue := 0 }]
  methods := #[k11m0, k11m1, k11m2]
  instanceTypes := #[.int, .int, .int, .int, .int]
  staticTypes := #[]
  resolved := Array.replicate 36 none
  statics := none }

def pool12 : Array CpInfo := pool [(2, .class_ 4), (1, u "java/lang/Object"), (3, .class_ 10), (1, u "com/example/pivotwise/pivotwise/index/ByteEncoder"), (0, u "bytes"), (0, u "[B"), (0, .long 128), (40, u "size"), (0, u "I"), (24, .class_ 82), (1, u "com/example/pivotwise/pivotwise/index/ByteEncoder$Entries"), (23, u "FIXED_WIDTH_ORDER"), (0, u "Ljava/nio/ByteOrder;"), (49, u "encode"), (0, u "(J[BI)I")] 44

def k12c0 : Code := { maxStack := 6, maxLocals := 7, code := prog_97_method_2_code, exceptionTable := #[], attributes := #[] }
def k12m0 : Method := { name := "encode", desc := "(J[BI)I", sig := { parameters := [.long, (.array .byte), .int], returnType := some .int }, accessFlags := 8, code := some k12c0 }
/-- com/example/pivotwise/pivotwise/index/ByteEncoder -/
def k12 : Class := { plain "com/example/pivotwise/pivotwise/index/ByteEncoder" (some 0) with
  accessFlags := 48
  interfaces := #[]
  cf := some (fileOf pool12 8 #[.nestMembers #[80]] #[{ accessFlags := 8, nameIndex := 157, descriptorIndex := 158, attributes := #[] }] 48 2 #[] #[{ accessFlags := 24, nameIndex := 106, descriptorIndex := 107, attributes := #[] }, { accessFlags := 2, nameIndex := 11, descriptorIndex := 12, attributes := #[] }, { accessFlags := 2, nameIndex := 54, descriptorIndex := 55, attributes := #[] }])
  fields := #[{ name := "FIXED_WIDTH_ORDER", type := (.object "java/nio/ByteOrder"), accessFlags := 24, slot := 0, constantValue := 0 }, { name := "bytes", type := (.array .byte), accessFlags := 2, slot := 0, constantValue := 0 }, { name := "size", type := .int, accessFlags := 2, slot := 1, constantValue := 0 }]
  methods := #[k12m0]
  instanceTypes := #[(.array .byte), .int]
  staticTypes := #[(.object "java/nio/ByteOrder")]
  resolved := Array.replicate 203 none
  statics := none }

def pool13 : Array CpInfo := pool [(1, u "java/lang/Cloneable"), (0, .class_ 1), (0, u "java/lang/Object"), (0, .class_ 3)] 3

/-- java/lang/Cloneable -/
def k13 : Class := { plain "java/lang/Cloneable" (some 0) with
  accessFlags := 1537
  interfaces := #[]
  cf := some (fileOf pool13 2 #[] #[] 1537 4 #[] #[])
  fields := #[]
  methods := #[]
  instanceTypes := #[]
  staticTypes := #[]
  resolved := Array.replicate 8 none
  statics := none }

/-- the primitive byte -/
def k14 : Class := { plain "byte" none with kind := .primitive 'B', accessFlags := 0x411 }
/-- [B -/
def k15 : Class := { plain "[B" (some 0) with kind := .array 14 .byte, interfaces := #[13, 4], accessFlags := 1041 }

/-- the primitive int -/
def k16 : Class := { plain "int" none with kind := .primitive 'I', accessFlags := 0x411 }
/-- [I -/
def k17 : Class := { plain "[I" (some 0) with kind := .array 16 .int, interfaces := #[13, 4], accessFlags := 1041 }

/-- byte[][] -/
def k18 : Class := { plain "[[B" (some 0) with kind := .array 15 (.array .byte), interfaces := #[13, 4], accessFlags := 1041 }

def heap : Heap := #[]
def classes : Array Class := #[k0, k1, k2, k3, k4, k5, k6, k7, k8, k9, k10, k11, k12, k13, k14, k15, k16, k17, k18]
def interned : List (Array UInt16 × Addr) := []
def slotsUsed : Nat := 0
def theMethod : MethodId := ⟨1, 2⟩
def args0 : Array Value := #[.int 1, .int 5, .int 6, .int 7, .int 8]
def aboutOver (below : List Frame) : State where
  vm := { classes := classes, interned := interned.toArray }
  heap := heap
  slotsUsed := slotsUsed
  threads := #[{ frames := .invoking theMethod args0 :: below }]
def below0 : List Frame := [.native { method := ⟨0, 0⟩, args := #[] }]
def about1 : State := aboutOver below0
def p0 : Program := .bare "" "" ""
def e0 : Env := launch0.env 0 0 0
theorem w_frames : about1.frames = Frame.invoking theMethod args0 :: below0 := rfl
set_option maxRecDepth 65536 in
theorem w_args : argsFit about1.vm theMethod args0 = true := by decide +kernel
set_option maxRecDepth 65536 in
theorem w_heap : heapFits about1 = true := by decide +kernel
set_option maxRecDepth 65536 in
theorem w_runnable : about1.curStatus? = some .runnable := by decide +kernel
set_option maxRecDepth 65536 in
theorem w_alone : about1.alone = true := by decide +kernel
set_option maxRecDepth 65536 in
theorem w_named : about1.methodNamed? x = some theMethod := by decide +kernel
set_option maxRecDepth 65536 in
theorem w_hears : about1.hears theMethod below0 = true := by decide +kernel
set_option maxRecDepth 65536 in
theorem w_ripe : about1.ripe theMethod args0 below0 = true := by decide +kernel
theorem w_running : about1.status = .running := rfl
set_option maxRecDepth 65536 in
theorem w_room : about1.hasRoom e0.platform room_1 = true :=
  launch0.hasRoom_least _ room_1 (by decide +kernel) (by decide +kernel) (by decide +kernel) (by decide +kernel) (by decide +kernel) (by decide +kernel)
theorem allAtoms_all (ts : List Jvm.Cond) (a : Array Jvm.Value) (st : Jvm.State) : (allAtoms ts).before a st = ts.all (fun c => c.before a st) := by
  induction ts with
  | nil => rfl
  | cons c t ih =>
    show (Jvm.Cond.and c (allAtoms t)).before a st = _
    rw [Jvm.Cond.before_and, ih, List.all_cons]
def words1 : List Jvm.Cond := Jvm.Cond.code x code maxLocals ret :: tables_1
/-- a 'code' word, met by the world's own term for the bytes: nothing is compared byte by byte -/
theorem code_word {y : MethodName} {bytes : ByteArray} {mx : Nat} {rt : Option FieldType} {a : Array Value} {s : State} {m : MethodId} {meth : Method} {c : Code} (h1 : s.methodNamed? y = some m) (h2 : s.vm.method? m = some meth) (h3 : meth.code = some c) (h4 : c.code = bytes)
    (h5 : (c.maxLocals == mx && c.exceptionTable.isEmpty && decide (c.maxStack ≤ mostOperands) && decide (meth.sig.returnType = rt) && !meth.locks && decide (parseMethodDescriptor y.desc = some meth.sig)) = true) : (Jvm.Cond.code y bytes mx rt).before a s = true := by
  simp only [Bool.and_eq_true, beq_iff_eq, Bool.not_eq_true', decide_eq_true_eq] at h5
  obtain ⟨⟨⟨⟨⟨g1, g2⟩, g3⟩, g4⟩, g5⟩, g6⟩ := h5
  simp [Cond.before, Cond.holds, Cond.value, h1, h2, h3, h4, g1, g2, g3, g4, g5, g6]
def isCode : Jvm.Cond → Bool
  | .code _ _ _ _ => true
  | _ => false
theorem all_split {L : List Jvm.Cond} {P : Jvm.Cond → Bool} (h1 : L.all (fun c => isCode c || P c) = true) (h2 : ∀ c ∈ L.filter isCode, P c = true) : L.all P = true := by
  refine List.all_eq_true.mpr fun c hc => ?_
  have h := List.all_eq_true.mp h1 c hc
  rcases Bool.eq_false_or_eq_true (isCode c) with hi | hi
  · exact h2 c (List.mem_filter.mpr ⟨hc, hi⟩)
  · simpa [hi] using h
set_option maxRecDepth 65536 in
theorem w_c0 : (Jvm.Cond.code x code maxLocals ret).before args0 about1 = true := code_word (m := ⟨1, 2⟩) (meth := k1m2) (c := k1c2) (by decide +kernel) rfl rfl rfl (by decide +kernel)
set_option maxRecDepth 65536 in
theorem w_c1 : (Jvm.Cond.code ({ cls := "com/example/pivotwise/pivotwise/index/PostingBuffer", name := "<init>", desc := "(J)V" } : Jvm.MethodName) prog_122_method_1_code (3 : Nat) (Option.none : Option Jvm.ClassFile.FieldType)).before args0 about1 = true := code_word (m := ⟨2, 0⟩) (meth := k2m0) (c := k2c0) (by decide +kernel) rfl rfl rfl (by decide +kernel)
set_option maxRecDepth 65536 in
theorem w_c2 : (Jvm.Cond.code ({ cls := "java/lang/Object", name := "<init>", desc := "()V" } : Jvm.MethodName) object_method_1_code (1 : Nat) (Option.none : Option Jvm.ClassFile.FieldType)).before args0 about1 = true := code_word (m := ⟨0, 0⟩) (meth := k0m0) (c := k0c0) (by decide +kernel) rfl rfl rfl (by decide +kernel)
set_option maxRecDepth 65536 in
theorem w_c3 : (Jvm.Cond.code ({ cls := "java/lang/Math", name := "min", desc := "(JJ)J" } : Jvm.MethodName) jdk_29_method_70_code (4 : Nat) (Option.some Jvm.ClassFile.FieldType.long)).before args0 about1 = true := code_word (m := ⟨3, 2⟩) (meth := k3m2) (c := k3c2) (by decide +kernel) rfl rfl rfl (by decide +kernel)
set_option maxRecDepth 65536 in
theorem w_c4 : (Jvm.Cond.code ({ cls := "java/lang/Long", name := "numberOfLeadingZeros", desc := "(J)I" } : Jvm.MethodName) jdk_35_method_48_code (3 : Nat) (Option.some Jvm.ClassFile.FieldType.int)).before args0 about1 = true := code_word (m := ⟨9, 0⟩) (meth := k9m0) (c := k9c0) (by decide +kernel) rfl rfl rfl (by decide +kernel)
set_option maxRecDepth 65536 in
theorem w_c5 : (Jvm.Cond.code ({ cls := "java/lang/Integer", name := "numberOfLeadingZeros", desc := "(I)I" } : Jvm.MethodName) jdk_33_method_47_code (2 : Nat) (Option.some Jvm.ClassFile.FieldType.int)).before args0 about1 = true := code_word (m := ⟨10, 0⟩) (meth := k10m0) (c := k10c0) (by decide +kernel) rfl rfl rfl (by decide +kernel)
set_option maxRecDepth 65536 in
theorem w_c6 : (Jvm.Cond.code ({ cls := "java/lang/Math", name := "min", desc := "(II)I" } : Jvm.MethodName) jdk_29_method_69_code (2 : Nat) (Option.some Jvm.ClassFile.FieldType.int)).before args0 about1 = true := code_word (m := ⟨3, 1⟩) (meth := k3m1) (c := k3c1) (by decide +kernel) rfl rfl rfl (by decide +kernel)
set_option maxRecDepth 65536 in
theorem w_c7 : (Jvm.Cond.code ({ cls := "com/example/pivotwise/pivotwise/index/PostingBuffer$Chain", name := "<init>", desc := "()V" } : Jvm.MethodName) prog_123_method_1_code (1 : Nat) (Option.none : Option Jvm.ClassFile.FieldType)).before args0 about1 = true := code_word (m := ⟨11, 0⟩) (meth := k11m0) (c := k11c0) (by decide +kernel) rfl rfl rfl (by decide +kernel)
set_option maxRecDepth 65536 in
theorem w_c8 : (Jvm.Cond.code ({ cls := "com/example/pivotwise/pivotwise/index/PostingBuffer$Chain", name := "clear", desc := "()V" } : Jvm.MethodName) prog_123_method_3_code (1 : Nat) (Option.none : Option Jvm.ClassFile.FieldType)).before args0 about1 = true := code_word (m := ⟨11, 2⟩) (meth := k11m2) (c := k11c2) (by decide +kernel) rfl rfl rfl (by decide +kernel)
set_option maxRecDepth 65536 in
theorem w_c9 : (Jvm.Cond.code ({ cls := "com/example/pivotwise/pivotwise/index/PostingBuffer$Chain", name := "length", desc := "()I" } : Jvm.MethodName) prog_123_method_2_code (1 : Nat) (Option.some Jvm.ClassFile.FieldType.int)).before args0 about1 = true := code_word (m := ⟨11, 1⟩) (meth := k11m1) (c := k11c1) (by decide +kernel) rfl rfl rfl (by decide +kernel)
set_option maxRecDepth 65536 in
theorem w_c10 : (Jvm.Cond.code ({ cls := "com/example/pivotwise/pivotwise/index/PostingBuffer", name := "fits", desc := "(Lcom/example/pivotwise/pivotwise/index/PostingBuffer$Chain;)Z" } : Jvm.MethodName) prog_122_method_2_code (2 : Nat) (Option.some Jvm.ClassFile.FieldType.boolean)).before args0 about1 = true := code_word (m := ⟨2, 1⟩) (meth := k2m1) (c := k2c1) (by decide +kernel) rfl rfl rfl (by decide +kernel)
set_option maxRecDepth 65536 in
theorem w_c11 : (Jvm.Cond.code ({ cls := "com/example/pivotwise/pivotwise/index/PostingBuffer", name := "nextSlice", desc := "(Lcom/example/pivotwise/pivotwise/index/PostingBuffer$Chain;)I" } : Jvm.MethodName) prog_122_method_7_code (2 : Nat) (Option.some Jvm.ClassFile.FieldType.int)).before args0 about1 = true := code_word (m := ⟨2, 3⟩) (meth := k2m3) (c := k2c3) (by decide +kernel) rfl rfl rfl (by decide +kernel)
set_option maxRecDepth 65536 in
theorem w_c12 : (Jvm.Cond.code ({ cls := "com/example/pivotwise/pivotwise/index/PostingBuffer", name := "add", desc := "(Lcom/example/pivotwise/pivotwise/index/PostingBuffer$Chain;II)V" } : Jvm.MethodName) prog_122_method_3_code (6 : Nat) (Option.none : Option Jvm.ClassFile.FieldType)).before args0 about1 = true := code_word (m := ⟨2, 2⟩) (meth := k2m2) (c := k2c2) (by decide +kernel) rfl rfl rfl (by decide +kernel)
set_option maxRecDepth 65536 in
theorem w_c13 : (Jvm.Cond.code ({ cls := "com/example/pivotwise/pivotwise/index/ByteEncoder", name := "encode", desc := "(J[BI)I" } : Jvm.MethodName) prog_97_method_2_code (7 : Nat) (Option.some Jvm.ClassFile.FieldType.int)).before args0 about1 = true := code_word (m := ⟨12, 0⟩) (meth := k12m0) (c := k12c0) (by decide +kernel) rfl rfl rfl (by decide +kernel)
set_option maxRecDepth 65536 in
theorem w_c14 : (Jvm.Cond.code ({ cls := "com/example/pivotwise/pivotwise/index/PostingBuffer", name := "extend", desc := "(Lcom/example/pivotwise/pivotwise/index/PostingBuffer$Chain;)V" } : Jvm.MethodName) prog_122_method_8_code (4 : Nat) (Option.none : Option Jvm.ClassFile.FieldType)).before args0 about1 = true := code_word (m := ⟨2, 4⟩) (meth := k2m4) (c := k2c4) (by decide +kernel) rfl rfl rfl (by decide +kernel)
set_option maxRecDepth 65536 in
theorem w_c15 : (Jvm.Cond.code ({ cls := "com/example/pivotwise/pivotwise/index/ChainClearPinLaw", name := "vlen", desc := "(I)I" } : Jvm.MethodName) method_2_code (1 : Nat) (Option.some Jvm.ClassFile.FieldType.int)).before args0 about1 = true := code_word (m := ⟨1, 1⟩) (meth := k1m1) (c := k1c1) (by decide +kernel) rfl rfl rfl (by decide +kernel)
def codes1 : List Jvm.Cond := [Jvm.Cond.code x code maxLocals ret, Jvm.Cond.code ({ cls := "com/example/pivotwise/pivotwise/index/PostingBuffer", name := "<init>", desc := "(J)V" } : Jvm.MethodName) prog_122_method_1_code (3 : Nat) (Option.none : Option Jvm.ClassFile.FieldType), Jvm.Cond.code ({ cls := "java/lang/Object", name := "<init>", desc := "()V" } : Jvm.MethodName) object_method_1_code (1 : Nat) (Option.none : Option Jvm.ClassFile.FieldType), Jvm.Cond.code ({ cls := "java/lang/Math", name := "min", desc := "(JJ)J" } : Jvm.MethodName) jdk_29_method_70_code (4 : Nat) (Option.some Jvm.ClassFile.FieldType.long), Jvm.Cond.code ({ cls := "java/lang/Long", name := "numberOfLeadingZeros", desc := "(J)I" } : Jvm.MethodName) jdk_35_method_48_code (3 : Nat) (Option.some Jvm.ClassFile.FieldType.int), Jvm.Cond.code ({ cls := "java/lang/Integer", name := "numberOfLeadingZeros", desc := "(I)I" } : Jvm.MethodName) jdk_33_method_47_code (2 : Nat) (Option.some Jvm.ClassFile.FieldType.int), Jvm.Cond.code ({ cls := "java/lang/Math", name := "min", desc := "(II)I" } : Jvm.MethodName) jdk_29_method_69_code (2 : Nat) (Option.some Jvm.ClassFile.FieldType.int), Jvm.Cond.code ({ cls := "com/example/pivotwise/pivotwise/index/PostingBuffer$Chain", name := "<init>", desc := "()V" } : Jvm.MethodName) prog_123_method_1_code (1 : Nat) (Option.none : Option Jvm.ClassFile.FieldType), Jvm.Cond.code ({ cls := "com/example/pivotwise/pivotwise/index/PostingBuffer$Chain", name := "clear", desc := "()V" } : Jvm.MethodName) prog_123_method_3_code (1 : Nat) (Option.none : Option Jvm.ClassFile.FieldType), Jvm.Cond.code ({ cls := "com/example/pivotwise/pivotwise/index/PostingBuffer$Chain", name := "length", desc := "()I" } : Jvm.MethodName) prog_123_method_2_code (1 : Nat) (Option.some Jvm.ClassFile.FieldType.int), Jvm.Cond.code ({ cls := "com/example/pivotwise/pivotwise/index/PostingBuffer", name := "fits", desc := "(Lcom/example/pivotwise/pivotwise/index/PostingBuffer$Chain;)Z" } : Jvm.MethodName) prog_122_method_2_code (2 : Nat) (Option.some Jvm.ClassFile.FieldType.boolean), Jvm.Cond.code ({ cls := "com/example/pivotwise/pivotwise/index/PostingBuffer", name := "nextSlice", desc := "(Lcom/example/pivotwise/pivotwise/index/PostingBuffer$Chain;)I" } : Jvm.MethodName) prog_122_method_7_code (2 : Nat) (Option.some Jvm.ClassFile.FieldType.int), Jvm.Cond.code ({ cls := "com/example/pivotwise/pivotwise/index/PostingBuffer", name := "add", desc := "(Lcom/example/pivotwise/pivotwise/index/PostingBuffer$Chain;II)V" } : Jvm.MethodName) prog_122_method_3_code (6 : Nat) (Option.none : Option Jvm.ClassFile.FieldType), Jvm.Cond.code ({ cls := "com/example/pivotwise/pivotwise/index/ByteEncoder", name := "encode", desc := "(J[BI)I" } : Jvm.MethodName) prog_97_method_2_code (7 : Nat) (Option.some Jvm.ClassFile.FieldType.int), Jvm.Cond.code ({ cls := "com/example/pivotwise/pivotwise/index/PostingBuffer", name := "extend", desc := "(Lcom/example/pivotwise/pivotwise/index/PostingBuffer$Chain;)V" } : Jvm.MethodName) prog_122_method_8_code (4 : Nat) (Option.none : Option Jvm.ClassFile.FieldType), Jvm.Cond.code ({ cls := "com/example/pivotwise/pivotwise/index/ChainClearPinLaw", name := "vlen", desc := "(I)I" } : Jvm.MethodName) method_2_code (1 : Nat) (Option.some Jvm.ClassFile.FieldType.int)]
set_option maxRecDepth 65536 in
theorem codes_eq : words1.filter isCode = codes1 := rfl
theorem w_codes : ∀ c ∈ words1.filter isCode, c.before args0 about1 = true := by
  rw [codes_eq]
  intro c hc
  simp only [codes1, List.mem_cons, List.not_mem_nil, or_false] at hc
  rcases hc with rfl | rfl | rfl | rfl | rfl | rfl | rfl | rfl | rfl | rfl | rfl | rfl | rfl | rfl | rfl | rfl
  · exact w_c0
  · exact w_c1
  · exact w_c2
  · exact w_c3
  · exact w_c4
  · exact w_c5
  · exact w_c6
  · exact w_c7
  · exact w_c8
  · exact w_c9
  · exact w_c10
  · exact w_c11
  · exact w_c12
  · exact w_c13
  · exact w_c14
  · exact w_c15
set_option maxRecDepth 65536 in
theorem w_t1 : (words1.take 24).all (fun c => isCode c || c.before args0 about1) = true := by decide +kernel
set_option maxRecDepth 65536 in
theorem w_t2 : ((words1.drop 24).take 24).all (fun c => isCode c || c.before args0 about1) = true := by decide +kernel
set_option maxRecDepth 65536 in
theorem w_t3 : (((words1.drop 24).drop 24).take 24).all (fun c => isCode c || c.before args0 about1) = true := by decide +kernel
set_option maxRecDepth 65536 in
theorem w_t4 : ((((words1.drop 24).drop 24).drop 24).take 24).all (fun c => isCode c || c.before args0 about1) = true := by decide +kernel
set_option maxRecDepth 65536 in
theorem w_t5 : ((((words1.drop 24).drop 24).drop 24).drop 24).all (fun c => isCode c || c.before args0 about1) = true := by decide +kernel
theorem w_tables : (allAtoms (Jvm.Cond.code x code maxLocals ret :: tables_1)).before args0 about1 = true := by
  rw [allAtoms_all]
  show words1.all (fun c => c.before args0 about1) = true
  refine all_split ?_ w_codes
  rw [← List.take_append_drop 24 words1, List.all_append, w_t1, ← List.take_append_drop 24 (words1.drop 24), List.all_append, w_t2, ← List.take_append_drop 24 ((words1.drop 24).drop 24), List.all_append, w_t3, ← List.take_append_drop 24 (((words1.drop 24).drop 24).drop 24), List.all_append, w_t4, w_t5]
  rfl
set_option maxRecDepth 65536 in
theorem w_case : (Jvm.Cond.and given_1 narrow_1).before args0 about1 = true := by decide +kernel
theorem w_applies : (headSpec (Jvm.Cond.code x code maxLocals ret :: tables_1) room_1).applies x e0.platform about1 = true :=
  (Spec.applies_iff w_frames).mpr ⟨w_running, w_runnable, w_alone, w_named, w_hears, w_ripe, w_room, w_tables⟩
theorem atStart : AtStart classFile x code maxLocals ret World_1 tables_1 room_1 Calls_1 rest_1 Pre_1 launch0 p0 e0 about1 theMethod args0 below0 :=
  ⟨lists_1, trivial, launch0.admits_env _ _ _, launch0.least_env, fairChoices_fair.cas, fairChoices_fair.clock, w_frames, w_args, w_heap, w_applies, trivial, trivial, w_case⟩
end start1
theorem witness_1 : WitnessClaimed_1 := ⟨start1.p0, start1.e0, start1.about1, start1.theMethod, start1.args0, start1.below0, start1.atStart⟩
end Jvm.Pilot.@@N@@
