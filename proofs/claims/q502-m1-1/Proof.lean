import JvmDerived
import JvmDerived.Pilot.@@N@@Statement
import JvmDerived.Pilot.@@N@@Code
set_option linter.unusedVariables false
set_option linter.unusedSimpArgs false
namespace Jvm.OwnKit
open Sem ClassFile Op Lib Jvm.Stand Jvm.Free Jvm.LawKit Jvm.RoadKit
section Core
variable {p : Program} {l : Launch} {e : Env} {R : Room} {s : State} {m : MethodId} {args : Array Value} {below : List Frame} {meth : Method} {c : Code} {T T' : State} {locs : List Loc} {cells slots : Nat} {Z : State} {a0 : Array Value} {h : Heap}
  {Q Q' : Option Value → Heap → List Loc → Prop} {kc ks : Nat} {F : Outcome → State → Prop}
/-- from the frame f over T the body comes to its end, and F holds there -/
def GoG (p : Program) (e : Env) (below : List Frame) (F : Outcome → State → Prop) (T : State) (f : JFrame) : Prop :=
  ∃ t o, Steps p.tables e below (T.setTop f) t ∧ t.status = .running ∧ Ended t below o ∧ F o t
/-- .. Q holds there, and the frame is kept -/
def Fin (s : State) (Q : Option Value → Heap → List Loc → Prop) (kc ks : Nat) : Outcome → State → Prop := fun o t => ∃ v L, o = .returned v ∧ Q v t.heap L ∧ FrameEnd s o t L kc ks
abbrev Go (p : Program) (e : Env) (below : List Frame) (s : State) (Q : Option Value → Heap → List Loc → Prop) (kc ks : Nat) (T : State) (f : JFrame) : Prop := GoG p e below (Fin s Q kc ks) T f
theorem Go.back {f f' : JFrame} (st : ∀ t, Steps p.tables e below (T'.setTop f') t → Steps p.tables e below (T.setTop f) t) (k : GoG p e below F T' f') : GoG p e below F T f := by
  obtain ⟨t, o, h1, h2⟩ := k; exact ⟨t, o, st _ h1, h2⟩
theorem Go.cast {f f' : JFrame} (q : f = f') (k : GoG p e below F T f') : GoG p e below F T f := q ▸ k
theorem Go.imp {f : JFrame} (q : ∀ v h L, Q' v h L → Q v h L) (k : Go p e below s Q' kc ks T f) : Go p e below s Q kc ks T f := by
  obtain ⟨t, o, h1, h2, h3, v, L, h4, h5, h6⟩ := k; exact ⟨t, o, h1, h2, h3, v, L, h4, q _ _ _ h5, h6⟩
theorem Go.done (X : Stand p l e R s m args below meth c T locs cells slots) {v : Option Value} {f0 : JFrame} (hv : meth.sig.returnType = none → v = none) (hlk : meth.locks = false)
    (st : ∀ fs, (∀ (f : JFrame) (acts : List Action), f.method = m → f.locked = none → f.entered = [] → (doReturn e (T.setTop f) acts v).1 = T.setFrames fs) → Steps p.tables e below (T.setTop f0) (T.setFrames fs))
    (hQ : Q v T.heap locs) (hc : cells ≤ kc) (hs : slots ≤ ks) : Go p e below s Q kc ks T f0 := by
  obtain ⟨fs, hr, hrun, hended, hW, hsame⟩ := X.leave (v := v) hv hlk
  exact ⟨_, _, st fs hr, hrun, hended, v, locs, rfl, hQ, ⟨_, rfl⟩, hW, hsame.mono hc hs⟩
theorem Go.retI (X : Stand p l e R s m args below meth c T locs cells slots) (hx : p.tables.exec = Jvm.exec) {pc : Nat} {Ls : Array Slot} {z : Int32} {rest : List Value} (hret : meth.sig.returnType = some .int) (hlk : meth.locks = false) (hd : decode c.code pc = .ok (.ireturn, 1))
    (hQ : Q (some (.int z)) T.heap locs) (hc : cells ≤ kc) (hs : slots ≤ ks) : Go p e below s Q kc ks T (mkF m pc Ls (.int z :: rest)) :=
  Go.done X (fun q => by rw [hret] at q; cases q) hlk (fun _ hl => retOut X hx hret rfl (Or.inl ⟨rfl, Or.inl rfl, z, rfl⟩) hd hl) hQ hc hs
theorem Go.retJ (X : Stand p l e R s m args below meth c T locs cells slots) (hx : p.tables.exec = Jvm.exec) {pc : Nat} {Ls : Array Slot} {z : Int64} {rest : List Value} (hret : meth.sig.returnType = some .long) (hlk : meth.locks = false) (hd : decode c.code pc = .ok (.lreturn, 1))
    (hQ : Q (some (.long z)) T.heap locs) (hc : cells ≤ kc) (hs : slots ≤ ks) : Go p e below s Q kc ks T (mkF m pc Ls (.long z :: rest)) :=
  Go.done X (fun q => by rw [hret] at q; cases q) hlk (fun _ hl => retOut X hx hret rfl (Or.inr (Or.inl ⟨rfl, rfl, z, rfl⟩)) hd hl) hQ hc hs
theorem narrow_ref {t : FieldType} {w : Value} (hw : w.isRef = true) : narrow t w = w := by
  cases w <;> simp [Value.isRef] at hw <;> cases t <;> rfl
theorem Go.retA (X : Stand p l e R s m args below meth c T locs cells slots) (hx : p.tables.exec = Jvm.exec) {pc : Nat} {Ls : Array Slot} {w : Value} {t : FieldType} {rest : List Value} (hret : meth.sig.returnType = some t) (hlk : meth.locks = false) (hd : decode c.code pc = .ok (.areturn, 1)) (ht : t.isReference = true) (hw : w.isRef = true)
    (hQ : Q (some w) T.heap locs) (hc : cells ≤ kc) (hs : slots ≤ ks) : Go p e below s Q kc ks T (mkF m pc Ls (w :: rest)) :=
  Go.done X (fun q => by rw [hret] at q; cases q) hlk (fun _ hl => retOut X hx hret (narrow_ref hw) (Or.inr (Or.inr (Or.inr (Or.inr ⟨rfl, ht, hw⟩)))) hd hl) hQ hc hs
theorem Go.ret0 (X : Stand p l e R s m args below meth c T locs cells slots) (hx : p.tables.exec = Jvm.exec) {pc : Nat} {Ls : Array Slot} (hret : meth.sig.returnType = none) (hlk : meth.locks = false) (hd : decode c.code pc = .ok (.return_, 1))
    (hQ : Q none T.heap locs) (hc : cells ≤ kc) (hs : slots ≤ ks) : Go p e below s Q kc ks T (mkF m pc Ls []) :=
  Go.done X (fun _ => rfl) hlk (fun _ hl => X.returnOut hx hret hd hl) hQ hc hs
theorem Go.retN (X : Stand p l e R s m args below meth c T locs cells slots) (hx : p.tables.exec = Jvm.exec) {pc : Nat} {Ls : Array Slot} {z w : Int32} {t : FieldType} {rest : List Value} (hret : meth.sig.returnType = some t) (ht : t = .boolean ∨ t = .byte ∨ t = .char ∨ t = .short) (hw : nar t z = w) (hlk : meth.locks = false) (hd : decode c.code pc = .ok (.ireturn, 1))
    (hQ : Q (some (.int w)) T.heap locs) (hc : cells ≤ kc) (hs : slots ≤ ks) : Go p e below s Q kc ks T (mkF m pc Ls (.int z :: rest)) :=
  Go.done X (fun q => by rw [hret] at q; cases q) hlk (fun _ hl => Jvm.RoadKit.retN X hx hret ht hd (by rw [hw]; exact hl)) hQ hc hs
theorem nar_bool {z : Int32} (hz : z = 0 ∨ z = 1) : nar .boolean z = z := by rcases hz with rfl | rfl <;> rfl
/-- a body's contract, said of one heap and one array of arguments -/
def Met (l : Launch) (Z : State) (y : MethodName) (bytes : ByteArray) (maxL : Nat) (ret : Option FieldType) (rm : Room) (as' : Array Value) (h : Heap) (Q : Option Value → Heap → List Loc → Prop) : Prop :=
  ∀ ws : List Jvm.Cond, MetFree l y (head1 (Jvm.Cond.code y bytes maxL ret :: ws) rm) (fun a U => a = as' ∧ Z.Warmed39 U.vm ∧ U.heap = h) (fun _ _ _ _ _ => True) (fun _ U o U' => ∃ v L, o = .returned v ∧ Q v U'.heap L ∧ FrameEnd U o U' L rm.cells rm.slots)
variable {y z : MethodName} {bytes : ByteArray} {maxL : Nat} {ret : Option FieldType} {rm : Room} {as' : Array Value}
theorem Met.intro (hp : plainFor y = true) (body : ∀ (p : Program) (e : Env) (s : State) (m : MethodId) (below : List Frame) (meth : Method) (c : Code) (T : State),
      p.tables.exec = Jvm.exec → c.code = bytes → c.maxLocals = maxL → s.vm.findClass y.cls = some m.cls → meth.name = y.name → meth.sig.returnType = ret → meth.locks = false → Z.Warmed39 s.vm →
      Stand p l e rm s m as' below meth c T [] 0 0 → T.heap = h → Go p e below s Q rm.cells rm.slots T (entryFrame m as' maxL)) : Met l Z y bytes maxL ret rm as' h Q := by
  intro ws
  refine MetFree.of_bodySF hp hisR ?_
  intro p e s m args below meth c s₁ Bd hml0 hP hK
  obtain ⟨rfl, hZ, hh⟩ := hP
  exact body p e s m below meth c s₁ Bd.exec Bd.bytes hml0 (findClass_of_methodNamed Bd.named) (name_of_methodNamed Bd.named Bd.method).1 Bd.returns Bd.notSynchronized hZ (Stand.of_body Bd) (by rw [← hh, Bd.state]; rfl)
theorem Met.imp (q : ∀ v h L, Q' v h L → Q v h L) (k : Met l Z y bytes maxL ret rm as' h Q') : Met l Z y bytes maxL ret rm as' h Q := fun ws p e ha hc hk s m args below hf happ hP hK => by
  obtain ⟨n, o, h1, h2, h3, v, L, h4, h5, h6⟩ := k ws p e ha hc hk s m args below hf happ hP hK
  exact ⟨n, o, h1, h2, h3, v, L, h4, q _ _ _ h5, h6⟩
theorem Go.callS (X : Stand p l e R s m args below meth c T locs cells slots) (hx : p.tables.exec = Jvm.exec) (hZ : Z.Warmed39 s.vm) {own : String} {index : Nat} (hown : s.vm.findClass own = some m.cls)
    (w1 : (Jvm.Cond.methodLink own index y).before a0 Z = true) (w2 : (Jvm.Cond.static y).before a0 Z = true) (w3 : (Jvm.Cond.initialized y.cls).before a0 Z = true) (w4 : (Jvm.Cond.code y bytes maxL ret).before a0 Z = true)
    (hy : y.cls ≠ "java/lang/invoke/MethodHandle" ∧ y.cls ≠ "java/lang/invoke/VarHandle") (eT : T.heap = h) {argsL rest st : List Value} (hM : Met l Z y bytes maxL ret rm argsL.toArray h Q')
    (hlen : ∀ sig, parseMethodDescriptor y.desc = some sig → argsL.length = sig.parameters.length) {pc : Nat} {Ls : Array Slot} (hst : st = argsL.reverse ++ rest) (hsz : Ls.size = c.maxLocals) {W : Nat} (hW : 2 * 0 + (rest.map fun v => v.category).sum ≤ W)
    (hd : decode c.code pc = .ok (.invokestatic index, 3)) (hf : rm.frames + 1 ≤ R.frames) (hl : W + (maxL + 11) + rm.locals ≤ R.locals) (hc : cells + rm.cells ≤ R.cells) (hs : slots + rm.slots ≤ R.slots)
    (k : ∀ v T' L, Stand p l e R s m args below meth c T' (locs ++ L) (cells + rm.cells) (slots + rm.slots) → Q' v T'.heap L → GoG p e below F T' (mkF m (pc + 3) Ls (v.toList ++ rest))) :
    GoG p e below F T (mkF m pc Ls st) := by
  subst hst
  obtain ⟨v, _, ⟨T1, L1, k1, n1⟩, -, X1, ⟨Lc, hQ, l1, y1, z1⟩, st1⟩ := Jvm.LawKit.callS X hx (y := y) hown (mvT hZ w1) (mvT hZ w2) (mvT hZ w3) (mvT hZ w4) hy (backOf (W := W) (hM []) hZ w4 w3 hf hl) (g := mkF m pc Ls (argsL.reverse ++ rest)) rfl hsz (argsL := argsL) (rest := rest) hlen rfl hW hd (fun _ _ => ⟨rfl, eT, hc, hs⟩)
  dsimp only [Pt.U, Pt.locs, Pt.cells, Pt.slots] at X1 l1 y1 z1 st1 hQ
  subst l1 y1 z1
  exact Go.back st1 (k v T1 Lc X1 hQ)
theorem Go.callI (X : Stand p l e R s m args below meth c T locs cells slots) (hx : p.tables.exec = Jvm.exec) (hZ : Z.Warmed39 s.vm) {own : String} {index : Nat} (hy1 : y.name = "<init>") (hown : s.vm.findClass own = some m.cls)
    (w1 : (Jvm.Cond.methodLink own index y).before a0 Z = true) (w2 : (Jvm.Cond.instanceMethod y).before a0 Z = true) (w3 : (Jvm.Cond.initialized y.cls).before a0 Z = true) (w4 : (Jvm.Cond.code y bytes maxL none).before a0 Z = true)
    (hy : y.cls ≠ "java/lang/invoke/MethodHandle" ∧ y.cls ≠ "java/lang/invoke/VarHandle") (eT : T.heap = h) {a : Addr} {argsL rest st : List Value} (hM : Met l Z y bytes maxL none rm (.ref a :: argsL).toArray h Q')
    (hlen : ∀ sig, parseMethodDescriptor y.desc = some sig → argsL.length = sig.parameters.length) {pc : Nat} {Ls : Array Slot} (hst : st = argsL.reverse ++ .ref a :: rest) (hsz : Ls.size = c.maxLocals) {W : Nat} (hW : 2 * 0 + (rest.map fun v => v.category).sum ≤ W)
    (hd : decode c.code pc = .ok (.invokespecial index, 3)) (hf : rm.frames + 1 ≤ R.frames) (hl : W + (maxL + 11) + rm.locals ≤ R.locals) (hc : cells + rm.cells ≤ R.cells) (hs : slots + rm.slots ≤ R.slots)
    (k : ∀ v T' L, Stand p l e R s m args below meth c T' (locs ++ L) (cells + rm.cells) (slots + rm.slots) → Q' v T'.heap L → GoG p e below F T' (mkF m (pc + 3) Ls (v.toList ++ rest))) :
    GoG p e below F T (mkF m pc Ls st) := by
  subst hst
  obtain ⟨v, _, ⟨T1, L1, k1, n1⟩, -, X1, ⟨Lc, hQ, l1, y1, z1⟩, st1⟩ := X.specialBack hx (y := y) hy1 hown (mvT hZ w1) (mvT hZ w2) (mvT hZ w4) hy (backOf (W := W) (hM []) hZ w4 w3 hf hl) (g := mkF m pc Ls (argsL.reverse ++ .ref a :: rest)) rfl hsz (Steps.refl _) (a := a) (argsL := argsL) (rest := rest) hlen rfl hW hd (fun _ _ => ⟨rfl, eT, hc, hs⟩)
  dsimp only [Pt.U, Pt.locs, Pt.cells, Pt.slots] at X1 l1 y1 z1 st1 hQ
  subst l1 y1 z1
  exact Go.back (fun _ q => st1.trans q) (k v T1 Lc X1 hQ)
theorem Go.callV (X : Stand p l e R s m args below meth c T locs cells slots) (hx : p.tables.exec = Jvm.exec) (hZ : Z.Warmed39 s.vm) {own C : String} {index : Nat} (hown : s.vm.findClass own = some m.cls)
    (w1 : (Jvm.Cond.methodLink own index y).before a0 Z = true) (w2 : (Jvm.Cond.declares y).before a0 Z = true) (w3 : (Jvm.Cond.selects C y y).before a0 Z = true) (w4 : (Jvm.Cond.instanceMethod y).before a0 Z = true)
    (w5 : (Jvm.Cond.initialized y.cls).before a0 Z = true) (w6 : (Jvm.Cond.code y bytes maxL ret).before a0 Z = true)
    (hy : y.cls ≠ "java/lang/invoke/MethodHandle" ∧ y.cls ≠ "java/lang/invoke/VarHandle") (eT : T.heap = h) {a : Addr} (E : Exa Z h a C) {argsL rest st : List Value} (hM : Met l Z y bytes maxL ret rm (.ref a :: argsL).toArray h Q')
    (hlen : ∀ sig, parseMethodDescriptor y.desc = some sig → argsL.length = sig.parameters.length) {pc : Nat} {Ls : Array Slot} (hst : st = argsL.reverse ++ .ref a :: rest) (hsz : Ls.size = c.maxLocals) {W : Nat} (hW : 2 * 0 + (rest.map fun v => v.category).sum ≤ W)
    (hd : decode c.code pc = .ok (.invokevirtual index, 3)) (hf : rm.frames + 1 ≤ R.frames) (hl : W + (maxL + 11) + rm.locals ≤ R.locals) (hc : cells + rm.cells ≤ R.cells) (hs : slots + rm.slots ≤ R.slots)
    (k : ∀ v T' L, Stand p l e R s m args below meth c T' (locs ++ L) (cells + rm.cells) (slots + rm.slots) → Q' v T'.heap L → GoG p e below F T' (mkF m (pc + 3) Ls (v.toList ++ rest))) :
    GoG p e below F T (mkF m pc Ls st) := by
  subst hst
  obtain ⟨cq, kq, qa, qb, qc⟩ := isOf hZ eT E
  obtain ⟨v, _, ⟨T1, L1, k1, n1⟩, -, X1, ⟨Lc, hQ, l1, y1, z1⟩, st1⟩ := X.virtualBack hx (y := y) (z := y) hown (mvT hZ w1) (mvT hZ w2) (notFace_of_selects (args := #[]) (mvT hZ w3)) (mvT hZ w3) (mvT hZ w4) hy (backOf (W := W) (hM []) hZ w6 w5 hf hl) qa qc (g := mkF m pc Ls (argsL.reverse ++ .ref a :: rest)) rfl hsz (Steps.refl _) (argsL := argsL) (rest := rest) hlen rfl hW hd (fun _ _ => ⟨rfl, eT, hc, hs⟩)
  dsimp only [Pt.U, Pt.locs, Pt.cells, Pt.slots] at X1 l1 y1 z1 st1 hQ
  subst l1 y1 z1
  exact Go.back (fun _ q => st1.trans q) (k v T1 Lc X1 hQ)
end Core
section Cmp
theorem l_lt_t {x y : Int64} (h : x < y) : ifCond.holds .lt (lcmpW x y) = true := (if0 _ _).trans (tlt ((lw_lt x y).mpr h)).1
theorem l_lt_f {x y : Int64} (h : ¬ x < y) : ifCond.holds .lt (lcmpW x y) = false := (if0 _ _).trans (flt (fun q => h ((lw_lt x y).mp q))).1
theorem l_ge_t {x y : Int64} (h : ¬ x < y) : ifCond.holds .ge (lcmpW x y) = true := (if0 _ _).trans (flt (fun q => h ((lw_lt x y).mp q))).2.1
theorem l_ge_f {x y : Int64} (h : x < y) : ifCond.holds .ge (lcmpW x y) = false := (if0 _ _).trans (tlt ((lw_lt x y).mpr h)).2.1
theorem l_gt_t {x y : Int64} (h : y < x) : ifCond.holds .gt (lcmpW x y) = true := (if0 _ _).trans (tlt ((lw_gt x y).mpr h)).2.2.1
theorem l_gt_f {x y : Int64} (h : ¬ y < x) : ifCond.holds .gt (lcmpW x y) = false := (if0 _ _).trans (flt (fun q => h ((lw_gt x y).mp q))).2.2.1
theorem l_le_t {x y : Int64} (h : ¬ y < x) : ifCond.holds .le (lcmpW x y) = true := (if0 _ _).trans (flt (fun q => h ((lw_gt x y).mp q))).2.2.2
theorem l_le_f {x y : Int64} (h : y < x) : ifCond.holds .le (lcmpW x y) = false := (if0 _ _).trans (tlt ((lw_gt x y).mpr h)).2.2.2
theorem l_eq_t {x y : Int64} (h : x = y) : ifCond.holds .eq (lcmpW x y) = true := (if0 _ _).trans (teq ((lw_eq x y).mpr h)).1
theorem l_eq_f {x y : Int64} (h : ¬ x = y) : ifCond.holds .eq (lcmpW x y) = false := (if0 _ _).trans (feq (fun q => h ((lw_eq x y).mp q))).1
theorem l_ne_t {x y : Int64} (h : ¬ x = y) : ifCond.holds .ne (lcmpW x y) = true := (if0 _ _).trans (feq (fun q => h ((lw_eq x y).mp q))).2
theorem l_ne_f {x y : Int64} (h : x = y) : ifCond.holds .ne (lcmpW x y) = false := (if0 _ _).trans (teq ((lw_eq x y).mpr h)).2
end Cmp
end Jvm.OwnKit
namespace Jvm.OwnKit
open Sem ClassFile Op Lib Jvm.Stand Jvm.Free Jvm.LawKit Jvm.RoadKit
section Arrays
variable {p : Program} {l : Launch} {e : Env} {R : Room} {s : State} {m : MethodId} {args : Array Value} {below : List Frame} {meth : Method} {c : Code} {T T' : State} {locs : List Loc} {cells slots : Nat} {Z : State} {a0 : Array Value} {h h' : Heap}
  {F : Outcome → State → Prop} {a b : Addr} {ty : FieldType} {vs vd : List Value} {j x : Int32} {i : Nat} {v : Value} {pc : Nat} {Ls : Array Slot} {rest : List Value}
/-- an array, all of its components told -/
def VArr (Z : State) (h : Heap) (a : Addr) (ty : FieldType) (vs : List Value) : Prop := vs.length < 2147483648 ∧ ∃ k, Arv Z h a k ty vs.length.toInt32 vs (defaultValue ty)
theorem n32 {n : Nat} (q : n < 2147483648) : n.toInt32.toInt = n := len_toInt q
theorem n32c {n : Nat} (q : n < 2147483648) : n.toInt32.toNatClampNeg = n := by simp only [Int32.toNatClampNeg, n32 q]; rfl
theorem idx0 (hi : j.toInt = i) : ¬ j < 0 := by rw [Int32.lt_iff_toInt_lt, hi]; show ¬ (i : Int) < 0; omega
theorem idxN (hi : j.toInt = i) : j.toNatClampNeg = i := by simp only [Int32.toNatClampNeg, hi]; rfl
theorem VArr.lt (A : VArr Z h a ty vs) : a < h.size := by obtain ⟨-, k, A⟩ := A; exact A.lt
theorem VArr.len (A : VArr Z h a ty vs) : vs.length < 2147483648 := A.1
theorem VArr.ext (A : VArr Z h a ty vs) (E : Ext h h') : VArr Z h' a ty vs := by obtain ⟨q, k, A⟩ := A; exact ⟨q, k, A.ext E⟩
theorem VArr.other {sl : Nat} (A : VArr Z h b ty vs) (W : Wr h h' a sl v) (q : b ≠ a) : VArr Z h' b ty vs := by obtain ⟨r, k, A⟩ := A; exact ⟨r, k, A.other W q⟩
theorem VArr.keep {ws : List Addr} (A : VArr Z h a ty vs) (K : Keep h h' ws) (q : a ∉ ws) : VArr Z h' a ty vs := by obtain ⟨r, k, A⟩ := A; exact ⟨r, k, A.keep K q⟩
theorem VArr.to (A : VArr Z h a ty vs) (e : vs = vd) : VArr Z h a ty vd := e ▸ A
theorem VArr.cell (A : VArr Z h a ty vs) : ∃ cl, Arr Z h a cl ty ∧ cl.slots.size = vs.length ∧ Has cl vs (defaultValue ty) := by
  obtain ⟨q, k, cl, A, -, S, N, H, -⟩ := A
  exact ⟨cl, A, by rw [S, n32c q], H⟩
theorem VArr.at (A : VArr Z h a ty vs) (hi : j.toInt = i) (hv : vs[i]? = some v) : ∃ cl, Arr Z h a cl ty ∧ ¬ (j < 0 ∨ cl.slots.size ≤ j.toNatClampNeg) ∧ cl.slots[j.toNatClampNeg]? = some v := by
  obtain ⟨cl, A, S, H⟩ := A.cell
  obtain ⟨hl, e⟩ := List.getElem?_eq_some_iff.mp hv
  refine ⟨cl, A, fun q => ?_, ?_⟩
  · rw [idxN hi, S] at q; exact q.elim (idx0 hi) (by omega)
  · rw [idxN hi, H i (by omega), List.getD_eq_getElem?_getD, hv]; rfl
theorem VArr.exa_ne {C : String} {kk : Nat} (A : VArr Z h a ty vs) (E : Exa Z h b C) (wi : (Jvm.Cond.instantiable C kk).before a0 Z = true) : b ≠ a := by
  obtain ⟨cl, A, -, -⟩ := A.cell; exact ne_arr E wi A
theorem VArr.lenS (A : VArr Z h a ty vs) (X : Stand p l e R s m args below meth c T locs cells slots) (hx : p.tables.exec = Jvm.exec) (hZ : Z.Warmed39 s.vm) (eT : T.heap = h) (hd : decode c.code pc = .ok (.arraylength, 1)) :
    ∀ t, Steps p.tables e below (T.setTop (mkF m (pc + 1) Ls (.int vs.length.toInt32 :: rest))) t → Steps p.tables e below (T.setTop (mkF m pc Ls (.ref a :: rest))) t := by
  obtain ⟨cl, Ar, S, -⟩ := A.cell
  intro t k
  refine X.arraylength hx (by rw [eT]; exact Ar.1) (State.isArrayOf_alike hZ.alike Ar.2.1) (g := mkF m pc Ls (.ref a :: rest)) rfl rfl hd _ ?_
  rw [S]; exact k
theorem VArr.ldI (A : VArr Z h a .int vs) (X : Stand p l e R s m args below meth c T locs cells slots) (hx : p.tables.exec = Jvm.exec) (hZ : Z.Warmed39 s.vm) (eT : T.heap = h) (hd : decode c.code pc = .ok (.iaload, 1)) (hi : j.toInt = i) (hv : vs[i]? = some v) :
    ∀ t, Steps p.tables e below (T.setTop (mkF m (pc + 1) Ls (v :: rest))) t → Steps p.tables e below (T.setTop (mkF m pc Ls (.int j :: .ref a :: rest))) t := by
  obtain ⟨cl, Ar, q, r⟩ := A.at hi hv
  exact fun t k => X.iaload hx (j := j) (v := v) (by rw [eT]; exact Ar.1) (State.isArrayOf_alike hZ.alike Ar.2.1) Ar.2.2 q r (g := mkF m pc Ls (.int j :: .ref a :: rest)) rfl rfl hd _ k
theorem VArr.ldJ (A : VArr Z h a .long vs) (X : Stand p l e R s m args below meth c T locs cells slots) (hx : p.tables.exec = Jvm.exec) (hZ : Z.Warmed39 s.vm) (eT : T.heap = h) (hd : decode c.code pc = .ok (.laload, 1)) (hi : j.toInt = i) (hv : vs[i]? = some v) :
    ∀ t, Steps p.tables e below (T.setTop (mkF m (pc + 1) Ls (v :: rest))) t → Steps p.tables e below (T.setTop (mkF m pc Ls (.int j :: .ref a :: rest))) t := by
  obtain ⟨cl, Ar, q, r⟩ := A.at hi hv
  exact fun t k => X.laload hx (j := j) (v := v) (by rw [eT]; exact Ar.1) (State.isArrayOf_alike hZ.alike Ar.2.1) Ar.2.2 q r (g := mkF m pc Ls (.int j :: .ref a :: rest)) rfl rfl hd _ k
theorem VArr.ldB (A : VArr Z h a .byte vs) (X : Stand p l e R s m args below meth c T locs cells slots) (hx : p.tables.exec = Jvm.exec) (hZ : Z.Warmed39 s.vm) (eT : T.heap = h) (hd : decode c.code pc = .ok (.baload, 1)) (hi : j.toInt = i) (hv : vs[i]? = some v) :
    ∀ t, Steps p.tables e below (T.setTop (mkF m (pc + 1) Ls (v :: rest))) t → Steps p.tables e below (T.setTop (mkF m pc Ls (.int j :: .ref a :: rest))) t := by
  obtain ⟨cl, Ar, q, r⟩ := A.at hi hv
  exact fun t k => X.baloadBytes hx (j := j) (v := v) (by rw [eT]; exact Ar.1) (State.isArrayOf_alike hZ.alike Ar.2.1) Ar.2.2 q r (g := mkF m pc Ls (.int j :: .ref a :: rest)) rfl rfl hd _ k
theorem VArr.fit (A : VArr Z h a ty vs) (hv : vs[i]? = some v) : fits ty v = true := by
  obtain ⟨q, k, cl, A, -, S, N, H, G⟩ := A
  obtain ⟨hl, e⟩ := List.getElem?_eq_some_iff.mp hv
  have := G i (by rw [S, n32c q]; exact hl)
  rw [List.getD_eq_getElem?_getD, hv] at this; exact this
theorem VArr.set (A : VArr Z h a ty vs) (hv : fits ty v = true) (W : Wr h h' a i v) (hl : i < vs.length) : VArr Z h' a ty (vs.set i v) := by
  obtain ⟨q, k, cl, A, q1, S, N, H, G⟩ := A
  have q' : (vs.set i v).length < 2147483648 := by rw [List.length_set]; exact q
  refine ⟨q', k, ?_⟩
  rw [List.length_set]
  exact Arv.set (j := i.toInt32) A q1 S N H G hv (by rw [n32c (by omega)]; exact W) i (n32c (by omega)) hl
theorem VArr.in_ (A : VArr Z h a ty vs) (hi : j.toInt = i) (hl : i < vs.length) : ∃ cl, Arr Z h a cl ty ∧ ¬ (j < 0 ∨ cl.slots.size ≤ j.toNatClampNeg) := by
  obtain ⟨cl, A, S, H⟩ := A.cell
  refine ⟨cl, A, fun q => ?_⟩
  rw [idxN hi, S] at q; exact q.elim (idx0 hi) (by omega)
theorem Go.stI (A : VArr Z h a .int vs) (X : Stand p l e R s m args below meth c T locs cells slots) (hx : p.tables.exec = Jvm.exec) (hZ : Z.Warmed39 s.vm) (eT : T.heap = h) (hd : decode c.code pc = .ok (.iastore, 1)) (hi : j.toInt = i) (hl : i < vs.length)
    (k : ∀ T' h', Stand p l e R s m args below meth c T' (locs ++ [⟨a, i⟩]) cells slots → T'.heap = h' → Wr h h' a i (.int x) → VArr Z h' a .int (vs.set i (.int x)) → GoG p e below F T' (mkF m (pc + 1) Ls rest)) :
    GoG p e below F T (mkF m pc Ls (.int x :: .int j :: .ref a :: rest)) := by
  obtain ⟨cl, Ar, q⟩ := A.in_ hi hl
  obtain ⟨T', h', X', e', W, st⟩ := Jvm.RoadKit.stI X hx hZ eT Ar (j := j) (x := x) q (g := mkF m pc Ls (.int x :: .int j :: .ref a :: rest)) rfl rfl hd
  rw [idxN hi] at X' W
  exact Go.back st (k T' h' X' e' W (A.set rfl W hl))
theorem Go.stJ {x : Int64} (A : VArr Z h a .long vs) (X : Stand p l e R s m args below meth c T locs cells slots) (hx : p.tables.exec = Jvm.exec) (hZ : Z.Warmed39 s.vm) (eT : T.heap = h) (hd : decode c.code pc = .ok (.lastore, 1)) (hi : j.toInt = i) (hl : i < vs.length)
    (k : ∀ T' h', Stand p l e R s m args below meth c T' (locs ++ [⟨a, i⟩]) cells slots → T'.heap = h' → Wr h h' a i (.long x) → VArr Z h' a .long (vs.set i (.long x)) → GoG p e below F T' (mkF m (pc + 1) Ls rest)) :
    GoG p e below F T (mkF m pc Ls (.long x :: .int j :: .ref a :: rest)) := by
  obtain ⟨cl, Ar, q⟩ := A.in_ hi hl
  obtain ⟨T', h', X', e', W, st⟩ := Jvm.RoadKit.stJ X hx hZ eT Ar (j := j) (x := x) q (g := mkF m pc Ls (.long x :: .int j :: .ref a :: rest)) rfl rfl hd
  rw [idxN hi] at X' W
  exact Go.back st (k T' h' X' e' W (A.set rfl W hl))
theorem Go.stB (A : VArr Z h a .byte vs) (X : Stand p l e R s m args below meth c T locs cells slots) (hx : p.tables.exec = Jvm.exec) (hZ : Z.Warmed39 s.vm) (eT : T.heap = h) (hd : decode c.code pc = .ok (.bastore, 1)) (hi : j.toInt = i) (hl : i < vs.length)
    (k : ∀ T' h', Stand p l e R s m args below meth c T' (locs ++ [⟨a, i⟩]) cells slots → T'.heap = h' → Wr h h' a i (.int (nar .byte x)) → VArr Z h' a .byte (vs.set i (.int (nar .byte x))) → GoG p e below F T' (mkF m (pc + 1) Ls rest)) :
    GoG p e below F T (mkF m pc Ls (.int x :: .int j :: .ref a :: rest)) := by
  obtain ⟨cl, Ar, q⟩ := A.in_ hi hl
  obtain ⟨T', h', X', e', W, st⟩ := Jvm.RoadKit.stB X hx hZ eT Ar (j := j) (x := x) q (g := mkF m pc Ls (.int x :: .int j :: .ref a :: rest)) rfl rfl hd
  rw [idxN hi] at X' W
  exact Go.back st (k T' h' X' e' W (A.set (fits_nar_byte x) W hl))
theorem VArr.new {k : ClassId} {n : Int32} (A : Arr Z h a (newA k ty n) ty) (hi : n.toInt = i) : VArr Z h a ty (List.replicate i (defaultValue ty)) := by
  have hl : i < 2147483648 := by have := n.toInt_lt; omega
  have e : i.toInt32 = n := Int32.toInt_inj.mp (by rw [n32 hl, hi])
  refine ⟨by simpa using hl, k, ?_⟩
  rw [List.length_replicate, e]
  exact (Arv.new A (idx0 hi)).pad fun q => by have := pad_rep [] (defaultValue ty) i q; simpa using this
theorem Go.newA {aty : ArrayType} {n : Int32} {cap : Nat} (X : Stand p l e R s m args below meth c T locs cells slots) (hx : p.tables.exec = Jvm.exec) (hZ : Z.Warmed39 s.vm) (w : (Jvm.Cond.arrayClass (newarray.typeOf aty)).before a0 Z = true) (eT : T.heap = h) (hd : decode c.code pc = .ok (.newarray aty, 2))
    (hi : n.toInt = i) (hcap : i ≤ cap) (hb : cap * 8 ≤ 536870912) (hc : cells + 1 ≤ R.cells) (hl : slots + cap ≤ R.slots)
    (k : ∀ T' h' a, a = h.size → Stand p l e R s m args below meth c T' locs (cells + 1) (slots + cap) → T'.heap = h' → Ext h h' → VArr Z h' a (newarray.typeOf aty) (List.replicate i (defaultValue (newarray.typeOf aty))) → GoG p e below F T' (mkF m (pc + 2) Ls (.ref a :: rest))) :
    GoG p e below F T (mkF m pc Ls (.int n :: rest)) := by
  obtain ⟨T', h', cA, X', e', E, A, st⟩ := newP X hx hZ w eT (g := mkF m pc Ls (.int n :: rest)) rfl hd rfl (idx0 hi) (cap := cap) (by rw [idxN hi]; exact hcap) hb hc hl
  exact Go.back st (k T' h' _ rfl X' e' E (VArr.new A hi))
theorem Go.newAE {aty : ArrayType} {n : Int32} {cap : Nat} {ad : String} (had : "[" ++ (newarray.typeOf aty).toString = ad) (X : Stand p l e R s m args below meth c T locs cells slots) (hx : p.tables.exec = Jvm.exec) (hZ : Z.Warmed39 s.vm) (w : (Jvm.Cond.arrayClass (newarray.typeOf aty)).before a0 Z = true) (eT : T.heap = h) (hd : decode c.code pc = .ok (.newarray aty, 2))
    (hi : n.toInt = i) (hcap : i ≤ cap) (hb : cap * 8 ≤ 536870912) (hc : cells + 1 ≤ R.cells) (hl : slots + cap ≤ R.slots)
    (k : ∀ T' h' a, a = h.size → Stand p l e R s m args below meth c T' locs (cells + 1) (slots + cap) → T'.heap = h' → Ext h h' → VArr Z h' a (newarray.typeOf aty) (List.replicate i (defaultValue (newarray.typeOf aty))) → Exa Z h' a ad → GoG p e below F T' (mkF m (pc + 2) Ls (.ref a :: rest))) :
    GoG p e below F T (mkF m pc Ls (.int n :: rest)) := by
  obtain ⟨T', h', cA, X', e', E, A, B, st⟩ := newPE X hx hZ w eT (g := mkF m pc Ls (.int n :: rest)) rfl hd rfl (idx0 hi) (cap := cap) (by rw [idxN hi]; exact hcap) hb hc hl had
  exact Go.back st (k T' h' _ rfl X' e' E (VArr.new A hi) B)
theorem stretch (vs : List Value) (dv : Value) (i n : Nat) (q : i + n ≤ vs.length) : (vs.drop i).take n = (List.range n).map fun z => vs.getD (i + z) dv := by
  apply List.ext_getElem
  · simp; omega
  · intro k h1 h2
    simp at h1 h2 ⊢
    rw [List.getElem?_eq_getElem (by omega)]; rfl
theorem Go.cpy {own : String} {index n0 n : Nat} {sp dp nn : Int32} {j' : Nat} (X : Stand p l e R s m args below meth c T locs cells slots) (hx : p.tables.exec = Jvm.exec) (hZ : Z.Warmed39 s.vm) (hown : s.vm.findClass own = some m.cls)
    (w1 : (Jvm.Cond.methodLink own index Jvm.Stand.acN).before a0 Z = true) (w2 : (Jvm.Cond.native Jvm.Stand.acN).before a0 Z = true) (w3 : (Jvm.Cond.static Jvm.Stand.acN).before a0 Z = true) (w4 : (Jvm.Cond.initialized "java/lang/System").before a0 Z = true) (eT : T.heap = h)
    (A : VArr Z h a ty vs) (B : VArr Z h b ty vd) (hty : refKind ty = false) (hi : sp.toInt = i) (hj : dp.toInt = j') (hn : nn.toInt = n) (b1 : i + n ≤ vs.length) (b2 : j' + n ≤ vd.length) (N : Fr n0 locs) (ge : n0 ≤ b)
    (hsz : Ls.size = c.maxLocals) (hd : decode c.code pc = .ok (.invokestatic index, 3)) (hf : 1 ≤ R.frames) {W : Nat} (hW : 2 * 0 + (rest.map fun v => v.category).sum ≤ W) (hlo : W + (nativeFrameWords "java/lang/System" "arraycopy" 5 + 11) ≤ R.locals)
    (k : ∀ T' h' L, Stand p l e R s m args below meth c T' L cells slots → T'.heap = h' → Fr n0 L → Keep h h' [b] → VArr Z h' b ty (vd.take j' ++ (vs.drop i).take n ++ vd.drop (j' + n)) → GoG p e below F T' (mkF m (pc + 3) Ls rest)) :
    GoG p e below F T (mkF m pc Ls (.int nn :: .int dp :: .ref b :: .int sp :: .ref a :: rest)) := by
  obtain ⟨q1, k1, A1⟩ := A
  obtain ⟨q2, k2, B1⟩ := B
  obtain ⟨T', h', L, X', e', N', K, V, st⟩ := cpA X hx hZ hown w1 w2 w3 w4 eT A1 B1 (us := (vs.drop i).take n) (Or.inl ⟨rfl, hty⟩) (sp := sp) (dp := dp) (nn := nn) (idx0 hi) (idx0 hj) (idx0 hn) (by rw [idxN hi, idxN hn, n32c q1]; exact b1) (by rw [idxN hj, idxN hn, n32c q2]; exact b2) (by rw [idxN hi, idxN hn]; exact stretch vs _ i n b1) (by rw [idxN hj, idxN hn]; exact b2) N ge (g := mkF m pc Ls (.int nn :: .int dp :: .ref b :: .int sp :: .ref a :: rest)) rfl hsz rfl hd hf (W := W) hW hlo
  rw [idxN hj, idxN hn] at V
  refine Go.back st (k T' h' L X' e' N' K ?_)
  have el : (vd.take j' ++ (vs.drop i).take n ++ vd.drop (j' + n)).length = vd.length := by simp; omega
  exact ⟨by rw [el]; exact q2, k2, by rw [el]; exact V⟩
end Arrays
end Jvm.OwnKit
namespace Jvm.OwnKit
open Sem ClassFile Op Lib Jvm.Stand Jvm.Free Jvm.LawKit Jvm.RoadKit
theorem VArr.ofArv {Z : State} {h : Heap} {a : Addr} {k : ClassId} {z : Int32} {vs : List Value} (A : Arv Z h a k .byte z vs (.int 0)) (hl : z.toNatClampNeg = vs.length) : VArr Z h a .byte vs := by
  have hz : ¬ z < 0 := by obtain ⟨c, -, -, -, q, -⟩ := A; exact q
  have q := back32 hz
  rw [hl] at q
  exact ⟨q.2, k, by rw [q.1]; exact A⟩
end Jvm.OwnKit
namespace Jvm.OwnKit
open Sem ClassFile Op Lib Jvm.Stand Jvm.Free Jvm.LawKit Jvm.RoadKit
section Change
variable {Z : State} {n0 : Nat} {h0 h h' : Heap} {ws ws' : List Addr} {L L' : List Loc} {a b : Addr} {sl : Nat} {v : Value}
/-- what a walk has changed since h0: cells at ws, and new ones; no place below n0 -/
def Chg (n0 : Nat) (h0 h : Heap) (ws : List Addr) (L : List Loc) : Prop := n0 ≤ h0.size ∧ Keep h0 h ws ∧ Fr n0 L
theorem Chg.refl (q : n0 ≤ h0.size) : Chg n0 h0 h0 ws [] := ⟨q, Keep.refl _ _, Fr.nil _⟩
theorem Chg.keep (C : Chg n0 h0 h ws L) : Keep h0 h ws := C.2.1
theorem Chg.fr (C : Chg n0 h0 h ws L) : Fr n0 L := C.2.2
theorem Chg.size (C : Chg n0 h0 h ws L) : n0 ≤ h.size := Nat.le_trans C.1 C.2.1.1
theorem Chg.grow (C : Chg n0 h0 h ws L) : h0.size ≤ h.size := C.2.1.1
theorem Chg.at (C : Chg n0 h0 h ws L) (q : a = h.size) : h0.size ≤ a := q ▸ C.grow
theorem Chg.ge (C : Chg n0 h0 h ws L) (q : h0.size ≤ a) : n0 ≤ a := Nat.le_trans C.1 q
theorem Chg.ext (C : Chg n0 h0 h ws L) (E : Ext h h') : Chg n0 h0 h' ws L := ⟨C.1, C.2.1.ext E, C.2.2⟩
theorem Chg.wr (C : Chg n0 h0 h ws L) (W : Wr h h' a sl v) (q : a ∈ ws ∨ h0.size ≤ a) (g : n0 ≤ a) : Chg n0 h0 h' ws (L ++ [⟨a, sl⟩]) := ⟨C.1, C.2.1.wr W q, C.2.2.app fun y hy => by cases List.mem_singleton.mp hy; exact g⟩
theorem Chg.wrN (C : Chg n0 h0 h ws L) (W : Wr h h' a sl v) (q : a ∈ ws ∨ h0.size ≤ a) (N : Fr n0 L') : Chg n0 h0 h' ws (L ++ L') := ⟨C.1, C.2.1.wr W q, C.2.2.app N⟩
theorem Chg.call (C : Chg n0 h0 h ws L) (C' : Chg n0 h h' ws' L') (q : ∀ x ∈ ws', x ∈ ws ∨ h0.size ≤ x) : Chg n0 h0 h' ws (L ++ L') := ⟨C.1, C.2.1.trans C'.2.1 q, C.2.2.app C'.2.2⟩
theorem Chg.cpy (C : Chg n0 h0 h ws L) (K : Keep h h' [b]) (N : Fr n0 L') (q : b ∈ ws ∨ h0.size ≤ b) : Chg n0 h0 h' ws L' := ⟨C.1, C.2.1.trans K (allS q all0), N⟩
theorem Chg.pure (C : Chg n0 h0 h ws L) (N : Fr n0 L') (e : h' = h) : Chg n0 h0 h' ws (L ++ L') := by subst e; exact ⟨C.1, C.2.1, C.2.2.app N⟩
theorem Chg.sub (C : Chg n0 h0 h ws L) (q : ∀ x ∈ ws, x ∈ ws') : Chg n0 h0 h ws' L := ⟨C.1, (Keep.refl h0 ws').trans C.2.1 (fun x hx => Or.inl (q x hx)), C.2.2⟩
theorem lt_ne {F : Nat} (q : b = F) (r : a < F) : a ≠ b := Nat.ne_of_lt (q ▸ r)
theorem Chg.base (C : Chg n0 h0 h ws L) : Chg n0 h h ws' L := ⟨C.size, Keep.refl _ _, C.fr⟩
/-- no class's statics lie at x -/
def NS (h : Heap) (x : Addr) : Prop := ∀ cl : Cell, h[x]? = some cl → cl.vm.isStatics = false
theorem own_exaNS {K : String} (E : Exa Z h a K) : NS h a := fun cl q => by obtain ⟨c, k, h1, -, -, h4, -⟩ := E; cases h1.symm.trans q; exact h4
theorem own_ns0 : ∀ x ∈ ([] : List Addr), NS h x := fun _ q => by cases q
theorem own_nsS (q : NS h a) (r : ∀ x ∈ ws, NS h x) : ∀ x ∈ a :: ws, NS h x := fun x hx => by
  rcases List.mem_cons.mp hx with rfl | q'
  · exact q
  · exact r x q'
theorem staKeep {K n d : String} (S : Sta Z h K n d v) (k : Keep h h' ws) (q : ∀ x ∈ ws, NS h x) : Sta Z h' K n d v := by
  obtain ⟨cf, i, kk, f, st, cell, h1, h2, h3, h4, h5, h6, h7⟩ := S
  exact ⟨cf, i, kk, f, st, cell, h1, h2, h3, h4, k.2.1 _ _ h5 (fun hm => by have := q _ hm _ h5; rw [h6] at this; cases this), h6, h7⟩
end Change
end Jvm.OwnKit
namespace Jvm.OwnKit
open Sem ClassFile Op Lib Jvm.Stand Jvm.Free Jvm.LawKit Jvm.RoadKit
section Wide
variable {p : Program} {l : Launch} {e : Env} {R : Room} {s : State} {vm0 : Vm} {m : MethodId} {args : Array Value} {below : List Frame} {meth : Method} {c : Code} {T : State} {locs : List Loc} {cells slots : Nat} {Z : State} {a0 : Array Value} {h : Heap}
  {Q : Option Value → Heap → List Loc → Prop} {kc ks : Nat} {F : Outcome → State → Prop}
/-- the same, where String constants may have been resolved and interned -/
def FinW (s : State) (Q : Option Value → Heap → List Loc → Prop) (kc ks : Nat) : Outcome → State → Prop := fun o t => ∃ v L, o = .returned v ∧ Q v t.heap L ∧ ReturnedEndW s o t L kc ks
abbrev GoW (p : Program) (e : Env) (below : List Frame) (s : State) (Q : Option Value → Heap → List Loc → Prop) (kc ks : Nat) (T : State) (f : JFrame) : Prop := GoG p e below (FinW s Q kc ks) T f
theorem GoW.retN (X : Stand p l e R (s.setVm vm0) m args below meth c T locs cells slots) (hx : p.tables.exec = Jvm.exec) {n : Nat} (hS : s.Since vm0 n) (hn : n ≤ T.heap.size) {pc : Nat} {Ls : Array Slot} {z w : Int32} {t : FieldType} {rest : List Value} (hret : meth.sig.returnType = some t) (ht : t = .boolean ∨ t = .byte ∨ t = .char ∨ t = .short) (hw : nar t z = w) (hlk : meth.locks = false) (hd : decode c.code pc = .ok (.ireturn, 1))
    (hQ : Q (some (.int w)) T.heap locs) (hc : cells ≤ kc) (hs : slots ≤ ks) : GoW p e below s Q kc ks T (mkF m pc Ls (.int z :: rest)) := by
  obtain ⟨fs, hr, hrun, hended, hE⟩ := X.leaveW hS hn (v := some (.int w)) (fun q => by rw [hret] at q; cases q) hlk
  exact ⟨_, _, Jvm.RoadKit.retN X hx hret ht hd (by rw [hw]; exact hr), hrun, hended, _, locs, rfl, hQ, hE.1, hE.2.1, hE.2.2.1, hE.2.2.2.mono hc hs⟩
def MetW (l : Launch) (Z : State) (y : MethodName) (bytes : ByteArray) (maxL : Nat) (ret : Option FieldType) (rm : Room) (as' : Array Value) (h : Heap) (Q : Option Value → Heap → List Loc → Prop) : Prop :=
  ∀ ws : List Jvm.Cond, MetFree l y (head1 (Jvm.Cond.code y bytes maxL ret :: ws) rm) (fun a U => a = as' ∧ U = Z) (fun _ _ _ _ _ => True) (fun _ U o U' => ∃ v L, o = .returned v ∧ Q v U'.heap L ∧ ReturnedEndW U o U' L rm.cells rm.slots)
variable {y : MethodName} {bytes : ByteArray} {maxL : Nat} {ret : Option FieldType} {rm : Room} {as' : Array Value}
/-- the law's own walk, from its very start Z -/
theorem MetW.intro (hp : plainFor y = true) (body : ∀ (p : Program) (e : Env) (m : MethodId) (below : List Frame) (meth : Method) (c : Code) (T : State),
      p.tables.exec = Jvm.exec → c.code = bytes → c.maxLocals = maxL → Z.vm.findClass y.cls = some m.cls → meth.name = y.name → meth.sig.returnType = ret → meth.locks = false →
      Stand p l e rm (Z.setVm Z.vm) m as' below meth c T [] 0 0 → T.heap = Z.heap → GoW p e below Z Q rm.cells rm.slots T (entryFrame m as' maxL)) : MetW l Z y bytes maxL ret rm as' h Q := by
  intro ws
  refine MetFree.of_bodySF hp hisR ?_
  intro p e s m args below meth c s₁ Bd hml0 hP hK
  obtain ⟨rfl, rfl⟩ := hP
  exact body p e m below meth c s₁ Bd.exec Bd.bytes hml0 (findClass_of_methodNamed Bd.named) (name_of_methodNamed Bd.named Bd.method).1 Bd.returns Bd.notSynchronized (Stand.of_body Bd) (by rw [Bd.state]; rfl)
end Wide
end Jvm.OwnKit
namespace Jvm.OwnKit
open Sem ClassFile Op Lib Jvm.Stand Jvm.Free Jvm.LawKit Jvm.RoadKit
section Refs
variable {p : Program} {l : Launch} {e : Env} {R : Room} {s : State} {m : MethodId} {args : Array Value} {below : List Frame} {meth : Method} {c : Code} {T T' : State} {locs : List Loc} {cells slots : Nat} {Z : State} {a0 : Array Value} {h h' : Heap}
  {F : Outcome → State → Prop} {a b : Addr} {ty : FieldType} {vs vd : List Value} {j x : Int32} {i : Nat} {v : Value} {pc : Nat} {Ls : Array Slot} {rest : List Value} {C n d : String} {ws : List Addr}
/-- a getfield whose entry has been resolved before -/
theorem getFR (X : Stand p l e R s m args below meth c T locs cells slots) (hx : p.tables.exec = Jvm.exec) (hZ : Z.Warmed39 s.vm) {own O : String} {index : Nat} (hown : s.vm.findClass own = some m.cls) (w : (Jvm.Cond.fieldRef own index O n d).before a0 Z = true)
    (eT : T.heap = h) (Fd : Fld Z h a O n d v) {g : JFrame} (hg : g.method = m) (hs : g.stack = .ref a :: rest) (hd : decode c.code g.pc = .ok (.getfield index, 3)) :
    ∀ target, Steps p.tables e below (T.setTop { g with pc := g.pc + 3, stack := v :: rest }) target → Steps p.tables e below (T.setTop g) target := by
  obtain ⟨cell, cf, k, i, f, h1, h2, h3, h4, -, -, h7⟩ := Fd
  have hZT : Z.Warmed39 T.vm := wtrans hZ X.warmed
  have w' := Cond.fieldRef_warmed39 hZT w
  have hcur : (Z.setVm T.vm).vm.findClass own = some m.cls := by
    show T.vm.findClass own = some m.cls
    rw [X.warmed.alike.findClass]; exact hown
  obtain ⟨c', k', i', f', hf', hready⟩ := Cond.fieldRef_spec hcur w'
  obtain ⟨k2, hi, -⟩ := State.fieldFound?_setVm (s := Z) hZT.alike h2
  cases hf'.symm.trans hi
  have hready' : T.vm.fieldReady m.cls index cf f := hready
  intro target hrest
  subst hg
  jvm_step X.here [hx, hd, getfield.wp_ready (e := e) (s := T) (f := g) X.here.top hready' h3 hs (by rw [eT]; exact h1) h4 h7]
  exact hrest
theorem Go.callP {y : MethodName} {bytes : ByteArray} {maxL : Nat} {ret : Option FieldType} {rm : Room} {Q' : Option Value → Heap → List Loc → Prop} (X : Stand p l e R s m args below meth c T locs cells slots) (hx : p.tables.exec = Jvm.exec) (hZ : Z.Warmed39 s.vm) {own : String} {index : Nat} (hown : s.vm.findClass own = some m.cls)
    (w1 : (Jvm.Cond.methodLink own index y).before a0 Z = true) (w2 : (Jvm.Cond.instanceMethod y).before a0 Z = true) (w3 : (Jvm.Cond.selects y.cls y y).before a0 Z = true) (w4 : (Jvm.Cond.privateMethod y).before a0 Z = true)
    (w5 : (Jvm.Cond.initialized y.cls).before a0 Z = true) (w6 : (Jvm.Cond.code y bytes maxL ret).before a0 Z = true)
    (hy : y.cls ≠ "java/lang/invoke/MethodHandle" ∧ y.cls ≠ "java/lang/invoke/VarHandle") (eT : T.heap = h) (E : Exa Z h a C) {argsL st : List Value} (hM : Met l Z y bytes maxL ret rm (.ref a :: argsL).toArray h Q')
    (hlen : ∀ sig, parseMethodDescriptor y.desc = some sig → argsL.length = sig.parameters.length) (hst : st = argsL.reverse ++ .ref a :: rest) (hsz : Ls.size = c.maxLocals) {W : Nat} (hW : 2 * 0 + (rest.map fun v => v.category).sum ≤ W)
    (hd : decode c.code pc = .ok (.invokevirtual index, 3)) (hf : rm.frames + 1 ≤ R.frames) (hl : W + (maxL + 11) + rm.locals ≤ R.locals) (hc : cells + rm.cells ≤ R.cells) (hs : slots + rm.slots ≤ R.slots)
    (k : ∀ v T' L, Stand p l e R s m args below meth c T' (locs ++ L) (cells + rm.cells) (slots + rm.slots) → Q' v T'.heap L → GoG p e below F T' (mkF m (pc + 3) Ls (v.toList ++ rest))) :
    GoG p e below F T (mkF m pc Ls st) := by
  subst hst
  obtain ⟨cq, kq, qa, -, -, qc, -⟩ := E
  obtain ⟨v, _, ⟨T1, L1, k1, n1⟩, -, X1, ⟨Lc, hQ, l1, y1, z1⟩, st1⟩ := X.privateBack hx (y := y) hown (mvT hZ w1) (mvT hZ w2) (mvT hZ w3) (Cond.privateMethod_at (mvT hZ w4 : (Jvm.Cond.privateMethod y).before args s = true)) (mvT hZ w6) hy (backOf (W := W) (hM []) hZ w6 w5 hf hl) (g := mkF m pc Ls (argsL.reverse ++ .ref a :: rest)) rfl hsz (Steps.refl _) (by rw [eT]; exact qa) (fun q z => by rw [z] at qc; cases qc) (argsL := argsL) (rest := rest) hlen rfl hW hd (fun _ _ => ⟨rfl, eT, hc, hs⟩)
  dsimp only [Pt.U, Pt.locs, Pt.cells, Pt.slots] at X1 l1 y1 z1 st1 hQ
  subst l1 y1 z1
  exact Go.back (fun _ q => st1.trans q) (k v T1 Lc X1 hQ)
/-- an array of ten Objects -/
def OA (Z : State) (h : Heap) (a : Addr) : Prop := ∃ cl, Arr Z h a cl (.object "java/lang/Object") ∧ cl.slots.size = 10 ∧ Ovr Z cl.cls "java/lang/Object"
theorem OA.lt (A : OA Z h a) : a < h.size := by obtain ⟨cl, A, -⟩ := A; exact (Array.getElem?_eq_some_iff.mp A.1).1
theorem OA.ext (A : OA Z h a) (E : Ext h h') : OA Z h' a := by obtain ⟨cl, A, S, O⟩ := A; exact ⟨cl, ⟨E.2 _ _ A.1, A.2⟩, S, O⟩
theorem OA.other {sl : Nat} {w : Value} (A : OA Z h a) (W : Wr h h' b sl w) (q : a ≠ b) : OA Z h' a := by
  obtain ⟨cl, A, S, O⟩ := A
  obtain ⟨c', e1, -, -, -, e5, -⟩ := wr_at W A.1
  cases e5 q
  exact ⟨cl, ⟨e1, A.2⟩, S, O⟩
theorem OA.keep (A : OA Z h a) (K : Keep h h' ws) (q : a ∉ ws) : OA Z h' a := by obtain ⟨cl, A, S, O⟩ := A; exact ⟨cl, ⟨K.2.1 _ _ A.1 q, A.2⟩, S, O⟩
end Refs
end Jvm.OwnKit
namespace Jvm.Pilot.@@N@@
open Jvm Jvm.ClassFile Sem Op Lib Jvm.Free Jvm.Stand Jvm.LawKit Jvm.RoadKit Bundle Jvm.OwnKit Jvm.Pilot.@@N@@.Jvm.D
theorem d1_0 : decode jdk_42_method_139_code 0 = .ok (.getstatic 38, 3) := by decide +kernel
theorem d1_3 : decode jdk_42_method_139_code 3 = .ok (.ifCond .eq 23, 3) := by decide +kernel
theorem d1_6 : decode jdk_42_method_139_code 6 = .ok (.iload_n 0, 1) := by decide +kernel
theorem d1_7 : decode jdk_42_method_139_code 7 = .ok (.invokestatic 1015, 3) := by decide +kernel
theorem d1_10 : decode jdk_42_method_139_code 10 = .ok (.ifCond .eq 16, 3) := by decide +kernel
theorem d1_13 : decode jdk_42_method_139_code 13 = .ok (.new 10, 3) := by decide +kernel
theorem d1_16 : decode jdk_42_method_139_code 16 = .ok (.dup, 1) := by decide +kernel
theorem d1_17 : decode jdk_42_method_139_code 17 = .ok (.iload_n 0, 1) := by decide +kernel
theorem d1_18 : decode jdk_42_method_139_code 18 = .ok (.invokestatic 1018, 3) := by decide +kernel
theorem d1_21 : decode jdk_42_method_139_code 21 = .ok (.iconst 0, 1) := by decide +kernel
theorem d1_22 : decode jdk_42_method_139_code 22 = .ok (.invokespecial 209, 3) := by decide +kernel
theorem d1_25 : decode jdk_42_method_139_code 25 = .ok (.areturn, 1) := by decide +kernel
theorem d1_26 : decode jdk_42_method_139_code 26 = .ok (.new 10, 3) := by decide +kernel
theorem d1_29 : decode jdk_42_method_139_code 29 = .ok (.dup, 1) := by decide +kernel
theorem d1_30 : decode jdk_42_method_139_code 30 = .ok (.iload_n 0, 1) := by decide +kernel
theorem d1_31 : decode jdk_42_method_139_code 31 = .ok (.invokestatic 1021, 3) := by decide +kernel
theorem d1_34 : decode jdk_42_method_139_code 34 = .ok (.iconst 1, 1) := by decide +kernel
theorem d1_35 : decode jdk_42_method_139_code 35 = .ok (.invokespecial 209, 3) := by decide +kernel
theorem d1_38 : decode jdk_42_method_139_code 38 = .ok (.areturn, 1) := by decide +kernel
theorem d2_0 : decode jdk_43_method_3_code 0 = .ok (.iload_n 0, 1) := by decide +kernel
theorem d2_1 : decode jdk_43_method_3_code 1 = .ok (.sipush 255, 3) := by decide +kernel
theorem d2_4 : decode jdk_43_method_3_code 4 = .ok (.if_icmp .gt 7, 3) := by decide +kernel
theorem d2_7 : decode jdk_43_method_3_code 7 = .ok (.iconst 1, 1) := by decide +kernel
theorem d2_8 : decode jdk_43_method_3_code 8 = .ok (.goto 4, 3) := by decide +kernel
theorem d2_11 : decode jdk_43_method_3_code 11 = .ok (.iconst 0, 1) := by decide +kernel
theorem d2_12 : decode jdk_43_method_3_code 12 = .ok (.ireturn, 1) := by decide +kernel
theorem d3_0 : decode jdk_43_method_46_code 0 = .ok (.iconst 1, 1) := by decide +kernel
theorem d3_1 : decode jdk_43_method_46_code 1 = .ok (.newarray .byte, 2) := by decide +kernel
theorem d3_3 : decode jdk_43_method_46_code 3 = .ok (.dup, 1) := by decide +kernel
theorem d3_4 : decode jdk_43_method_46_code 4 = .ok (.iconst 0, 1) := by decide +kernel
theorem d3_5 : decode jdk_43_method_46_code 5 = .ok (.iload_n 0, 1) := by decide +kernel
theorem d3_6 : decode jdk_43_method_46_code 6 = .ok (.i2b, 1) := by decide +kernel
theorem d3_7 : decode jdk_43_method_46_code 7 = .ok (.bastore, 1) := by decide +kernel
theorem d3_8 : decode jdk_43_method_46_code 8 = .ok (.areturn, 1) := by decide +kernel
theorem d4_0 : decode jdk_42_method_151_code 0 = .ok (.aload_n 0, 1) := by decide +kernel
theorem d4_1 : decode jdk_42_method_151_code 1 = .ok (.invokespecial 1, 3) := by decide +kernel
theorem d4_4 : decode jdk_42_method_151_code 4 = .ok (.aload_n 0, 1) := by decide +kernel
theorem d4_5 : decode jdk_42_method_151_code 5 = .ok (.aload_n 1, 1) := by decide +kernel
theorem d4_6 : decode jdk_42_method_151_code 6 = .ok (.putfield 9, 3) := by decide +kernel
theorem d4_9 : decode jdk_42_method_151_code 9 = .ok (.aload_n 0, 1) := by decide +kernel
theorem d4_10 : decode jdk_42_method_151_code 10 = .ok (.iload_n 2, 1) := by decide +kernel
theorem d4_11 : decode jdk_42_method_151_code 11 = .ok (.putfield 15, 3) := by decide +kernel
theorem d4_14 : decode jdk_42_method_151_code 14 = .ok (.return_, 1) := by decide +kernel
theorem d6_0 : decode jdk_38_method_2_code 0 = .ok (.aload_n 0, 1) := by decide +kernel
theorem d6_1 : decode jdk_38_method_2_code 1 = .ok (.invokespecial 1, 3) := by decide +kernel
theorem d6_4 : decode jdk_38_method_2_code 4 = .ok (.aload_n 0, 1) := by decide +kernel
theorem d6_5 : decode jdk_38_method_2_code 5 = .ok (.getstatic 39, 3) := by decide +kernel
theorem d6_8 : decode jdk_38_method_2_code 8 = .ok (.putfield 9, 3) := by decide +kernel
theorem d6_11 : decode jdk_38_method_2_code 11 = .ok (.return_, 1) := by decide +kernel
theorem d7_0 : decode jdk_39_method_1_code 0 = .ok (.aload_n 0, 1) := by decide +kernel
theorem d7_1 : decode jdk_39_method_1_code 1 = .ok (.invokespecial 1, 3) := by decide +kernel
theorem d7_4 : decode jdk_39_method_1_code 4 = .ok (.aload_n 0, 1) := by decide +kernel
theorem d7_5 : decode jdk_39_method_1_code 5 = .ok (.iconst 0, 1) := by decide +kernel
theorem d7_6 : decode jdk_39_method_1_code 6 = .ok (.putfield 7, 3) := by decide +kernel
theorem d7_9 : decode jdk_39_method_1_code 9 = .ok (.return_, 1) := by decide +kernel
theorem d8_0 : decode jdk_22_method_1_code 0 = .ok (.aload_n 0, 1) := by decide +kernel
theorem d8_1 : decode jdk_22_method_1_code 1 = .ok (.invokespecial 1, 3) := by decide +kernel
theorem d8_4 : decode jdk_22_method_1_code 4 = .ok (.return_, 1) := by decide +kernel
theorem d9_0 : decode prog_61_method_1_code 0 = .ok (.aload_n 0, 1) := by decide +kernel
theorem d9_1 : decode prog_61_method_1_code 1 = .ok (.invokespecial 1, 3) := by decide +kernel
theorem d9_4 : decode prog_61_method_1_code 4 = .ok (.aload_n 0, 1) := by decide +kernel
theorem d9_5 : decode prog_61_method_1_code 5 = .ok (.aload_n 1, 1) := by decide +kernel
theorem d9_6 : decode prog_61_method_1_code 6 = .ok (.putfield 7, 3) := by decide +kernel
theorem d9_9 : decode prog_61_method_1_code 9 = .ok (.aload_n 0, 1) := by decide +kernel
theorem d9_10 : decode prog_61_method_1_code 10 = .ok (.aload_n 2, 1) := by decide +kernel
theorem d9_11 : decode prog_61_method_1_code 11 = .ok (.putfield 13, 3) := by decide +kernel
theorem d9_14 : decode prog_61_method_1_code 14 = .ok (.aload_n 0, 1) := by decide +kernel
theorem d9_15 : decode prog_61_method_1_code 15 = .ok (.iload_n 3, 1) := by decide +kernel
theorem d9_16 : decode prog_61_method_1_code 16 = .ok (.putfield 16, 3) := by decide +kernel
theorem d9_19 : decode prog_61_method_1_code 19 = .ok (.aload_n 0, 1) := by decide +kernel
theorem d9_20 : decode prog_61_method_1_code 20 = .ok (.aload 4, 2) := by decide +kernel
theorem d9_22 : decode prog_61_method_1_code 22 = .ok (.putfield 20, 3) := by decide +kernel
theorem d9_25 : decode prog_61_method_1_code 25 = .ok (.aload_n 0, 1) := by decide +kernel
theorem d9_26 : decode prog_61_method_1_code 26 = .ok (.aload 5, 2) := by decide +kernel
theorem d9_28 : decode prog_61_method_1_code 28 = .ok (.putfield 24, 3) := by decide +kernel
theorem d9_31 : decode prog_61_method_1_code 31 = .ok (.aload_n 0, 1) := by decide +kernel
theorem d9_32 : decode prog_61_method_1_code 32 = .ok (.aload 6, 2) := by decide +kernel
theorem d9_34 : decode prog_61_method_1_code 34 = .ok (.putfield 27, 3) := by decide +kernel
theorem d9_37 : decode prog_61_method_1_code 37 = .ok (.return_, 1) := by decide +kernel
theorem d10_0 : decode prog_60_method_1_code 0 = .ok (.aload_n 0, 1) := by decide +kernel
theorem d10_1 : decode prog_60_method_1_code 1 = .ok (.invokespecial 1, 3) := by decide +kernel
theorem d10_4 : decode prog_60_method_1_code 4 = .ok (.aload_n 0, 1) := by decide +kernel
theorem d10_5 : decode prog_60_method_1_code 5 = .ok (.aload_n 1, 1) := by decide +kernel
theorem d10_6 : decode prog_60_method_1_code 6 = .ok (.putfield 7, 3) := by decide +kernel
theorem d10_9 : decode prog_60_method_1_code 9 = .ok (.aload_n 0, 1) := by decide +kernel
theorem d10_10 : decode prog_60_method_1_code 10 = .ok (.aload_n 2, 1) := by decide +kernel
theorem d10_11 : decode prog_60_method_1_code 11 = .ok (.putfield 13, 3) := by decide +kernel
theorem d10_14 : decode prog_60_method_1_code 14 = .ok (.aload_n 0, 1) := by decide +kernel
theorem d10_15 : decode prog_60_method_1_code 15 = .ok (.iload_n 3, 1) := by decide +kernel
theorem d10_16 : decode prog_60_method_1_code 16 = .ok (.putfield 16, 3) := by decide +kernel
theorem d10_19 : decode prog_60_method_1_code 19 = .ok (.aload_n 0, 1) := by decide +kernel
theorem d10_20 : decode prog_60_method_1_code 20 = .ok (.iload 4, 2) := by decide +kernel
theorem d10_22 : decode prog_60_method_1_code 22 = .ok (.putfield 20, 3) := by decide +kernel
theorem d10_25 : decode prog_60_method_1_code 25 = .ok (.aload_n 0, 1) := by decide +kernel
theorem d10_26 : decode prog_60_method_1_code 26 = .ok (.aload 5, 2) := by decide +kernel
theorem d10_28 : decode prog_60_method_1_code 28 = .ok (.putfield 24, 3) := by decide +kernel
theorem d10_31 : decode prog_60_method_1_code 31 = .ok (.aload_n 0, 1) := by decide +kernel
theorem d10_32 : decode prog_60_method_1_code 32 = .ok (.aload 6, 2) := by decide +kernel
theorem d10_34 : decode prog_60_method_1_code 34 = .ok (.putfield 28, 3) := by decide +kernel
theorem d10_37 : decode prog_60_method_1_code 37 = .ok (.return_, 1) := by decide +kernel
theorem d11_0 : decode prog_60_method_9_code 0 = .ok (.aload_n 0, 1) := by decide +kernel
theorem d11_1 : decode prog_60_method_9_code 1 = .ok (.getfield 24, 3) := by decide +kernel
theorem d11_4 : decode prog_60_method_9_code 4 = .ok (.getfield 76, 3) := by decide +kernel
theorem d11_7 : decode prog_60_method_9_code 7 = .ok (.iconst (-1), 1) := by decide +kernel
theorem d11_8 : decode prog_60_method_9_code 8 = .ok (.if_icmp .eq 34, 3) := by decide +kernel
theorem d11_11 : decode prog_60_method_9_code 11 = .ok (.aload_n 0, 1) := by decide +kernel
theorem d11_12 : decode prog_60_method_9_code 12 = .ok (.getfield 24, 3) := by decide +kernel
theorem d11_15 : decode prog_60_method_9_code 15 = .ok (.getfield 79, 3) := by decide +kernel
theorem d11_18 : decode prog_60_method_9_code 18 = .ok (.ifnonnull 13, 3) := by decide +kernel
theorem d11_21 : decode prog_60_method_9_code 21 = .ok (.aload_n 0, 1) := by decide +kernel
theorem d11_22 : decode prog_60_method_9_code 22 = .ok (.getfield 24, 3) := by decide +kernel
theorem d11_25 : decode prog_60_method_9_code 25 = .ok (.getfield 82, 3) := by decide +kernel
theorem d11_28 : decode prog_60_method_9_code 28 = .ok (.ifnull 14, 3) := by decide +kernel
theorem d11_31 : decode prog_60_method_9_code 31 = .ok (.aload_n 0, 1) := by decide +kernel
theorem d11_32 : decode prog_60_method_9_code 32 = .ok (.getfield 28, 3) := by decide +kernel
theorem d11_35 : decode prog_60_method_9_code 35 = .ok (.ifnull 7, 3) := by decide +kernel
theorem d11_38 : decode prog_60_method_9_code 38 = .ok (.iconst 1, 1) := by decide +kernel
theorem d11_39 : decode prog_60_method_9_code 39 = .ok (.goto 4, 3) := by decide +kernel
theorem d11_42 : decode prog_60_method_9_code 42 = .ok (.iconst 0, 1) := by decide +kernel
theorem d11_43 : decode prog_60_method_9_code 43 = .ok (.ireturn, 1) := by decide +kernel
theorem d12_0 : decode jdk_38_method_25_code 0 = .ok (.aload_n 0, 1) := by decide +kernel
theorem d12_1 : decode jdk_38_method_25_code 1 = .ok (.dup, 1) := by decide +kernel
theorem d12_2 : decode jdk_38_method_25_code 2 = .ok (.getfield 63, 3) := by decide +kernel
theorem d12_5 : decode jdk_38_method_25_code 5 = .ok (.iconst 1, 1) := by decide +kernel
theorem d12_6 : decode jdk_38_method_25_code 6 = .ok (.iadd, 1) := by decide +kernel
theorem d12_7 : decode jdk_38_method_25_code 7 = .ok (.putfield 63, 3) := by decide +kernel
theorem d12_10 : decode jdk_38_method_25_code 10 = .ok (.aload_n 0, 1) := by decide +kernel
theorem d12_11 : decode jdk_38_method_25_code 11 = .ok (.aload_n 1, 1) := by decide +kernel
theorem d12_12 : decode jdk_38_method_25_code 12 = .ok (.aload_n 0, 1) := by decide +kernel
theorem d12_13 : decode jdk_38_method_25_code 13 = .ok (.getfield 9, 3) := by decide +kernel
theorem d12_16 : decode jdk_38_method_25_code 16 = .ok (.aload_n 0, 1) := by decide +kernel
theorem d12_17 : decode jdk_38_method_25_code 17 = .ok (.getfield 48, 3) := by decide +kernel
theorem d12_20 : decode jdk_38_method_25_code 20 = .ok (.invokevirtual 131, 3) := by decide +kernel
theorem d12_23 : decode jdk_38_method_25_code 23 = .ok (.iconst 1, 1) := by decide +kernel
theorem d12_24 : decode jdk_38_method_25_code 24 = .ok (.ireturn, 1) := by decide +kernel
theorem d13_0 : decode jdk_38_method_24_code 0 = .ok (.iload_n 3, 1) := by decide +kernel
theorem d13_1 : decode jdk_38_method_24_code 1 = .ok (.aload_n 2, 1) := by decide +kernel
theorem d13_2 : decode jdk_38_method_24_code 2 = .ok (.arraylength, 1) := by decide +kernel
theorem d13_3 : decode jdk_38_method_24_code 3 = .ok (.if_icmp .ne 8, 3) := by decide +kernel
theorem d13_6 : decode jdk_38_method_24_code 6 = .ok (.aload_n 0, 1) := by decide +kernel
theorem d13_7 : decode jdk_38_method_24_code 7 = .ok (.invokevirtual 129, 3) := by decide +kernel
theorem d13_10 : decode jdk_38_method_24_code 10 = .ok (.astore_n 2, 1) := by decide +kernel
theorem d13_11 : decode jdk_38_method_24_code 11 = .ok (.aload_n 2, 1) := by decide +kernel
theorem d13_12 : decode jdk_38_method_24_code 12 = .ok (.iload_n 3, 1) := by decide +kernel
theorem d13_13 : decode jdk_38_method_24_code 13 = .ok (.aload_n 1, 1) := by decide +kernel
theorem d13_14 : decode jdk_38_method_24_code 14 = .ok (.aastore, 1) := by decide +kernel
theorem d13_15 : decode jdk_38_method_24_code 15 = .ok (.aload_n 0, 1) := by decide +kernel
theorem d13_16 : decode jdk_38_method_24_code 16 = .ok (.iload_n 3, 1) := by decide +kernel
theorem d13_17 : decode jdk_38_method_24_code 17 = .ok (.iconst 1, 1) := by decide +kernel
theorem d13_18 : decode jdk_38_method_24_code 18 = .ok (.iadd, 1) := by decide +kernel
theorem d13_19 : decode jdk_38_method_24_code 19 = .ok (.putfield 48, 3) := by decide +kernel
theorem d13_22 : decode jdk_38_method_24_code 22 = .ok (.return_, 1) := by decide +kernel
theorem d14_0 : decode jdk_38_method_7_code 0 = .ok (.aload_n 0, 1) := by decide +kernel
theorem d14_1 : decode jdk_38_method_7_code 1 = .ok (.aload_n 0, 1) := by decide +kernel
theorem d14_2 : decode jdk_38_method_7_code 2 = .ok (.getfield 48, 3) := by decide +kernel
theorem d14_5 : decode jdk_38_method_7_code 5 = .ok (.iconst 1, 1) := by decide +kernel
theorem d14_6 : decode jdk_38_method_7_code 6 = .ok (.iadd, 1) := by decide +kernel
theorem d14_7 : decode jdk_38_method_7_code 7 = .ok (.invokevirtual 69, 3) := by decide +kernel
theorem d14_10 : decode jdk_38_method_7_code 10 = .ok (.areturn, 1) := by decide +kernel
theorem d15_0 : decode jdk_38_method_6_code 0 = .ok (.aload_n 0, 1) := by decide +kernel
theorem d15_1 : decode jdk_38_method_6_code 1 = .ok (.getfield 9, 3) := by decide +kernel
theorem d15_4 : decode jdk_38_method_6_code 4 = .ok (.arraylength, 1) := by decide +kernel
theorem d15_5 : decode jdk_38_method_6_code 5 = .ok (.istore_n 2, 1) := by decide +kernel
theorem d15_6 : decode jdk_38_method_6_code 6 = .ok (.iload_n 2, 1) := by decide +kernel
theorem d15_7 : decode jdk_38_method_6_code 7 = .ok (.ifCond .gt 13, 3) := by decide +kernel
theorem d15_10 : decode jdk_38_method_6_code 10 = .ok (.aload_n 0, 1) := by decide +kernel
theorem d15_11 : decode jdk_38_method_6_code 11 = .ok (.getfield 9, 3) := by decide +kernel
theorem d15_14 : decode jdk_38_method_6_code 14 = .ok (.getstatic 39, 3) := by decide +kernel
theorem d15_17 : decode jdk_38_method_6_code 17 = .ok (.if_acmp .eq 28, 3) := by decide +kernel
theorem d15_20 : decode jdk_38_method_6_code 20 = .ok (.iload_n 2, 1) := by decide +kernel
theorem d15_21 : decode jdk_38_method_6_code 21 = .ok (.iload_n 1, 1) := by decide +kernel
theorem d15_22 : decode jdk_38_method_6_code 22 = .ok (.iload_n 2, 1) := by decide +kernel
theorem d15_23 : decode jdk_38_method_6_code 23 = .ok (.isub, 1) := by decide +kernel
theorem d15_24 : decode jdk_38_method_6_code 24 = .ok (.iload_n 2, 1) := by decide +kernel
theorem d15_25 : decode jdk_38_method_6_code 25 = .ok (.iconst 1, 1) := by decide +kernel
theorem d15_26 : decode jdk_38_method_6_code 26 = .ok (.ishr, 1) := by decide +kernel
theorem d15_27 : decode jdk_38_method_6_code 27 = .ok (.invokestatic 73, 3) := by decide +kernel
theorem d15_30 : decode jdk_38_method_6_code 30 = .ok (.istore_n 3, 1) := by decide +kernel
theorem d15_31 : decode jdk_38_method_6_code 31 = .ok (.aload_n 0, 1) := by decide +kernel
theorem d15_32 : decode jdk_38_method_6_code 32 = .ok (.aload_n 0, 1) := by decide +kernel
theorem d15_33 : decode jdk_38_method_6_code 33 = .ok (.getfield 9, 3) := by decide +kernel
theorem d15_36 : decode jdk_38_method_6_code 36 = .ok (.iload_n 3, 1) := by decide +kernel
theorem d15_37 : decode jdk_38_method_6_code 37 = .ok (.invokestatic 66, 3) := by decide +kernel
theorem d15_40 : decode jdk_38_method_6_code 40 = .ok (.dup_x1, 1) := by decide +kernel
theorem d15_41 : decode jdk_38_method_6_code 41 = .ok (.putfield 9, 3) := by decide +kernel
theorem d15_44 : decode jdk_38_method_6_code 44 = .ok (.areturn, 1) := by decide +kernel
theorem d15_45 : decode jdk_38_method_6_code 45 = .ok (.aload_n 0, 1) := by decide +kernel
theorem d15_46 : decode jdk_38_method_6_code 46 = .ok (.bipush 10, 2) := by decide +kernel
theorem d15_48 : decode jdk_38_method_6_code 48 = .ok (.iload_n 1, 1) := by decide +kernel
theorem d15_49 : decode jdk_38_method_6_code 49 = .ok (.invokestatic 79, 3) := by decide +kernel
theorem d15_52 : decode jdk_38_method_6_code 52 = .ok (.anewarray 7, 3) := by decide +kernel
theorem d15_55 : decode jdk_38_method_6_code 55 = .ok (.dup_x1, 1) := by decide +kernel
theorem d15_56 : decode jdk_38_method_6_code 56 = .ok (.putfield 9, 3) := by decide +kernel
theorem d15_59 : decode jdk_38_method_6_code 59 = .ok (.areturn, 1) := by decide +kernel
theorem d16_0 : decode jdk_29_method_65_code 0 = .ok (.iload_n 0, 1) := by decide +kernel
theorem d16_1 : decode jdk_29_method_65_code 1 = .ok (.iload_n 1, 1) := by decide +kernel
theorem d16_2 : decode jdk_29_method_65_code 2 = .ok (.if_icmp .lt 7, 3) := by decide +kernel
theorem d16_5 : decode jdk_29_method_65_code 5 = .ok (.iload_n 0, 1) := by decide +kernel
theorem d16_6 : decode jdk_29_method_65_code 6 = .ok (.goto 4, 3) := by decide +kernel
theorem d16_9 : decode jdk_29_method_65_code 9 = .ok (.iload_n 1, 1) := by decide +kernel
theorem d16_10 : decode jdk_29_method_65_code 10 = .ok (.ireturn, 1) := by decide +kernel
theorem d17_0 : decode prog_99_method_1_code 0 = .ok (.aload_n 0, 1) := by decide +kernel
theorem d17_1 : decode prog_99_method_1_code 1 = .ok (.invokespecial 1, 3) := by decide +kernel
theorem d17_4 : decode prog_99_method_1_code 4 = .ok (.aload_n 0, 1) := by decide +kernel
theorem d17_5 : decode prog_99_method_1_code 5 = .ok (.aload_n 1, 1) := by decide +kernel
theorem d17_6 : decode prog_99_method_1_code 6 = .ok (.putfield 7, 3) := by decide +kernel
theorem d17_9 : decode prog_99_method_1_code 9 = .ok (.aload_n 0, 1) := by decide +kernel
theorem d17_10 : decode prog_99_method_1_code 10 = .ok (.aload_n 2, 1) := by decide +kernel
theorem d17_11 : decode prog_99_method_1_code 11 = .ok (.putfield 13, 3) := by decide +kernel
theorem d17_14 : decode prog_99_method_1_code 14 = .ok (.return_, 1) := by decide +kernel
theorem pd_0 : parseMethodDescriptor "(C)Z" = some ⟨[.char], some .boolean⟩ := by decide +kernel
theorem pd_1 : parseMethodDescriptor "(C)[B" = some ⟨[.char], some (.array .byte)⟩ := by decide +kernel
theorem pd_2 : parseMethodDescriptor "([BB)V" = some ⟨[(.array .byte), .byte], none⟩ := by decide +kernel
theorem pd_3 : parseMethodDescriptor "()V" = some ⟨[], none⟩ := by decide +kernel
theorem pd_4 : parseMethodDescriptor "(II)I" = some ⟨[.int, .int], some .int⟩ := by decide +kernel
theorem pd_5 : parseMethodDescriptor "(I)[Ljava/lang/Object;" = some ⟨[.int], some (.array (.object "java/lang/Object"))⟩ := by decide +kernel
theorem pd_6 : parseMethodDescriptor "()[Ljava/lang/Object;" = some ⟨[], some (.array (.object "java/lang/Object"))⟩ := by decide +kernel
theorem pd_7 : parseMethodDescriptor "(Ljava/lang/Object;[Ljava/lang/Object;I)V" = some ⟨[(.object "java/lang/Object"), (.array (.object "java/lang/Object")), .int], none⟩ := by decide +kernel
theorem pd_8 : parseMethodDescriptor "(C)Ljava/lang/String;" = some ⟨[.char], some (.object "java/lang/String")⟩ := by decide +kernel
theorem pd_9 : parseMethodDescriptor "(Ljava/lang/Object;)Z" = some ⟨[(.object "java/lang/Object")], some .boolean⟩ := by decide +kernel
theorem pd_10 : parseMethodDescriptor "(Ljava/util/UUID;Ljava/util/List;)V" = some ⟨[(.object "java/util/UUID"), (.object "java/util/List")], none⟩ := by decide +kernel
theorem pd_11 : parseMethodDescriptor "(Ljava/lang/String;Ljava/lang/String;ILjava/util/List;Ljava/lang/String;Ljava/lang/String;)V" = some ⟨[(.object "java/lang/String"), (.object "java/lang/String"), .int, (.object "java/util/List"), (.object "java/lang/String"), (.object "java/lang/String")], none⟩ := by decide +kernel
theorem pd_12 : parseMethodDescriptor "(Ljava/lang/String;Ljava/lang/String;IZLcom/example/durable_coordinator/durablecoordinator/protocol/ConsumerGroupHeartbeatRequest$Member;Ljava/util/List;)V" = some ⟨[(.object "java/lang/String"), (.object "java/lang/String"), .int, .boolean, (.object "com/example/durable_coordinator/durablecoordinator/protocol/ConsumerGroupHeartbeatRequest$Member"), (.object "java/util/List")], none⟩ := by decide +kernel
theorem pd_13 : parseMethodDescriptor "()Z" = some ⟨[], some .boolean⟩ := by decide +kernel

theorem own_255 (x : Int32) : ¬ (255 : Int32) < x &&& 255 := by
  have h := Jvm.ShelfD.StrBits.and255 x
  rw [Int32.lt_iff_toInt_lt]
  have e : (x &&& 255).toInt = (x &&& 255).toUInt32.toNat := by
    have lt : (x &&& 255).toUInt32.toNat < 256 := by rw [h]; omega
    have := BitVec.toInt_eq_toNat_cond (x &&& 255).toBitVec
    rw [if_pos (show 2 * (x &&& 255).toBitVec.toNat < 2 ^ 32 by have : (x &&& 255).toBitVec.toNat < 256 := lt; omega)] at this
    exact this
  rw [e, h]
  show ¬ (255 : Int) < _
  omega
theorem own_arr0 {s : State} {args : Array Value} {t : Term} {a : Addr} {ty : FieldType} (ev : t.eval args s none [] s = some (.ref a)) (q : (Jvm.Cond.arrayOf t ty).value args s none s [] = some true) (hl : (Jvm.Term.length t).eval args s none [] s = some (.int 0)) : VArr s s.heap a ty [] := by
  obtain ⟨c, A⟩ := Arr.start ev q
  obtain ⟨b, cell, e1, e2, e3⟩ := Term.length_spec hl
  cases ev.symm.trans e1
  have hc : cell = c := by have := A.fin (Vm.Alike.refl _); rw [this] at e2; exact (Option.some.inj e2).symm
  subst hc
  have hsz : cell.slots.size < 2 ^ 31 := by
    simp only [Term.eval, ev, Option.bind_eq_bind, Option.bind_some, e2] at hl
    apply Decidable.byContradiction; intro r; rw [if_neg r] at hl; cases hl
  have en : cell.slots.size.toInt32 = 0 := (Value.int.inj e3).symm
  have hs : cell.slots.size = 0 := by have := len_toInt hsz; rw [en] at this; have z : (0 : Int32).toInt = 0 := rfl; omega
  exact ⟨by decide, cell.cls, cell, A, rfl, by rw [hs]; rfl, by decide, fun k hk => by omega, fun k hk => by omega⟩
theorem own_eqI {s : State} {args : Array Value} {a : Term} {z : Int32} (q : (Jvm.Cond.eq a (Jvm.Term.int z)).value args s none s [] = some true) : a.eval args s none [] s = some (.int z) := by
  simp only [Cond.value, Term.eval] at q
  cases ha : a.eval args s none [] s with
  | none => simp [ha] at q
  | some v => cases v <;> simp [ha] at q ⊢; exact q

theorem ef_rmCE (m : MethodId) (x0 : Int32) : entryFrame m #[(.int x0)] 1 = mkF m 0 #[.val (.int x0)] [] := by first | (simp [entryFrame, mkF, argsToLocals, Value.category]; done) | rfl
set_option maxRecDepth 65536 in
set_option maxHeartbeats 40000000 in
theorem rmCE (l : Launch) (Z : State) (a0 : Array Value) (hw : ∀ d ∈ tables_1, d.before a0 Z = true) (ch : Int32) (h0 : Heap) (hc : ¬ (255 : Int32) < ch) :
    Met l Z (⟨"java/lang/StringLatin1", "canEncode", "(C)Z"⟩ : MethodName) jdk_43_method_3_code 1 (some .boolean) ({ frames := 0, cells := 0, slots := 0, locals := 0 } : Room) #[(.int ch)] h0 (fun v h L => v = some (.int 1) ∧ L = [] ∧ h = h0) := by
  refine Met.intro (by decide +kernel) ?_
  intro p e s m below meth c T0 hx hby hml hown hnm hret hlk hZ X0 e0
  refine Go.cast (ef_rmCE m ch) ?_
  refine Go.back (f' := (mkF m 1 #[.val (.int ch)] [(.int ch)])) (fun _ k => XS.iloadN X0.here hx rfl (hb hby d2_0) rfl k) ?_
  refine Go.back (f' := (mkF m 4 #[.val (.int ch)] [(.int (255 : Int32)), (.int ch)])) (fun _ k => XS.sipush X0.here hx rfl (hb hby d2_1) k) ?_
  refine Go.back (f' := (mkF m 7 #[.val (.int ch)] [])) (fun _ k => XS.icmpNo X0.here hx rfl (hb hby d2_4) rfl (flt hc).2.2.1 k) ?_
  refine Go.back (f' := (mkF m 8 #[.val (.int ch)] [(.int (1 : Int32))])) (fun _ k => XS.iconst X0.here hx rfl (hb hby d2_7) k) ?_
  refine Go.back (f' := (mkF m 12 #[.val (.int ch)] [(.int (1 : Int32))])) (fun _ k => XS.goto X0.here hx rfl (pc0 := 8) (pc' := 12) rfl (hb hby d2_8) (by decide) (by decide) k) ?_
  exact Go.retN X0 hx (t := .boolean) hret (by simp) (w := (1 : Int32)) rfl hlk (hb hby d2_12) (by (try rw [e0]); exact ⟨rfl, rfl, rfl⟩) (Nat.zero_le _) (Nat.zero_le _)
theorem ef_rmTB (m : MethodId) (x0 : Int32) : entryFrame m #[(.int x0)] 1 = mkF m 0 #[.val (.int x0)] [] := by first | (simp [entryFrame, mkF, argsToLocals, Value.category]; done) | rfl
set_option maxRecDepth 65536 in
set_option maxHeartbeats 40000000 in
theorem rmTB (l : Launch) (Z : State) (a0 : Array Value) (hw : ∀ d ∈ tables_1, d.before a0 Z = true) (ch : Int32) (n0 : Nat) (h0 : Heap) (Z0 : n0 ≤ h0.size) :
    Met l Z (⟨"java/lang/StringLatin1", "toBytes", "(C)[B"⟩ : MethodName) jdk_43_method_46_code 1 (some (.array .byte)) ({ frames := 0, cells := 1, slots := 1, locals := 0 } : Room) #[(.int ch)] h0 (fun v h L => ∃ ba, v = some (.ref ba) ∧ Chg n0 h0 h [] L) := by
  refine Met.intro (by decide +kernel) ?_
  intro p e s m below meth c T0 hx hby hml hown hnm hret hlk hZ X0 e0
  refine Go.cast (ef_rmTB m ch) ?_
  have K0 : Chg n0 h0 h0 [] [] := Chg.refl Z0
  refine Go.back (f' := (mkF m 1 #[.val (.int ch)] [(.int (1 : Int32))])) (fun _ k => XS.iconst X0.here hx rfl (hb hby d3_0) k) ?_
  refine Go.newA X0 hx hZ (hw _ (List.mem_of_getElem? (i := 14) rfl)) e0 (hb hby d3_1) (i := 1) rfl (cap := 1) (by decide) (by decide) (by decide) (by decide) ?_
  intro T1 h1 ba q1 X1 e1 E1 V1
  have V1 : VArr Z h1 ba .byte (List.replicate 1 (.int 0)) := V1
  have sz_ba := K0.at q1
  have g_ba := K0.ge sz_ba
  have K_2 := K0.ext E1
  show GoG _ _ _ _ _ (mkF m 3 #[.val (.int ch)] [(.ref ba)])
  refine Go.back (f' := (mkF m 4 #[.val (.int ch)] [(.ref ba), (.ref ba)])) (fun _ k => XS.dup X1.here hx rfl (hb hby d3_3) rfl rfl k) ?_
  refine Go.back (f' := (mkF m 5 #[.val (.int ch)] [(.int (0 : Int32)), (.ref ba), (.ref ba)])) (fun _ k => XS.iconst X1.here hx rfl (hb hby d3_4) k) ?_
  refine Go.back (f' := (mkF m 6 #[.val (.int ch)] [(.int ch), (.int (0 : Int32)), (.ref ba), (.ref ba)])) (fun _ k => XS.iloadN X1.here hx rfl (hb hby d3_5) rfl k) ?_
  refine Go.back (f' := (mkF m 7 #[.val (.int ch)] [(.int (ch.toInt8.toInt32)), (.int (0 : Int32)), (.ref ba), (.ref ba)])) (fun _ k => XS.i2b X1.here hx rfl (hb hby d3_6) rfl k) ?_
  refine Go.stB V1 X1 hx hZ e1 (hb hby d3_7) (i := 0) rfl (by simp) ?_
  intro T3 h3 X3 e3 W3 V3
  have K_4 := K_2.wr W3 (Or.inr sz_ba) g_ba
  show GoG _ _ _ _ _ (mkF m 8 #[.val (.int ch)] [(.ref ba)])
  exact Go.retA X3 hx hret hlk (hb hby d3_8) rfl rfl (by (try rw [e3]); exact ⟨ba, rfl, K_4⟩) (by decide) (by decide)
theorem ef_rmSI (m : MethodId) (x0 : Addr) (x1 : Addr) (x2 : Int32) : entryFrame m #[(.ref x0), (.ref x1), (.int x2)] 3 = mkF m 0 #[.val (.ref x0), .val (.ref x1), .val (.int x2)] [] := by first | (simp [entryFrame, mkF, argsToLocals, Value.category]; done) | rfl
set_option maxRecDepth 65536 in
set_option maxHeartbeats 40000000 in
theorem rmSI (l : Launch) (Z : State) (a0 : Array Value) (hw : ∀ d ∈ tables_1, d.before a0 Z = true) (sa ba : Addr) (n0 : Nat) (h0 : Heap) (Z0 : n0 ≤ h0.size) (Ex : Exa Z h0 sa "java/lang/String") (g_sa : n0 ≤ sa) (F_value : Fld Z h0 sa "java/lang/String" "value" "[B" .null) (F_coder : Fld Z h0 sa "java/lang/String" "coder" "B" (.int (0 : Int32)))  :
    Met l Z (⟨"java/lang/String", "<init>", "([BB)V"⟩ : MethodName) jdk_42_method_151_code 3 none ({ frames := 1, cells := 0, slots := 0, locals := 16 } : Room) #[(.ref sa), (.ref ba), (.int (0 : Int32))] h0 (fun v h L => v = none ∧ Chg n0 h0 h [sa] L) := by
  refine Met.intro (by decide +kernel) ?_
  intro p e s m below meth c T0 hx hby hml hown hnm hret hlk hZ X0 e0
  refine Go.cast (ef_rmSI m sa ba (0 : Int32)) ?_
  have K0 : Chg n0 h0 h0 [sa] [] := Chg.refl Z0
  refine Go.back (f' := (mkF m 1 #[.val (.ref sa), .val (.ref ba), .val (.int (0 : Int32))] [(.ref sa)])) (fun _ k => XS.aloadN X0.here hx rfl (hb hby d4_0) rfl rfl k) ?_
  obtain ⟨T5, X5, e5, st5⟩ := initO X0 hx hZ hown (hw _ (List.mem_of_getElem? (i := 19) rfl)) (hw _ (List.mem_of_getElem? (i := 20) rfl)) (hw _ (List.mem_of_getElem? (i := 21) rfl)) e0 (g := (mkF m 1 #[.val (.ref sa), .val (.ref ba), .val (.int (0 : Int32))] [(.ref sa)])) rfl (by rw [hml]; rfl) rfl (hb hby d4_1) (by decide) (W := 0) (by show 2 * 0 + _ ≤ _; exact Nat.le_of_eq rfl) (by decide)
  refine Go.back (f' := (mkF m 4 #[.val (.ref sa), .val (.ref ba), .val (.int (0 : Int32))] [])) st5 ?_
  refine Go.back (f' := (mkF m 5 #[.val (.ref sa), .val (.ref ba), .val (.int (0 : Int32))] [(.ref sa)])) (fun _ k => XS.aloadN X5.here hx rfl (hb hby d4_4) rfl rfl k) ?_
  refine Go.back (f' := (mkF m 6 #[.val (.ref sa), .val (.ref ba), .val (.int (0 : Int32))] [(.ref ba), (.ref sa)])) (fun _ k => XS.aloadN X5.here hx rfl (hb hby d4_5) rfl rfl k) ?_
  obtain ⟨T6, h6, X6, e6, W6, st6⟩ := putF X5 hx hZ hown (host := "") (Or.inl (hw _ (List.mem_of_getElem? (i := 22) rfl))) Via.refl e5 F_value Ex (Or.inr ⟨(hw _ (List.mem_of_getElem? (i := 23) rfl)), rfl, hnm⟩) (hw _ (List.mem_of_getElem? (i := 10) rfl)) (ty := (.array .byte)) (by decide) rfl rfl (g := (mkF m 6 #[.val (.ref sa), .val (.ref ba), .val (.int (0 : Int32))] [(.ref ba), (.ref sa)])) rfl rfl (hb hby d4_6)
  refine Go.back (f' := (mkF m 9 #[.val (.ref sa), .val (.ref ba), .val (.int (0 : Int32))] [])) st6 ?_
  have Ex_7 := Ex.wr W6
  have Fl_8 := F_value.same W6
  have Fl_9 := F_coder.other W6 (Or.inr (slot_ne (Or.inr (hw _ (List.mem_of_getElem? (i := 25) rfl))) (Or.inr (hw _ (List.mem_of_getElem? (i := 23) rfl))) (by decide) (t := .byte) (t' := (.array .byte)) (by decide) (by decide)))
  have K_10 := K0.wr W6 (Or.inl (List.mem_of_getElem? (i := 0) rfl)) g_sa
  refine Go.back (f' := (mkF m 10 #[.val (.ref sa), .val (.ref ba), .val (.int (0 : Int32))] [(.ref sa)])) (fun _ k => XS.aloadN X6.here hx rfl (hb hby d4_9) rfl rfl k) ?_
  refine Go.back (f' := (mkF m 11 #[.val (.ref sa), .val (.ref ba), .val (.int (0 : Int32))] [(.int (0 : Int32)), (.ref sa)])) (fun _ k => XS.iloadN X6.here hx rfl (hb hby d4_10) rfl k) ?_
  obtain ⟨T11, h11, X11, e11, W11, st11⟩ := putFN X6 hx hZ hown (hw _ (List.mem_of_getElem? (i := 24) rfl)) Via.refl e6 Fl_9 Ex_7 (Or.inr ⟨(hw _ (List.mem_of_getElem? (i := 25) rfl)), rfl, hnm⟩) (hw _ (List.mem_of_getElem? (i := 10) rfl)) (ty := .byte) (v' := (.int (0 : Int32))) (by decide) rfl rfl (g := (mkF m 11 #[.val (.ref sa), .val (.ref ba), .val (.int (0 : Int32))] [(.int (0 : Int32)), (.ref sa)])) rfl rfl (hb hby d4_11)
  refine Go.back (f' := (mkF m 14 #[.val (.ref sa), .val (.ref ba), .val (.int (0 : Int32))] [])) st11 ?_
  have Ex_12 := Ex_7.wr W11
  have Fl_13 := Fl_8.other W11 (Or.inr (slot_ne (Or.inr (hw _ (List.mem_of_getElem? (i := 23) rfl))) (Or.inr (hw _ (List.mem_of_getElem? (i := 25) rfl))) (by decide) (t := (.array .byte)) (t' := .byte) (by decide) (by decide)))
  have Fl_14 := Fl_9.same W11
  have K_15 := K_10.wr W11 (Or.inl (List.mem_of_getElem? (i := 0) rfl)) g_sa
  exact Go.ret0 X11 hx hret hlk (hb hby d4_14) (by (try rw [e11]); exact ⟨rfl, K_15⟩) (Nat.zero_le _) (Nat.zero_le _)
theorem ef_rmVO (m : MethodId) (x0 : Int32) : entryFrame m #[(.int x0)] 1 = mkF m 0 #[.val (.int x0)] [] := by first | (simp [entryFrame, mkF, argsToLocals, Value.category]; done) | rfl
set_option maxRecDepth 65536 in
set_option maxHeartbeats 40000000 in
theorem rmVO (l : Launch) (Z : State) (a0 : Array Value) (hw : ∀ d ∈ tables_1, d.before a0 Z = true) (ch cz : Int32) (n0 : Nat) (h0 : Heap) (Z0 : n0 ≤ h0.size) (SC : Sta Z h0 "java/lang/String" "COMPACT_STRINGS" "Z" (.int cz)) (hcz : ¬ cz = 0) (hc : ¬ (255 : Int32) < ch) :
    Met l Z (⟨"java/lang/String", "valueOf", "(C)Ljava/lang/String;"⟩ : MethodName) jdk_42_method_139_code 1 (some (.object "java/lang/String")) ({ frames := 2, cells := 2, slots := 5, locals := 48 } : Room) #[(.int ch)] h0 (fun v h L => ∃ sa, v = some (.ref sa) ∧ Chg n0 h0 h [] L ∧ Exa Z h sa "java/lang/String" ∧ h0.size ≤ sa) := by
  refine Met.intro (by decide +kernel) ?_
  intro p e s m below meth c T0 hx hby hml hown hnm hret hlk hZ X0 e0
  refine Go.cast (ef_rmVO m ch) ?_
  have K0 : Chg n0 h0 h0 [] [] := Chg.refl Z0
  obtain ⟨T16, X16, e16, st16⟩ := getS2 X0 hx hZ hown (host := "") (Or.inl (hw _ (List.mem_of_getElem? (i := 4) rfl))) Via.refl e0 SC (g := (mkF m 0 #[.val (.int ch)] [])) rfl (hb hby d1_0)
  refine Go.back (f' := (mkF m 3 #[.val (.int ch)] [(.int cz)])) st16 ?_
  refine Go.back (f' := (mkF m 6 #[.val (.int ch)] [])) (fun _ k => XS.ifNo X16.here hx rfl (hb hby d1_3) rfl ((if0 _ _).trans (feq hcz).1) k) ?_
  refine Go.back (f' := (mkF m 7 #[.val (.int ch)] [(.int ch)])) (fun _ k => XS.iloadN X16.here hx rfl (hb hby d1_6) rfl k) ?_
  refine Go.callS X16 hx hZ hown (hw _ (List.mem_of_getElem? (i := 5) rfl)) (hw _ (List.mem_of_getElem? (i := 6) rfl)) (hw _ (List.mem_of_getElem? (i := 7) rfl)) (hw _ (List.mem_of_getElem? (i := 8) rfl)) (by decide) e16 (argsL := [(.int ch)]) (rest := []) (rmCE l Z a0 hw ch h0 hc) (lenOf pd_0 rfl) rfl (by rw [hml]; rfl) (W := 0) (Nat.le_of_eq rfl) (hb hby d1_7) (by decide) (by decide) (by decide) (by decide) ?_
  intro v17 T17 L17 X17 hQ17
  obtain ⟨rfl, rfl, hh17⟩ := hQ17
  rw [List.append_nil] at X17
  show GoG _ _ _ _ _ (mkF m 10 #[.val (.int ch)] [(.int (1 : Int32))])
  refine Go.back (f' := (mkF m 13 #[.val (.int ch)] [])) (fun _ k => XS.ifNo X17.here hx rfl (hb hby d1_10) rfl ((if0 _ _).trans (feq (by decide)).1) k) ?_
  obtain ⟨T18, h18, X18, e18, E18, A18, D18, -, st18⟩ := newO X17 hx hZ hown (hw _ (List.mem_of_getElem? (i := 9) rfl)) (hw _ (List.mem_of_getElem? (i := 10) rfl)) (hw _ (List.mem_of_getElem? (i := 2) rfl)) hh17 (g := (mkF m 13 #[.val (.int ch)] [])) rfl (hb hby d1_13) (by decide) (by decide)
  obtain ⟨sa, q18⟩ : ∃ z, z = h0.size := ⟨_, rfl⟩
  rw [← q18] at A18 D18 st18
  have sz_sa := K0.at q18
  have g_sa := K0.ge sz_sa
  have St_19 := SC.ext E18
  have K_20 := K0.ext E18
  have Fl_21 : Fld Z h18 sa "java/lang/String" "value" "[B" .null := D18 (Or.inr (hw _ (List.mem_of_getElem? (i := 23) rfl))) (ty := (.array .byte)) (by decide)
  have Fl_22 : Fld Z h18 sa "java/lang/String" "coder" "B" (.int (0 : Int32)) := D18 (Or.inr (hw _ (List.mem_of_getElem? (i := 25) rfl))) (ty := .byte) (by decide)
  refine Go.back (f' := (mkF m 16 #[.val (.int ch)] [(.ref sa)])) st18 ?_
  refine Go.back (f' := (mkF m 17 #[.val (.int ch)] [(.ref sa), (.ref sa)])) (fun _ k => XS.dup X18.here hx rfl (hb hby d1_16) rfl rfl k) ?_
  refine Go.back (f' := (mkF m 18 #[.val (.int ch)] [(.int ch), (.ref sa), (.ref sa)])) (fun _ k => XS.iloadN X18.here hx rfl (hb hby d1_17) rfl k) ?_
  refine Go.callS X18 hx hZ hown (hw _ (List.mem_of_getElem? (i := 11) rfl)) (hw _ (List.mem_of_getElem? (i := 12) rfl)) (hw _ (List.mem_of_getElem? (i := 7) rfl)) (hw _ (List.mem_of_getElem? (i := 13) rfl)) (by decide) e18 (argsL := [(.int ch)]) (rest := [(.ref sa), (.ref sa)]) (rmTB l Z a0 hw ch n0 h18 K_20.size) (lenOf pd_1 rfl) rfl (by rw [hml]; rfl) (W := 2) (Nat.le_of_eq rfl) (hb hby d1_18) (by decide) (by decide) (by decide) (by decide) ?_
  intro v23 T23 L23 X23 hQ23
  obtain ⟨ba, rfl, C23⟩ := hQ23
  have St_24 := staKeep St_19 C23.keep own_ns0
  have Ex_25 := A18.keep C23.keep
  have Fl_26 := Fl_21.keep C23.keep nin0
  have Fl_27 := Fl_22.keep C23.keep nin0
  have K_28 := K_20.call C23 all0
  show GoG _ _ _ _ _ (mkF m 21 #[.val (.int ch)] [(.ref ba), (.ref sa), (.ref sa)])
  refine Go.back (f' := (mkF m 22 #[.val (.int ch)] [(.int (0 : Int32)), (.ref ba), (.ref sa), (.ref sa)])) (fun _ k => XS.iconst X23.here hx rfl (hb hby d1_21) k) ?_
  refine Go.callI X23 hx hZ rfl hown (hw _ (List.mem_of_getElem? (i := 15) rfl)) (hw _ (List.mem_of_getElem? (i := 16) rfl)) (hw _ (List.mem_of_getElem? (i := 2) rfl)) (hw _ (List.mem_of_getElem? (i := 18) rfl)) (by decide) rfl (a := sa) (argsL := [(.ref ba), (.int (0 : Int32))]) (rest := [(.ref sa)]) (rmSI l Z a0 hw sa ba n0 T23.heap K_28.size Ex_25 g_sa Fl_26 Fl_27) (lenOf pd_2 rfl) rfl (by rw [hml]; rfl) (W := 1) (Nat.le_of_eq rfl) (hb hby d1_22) (by decide) (by decide) (by decide) (by decide) ?_
  intro v29 T29 L29 X29 hQ29
  obtain ⟨rfl, C29⟩ := hQ29
  have St_30 := staKeep St_24 C29.keep (own_nsS (own_exaNS Ex_25) own_ns0)
  have Ex_31 := Ex_25.keep C29.keep
  have K_32 := K_28.call C29 (allS (Or.inr sz_sa) all0)
  show GoG _ _ _ _ _ (mkF m 25 #[.val (.int ch)] [(.ref sa)])
  exact Go.retA X29 hx hret hlk (hb hby d1_25) rfl rfl ⟨sa, rfl, K_32, Ex_31, sz_sa⟩ (by decide) (by decide)
theorem ef_rmABC (m : MethodId) (x0 : Addr) : entryFrame m #[(.ref x0)] 1 = mkF m 0 #[.val (.ref x0)] [] := by first | (simp [entryFrame, mkF, argsToLocals, Value.category]; done) | rfl
set_option maxRecDepth 65536 in
set_option maxHeartbeats 40000000 in
theorem rmABC (l : Launch) (Z : State) (a0 : Array Value) (hw : ∀ d ∈ tables_1, d.before a0 Z = true) (a : Addr) (h0 : Heap)  :
    Met l Z (⟨"java/util/AbstractCollection", "<init>", "()V"⟩ : MethodName) jdk_22_method_1_code 1 none ({ frames := 1, cells := 0, slots := 0, locals := 16 } : Room) #[(.ref a)] h0 (fun v h L => v = none ∧ L = [] ∧ h = h0) := by
  refine Met.intro (plainFor_of_name (by first | (simp [plainName, overriddenIn]; done) | decide +kernel)) ?_
  intro p e s m below meth c T0 hx hby hml hown hnm hret hlk hZ X0 e0
  refine Go.cast (ef_rmABC m a) ?_
  refine Go.back (f' := (mkF m 1 #[.val (.ref a)] [(.ref a)])) (fun _ k => XS.aloadN X0.here hx rfl (hb hby d8_0) rfl rfl k) ?_
  obtain ⟨T33, X33, e33, st33⟩ := initO X0 hx hZ hown (hw _ (List.mem_of_getElem? (i := 44) rfl)) (hw _ (List.mem_of_getElem? (i := 20) rfl)) (hw _ (List.mem_of_getElem? (i := 21) rfl)) e0 (g := (mkF m 1 #[.val (.ref a)] [(.ref a)])) rfl (by rw [hml]; rfl) rfl (hb hby d8_1) (by decide) (W := 0) (by show 2 * 0 + _ ≤ _; exact Nat.le_of_eq rfl) (by decide)
  refine Go.back (f' := (mkF m 4 #[.val (.ref a)] [])) st33 ?_
  exact Go.ret0 X33 hx hret hlk (hb hby d8_4) (by (try rw [e33]); exact ⟨rfl, rfl, rfl⟩) (Nat.zero_le _) (Nat.zero_le _)
theorem ef_rmABL (m : MethodId) (x0 : Addr) : entryFrame m #[(.ref x0)] 1 = mkF m 0 #[.val (.ref x0)] [] := by first | (simp [entryFrame, mkF, argsToLocals, Value.category]; done) | rfl
set_option maxRecDepth 65536 in
set_option maxHeartbeats 40000000 in
theorem rmABL (l : Launch) (Z : State) (a0 : Array Value) (hw : ∀ d ∈ tables_1, d.before a0 Z = true) (a : Addr) (n0 : Nat) (h0 : Heap) (Z0 : n0 ≤ h0.size) (Ex : Exa Z h0 a "java/util/ArrayList") (g_a : n0 ≤ a) (F_modCount : Fld Z h0 a "java/util/AbstractList" "modCount" "I" (.int (0 : Int32))) (F_elementData : Fld Z h0 a "java/util/ArrayList" "elementData" "[Ljava/lang/Object;" .null) (F_size : Fld Z h0 a "java/util/ArrayList" "size" "I" (.int (0 : Int32)))  :
    Met l Z (⟨"java/util/AbstractList", "<init>", "()V"⟩ : MethodName) jdk_39_method_1_code 1 none ({ frames := 2, cells := 0, slots := 0, locals := 32 } : Room) #[(.ref a)] h0 (fun v h L => v = none ∧ Chg n0 h0 h [a] L ∧ Fld Z h a "java/util/AbstractList" "modCount" "I" (.int (0 : Int32)) ∧ Fld Z h a "java/util/ArrayList" "elementData" "[Ljava/lang/Object;" .null ∧ Fld Z h a "java/util/ArrayList" "size" "I" (.int (0 : Int32))) := by
  refine Met.intro (plainFor_of_name (by first | (simp [plainName, overriddenIn]; done) | decide +kernel)) ?_
  intro p e s m below meth c T0 hx hby hml hown hnm hret hlk hZ X0 e0
  refine Go.cast (ef_rmABL m a) ?_
  have K0 : Chg n0 h0 h0 [a] [] := Chg.refl Z0
  refine Go.back (f' := (mkF m 1 #[.val (.ref a)] [(.ref a)])) (fun _ k => XS.aloadN X0.here hx rfl (hb hby d7_0) rfl rfl k) ?_
  refine Go.callI X0 hx hZ rfl hown (hw _ (List.mem_of_getElem? (i := 38) rfl)) (hw _ (List.mem_of_getElem? (i := 39) rfl)) (hw _ (List.mem_of_getElem? (i := 42) rfl)) (hw _ (List.mem_of_getElem? (i := 43) rfl)) (by decide) e0 (a := a) (argsL := []) (rest := []) (rmABC l Z a0 hw a h0) (lenOf pd_3 rfl) rfl (by rw [hml]; rfl) (W := 0) (Nat.le_of_eq rfl) (hb hby d7_1) (by decide) (by decide) (by decide) (by decide) ?_
  intro v34 T34 L34 X34 hQ34
  obtain ⟨rfl, rfl, hh34⟩ := hQ34
  rw [List.append_nil] at X34
  show GoG _ _ _ _ _ (mkF m 4 #[.val (.ref a)] [])
  refine Go.back (f' := (mkF m 5 #[.val (.ref a)] [(.ref a)])) (fun _ k => XS.aloadN X34.here hx rfl (hb hby d7_4) rfl rfl k) ?_
  refine Go.back (f' := (mkF m 6 #[.val (.ref a)] [(.int (0 : Int32)), (.ref a)])) (fun _ k => XS.iconst X34.here hx rfl (hb hby d7_5) k) ?_
  obtain ⟨T35, h35, X35, e35, W35, st35⟩ := putF X34 hx hZ hown (host := "") (Or.inl (hw _ (List.mem_of_getElem? (i := 45) rfl))) Via.refl hh34 F_modCount Ex (Or.inl (hw _ (List.mem_of_getElem? (i := 46) rfl))) (hw _ (List.mem_of_getElem? (i := 27) rfl)) (ty := .int) (by decide) rfl rfl (g := (mkF m 6 #[.val (.ref a)] [(.int (0 : Int32)), (.ref a)])) rfl rfl (hb hby d7_6)
  refine Go.back (f' := (mkF m 9 #[.val (.ref a)] [])) st35 ?_
  have Ex_36 := Ex.wr W35
  have Fl_37 := F_modCount.same W35
  have Fl_38 := F_elementData.other W35 (Or.inr (slot_ne (Or.inl (hw _ (List.mem_of_getElem? (i := 49) rfl))) (Or.inl (hw _ (List.mem_of_getElem? (i := 46) rfl))) (by decide) (t := (.array (.object "java/lang/Object"))) (t' := .int) (by decide) (by decide)))
  have Fl_39 := F_size.other W35 (Or.inr (slot_ne (Or.inl (hw _ (List.mem_of_getElem? (i := 102) rfl))) (Or.inl (hw _ (List.mem_of_getElem? (i := 46) rfl))) (by decide) (t := .int) (t' := .int) (by decide) (by decide)))
  have K_40 := K0.wr W35 (Or.inl (List.mem_of_getElem? (i := 0) rfl)) g_a
  exact Go.ret0 X35 hx hret hlk (hb hby d7_9) (by (try rw [e35]); exact ⟨rfl, K_40, Fl_37, Fl_38, Fl_39⟩) (Nat.zero_le _) (Nat.zero_le _)
theorem ef_rmALI (m : MethodId) (x0 : Addr) : entryFrame m #[(.ref x0)] 1 = mkF m 0 #[.val (.ref x0)] [] := by first | (simp [entryFrame, mkF, argsToLocals, Value.category]; done) | rfl
set_option maxRecDepth 65536 in
set_option maxHeartbeats 40000000 in
theorem rmALI (l : Launch) (Z : State) (a0 : Array Value) (hw : ∀ d ∈ tables_1, d.before a0 Z = true) (a de : Addr) (n0 : Nat) (h0 : Heap) (Z0 : n0 ≤ h0.size) (Ex : Exa Z h0 a "java/util/ArrayList") (g_a : n0 ≤ a) (F_modCount : Fld Z h0 a "java/util/AbstractList" "modCount" "I" (.int (0 : Int32))) (F_elementData : Fld Z h0 a "java/util/ArrayList" "elementData" "[Ljava/lang/Object;" .null) (F_size : Fld Z h0 a "java/util/ArrayList" "size" "I" (.int (0 : Int32))) (SD : Sta Z h0 "java/util/ArrayList" "DEFAULTCAPACITY_EMPTY_ELEMENTDATA" "[Ljava/lang/Object;" (.ref de))  :
    Met l Z (⟨"java/util/ArrayList", "<init>", "()V"⟩ : MethodName) jdk_38_method_2_code 1 none ({ frames := 3, cells := 0, slots := 0, locals := 48 } : Room) #[(.ref a)] h0 (fun v h L => v = none ∧ Chg n0 h0 h [a] L ∧ Fld Z h a "java/util/AbstractList" "modCount" "I" (.int (0 : Int32)) ∧ Fld Z h a "java/util/ArrayList" "elementData" "[Ljava/lang/Object;" (.ref de) ∧ Fld Z h a "java/util/ArrayList" "size" "I" (.int (0 : Int32))) := by
  refine Met.intro (plainFor_of_name (by first | (simp [plainName, overriddenIn]; done) | decide +kernel)) ?_
  intro p e s m below meth c T0 hx hby hml hown hnm hret hlk hZ X0 e0
  refine Go.cast (ef_rmALI m a) ?_
  have K0 : Chg n0 h0 h0 [a] [] := Chg.refl Z0
  refine Go.back (f' := (mkF m 1 #[.val (.ref a)] [(.ref a)])) (fun _ k => XS.aloadN X0.here hx rfl (hb hby d6_0) rfl rfl k) ?_
  refine Go.callI X0 hx hZ rfl hown (hw _ (List.mem_of_getElem? (i := 32) rfl)) (hw _ (List.mem_of_getElem? (i := 33) rfl)) (hw _ (List.mem_of_getElem? (i := 36) rfl)) (hw _ (List.mem_of_getElem? (i := 37) rfl)) (by decide) e0 (a := a) (argsL := []) (rest := []) (rmABL l Z a0 hw a n0 h0 Z0 Ex g_a F_modCount F_elementData F_size) (lenOf pd_3 rfl) rfl (by rw [hml]; rfl) (W := 0) (Nat.le_of_eq rfl) (hb hby d6_1) (by decide) (by decide) (by decide) (by decide) ?_
  intro v41 T41 L41 X41 hQ41
  obtain ⟨rfl, C41, G1_41, G2_41, G3_41⟩ := hQ41
  have Ex_42 := Ex.keep C41.keep
  have St_43 := staKeep SD C41.keep (own_nsS (own_exaNS Ex) own_ns0)
  have K_44 := K0.call C41 (allS (Or.inl (List.mem_of_getElem? (i := 0) rfl)) all0)
  show GoG _ _ _ _ _ (mkF m 4 #[.val (.ref a)] [])
  refine Go.back (f' := (mkF m 5 #[.val (.ref a)] [(.ref a)])) (fun _ k => XS.aloadN X41.here hx rfl (hb hby d6_4) rfl rfl k) ?_
  obtain ⟨T45, X45, e45, st45⟩ := getS2 X41 hx hZ hown (host := "") (Or.inl (hw _ (List.mem_of_getElem? (i := 47) rfl))) Via.refl rfl St_43 (g := (mkF m 5 #[.val (.ref a)] [(.ref a)])) rfl (hb hby d6_5)
  refine Go.back (f' := (mkF m 8 #[.val (.ref a)] [(.ref de), (.ref a)])) st45 ?_
  obtain ⟨T46, h46, X46, e46, W46, st46⟩ := putF X45 hx hZ hown (host := "") (Or.inl (hw _ (List.mem_of_getElem? (i := 48) rfl))) Via.refl e45 G2_41 Ex_42 (Or.inl (hw _ (List.mem_of_getElem? (i := 49) rfl))) (hw _ (List.mem_of_getElem? (i := 27) rfl)) (ty := (.array (.object "java/lang/Object"))) (by decide) rfl rfl (g := (mkF m 8 #[.val (.ref a)] [(.ref de), (.ref a)])) rfl rfl (hb hby d6_8)
  refine Go.back (f' := (mkF m 11 #[.val (.ref a)] [])) st46 ?_
  have Ex_47 := Ex_42.wr W46
  have St_48 := St_43.wr W46
  have Fl_49 := G1_41.other W46 (Or.inr (slot_ne (Or.inl (hw _ (List.mem_of_getElem? (i := 46) rfl))) (Or.inl (hw _ (List.mem_of_getElem? (i := 49) rfl))) (by decide) (t := .int) (t' := (.array (.object "java/lang/Object"))) (by decide) (by decide)))
  have Fl_50 := G2_41.same W46
  have Fl_51 := G3_41.other W46 (Or.inr (slot_ne (Or.inl (hw _ (List.mem_of_getElem? (i := 102) rfl))) (Or.inl (hw _ (List.mem_of_getElem? (i := 49) rfl))) (by decide) (t := .int) (t' := (.array (.object "java/lang/Object"))) (by decide) (by decide)))
  have K_52 := K_44.wr W46 (Or.inl (List.mem_of_getElem? (i := 0) rfl)) g_a
  exact Go.ret0 X46 hx hret hlk (hb hby d6_11) (by (try rw [e46]); exact ⟨rfl, K_52, Fl_49, Fl_50, Fl_51⟩) (Nat.zero_le _) (Nat.zero_le _)
theorem ef_rmMx (m : MethodId) (x0 : Int32) (x1 : Int32) : entryFrame m #[(.int x0), (.int x1)] 2 = mkF m 0 #[.val (.int x0), .val (.int x1)] [] := by first | (simp [entryFrame, mkF, argsToLocals, Value.category]; done) | rfl
set_option maxRecDepth 65536 in
set_option maxHeartbeats 40000000 in
theorem rmMx (l : Launch) (Z : State) (a0 : Array Value) (hw : ∀ d ∈ tables_1, d.before a0 Z = true) (x y : Int32) (h0 : Heap) (hlt : ¬ x < y) :
    Met l Z (⟨"java/lang/Math", "max", "(II)I"⟩ : MethodName) jdk_29_method_65_code 2 (some .int) ({ frames := 0, cells := 0, slots := 0, locals := 0 } : Room) #[(.int x), (.int y)] h0 (fun v h L => v = some (.int x) ∧ L = [] ∧ h = h0) := by
  refine Met.intro (Jvm.Free.JP.mathPlain rfl (by decide +kernel)) ?_
  intro p e s m below meth c T0 hx hby hml hown hnm hret hlk hZ X0 e0
  refine Go.cast (ef_rmMx m x y) ?_
  refine Go.back (f' := (mkF m 1 #[.val (.int x), .val (.int y)] [(.int x)])) (fun _ k => XS.iloadN X0.here hx rfl (hb hby d16_0) rfl k) ?_
  refine Go.back (f' := (mkF m 2 #[.val (.int x), .val (.int y)] [(.int y), (.int x)])) (fun _ k => XS.iloadN X0.here hx rfl (hb hby d16_1) rfl k) ?_
  refine Go.back (f' := (mkF m 5 #[.val (.int x), .val (.int y)] [])) (fun _ k => XS.icmpNo X0.here hx rfl (hb hby d16_2) rfl (flt hlt).1 k) ?_
  refine Go.back (f' := (mkF m 6 #[.val (.int x), .val (.int y)] [(.int x)])) (fun _ k => XS.iloadN X0.here hx rfl (hb hby d16_5) rfl k) ?_
  refine Go.back (f' := (mkF m 10 #[.val (.int x), .val (.int y)] [(.int x)])) (fun _ k => XS.goto X0.here hx rfl (pc0 := 6) (pc' := 10) rfl (hb hby d16_6) (by decide) (by decide) k) ?_
  exact Go.retI X0 hx hret hlk (hb hby d16_10) (by (try rw [e0]); exact ⟨rfl, rfl, rfl⟩) (Nat.zero_le _) (Nat.zero_le _)
theorem ef_rmGI (m : MethodId) (x0 : Addr) (x1 : Int32) : entryFrame m #[(.ref x0), (.int x1)] 4 = mkF m 0 #[.val (.ref x0), .val (.int x1), .unset, .unset] [] := by first | (simp [entryFrame, mkF, argsToLocals, Value.category]; done) | rfl
set_option maxRecDepth 65536 in
set_option maxHeartbeats 40000000 in
theorem rmGI (l : Launch) (Z : State) (a0 : Array Value) (hw : ∀ d ∈ tables_1, d.before a0 Z = true) (a de : Addr) (mc n1 : Int32) (n0 : Nat) (h0 : Heap) (Z0 : n0 ≤ h0.size) (Ex : Exa Z h0 a "java/util/ArrayList") (g_a : n0 ≤ a) (F_modCount : Fld Z h0 a "java/util/AbstractList" "modCount" "I" (.int mc)) (F_elementData : Fld Z h0 a "java/util/ArrayList" "elementData" "[Ljava/lang/Object;" (.ref de)) (F_size : Fld Z h0 a "java/util/ArrayList" "size" "I" (.int (0 : Int32))) (SD : Sta Z h0 "java/util/ArrayList" "DEFAULTCAPACITY_EMPTY_ELEMENTDATA" "[Ljava/lang/Object;" (.ref de)) (AD : VArr Z h0 de (.object "java/lang/Object") []) (h10 : ¬ (10 : Int32) < n1) :
    Met l Z (⟨"java/util/ArrayList", "grow", "(I)[Ljava/lang/Object;"⟩ : MethodName) jdk_38_method_6_code 4 (some (.array (.object "java/lang/Object"))) ({ frames := 1, cells := 1, slots := 10, locals := 16 } : Room) #[(.ref a), (.int n1)] h0 (fun v h L => ∃ ea, v = some (.ref ea) ∧ Chg n0 h0 h [a] L ∧ h0.size ≤ ea ∧ OA Z h ea ∧ Fld Z h a "java/util/AbstractList" "modCount" "I" (.int mc) ∧ Fld Z h a "java/util/ArrayList" "elementData" "[Ljava/lang/Object;" (.ref ea) ∧ Fld Z h a "java/util/ArrayList" "size" "I" (.int (0 : Int32))) := by
  refine Met.intro (plainFor_of_name (by first | (simp [plainName, overriddenIn]; done) | decide +kernel)) ?_
  intro p e s m below meth c T0 hx hby hml hown hnm hret hlk hZ X0 e0
  refine Go.cast (ef_rmGI m a n1) ?_
  have K0 : Chg n0 h0 h0 [a] [] := Chg.refl Z0
  have ned : de ≠ a := Ne.symm (VArr.exa_ne AD Ex (hw _ (List.mem_of_getElem? (i := 27) rfl)))
  refine Go.back (f' := (mkF m 1 #[.val (.ref a), .val (.int n1), .unset, .unset] [(.ref a)])) (fun _ k => XS.aloadN X0.here hx rfl (hb hby d15_0) rfl rfl k) ?_
  obtain ⟨T53, X53, e53, st53⟩ := getF X0 hx hZ hown (host := "") (Or.inl (hw _ (List.mem_of_getElem? (i := 48) rfl))) Via.refl e0 F_elementData (g := (mkF m 1 #[.val (.ref a), .val (.int n1), .unset, .unset] [(.ref a)])) rfl rfl (hb hby d15_1)
  refine Go.back (f' := (mkF m 4 #[.val (.ref a), .val (.int n1), .unset, .unset] [(.ref de)])) st53 ?_
  refine Go.back (f' := (mkF m 5 #[.val (.ref a), .val (.int n1), .unset, .unset] [(.int (([] : List Value)).length.toInt32)])) (AD.lenS X53 hx hZ e53 (hb hby d15_4)) ?_
  rw [show ([] : List Value).length.toInt32 = (0 : Int32) from rfl]
  show GoG _ _ _ _ _ (mkF m 5 #[.val (.ref a), .val (.int n1), .unset, .unset] [(.int (0 : Int32))])
  refine Go.back (f' := (mkF m 6 #[.val (.ref a), .val (.int n1), .val (.int (0 : Int32)), .unset] [])) (fun _ k => XS.istoreN X53.here hx rfl (hb hby d15_5) rfl (l' := #[.val (.ref a), .val (.int n1), .val (.int (0 : Int32)), .unset]) rfl k) ?_
  refine Go.back (f' := (mkF m 7 #[.val (.ref a), .val (.int n1), .val (.int (0 : Int32)), .unset] [(.int (0 : Int32))])) (fun _ k => XS.iloadN X53.here hx rfl (hb hby d15_6) rfl k) ?_
  refine Go.back (f' := (mkF m 10 #[.val (.ref a), .val (.int n1), .val (.int (0 : Int32)), .unset] [])) (fun _ k => XS.ifNo X53.here hx rfl (hb hby d15_7) rfl ((if0 _ _).trans (flt (by decide)).2.2.1) k) ?_
  refine Go.back (f' := (mkF m 11 #[.val (.ref a), .val (.int n1), .val (.int (0 : Int32)), .unset] [(.ref a)])) (fun _ k => XS.aloadN X53.here hx rfl (hb hby d15_10) rfl rfl k) ?_
  obtain ⟨T54, X54, e54, st54⟩ := getF X53 hx hZ hown (host := "") (Or.inl (hw _ (List.mem_of_getElem? (i := 48) rfl))) Via.refl e53 F_elementData (g := (mkF m 11 #[.val (.ref a), .val (.int n1), .val (.int (0 : Int32)), .unset] [(.ref a)])) rfl rfl (hb hby d15_11)
  refine Go.back (f' := (mkF m 14 #[.val (.ref a), .val (.int n1), .val (.int (0 : Int32)), .unset] [(.ref de)])) st54 ?_
  obtain ⟨T55, X55, e55, st55⟩ := getS2 X54 hx hZ hown (host := "") (Or.inl (hw _ (List.mem_of_getElem? (i := 47) rfl))) Via.refl e54 SD (g := (mkF m 14 #[.val (.ref a), .val (.int n1), .val (.int (0 : Int32)), .unset] [(.ref de)])) rfl (hb hby d15_14)
  refine Go.back (f' := (mkF m 17 #[.val (.ref a), .val (.int n1), .val (.int (0 : Int32)), .unset] [(.ref de), (.ref de)])) st55 ?_
  refine Go.back (f' := (mkF m 45 #[.val (.ref a), .val (.int n1), .val (.int (0 : Int32)), .unset] [])) (fun _ k => Jvm.RoadKit.acmp (g := (mkF m 17 #[.val (.ref a), .val (.int n1), .val (.int (0 : Int32)), .unset] [(.ref de), (.ref de)])) X55 hx rfl rfl rfl (pc0 := 17) (pc' := 45) (same := true) rfl (hb hby d15_17) rfl (decide_eq_true rfl) (by decide) (by decide) k) ?_
  refine Go.back (f' := (mkF m 46 #[.val (.ref a), .val (.int n1), .val (.int (0 : Int32)), .unset] [(.ref a)])) (fun _ k => XS.aloadN X55.here hx rfl (hb hby d15_45) rfl rfl k) ?_
  refine Go.back (f' := (mkF m 48 #[.val (.ref a), .val (.int n1), .val (.int (0 : Int32)), .unset] [(.int (10 : Int32)), (.ref a)])) (fun _ k => XS.bipush X55.here hx rfl (hb hby d15_46) k) ?_
  refine Go.back (f' := (mkF m 49 #[.val (.ref a), .val (.int n1), .val (.int (0 : Int32)), .unset] [(.int n1), (.int (10 : Int32)), (.ref a)])) (fun _ k => XS.iloadN X55.here hx rfl (hb hby d15_48) rfl k) ?_
  refine Go.callS X55 hx hZ hown (hw _ (List.mem_of_getElem? (i := 118) rfl)) (hw _ (List.mem_of_getElem? (i := 119) rfl)) (hw _ (List.mem_of_getElem? (i := 120) rfl)) (hw _ (List.mem_of_getElem? (i := 121) rfl)) (by decide) e55 (argsL := [(.int (10 : Int32)), (.int n1)]) (rest := [(.ref a)]) (rmMx l Z a0 hw (10 : Int32) n1 h0 h10) (lenOf pd_4 rfl) rfl (by rw [hml]; rfl) (W := 1) (Nat.le_of_eq rfl) (hb hby d15_49) (by decide) (by decide) (by decide) (by decide) ?_
  intro v56 T56 L56 X56 hQ56
  obtain ⟨rfl, rfl, hh56⟩ := hQ56
  rw [List.append_nil] at X56
  show GoG _ _ _ _ _ (mkF m 52 #[.val (.ref a), .val (.int n1), .val (.int (0 : Int32)), .unset] [(.int (10 : Int32)), (.ref a)])
  obtain ⟨T57, h57, cA57, X57, e57, E57, A57, B57, O57, st57⟩ := newRE X56 hx hZ hown (hw _ (List.mem_of_getElem? (i := 122) rfl)) (hw _ (List.mem_of_getElem? (i := 123) rfl)) hh56 (g := (mkF m 52 #[.val (.ref a), .val (.int n1), .val (.int (0 : Int32)), .unset] [(.int (10 : Int32)), (.ref a)])) rfl (hb hby d15_52) (n := (10 : Int32)) rfl (by decide) (cap := 10) (by decide) (by decide) (by decide) (by decide) (ad := "[Ljava/lang/Object;") (by decide)
  obtain ⟨ea, q57⟩ : ∃ z, z = h0.size := ⟨_, rfl⟩
  rw [← q57] at A57 B57 st57
  have V57 : OA Z h57 ea := ⟨_, A57, by simp [newA], O57⟩
  have ne_a_ea : a ≠ ea := lt_ne q57 Ex.lt
  have ne_de_ea : de ≠ ea := lt_ne q57 AD.lt
  have sz_ea := K0.at q57
  have g_ea := K0.ge sz_ea
  have Ex_58 := Ex.ext E57
  have Fl_59 := F_modCount.ext E57
  have Fl_60 := F_elementData.ext E57
  have Fl_61 := F_size.ext E57
  have St_62 := SD.ext E57
  have Ar_63 := AD.ext E57
  have K_64 := K0.ext E57
  refine Go.back (f' := (mkF m 55 #[.val (.ref a), .val (.int n1), .val (.int (0 : Int32)), .unset] [(.ref ea), (.ref a)])) st57 ?_
  refine Go.back (f' := (mkF m 56 #[.val (.ref a), .val (.int n1), .val (.int (0 : Int32)), .unset] [(.ref ea), (.ref a), (.ref ea)])) (fun _ k => XS.dupX1 X57.here hx rfl (hb hby d15_55) rfl rfl rfl k) ?_
  obtain ⟨T65, h65, X65, e65, W65, st65⟩ := putF X57 hx hZ hown (host := "") (Or.inl (hw _ (List.mem_of_getElem? (i := 48) rfl))) Via.refl e57 Fl_60 Ex_58 (Or.inl (hw _ (List.mem_of_getElem? (i := 49) rfl))) (hw _ (List.mem_of_getElem? (i := 27) rfl)) (ty := (.array (.object "java/lang/Object"))) (by decide) rfl rfl (g := (mkF m 56 #[.val (.ref a), .val (.int n1), .val (.int (0 : Int32)), .unset] [(.ref ea), (.ref a), (.ref ea)])) rfl rfl (hb hby d15_56)
  refine Go.back (f' := (mkF m 59 #[.val (.ref a), .val (.int n1), .val (.int (0 : Int32)), .unset] [(.ref ea)])) st65 ?_
  have Ex_66 := Ex_58.wr W65
  have Fl_67 := Fl_59.other W65 (Or.inr (slot_ne (Or.inl (hw _ (List.mem_of_getElem? (i := 46) rfl))) (Or.inl (hw _ (List.mem_of_getElem? (i := 49) rfl))) (by decide) (t := .int) (t' := (.array (.object "java/lang/Object"))) (by decide) (by decide)))
  have Fl_68 := Fl_60.same W65
  have Fl_69 := Fl_61.other W65 (Or.inr (slot_ne (Or.inl (hw _ (List.mem_of_getElem? (i := 102) rfl))) (Or.inl (hw _ (List.mem_of_getElem? (i := 49) rfl))) (by decide) (t := .int) (t' := (.array (.object "java/lang/Object"))) (by decide) (by decide)))
  have St_70 := St_62.wr W65
  have Ar_71 := Ar_63.other W65 ned
  have Ar_72 := V57.other W65 (Ne.symm ne_a_ea)
  have K_73 := K_64.wr W65 (Or.inl (List.mem_of_getElem? (i := 0) rfl)) g_a
  exact Go.retA X65 hx hret hlk (hb hby d15_59) rfl rfl (by (try rw [e65]); exact ⟨ea, rfl, K_73, sz_ea, Ar_72, Fl_67, Fl_68, Fl_69⟩) (by decide) (by decide)
theorem ef_rmG0 (m : MethodId) (x0 : Addr) : entryFrame m #[(.ref x0)] 1 = mkF m 0 #[.val (.ref x0)] [] := by first | (simp [entryFrame, mkF, argsToLocals, Value.category]; done) | rfl
set_option maxRecDepth 65536 in
set_option maxHeartbeats 40000000 in
theorem rmG0 (l : Launch) (Z : State) (a0 : Array Value) (hw : ∀ d ∈ tables_1, d.before a0 Z = true) (a de : Addr) (mc : Int32) (n0 : Nat) (h0 : Heap) (Z0 : n0 ≤ h0.size) (Ex : Exa Z h0 a "java/util/ArrayList") (g_a : n0 ≤ a) (F_modCount : Fld Z h0 a "java/util/AbstractList" "modCount" "I" (.int mc)) (F_elementData : Fld Z h0 a "java/util/ArrayList" "elementData" "[Ljava/lang/Object;" (.ref de)) (F_size : Fld Z h0 a "java/util/ArrayList" "size" "I" (.int (0 : Int32))) (SD : Sta Z h0 "java/util/ArrayList" "DEFAULTCAPACITY_EMPTY_ELEMENTDATA" "[Ljava/lang/Object;" (.ref de)) (AD : VArr Z h0 de (.object "java/lang/Object") [])  :
    Met l Z (⟨"java/util/ArrayList", "grow", "()[Ljava/lang/Object;"⟩ : MethodName) jdk_38_method_7_code 1 (some (.array (.object "java/lang/Object"))) ({ frames := 2, cells := 1, slots := 10, locals := 32 } : Room) #[(.ref a)] h0 (fun v h L => ∃ ea, v = some (.ref ea) ∧ Chg n0 h0 h [a] L ∧ h0.size ≤ ea ∧ OA Z h ea ∧ Fld Z h a "java/util/AbstractList" "modCount" "I" (.int mc) ∧ Fld Z h a "java/util/ArrayList" "elementData" "[Ljava/lang/Object;" (.ref ea) ∧ Fld Z h a "java/util/ArrayList" "size" "I" (.int (0 : Int32))) := by
  refine Met.intro (plainFor_of_name (by first | (simp [plainName, overriddenIn]; done) | decide +kernel)) ?_
  intro p e s m below meth c T0 hx hby hml hown hnm hret hlk hZ X0 e0
  refine Go.cast (ef_rmG0 m a) ?_
  have K0 : Chg n0 h0 h0 [a] [] := Chg.refl Z0
  refine Go.back (f' := (mkF m 1 #[.val (.ref a)] [(.ref a)])) (fun _ k => XS.aloadN X0.here hx rfl (hb hby d14_0) rfl rfl k) ?_
  refine Go.back (f' := (mkF m 2 #[.val (.ref a)] [(.ref a), (.ref a)])) (fun _ k => XS.aloadN X0.here hx rfl (hb hby d14_1) rfl rfl k) ?_
  obtain ⟨T74, X74, e74, st74⟩ := getF X0 hx hZ hown (host := "") (Or.inl (hw _ (List.mem_of_getElem? (i := 101) rfl))) Via.refl e0 F_size (g := (mkF m 2 #[.val (.ref a)] [(.ref a), (.ref a)])) rfl rfl (hb hby d14_2)
  refine Go.back (f' := (mkF m 5 #[.val (.ref a)] [(.int (0 : Int32)), (.ref a)])) st74 ?_
  refine Go.back (f' := (mkF m 6 #[.val (.ref a)] [(.int (1 : Int32)), (.int (0 : Int32)), (.ref a)])) (fun _ k => XS.iconst X74.here hx rfl (hb hby d14_5) k) ?_
  refine Go.back (f' := (mkF m 7 #[.val (.ref a)] [(.int ((0 : Int32) + (1 : Int32))), (.ref a)])) (fun _ k => XS.iadd X74.here hx rfl (hb hby d14_6) rfl k) ?_
  refine Go.callP X74 hx hZ hown (hw _ (List.mem_of_getElem? (i := 113) rfl)) (hw _ (List.mem_of_getElem? (i := 114) rfl)) (hw _ (List.mem_of_getElem? (i := 116) rfl)) (hw _ (List.mem_of_getElem? (i := 115) rfl)) (hw _ (List.mem_of_getElem? (i := 28) rfl)) (hw _ (List.mem_of_getElem? (i := 117) rfl)) (by decide) e74 Ex (argsL := [(.int ((0 : Int32) + (1 : Int32)))]) (rest := []) (rmGI l Z a0 hw a de mc ((0 : Int32) + (1 : Int32)) n0 h0 Z0 Ex g_a F_modCount F_elementData F_size SD AD (by decide)) (lenOf pd_5 rfl) rfl (by rw [hml]; rfl) (W := 0) (Nat.le_of_eq rfl) (hb hby d14_7) (by decide) (by decide) (by decide) (by decide) ?_
  intro v75 T75 L75 X75 hQ75
  obtain ⟨ea, rfl, C75, ge75, A75, G1_75, G2_75, G3_75⟩ := hQ75
  have Ex_76 := Ex.keep C75.keep
  have K_77 := K0.call C75 (allS (Or.inl (List.mem_of_getElem? (i := 0) rfl)) all0)
  have sz_ea := Nat.le_trans K0.grow ge75
  have g_ea := K0.ge sz_ea
  have ne_a_ea : a ≠ ea := Nat.ne_of_lt (Nat.lt_of_lt_of_le Ex.lt ge75)
  show GoG _ _ _ _ _ (mkF m 10 #[.val (.ref a)] [(.ref ea)])
  exact Go.retA X75 hx hret hlk (hb hby d14_10) rfl rfl ⟨ea, rfl, K_77, sz_ea, A75, G1_75, G2_75, G3_75⟩ (by decide) (by decide)
theorem ef_rmA3 (m : MethodId) (x0 : Addr) (x1 : Addr) (x2 : Addr) (x3 : Int32) : entryFrame m #[(.ref x0), (.ref x1), (.ref x2), (.int x3)] 4 = mkF m 0 #[.val (.ref x0), .val (.ref x1), .val (.ref x2), .val (.int x3)] [] := by first | (simp [entryFrame, mkF, argsToLocals, Value.category]; done) | rfl
set_option maxRecDepth 65536 in
set_option maxHeartbeats 40000000 in
theorem rmA3 (l : Launch) (Z : State) (a0 : Array Value) (hw : ∀ d ∈ tables_1, d.before a0 Z = true) (a de y : Addr) (K : String) (mc : Int32) (n0 : Nat) (h0 : Heap) (Z0 : n0 ≤ h0.size) (Ex : Exa Z h0 a "java/util/ArrayList") (g_a : n0 ≤ a) (F_modCount : Fld Z h0 a "java/util/AbstractList" "modCount" "I" (.int mc)) (F_elementData : Fld Z h0 a "java/util/ArrayList" "elementData" "[Ljava/lang/Object;" (.ref de)) (F_size : Fld Z h0 a "java/util/ArrayList" "size" "I" (.int (0 : Int32))) (SD : Sta Z h0 "java/util/ArrayList" "DEFAULTCAPACITY_EMPTY_ELEMENTDATA" "[Ljava/lang/Object;" (.ref de)) (AD : VArr Z h0 de (.object "java/lang/Object") []) (Ey : Exa Z h0 y K) (wc : (Jvm.Cond.castable K "java/lang/Object").before a0 Z = true)  :
    Met l Z (⟨"java/util/ArrayList", "add", "(Ljava/lang/Object;[Ljava/lang/Object;I)V"⟩ : MethodName) jdk_38_method_24_code 4 none ({ frames := 3, cells := 1, slots := 10, locals := 48 } : Room) #[(.ref a), (.ref y), (.ref de), (.int (0 : Int32))] h0 (fun v h L => v = none ∧ Chg n0 h0 h [a] L) := by
  refine Met.intro (plainFor_of_name (by first | (simp [plainName, overriddenIn]; done) | decide +kernel)) ?_
  intro p e s m below meth c T0 hx hby hml hown hnm hret hlk hZ X0 e0
  refine Go.cast (ef_rmA3 m a y de (0 : Int32)) ?_
  have K0 : Chg n0 h0 h0 [a] [] := Chg.refl Z0
  have ned : de ≠ a := Ne.symm (VArr.exa_ne AD Ex (hw _ (List.mem_of_getElem? (i := 27) rfl)))
  refine Go.back (f' := (mkF m 1 #[.val (.ref a), .val (.ref y), .val (.ref de), .val (.int (0 : Int32))] [(.int (0 : Int32))])) (fun _ k => XS.iloadN X0.here hx rfl (hb hby d13_0) rfl k) ?_
  refine Go.back (f' := (mkF m 2 #[.val (.ref a), .val (.ref y), .val (.ref de), .val (.int (0 : Int32))] [(.ref de), (.int (0 : Int32))])) (fun _ k => XS.aloadN X0.here hx rfl (hb hby d13_1) rfl rfl k) ?_
  refine Go.back (f' := (mkF m 3 #[.val (.ref a), .val (.ref y), .val (.ref de), .val (.int (0 : Int32))] [(.int (([] : List Value)).length.toInt32), (.int (0 : Int32))])) (AD.lenS X0 hx hZ e0 (hb hby d13_2)) ?_
  rw [show ([] : List Value).length.toInt32 = (0 : Int32) from rfl]
  show GoG _ _ _ _ _ (mkF m 3 #[.val (.ref a), .val (.ref y), .val (.ref de), .val (.int (0 : Int32))] [(.int (0 : Int32)), (.int (0 : Int32))])
  refine Go.back (f' := (mkF m 6 #[.val (.ref a), .val (.ref y), .val (.ref de), .val (.int (0 : Int32))] [])) (fun _ k => XS.icmpNo X0.here hx rfl (hb hby d13_3) rfl (teq rfl).2 k) ?_
  refine Go.back (f' := (mkF m 7 #[.val (.ref a), .val (.ref y), .val (.ref de), .val (.int (0 : Int32))] [(.ref a)])) (fun _ k => XS.aloadN X0.here hx rfl (hb hby d13_6) rfl rfl k) ?_
  refine Go.callP X0 hx hZ hown (hw _ (List.mem_of_getElem? (i := 108) rfl)) (hw _ (List.mem_of_getElem? (i := 109) rfl)) (hw _ (List.mem_of_getElem? (i := 111) rfl)) (hw _ (List.mem_of_getElem? (i := 110) rfl)) (hw _ (List.mem_of_getElem? (i := 28) rfl)) (hw _ (List.mem_of_getElem? (i := 112) rfl)) (by decide) e0 Ex (argsL := []) (rest := []) (rmG0 l Z a0 hw a de mc n0 h0 Z0 Ex g_a F_modCount F_elementData F_size SD AD) (lenOf pd_6 rfl) rfl (by rw [hml]; rfl) (W := 0) (Nat.le_of_eq rfl) (hb hby d13_7) (by decide) (by decide) (by decide) (by decide) ?_
  intro v78 T78 L78 X78 hQ78
  obtain ⟨ea, rfl, C78, ge78, A78, G1_78, G2_78, G3_78⟩ := hQ78
  have Ex_79 := Ex.keep C78.keep
  have Ar_80 := AD.keep C78.keep (ninS ned nin0)
  have Ex_81 := Ey.keep C78.keep
  have K_82 := K0.call C78 (allS (Or.inl (List.mem_of_getElem? (i := 0) rfl)) all0)
  have sz_ea := Nat.le_trans K0.grow ge78
  have g_ea := K0.ge sz_ea
  have ne_a_ea : a ≠ ea := Nat.ne_of_lt (Nat.lt_of_lt_of_le Ex.lt ge78)
  have ne_de_ea : de ≠ ea := Nat.ne_of_lt (Nat.lt_of_lt_of_le AD.lt ge78)
  have ne_y_ea : y ≠ ea := Nat.ne_of_lt (Nat.lt_of_lt_of_le Ey.lt ge78)
  show GoG _ _ _ _ _ (mkF m 10 #[.val (.ref a), .val (.ref y), .val (.ref de), .val (.int (0 : Int32))] [(.ref ea)])
  refine Go.back (f' := (mkF m 11 #[.val (.ref a), .val (.ref y), .val (.ref ea), .val (.int (0 : Int32))] [])) (fun _ k => XS.astoreN X78.here hx rfl (hb hby d13_10) rfl rfl (l' := #[.val (.ref a), .val (.ref y), .val (.ref ea), .val (.int (0 : Int32))]) rfl k) ?_
  refine Go.back (f' := (mkF m 12 #[.val (.ref a), .val (.ref y), .val (.ref ea), .val (.int (0 : Int32))] [(.ref ea)])) (fun _ k => XS.aloadN X78.here hx rfl (hb hby d13_11) rfl rfl k) ?_
  refine Go.back (f' := (mkF m 13 #[.val (.ref a), .val (.ref y), .val (.ref ea), .val (.int (0 : Int32))] [(.int (0 : Int32)), (.ref ea)])) (fun _ k => XS.iloadN X78.here hx rfl (hb hby d13_12) rfl k) ?_
  refine Go.back (f' := (mkF m 14 #[.val (.ref a), .val (.ref y), .val (.ref ea), .val (.int (0 : Int32))] [(.ref y), (.int (0 : Int32)), (.ref ea)])) (fun _ k => XS.aloadN X78.here hx rfl (hb hby d13_13) rfl rfl k) ?_
  obtain ⟨cl, Acl, Scl, Ocl⟩ := A78
  obtain ⟨T83, h83, X83, e83, W83, st83⟩ := stR X78 hx hZ rfl Acl (j := (0 : Int32)) (by rw [Scl]; decide) rfl (Sto.of Acl Ocl (Ins.of_exa Ex_81 wc)) (g := (mkF m 14 #[.val (.ref a), .val (.ref y), .val (.ref ea), .val (.int (0 : Int32))] [(.ref y), (.int (0 : Int32)), (.ref ea)])) rfl rfl (hb hby d13_14)
  have Ex_84 := Ex_79.wr W83
  have Ar_85 := Ar_80.other W83 ne_de_ea
  have Ex_86 := Ex_81.wr W83
  have Fl_87 := G1_78.other W83 (Or.inl ne_a_ea)
  have Fl_88 := G2_78.other W83 (Or.inl ne_a_ea)
  have Fl_89 := G3_78.other W83 (Or.inl ne_a_ea)
  have K_90 := K_82.wr W83 (Or.inr sz_ea) g_ea
  refine Go.back (f' := (mkF m 15 #[.val (.ref a), .val (.ref y), .val (.ref ea), .val (.int (0 : Int32))] [])) st83 ?_
  refine Go.back (f' := (mkF m 16 #[.val (.ref a), .val (.ref y), .val (.ref ea), .val (.int (0 : Int32))] [(.ref a)])) (fun _ k => XS.aloadN X83.here hx rfl (hb hby d13_15) rfl rfl k) ?_
  refine Go.back (f' := (mkF m 17 #[.val (.ref a), .val (.ref y), .val (.ref ea), .val (.int (0 : Int32))] [(.int (0 : Int32)), (.ref a)])) (fun _ k => XS.iloadN X83.here hx rfl (hb hby d13_16) rfl k) ?_
  refine Go.back (f' := (mkF m 18 #[.val (.ref a), .val (.ref y), .val (.ref ea), .val (.int (0 : Int32))] [(.int (1 : Int32)), (.int (0 : Int32)), (.ref a)])) (fun _ k => XS.iconst X83.here hx rfl (hb hby d13_17) k) ?_
  refine Go.back (f' := (mkF m 19 #[.val (.ref a), .val (.ref y), .val (.ref ea), .val (.int (0 : Int32))] [(.int ((0 : Int32) + (1 : Int32))), (.ref a)])) (fun _ k => XS.iadd X83.here hx rfl (hb hby d13_18) rfl k) ?_
  obtain ⟨T91, h91, X91, e91, W91, st91⟩ := putF X83 hx hZ hown (host := "") (Or.inl (hw _ (List.mem_of_getElem? (i := 101) rfl))) Via.refl e83 Fl_89 Ex_84 (Or.inl (hw _ (List.mem_of_getElem? (i := 102) rfl))) (hw _ (List.mem_of_getElem? (i := 27) rfl)) (ty := .int) (by decide) rfl rfl (g := (mkF m 19 #[.val (.ref a), .val (.ref y), .val (.ref ea), .val (.int (0 : Int32))] [(.int ((0 : Int32) + (1 : Int32))), (.ref a)])) rfl rfl (hb hby d13_19)
  refine Go.back (f' := (mkF m 22 #[.val (.ref a), .val (.ref y), .val (.ref ea), .val (.int (0 : Int32))] [])) st91 ?_
  have Ex_92 := Ex_84.wr W91
  have Ar_93 := Ar_85.other W91 ned
  have Ex_94 := Ex_86.wr W91
  have Fl_95 := Fl_87.other W91 (Or.inr (slot_ne (Or.inl (hw _ (List.mem_of_getElem? (i := 46) rfl))) (Or.inl (hw _ (List.mem_of_getElem? (i := 102) rfl))) (by decide) (t := .int) (t' := .int) (by decide) (by decide)))
  have Fl_96 := Fl_88.other W91 (Or.inr (slot_ne (Or.inl (hw _ (List.mem_of_getElem? (i := 49) rfl))) (Or.inl (hw _ (List.mem_of_getElem? (i := 102) rfl))) (by decide) (t := (.array (.object "java/lang/Object"))) (t' := .int) (by decide) (by decide)))
  have Fl_97 := Fl_89.same W91
  have K_98 := K_90.wr W91 (Or.inl (List.mem_of_getElem? (i := 0) rfl)) g_a
  exact Go.ret0 X91 hx hret hlk (hb hby d13_22) (by (try rw [e91]); exact ⟨rfl, K_98⟩) (by decide) (by decide)
theorem ef_rmA1 (m : MethodId) (x0 : Addr) (x1 : Addr) : entryFrame m #[(.ref x0), (.ref x1)] 2 = mkF m 0 #[.val (.ref x0), .val (.ref x1)] [] := by first | (simp [entryFrame, mkF, argsToLocals, Value.category]; done) | rfl
set_option maxRecDepth 65536 in
set_option maxHeartbeats 40000000 in
theorem rmA1 (l : Launch) (Z : State) (a0 : Array Value) (hw : ∀ d ∈ tables_1, d.before a0 Z = true) (a de y : Addr) (K : String) (n0 : Nat) (h0 : Heap) (Z0 : n0 ≤ h0.size) (Ex : Exa Z h0 a "java/util/ArrayList") (g_a : n0 ≤ a) (F_modCount : Fld Z h0 a "java/util/AbstractList" "modCount" "I" (.int (0 : Int32))) (F_elementData : Fld Z h0 a "java/util/ArrayList" "elementData" "[Ljava/lang/Object;" (.ref de)) (F_size : Fld Z h0 a "java/util/ArrayList" "size" "I" (.int (0 : Int32))) (SD : Sta Z h0 "java/util/ArrayList" "DEFAULTCAPACITY_EMPTY_ELEMENTDATA" "[Ljava/lang/Object;" (.ref de)) (AD : VArr Z h0 de (.object "java/lang/Object") []) (Ey : Exa Z h0 y K) (wc : (Jvm.Cond.castable K "java/lang/Object").before a0 Z = true)  :
    Met l Z (⟨"java/util/ArrayList", "add", "(Ljava/lang/Object;)Z"⟩ : MethodName) jdk_38_method_25_code 2 (some .boolean) ({ frames := 4, cells := 1, slots := 10, locals := 64 } : Room) #[(.ref a), (.ref y)] h0 (fun v h L => v = some (.int 1) ∧ Chg n0 h0 h [a] L) := by
  refine Met.intro (plainFor_of_name (by first | (simp [plainName, overriddenIn]; done) | decide +kernel)) ?_
  intro p e s m below meth c T0 hx hby hml hown hnm hret hlk hZ X0 e0
  refine Go.cast (ef_rmA1 m a y) ?_
  have K0 : Chg n0 h0 h0 [a] [] := Chg.refl Z0
  have ned : de ≠ a := Ne.symm (VArr.exa_ne AD Ex (hw _ (List.mem_of_getElem? (i := 27) rfl)))
  refine Go.back (f' := (mkF m 1 #[.val (.ref a), .val (.ref y)] [(.ref a)])) (fun _ k => XS.aloadN X0.here hx rfl (hb hby d12_0) rfl rfl k) ?_
  refine Go.back (f' := (mkF m 2 #[.val (.ref a), .val (.ref y)] [(.ref a), (.ref a)])) (fun _ k => XS.dup X0.here hx rfl (hb hby d12_1) rfl rfl k) ?_
  obtain ⟨T99, X99, e99, st99⟩ := getF X0 hx hZ hown (host := "") (Or.inl (hw _ (List.mem_of_getElem? (i := 99) rfl))) (Via.of (hw _ (List.mem_of_getElem? (i := 100) rfl))) e0 F_modCount (g := (mkF m 2 #[.val (.ref a), .val (.ref y)] [(.ref a), (.ref a)])) rfl rfl (hb hby d12_2)
  refine Go.back (f' := (mkF m 5 #[.val (.ref a), .val (.ref y)] [(.int (0 : Int32)), (.ref a)])) st99 ?_
  refine Go.back (f' := (mkF m 6 #[.val (.ref a), .val (.ref y)] [(.int (1 : Int32)), (.int (0 : Int32)), (.ref a)])) (fun _ k => XS.iconst X99.here hx rfl (hb hby d12_5) k) ?_
  refine Go.back (f' := (mkF m 7 #[.val (.ref a), .val (.ref y)] [(.int ((0 : Int32) + (1 : Int32))), (.ref a)])) (fun _ k => XS.iadd X99.here hx rfl (hb hby d12_6) rfl k) ?_
  obtain ⟨T100, h100, X100, e100, W100, st100⟩ := putF X99 hx hZ hown (host := "") (Or.inl (hw _ (List.mem_of_getElem? (i := 99) rfl))) (Via.of (hw _ (List.mem_of_getElem? (i := 100) rfl))) e99 F_modCount Ex (Or.inl (hw _ (List.mem_of_getElem? (i := 46) rfl))) (hw _ (List.mem_of_getElem? (i := 27) rfl)) (ty := .int) (by decide) rfl rfl (g := (mkF m 7 #[.val (.ref a), .val (.ref y)] [(.int ((0 : Int32) + (1 : Int32))), (.ref a)])) rfl rfl (hb hby d12_7)
  refine Go.back (f' := (mkF m 10 #[.val (.ref a), .val (.ref y)] [])) st100 ?_
  have Ex_101 := Ex.wr W100
  have Fl_102 := F_modCount.same W100
  have Fl_103 := F_elementData.other W100 (Or.inr (slot_ne (Or.inl (hw _ (List.mem_of_getElem? (i := 49) rfl))) (Or.inl (hw _ (List.mem_of_getElem? (i := 46) rfl))) (by decide) (t := (.array (.object "java/lang/Object"))) (t' := .int) (by decide) (by decide)))
  have Fl_104 := F_size.other W100 (Or.inr (slot_ne (Or.inl (hw _ (List.mem_of_getElem? (i := 102) rfl))) (Or.inl (hw _ (List.mem_of_getElem? (i := 46) rfl))) (by decide) (t := .int) (t' := .int) (by decide) (by decide)))
  have St_105 := SD.wr W100
  have Ar_106 := AD.other W100 ned
  have Ex_107 := Ey.wr W100
  have K_108 := K0.wr W100 (Or.inl (List.mem_of_getElem? (i := 0) rfl)) g_a
  refine Go.back (f' := (mkF m 11 #[.val (.ref a), .val (.ref y)] [(.ref a)])) (fun _ k => XS.aloadN X100.here hx rfl (hb hby d12_10) rfl rfl k) ?_
  refine Go.back (f' := (mkF m 12 #[.val (.ref a), .val (.ref y)] [(.ref y), (.ref a)])) (fun _ k => XS.aloadN X100.here hx rfl (hb hby d12_11) rfl rfl k) ?_
  refine Go.back (f' := (mkF m 13 #[.val (.ref a), .val (.ref y)] [(.ref a), (.ref y), (.ref a)])) (fun _ k => XS.aloadN X100.here hx rfl (hb hby d12_12) rfl rfl k) ?_
  obtain ⟨T109, X109, e109, st109⟩ := getF X100 hx hZ hown (host := "") (Or.inl (hw _ (List.mem_of_getElem? (i := 48) rfl))) Via.refl e100 Fl_103 (g := (mkF m 13 #[.val (.ref a), .val (.ref y)] [(.ref a), (.ref y), (.ref a)])) rfl rfl (hb hby d12_13)
  refine Go.back (f' := (mkF m 16 #[.val (.ref a), .val (.ref y)] [(.ref de), (.ref y), (.ref a)])) st109 ?_
  refine Go.back (f' := (mkF m 17 #[.val (.ref a), .val (.ref y)] [(.ref a), (.ref de), (.ref y), (.ref a)])) (fun _ k => XS.aloadN X109.here hx rfl (hb hby d12_16) rfl rfl k) ?_
  obtain ⟨T110, X110, e110, st110⟩ := getF X109 hx hZ hown (host := "") (Or.inl (hw _ (List.mem_of_getElem? (i := 101) rfl))) Via.refl e109 Fl_104 (g := (mkF m 17 #[.val (.ref a), .val (.ref y)] [(.ref a), (.ref de), (.ref y), (.ref a)])) rfl rfl (hb hby d12_17)
  refine Go.back (f' := (mkF m 20 #[.val (.ref a), .val (.ref y)] [(.int (0 : Int32)), (.ref de), (.ref y), (.ref a)])) st110 ?_
  refine Go.callP X110 hx hZ hown (hw _ (List.mem_of_getElem? (i := 103) rfl)) (hw _ (List.mem_of_getElem? (i := 104) rfl)) (hw _ (List.mem_of_getElem? (i := 106) rfl)) (hw _ (List.mem_of_getElem? (i := 105) rfl)) (hw _ (List.mem_of_getElem? (i := 28) rfl)) (hw _ (List.mem_of_getElem? (i := 107) rfl)) (by decide) e110 Ex_101 (argsL := [(.ref y), (.ref de), (.int (0 : Int32))]) (rest := []) (rmA3 l Z a0 hw a de y K ((0 : Int32) + (1 : Int32)) n0 h100 K_108.size Ex_101 g_a Fl_102 Fl_103 Fl_104 St_105 Ar_106 Ex_107 wc) (lenOf pd_7 rfl) rfl (by rw [hml]; rfl) (W := 0) (Nat.le_of_eq rfl) (hb hby d12_20) (by decide) (by decide) (by decide) (by decide) ?_
  intro v111 T111 L111 X111 hQ111
  obtain ⟨rfl, C111⟩ := hQ111
  have Ex_112 := Ex_101.keep C111.keep
  have St_113 := staKeep St_105 C111.keep (own_nsS (own_exaNS Ex_101) own_ns0)
  have Ar_114 := Ar_106.keep C111.keep (ninS ned nin0)
  have Ex_115 := Ex_107.keep C111.keep
  have K_116 := K_108.call C111 (allS (Or.inl (List.mem_of_getElem? (i := 0) rfl)) all0)
  show GoG _ _ _ _ _ (mkF m 23 #[.val (.ref a), .val (.ref y)] [])
  refine Go.back (f' := (mkF m 24 #[.val (.ref a), .val (.ref y)] [(.int (1 : Int32))])) (fun _ k => XS.iconst X111.here hx rfl (hb hby d12_23) k) ?_
  exact Go.retN X111 hx (t := .boolean) hret (by simp) (w := (1 : Int32)) rfl hlk (hb hby d12_24) ⟨rfl, K_116⟩ (by decide) (by decide)
theorem ef_rmTI (m : MethodId) (x0 : Addr) (x2 : Addr) : entryFrame m #[(.ref x0), .null, (.ref x2)] 3 = mkF m 0 #[.val (.ref x0), .val .null, .val (.ref x2)] [] := by first | (simp [entryFrame, mkF, argsToLocals, Value.category]; done) | rfl
set_option maxRecDepth 65536 in
set_option maxHeartbeats 40000000 in
theorem rmTI (l : Launch) (Z : State) (a0 : Array Value) (hw : ∀ d ∈ tables_1, d.before a0 Z = true) (t l2 : Addr) (n0 : Nat) (h0 : Heap) (Z0 : n0 ≤ h0.size) (Ex : Exa Z h0 t "com/example/durable_coordinator/durablecoordinator/protocol/TopicIdPartitions") (g_t : n0 ≤ t) (F_topicId : Fld Z h0 t "com/example/durable_coordinator/durablecoordinator/protocol/TopicIdPartitions" "topicId" "Ljava/util/UUID;" .null) (F_partitions : Fld Z h0 t "com/example/durable_coordinator/durablecoordinator/protocol/TopicIdPartitions" "partitions" "Ljava/util/List;" .null)  :
    Met l Z (⟨"com/example/durable_coordinator/durablecoordinator/protocol/TopicIdPartitions", "<init>", "(Ljava/util/UUID;Ljava/util/List;)V"⟩ : MethodName) prog_99_method_1_code 3 none ({ frames := 1, cells := 0, slots := 0, locals := 16 } : Room) #[(.ref t), .null, (.ref l2)] h0 (fun v h L => v = none ∧ Chg n0 h0 h [t] L) := by
  refine Met.intro (plainFor_of_name (by first | (simp [plainName, overriddenIn]; done) | decide +kernel)) ?_
  intro p e s m below meth c T0 hx hby hml hown hnm hret hlk hZ X0 e0
  refine Go.cast (ef_rmTI m t l2) ?_
  have K0 : Chg n0 h0 h0 [t] [] := Chg.refl Z0
  refine Go.back (f' := (mkF m 1 #[.val (.ref t), .val .null, .val (.ref l2)] [(.ref t)])) (fun _ k => XS.aloadN X0.here hx rfl (hb hby d17_0) rfl rfl k) ?_
  obtain ⟨T117, X117, e117, st117⟩ := initO X0 hx hZ hown (hw _ (List.mem_of_getElem? (i := 131) rfl)) (hw _ (List.mem_of_getElem? (i := 20) rfl)) (hw _ (List.mem_of_getElem? (i := 21) rfl)) e0 (g := (mkF m 1 #[.val (.ref t), .val .null, .val (.ref l2)] [(.ref t)])) rfl (by rw [hml]; rfl) rfl (hb hby d17_1) (by decide) (W := 0) (by show 2 * 0 + _ ≤ _; exact Nat.le_of_eq rfl) (by decide)
  refine Go.back (f' := (mkF m 4 #[.val (.ref t), .val .null, .val (.ref l2)] [])) st117 ?_
  refine Go.back (f' := (mkF m 5 #[.val (.ref t), .val .null, .val (.ref l2)] [(.ref t)])) (fun _ k => XS.aloadN X117.here hx rfl (hb hby d17_4) rfl rfl k) ?_
  refine Go.back (f' := (mkF m 6 #[.val (.ref t), .val .null, .val (.ref l2)] [.null, (.ref t)])) (fun _ k => XS.aloadN X117.here hx rfl (hb hby d17_5) rfl rfl k) ?_
  obtain ⟨T118, h118, X118, e118, W118, st118⟩ := putF X117 hx hZ hown (host := "") (Or.inl (hw _ (List.mem_of_getElem? (i := 132) rfl))) Via.refl e117 F_topicId Ex (Or.inr ⟨(hw _ (List.mem_of_getElem? (i := 133) rfl)), rfl, hnm⟩) (hw _ (List.mem_of_getElem? (i := 126) rfl)) (ty := (.object "java/util/UUID")) (by decide) rfl rfl (g := (mkF m 6 #[.val (.ref t), .val .null, .val (.ref l2)] [.null, (.ref t)])) rfl rfl (hb hby d17_6)
  refine Go.back (f' := (mkF m 9 #[.val (.ref t), .val .null, .val (.ref l2)] [])) st118 ?_
  have Ex_119 := Ex.wr W118
  have Fl_120 := F_topicId.same W118
  have Fl_121 := F_partitions.other W118 (Or.inr (slot_ne (Or.inr (hw _ (List.mem_of_getElem? (i := 135) rfl))) (Or.inr (hw _ (List.mem_of_getElem? (i := 133) rfl))) (by decide) (t := (.object "java/util/List")) (t' := (.object "java/util/UUID")) (by decide) (by decide)))
  have K_122 := K0.wr W118 (Or.inl (List.mem_of_getElem? (i := 0) rfl)) g_t
  refine Go.back (f' := (mkF m 10 #[.val (.ref t), .val .null, .val (.ref l2)] [(.ref t)])) (fun _ k => XS.aloadN X118.here hx rfl (hb hby d17_9) rfl rfl k) ?_
  refine Go.back (f' := (mkF m 11 #[.val (.ref t), .val .null, .val (.ref l2)] [(.ref l2), (.ref t)])) (fun _ k => XS.aloadN X118.here hx rfl (hb hby d17_10) rfl rfl k) ?_
  obtain ⟨T123, h123, X123, e123, W123, st123⟩ := putF X118 hx hZ hown (host := "") (Or.inl (hw _ (List.mem_of_getElem? (i := 134) rfl))) Via.refl e118 Fl_121 Ex_119 (Or.inr ⟨(hw _ (List.mem_of_getElem? (i := 135) rfl)), rfl, hnm⟩) (hw _ (List.mem_of_getElem? (i := 126) rfl)) (ty := (.object "java/util/List")) (by decide) rfl rfl (g := (mkF m 11 #[.val (.ref t), .val .null, .val (.ref l2)] [(.ref l2), (.ref t)])) rfl rfl (hb hby d17_11)
  refine Go.back (f' := (mkF m 14 #[.val (.ref t), .val .null, .val (.ref l2)] [])) st123 ?_
  have Ex_124 := Ex_119.wr W123
  have Fl_125 := Fl_120.other W123 (Or.inr (slot_ne (Or.inr (hw _ (List.mem_of_getElem? (i := 133) rfl))) (Or.inr (hw _ (List.mem_of_getElem? (i := 135) rfl))) (by decide) (t := (.object "java/util/UUID")) (t' := (.object "java/util/List")) (by decide) (by decide)))
  have Fl_126 := Fl_121.same W123
  have K_127 := K_122.wr W123 (Or.inl (List.mem_of_getElem? (i := 0) rfl)) g_t
  exact Go.ret0 X123 hx hret hlk (hb hby d17_14) (by (try rw [e123]); exact ⟨rfl, K_127⟩) (Nat.zero_le _) (Nat.zero_le _)
set_option maxHeartbeats 4000000 in
theorem ef_rmMB (m : MethodId) (x0 : Addr) (x1 : Addr) (x3 : Int32) (x4 : Value) (q4 : x4.isRef = true) (x5 : Value) (q5 : x5.isRef = true) : entryFrame m #[(.ref x0), (.ref x1), .null, (.int x3), x4, x5, .null] 7 = mkF m 0 #[.val (.ref x0), .val (.ref x1), .val .null, .val (.int x3), .val x4, .val x5, .val .null] [] := by rcases ref_cases q4 with rfl | ⟨_, rfl⟩ <;> rcases ref_cases q5 with rfl | ⟨_, rfl⟩ <;> first | (simp [entryFrame, mkF, argsToLocals, Value.category]; done) | rfl
set_option maxRecDepth 65536 in
set_option maxHeartbeats 40000000 in
theorem rmMB (l : Launch) (Z : State) (a0 : Array Value) (hw : ∀ d ∈ tables_1, d.before a0 Z = true) (mm sa : Addr) (tt : Int32) (nv rv : Value) (n0 : Nat) (h0 : Heap) (Z0 : n0 ≤ h0.size) (Ex : Exa Z h0 mm "com/example/durable_coordinator/durablecoordinator/protocol/ConsumerGroupHeartbeatRequest$Member") (g_mm : n0 ≤ mm) (F_instanceId : Fld Z h0 mm "com/example/durable_coordinator/durablecoordinator/protocol/ConsumerGroupHeartbeatRequest$Member" "instanceId" "Ljava/lang/String;" .null) (F_rackId : Fld Z h0 mm "com/example/durable_coordinator/durablecoordinator/protocol/ConsumerGroupHeartbeatRequest$Member" "rackId" "Ljava/lang/String;" .null) (F_rebalanceTimeoutMs : Fld Z h0 mm "com/example/durable_coordinator/durablecoordinator/protocol/ConsumerGroupHeartbeatRequest$Member" "rebalanceTimeoutMs" "I" (.int (0 : Int32))) (F_topicNames : Fld Z h0 mm "com/example/durable_coordinator/durablecoordinator/protocol/ConsumerGroupHeartbeatRequest$Member" "topicNames" "Ljava/util/List;" .null) (F_topicRegex : Fld Z h0 mm "com/example/durable_coordinator/durablecoordinator/protocol/ConsumerGroupHeartbeatRequest$Member" "topicRegex" "Ljava/lang/String;" .null) (F_serverAssignor : Fld Z h0 mm "com/example/durable_coordinator/durablecoordinator/protocol/ConsumerGroupHeartbeatRequest$Member" "serverAssignor" "Ljava/lang/String;" .null) (hnv : nv.isRef = true) (cnv : nv.category = 1) (hrv : rv.isRef = true) (crv : rv.category = 1)  :
    Met l Z (⟨"com/example/durable_coordinator/durablecoordinator/protocol/ConsumerGroupHeartbeatRequest$Member", "<init>", "(Ljava/lang/String;Ljava/lang/String;ILjava/util/List;Ljava/lang/String;Ljava/lang/String;)V"⟩ : MethodName) prog_61_method_1_code 7 none ({ frames := 1, cells := 0, slots := 0, locals := 16 } : Room) #[(.ref mm), (.ref sa), .null, (.int tt), nv, rv, .null] h0 (fun v h L => v = none ∧ Chg n0 h0 h [mm] L ∧ Fld Z h mm "com/example/durable_coordinator/durablecoordinator/protocol/ConsumerGroupHeartbeatRequest$Member" "rebalanceTimeoutMs" "I" (.int tt) ∧ Fld Z h mm "com/example/durable_coordinator/durablecoordinator/protocol/ConsumerGroupHeartbeatRequest$Member" "topicNames" "Ljava/util/List;" nv ∧ Fld Z h mm "com/example/durable_coordinator/durablecoordinator/protocol/ConsumerGroupHeartbeatRequest$Member" "topicRegex" "Ljava/lang/String;" rv) := by
  refine Met.intro (plainFor_of_name (by first | (simp [plainName, overriddenIn]; done) | decide +kernel)) ?_
  intro p e s m below meth c T0 hx hby hml hown hnm hret hlk hZ X0 e0
  refine Go.cast (ef_rmMB m mm sa tt nv hnv rv hrv) ?_
  have K0 : Chg n0 h0 h0 [mm] [] := Chg.refl Z0
  refine Go.back (f' := (mkF m 1 #[.val (.ref mm), .val (.ref sa), .val .null, .val (.int tt), .val nv, .val rv, .val .null] [(.ref mm)])) (fun _ k => XS.aloadN X0.here hx rfl (hb hby d9_0) rfl rfl k) ?_
  obtain ⟨T128, X128, e128, st128⟩ := initO X0 hx hZ hown (hw _ (List.mem_of_getElem? (i := 56) rfl)) (hw _ (List.mem_of_getElem? (i := 20) rfl)) (hw _ (List.mem_of_getElem? (i := 21) rfl)) e0 (g := (mkF m 1 #[.val (.ref mm), .val (.ref sa), .val .null, .val (.int tt), .val nv, .val rv, .val .null] [(.ref mm)])) rfl (by rw [hml]; rfl) rfl (hb hby d9_1) (by decide) (W := 0) (by show 2 * 0 + _ ≤ _; exact Nat.le_of_eq rfl) (by decide)
  refine Go.back (f' := (mkF m 4 #[.val (.ref mm), .val (.ref sa), .val .null, .val (.int tt), .val nv, .val rv, .val .null] [])) st128 ?_
  refine Go.back (f' := (mkF m 5 #[.val (.ref mm), .val (.ref sa), .val .null, .val (.int tt), .val nv, .val rv, .val .null] [(.ref mm)])) (fun _ k => XS.aloadN X128.here hx rfl (hb hby d9_4) rfl rfl k) ?_
  refine Go.back (f' := (mkF m 6 #[.val (.ref mm), .val (.ref sa), .val .null, .val (.int tt), .val nv, .val rv, .val .null] [(.ref sa), (.ref mm)])) (fun _ k => XS.aloadN X128.here hx rfl (hb hby d9_5) rfl rfl k) ?_
  obtain ⟨T129, h129, X129, e129, W129, st129⟩ := putF X128 hx hZ hown (host := "") (Or.inl (hw _ (List.mem_of_getElem? (i := 57) rfl))) Via.refl e128 F_instanceId Ex (Or.inr ⟨(hw _ (List.mem_of_getElem? (i := 58) rfl)), rfl, hnm⟩) (hw _ (List.mem_of_getElem? (i := 51) rfl)) (ty := (.object "java/lang/String")) (by decide) rfl rfl (g := (mkF m 6 #[.val (.ref mm), .val (.ref sa), .val .null, .val (.int tt), .val nv, .val rv, .val .null] [(.ref sa), (.ref mm)])) rfl rfl (hb hby d9_6)
  refine Go.back (f' := (mkF m 9 #[.val (.ref mm), .val (.ref sa), .val .null, .val (.int tt), .val nv, .val rv, .val .null] [])) st129 ?_
  have Ex_130 := Ex.wr W129
  have Fl_131 := F_instanceId.same W129
  have Fl_132 := F_rackId.other W129 (Or.inr (slot_ne (Or.inr (hw _ (List.mem_of_getElem? (i := 60) rfl))) (Or.inr (hw _ (List.mem_of_getElem? (i := 58) rfl))) (by decide) (t := (.object "java/lang/String")) (t' := (.object "java/lang/String")) (by decide) (by decide)))
  have Fl_133 := F_rebalanceTimeoutMs.other W129 (Or.inr (slot_ne (Or.inr (hw _ (List.mem_of_getElem? (i := 62) rfl))) (Or.inr (hw _ (List.mem_of_getElem? (i := 58) rfl))) (by decide) (t := .int) (t' := (.object "java/lang/String")) (by decide) (by decide)))
  have Fl_134 := F_topicNames.other W129 (Or.inr (slot_ne (Or.inr (hw _ (List.mem_of_getElem? (i := 64) rfl))) (Or.inr (hw _ (List.mem_of_getElem? (i := 58) rfl))) (by decide) (t := (.object "java/util/List")) (t' := (.object "java/lang/String")) (by decide) (by decide)))
  have Fl_135 := F_topicRegex.other W129 (Or.inr (slot_ne (Or.inr (hw _ (List.mem_of_getElem? (i := 66) rfl))) (Or.inr (hw _ (List.mem_of_getElem? (i := 58) rfl))) (by decide) (t := (.object "java/lang/String")) (t' := (.object "java/lang/String")) (by decide) (by decide)))
  have Fl_136 := F_serverAssignor.other W129 (Or.inr (slot_ne (Or.inr (hw _ (List.mem_of_getElem? (i := 68) rfl))) (Or.inr (hw _ (List.mem_of_getElem? (i := 58) rfl))) (by decide) (t := (.object "java/lang/String")) (t' := (.object "java/lang/String")) (by decide) (by decide)))
  have K_137 := K0.wr W129 (Or.inl (List.mem_of_getElem? (i := 0) rfl)) g_mm
  refine Go.back (f' := (mkF m 10 #[.val (.ref mm), .val (.ref sa), .val .null, .val (.int tt), .val nv, .val rv, .val .null] [(.ref mm)])) (fun _ k => XS.aloadN X129.here hx rfl (hb hby d9_9) rfl rfl k) ?_
  refine Go.back (f' := (mkF m 11 #[.val (.ref mm), .val (.ref sa), .val .null, .val (.int tt), .val nv, .val rv, .val .null] [.null, (.ref mm)])) (fun _ k => XS.aloadN X129.here hx rfl (hb hby d9_10) rfl rfl k) ?_
  obtain ⟨T138, h138, X138, e138, W138, st138⟩ := putF X129 hx hZ hown (host := "") (Or.inl (hw _ (List.mem_of_getElem? (i := 59) rfl))) Via.refl e129 Fl_132 Ex_130 (Or.inr ⟨(hw _ (List.mem_of_getElem? (i := 60) rfl)), rfl, hnm⟩) (hw _ (List.mem_of_getElem? (i := 51) rfl)) (ty := (.object "java/lang/String")) (by decide) rfl rfl (g := (mkF m 11 #[.val (.ref mm), .val (.ref sa), .val .null, .val (.int tt), .val nv, .val rv, .val .null] [.null, (.ref mm)])) rfl rfl (hb hby d9_11)
  refine Go.back (f' := (mkF m 14 #[.val (.ref mm), .val (.ref sa), .val .null, .val (.int tt), .val nv, .val rv, .val .null] [])) st138 ?_
  have Ex_139 := Ex_130.wr W138
  have Fl_140 := Fl_131.other W138 (Or.inr (slot_ne (Or.inr (hw _ (List.mem_of_getElem? (i := 58) rfl))) (Or.inr (hw _ (List.mem_of_getElem? (i := 60) rfl))) (by decide) (t := (.object "java/lang/String")) (t' := (.object "java/lang/String")) (by decide) (by decide)))
  have Fl_141 := Fl_132.same W138
  have Fl_142 := Fl_133.other W138 (Or.inr (slot_ne (Or.inr (hw _ (List.mem_of_getElem? (i := 62) rfl))) (Or.inr (hw _ (List.mem_of_getElem? (i := 60) rfl))) (by decide) (t := .int) (t' := (.object "java/lang/String")) (by decide) (by decide)))
  have Fl_143 := Fl_134.other W138 (Or.inr (slot_ne (Or.inr (hw _ (List.mem_of_getElem? (i := 64) rfl))) (Or.inr (hw _ (List.mem_of_getElem? (i := 60) rfl))) (by decide) (t := (.object "java/util/List")) (t' := (.object "java/lang/String")) (by decide) (by decide)))
  have Fl_144 := Fl_135.other W138 (Or.inr (slot_ne (Or.inr (hw _ (List.mem_of_getElem? (i := 66) rfl))) (Or.inr (hw _ (List.mem_of_getElem? (i := 60) rfl))) (by decide) (t := (.object "java/lang/String")) (t' := (.object "java/lang/String")) (by decide) (by decide)))
  have Fl_145 := Fl_136.other W138 (Or.inr (slot_ne (Or.inr (hw _ (List.mem_of_getElem? (i := 68) rfl))) (Or.inr (hw _ (List.mem_of_getElem? (i := 60) rfl))) (by decide) (t := (.object "java/lang/String")) (t' := (.object "java/lang/String")) (by decide) (by decide)))
  have K_146 := K_137.wr W138 (Or.inl (List.mem_of_getElem? (i := 0) rfl)) g_mm
  refine Go.back (f' := (mkF m 15 #[.val (.ref mm), .val (.ref sa), .val .null, .val (.int tt), .val nv, .val rv, .val .null] [(.ref mm)])) (fun _ k => XS.aloadN X138.here hx rfl (hb hby d9_14) rfl rfl k) ?_
  refine Go.back (f' := (mkF m 16 #[.val (.ref mm), .val (.ref sa), .val .null, .val (.int tt), .val nv, .val rv, .val .null] [(.int tt), (.ref mm)])) (fun _ k => XS.iloadN X138.here hx rfl (hb hby d9_15) rfl k) ?_
  obtain ⟨T147, h147, X147, e147, W147, st147⟩ := putF X138 hx hZ hown (host := "") (Or.inl (hw _ (List.mem_of_getElem? (i := 61) rfl))) Via.refl e138 Fl_142 Ex_139 (Or.inr ⟨(hw _ (List.mem_of_getElem? (i := 62) rfl)), rfl, hnm⟩) (hw _ (List.mem_of_getElem? (i := 51) rfl)) (ty := .int) (by decide) rfl rfl (g := (mkF m 16 #[.val (.ref mm), .val (.ref sa), .val .null, .val (.int tt), .val nv, .val rv, .val .null] [(.int tt), (.ref mm)])) rfl rfl (hb hby d9_16)
  refine Go.back (f' := (mkF m 19 #[.val (.ref mm), .val (.ref sa), .val .null, .val (.int tt), .val nv, .val rv, .val .null] [])) st147 ?_
  have Ex_148 := Ex_139.wr W147
  have Fl_149 := Fl_140.other W147 (Or.inr (slot_ne (Or.inr (hw _ (List.mem_of_getElem? (i := 58) rfl))) (Or.inr (hw _ (List.mem_of_getElem? (i := 62) rfl))) (by decide) (t := (.object "java/lang/String")) (t' := .int) (by decide) (by decide)))
  have Fl_150 := Fl_141.other W147 (Or.inr (slot_ne (Or.inr (hw _ (List.mem_of_getElem? (i := 60) rfl))) (Or.inr (hw _ (List.mem_of_getElem? (i := 62) rfl))) (by decide) (t := (.object "java/lang/String")) (t' := .int) (by decide) (by decide)))
  have Fl_151 := Fl_142.same W147
  have Fl_152 := Fl_143.other W147 (Or.inr (slot_ne (Or.inr (hw _ (List.mem_of_getElem? (i := 64) rfl))) (Or.inr (hw _ (List.mem_of_getElem? (i := 62) rfl))) (by decide) (t := (.object "java/util/List")) (t' := .int) (by decide) (by decide)))
  have Fl_153 := Fl_144.other W147 (Or.inr (slot_ne (Or.inr (hw _ (List.mem_of_getElem? (i := 66) rfl))) (Or.inr (hw _ (List.mem_of_getElem? (i := 62) rfl))) (by decide) (t := (.object "java/lang/String")) (t' := .int) (by decide) (by decide)))
  have Fl_154 := Fl_145.other W147 (Or.inr (slot_ne (Or.inr (hw _ (List.mem_of_getElem? (i := 68) rfl))) (Or.inr (hw _ (List.mem_of_getElem? (i := 62) rfl))) (by decide) (t := (.object "java/lang/String")) (t' := .int) (by decide) (by decide)))
  have K_155 := K_146.wr W147 (Or.inl (List.mem_of_getElem? (i := 0) rfl)) g_mm
  refine Go.back (f' := (mkF m 20 #[.val (.ref mm), .val (.ref sa), .val .null, .val (.int tt), .val nv, .val rv, .val .null] [(.ref mm)])) (fun _ k => XS.aloadN X147.here hx rfl (hb hby d9_19) rfl rfl k) ?_
  refine Go.back (f' := (mkF m 22 #[.val (.ref mm), .val (.ref sa), .val .null, .val (.int tt), .val nv, .val rv, .val .null] [nv, (.ref mm)])) (fun _ k => XS.aload X147.here hx rfl (hb hby d9_20) rfl hnv k) ?_
  obtain ⟨T156, h156, X156, e156, W156, st156⟩ := putF X147 hx hZ hown (host := "") (Or.inl (hw _ (List.mem_of_getElem? (i := 63) rfl))) Via.refl e147 Fl_152 Ex_148 (Or.inr ⟨(hw _ (List.mem_of_getElem? (i := 64) rfl)), rfl, hnm⟩) (hw _ (List.mem_of_getElem? (i := 51) rfl)) (ty := (.object "java/util/List")) (by decide) (Jvm.OwnKit.narrow_ref hnv) (by rcases ref_cases hnv with rfl | ⟨_, rfl⟩ <;> rfl) (g := (mkF m 22 #[.val (.ref mm), .val (.ref sa), .val .null, .val (.int tt), .val nv, .val rv, .val .null] [nv, (.ref mm)])) rfl rfl (hb hby d9_22)
  refine Go.back (f' := (mkF m 25 #[.val (.ref mm), .val (.ref sa), .val .null, .val (.int tt), .val nv, .val rv, .val .null] [])) st156 ?_
  have Ex_157 := Ex_148.wr W156
  have Fl_158 := Fl_149.other W156 (Or.inr (slot_ne (Or.inr (hw _ (List.mem_of_getElem? (i := 58) rfl))) (Or.inr (hw _ (List.mem_of_getElem? (i := 64) rfl))) (by decide) (t := (.object "java/lang/String")) (t' := (.object "java/util/List")) (by decide) (by decide)))
  have Fl_159 := Fl_150.other W156 (Or.inr (slot_ne (Or.inr (hw _ (List.mem_of_getElem? (i := 60) rfl))) (Or.inr (hw _ (List.mem_of_getElem? (i := 64) rfl))) (by decide) (t := (.object "java/lang/String")) (t' := (.object "java/util/List")) (by decide) (by decide)))
  have Fl_160 := Fl_151.other W156 (Or.inr (slot_ne (Or.inr (hw _ (List.mem_of_getElem? (i := 62) rfl))) (Or.inr (hw _ (List.mem_of_getElem? (i := 64) rfl))) (by decide) (t := .int) (t' := (.object "java/util/List")) (by decide) (by decide)))
  have Fl_161 := Fl_152.same W156
  have Fl_162 := Fl_153.other W156 (Or.inr (slot_ne (Or.inr (hw _ (List.mem_of_getElem? (i := 66) rfl))) (Or.inr (hw _ (List.mem_of_getElem? (i := 64) rfl))) (by decide) (t := (.object "java/lang/String")) (t' := (.object "java/util/List")) (by decide) (by decide)))
  have Fl_163 := Fl_154.other W156 (Or.inr (slot_ne (Or.inr (hw _ (List.mem_of_getElem? (i := 68) rfl))) (Or.inr (hw _ (List.mem_of_getElem? (i := 64) rfl))) (by decide) (t := (.object "java/lang/String")) (t' := (.object "java/util/List")) (by decide) (by decide)))
  have K_164 := K_155.wr W156 (Or.inl (List.mem_of_getElem? (i := 0) rfl)) g_mm
  refine Go.back (f' := (mkF m 26 #[.val (.ref mm), .val (.ref sa), .val .null, .val (.int tt), .val nv, .val rv, .val .null] [(.ref mm)])) (fun _ k => XS.aloadN X156.here hx rfl (hb hby d9_25) rfl rfl k) ?_
  refine Go.back (f' := (mkF m 28 #[.val (.ref mm), .val (.ref sa), .val .null, .val (.int tt), .val nv, .val rv, .val .null] [rv, (.ref mm)])) (fun _ k => XS.aload X156.here hx rfl (hb hby d9_26) rfl hrv k) ?_
  obtain ⟨T165, h165, X165, e165, W165, st165⟩ := putF X156 hx hZ hown (host := "") (Or.inl (hw _ (List.mem_of_getElem? (i := 65) rfl))) Via.refl e156 Fl_162 Ex_157 (Or.inr ⟨(hw _ (List.mem_of_getElem? (i := 66) rfl)), rfl, hnm⟩) (hw _ (List.mem_of_getElem? (i := 51) rfl)) (ty := (.object "java/lang/String")) (by decide) (Jvm.OwnKit.narrow_ref hrv) (by rcases ref_cases hrv with rfl | ⟨_, rfl⟩ <;> rfl) (g := (mkF m 28 #[.val (.ref mm), .val (.ref sa), .val .null, .val (.int tt), .val nv, .val rv, .val .null] [rv, (.ref mm)])) rfl rfl (hb hby d9_28)
  refine Go.back (f' := (mkF m 31 #[.val (.ref mm), .val (.ref sa), .val .null, .val (.int tt), .val nv, .val rv, .val .null] [])) st165 ?_
  have Ex_166 := Ex_157.wr W165
  have Fl_167 := Fl_158.other W165 (Or.inr (slot_ne (Or.inr (hw _ (List.mem_of_getElem? (i := 58) rfl))) (Or.inr (hw _ (List.mem_of_getElem? (i := 66) rfl))) (by decide) (t := (.object "java/lang/String")) (t' := (.object "java/lang/String")) (by decide) (by decide)))
  have Fl_168 := Fl_159.other W165 (Or.inr (slot_ne (Or.inr (hw _ (List.mem_of_getElem? (i := 60) rfl))) (Or.inr (hw _ (List.mem_of_getElem? (i := 66) rfl))) (by decide) (t := (.object "java/lang/String")) (t' := (.object "java/lang/String")) (by decide) (by decide)))
  have Fl_169 := Fl_160.other W165 (Or.inr (slot_ne (Or.inr (hw _ (List.mem_of_getElem? (i := 62) rfl))) (Or.inr (hw _ (List.mem_of_getElem? (i := 66) rfl))) (by decide) (t := .int) (t' := (.object "java/lang/String")) (by decide) (by decide)))
  have Fl_170 := Fl_161.other W165 (Or.inr (slot_ne (Or.inr (hw _ (List.mem_of_getElem? (i := 64) rfl))) (Or.inr (hw _ (List.mem_of_getElem? (i := 66) rfl))) (by decide) (t := (.object "java/util/List")) (t' := (.object "java/lang/String")) (by decide) (by decide)))
  have Fl_171 := Fl_162.same W165
  have Fl_172 := Fl_163.other W165 (Or.inr (slot_ne (Or.inr (hw _ (List.mem_of_getElem? (i := 68) rfl))) (Or.inr (hw _ (List.mem_of_getElem? (i := 66) rfl))) (by decide) (t := (.object "java/lang/String")) (t' := (.object "java/lang/String")) (by decide) (by decide)))
  have K_173 := K_164.wr W165 (Or.inl (List.mem_of_getElem? (i := 0) rfl)) g_mm
  refine Go.back (f' := (mkF m 32 #[.val (.ref mm), .val (.ref sa), .val .null, .val (.int tt), .val nv, .val rv, .val .null] [(.ref mm)])) (fun _ k => XS.aloadN X165.here hx rfl (hb hby d9_31) rfl rfl k) ?_
  refine Go.back (f' := (mkF m 34 #[.val (.ref mm), .val (.ref sa), .val .null, .val (.int tt), .val nv, .val rv, .val .null] [.null, (.ref mm)])) (fun _ k => XS.aload X165.here hx rfl (hb hby d9_32) rfl rfl k) ?_
  obtain ⟨T174, h174, X174, e174, W174, st174⟩ := putF X165 hx hZ hown (host := "") (Or.inl (hw _ (List.mem_of_getElem? (i := 67) rfl))) Via.refl e165 Fl_172 Ex_166 (Or.inr ⟨(hw _ (List.mem_of_getElem? (i := 68) rfl)), rfl, hnm⟩) (hw _ (List.mem_of_getElem? (i := 51) rfl)) (ty := (.object "java/lang/String")) (by decide) rfl rfl (g := (mkF m 34 #[.val (.ref mm), .val (.ref sa), .val .null, .val (.int tt), .val nv, .val rv, .val .null] [.null, (.ref mm)])) rfl rfl (hb hby d9_34)
  refine Go.back (f' := (mkF m 37 #[.val (.ref mm), .val (.ref sa), .val .null, .val (.int tt), .val nv, .val rv, .val .null] [])) st174 ?_
  have Ex_175 := Ex_166.wr W174
  have Fl_176 := Fl_167.other W174 (Or.inr (slot_ne (Or.inr (hw _ (List.mem_of_getElem? (i := 58) rfl))) (Or.inr (hw _ (List.mem_of_getElem? (i := 68) rfl))) (by decide) (t := (.object "java/lang/String")) (t' := (.object "java/lang/String")) (by decide) (by decide)))
  have Fl_177 := Fl_168.other W174 (Or.inr (slot_ne (Or.inr (hw _ (List.mem_of_getElem? (i := 60) rfl))) (Or.inr (hw _ (List.mem_of_getElem? (i := 68) rfl))) (by decide) (t := (.object "java/lang/String")) (t' := (.object "java/lang/String")) (by decide) (by decide)))
  have Fl_178 := Fl_169.other W174 (Or.inr (slot_ne (Or.inr (hw _ (List.mem_of_getElem? (i := 62) rfl))) (Or.inr (hw _ (List.mem_of_getElem? (i := 68) rfl))) (by decide) (t := .int) (t' := (.object "java/lang/String")) (by decide) (by decide)))
  have Fl_179 := Fl_170.other W174 (Or.inr (slot_ne (Or.inr (hw _ (List.mem_of_getElem? (i := 64) rfl))) (Or.inr (hw _ (List.mem_of_getElem? (i := 68) rfl))) (by decide) (t := (.object "java/util/List")) (t' := (.object "java/lang/String")) (by decide) (by decide)))
  have Fl_180 := Fl_171.other W174 (Or.inr (slot_ne (Or.inr (hw _ (List.mem_of_getElem? (i := 66) rfl))) (Or.inr (hw _ (List.mem_of_getElem? (i := 68) rfl))) (by decide) (t := (.object "java/lang/String")) (t' := (.object "java/lang/String")) (by decide) (by decide)))
  have Fl_181 := Fl_172.same W174
  have K_182 := K_173.wr W174 (Or.inl (List.mem_of_getElem? (i := 0) rfl)) g_mm
  exact Go.ret0 X174 hx hret hlk (hb hby d9_37) (by (try rw [e174]); exact ⟨rfl, K_182, Fl_178, Fl_179, Fl_180⟩) (Nat.zero_le _) (Nat.zero_le _)
set_option maxHeartbeats 4000000 in
theorem ef_rmRQ (m : MethodId) (x0 : Addr) (x1 : Addr) (x2 : Addr) (x3 : Int32) (x4 : Int32) (x5 : Addr) (x6 : Value) (q6 : x6.isRef = true) : entryFrame m #[(.ref x0), (.ref x1), (.ref x2), (.int x3), (.int x4), (.ref x5), x6] 7 = mkF m 0 #[.val (.ref x0), .val (.ref x1), .val (.ref x2), .val (.int x3), .val (.int x4), .val (.ref x5), .val x6] [] := by rcases ref_cases q6 with rfl | ⟨_, rfl⟩ <;> first | (simp [entryFrame, mkF, argsToLocals, Value.category]; done) | rfl
set_option maxRecDepth 65536 in
set_option maxHeartbeats 40000000 in
theorem rmRQ (l : Launch) (Z : State) (a0 : Array Value) (hw : ∀ d ∈ tables_1, d.before a0 Z = true) (rq sa mm : Addr) (ep mk : Int32) (ov : Value) (n0 : Nat) (h0 : Heap) (Z0 : n0 ≤ h0.size) (Ex : Exa Z h0 rq "com/example/durable_coordinator/durablecoordinator/protocol/ConsumerGroupHeartbeatRequest") (g_rq : n0 ≤ rq) (F_groupId : Fld Z h0 rq "com/example/durable_coordinator/durablecoordinator/protocol/ConsumerGroupHeartbeatRequest" "groupId" "Ljava/lang/String;" .null) (F_memberId : Fld Z h0 rq "com/example/durable_coordinator/durablecoordinator/protocol/ConsumerGroupHeartbeatRequest" "memberId" "Ljava/lang/String;" .null) (F_memberEpoch : Fld Z h0 rq "com/example/durable_coordinator/durablecoordinator/protocol/ConsumerGroupHeartbeatRequest" "memberEpoch" "I" (.int (0 : Int32))) (F_memberMakesItsId : Fld Z h0 rq "com/example/durable_coordinator/durablecoordinator/protocol/ConsumerGroupHeartbeatRequest" "memberMakesItsId" "Z" (.int (0 : Int32))) (F_member : Fld Z h0 rq "com/example/durable_coordinator/durablecoordinator/protocol/ConsumerGroupHeartbeatRequest" "member" "Lcom/example/durable_coordinator/durablecoordinator/protocol/ConsumerGroupHeartbeatRequest$Member;" .null) (F_ownedPartitions : Fld Z h0 rq "com/example/durable_coordinator/durablecoordinator/protocol/ConsumerGroupHeartbeatRequest" "ownedPartitions" "Ljava/util/List;" .null) (hov : ov.isRef = true) (cov : ov.category = 1) (hmk : mk = 0 ∨ mk = 1)  :
    Met l Z (⟨"com/example/durable_coordinator/durablecoordinator/protocol/ConsumerGroupHeartbeatRequest", "<init>", "(Ljava/lang/String;Ljava/lang/String;IZLcom/example/durable_coordinator/durablecoordinator/protocol/ConsumerGroupHeartbeatRequest$Member;Ljava/util/List;)V"⟩ : MethodName) prog_60_method_1_code 7 none ({ frames := 1, cells := 0, slots := 0, locals := 16 } : Room) #[(.ref rq), (.ref sa), (.ref sa), (.int ep), (.int mk), (.ref mm), ov] h0 (fun v h L => v = none ∧ Chg n0 h0 h [rq] L ∧ Fld Z h rq "com/example/durable_coordinator/durablecoordinator/protocol/ConsumerGroupHeartbeatRequest" "member" "Lcom/example/durable_coordinator/durablecoordinator/protocol/ConsumerGroupHeartbeatRequest$Member;" (.ref mm) ∧ Fld Z h rq "com/example/durable_coordinator/durablecoordinator/protocol/ConsumerGroupHeartbeatRequest" "ownedPartitions" "Ljava/util/List;" ov) := by
  refine Met.intro (plainFor_of_name (by first | (simp [plainName, overriddenIn]; done) | decide +kernel)) ?_
  intro p e s m below meth c T0 hx hby hml hown hnm hret hlk hZ X0 e0
  refine Go.cast (ef_rmRQ m rq sa sa ep mk mm ov hov) ?_
  have K0 : Chg n0 h0 h0 [rq] [] := Chg.refl Z0
  refine Go.back (f' := (mkF m 1 #[.val (.ref rq), .val (.ref sa), .val (.ref sa), .val (.int ep), .val (.int mk), .val (.ref mm), .val ov] [(.ref rq)])) (fun _ k => XS.aloadN X0.here hx rfl (hb hby d10_0) rfl rfl k) ?_
  obtain ⟨T183, X183, e183, st183⟩ := initO X0 hx hZ hown (hw _ (List.mem_of_getElem? (i := 75) rfl)) (hw _ (List.mem_of_getElem? (i := 20) rfl)) (hw _ (List.mem_of_getElem? (i := 21) rfl)) e0 (g := (mkF m 1 #[.val (.ref rq), .val (.ref sa), .val (.ref sa), .val (.int ep), .val (.int mk), .val (.ref mm), .val ov] [(.ref rq)])) rfl (by rw [hml]; rfl) rfl (hb hby d10_1) (by decide) (W := 0) (by show 2 * 0 + _ ≤ _; exact Nat.le_of_eq rfl) (by decide)
  refine Go.back (f' := (mkF m 4 #[.val (.ref rq), .val (.ref sa), .val (.ref sa), .val (.int ep), .val (.int mk), .val (.ref mm), .val ov] [])) st183 ?_
  refine Go.back (f' := (mkF m 5 #[.val (.ref rq), .val (.ref sa), .val (.ref sa), .val (.int ep), .val (.int mk), .val (.ref mm), .val ov] [(.ref rq)])) (fun _ k => XS.aloadN X183.here hx rfl (hb hby d10_4) rfl rfl k) ?_
  refine Go.back (f' := (mkF m 6 #[.val (.ref rq), .val (.ref sa), .val (.ref sa), .val (.int ep), .val (.int mk), .val (.ref mm), .val ov] [(.ref sa), (.ref rq)])) (fun _ k => XS.aloadN X183.here hx rfl (hb hby d10_5) rfl rfl k) ?_
  obtain ⟨T184, h184, X184, e184, W184, st184⟩ := putF X183 hx hZ hown (host := "") (Or.inl (hw _ (List.mem_of_getElem? (i := 76) rfl))) Via.refl e183 F_groupId Ex (Or.inr ⟨(hw _ (List.mem_of_getElem? (i := 77) rfl)), rfl, hnm⟩) (hw _ (List.mem_of_getElem? (i := 70) rfl)) (ty := (.object "java/lang/String")) (by decide) rfl rfl (g := (mkF m 6 #[.val (.ref rq), .val (.ref sa), .val (.ref sa), .val (.int ep), .val (.int mk), .val (.ref mm), .val ov] [(.ref sa), (.ref rq)])) rfl rfl (hb hby d10_6)
  refine Go.back (f' := (mkF m 9 #[.val (.ref rq), .val (.ref sa), .val (.ref sa), .val (.int ep), .val (.int mk), .val (.ref mm), .val ov] [])) st184 ?_
  have Ex_185 := Ex.wr W184
  have Fl_186 := F_groupId.same W184
  have Fl_187 := F_memberId.other W184 (Or.inr (slot_ne (Or.inr (hw _ (List.mem_of_getElem? (i := 79) rfl))) (Or.inr (hw _ (List.mem_of_getElem? (i := 77) rfl))) (by decide) (t := (.object "java/lang/String")) (t' := (.object "java/lang/String")) (by decide) (by decide)))
  have Fl_188 := F_memberEpoch.other W184 (Or.inr (slot_ne (Or.inr (hw _ (List.mem_of_getElem? (i := 81) rfl))) (Or.inr (hw _ (List.mem_of_getElem? (i := 77) rfl))) (by decide) (t := .int) (t' := (.object "java/lang/String")) (by decide) (by decide)))
  have Fl_189 := F_memberMakesItsId.other W184 (Or.inr (slot_ne (Or.inr (hw _ (List.mem_of_getElem? (i := 83) rfl))) (Or.inr (hw _ (List.mem_of_getElem? (i := 77) rfl))) (by decide) (t := .boolean) (t' := (.object "java/lang/String")) (by decide) (by decide)))
  have Fl_190 := F_member.other W184 (Or.inr (slot_ne (Or.inr (hw _ (List.mem_of_getElem? (i := 85) rfl))) (Or.inr (hw _ (List.mem_of_getElem? (i := 77) rfl))) (by decide) (t := (.object "com/example/durable_coordinator/durablecoordinator/protocol/ConsumerGroupHeartbeatRequest$Member")) (t' := (.object "java/lang/String")) (by decide) (by decide)))
  have Fl_191 := F_ownedPartitions.other W184 (Or.inr (slot_ne (Or.inr (hw _ (List.mem_of_getElem? (i := 87) rfl))) (Or.inr (hw _ (List.mem_of_getElem? (i := 77) rfl))) (by decide) (t := (.object "java/util/List")) (t' := (.object "java/lang/String")) (by decide) (by decide)))
  have K_192 := K0.wr W184 (Or.inl (List.mem_of_getElem? (i := 0) rfl)) g_rq
  refine Go.back (f' := (mkF m 10 #[.val (.ref rq), .val (.ref sa), .val (.ref sa), .val (.int ep), .val (.int mk), .val (.ref mm), .val ov] [(.ref rq)])) (fun _ k => XS.aloadN X184.here hx rfl (hb hby d10_9) rfl rfl k) ?_
  refine Go.back (f' := (mkF m 11 #[.val (.ref rq), .val (.ref sa), .val (.ref sa), .val (.int ep), .val (.int mk), .val (.ref mm), .val ov] [(.ref sa), (.ref rq)])) (fun _ k => XS.aloadN X184.here hx rfl (hb hby d10_10) rfl rfl k) ?_
  obtain ⟨T193, h193, X193, e193, W193, st193⟩ := putF X184 hx hZ hown (host := "") (Or.inl (hw _ (List.mem_of_getElem? (i := 78) rfl))) Via.refl e184 Fl_187 Ex_185 (Or.inr ⟨(hw _ (List.mem_of_getElem? (i := 79) rfl)), rfl, hnm⟩) (hw _ (List.mem_of_getElem? (i := 70) rfl)) (ty := (.object "java/lang/String")) (by decide) rfl rfl (g := (mkF m 11 #[.val (.ref rq), .val (.ref sa), .val (.ref sa), .val (.int ep), .val (.int mk), .val (.ref mm), .val ov] [(.ref sa), (.ref rq)])) rfl rfl (hb hby d10_11)
  refine Go.back (f' := (mkF m 14 #[.val (.ref rq), .val (.ref sa), .val (.ref sa), .val (.int ep), .val (.int mk), .val (.ref mm), .val ov] [])) st193 ?_
  have Ex_194 := Ex_185.wr W193
  have Fl_195 := Fl_186.other W193 (Or.inr (slot_ne (Or.inr (hw _ (List.mem_of_getElem? (i := 77) rfl))) (Or.inr (hw _ (List.mem_of_getElem? (i := 79) rfl))) (by decide) (t := (.object "java/lang/String")) (t' := (.object "java/lang/String")) (by decide) (by decide)))
  have Fl_196 := Fl_187.same W193
  have Fl_197 := Fl_188.other W193 (Or.inr (slot_ne (Or.inr (hw _ (List.mem_of_getElem? (i := 81) rfl))) (Or.inr (hw _ (List.mem_of_getElem? (i := 79) rfl))) (by decide) (t := .int) (t' := (.object "java/lang/String")) (by decide) (by decide)))
  have Fl_198 := Fl_189.other W193 (Or.inr (slot_ne (Or.inr (hw _ (List.mem_of_getElem? (i := 83) rfl))) (Or.inr (hw _ (List.mem_of_getElem? (i := 79) rfl))) (by decide) (t := .boolean) (t' := (.object "java/lang/String")) (by decide) (by decide)))
  have Fl_199 := Fl_190.other W193 (Or.inr (slot_ne (Or.inr (hw _ (List.mem_of_getElem? (i := 85) rfl))) (Or.inr (hw _ (List.mem_of_getElem? (i := 79) rfl))) (by decide) (t := (.object "com/example/durable_coordinator/durablecoordinator/protocol/ConsumerGroupHeartbeatRequest$Member")) (t' := (.object "java/lang/String")) (by decide) (by decide)))
  have Fl_200 := Fl_191.other W193 (Or.inr (slot_ne (Or.inr (hw _ (List.mem_of_getElem? (i := 87) rfl))) (Or.inr (hw _ (List.mem_of_getElem? (i := 79) rfl))) (by decide) (t := (.object "java/util/List")) (t' := (.object "java/lang/String")) (by decide) (by decide)))
  have K_201 := K_192.wr W193 (Or.inl (List.mem_of_getElem? (i := 0) rfl)) g_rq
  refine Go.back (f' := (mkF m 15 #[.val (.ref rq), .val (.ref sa), .val (.ref sa), .val (.int ep), .val (.int mk), .val (.ref mm), .val ov] [(.ref rq)])) (fun _ k => XS.aloadN X193.here hx rfl (hb hby d10_14) rfl rfl k) ?_
  refine Go.back (f' := (mkF m 16 #[.val (.ref rq), .val (.ref sa), .val (.ref sa), .val (.int ep), .val (.int mk), .val (.ref mm), .val ov] [(.int ep), (.ref rq)])) (fun _ k => XS.iloadN X193.here hx rfl (hb hby d10_15) rfl k) ?_
  obtain ⟨T202, h202, X202, e202, W202, st202⟩ := putF X193 hx hZ hown (host := "") (Or.inl (hw _ (List.mem_of_getElem? (i := 80) rfl))) Via.refl e193 Fl_197 Ex_194 (Or.inr ⟨(hw _ (List.mem_of_getElem? (i := 81) rfl)), rfl, hnm⟩) (hw _ (List.mem_of_getElem? (i := 70) rfl)) (ty := .int) (by decide) rfl rfl (g := (mkF m 16 #[.val (.ref rq), .val (.ref sa), .val (.ref sa), .val (.int ep), .val (.int mk), .val (.ref mm), .val ov] [(.int ep), (.ref rq)])) rfl rfl (hb hby d10_16)
  refine Go.back (f' := (mkF m 19 #[.val (.ref rq), .val (.ref sa), .val (.ref sa), .val (.int ep), .val (.int mk), .val (.ref mm), .val ov] [])) st202 ?_
  have Ex_203 := Ex_194.wr W202
  have Fl_204 := Fl_195.other W202 (Or.inr (slot_ne (Or.inr (hw _ (List.mem_of_getElem? (i := 77) rfl))) (Or.inr (hw _ (List.mem_of_getElem? (i := 81) rfl))) (by decide) (t := (.object "java/lang/String")) (t' := .int) (by decide) (by decide)))
  have Fl_205 := Fl_196.other W202 (Or.inr (slot_ne (Or.inr (hw _ (List.mem_of_getElem? (i := 79) rfl))) (Or.inr (hw _ (List.mem_of_getElem? (i := 81) rfl))) (by decide) (t := (.object "java/lang/String")) (t' := .int) (by decide) (by decide)))
  have Fl_206 := Fl_197.same W202
  have Fl_207 := Fl_198.other W202 (Or.inr (slot_ne (Or.inr (hw _ (List.mem_of_getElem? (i := 83) rfl))) (Or.inr (hw _ (List.mem_of_getElem? (i := 81) rfl))) (by decide) (t := .boolean) (t' := .int) (by decide) (by decide)))
  have Fl_208 := Fl_199.other W202 (Or.inr (slot_ne (Or.inr (hw _ (List.mem_of_getElem? (i := 85) rfl))) (Or.inr (hw _ (List.mem_of_getElem? (i := 81) rfl))) (by decide) (t := (.object "com/example/durable_coordinator/durablecoordinator/protocol/ConsumerGroupHeartbeatRequest$Member")) (t' := .int) (by decide) (by decide)))
  have Fl_209 := Fl_200.other W202 (Or.inr (slot_ne (Or.inr (hw _ (List.mem_of_getElem? (i := 87) rfl))) (Or.inr (hw _ (List.mem_of_getElem? (i := 81) rfl))) (by decide) (t := (.object "java/util/List")) (t' := .int) (by decide) (by decide)))
  have K_210 := K_201.wr W202 (Or.inl (List.mem_of_getElem? (i := 0) rfl)) g_rq
  refine Go.back (f' := (mkF m 20 #[.val (.ref rq), .val (.ref sa), .val (.ref sa), .val (.int ep), .val (.int mk), .val (.ref mm), .val ov] [(.ref rq)])) (fun _ k => XS.aloadN X202.here hx rfl (hb hby d10_19) rfl rfl k) ?_
  refine Go.back (f' := (mkF m 22 #[.val (.ref rq), .val (.ref sa), .val (.ref sa), .val (.int ep), .val (.int mk), .val (.ref mm), .val ov] [(.int mk), (.ref rq)])) (fun _ k => XS.iload X202.here hx rfl (hb hby d10_20) rfl k) ?_
  obtain ⟨T211, h211, X211, e211, W211, st211⟩ := putFN X202 hx hZ hown (hw _ (List.mem_of_getElem? (i := 82) rfl)) Via.refl e202 Fl_207 Ex_203 (Or.inr ⟨(hw _ (List.mem_of_getElem? (i := 83) rfl)), rfl, hnm⟩) (hw _ (List.mem_of_getElem? (i := 70) rfl)) (ty := .boolean) (v' := (.int mk)) (by decide) (by rcases hmk with rfl | rfl <;> rfl) (by rcases hmk with rfl | rfl <;> rfl) (g := (mkF m 22 #[.val (.ref rq), .val (.ref sa), .val (.ref sa), .val (.int ep), .val (.int mk), .val (.ref mm), .val ov] [(.int mk), (.ref rq)])) rfl rfl (hb hby d10_22)
  refine Go.back (f' := (mkF m 25 #[.val (.ref rq), .val (.ref sa), .val (.ref sa), .val (.int ep), .val (.int mk), .val (.ref mm), .val ov] [])) st211 ?_
  have Ex_212 := Ex_203.wr W211
  have Fl_213 := Fl_204.other W211 (Or.inr (slot_ne (Or.inr (hw _ (List.mem_of_getElem? (i := 77) rfl))) (Or.inr (hw _ (List.mem_of_getElem? (i := 83) rfl))) (by decide) (t := (.object "java/lang/String")) (t' := .boolean) (by decide) (by decide)))
  have Fl_214 := Fl_205.other W211 (Or.inr (slot_ne (Or.inr (hw _ (List.mem_of_getElem? (i := 79) rfl))) (Or.inr (hw _ (List.mem_of_getElem? (i := 83) rfl))) (by decide) (t := (.object "java/lang/String")) (t' := .boolean) (by decide) (by decide)))
  have Fl_215 := Fl_206.other W211 (Or.inr (slot_ne (Or.inr (hw _ (List.mem_of_getElem? (i := 81) rfl))) (Or.inr (hw _ (List.mem_of_getElem? (i := 83) rfl))) (by decide) (t := .int) (t' := .boolean) (by decide) (by decide)))
  have Fl_216 := Fl_207.same W211
  have Fl_217 := Fl_208.other W211 (Or.inr (slot_ne (Or.inr (hw _ (List.mem_of_getElem? (i := 85) rfl))) (Or.inr (hw _ (List.mem_of_getElem? (i := 83) rfl))) (by decide) (t := (.object "com/example/durable_coordinator/durablecoordinator/protocol/ConsumerGroupHeartbeatRequest$Member")) (t' := .boolean) (by decide) (by decide)))
  have Fl_218 := Fl_209.other W211 (Or.inr (slot_ne (Or.inr (hw _ (List.mem_of_getElem? (i := 87) rfl))) (Or.inr (hw _ (List.mem_of_getElem? (i := 83) rfl))) (by decide) (t := (.object "java/util/List")) (t' := .boolean) (by decide) (by decide)))
  have K_219 := K_210.wr W211 (Or.inl (List.mem_of_getElem? (i := 0) rfl)) g_rq
  refine Go.back (f' := (mkF m 26 #[.val (.ref rq), .val (.ref sa), .val (.ref sa), .val (.int ep), .val (.int mk), .val (.ref mm), .val ov] [(.ref rq)])) (fun _ k => XS.aloadN X211.here hx rfl (hb hby d10_25) rfl rfl k) ?_
  refine Go.back (f' := (mkF m 28 #[.val (.ref rq), .val (.ref sa), .val (.ref sa), .val (.int ep), .val (.int mk), .val (.ref mm), .val ov] [(.ref mm), (.ref rq)])) (fun _ k => XS.aload X211.here hx rfl (hb hby d10_26) rfl rfl k) ?_
  obtain ⟨T220, h220, X220, e220, W220, st220⟩ := putF X211 hx hZ hown (host := "") (Or.inl (hw _ (List.mem_of_getElem? (i := 84) rfl))) Via.refl e211 Fl_217 Ex_212 (Or.inr ⟨(hw _ (List.mem_of_getElem? (i := 85) rfl)), rfl, hnm⟩) (hw _ (List.mem_of_getElem? (i := 70) rfl)) (ty := (.object "com/example/durable_coordinator/durablecoordinator/protocol/ConsumerGroupHeartbeatRequest$Member")) (by decide) rfl rfl (g := (mkF m 28 #[.val (.ref rq), .val (.ref sa), .val (.ref sa), .val (.int ep), .val (.int mk), .val (.ref mm), .val ov] [(.ref mm), (.ref rq)])) rfl rfl (hb hby d10_28)
  refine Go.back (f' := (mkF m 31 #[.val (.ref rq), .val (.ref sa), .val (.ref sa), .val (.int ep), .val (.int mk), .val (.ref mm), .val ov] [])) st220 ?_
  have Ex_221 := Ex_212.wr W220
  have Fl_222 := Fl_213.other W220 (Or.inr (slot_ne (Or.inr (hw _ (List.mem_of_getElem? (i := 77) rfl))) (Or.inr (hw _ (List.mem_of_getElem? (i := 85) rfl))) (by decide) (t := (.object "java/lang/String")) (t' := (.object "com/example/durable_coordinator/durablecoordinator/protocol/ConsumerGroupHeartbeatRequest$Member")) (by decide) (by decide)))
  have Fl_223 := Fl_214.other W220 (Or.inr (slot_ne (Or.inr (hw _ (List.mem_of_getElem? (i := 79) rfl))) (Or.inr (hw _ (List.mem_of_getElem? (i := 85) rfl))) (by decide) (t := (.object "java/lang/String")) (t' := (.object "com/example/durable_coordinator/durablecoordinator/protocol/ConsumerGroupHeartbeatRequest$Member")) (by decide) (by decide)))
  have Fl_224 := Fl_215.other W220 (Or.inr (slot_ne (Or.inr (hw _ (List.mem_of_getElem? (i := 81) rfl))) (Or.inr (hw _ (List.mem_of_getElem? (i := 85) rfl))) (by decide) (t := .int) (t' := (.object "com/example/durable_coordinator/durablecoordinator/protocol/ConsumerGroupHeartbeatRequest$Member")) (by decide) (by decide)))
  have Fl_225 := Fl_216.other W220 (Or.inr (slot_ne (Or.inr (hw _ (List.mem_of_getElem? (i := 83) rfl))) (Or.inr (hw _ (List.mem_of_getElem? (i := 85) rfl))) (by decide) (t := .boolean) (t' := (.object "com/example/durable_coordinator/durablecoordinator/protocol/ConsumerGroupHeartbeatRequest$Member")) (by decide) (by decide)))
  have Fl_226 := Fl_217.same W220
  have Fl_227 := Fl_218.other W220 (Or.inr (slot_ne (Or.inr (hw _ (List.mem_of_getElem? (i := 87) rfl))) (Or.inr (hw _ (List.mem_of_getElem? (i := 85) rfl))) (by decide) (t := (.object "java/util/List")) (t' := (.object "com/example/durable_coordinator/durablecoordinator/protocol/ConsumerGroupHeartbeatRequest$Member")) (by decide) (by decide)))
  have K_228 := K_219.wr W220 (Or.inl (List.mem_of_getElem? (i := 0) rfl)) g_rq
  refine Go.back (f' := (mkF m 32 #[.val (.ref rq), .val (.ref sa), .val (.ref sa), .val (.int ep), .val (.int mk), .val (.ref mm), .val ov] [(.ref rq)])) (fun _ k => XS.aloadN X220.here hx rfl (hb hby d10_31) rfl rfl k) ?_
  refine Go.back (f' := (mkF m 34 #[.val (.ref rq), .val (.ref sa), .val (.ref sa), .val (.int ep), .val (.int mk), .val (.ref mm), .val ov] [ov, (.ref rq)])) (fun _ k => XS.aload X220.here hx rfl (hb hby d10_32) rfl hov k) ?_
  obtain ⟨T229, h229, X229, e229, W229, st229⟩ := putF X220 hx hZ hown (host := "") (Or.inl (hw _ (List.mem_of_getElem? (i := 86) rfl))) Via.refl e220 Fl_227 Ex_221 (Or.inr ⟨(hw _ (List.mem_of_getElem? (i := 87) rfl)), rfl, hnm⟩) (hw _ (List.mem_of_getElem? (i := 70) rfl)) (ty := (.object "java/util/List")) (by decide) (Jvm.OwnKit.narrow_ref hov) (by rcases ref_cases hov with rfl | ⟨_, rfl⟩ <;> rfl) (g := (mkF m 34 #[.val (.ref rq), .val (.ref sa), .val (.ref sa), .val (.int ep), .val (.int mk), .val (.ref mm), .val ov] [ov, (.ref rq)])) rfl rfl (hb hby d10_34)
  refine Go.back (f' := (mkF m 37 #[.val (.ref rq), .val (.ref sa), .val (.ref sa), .val (.int ep), .val (.int mk), .val (.ref mm), .val ov] [])) st229 ?_
  have Ex_230 := Ex_221.wr W229
  have Fl_231 := Fl_222.other W229 (Or.inr (slot_ne (Or.inr (hw _ (List.mem_of_getElem? (i := 77) rfl))) (Or.inr (hw _ (List.mem_of_getElem? (i := 87) rfl))) (by decide) (t := (.object "java/lang/String")) (t' := (.object "java/util/List")) (by decide) (by decide)))
  have Fl_232 := Fl_223.other W229 (Or.inr (slot_ne (Or.inr (hw _ (List.mem_of_getElem? (i := 79) rfl))) (Or.inr (hw _ (List.mem_of_getElem? (i := 87) rfl))) (by decide) (t := (.object "java/lang/String")) (t' := (.object "java/util/List")) (by decide) (by decide)))
  have Fl_233 := Fl_224.other W229 (Or.inr (slot_ne (Or.inr (hw _ (List.mem_of_getElem? (i := 81) rfl))) (Or.inr (hw _ (List.mem_of_getElem? (i := 87) rfl))) (by decide) (t := .int) (t' := (.object "java/util/List")) (by decide) (by decide)))
  have Fl_234 := Fl_225.other W229 (Or.inr (slot_ne (Or.inr (hw _ (List.mem_of_getElem? (i := 83) rfl))) (Or.inr (hw _ (List.mem_of_getElem? (i := 87) rfl))) (by decide) (t := .boolean) (t' := (.object "java/util/List")) (by decide) (by decide)))
  have Fl_235 := Fl_226.other W229 (Or.inr (slot_ne (Or.inr (hw _ (List.mem_of_getElem? (i := 85) rfl))) (Or.inr (hw _ (List.mem_of_getElem? (i := 87) rfl))) (by decide) (t := (.object "com/example/durable_coordinator/durablecoordinator/protocol/ConsumerGroupHeartbeatRequest$Member")) (t' := (.object "java/util/List")) (by decide) (by decide)))
  have Fl_236 := Fl_227.same W229
  have K_237 := K_228.wr W229 (Or.inl (List.mem_of_getElem? (i := 0) rfl)) g_rq
  exact Go.ret0 X229 hx hret hlk (hb hby d10_37) (by (try rw [e229]); exact ⟨rfl, K_237, Fl_235, Fl_236⟩) (Nat.zero_le _) (Nat.zero_le _)
theorem ef_rmIF (m : MethodId) (x0 : Addr) : entryFrame m #[(.ref x0)] 1 = mkF m 0 #[.val (.ref x0)] [] := by first | (simp [entryFrame, mkF, argsToLocals, Value.category]; done) | rfl
set_option maxRecDepth 65536 in
set_option maxHeartbeats 40000000 in
theorem rmIF (l : Launch) (Z : State) (a0 : Array Value) (hw : ∀ d ∈ tables_1, d.before a0 Z = true) (rq mm : Addr) (tt : Int32) (nv rv ov : Value) (h0 : Heap) (Q_member : Fld Z h0 rq "com/example/durable_coordinator/durablecoordinator/protocol/ConsumerGroupHeartbeatRequest" "member" "Lcom/example/durable_coordinator/durablecoordinator/protocol/ConsumerGroupHeartbeatRequest$Member;" (.ref mm)) (Q_ownedPartitions : Fld Z h0 rq "com/example/durable_coordinator/durablecoordinator/protocol/ConsumerGroupHeartbeatRequest" "ownedPartitions" "Ljava/util/List;" ov) (Q_rebalanceTimeoutMs : Fld Z h0 mm "com/example/durable_coordinator/durablecoordinator/protocol/ConsumerGroupHeartbeatRequest$Member" "rebalanceTimeoutMs" "I" (.int tt)) (Q_topicNames : Fld Z h0 mm "com/example/durable_coordinator/durablecoordinator/protocol/ConsumerGroupHeartbeatRequest$Member" "topicNames" "Ljava/util/List;" nv) (Q_topicRegex : Fld Z h0 mm "com/example/durable_coordinator/durablecoordinator/protocol/ConsumerGroupHeartbeatRequest$Member" "topicRegex" "Ljava/lang/String;" rv) (hnv : nv.isRef = true) (cnv : nv.category = 1) (hrv : rv.isRef = true) (crv : rv.category = 1) (hov : ov.isRef = true) (cov : ov.category = 1)  :
    Met l Z (⟨"com/example/durable_coordinator/durablecoordinator/protocol/ConsumerGroupHeartbeatRequest", "isFull", "()Z"⟩ : MethodName) prog_60_method_9_code 1 (some .boolean) ({ frames := 0, cells := 0, slots := 0, locals := 0 } : Room) #[(.ref rq)] h0 (fun v h L => ∃ g : Int32, v = some (.int g) ∧ (g = 0 ∨ g = 1) ∧ (g = 1 ↔ (¬ tt = -1 ∧ (¬ nv = .null ∨ ¬ rv = .null) ∧ ¬ ov = .null)) ∧ L = [] ∧ h = h0) := by
  refine Met.intro (plainFor_of_name (by first | (simp [plainName, overriddenIn]; done) | decide +kernel)) ?_
  intro p e s m below meth c T0 hx hby hml hown hnm hret hlk hZ X0 e0
  refine Go.cast (ef_rmIF m rq) ?_
  refine Go.back (f' := (mkF m 1 #[.val (.ref rq)] [(.ref rq)])) (fun _ k => XS.aloadN X0.here hx rfl (hb hby d11_0) rfl rfl k) ?_
  obtain ⟨T238, X238, e238, st238⟩ := getF X0 hx hZ hown (host := "") (Or.inl (hw _ (List.mem_of_getElem? (i := 84) rfl))) Via.refl e0 Q_member (g := (mkF m 1 #[.val (.ref rq)] [(.ref rq)])) rfl rfl (hb hby d11_1)
  refine Go.back (f' := (mkF m 4 #[.val (.ref rq)] [(.ref mm)])) st238 ?_
  refine Go.back (f' := (mkF m 7 #[.val (.ref rq)] [(.int tt)])) (getFR X238 hx hZ hown (hw _ (List.mem_of_getElem? (i := 93) rfl)) e238 Q_rebalanceTimeoutMs (g := (mkF m 4 #[.val (.ref rq)] [(.ref mm)])) rfl rfl (hb hby d11_4)) ?_
  refine Go.back (f' := (mkF m 8 #[.val (.ref rq)] [(.int (-1 : Int32)), (.int tt)])) (fun _ k => XS.iconst X238.here hx rfl (hb hby d11_7) k) ?_
  by_cases h1 : tt = (-1 : Int32)
  · refine Go.back (f' := (mkF m 42 #[.val (.ref rq)] [])) (fun _ k => XS.icmpYes X238.here hx rfl (pc0 := 8) (pc' := 42) rfl (hb hby d11_8) rfl (teq h1).1 (by decide) (by decide) k) ?_
    refine Go.back (f' := (mkF m 43 #[.val (.ref rq)] [(.int (0 : Int32))])) (fun _ k => XS.iconst X238.here hx rfl (hb hby d11_42) k) ?_
    exact Go.retN X238 hx (t := .boolean) hret (by simp) (w := (0 : Int32)) rfl hlk (hb hby d11_43) (by (try rw [e238]); exact ⟨0, rfl, Or.inl rfl, ⟨fun q => absurd q (by decide), fun q => absurd h1 q.1⟩, rfl, rfl⟩) (Nat.zero_le _) (Nat.zero_le _)
  · refine Go.back (f' := (mkF m 11 #[.val (.ref rq)] [])) (fun _ k => XS.icmpNo X238.here hx rfl (hb hby d11_8) rfl (feq h1).1 k) ?_
    refine Go.back (f' := (mkF m 12 #[.val (.ref rq)] [(.ref rq)])) (fun _ k => XS.aloadN X238.here hx rfl (hb hby d11_11) rfl rfl k) ?_
    obtain ⟨T239, X239, e239, st239⟩ := getF X238 hx hZ hown (host := "") (Or.inl (hw _ (List.mem_of_getElem? (i := 84) rfl))) Via.refl e238 Q_member (g := (mkF m 12 #[.val (.ref rq)] [(.ref rq)])) rfl rfl (hb hby d11_12)
    refine Go.back (f' := (mkF m 15 #[.val (.ref rq)] [(.ref mm)])) st239 ?_
    refine Go.back (f' := (mkF m 18 #[.val (.ref rq)] [nv])) (getFR X239 hx hZ hown (hw _ (List.mem_of_getElem? (i := 137) rfl)) e239 Q_topicNames (g := (mkF m 15 #[.val (.ref rq)] [(.ref mm)])) rfl rfl (hb hby d11_15)) ?_
    rcases ref_cases hnv with rfl | ⟨nvx, rfl⟩
    · refine Go.back (f' := (mkF m 21 #[.val (.ref rq)] [])) (fun _ k => XS.ifnonnullNo X239.here hx rfl (hb hby d11_18) rfl k) ?_
      refine Go.back (f' := (mkF m 22 #[.val (.ref rq)] [(.ref rq)])) (fun _ k => XS.aloadN X239.here hx rfl (hb hby d11_21) rfl rfl k) ?_
      obtain ⟨T240, X240, e240, st240⟩ := getF X239 hx hZ hown (host := "") (Or.inl (hw _ (List.mem_of_getElem? (i := 84) rfl))) Via.refl e239 Q_member (g := (mkF m 22 #[.val (.ref rq)] [(.ref rq)])) rfl rfl (hb hby d11_22)
      refine Go.back (f' := (mkF m 25 #[.val (.ref rq)] [(.ref mm)])) st240 ?_
      refine Go.back (f' := (mkF m 28 #[.val (.ref rq)] [rv])) (getFR X240 hx hZ hown (hw _ (List.mem_of_getElem? (i := 141) rfl)) e240 Q_topicRegex (g := (mkF m 25 #[.val (.ref rq)] [(.ref mm)])) rfl rfl (hb hby d11_25)) ?_
      rcases ref_cases hrv with rfl | ⟨rvx, rfl⟩
      · refine Go.back (f' := (mkF m 42 #[.val (.ref rq)] [])) (fun _ k => XS.ifnullYes X240.here hx rfl (pc0 := 28) (pc' := 42) rfl (hb hby d11_28) rfl (by decide) (by decide) k) ?_
        refine Go.back (f' := (mkF m 43 #[.val (.ref rq)] [(.int (0 : Int32))])) (fun _ k => XS.iconst X240.here hx rfl (hb hby d11_42) k) ?_
        exact Go.retN X240 hx (t := .boolean) hret (by simp) (w := (0 : Int32)) rfl hlk (hb hby d11_43) (by (try rw [e240]); exact ⟨0, rfl, Or.inl rfl, ⟨fun q => absurd q (by decide), fun q => q.2.1.elim (fun z => absurd rfl z) (fun z => absurd rfl z)⟩, rfl, rfl⟩) (Nat.zero_le _) (Nat.zero_le _)
      · refine Go.back (f' := (mkF m 31 #[.val (.ref rq)] [])) (fun _ k => XS.ifnullNo X240.here hx rfl (hb hby d11_28) rfl k) ?_
        refine Go.back (f' := (mkF m 32 #[.val (.ref rq)] [(.ref rq)])) (fun _ k => XS.aloadN X240.here hx rfl (hb hby d11_31) rfl rfl k) ?_
        obtain ⟨T241, X241, e241, st241⟩ := getF X240 hx hZ hown (host := "") (Or.inl (hw _ (List.mem_of_getElem? (i := 86) rfl))) Via.refl e240 Q_ownedPartitions (g := (mkF m 32 #[.val (.ref rq)] [(.ref rq)])) rfl rfl (hb hby d11_32)
        refine Go.back (f' := (mkF m 35 #[.val (.ref rq)] [ov])) st241 ?_
        rcases ref_cases hov with rfl | ⟨ovx, rfl⟩
        · refine Go.back (f' := (mkF m 42 #[.val (.ref rq)] [])) (fun _ k => XS.ifnullYes X241.here hx rfl (pc0 := 35) (pc' := 42) rfl (hb hby d11_35) rfl (by decide) (by decide) k) ?_
          refine Go.back (f' := (mkF m 43 #[.val (.ref rq)] [(.int (0 : Int32))])) (fun _ k => XS.iconst X241.here hx rfl (hb hby d11_42) k) ?_
          exact Go.retN X241 hx (t := .boolean) hret (by simp) (w := (0 : Int32)) rfl hlk (hb hby d11_43) (by (try rw [e241]); exact ⟨0, rfl, Or.inl rfl, ⟨fun q => absurd q (by decide), fun q => absurd rfl q.2.2⟩, rfl, rfl⟩) (Nat.zero_le _) (Nat.zero_le _)
        · refine Go.back (f' := (mkF m 38 #[.val (.ref rq)] [])) (fun _ k => XS.ifnullNo X241.here hx rfl (hb hby d11_35) rfl k) ?_
          refine Go.back (f' := (mkF m 39 #[.val (.ref rq)] [(.int (1 : Int32))])) (fun _ k => XS.iconst X241.here hx rfl (hb hby d11_38) k) ?_
          refine Go.back (f' := (mkF m 43 #[.val (.ref rq)] [(.int (1 : Int32))])) (fun _ k => XS.goto X241.here hx rfl (pc0 := 39) (pc' := 43) rfl (hb hby d11_39) (by decide) (by decide) k) ?_
          exact Go.retN X241 hx (t := .boolean) hret (by simp) (w := (1 : Int32)) rfl hlk (hb hby d11_43) (by (try rw [e241]); exact ⟨1, rfl, Or.inr rfl, ⟨fun _ => ⟨h1, Or.inr (fun z => (by cases z)), fun z => (by cases z)⟩, fun _ => rfl⟩, rfl, rfl⟩) (Nat.zero_le _) (Nat.zero_le _)
    · refine Go.back (f' := (mkF m 31 #[.val (.ref rq)] [])) (fun _ k => XS.ifnonnullYes X239.here hx rfl (pc0 := 18) (pc' := 31) rfl (hb hby d11_18) rfl (by decide) (by decide) k) ?_
      refine Go.back (f' := (mkF m 32 #[.val (.ref rq)] [(.ref rq)])) (fun _ k => XS.aloadN X239.here hx rfl (hb hby d11_31) rfl rfl k) ?_
      obtain ⟨T242, X242, e242, st242⟩ := getF X239 hx hZ hown (host := "") (Or.inl (hw _ (List.mem_of_getElem? (i := 86) rfl))) Via.refl e239 Q_ownedPartitions (g := (mkF m 32 #[.val (.ref rq)] [(.ref rq)])) rfl rfl (hb hby d11_32)
      refine Go.back (f' := (mkF m 35 #[.val (.ref rq)] [ov])) st242 ?_
      rcases ref_cases hov with rfl | ⟨ovx, rfl⟩
      · refine Go.back (f' := (mkF m 42 #[.val (.ref rq)] [])) (fun _ k => XS.ifnullYes X242.here hx rfl (pc0 := 35) (pc' := 42) rfl (hb hby d11_35) rfl (by decide) (by decide) k) ?_
        refine Go.back (f' := (mkF m 43 #[.val (.ref rq)] [(.int (0 : Int32))])) (fun _ k => XS.iconst X242.here hx rfl (hb hby d11_42) k) ?_
        exact Go.retN X242 hx (t := .boolean) hret (by simp) (w := (0 : Int32)) rfl hlk (hb hby d11_43) (by (try rw [e242]); exact ⟨0, rfl, Or.inl rfl, ⟨fun q => absurd q (by decide), fun q => absurd rfl q.2.2⟩, rfl, rfl⟩) (Nat.zero_le _) (Nat.zero_le _)
      · refine Go.back (f' := (mkF m 38 #[.val (.ref rq)] [])) (fun _ k => XS.ifnullNo X242.here hx rfl (hb hby d11_35) rfl k) ?_
        refine Go.back (f' := (mkF m 39 #[.val (.ref rq)] [(.int (1 : Int32))])) (fun _ k => XS.iconst X242.here hx rfl (hb hby d11_38) k) ?_
        refine Go.back (f' := (mkF m 43 #[.val (.ref rq)] [(.int (1 : Int32))])) (fun _ k => XS.goto X242.here hx rfl (pc0 := 39) (pc' := 43) rfl (hb hby d11_39) (by decide) (by decide) k) ?_
        exact Go.retN X242 hx (t := .boolean) hret (by simp) (w := (1 : Int32)) rfl hlk (hb hby d11_43) (by (try rw [e242]); exact ⟨1, rfl, Or.inr rfl, ⟨fun _ => ⟨h1, Or.inl (fun z => (by cases z)), fun z => (by cases z)⟩, fun _ => rfl⟩, rfl, rfl⟩) (Nat.zero_le _) (Nat.zero_le _)
theorem ef_rm0 (m : MethodId) (x0 : Int32) (x1 : Int32) (x2 : Int32) (x3 : Int32) : entryFrame m #[(.int x0), (.int x1), (.int x2), (.int x3)] maxLocals = mkF m 0 #[.val (.int x0), .val (.int x1), .val (.int x2), .val (.int x3), .unset, .unset, .unset, .unset, .unset, .unset, .unset, .unset, .unset, .unset, .unset, .unset, .unset, .unset, .unset, .unset, .unset] [] := by first | (simp [entryFrame, mkF, argsToLocals, Value.category, maxLocals]; done) | rfl
set_option maxRecDepth 65536 in
set_option maxHeartbeats 40000000 in
theorem rm0 (l : Launch) (Z : State) (a0 : Array Value) (hw : ∀ d ∈ tables_1, d.before a0 Z = true) (p0 p1 p2 p3 cz : Int32) (de : Addr) (SC : Sta Z Z.heap "java/lang/String" "COMPACT_STRINGS" "Z" (.int cz)) (hcz : ¬ cz = 0) (SDz : Sta Z Z.heap "java/util/ArrayList" "DEFAULTCAPACITY_EMPTY_ELEMENTDATA" "[Ljava/lang/Object;" (.ref de)) (ADz : VArr Z Z.heap de (.object "java/lang/Object") []) :
    MetW l Z x code maxLocals ret room_1 #[(.int p0), (.int p1), (.int p2), (.int p3)] Z.heap (fun v h L => v = some (.int 1) ∧ Fr Z.heap.size L) := by
  refine MetW.intro (plainFor_of_name (by first | (simp [plainName, overriddenIn]; done) | decide +kernel)) ?_
  intro p e m below meth c T0 hx hby hml hown hnm hret hlk X0 e0
  refine Go.cast (ef_rm0 m p0 p1 p2 p3) ?_
  have hml : c.maxLocals = 21 := hml
  have hZ : Z.Warmed39 (Z.setVm Z.vm).vm := State.Warmed39.refl Z
  obtain ⟨h0, hh0⟩ : ∃ h0, h0 = Z.heap := ⟨_, rfl⟩
  rw [← hh0] at e0
  have hS : Z.Since Z.vm 0 := (State.WarmedH.refl Z).since 0
  have hk : 0 ≤ h0.size := Nat.zero_le _
  have wS : ∀ a ∈ Bundle.stringAtoms, a.before a0 Z = true := by
    intro d hd
    simp only [Bundle.stringAtoms, List.mem_cons, List.not_mem_nil, or_false] at hd
    rcases hd with rfl | rfl | rfl | rfl | rfl | rfl | rfl
    · exact (hw _ (List.mem_of_getElem? (i := 2) rfl))
    · exact (hw _ (List.mem_of_getElem? (i := 10) rfl))
    · exact (hw _ (List.mem_of_getElem? (i := 14) rfl))
    · exact (hw _ (List.mem_of_getElem? (i := 23) rfl))
    · exact (hw _ (List.mem_of_getElem? (i := 25) rfl))
    · exact (hw _ (List.mem_of_getElem? (i := 139) rfl))
    · exact (hw _ (List.mem_of_getElem? (i := 140) rfl))
  rw [← hh0] at SC SDz ADz
  have K0 : Chg h0.size h0 h0 [] [] := Chg.refl (Nat.le_refl _)
  refine Go.back (f' := (mkF m 1 #[.val (.int p0), .val (.int p1), .val (.int p2), .val (.int p3), .unset, .unset, .unset, .unset, .unset, .unset, .unset, .unset, .unset, .unset, .unset, .unset, .unset, .unset, .unset, .unset, .unset] [(.int p1)])) (fun _ k => XS.iloadN X0.here hx rfl (hb hby at_0) rfl k) ?_
  refine Go.back (f' := (mkF m 2 #[.val (.int p0), .val (.int p1), .val (.int p2), .val (.int p3), .unset, .unset, .unset, .unset, .unset, .unset, .unset, .unset, .unset, .unset, .unset, .unset, .unset, .unset, .unset, .unset, .unset] [(.int (1 : Int32)), (.int p1)])) (fun _ k => XS.iconst X0.here hx rfl (hb hby at_1) k) ?_
  refine Go.back (f' := (mkF m 3 #[.val (.int p0), .val (.int p1), .val (.int p2), .val (.int p3), .unset, .unset, .unset, .unset, .unset, .unset, .unset, .unset, .unset, .unset, .unset, .unset, .unset, .unset, .unset, .unset, .unset] [(.int (p1 &&& (1 : Int32)))])) (fun _ k => XS.iand X0.here hx rfl (hb hby at_2) rfl k) ?_
  suffices jd : ∀ b1 : Int32, b1 = (if (p1 &&& (1 : Int32)) = 0 then (0 : Int32) else (1 : Int32)) → GoW p e below Z (fun v h L => v = some (.int 1) ∧ Fr Z.heap.size L) room_1.cells room_1.slots T0 (mkF m 11 #[.val (.int p0), .val (.int p1), .val (.int p2), .val (.int p3), .unset, .unset, .unset, .unset, .unset, .unset, .unset, .unset, .unset, .unset, .unset, .unset, .unset, .unset, .unset, .unset, .unset] [(.int b1)]) by
    by_cases hp_b1 : (p1 &&& (1 : Int32)) = 0
    · refine Go.back (f' := (mkF m 10 #[.val (.int p0), .val (.int p1), .val (.int p2), .val (.int p3), .unset, .unset, .unset, .unset, .unset, .unset, .unset, .unset, .unset, .unset, .unset, .unset, .unset, .unset, .unset, .unset, .unset] [])) (fun _ k => XS.ifYes X0.here hx rfl (pc0 := 3) (pc' := 10) rfl (hb hby at_3) rfl ((if0 _ _).trans (teq hp_b1).1) (by decide) (by decide) k) ?_
      refine Go.back (f' := (mkF m 11 #[.val (.int p0), .val (.int p1), .val (.int p2), .val (.int p3), .unset, .unset, .unset, .unset, .unset, .unset, .unset, .unset, .unset, .unset, .unset, .unset, .unset, .unset, .unset, .unset, .unset] [(.int (0 : Int32))])) (fun _ k => XS.iconst X0.here hx rfl (hb hby at_10) k) ?_
      exact jd _ (by rw [if_pos hp_b1])
    · refine Go.back (f' := (mkF m 6 #[.val (.int p0), .val (.int p1), .val (.int p2), .val (.int p3), .unset, .unset, .unset, .unset, .unset, .unset, .unset, .unset, .unset, .unset, .unset, .unset, .unset, .unset, .unset, .unset, .unset] [])) (fun _ k => XS.ifNo X0.here hx rfl (hb hby at_3) rfl ((if0 _ _).trans (feq hp_b1).1) k) ?_
      refine Go.back (f' := (mkF m 7 #[.val (.int p0), .val (.int p1), .val (.int p2), .val (.int p3), .unset, .unset, .unset, .unset, .unset, .unset, .unset, .unset, .unset, .unset, .unset, .unset, .unset, .unset, .unset, .unset, .unset] [(.int (1 : Int32))])) (fun _ k => XS.iconst X0.here hx rfl (hb hby at_6) k) ?_
      refine Go.back (f' := (mkF m 11 #[.val (.int p0), .val (.int p1), .val (.int p2), .val (.int p3), .unset, .unset, .unset, .unset, .unset, .unset, .unset, .unset, .unset, .unset, .unset, .unset, .unset, .unset, .unset, .unset, .unset] [(.int (1 : Int32))])) (fun _ k => XS.goto X0.here hx rfl (pc0 := 7) (pc' := 11) rfl (hb hby at_7) (by decide) (by decide) k) ?_
      exact jd _ (by rw [if_neg hp_b1])
  intro b1 h_b1
  refine Go.back (f' := (mkF m 13 #[.val (.int p0), .val (.int p1), .val (.int p2), .val (.int p3), .val (.int b1), .unset, .unset, .unset, .unset, .unset, .unset, .unset, .unset, .unset, .unset, .unset, .unset, .unset, .unset, .unset, .unset] [])) (fun _ k => XS.istore X0.here hx rfl (hb hby at_11) rfl (l' := #[.val (.int p0), .val (.int p1), .val (.int p2), .val (.int p3), .val (.int b1), .unset, .unset, .unset, .unset, .unset, .unset, .unset, .unset, .unset, .unset, .unset, .unset, .unset, .unset, .unset, .unset]) rfl k) ?_
  refine Go.back (f' := (mkF m 14 #[.val (.int p0), .val (.int p1), .val (.int p2), .val (.int p3), .val (.int b1), .unset, .unset, .unset, .unset, .unset, .unset, .unset, .unset, .unset, .unset, .unset, .unset, .unset, .unset, .unset, .unset] [(.int p1)])) (fun _ k => XS.iloadN X0.here hx rfl (hb hby at_13) rfl k) ?_
  refine Go.back (f' := (mkF m 15 #[.val (.int p0), .val (.int p1), .val (.int p2), .val (.int p3), .val (.int b1), .unset, .unset, .unset, .unset, .unset, .unset, .unset, .unset, .unset, .unset, .unset, .unset, .unset, .unset, .unset, .unset] [(.int (2 : Int32)), (.int p1)])) (fun _ k => XS.iconst X0.here hx rfl (hb hby at_14) k) ?_
  refine Go.back (f' := (mkF m 16 #[.val (.int p0), .val (.int p1), .val (.int p2), .val (.int p3), .val (.int b1), .unset, .unset, .unset, .unset, .unset, .unset, .unset, .unset, .unset, .unset, .unset, .unset, .unset, .unset, .unset, .unset] [(.int (p1 &&& (2 : Int32)))])) (fun _ k => XS.iand X0.here hx rfl (hb hby at_15) rfl k) ?_
  suffices jd : ∀ b2 : Int32, b2 = (if (p1 &&& (2 : Int32)) = 0 then (0 : Int32) else (1 : Int32)) → GoW p e below Z (fun v h L => v = some (.int 1) ∧ Fr Z.heap.size L) room_1.cells room_1.slots T0 (mkF m 24 #[.val (.int p0), .val (.int p1), .val (.int p2), .val (.int p3), .val (.int b1), .unset, .unset, .unset, .unset, .unset, .unset, .unset, .unset, .unset, .unset, .unset, .unset, .unset, .unset, .unset, .unset] [(.int b2)]) by
    by_cases hp_b2 : (p1 &&& (2 : Int32)) = 0
    · refine Go.back (f' := (mkF m 23 #[.val (.int p0), .val (.int p1), .val (.int p2), .val (.int p3), .val (.int b1), .unset, .unset, .unset, .unset, .unset, .unset, .unset, .unset, .unset, .unset, .unset, .unset, .unset, .unset, .unset, .unset] [])) (fun _ k => XS.ifYes X0.here hx rfl (pc0 := 16) (pc' := 23) rfl (hb hby at_16) rfl ((if0 _ _).trans (teq hp_b2).1) (by decide) (by decide) k) ?_
      refine Go.back (f' := (mkF m 24 #[.val (.int p0), .val (.int p1), .val (.int p2), .val (.int p3), .val (.int b1), .unset, .unset, .unset, .unset, .unset, .unset, .unset, .unset, .unset, .unset, .unset, .unset, .unset, .unset, .unset, .unset] [(.int (0 : Int32))])) (fun _ k => XS.iconst X0.here hx rfl (hb hby at_23) k) ?_
      exact jd _ (by rw [if_pos hp_b2])
    · refine Go.back (f' := (mkF m 19 #[.val (.int p0), .val (.int p1), .val (.int p2), .val (.int p3), .val (.int b1), .unset, .unset, .unset, .unset, .unset, .unset, .unset, .unset, .unset, .unset, .unset, .unset, .unset, .unset, .unset, .unset] [])) (fun _ k => XS.ifNo X0.here hx rfl (hb hby at_16) rfl ((if0 _ _).trans (feq hp_b2).1) k) ?_
      refine Go.back (f' := (mkF m 20 #[.val (.int p0), .val (.int p1), .val (.int p2), .val (.int p3), .val (.int b1), .unset, .unset, .unset, .unset, .unset, .unset, .unset, .unset, .unset, .unset, .unset, .unset, .unset, .unset, .unset, .unset] [(.int (1 : Int32))])) (fun _ k => XS.iconst X0.here hx rfl (hb hby at_19) k) ?_
      refine Go.back (f' := (mkF m 24 #[.val (.int p0), .val (.int p1), .val (.int p2), .val (.int p3), .val (.int b1), .unset, .unset, .unset, .unset, .unset, .unset, .unset, .unset, .unset, .unset, .unset, .unset, .unset, .unset, .unset, .unset] [(.int (1 : Int32))])) (fun _ k => XS.goto X0.here hx rfl (pc0 := 20) (pc' := 24) rfl (hb hby at_20) (by decide) (by decide) k) ?_
      exact jd _ (by rw [if_neg hp_b2])
  intro b2 h_b2
  refine Go.back (f' := (mkF m 26 #[.val (.int p0), .val (.int p1), .val (.int p2), .val (.int p3), .val (.int b1), .val (.int b2), .unset, .unset, .unset, .unset, .unset, .unset, .unset, .unset, .unset, .unset, .unset, .unset, .unset, .unset, .unset] [])) (fun _ k => XS.istore X0.here hx rfl (hb hby at_24) rfl (l' := #[.val (.int p0), .val (.int p1), .val (.int p2), .val (.int p3), .val (.int b1), .val (.int b2), .unset, .unset, .unset, .unset, .unset, .unset, .unset, .unset, .unset, .unset, .unset, .unset, .unset, .unset, .unset]) rfl k) ?_
  refine Go.back (f' := (mkF m 27 #[.val (.int p0), .val (.int p1), .val (.int p2), .val (.int p3), .val (.int b1), .val (.int b2), .unset, .unset, .unset, .unset, .unset, .unset, .unset, .unset, .unset, .unset, .unset, .unset, .unset, .unset, .unset] [(.int p1)])) (fun _ k => XS.iloadN X0.here hx rfl (hb hby at_26) rfl k) ?_
  refine Go.back (f' := (mkF m 28 #[.val (.int p0), .val (.int p1), .val (.int p2), .val (.int p3), .val (.int b1), .val (.int b2), .unset, .unset, .unset, .unset, .unset, .unset, .unset, .unset, .unset, .unset, .unset, .unset, .unset, .unset, .unset] [(.int (4 : Int32)), (.int p1)])) (fun _ k => XS.iconst X0.here hx rfl (hb hby at_27) k) ?_
  refine Go.back (f' := (mkF m 29 #[.val (.int p0), .val (.int p1), .val (.int p2), .val (.int p3), .val (.int b1), .val (.int b2), .unset, .unset, .unset, .unset, .unset, .unset, .unset, .unset, .unset, .unset, .unset, .unset, .unset, .unset, .unset] [(.int (p1 &&& (4 : Int32)))])) (fun _ k => XS.iand X0.here hx rfl (hb hby at_28) rfl k) ?_
  suffices jd : ∀ b3 : Int32, b3 = (if (p1 &&& (4 : Int32)) = 0 then (0 : Int32) else (1 : Int32)) → GoW p e below Z (fun v h L => v = some (.int 1) ∧ Fr Z.heap.size L) room_1.cells room_1.slots T0 (mkF m 37 #[.val (.int p0), .val (.int p1), .val (.int p2), .val (.int p3), .val (.int b1), .val (.int b2), .unset, .unset, .unset, .unset, .unset, .unset, .unset, .unset, .unset, .unset, .unset, .unset, .unset, .unset, .unset] [(.int b3)]) by
    by_cases hp_b3 : (p1 &&& (4 : Int32)) = 0
    · refine Go.back (f' := (mkF m 36 #[.val (.int p0), .val (.int p1), .val (.int p2), .val (.int p3), .val (.int b1), .val (.int b2), .unset, .unset, .unset, .unset, .unset, .unset, .unset, .unset, .unset, .unset, .unset, .unset, .unset, .unset, .unset] [])) (fun _ k => XS.ifYes X0.here hx rfl (pc0 := 29) (pc' := 36) rfl (hb hby at_29) rfl ((if0 _ _).trans (teq hp_b3).1) (by decide) (by decide) k) ?_
      refine Go.back (f' := (mkF m 37 #[.val (.int p0), .val (.int p1), .val (.int p2), .val (.int p3), .val (.int b1), .val (.int b2), .unset, .unset, .unset, .unset, .unset, .unset, .unset, .unset, .unset, .unset, .unset, .unset, .unset, .unset, .unset] [(.int (0 : Int32))])) (fun _ k => XS.iconst X0.here hx rfl (hb hby at_36) k) ?_
      exact jd _ (by rw [if_pos hp_b3])
    · refine Go.back (f' := (mkF m 32 #[.val (.int p0), .val (.int p1), .val (.int p2), .val (.int p3), .val (.int b1), .val (.int b2), .unset, .unset, .unset, .unset, .unset, .unset, .unset, .unset, .unset, .unset, .unset, .unset, .unset, .unset, .unset] [])) (fun _ k => XS.ifNo X0.here hx rfl (hb hby at_29) rfl ((if0 _ _).trans (feq hp_b3).1) k) ?_
      refine Go.back (f' := (mkF m 33 #[.val (.int p0), .val (.int p1), .val (.int p2), .val (.int p3), .val (.int b1), .val (.int b2), .unset, .unset, .unset, .unset, .unset, .unset, .unset, .unset, .unset, .unset, .unset, .unset, .unset, .unset, .unset] [(.int (1 : Int32))])) (fun _ k => XS.iconst X0.here hx rfl (hb hby at_32) k) ?_
      refine Go.back (f' := (mkF m 37 #[.val (.int p0), .val (.int p1), .val (.int p2), .val (.int p3), .val (.int b1), .val (.int b2), .unset, .unset, .unset, .unset, .unset, .unset, .unset, .unset, .unset, .unset, .unset, .unset, .unset, .unset, .unset] [(.int (1 : Int32))])) (fun _ k => XS.goto X0.here hx rfl (pc0 := 33) (pc' := 37) rfl (hb hby at_33) (by decide) (by decide) k) ?_
      exact jd _ (by rw [if_neg hp_b3])
  intro b3 h_b3
  refine Go.back (f' := (mkF m 39 #[.val (.int p0), .val (.int p1), .val (.int p2), .val (.int p3), .val (.int b1), .val (.int b2), .val (.int b3), .unset, .unset, .unset, .unset, .unset, .unset, .unset, .unset, .unset, .unset, .unset, .unset, .unset, .unset] [])) (fun _ k => XS.istore X0.here hx rfl (hb hby at_37) rfl (l' := #[.val (.int p0), .val (.int p1), .val (.int p2), .val (.int p3), .val (.int b1), .val (.int b2), .val (.int b3), .unset, .unset, .unset, .unset, .unset, .unset, .unset, .unset, .unset, .unset, .unset, .unset, .unset, .unset]) rfl k) ?_
  refine Go.back (f' := (mkF m 40 #[.val (.int p0), .val (.int p1), .val (.int p2), .val (.int p3), .val (.int b1), .val (.int b2), .val (.int b3), .unset, .unset, .unset, .unset, .unset, .unset, .unset, .unset, .unset, .unset, .unset, .unset, .unset, .unset] [(.int p1)])) (fun _ k => XS.iloadN X0.here hx rfl (hb hby at_39) rfl k) ?_
  refine Go.back (f' := (mkF m 42 #[.val (.int p0), .val (.int p1), .val (.int p2), .val (.int p3), .val (.int b1), .val (.int b2), .val (.int b3), .unset, .unset, .unset, .unset, .unset, .unset, .unset, .unset, .unset, .unset, .unset, .unset, .unset, .unset] [(.int (8 : Int32)), (.int p1)])) (fun _ k => XS.bipush X0.here hx rfl (hb hby at_40) k) ?_
  refine Go.back (f' := (mkF m 43 #[.val (.int p0), .val (.int p1), .val (.int p2), .val (.int p3), .val (.int b1), .val (.int b2), .val (.int b3), .unset, .unset, .unset, .unset, .unset, .unset, .unset, .unset, .unset, .unset, .unset, .unset, .unset, .unset] [(.int (p1 &&& (8 : Int32)))])) (fun _ k => XS.iand X0.here hx rfl (hb hby at_42) rfl k) ?_
  suffices jd : ∀ b4 : Int32, b4 = (if (p1 &&& (8 : Int32)) = 0 then (0 : Int32) else (1 : Int32)) → GoW p e below Z (fun v h L => v = some (.int 1) ∧ Fr Z.heap.size L) room_1.cells room_1.slots T0 (mkF m 51 #[.val (.int p0), .val (.int p1), .val (.int p2), .val (.int p3), .val (.int b1), .val (.int b2), .val (.int b3), .unset, .unset, .unset, .unset, .unset, .unset, .unset, .unset, .unset, .unset, .unset, .unset, .unset, .unset] [(.int b4)]) by
    by_cases hp_b4 : (p1 &&& (8 : Int32)) = 0
    · refine Go.back (f' := (mkF m 50 #[.val (.int p0), .val (.int p1), .val (.int p2), .val (.int p3), .val (.int b1), .val (.int b2), .val (.int b3), .unset, .unset, .unset, .unset, .unset, .unset, .unset, .unset, .unset, .unset, .unset, .unset, .unset, .unset] [])) (fun _ k => XS.ifYes X0.here hx rfl (pc0 := 43) (pc' := 50) rfl (hb hby at_43) rfl ((if0 _ _).trans (teq hp_b4).1) (by decide) (by decide) k) ?_
      refine Go.back (f' := (mkF m 51 #[.val (.int p0), .val (.int p1), .val (.int p2), .val (.int p3), .val (.int b1), .val (.int b2), .val (.int b3), .unset, .unset, .unset, .unset, .unset, .unset, .unset, .unset, .unset, .unset, .unset, .unset, .unset, .unset] [(.int (0 : Int32))])) (fun _ k => XS.iconst X0.here hx rfl (hb hby at_50) k) ?_
      exact jd _ (by rw [if_pos hp_b4])
    · refine Go.back (f' := (mkF m 46 #[.val (.int p0), .val (.int p1), .val (.int p2), .val (.int p3), .val (.int b1), .val (.int b2), .val (.int b3), .unset, .unset, .unset, .unset, .unset, .unset, .unset, .unset, .unset, .unset, .unset, .unset, .unset, .unset] [])) (fun _ k => XS.ifNo X0.here hx rfl (hb hby at_43) rfl ((if0 _ _).trans (feq hp_b4).1) k) ?_
      refine Go.back (f' := (mkF m 47 #[.val (.int p0), .val (.int p1), .val (.int p2), .val (.int p3), .val (.int b1), .val (.int b2), .val (.int b3), .unset, .unset, .unset, .unset, .unset, .unset, .unset, .unset, .unset, .unset, .unset, .unset, .unset, .unset] [(.int (1 : Int32))])) (fun _ k => XS.iconst X0.here hx rfl (hb hby at_46) k) ?_
      refine Go.back (f' := (mkF m 51 #[.val (.int p0), .val (.int p1), .val (.int p2), .val (.int p3), .val (.int b1), .val (.int b2), .val (.int b3), .unset, .unset, .unset, .unset, .unset, .unset, .unset, .unset, .unset, .unset, .unset, .unset, .unset, .unset] [(.int (1 : Int32))])) (fun _ k => XS.goto X0.here hx rfl (pc0 := 47) (pc' := 51) rfl (hb hby at_47) (by decide) (by decide) k) ?_
      exact jd _ (by rw [if_neg hp_b4])
  intro b4 h_b4
  refine Go.back (f' := (mkF m 53 #[.val (.int p0), .val (.int p1), .val (.int p2), .val (.int p3), .val (.int b1), .val (.int b2), .val (.int b3), .val (.int b4), .unset, .unset, .unset, .unset, .unset, .unset, .unset, .unset, .unset, .unset, .unset, .unset, .unset] [])) (fun _ k => XS.istore X0.here hx rfl (hb hby at_51) rfl (l' := #[.val (.int p0), .val (.int p1), .val (.int p2), .val (.int p3), .val (.int b1), .val (.int b2), .val (.int b3), .val (.int b4), .unset, .unset, .unset, .unset, .unset, .unset, .unset, .unset, .unset, .unset, .unset, .unset, .unset]) rfl k) ?_
  refine Go.back (f' := (mkF m 54 #[.val (.int p0), .val (.int p1), .val (.int p2), .val (.int p3), .val (.int b1), .val (.int b2), .val (.int b3), .val (.int b4), .unset, .unset, .unset, .unset, .unset, .unset, .unset, .unset, .unset, .unset, .unset, .unset, .unset] [(.int p1)])) (fun _ k => XS.iloadN X0.here hx rfl (hb hby at_53) rfl k) ?_
  refine Go.back (f' := (mkF m 56 #[.val (.int p0), .val (.int p1), .val (.int p2), .val (.int p3), .val (.int b1), .val (.int b2), .val (.int b3), .val (.int b4), .unset, .unset, .unset, .unset, .unset, .unset, .unset, .unset, .unset, .unset, .unset, .unset, .unset] [(.int (16 : Int32)), (.int p1)])) (fun _ k => XS.bipush X0.here hx rfl (hb hby at_54) k) ?_
  refine Go.back (f' := (mkF m 57 #[.val (.int p0), .val (.int p1), .val (.int p2), .val (.int p3), .val (.int b1), .val (.int b2), .val (.int b3), .val (.int b4), .unset, .unset, .unset, .unset, .unset, .unset, .unset, .unset, .unset, .unset, .unset, .unset, .unset] [(.int (p1 &&& (16 : Int32)))])) (fun _ k => XS.iand X0.here hx rfl (hb hby at_56) rfl k) ?_
  suffices jd : ∀ b5 : Int32, b5 = (if (p1 &&& (16 : Int32)) = 0 then (0 : Int32) else (1 : Int32)) → GoW p e below Z (fun v h L => v = some (.int 1) ∧ Fr Z.heap.size L) room_1.cells room_1.slots T0 (mkF m 65 #[.val (.int p0), .val (.int p1), .val (.int p2), .val (.int p3), .val (.int b1), .val (.int b2), .val (.int b3), .val (.int b4), .unset, .unset, .unset, .unset, .unset, .unset, .unset, .unset, .unset, .unset, .unset, .unset, .unset] [(.int b5)]) by
    by_cases hp_b5 : (p1 &&& (16 : Int32)) = 0
    · refine Go.back (f' := (mkF m 64 #[.val (.int p0), .val (.int p1), .val (.int p2), .val (.int p3), .val (.int b1), .val (.int b2), .val (.int b3), .val (.int b4), .unset, .unset, .unset, .unset, .unset, .unset, .unset, .unset, .unset, .unset, .unset, .unset, .unset] [])) (fun _ k => XS.ifYes X0.here hx rfl (pc0 := 57) (pc' := 64) rfl (hb hby at_57) rfl ((if0 _ _).trans (teq hp_b5).1) (by decide) (by decide) k) ?_
      refine Go.back (f' := (mkF m 65 #[.val (.int p0), .val (.int p1), .val (.int p2), .val (.int p3), .val (.int b1), .val (.int b2), .val (.int b3), .val (.int b4), .unset, .unset, .unset, .unset, .unset, .unset, .unset, .unset, .unset, .unset, .unset, .unset, .unset] [(.int (0 : Int32))])) (fun _ k => XS.iconst X0.here hx rfl (hb hby at_64) k) ?_
      exact jd _ (by rw [if_pos hp_b5])
    · refine Go.back (f' := (mkF m 60 #[.val (.int p0), .val (.int p1), .val (.int p2), .val (.int p3), .val (.int b1), .val (.int b2), .val (.int b3), .val (.int b4), .unset, .unset, .unset, .unset, .unset, .unset, .unset, .unset, .unset, .unset, .unset, .unset, .unset] [])) (fun _ k => XS.ifNo X0.here hx rfl (hb hby at_57) rfl ((if0 _ _).trans (feq hp_b5).1) k) ?_
      refine Go.back (f' := (mkF m 61 #[.val (.int p0), .val (.int p1), .val (.int p2), .val (.int p3), .val (.int b1), .val (.int b2), .val (.int b3), .val (.int b4), .unset, .unset, .unset, .unset, .unset, .unset, .unset, .unset, .unset, .unset, .unset, .unset, .unset] [(.int (1 : Int32))])) (fun _ k => XS.iconst X0.here hx rfl (hb hby at_60) k) ?_
      refine Go.back (f' := (mkF m 65 #[.val (.int p0), .val (.int p1), .val (.int p2), .val (.int p3), .val (.int b1), .val (.int b2), .val (.int b3), .val (.int b4), .unset, .unset, .unset, .unset, .unset, .unset, .unset, .unset, .unset, .unset, .unset, .unset, .unset] [(.int (1 : Int32))])) (fun _ k => XS.goto X0.here hx rfl (pc0 := 61) (pc' := 65) rfl (hb hby at_61) (by decide) (by decide) k) ?_
      exact jd _ (by rw [if_neg hp_b5])
  intro b5 h_b5
  refine Go.back (f' := (mkF m 67 #[.val (.int p0), .val (.int p1), .val (.int p2), .val (.int p3), .val (.int b1), .val (.int b2), .val (.int b3), .val (.int b4), .val (.int b5), .unset, .unset, .unset, .unset, .unset, .unset, .unset, .unset, .unset, .unset, .unset, .unset] [])) (fun _ k => XS.istore X0.here hx rfl (hb hby at_65) rfl (l' := #[.val (.int p0), .val (.int p1), .val (.int p2), .val (.int p3), .val (.int b1), .val (.int b2), .val (.int b3), .val (.int b4), .val (.int b5), .unset, .unset, .unset, .unset, .unset, .unset, .unset, .unset, .unset, .unset, .unset, .unset]) rfl k) ?_
  refine Go.back (f' := (mkF m 68 #[.val (.int p0), .val (.int p1), .val (.int p2), .val (.int p3), .val (.int b1), .val (.int b2), .val (.int b3), .val (.int b4), .val (.int b5), .unset, .unset, .unset, .unset, .unset, .unset, .unset, .unset, .unset, .unset, .unset, .unset] [(.int p1)])) (fun _ k => XS.iloadN X0.here hx rfl (hb hby at_67) rfl k) ?_
  refine Go.back (f' := (mkF m 70 #[.val (.int p0), .val (.int p1), .val (.int p2), .val (.int p3), .val (.int b1), .val (.int b2), .val (.int b3), .val (.int b4), .val (.int b5), .unset, .unset, .unset, .unset, .unset, .unset, .unset, .unset, .unset, .unset, .unset, .unset] [(.int (32 : Int32)), (.int p1)])) (fun _ k => XS.bipush X0.here hx rfl (hb hby at_68) k) ?_
  refine Go.back (f' := (mkF m 71 #[.val (.int p0), .val (.int p1), .val (.int p2), .val (.int p3), .val (.int b1), .val (.int b2), .val (.int b3), .val (.int b4), .val (.int b5), .unset, .unset, .unset, .unset, .unset, .unset, .unset, .unset, .unset, .unset, .unset, .unset] [(.int (p1 &&& (32 : Int32)))])) (fun _ k => XS.iand X0.here hx rfl (hb hby at_70) rfl k) ?_
  suffices jd : ∀ b6 : Int32, b6 = (if (p1 &&& (32 : Int32)) = 0 then (0 : Int32) else (1 : Int32)) → GoW p e below Z (fun v h L => v = some (.int 1) ∧ Fr Z.heap.size L) room_1.cells room_1.slots T0 (mkF m 79 #[.val (.int p0), .val (.int p1), .val (.int p2), .val (.int p3), .val (.int b1), .val (.int b2), .val (.int b3), .val (.int b4), .val (.int b5), .unset, .unset, .unset, .unset, .unset, .unset, .unset, .unset, .unset, .unset, .unset, .unset] [(.int b6)]) by
    by_cases hp_b6 : (p1 &&& (32 : Int32)) = 0
    · refine Go.back (f' := (mkF m 78 #[.val (.int p0), .val (.int p1), .val (.int p2), .val (.int p3), .val (.int b1), .val (.int b2), .val (.int b3), .val (.int b4), .val (.int b5), .unset, .unset, .unset, .unset, .unset, .unset, .unset, .unset, .unset, .unset, .unset, .unset] [])) (fun _ k => XS.ifYes X0.here hx rfl (pc0 := 71) (pc' := 78) rfl (hb hby at_71) rfl ((if0 _ _).trans (teq hp_b6).1) (by decide) (by decide) k) ?_
      refine Go.back (f' := (mkF m 79 #[.val (.int p0), .val (.int p1), .val (.int p2), .val (.int p3), .val (.int b1), .val (.int b2), .val (.int b3), .val (.int b4), .val (.int b5), .unset, .unset, .unset, .unset, .unset, .unset, .unset, .unset, .unset, .unset, .unset, .unset] [(.int (0 : Int32))])) (fun _ k => XS.iconst X0.here hx rfl (hb hby at_78) k) ?_
      exact jd _ (by rw [if_pos hp_b6])
    · refine Go.back (f' := (mkF m 74 #[.val (.int p0), .val (.int p1), .val (.int p2), .val (.int p3), .val (.int b1), .val (.int b2), .val (.int b3), .val (.int b4), .val (.int b5), .unset, .unset, .unset, .unset, .unset, .unset, .unset, .unset, .unset, .unset, .unset, .unset] [])) (fun _ k => XS.ifNo X0.here hx rfl (hb hby at_71) rfl ((if0 _ _).trans (feq hp_b6).1) k) ?_
      refine Go.back (f' := (mkF m 75 #[.val (.int p0), .val (.int p1), .val (.int p2), .val (.int p3), .val (.int b1), .val (.int b2), .val (.int b3), .val (.int b4), .val (.int b5), .unset, .unset, .unset, .unset, .unset, .unset, .unset, .unset, .unset, .unset, .unset, .unset] [(.int (1 : Int32))])) (fun _ k => XS.iconst X0.here hx rfl (hb hby at_74) k) ?_
      refine Go.back (f' := (mkF m 79 #[.val (.int p0), .val (.int p1), .val (.int p2), .val (.int p3), .val (.int b1), .val (.int b2), .val (.int b3), .val (.int b4), .val (.int b5), .unset, .unset, .unset, .unset, .unset, .unset, .unset, .unset, .unset, .unset, .unset, .unset] [(.int (1 : Int32))])) (fun _ k => XS.goto X0.here hx rfl (pc0 := 75) (pc' := 79) rfl (hb hby at_75) (by decide) (by decide) k) ?_
      exact jd _ (by rw [if_neg hp_b6])
  intro b6 h_b6
  refine Go.back (f' := (mkF m 81 #[.val (.int p0), .val (.int p1), .val (.int p2), .val (.int p3), .val (.int b1), .val (.int b2), .val (.int b3), .val (.int b4), .val (.int b5), .val (.int b6), .unset, .unset, .unset, .unset, .unset, .unset, .unset, .unset, .unset, .unset, .unset] [])) (fun _ k => XS.istore X0.here hx rfl (hb hby at_79) rfl (l' := #[.val (.int p0), .val (.int p1), .val (.int p2), .val (.int p3), .val (.int b1), .val (.int b2), .val (.int b3), .val (.int b4), .val (.int b5), .val (.int b6), .unset, .unset, .unset, .unset, .unset, .unset, .unset, .unset, .unset, .unset, .unset]) rfl k) ?_
  refine Go.back (f' := (mkF m 82 #[.val (.int p0), .val (.int p1), .val (.int p2), .val (.int p3), .val (.int b1), .val (.int b2), .val (.int b3), .val (.int b4), .val (.int b5), .val (.int b6), .unset, .unset, .unset, .unset, .unset, .unset, .unset, .unset, .unset, .unset, .unset] [(.int p1)])) (fun _ k => XS.iloadN X0.here hx rfl (hb hby at_81) rfl k) ?_
  refine Go.back (f' := (mkF m 84 #[.val (.int p0), .val (.int p1), .val (.int p2), .val (.int p3), .val (.int b1), .val (.int b2), .val (.int b3), .val (.int b4), .val (.int b5), .val (.int b6), .unset, .unset, .unset, .unset, .unset, .unset, .unset, .unset, .unset, .unset, .unset] [(.int (64 : Int32)), (.int p1)])) (fun _ k => XS.bipush X0.here hx rfl (hb hby at_82) k) ?_
  refine Go.back (f' := (mkF m 85 #[.val (.int p0), .val (.int p1), .val (.int p2), .val (.int p3), .val (.int b1), .val (.int b2), .val (.int b3), .val (.int b4), .val (.int b5), .val (.int b6), .unset, .unset, .unset, .unset, .unset, .unset, .unset, .unset, .unset, .unset, .unset] [(.int (p1 &&& (64 : Int32)))])) (fun _ k => XS.iand X0.here hx rfl (hb hby at_84) rfl k) ?_
  suffices jd : ∀ b7 : Int32, b7 = (if (p1 &&& (64 : Int32)) = 0 then (0 : Int32) else (1 : Int32)) → GoW p e below Z (fun v h L => v = some (.int 1) ∧ Fr Z.heap.size L) room_1.cells room_1.slots T0 (mkF m 93 #[.val (.int p0), .val (.int p1), .val (.int p2), .val (.int p3), .val (.int b1), .val (.int b2), .val (.int b3), .val (.int b4), .val (.int b5), .val (.int b6), .unset, .unset, .unset, .unset, .unset, .unset, .unset, .unset, .unset, .unset, .unset] [(.int b7)]) by
    by_cases hp_b7 : (p1 &&& (64 : Int32)) = 0
    · refine Go.back (f' := (mkF m 92 #[.val (.int p0), .val (.int p1), .val (.int p2), .val (.int p3), .val (.int b1), .val (.int b2), .val (.int b3), .val (.int b4), .val (.int b5), .val (.int b6), .unset, .unset, .unset, .unset, .unset, .unset, .unset, .unset, .unset, .unset, .unset] [])) (fun _ k => XS.ifYes X0.here hx rfl (pc0 := 85) (pc' := 92) rfl (hb hby at_85) rfl ((if0 _ _).trans (teq hp_b7).1) (by decide) (by decide) k) ?_
      refine Go.back (f' := (mkF m 93 #[.val (.int p0), .val (.int p1), .val (.int p2), .val (.int p3), .val (.int b1), .val (.int b2), .val (.int b3), .val (.int b4), .val (.int b5), .val (.int b6), .unset, .unset, .unset, .unset, .unset, .unset, .unset, .unset, .unset, .unset, .unset] [(.int (0 : Int32))])) (fun _ k => XS.iconst X0.here hx rfl (hb hby at_92) k) ?_
      exact jd _ (by rw [if_pos hp_b7])
    · refine Go.back (f' := (mkF m 88 #[.val (.int p0), .val (.int p1), .val (.int p2), .val (.int p3), .val (.int b1), .val (.int b2), .val (.int b3), .val (.int b4), .val (.int b5), .val (.int b6), .unset, .unset, .unset, .unset, .unset, .unset, .unset, .unset, .unset, .unset, .unset] [])) (fun _ k => XS.ifNo X0.here hx rfl (hb hby at_85) rfl ((if0 _ _).trans (feq hp_b7).1) k) ?_
      refine Go.back (f' := (mkF m 89 #[.val (.int p0), .val (.int p1), .val (.int p2), .val (.int p3), .val (.int b1), .val (.int b2), .val (.int b3), .val (.int b4), .val (.int b5), .val (.int b6), .unset, .unset, .unset, .unset, .unset, .unset, .unset, .unset, .unset, .unset, .unset] [(.int (1 : Int32))])) (fun _ k => XS.iconst X0.here hx rfl (hb hby at_88) k) ?_
      refine Go.back (f' := (mkF m 93 #[.val (.int p0), .val (.int p1), .val (.int p2), .val (.int p3), .val (.int b1), .val (.int b2), .val (.int b3), .val (.int b4), .val (.int b5), .val (.int b6), .unset, .unset, .unset, .unset, .unset, .unset, .unset, .unset, .unset, .unset, .unset] [(.int (1 : Int32))])) (fun _ k => XS.goto X0.here hx rfl (pc0 := 89) (pc' := 93) rfl (hb hby at_89) (by decide) (by decide) k) ?_
      exact jd _ (by rw [if_neg hp_b7])
  intro b7 h_b7
  refine Go.back (f' := (mkF m 95 #[.val (.int p0), .val (.int p1), .val (.int p2), .val (.int p3), .val (.int b1), .val (.int b2), .val (.int b3), .val (.int b4), .val (.int b5), .val (.int b6), .val (.int b7), .unset, .unset, .unset, .unset, .unset, .unset, .unset, .unset, .unset, .unset] [])) (fun _ k => XS.istore X0.here hx rfl (hb hby at_93) rfl (l' := #[.val (.int p0), .val (.int p1), .val (.int p2), .val (.int p3), .val (.int b1), .val (.int b2), .val (.int b3), .val (.int b4), .val (.int b5), .val (.int b6), .val (.int b7), .unset, .unset, .unset, .unset, .unset, .unset, .unset, .unset, .unset, .unset]) rfl k) ?_
  refine Go.back (f' := (mkF m 96 #[.val (.int p0), .val (.int p1), .val (.int p2), .val (.int p3), .val (.int b1), .val (.int b2), .val (.int b3), .val (.int b4), .val (.int b5), .val (.int b6), .val (.int b7), .unset, .unset, .unset, .unset, .unset, .unset, .unset, .unset, .unset, .unset] [(.int p1)])) (fun _ k => XS.iloadN X0.here hx rfl (hb hby at_95) rfl k) ?_
  refine Go.back (f' := (mkF m 99 #[.val (.int p0), .val (.int p1), .val (.int p2), .val (.int p3), .val (.int b1), .val (.int b2), .val (.int b3), .val (.int b4), .val (.int b5), .val (.int b6), .val (.int b7), .unset, .unset, .unset, .unset, .unset, .unset, .unset, .unset, .unset, .unset] [(.int (128 : Int32)), (.int p1)])) (fun _ k => XS.sipush X0.here hx rfl (hb hby at_96) k) ?_
  refine Go.back (f' := (mkF m 100 #[.val (.int p0), .val (.int p1), .val (.int p2), .val (.int p3), .val (.int b1), .val (.int b2), .val (.int b3), .val (.int b4), .val (.int b5), .val (.int b6), .val (.int b7), .unset, .unset, .unset, .unset, .unset, .unset, .unset, .unset, .unset, .unset] [(.int (p1 &&& (128 : Int32)))])) (fun _ k => XS.iand X0.here hx rfl (hb hby at_99) rfl k) ?_
  suffices jd : ∀ b8 : Int32, b8 = (if (p1 &&& (128 : Int32)) = 0 then (0 : Int32) else (1 : Int32)) → GoW p e below Z (fun v h L => v = some (.int 1) ∧ Fr Z.heap.size L) room_1.cells room_1.slots T0 (mkF m 108 #[.val (.int p0), .val (.int p1), .val (.int p2), .val (.int p3), .val (.int b1), .val (.int b2), .val (.int b3), .val (.int b4), .val (.int b5), .val (.int b6), .val (.int b7), .unset, .unset, .unset, .unset, .unset, .unset, .unset, .unset, .unset, .unset] [(.int b8)]) by
    by_cases hp_b8 : (p1 &&& (128 : Int32)) = 0
    · refine Go.back (f' := (mkF m 107 #[.val (.int p0), .val (.int p1), .val (.int p2), .val (.int p3), .val (.int b1), .val (.int b2), .val (.int b3), .val (.int b4), .val (.int b5), .val (.int b6), .val (.int b7), .unset, .unset, .unset, .unset, .unset, .unset, .unset, .unset, .unset, .unset] [])) (fun _ k => XS.ifYes X0.here hx rfl (pc0 := 100) (pc' := 107) rfl (hb hby at_100) rfl ((if0 _ _).trans (teq hp_b8).1) (by decide) (by decide) k) ?_
      refine Go.back (f' := (mkF m 108 #[.val (.int p0), .val (.int p1), .val (.int p2), .val (.int p3), .val (.int b1), .val (.int b2), .val (.int b3), .val (.int b4), .val (.int b5), .val (.int b6), .val (.int b7), .unset, .unset, .unset, .unset, .unset, .unset, .unset, .unset, .unset, .unset] [(.int (0 : Int32))])) (fun _ k => XS.iconst X0.here hx rfl (hb hby at_107) k) ?_
      exact jd _ (by rw [if_pos hp_b8])
    · refine Go.back (f' := (mkF m 103 #[.val (.int p0), .val (.int p1), .val (.int p2), .val (.int p3), .val (.int b1), .val (.int b2), .val (.int b3), .val (.int b4), .val (.int b5), .val (.int b6), .val (.int b7), .unset, .unset, .unset, .unset, .unset, .unset, .unset, .unset, .unset, .unset] [])) (fun _ k => XS.ifNo X0.here hx rfl (hb hby at_100) rfl ((if0 _ _).trans (feq hp_b8).1) k) ?_
      refine Go.back (f' := (mkF m 104 #[.val (.int p0), .val (.int p1), .val (.int p2), .val (.int p3), .val (.int b1), .val (.int b2), .val (.int b3), .val (.int b4), .val (.int b5), .val (.int b6), .val (.int b7), .unset, .unset, .unset, .unset, .unset, .unset, .unset, .unset, .unset, .unset] [(.int (1 : Int32))])) (fun _ k => XS.iconst X0.here hx rfl (hb hby at_103) k) ?_
      refine Go.back (f' := (mkF m 108 #[.val (.int p0), .val (.int p1), .val (.int p2), .val (.int p3), .val (.int b1), .val (.int b2), .val (.int b3), .val (.int b4), .val (.int b5), .val (.int b6), .val (.int b7), .unset, .unset, .unset, .unset, .unset, .unset, .unset, .unset, .unset, .unset] [(.int (1 : Int32))])) (fun _ k => XS.goto X0.here hx rfl (pc0 := 104) (pc' := 108) rfl (hb hby at_104) (by decide) (by decide) k) ?_
      exact jd _ (by rw [if_neg hp_b8])
  intro b8 h_b8
  refine Go.back (f' := (mkF m 110 #[.val (.int p0), .val (.int p1), .val (.int p2), .val (.int p3), .val (.int b1), .val (.int b2), .val (.int b3), .val (.int b4), .val (.int b5), .val (.int b6), .val (.int b7), .val (.int b8), .unset, .unset, .unset, .unset, .unset, .unset, .unset, .unset, .unset] [])) (fun _ k => XS.istore X0.here hx rfl (hb hby at_108) rfl (l' := #[.val (.int p0), .val (.int p1), .val (.int p2), .val (.int p3), .val (.int b1), .val (.int b2), .val (.int b3), .val (.int b4), .val (.int b5), .val (.int b6), .val (.int b7), .val (.int b8), .unset, .unset, .unset, .unset, .unset, .unset, .unset, .unset, .unset]) rfl k) ?_
  refine Go.back (f' := (mkF m 112 #[.val (.int p0), .val (.int p1), .val (.int p2), .val (.int p3), .val (.int b1), .val (.int b2), .val (.int b3), .val (.int b4), .val (.int b5), .val (.int b6), .val (.int b7), .val (.int b8), .unset, .unset, .unset, .unset, .unset, .unset, .unset, .unset, .unset] [(.int b1)])) (fun _ k => XS.iload X0.here hx rfl (hb hby at_110) rfl k) ?_
  suffices jd : ∀ tt : Int32, tt = (if b1 = 0 then p0 else (-1 : Int32)) → GoW p e below Z (fun v h L => v = some (.int 1) ∧ Fr Z.heap.size L) room_1.cells room_1.slots T0 (mkF m 120 #[.val (.int p0), .val (.int p1), .val (.int p2), .val (.int p3), .val (.int b1), .val (.int b2), .val (.int b3), .val (.int b4), .val (.int b5), .val (.int b6), .val (.int b7), .val (.int b8), .unset, .unset, .unset, .unset, .unset, .unset, .unset, .unset, .unset] [(.int tt)]) by
    by_cases hp_tt : b1 = 0
    · refine Go.back (f' := (mkF m 119 #[.val (.int p0), .val (.int p1), .val (.int p2), .val (.int p3), .val (.int b1), .val (.int b2), .val (.int b3), .val (.int b4), .val (.int b5), .val (.int b6), .val (.int b7), .val (.int b8), .unset, .unset, .unset, .unset, .unset, .unset, .unset, .unset, .unset] [])) (fun _ k => XS.ifYes X0.here hx rfl (pc0 := 112) (pc' := 119) rfl (hb hby at_112) rfl ((if0 _ _).trans (teq hp_tt).1) (by decide) (by decide) k) ?_
      refine Go.back (f' := (mkF m 120 #[.val (.int p0), .val (.int p1), .val (.int p2), .val (.int p3), .val (.int b1), .val (.int b2), .val (.int b3), .val (.int b4), .val (.int b5), .val (.int b6), .val (.int b7), .val (.int b8), .unset, .unset, .unset, .unset, .unset, .unset, .unset, .unset, .unset] [(.int p0)])) (fun _ k => XS.iloadN X0.here hx rfl (hb hby at_119) rfl k) ?_
      exact jd _ (by rw [if_pos hp_tt])
    · refine Go.back (f' := (mkF m 115 #[.val (.int p0), .val (.int p1), .val (.int p2), .val (.int p3), .val (.int b1), .val (.int b2), .val (.int b3), .val (.int b4), .val (.int b5), .val (.int b6), .val (.int b7), .val (.int b8), .unset, .unset, .unset, .unset, .unset, .unset, .unset, .unset, .unset] [])) (fun _ k => XS.ifNo X0.here hx rfl (hb hby at_112) rfl ((if0 _ _).trans (feq hp_tt).1) k) ?_
      refine Go.back (f' := (mkF m 116 #[.val (.int p0), .val (.int p1), .val (.int p2), .val (.int p3), .val (.int b1), .val (.int b2), .val (.int b3), .val (.int b4), .val (.int b5), .val (.int b6), .val (.int b7), .val (.int b8), .unset, .unset, .unset, .unset, .unset, .unset, .unset, .unset, .unset] [(.int (-1 : Int32))])) (fun _ k => XS.iconst X0.here hx rfl (hb hby at_115) k) ?_
      refine Go.back (f' := (mkF m 120 #[.val (.int p0), .val (.int p1), .val (.int p2), .val (.int p3), .val (.int b1), .val (.int b2), .val (.int b3), .val (.int b4), .val (.int b5), .val (.int b6), .val (.int b7), .val (.int b8), .unset, .unset, .unset, .unset, .unset, .unset, .unset, .unset, .unset] [(.int (-1 : Int32))])) (fun _ k => XS.goto X0.here hx rfl (pc0 := 116) (pc' := 120) rfl (hb hby at_116) (by decide) (by decide) k) ?_
      exact jd _ (by rw [if_neg hp_tt])
  intro tt h_tt
  refine Go.back (f' := (mkF m 122 #[.val (.int p0), .val (.int p1), .val (.int p2), .val (.int p3), .val (.int b1), .val (.int b2), .val (.int b3), .val (.int b4), .val (.int b5), .val (.int b6), .val (.int b7), .val (.int b8), .val (.int tt), .unset, .unset, .unset, .unset, .unset, .unset, .unset, .unset] [])) (fun _ k => XS.istore X0.here hx rfl (hb hby at_120) rfl (l' := #[.val (.int p0), .val (.int p1), .val (.int p2), .val (.int p3), .val (.int b1), .val (.int b2), .val (.int b3), .val (.int b4), .val (.int b5), .val (.int b6), .val (.int b7), .val (.int b8), .val (.int tt), .unset, .unset, .unset, .unset, .unset, .unset, .unset, .unset]) rfl k) ?_
  refine Go.back (f' := (mkF m 123 #[.val (.int p0), .val (.int p1), .val (.int p2), .val (.int p3), .val (.int b1), .val (.int b2), .val (.int b3), .val (.int b4), .val (.int b5), .val (.int b6), .val (.int b7), .val (.int b8), .val (.int tt), .unset, .unset, .unset, .unset, .unset, .unset, .unset, .unset] [(.int p3)])) (fun _ k => XS.iloadN X0.here hx rfl (hb hby at_122) rfl k) ?_
  refine Go.back (f' := (mkF m 126 #[.val (.int p0), .val (.int p1), .val (.int p2), .val (.int p3), .val (.int b1), .val (.int b2), .val (.int b3), .val (.int b4), .val (.int b5), .val (.int b6), .val (.int b7), .val (.int b8), .val (.int tt), .unset, .unset, .unset, .unset, .unset, .unset, .unset, .unset] [(.int (255 : Int32)), (.int p3)])) (fun _ k => XS.sipush X0.here hx rfl (hb hby at_123) k) ?_
  refine Go.back (f' := (mkF m 127 #[.val (.int p0), .val (.int p1), .val (.int p2), .val (.int p3), .val (.int b1), .val (.int b2), .val (.int b3), .val (.int b4), .val (.int b5), .val (.int b6), .val (.int b7), .val (.int b8), .val (.int tt), .unset, .unset, .unset, .unset, .unset, .unset, .unset, .unset] [(.int (p3 &&& (255 : Int32)))])) (fun _ k => XS.iand X0.here hx rfl (hb hby at_126) rfl k) ?_
  refine Go.back (f' := (mkF m 128 #[.val (.int p0), .val (.int p1), .val (.int p2), .val (.int p3), .val (.int b1), .val (.int b2), .val (.int b3), .val (.int b4), .val (.int b5), .val (.int b6), .val (.int b7), .val (.int b8), .val (.int tt), .unset, .unset, .unset, .unset, .unset, .unset, .unset, .unset] [(.int ((p3 &&& (255 : Int32)).toUInt32.toUInt16.toUInt32.toInt32))])) (fun _ k => XS.i2c X0.here hx rfl (hb hby at_127) rfl k) ?_
  refine Go.back (f' := (mkF m 130 #[.val (.int p0), .val (.int p1), .val (.int p2), .val (.int p3), .val (.int b1), .val (.int b2), .val (.int b3), .val (.int b4), .val (.int b5), .val (.int b6), .val (.int b7), .val (.int b8), .val (.int tt), .val (.int ((p3 &&& (255 : Int32)).toUInt32.toUInt16.toUInt32.toInt32)), .unset, .unset, .unset, .unset, .unset, .unset, .unset] [])) (fun _ k => XS.istore X0.here hx rfl (hb hby at_128) rfl (l' := #[.val (.int p0), .val (.int p1), .val (.int p2), .val (.int p3), .val (.int b1), .val (.int b2), .val (.int b3), .val (.int b4), .val (.int b5), .val (.int b6), .val (.int b7), .val (.int b8), .val (.int tt), .val (.int ((p3 &&& (255 : Int32)).toUInt32.toUInt16.toUInt32.toInt32)), .unset, .unset, .unset, .unset, .unset, .unset, .unset]) rfl k) ?_
  refine Go.back (f' := (mkF m 132 #[.val (.int p0), .val (.int p1), .val (.int p2), .val (.int p3), .val (.int b1), .val (.int b2), .val (.int b3), .val (.int b4), .val (.int b5), .val (.int b6), .val (.int b7), .val (.int b8), .val (.int tt), .val (.int ((p3 &&& (255 : Int32)).toUInt32.toUInt16.toUInt32.toInt32)), .unset, .unset, .unset, .unset, .unset, .unset, .unset] [(.int ((p3 &&& (255 : Int32)).toUInt32.toUInt16.toUInt32.toInt32))])) (fun _ k => XS.iload X0.here hx rfl (hb hby at_130) rfl k) ?_
  have hcc : ¬ (255 : Int32) < ((p3 &&& (255 : Int32)).toUInt32.toUInt16.toUInt32.toInt32) := by rw [i2c_mask]; exact own_255 _
  generalize ech : ((p3 &&& (255 : Int32)).toUInt32.toUInt16.toUInt32.toInt32) = ch
  rw [ech] at hcc
  refine Go.callS X0 hx hZ hown (hw _ (List.mem_of_getElem? (i := 0) rfl)) (hw _ (List.mem_of_getElem? (i := 1) rfl)) (hw _ (List.mem_of_getElem? (i := 2) rfl)) (hw _ (List.mem_of_getElem? (i := 3) rfl)) (by decide) e0 (argsL := [(.int ch)]) (rest := []) (rmVO l Z a0 hw ch cz h0.size h0 K0.size SC hcz hcc) (lenOf pd_8 rfl) rfl (by rw [hml]; rfl) (W := 0) (Nat.le_of_eq rfl) (hb hby at_132) (by decide) (by decide) (by decide) (by decide) ?_
  intro v243 T243 L243 X243 hQ243
  obtain ⟨sa, rfl, C243, Es243, ge243⟩ := hQ243
  have St_244 := staKeep SC C243.keep own_ns0
  have St_245 := staKeep SDz C243.keep own_ns0
  have Ar_246 := ADz.keep C243.keep nin0
  have K_247 := K0.call C243 all0
  have sz_sa := Nat.le_trans K0.grow ge243
  have g_sa := K0.ge sz_sa
  have ne_de_sa : de ≠ sa := Nat.ne_of_lt (Nat.lt_of_lt_of_le ADz.lt ge243)
  have nds := ne_de_sa
  show GoG _ _ _ _ _ (mkF m 135 #[.val (.int p0), .val (.int p1), .val (.int p2), .val (.int p3), .val (.int b1), .val (.int b2), .val (.int b3), .val (.int b4), .val (.int b5), .val (.int b6), .val (.int b7), .val (.int b8), .val (.int tt), .val (.int ch), .unset, .unset, .unset, .unset, .unset, .unset, .unset] [(.ref sa)])
  refine Go.back (f' := (mkF m 137 #[.val (.int p0), .val (.int p1), .val (.int p2), .val (.int p3), .val (.int b1), .val (.int b2), .val (.int b3), .val (.int b4), .val (.int b5), .val (.int b6), .val (.int b7), .val (.int b8), .val (.int tt), .val (.int ch), .val (.ref sa), .unset, .unset, .unset, .unset, .unset, .unset] [])) (fun _ k => XS.astore X243.here hx rfl (hb hby at_135) rfl rfl (l' := #[.val (.int p0), .val (.int p1), .val (.int p2), .val (.int p3), .val (.int b1), .val (.int b2), .val (.int b3), .val (.int b4), .val (.int b5), .val (.int b6), .val (.int b7), .val (.int b8), .val (.int tt), .val (.int ch), .val (.ref sa), .unset, .unset, .unset, .unset, .unset, .unset]) rfl k) ?_
  refine Go.back (f' := (mkF m 138 #[.val (.int p0), .val (.int p1), .val (.int p2), .val (.int p3), .val (.int b1), .val (.int b2), .val (.int b3), .val (.int b4), .val (.int b5), .val (.int b6), .val (.int b7), .val (.int b8), .val (.int tt), .val (.int ch), .val (.ref sa), .unset, .unset, .unset, .unset, .unset, .unset] [.null])) (fun _ k => XS.aconstNull X243.here hx rfl (hb hby at_137) k) ?_
  refine Go.back (f' := (mkF m 140 #[.val (.int p0), .val (.int p1), .val (.int p2), .val (.int p3), .val (.int b1), .val (.int b2), .val (.int b3), .val (.int b4), .val (.int b5), .val (.int b6), .val (.int b7), .val (.int b8), .val (.int tt), .val (.int ch), .val (.ref sa), .val .null, .unset, .unset, .unset, .unset, .unset] [])) (fun _ k => XS.astore X243.here hx rfl (hb hby at_138) rfl rfl (l' := #[.val (.int p0), .val (.int p1), .val (.int p2), .val (.int p3), .val (.int b1), .val (.int b2), .val (.int b3), .val (.int b4), .val (.int b5), .val (.int b6), .val (.int b7), .val (.int b8), .val (.int tt), .val (.int ch), .val (.ref sa), .val .null, .unset, .unset, .unset, .unset, .unset]) rfl k) ?_
  refine Go.back (f' := (mkF m 142 #[.val (.int p0), .val (.int p1), .val (.int p2), .val (.int p3), .val (.int b1), .val (.int b2), .val (.int b3), .val (.int b4), .val (.int b5), .val (.int b6), .val (.int b7), .val (.int b8), .val (.int tt), .val (.int ch), .val (.ref sa), .val .null, .unset, .unset, .unset, .unset, .unset] [(.int b2)])) (fun _ k => XS.iload X243.here hx rfl (hb hby at_140) rfl k) ?_
  suffices J1 : ∀ (T : State) (vm0 : Vm) (k0 : Nat) (h : Heap) (L : List Loc) (nv : Value), nv.isRef = true → nv.category = 1 → (nv = .null ↔ b2 = 0) → Stand p l e room_1 (Z.setVm vm0) m #[(.int p0), (.int p1), (.int p2), (.int p3)] below meth c T L 4 18 → T.heap = h → Z.Since vm0 k0 → k0 ≤ h.size → Z.Warmed39 (Z.setVm vm0).vm → (Z.setVm vm0).vm.findClass "com/example/durable_coordinator/durablecoordinator/protocol/ConsumerGroupHeartbeatRequestIsFullPinLaw" = some m.cls → Chg h0.size h h [] L → Exa Z h sa "java/lang/String" → VArr Z h de (.object "java/lang/Object") [] → Sta Z h "java/util/ArrayList" "DEFAULTCAPACITY_EMPTY_ELEMENTDATA" "[Ljava/lang/Object;" (.ref de) → GoW p e below Z (fun v h L => v = some (.int 1) ∧ Fr Z.heap.size L) room_1.cells room_1.slots T (mkF m 167 #[.val (.int p0), .val (.int p1), .val (.int p2), .val (.int p3), .val (.int b1), .val (.int b2), .val (.int b3), .val (.int b4), .val (.int b5), .val (.int b6), .val (.int b7), .val (.int b8), .val (.int tt), .val (.int ch), .val (.ref sa), .val nv, .unset, .unset, .unset, .unset, .unset] []) by
    by_cases hf1 : b2 = 0
    · refine Go.back (f' := (mkF m 167 #[.val (.int p0), .val (.int p1), .val (.int p2), .val (.int p3), .val (.int b1), .val (.int b2), .val (.int b3), .val (.int b4), .val (.int b5), .val (.int b6), .val (.int b7), .val (.int b8), .val (.int tt), .val (.int ch), .val (.ref sa), .val .null, .unset, .unset, .unset, .unset, .unset] [])) (fun _ k => XS.ifYes X243.here hx rfl (pc0 := 142) (pc' := 167) rfl (hb hby at_142) rfl ((if0 _ _).trans (teq hf1).1) (by decide) (by decide) k) ?_
      exact J1 _ _ _ _ _ .null rfl rfl ⟨fun _ => hf1, fun _ => rfl⟩ (X243.more (by decide) (by decide)) rfl hS (Nat.le_trans hk K_247.grow) hZ hown K_247.base Es243 Ar_246 St_245
    · refine Go.back (f' := (mkF m 145 #[.val (.int p0), .val (.int p1), .val (.int p2), .val (.int p3), .val (.int b1), .val (.int b2), .val (.int b3), .val (.int b4), .val (.int b5), .val (.int b6), .val (.int b7), .val (.int b8), .val (.int tt), .val (.int ch), .val (.ref sa), .val .null, .unset, .unset, .unset, .unset, .unset] [])) (fun _ k => XS.ifNo X243.here hx rfl (hb hby at_142) rfl ((if0 _ _).trans (feq hf1).1) k) ?_
      obtain ⟨T248, h248, X248, e248, E248, A248, D248, -, st248⟩ := newO X243 hx hZ hown (hw _ (List.mem_of_getElem? (i := 26) rfl)) (hw _ (List.mem_of_getElem? (i := 27) rfl)) (hw _ (List.mem_of_getElem? (i := 28) rfl)) rfl (g := (mkF m 145 #[.val (.int p0), .val (.int p1), .val (.int p2), .val (.int p3), .val (.int b1), .val (.int b2), .val (.int b3), .val (.int b4), .val (.int b5), .val (.int b6), .val (.int b7), .val (.int b8), .val (.int tt), .val (.int ch), .val (.ref sa), .val .null, .unset, .unset, .unset, .unset, .unset] [])) rfl (hb hby at_145) (by decide) (by decide)
      obtain ⟨la, q248⟩ : ∃ z, z = T243.heap.size := ⟨_, rfl⟩
      rw [← q248] at A248 D248 st248
      have ne_de_la : de ≠ la := lt_ne q248 Ar_246.lt
      have ne_sa_la : sa ≠ la := lt_ne q248 Es243.lt
      have sz_la := K_247.at q248
      have g_la := K_247.ge sz_la
      have St_249 := St_244.ext E248
      have St_250 := St_245.ext E248
      have Ar_251 := Ar_246.ext E248
      have Ex_252 := Es243.ext E248
      have K_253 := K_247.ext E248
      have Fl_254 : Fld Z h248 la "java/util/AbstractList" "modCount" "I" (.int (0 : Int32)) := D248 (Or.inl (hw _ (List.mem_of_getElem? (i := 46) rfl))) (ty := .int) (by decide)
      have Fl_255 : Fld Z h248 la "java/util/ArrayList" "elementData" "[Ljava/lang/Object;" .null := D248 (Or.inl (hw _ (List.mem_of_getElem? (i := 49) rfl))) (ty := (.array (.object "java/lang/Object"))) (by decide)
      have Fl_256 : Fld Z h248 la "java/util/ArrayList" "size" "I" (.int (0 : Int32)) := D248 (Or.inl (hw _ (List.mem_of_getElem? (i := 102) rfl))) (ty := .int) (by decide)
      refine Go.back (f' := (mkF m 148 #[.val (.int p0), .val (.int p1), .val (.int p2), .val (.int p3), .val (.int b1), .val (.int b2), .val (.int b3), .val (.int b4), .val (.int b5), .val (.int b6), .val (.int b7), .val (.int b8), .val (.int tt), .val (.int ch), .val (.ref sa), .val .null, .unset, .unset, .unset, .unset, .unset] [(.ref la)])) st248 ?_
      refine Go.back (f' := (mkF m 149 #[.val (.int p0), .val (.int p1), .val (.int p2), .val (.int p3), .val (.int b1), .val (.int b2), .val (.int b3), .val (.int b4), .val (.int b5), .val (.int b6), .val (.int b7), .val (.int b8), .val (.int tt), .val (.int ch), .val (.ref sa), .val .null, .unset, .unset, .unset, .unset, .unset] [(.ref la), (.ref la)])) (fun _ k => XS.dup X248.here hx rfl (hb hby at_148) rfl rfl k) ?_
      refine Go.callI X248 hx hZ rfl hown (hw _ (List.mem_of_getElem? (i := 29) rfl)) (hw _ (List.mem_of_getElem? (i := 30) rfl)) (hw _ (List.mem_of_getElem? (i := 28) rfl)) (hw _ (List.mem_of_getElem? (i := 31) rfl)) (by decide) e248 (a := la) (argsL := []) (rest := [(.ref la)]) (rmALI l Z a0 hw la de h0.size h248 K_253.size A248 g_la Fl_254 Fl_255 Fl_256 St_250) (lenOf pd_3 rfl) rfl (by rw [hml]; rfl) (W := 1) (Nat.le_of_eq rfl) (hb hby at_149) (by decide) (by decide) (by decide) (by decide) ?_
      intro v257 T257 L257 X257 hQ257
      obtain ⟨rfl, C257, G1_257, G2_257, G3_257⟩ := hQ257
      have St_258 := staKeep St_249 C257.keep (own_nsS (own_exaNS A248) own_ns0)
      have St_259 := staKeep St_250 C257.keep (own_nsS (own_exaNS A248) own_ns0)
      have Ar_260 := Ar_251.keep C257.keep (ninS ne_de_la nin0)
      have Ex_261 := Ex_252.keep C257.keep
      have Ex_262 := A248.keep C257.keep
      have K_263 := K_253.call C257 (allS (Or.inr sz_la) all0)
      show GoG _ _ _ _ _ (mkF m 152 #[.val (.int p0), .val (.int p1), .val (.int p2), .val (.int p3), .val (.int b1), .val (.int b2), .val (.int b3), .val (.int b4), .val (.int b5), .val (.int b6), .val (.int b7), .val (.int b8), .val (.int tt), .val (.int ch), .val (.ref sa), .val .null, .unset, .unset, .unset, .unset, .unset] [(.ref la)])
      refine Go.back (f' := (mkF m 154 #[.val (.int p0), .val (.int p1), .val (.int p2), .val (.int p3), .val (.int b1), .val (.int b2), .val (.int b3), .val (.int b4), .val (.int b5), .val (.int b6), .val (.int b7), .val (.int b8), .val (.int tt), .val (.int ch), .val (.ref sa), .val (.ref la), .unset, .unset, .unset, .unset, .unset] [])) (fun _ k => XS.astore X257.here hx rfl (hb hby at_152) rfl rfl (l' := #[.val (.int p0), .val (.int p1), .val (.int p2), .val (.int p3), .val (.int b1), .val (.int b2), .val (.int b3), .val (.int b4), .val (.int b5), .val (.int b6), .val (.int b7), .val (.int b8), .val (.int tt), .val (.int ch), .val (.ref sa), .val (.ref la), .unset, .unset, .unset, .unset, .unset]) rfl k) ?_
      refine Go.back (f' := (mkF m 156 #[.val (.int p0), .val (.int p1), .val (.int p2), .val (.int p3), .val (.int b1), .val (.int b2), .val (.int b3), .val (.int b4), .val (.int b5), .val (.int b6), .val (.int b7), .val (.int b8), .val (.int tt), .val (.int ch), .val (.ref sa), .val (.ref la), .unset, .unset, .unset, .unset, .unset] [(.int b3)])) (fun _ k => XS.iload X257.here hx rfl (hb hby at_154) rfl k) ?_
      by_cases hf2 : b3 = 0
      · refine Go.back (f' := (mkF m 167 #[.val (.int p0), .val (.int p1), .val (.int p2), .val (.int p3), .val (.int b1), .val (.int b2), .val (.int b3), .val (.int b4), .val (.int b5), .val (.int b6), .val (.int b7), .val (.int b8), .val (.int tt), .val (.int ch), .val (.ref sa), .val (.ref la), .unset, .unset, .unset, .unset, .unset] [])) (fun _ k => XS.ifYes X257.here hx rfl (pc0 := 156) (pc' := 167) rfl (hb hby at_156) rfl ((if0 _ _).trans (teq hf2).1) (by decide) (by decide) k) ?_
        exact J1 _ _ _ _ _ (.ref la) rfl rfl ⟨fun q => (by cases q), fun q => absurd q hf1⟩ (X257.more (by decide) (by decide)) rfl hS (Nat.le_trans hk K_263.grow) hZ hown K_263.base Ex_261 Ar_260 St_259
      · refine Go.back (f' := (mkF m 159 #[.val (.int p0), .val (.int p1), .val (.int p2), .val (.int p3), .val (.int b1), .val (.int b2), .val (.int b3), .val (.int b4), .val (.int b5), .val (.int b6), .val (.int b7), .val (.int b8), .val (.int tt), .val (.int ch), .val (.ref sa), .val (.ref la), .unset, .unset, .unset, .unset, .unset] [])) (fun _ k => XS.ifNo X257.here hx rfl (hb hby at_156) rfl ((if0 _ _).trans (feq hf2).1) k) ?_
        refine Go.back (f' := (mkF m 161 #[.val (.int p0), .val (.int p1), .val (.int p2), .val (.int p3), .val (.int b1), .val (.int b2), .val (.int b3), .val (.int b4), .val (.int b5), .val (.int b6), .val (.int b7), .val (.int b8), .val (.int tt), .val (.int ch), .val (.ref sa), .val (.ref la), .unset, .unset, .unset, .unset, .unset] [(.ref la)])) (fun _ k => XS.aload X257.here hx rfl (hb hby at_159) rfl rfl k) ?_
        refine Go.back (f' := (mkF m 163 #[.val (.int p0), .val (.int p1), .val (.int p2), .val (.int p3), .val (.int b1), .val (.int b2), .val (.int b3), .val (.int b4), .val (.int b5), .val (.int b6), .val (.int b7), .val (.int b8), .val (.int tt), .val (.int ch), .val (.ref sa), .val (.ref la), .unset, .unset, .unset, .unset, .unset] [(.ref sa), (.ref la)])) (fun _ k => XS.aload X257.here hx rfl (hb hby at_161) rfl rfl k) ?_
        refine Go.callV X257 hx hZ hown (hw _ (List.mem_of_getElem? (i := 94) rfl)) (hw _ (List.mem_of_getElem? (i := 95) rfl)) (hw _ (List.mem_of_getElem? (i := 97) rfl)) (hw _ (List.mem_of_getElem? (i := 96) rfl)) (hw _ (List.mem_of_getElem? (i := 28) rfl)) (hw _ (List.mem_of_getElem? (i := 98) rfl)) (by decide) rfl Ex_262 (argsL := [(.ref sa)]) (rest := []) (rmA1 l Z a0 hw la de sa "java/lang/String" h0.size T257.heap K_263.size Ex_262 g_la G1_257 G2_257 G3_257 St_259 Ar_260 Ex_261 (hw _ (List.mem_of_getElem? (i := 124) rfl))) (lenOf pd_9 rfl) rfl (by rw [hml]; rfl) (W := 0) (Nat.le_of_eq rfl) (hb hby at_163) (by decide) (by decide) (by decide) (by decide) ?_
        intro v264 T264 L264 X264 hQ264
        obtain ⟨rfl, C264⟩ := hQ264
        have St_265 := staKeep St_258 C264.keep (own_nsS (own_exaNS Ex_262) own_ns0)
        have St_266 := staKeep St_259 C264.keep (own_nsS (own_exaNS Ex_262) own_ns0)
        have Ar_267 := Ar_260.keep C264.keep (ninS ne_de_la nin0)
        have Ex_268 := Ex_261.keep C264.keep
        have Ex_269 := Ex_262.keep C264.keep
        have K_270 := K_263.call C264 (allS (Or.inr sz_la) all0)
        show GoG _ _ _ _ _ (mkF m 166 #[.val (.int p0), .val (.int p1), .val (.int p2), .val (.int p3), .val (.int b1), .val (.int b2), .val (.int b3), .val (.int b4), .val (.int b5), .val (.int b6), .val (.int b7), .val (.int b8), .val (.int tt), .val (.int ch), .val (.ref sa), .val (.ref la), .unset, .unset, .unset, .unset, .unset] [(.int (1 : Int32))])
        refine Go.back (f' := (mkF m 167 #[.val (.int p0), .val (.int p1), .val (.int p2), .val (.int p3), .val (.int b1), .val (.int b2), .val (.int b3), .val (.int b4), .val (.int b5), .val (.int b6), .val (.int b7), .val (.int b8), .val (.int tt), .val (.int ch), .val (.ref sa), .val (.ref la), .unset, .unset, .unset, .unset, .unset] [])) (fun _ k => XS.pop X264.here hx rfl (hb hby at_166) rfl rfl k) ?_
        exact J1 _ _ _ _ _ (.ref la) rfl rfl ⟨fun q => (by cases q), fun q => absurd q hf1⟩ (X264.more (by decide) (by decide)) rfl hS (Nat.le_trans hk K_270.grow) hZ hown K_270.base Ex_268 Ar_267 St_266
  clear hS hk hZ hown
  intro TJ1 vmJ1 kJ1 hJ1 LJ1 nv hnv cnv inv XJ1 eJ1 hS hk hZ hown KJ1 EsJ1 AdJ1 SdJ1
  suffices J2 : ∀ (T : State) (vm0 : Vm) (k0 : Nat) (h : Heap) (L : List Loc) (rv : Value), rv.isRef = true → rv.category = 1 → (rv = .null ↔ b4 = 0) → Stand p l e room_1 (Z.setVm vm0) m #[(.int p0), (.int p1), (.int p2), (.int p3)] below meth c T L 6 22 → T.heap = h → Z.Since vm0 k0 → k0 ≤ h.size → Z.Warmed39 (Z.setVm vm0).vm → (Z.setVm vm0).vm.findClass "com/example/durable_coordinator/durablecoordinator/protocol/ConsumerGroupHeartbeatRequestIsFullPinLaw" = some m.cls → Chg h0.size h h [] L → Exa Z h sa "java/lang/String" → VArr Z h de (.object "java/lang/Object") [] → Sta Z h "java/util/ArrayList" "DEFAULTCAPACITY_EMPTY_ELEMENTDATA" "[Ljava/lang/Object;" (.ref de) → GoW p e below Z (fun v h L => v = some (.int 1) ∧ Fr Z.heap.size L) room_1.cells room_1.slots T (mkF m 189 #[.val (.int p0), .val (.int p1), .val (.int p2), .val (.int p3), .val (.int b1), .val (.int b2), .val (.int b3), .val (.int b4), .val (.int b5), .val (.int b6), .val (.int b7), .val (.int b8), .val (.int tt), .val (.int ch), .val (.ref sa), .val nv, .val rv, .unset, .unset, .unset, .unset] []) by
    refine Go.back (f' := (mkF m 168 #[.val (.int p0), .val (.int p1), .val (.int p2), .val (.int p3), .val (.int b1), .val (.int b2), .val (.int b3), .val (.int b4), .val (.int b5), .val (.int b6), .val (.int b7), .val (.int b8), .val (.int tt), .val (.int ch), .val (.ref sa), .val nv, .unset, .unset, .unset, .unset, .unset] [.null])) (fun _ k => XS.aconstNull XJ1.here hx rfl (hb hby at_167) k) ?_
    refine Go.back (f' := (mkF m 170 #[.val (.int p0), .val (.int p1), .val (.int p2), .val (.int p3), .val (.int b1), .val (.int b2), .val (.int b3), .val (.int b4), .val (.int b5), .val (.int b6), .val (.int b7), .val (.int b8), .val (.int tt), .val (.int ch), .val (.ref sa), .val nv, .val .null, .unset, .unset, .unset, .unset] [])) (fun _ k => XS.astore XJ1.here hx rfl (hb hby at_168) rfl rfl (l' := #[.val (.int p0), .val (.int p1), .val (.int p2), .val (.int p3), .val (.int b1), .val (.int b2), .val (.int b3), .val (.int b4), .val (.int b5), .val (.int b6), .val (.int b7), .val (.int b8), .val (.int tt), .val (.int ch), .val (.ref sa), .val nv, .val .null, .unset, .unset, .unset, .unset]) rfl k) ?_
    refine Go.back (f' := (mkF m 172 #[.val (.int p0), .val (.int p1), .val (.int p2), .val (.int p3), .val (.int b1), .val (.int b2), .val (.int b3), .val (.int b4), .val (.int b5), .val (.int b6), .val (.int b7), .val (.int b8), .val (.int tt), .val (.int ch), .val (.ref sa), .val nv, .val .null, .unset, .unset, .unset, .unset] [(.int b4)])) (fun _ k => XS.iload XJ1.here hx rfl (hb hby at_170) rfl k) ?_
    by_cases hr1 : b4 = 0
    · refine Go.back (f' := (mkF m 189 #[.val (.int p0), .val (.int p1), .val (.int p2), .val (.int p3), .val (.int b1), .val (.int b2), .val (.int b3), .val (.int b4), .val (.int b5), .val (.int b6), .val (.int b7), .val (.int b8), .val (.int tt), .val (.int ch), .val (.ref sa), .val nv, .val .null, .unset, .unset, .unset, .unset] [])) (fun _ k => XS.ifYes XJ1.here hx rfl (pc0 := 172) (pc' := 189) rfl (hb hby at_172) rfl ((if0 _ _).trans (teq hr1).1) (by decide) (by decide) k) ?_
      exact J2 _ _ _ _ _ .null rfl rfl ⟨fun _ => hr1, fun _ => rfl⟩ (XJ1.more (by decide) (by decide)) eJ1 hS hk hZ hown KJ1.base EsJ1 AdJ1 SdJ1
    · refine Go.back (f' := (mkF m 175 #[.val (.int p0), .val (.int p1), .val (.int p2), .val (.int p3), .val (.int b1), .val (.int b2), .val (.int b3), .val (.int b4), .val (.int b5), .val (.int b6), .val (.int b7), .val (.int b8), .val (.int tt), .val (.int ch), .val (.ref sa), .val nv, .val .null, .unset, .unset, .unset, .unset] [])) (fun _ k => XS.ifNo XJ1.here hx rfl (hb hby at_172) rfl ((if0 _ _).trans (feq hr1).1) k) ?_
      refine Go.back (f' := (mkF m 177 #[.val (.int p0), .val (.int p1), .val (.int p2), .val (.int p3), .val (.int b1), .val (.int b2), .val (.int b3), .val (.int b4), .val (.int b5), .val (.int b6), .val (.int b7), .val (.int b8), .val (.int tt), .val (.int ch), .val (.ref sa), .val nv, .val .null, .unset, .unset, .unset, .unset] [(.int b5)])) (fun _ k => XS.iload XJ1.here hx rfl (hb hby at_175) rfl k) ?_
      by_cases hr2 : b5 = 0
      · refine Go.back (f' := (mkF m 185 #[.val (.int p0), .val (.int p1), .val (.int p2), .val (.int p3), .val (.int b1), .val (.int b2), .val (.int b3), .val (.int b4), .val (.int b5), .val (.int b6), .val (.int b7), .val (.int b8), .val (.int tt), .val (.int ch), .val (.ref sa), .val nv, .val .null, .unset, .unset, .unset, .unset] [])) (fun _ k => XS.ifYes XJ1.here hx rfl (pc0 := 177) (pc' := 185) rfl (hb hby at_177) rfl ((if0 _ _).trans (teq hr2).1) (by decide) (by decide) k) ?_
        obtain ⟨rs, T271, h271, k271, X271, e271, E271, hS, hk, hZ, hown, st271⟩ := ldcS XJ1 hx hZ hown (hw _ (List.mem_of_getElem? (i := 138) rfl)) wS eJ1 hS hk (g := (mkF m 185 #[.val (.int p0), .val (.int p1), .val (.int p2), .val (.int p3), .val (.int b1), .val (.int b2), .val (.int b3), .val (.int b4), .val (.int b5), .val (.int b6), .val (.int b7), .val (.int b8), .val (.int tt), .val (.int ch), .val (.ref sa), .val nv, .val .null, .unset, .unset, .unset, .unset] [])) rfl (hb hby at_185) (n := 0) (by decide +kernel) (by decide) (by decide) (by decide)
        have Ex_272 := EsJ1.ext E271
        have Ar_273 := AdJ1.ext E271
        have St_274 := SdJ1.ext E271
        have K_275 := KJ1.ext E271
        refine Go.back (f' := (mkF m 187 #[.val (.int p0), .val (.int p1), .val (.int p2), .val (.int p3), .val (.int b1), .val (.int b2), .val (.int b3), .val (.int b4), .val (.int b5), .val (.int b6), .val (.int b7), .val (.int b8), .val (.int tt), .val (.int ch), .val (.ref sa), .val nv, .val .null, .unset, .unset, .unset, .unset] [(.ref rs)])) st271 ?_
        refine Go.back (f' := (mkF m 189 #[.val (.int p0), .val (.int p1), .val (.int p2), .val (.int p3), .val (.int b1), .val (.int b2), .val (.int b3), .val (.int b4), .val (.int b5), .val (.int b6), .val (.int b7), .val (.int b8), .val (.int tt), .val (.int ch), .val (.ref sa), .val nv, .val (.ref rs), .unset, .unset, .unset, .unset] [])) (fun _ k => XS.astore X271.here hx rfl (hb hby at_187) rfl rfl (l' := #[.val (.int p0), .val (.int p1), .val (.int p2), .val (.int p3), .val (.int b1), .val (.int b2), .val (.int b3), .val (.int b4), .val (.int b5), .val (.int b6), .val (.int b7), .val (.int b8), .val (.int tt), .val (.int ch), .val (.ref sa), .val nv, .val (.ref rs), .unset, .unset, .unset, .unset]) rfl k) ?_
        exact J2 _ _ _ _ _ (.ref rs) rfl rfl ⟨fun q => (by cases q), fun q => absurd q hr1⟩ (X271.more (by decide) (by decide)) e271 hS hk hZ hown K_275.base Ex_272 Ar_273 St_274
      · refine Go.back (f' := (mkF m 180 #[.val (.int p0), .val (.int p1), .val (.int p2), .val (.int p3), .val (.int b1), .val (.int b2), .val (.int b3), .val (.int b4), .val (.int b5), .val (.int b6), .val (.int b7), .val (.int b8), .val (.int tt), .val (.int ch), .val (.ref sa), .val nv, .val .null, .unset, .unset, .unset, .unset] [])) (fun _ k => XS.ifNo XJ1.here hx rfl (hb hby at_177) rfl ((if0 _ _).trans (feq hr2).1) k) ?_
        refine Go.back (f' := (mkF m 182 #[.val (.int p0), .val (.int p1), .val (.int p2), .val (.int p3), .val (.int b1), .val (.int b2), .val (.int b3), .val (.int b4), .val (.int b5), .val (.int b6), .val (.int b7), .val (.int b8), .val (.int tt), .val (.int ch), .val (.ref sa), .val nv, .val .null, .unset, .unset, .unset, .unset] [(.ref sa)])) (fun _ k => XS.aload XJ1.here hx rfl (hb hby at_180) rfl rfl k) ?_
        refine Go.back (f' := (mkF m 187 #[.val (.int p0), .val (.int p1), .val (.int p2), .val (.int p3), .val (.int b1), .val (.int b2), .val (.int b3), .val (.int b4), .val (.int b5), .val (.int b6), .val (.int b7), .val (.int b8), .val (.int tt), .val (.int ch), .val (.ref sa), .val nv, .val .null, .unset, .unset, .unset, .unset] [(.ref sa)])) (fun _ k => XS.goto XJ1.here hx rfl (pc0 := 182) (pc' := 187) rfl (hb hby at_182) (by decide) (by decide) k) ?_
        refine Go.back (f' := (mkF m 189 #[.val (.int p0), .val (.int p1), .val (.int p2), .val (.int p3), .val (.int b1), .val (.int b2), .val (.int b3), .val (.int b4), .val (.int b5), .val (.int b6), .val (.int b7), .val (.int b8), .val (.int tt), .val (.int ch), .val (.ref sa), .val nv, .val (.ref sa), .unset, .unset, .unset, .unset] [])) (fun _ k => XS.astore XJ1.here hx rfl (hb hby at_187) rfl rfl (l' := #[.val (.int p0), .val (.int p1), .val (.int p2), .val (.int p3), .val (.int b1), .val (.int b2), .val (.int b3), .val (.int b4), .val (.int b5), .val (.int b6), .val (.int b7), .val (.int b8), .val (.int tt), .val (.int ch), .val (.ref sa), .val nv, .val (.ref sa), .unset, .unset, .unset, .unset]) rfl k) ?_
        exact J2 _ _ _ _ _ (.ref sa) rfl rfl ⟨fun q => (by cases q), fun q => absurd q hr1⟩ (XJ1.more (by decide) (by decide)) eJ1 hS hk hZ hown KJ1.base EsJ1 AdJ1 SdJ1
  clear hS hk hZ hown
  intro TJ2 vmJ2 kJ2 hJ2 LJ2 rv hrv crv irv XJ2 eJ2 hS hk hZ hown KJ2 EsJ2 AdJ2 SdJ2
  suffices J3 : ∀ (T : State) (vm0 : Vm) (k0 : Nat) (h : Heap) (L : List Loc) (ov : Value), ov.isRef = true → ov.category = 1 → (ov = .null ↔ b6 = 0) → Stand p l e room_1 (Z.setVm vm0) m #[(.int p0), (.int p1), (.int p2), (.int p3)] below meth c T L 10 40 → T.heap = h → Z.Since vm0 k0 → k0 ≤ h.size → Z.Warmed39 (Z.setVm vm0).vm → (Z.setVm vm0).vm.findClass "com/example/durable_coordinator/durablecoordinator/protocol/ConsumerGroupHeartbeatRequestIsFullPinLaw" = some m.cls → Chg h0.size h h [] L → Exa Z h sa "java/lang/String" → VArr Z h de (.object "java/lang/Object") [] → Sta Z h "java/util/ArrayList" "DEFAULTCAPACITY_EMPTY_ELEMENTDATA" "[Ljava/lang/Object;" (.ref de) → GoW p e below Z (fun v h L => v = some (.int 1) ∧ Fr Z.heap.size L) room_1.cells room_1.slots T (mkF m 232 #[.val (.int p0), .val (.int p1), .val (.int p2), .val (.int p3), .val (.int b1), .val (.int b2), .val (.int b3), .val (.int b4), .val (.int b5), .val (.int b6), .val (.int b7), .val (.int b8), .val (.int tt), .val (.int ch), .val (.ref sa), .val nv, .val rv, .val ov, .unset, .unset, .unset] []) by
    refine Go.back (f' := (mkF m 190 #[.val (.int p0), .val (.int p1), .val (.int p2), .val (.int p3), .val (.int b1), .val (.int b2), .val (.int b3), .val (.int b4), .val (.int b5), .val (.int b6), .val (.int b7), .val (.int b8), .val (.int tt), .val (.int ch), .val (.ref sa), .val nv, .val rv, .unset, .unset, .unset, .unset] [.null])) (fun _ k => XS.aconstNull XJ2.here hx rfl (hb hby at_189) k) ?_
    refine Go.back (f' := (mkF m 192 #[.val (.int p0), .val (.int p1), .val (.int p2), .val (.int p3), .val (.int b1), .val (.int b2), .val (.int b3), .val (.int b4), .val (.int b5), .val (.int b6), .val (.int b7), .val (.int b8), .val (.int tt), .val (.int ch), .val (.ref sa), .val nv, .val rv, .val .null, .unset, .unset, .unset] [])) (fun _ k => XS.astore XJ2.here hx rfl (hb hby at_190) rfl rfl (l' := #[.val (.int p0), .val (.int p1), .val (.int p2), .val (.int p3), .val (.int b1), .val (.int b2), .val (.int b3), .val (.int b4), .val (.int b5), .val (.int b6), .val (.int b7), .val (.int b8), .val (.int tt), .val (.int ch), .val (.ref sa), .val nv, .val rv, .val .null, .unset, .unset, .unset]) rfl k) ?_
    refine Go.back (f' := (mkF m 194 #[.val (.int p0), .val (.int p1), .val (.int p2), .val (.int p3), .val (.int b1), .val (.int b2), .val (.int b3), .val (.int b4), .val (.int b5), .val (.int b6), .val (.int b7), .val (.int b8), .val (.int tt), .val (.int ch), .val (.ref sa), .val nv, .val rv, .val .null, .unset, .unset, .unset] [(.int b6)])) (fun _ k => XS.iload XJ2.here hx rfl (hb hby at_192) rfl k) ?_
    by_cases ho1 : b6 = 0
    · refine Go.back (f' := (mkF m 232 #[.val (.int p0), .val (.int p1), .val (.int p2), .val (.int p3), .val (.int b1), .val (.int b2), .val (.int b3), .val (.int b4), .val (.int b5), .val (.int b6), .val (.int b7), .val (.int b8), .val (.int tt), .val (.int ch), .val (.ref sa), .val nv, .val rv, .val .null, .unset, .unset, .unset] [])) (fun _ k => XS.ifYes XJ2.here hx rfl (pc0 := 194) (pc' := 232) rfl (hb hby at_194) rfl ((if0 _ _).trans (teq ho1).1) (by decide) (by decide) k) ?_
      exact J3 _ _ _ _ _ .null rfl rfl ⟨fun _ => ho1, fun _ => rfl⟩ (XJ2.more (by decide) (by decide)) eJ2 hS (Nat.le_trans hk KJ2.grow) hZ hown KJ2.base EsJ2 AdJ2 SdJ2
    · refine Go.back (f' := (mkF m 197 #[.val (.int p0), .val (.int p1), .val (.int p2), .val (.int p3), .val (.int b1), .val (.int b2), .val (.int b3), .val (.int b4), .val (.int b5), .val (.int b6), .val (.int b7), .val (.int b8), .val (.int tt), .val (.int ch), .val (.ref sa), .val nv, .val rv, .val .null, .unset, .unset, .unset] [])) (fun _ k => XS.ifNo XJ2.here hx rfl (hb hby at_194) rfl ((if0 _ _).trans (feq ho1).1) k) ?_
      obtain ⟨T276, h276, X276, e276, E276, A276, D276, -, st276⟩ := newO XJ2 hx hZ hown (hw _ (List.mem_of_getElem? (i := 26) rfl)) (hw _ (List.mem_of_getElem? (i := 27) rfl)) (hw _ (List.mem_of_getElem? (i := 28) rfl)) eJ2 (g := (mkF m 197 #[.val (.int p0), .val (.int p1), .val (.int p2), .val (.int p3), .val (.int b1), .val (.int b2), .val (.int b3), .val (.int b4), .val (.int b5), .val (.int b6), .val (.int b7), .val (.int b8), .val (.int tt), .val (.int ch), .val (.ref sa), .val nv, .val rv, .val .null, .unset, .unset, .unset] [])) rfl (hb hby at_197) (by decide) (by decide)
      obtain ⟨lo, q276⟩ : ∃ z, z = hJ2.size := ⟨_, rfl⟩
      rw [← q276] at A276 D276 st276
      have ne_de_lo : de ≠ lo := lt_ne q276 AdJ2.lt
      have ne_sa_lo : sa ≠ lo := lt_ne q276 EsJ2.lt
      have sz_lo := KJ2.at q276
      have g_lo := KJ2.ge sz_lo
      have Ex_277 := EsJ2.ext E276
      have Ar_278 := AdJ2.ext E276
      have St_279 := SdJ2.ext E276
      have K_280 := KJ2.ext E276
      have Fl_281 : Fld Z h276 lo "java/util/AbstractList" "modCount" "I" (.int (0 : Int32)) := D276 (Or.inl (hw _ (List.mem_of_getElem? (i := 46) rfl))) (ty := .int) (by decide)
      have Fl_282 : Fld Z h276 lo "java/util/ArrayList" "elementData" "[Ljava/lang/Object;" .null := D276 (Or.inl (hw _ (List.mem_of_getElem? (i := 49) rfl))) (ty := (.array (.object "java/lang/Object"))) (by decide)
      have Fl_283 : Fld Z h276 lo "java/util/ArrayList" "size" "I" (.int (0 : Int32)) := D276 (Or.inl (hw _ (List.mem_of_getElem? (i := 102) rfl))) (ty := .int) (by decide)
      refine Go.back (f' := (mkF m 200 #[.val (.int p0), .val (.int p1), .val (.int p2), .val (.int p3), .val (.int b1), .val (.int b2), .val (.int b3), .val (.int b4), .val (.int b5), .val (.int b6), .val (.int b7), .val (.int b8), .val (.int tt), .val (.int ch), .val (.ref sa), .val nv, .val rv, .val .null, .unset, .unset, .unset] [(.ref lo)])) st276 ?_
      refine Go.back (f' := (mkF m 201 #[.val (.int p0), .val (.int p1), .val (.int p2), .val (.int p3), .val (.int b1), .val (.int b2), .val (.int b3), .val (.int b4), .val (.int b5), .val (.int b6), .val (.int b7), .val (.int b8), .val (.int tt), .val (.int ch), .val (.ref sa), .val nv, .val rv, .val .null, .unset, .unset, .unset] [(.ref lo), (.ref lo)])) (fun _ k => XS.dup X276.here hx rfl (hb hby at_200) rfl rfl k) ?_
      refine Go.callI X276 hx hZ rfl hown (hw _ (List.mem_of_getElem? (i := 29) rfl)) (hw _ (List.mem_of_getElem? (i := 30) rfl)) (hw _ (List.mem_of_getElem? (i := 28) rfl)) (hw _ (List.mem_of_getElem? (i := 31) rfl)) (by decide) e276 (a := lo) (argsL := []) (rest := [(.ref lo)]) (rmALI l Z a0 hw lo de h0.size h276 K_280.size A276 g_lo Fl_281 Fl_282 Fl_283 St_279) (lenOf pd_3 rfl) rfl (by rw [hml]; rfl) (W := 1) (Nat.le_of_eq rfl) (hb hby at_201) (by decide) (by decide) (by decide) (by decide) ?_
      intro v284 T284 L284 X284 hQ284
      obtain ⟨rfl, C284, G1_284, G2_284, G3_284⟩ := hQ284
      have Ex_285 := Ex_277.keep C284.keep
      have Ar_286 := Ar_278.keep C284.keep (ninS ne_de_lo nin0)
      have St_287 := staKeep St_279 C284.keep (own_nsS (own_exaNS A276) own_ns0)
      have Ex_288 := A276.keep C284.keep
      have K_289 := K_280.call C284 (allS (Or.inr sz_lo) all0)
      show GoG _ _ _ _ _ (mkF m 204 #[.val (.int p0), .val (.int p1), .val (.int p2), .val (.int p3), .val (.int b1), .val (.int b2), .val (.int b3), .val (.int b4), .val (.int b5), .val (.int b6), .val (.int b7), .val (.int b8), .val (.int tt), .val (.int ch), .val (.ref sa), .val nv, .val rv, .val .null, .unset, .unset, .unset] [(.ref lo)])
      refine Go.back (f' := (mkF m 206 #[.val (.int p0), .val (.int p1), .val (.int p2), .val (.int p3), .val (.int b1), .val (.int b2), .val (.int b3), .val (.int b4), .val (.int b5), .val (.int b6), .val (.int b7), .val (.int b8), .val (.int tt), .val (.int ch), .val (.ref sa), .val nv, .val rv, .val (.ref lo), .unset, .unset, .unset] [])) (fun _ k => XS.astore X284.here hx rfl (hb hby at_204) rfl rfl (l' := #[.val (.int p0), .val (.int p1), .val (.int p2), .val (.int p3), .val (.int b1), .val (.int b2), .val (.int b3), .val (.int b4), .val (.int b5), .val (.int b6), .val (.int b7), .val (.int b8), .val (.int tt), .val (.int ch), .val (.ref sa), .val nv, .val rv, .val (.ref lo), .unset, .unset, .unset]) rfl k) ?_
      refine Go.back (f' := (mkF m 208 #[.val (.int p0), .val (.int p1), .val (.int p2), .val (.int p3), .val (.int b1), .val (.int b2), .val (.int b3), .val (.int b4), .val (.int b5), .val (.int b6), .val (.int b7), .val (.int b8), .val (.int tt), .val (.int ch), .val (.ref sa), .val nv, .val rv, .val (.ref lo), .unset, .unset, .unset] [(.int b7)])) (fun _ k => XS.iload X284.here hx rfl (hb hby at_206) rfl k) ?_
      by_cases ho2 : b7 = 0
      · refine Go.back (f' := (mkF m 232 #[.val (.int p0), .val (.int p1), .val (.int p2), .val (.int p3), .val (.int b1), .val (.int b2), .val (.int b3), .val (.int b4), .val (.int b5), .val (.int b6), .val (.int b7), .val (.int b8), .val (.int tt), .val (.int ch), .val (.ref sa), .val nv, .val rv, .val (.ref lo), .unset, .unset, .unset] [])) (fun _ k => XS.ifYes X284.here hx rfl (pc0 := 208) (pc' := 232) rfl (hb hby at_208) rfl ((if0 _ _).trans (teq ho2).1) (by decide) (by decide) k) ?_
        exact J3 _ _ _ _ _ (.ref lo) rfl rfl ⟨fun q => (by cases q), fun q => absurd q ho1⟩ (X284.more (by decide) (by decide)) rfl hS (Nat.le_trans hk K_289.grow) hZ hown K_289.base Ex_285 Ar_286 St_287
      · refine Go.back (f' := (mkF m 211 #[.val (.int p0), .val (.int p1), .val (.int p2), .val (.int p3), .val (.int b1), .val (.int b2), .val (.int b3), .val (.int b4), .val (.int b5), .val (.int b6), .val (.int b7), .val (.int b8), .val (.int tt), .val (.int ch), .val (.ref sa), .val nv, .val rv, .val (.ref lo), .unset, .unset, .unset] [])) (fun _ k => XS.ifNo X284.here hx rfl (hb hby at_208) rfl ((if0 _ _).trans (feq ho2).1) k) ?_
        refine Go.back (f' := (mkF m 213 #[.val (.int p0), .val (.int p1), .val (.int p2), .val (.int p3), .val (.int b1), .val (.int b2), .val (.int b3), .val (.int b4), .val (.int b5), .val (.int b6), .val (.int b7), .val (.int b8), .val (.int tt), .val (.int ch), .val (.ref sa), .val nv, .val rv, .val (.ref lo), .unset, .unset, .unset] [(.ref lo)])) (fun _ k => XS.aload X284.here hx rfl (hb hby at_211) rfl rfl k) ?_
        obtain ⟨T290, h290, X290, e290, E290, A290, D290, -, st290⟩ := newO X284 hx hZ hown (hw _ (List.mem_of_getElem? (i := 125) rfl)) (hw _ (List.mem_of_getElem? (i := 126) rfl)) (hw _ (List.mem_of_getElem? (i := 127) rfl)) rfl (g := (mkF m 213 #[.val (.int p0), .val (.int p1), .val (.int p2), .val (.int p3), .val (.int b1), .val (.int b2), .val (.int b3), .val (.int b4), .val (.int b5), .val (.int b6), .val (.int b7), .val (.int b8), .val (.int tt), .val (.int ch), .val (.ref sa), .val nv, .val rv, .val (.ref lo), .unset, .unset, .unset] [(.ref lo)])) rfl (hb hby at_213) (by decide) (by decide)
        obtain ⟨ti, q290⟩ : ∃ z, z = T284.heap.size := ⟨_, rfl⟩
        rw [← q290] at A290 D290 st290
        have ne_de_ti : de ≠ ti := lt_ne q290 Ar_286.lt
        have ne_lo_ti : lo ≠ ti := lt_ne q290 Ex_288.lt
        have ne_sa_ti : sa ≠ ti := lt_ne q290 Ex_285.lt
        have sz_ti := K_289.at q290
        have g_ti := K_289.ge sz_ti
        have Ex_291 := Ex_285.ext E290
        have Ar_292 := Ar_286.ext E290
        have St_293 := St_287.ext E290
        have Ex_294 := Ex_288.ext E290
        have Fl_295 := G1_284.ext E290
        have Fl_296 := G2_284.ext E290
        have Fl_297 := G3_284.ext E290
        have K_298 := K_289.ext E290
        have Fl_299 : Fld Z h290 ti "com/example/durable_coordinator/durablecoordinator/protocol/TopicIdPartitions" "topicId" "Ljava/util/UUID;" .null := D290 (Or.inr (hw _ (List.mem_of_getElem? (i := 133) rfl))) (ty := (.object "java/util/UUID")) (by decide)
        have Fl_300 : Fld Z h290 ti "com/example/durable_coordinator/durablecoordinator/protocol/TopicIdPartitions" "partitions" "Ljava/util/List;" .null := D290 (Or.inr (hw _ (List.mem_of_getElem? (i := 135) rfl))) (ty := (.object "java/util/List")) (by decide)
        refine Go.back (f' := (mkF m 216 #[.val (.int p0), .val (.int p1), .val (.int p2), .val (.int p3), .val (.int b1), .val (.int b2), .val (.int b3), .val (.int b4), .val (.int b5), .val (.int b6), .val (.int b7), .val (.int b8), .val (.int tt), .val (.int ch), .val (.ref sa), .val nv, .val rv, .val (.ref lo), .unset, .unset, .unset] [(.ref ti), (.ref lo)])) st290 ?_
        refine Go.back (f' := (mkF m 217 #[.val (.int p0), .val (.int p1), .val (.int p2), .val (.int p3), .val (.int b1), .val (.int b2), .val (.int b3), .val (.int b4), .val (.int b5), .val (.int b6), .val (.int b7), .val (.int b8), .val (.int tt), .val (.int ch), .val (.ref sa), .val nv, .val rv, .val (.ref lo), .unset, .unset, .unset] [(.ref ti), (.ref ti), (.ref lo)])) (fun _ k => XS.dup X290.here hx rfl (hb hby at_216) rfl rfl k) ?_
        refine Go.back (f' := (mkF m 218 #[.val (.int p0), .val (.int p1), .val (.int p2), .val (.int p3), .val (.int b1), .val (.int b2), .val (.int b3), .val (.int b4), .val (.int b5), .val (.int b6), .val (.int b7), .val (.int b8), .val (.int tt), .val (.int ch), .val (.ref sa), .val nv, .val rv, .val (.ref lo), .unset, .unset, .unset] [.null, (.ref ti), (.ref ti), (.ref lo)])) (fun _ k => XS.aconstNull X290.here hx rfl (hb hby at_217) k) ?_
        obtain ⟨T301, h301, X301, e301, E301, A301, D301, -, st301⟩ := newO X290 hx hZ hown (hw _ (List.mem_of_getElem? (i := 26) rfl)) (hw _ (List.mem_of_getElem? (i := 27) rfl)) (hw _ (List.mem_of_getElem? (i := 28) rfl)) e290 (g := (mkF m 218 #[.val (.int p0), .val (.int p1), .val (.int p2), .val (.int p3), .val (.int b1), .val (.int b2), .val (.int b3), .val (.int b4), .val (.int b5), .val (.int b6), .val (.int b7), .val (.int b8), .val (.int tt), .val (.int ch), .val (.ref sa), .val nv, .val rv, .val (.ref lo), .unset, .unset, .unset] [.null, (.ref ti), (.ref ti), (.ref lo)])) rfl (hb hby at_218) (by decide) (by decide)
        obtain ⟨l2, q301⟩ : ∃ z, z = h290.size := ⟨_, rfl⟩
        rw [← q301] at A301 D301 st301
        have ne_de_l2 : de ≠ l2 := lt_ne q301 Ar_292.lt
        have ne_lo_l2 : lo ≠ l2 := lt_ne q301 Ex_294.lt
        have ne_sa_l2 : sa ≠ l2 := lt_ne q301 Ex_291.lt
        have ne_ti_l2 : ti ≠ l2 := lt_ne q301 A290.lt
        have sz_l2 := K_298.at q301
        have g_l2 := K_298.ge sz_l2
        have Ex_302 := Ex_291.ext E301
        have Ar_303 := Ar_292.ext E301
        have St_304 := St_293.ext E301
        have Ex_305 := Ex_294.ext E301
        have Fl_306 := Fl_295.ext E301
        have Fl_307 := Fl_296.ext E301
        have Fl_308 := Fl_297.ext E301
        have Ex_309 := A290.ext E301
        have Fl_310 := Fl_299.ext E301
        have Fl_311 := Fl_300.ext E301
        have K_312 := K_298.ext E301
        have Fl_313 : Fld Z h301 l2 "java/util/AbstractList" "modCount" "I" (.int (0 : Int32)) := D301 (Or.inl (hw _ (List.mem_of_getElem? (i := 46) rfl))) (ty := .int) (by decide)
        have Fl_314 : Fld Z h301 l2 "java/util/ArrayList" "elementData" "[Ljava/lang/Object;" .null := D301 (Or.inl (hw _ (List.mem_of_getElem? (i := 49) rfl))) (ty := (.array (.object "java/lang/Object"))) (by decide)
        have Fl_315 : Fld Z h301 l2 "java/util/ArrayList" "size" "I" (.int (0 : Int32)) := D301 (Or.inl (hw _ (List.mem_of_getElem? (i := 102) rfl))) (ty := .int) (by decide)
        refine Go.back (f' := (mkF m 221 #[.val (.int p0), .val (.int p1), .val (.int p2), .val (.int p3), .val (.int b1), .val (.int b2), .val (.int b3), .val (.int b4), .val (.int b5), .val (.int b6), .val (.int b7), .val (.int b8), .val (.int tt), .val (.int ch), .val (.ref sa), .val nv, .val rv, .val (.ref lo), .unset, .unset, .unset] [(.ref l2), .null, (.ref ti), (.ref ti), (.ref lo)])) st301 ?_
        refine Go.back (f' := (mkF m 222 #[.val (.int p0), .val (.int p1), .val (.int p2), .val (.int p3), .val (.int b1), .val (.int b2), .val (.int b3), .val (.int b4), .val (.int b5), .val (.int b6), .val (.int b7), .val (.int b8), .val (.int tt), .val (.int ch), .val (.ref sa), .val nv, .val rv, .val (.ref lo), .unset, .unset, .unset] [(.ref l2), (.ref l2), .null, (.ref ti), (.ref ti), (.ref lo)])) (fun _ k => XS.dup X301.here hx rfl (hb hby at_221) rfl rfl k) ?_
        refine Go.callI X301 hx hZ rfl hown (hw _ (List.mem_of_getElem? (i := 29) rfl)) (hw _ (List.mem_of_getElem? (i := 30) rfl)) (hw _ (List.mem_of_getElem? (i := 28) rfl)) (hw _ (List.mem_of_getElem? (i := 31) rfl)) (by decide) e301 (a := l2) (argsL := []) (rest := [(.ref l2), .null, (.ref ti), (.ref ti), (.ref lo)]) (rmALI l Z a0 hw l2 de h0.size h301 K_312.size A301 g_l2 Fl_313 Fl_314 Fl_315 St_304) (lenOf pd_3 rfl) rfl (by rw [hml]; rfl) (W := 5) (Nat.le_of_eq rfl) (hb hby at_222) (by decide) (by decide) (by decide) (by decide) ?_
        intro v316 T316 L316 X316 hQ316
        obtain ⟨rfl, C316, G1_316, G2_316, G3_316⟩ := hQ316
        have Ex_317 := Ex_302.keep C316.keep
        have Ar_318 := Ar_303.keep C316.keep (ninS ne_de_l2 nin0)
        have St_319 := staKeep St_304 C316.keep (own_nsS (own_exaNS A301) own_ns0)
        have Ex_320 := Ex_305.keep C316.keep
        have Fl_321 := Fl_306.keep C316.keep (ninS ne_lo_l2 nin0)
        have Fl_322 := Fl_307.keep C316.keep (ninS ne_lo_l2 nin0)
        have Fl_323 := Fl_308.keep C316.keep (ninS ne_lo_l2 nin0)
        have Ex_324 := Ex_309.keep C316.keep
        have Fl_325 := Fl_310.keep C316.keep (ninS ne_ti_l2 nin0)
        have Fl_326 := Fl_311.keep C316.keep (ninS ne_ti_l2 nin0)
        have Ex_327 := A301.keep C316.keep
        have K_328 := K_312.call C316 (allS (Or.inr sz_l2) all0)
        show GoG _ _ _ _ _ (mkF m 225 #[.val (.int p0), .val (.int p1), .val (.int p2), .val (.int p3), .val (.int b1), .val (.int b2), .val (.int b3), .val (.int b4), .val (.int b5), .val (.int b6), .val (.int b7), .val (.int b8), .val (.int tt), .val (.int ch), .val (.ref sa), .val nv, .val rv, .val (.ref lo), .unset, .unset, .unset] [(.ref l2), .null, (.ref ti), (.ref ti), (.ref lo)])
        refine Go.callI X316 hx hZ rfl hown (hw _ (List.mem_of_getElem? (i := 128) rfl)) (hw _ (List.mem_of_getElem? (i := 129) rfl)) (hw _ (List.mem_of_getElem? (i := 127) rfl)) (hw _ (List.mem_of_getElem? (i := 130) rfl)) (by decide) rfl (a := ti) (argsL := [.null, (.ref l2)]) (rest := [(.ref ti), (.ref lo)]) (rmTI l Z a0 hw ti l2 h0.size T316.heap K_328.size Ex_324 g_ti Fl_325 Fl_326) (lenOf pd_10 rfl) rfl (by rw [hml]; rfl) (W := 2) (Nat.le_of_eq rfl) (hb hby at_225) (by decide) (by decide) (by decide) (by decide) ?_
        intro v329 T329 L329 X329 hQ329
        obtain ⟨rfl, C329⟩ := hQ329
        have Ex_330 := Ex_317.keep C329.keep
        have Ar_331 := Ar_318.keep C329.keep (ninS ne_de_ti nin0)
        have St_332 := staKeep St_319 C329.keep (own_nsS (own_exaNS Ex_324) own_ns0)
        have Ex_333 := Ex_320.keep C329.keep
        have Fl_334 := Fl_321.keep C329.keep (ninS ne_lo_ti nin0)
        have Fl_335 := Fl_322.keep C329.keep (ninS ne_lo_ti nin0)
        have Fl_336 := Fl_323.keep C329.keep (ninS ne_lo_ti nin0)
        have Ex_337 := Ex_324.keep C329.keep
        have Ex_338 := Ex_327.keep C329.keep
        have Fl_339 := G1_316.keep C329.keep (ninS (Ne.symm ne_ti_l2) nin0)
        have Fl_340 := G2_316.keep C329.keep (ninS (Ne.symm ne_ti_l2) nin0)
        have Fl_341 := G3_316.keep C329.keep (ninS (Ne.symm ne_ti_l2) nin0)
        have K_342 := K_328.call C329 (allS (Or.inr sz_ti) all0)
        show GoG _ _ _ _ _ (mkF m 228 #[.val (.int p0), .val (.int p1), .val (.int p2), .val (.int p3), .val (.int b1), .val (.int b2), .val (.int b3), .val (.int b4), .val (.int b5), .val (.int b6), .val (.int b7), .val (.int b8), .val (.int tt), .val (.int ch), .val (.ref sa), .val nv, .val rv, .val (.ref lo), .unset, .unset, .unset] [(.ref ti), (.ref lo)])
        refine Go.callV X329 hx hZ hown (hw _ (List.mem_of_getElem? (i := 94) rfl)) (hw _ (List.mem_of_getElem? (i := 95) rfl)) (hw _ (List.mem_of_getElem? (i := 97) rfl)) (hw _ (List.mem_of_getElem? (i := 96) rfl)) (hw _ (List.mem_of_getElem? (i := 28) rfl)) (hw _ (List.mem_of_getElem? (i := 98) rfl)) (by decide) rfl Ex_333 (argsL := [(.ref ti)]) (rest := []) (rmA1 l Z a0 hw lo de ti "com/example/durable_coordinator/durablecoordinator/protocol/TopicIdPartitions" h0.size T329.heap K_342.size Ex_333 g_lo Fl_334 Fl_335 Fl_336 St_332 Ar_331 Ex_337 (hw _ (List.mem_of_getElem? (i := 136) rfl))) (lenOf pd_9 rfl) rfl (by rw [hml]; rfl) (W := 0) (Nat.le_of_eq rfl) (hb hby at_228) (by decide) (by decide) (by decide) (by decide) ?_
        intro v343 T343 L343 X343 hQ343
        obtain ⟨rfl, C343⟩ := hQ343
        have Ex_344 := Ex_330.keep C343.keep
        have Ar_345 := Ar_331.keep C343.keep (ninS ne_de_lo nin0)
        have St_346 := staKeep St_332 C343.keep (own_nsS (own_exaNS Ex_333) own_ns0)
        have Ex_347 := Ex_333.keep C343.keep
        have Ex_348 := Ex_337.keep C343.keep
        have Ex_349 := Ex_338.keep C343.keep
        have Fl_350 := Fl_339.keep C343.keep (ninS (Ne.symm ne_lo_l2) nin0)
        have Fl_351 := Fl_340.keep C343.keep (ninS (Ne.symm ne_lo_l2) nin0)
        have Fl_352 := Fl_341.keep C343.keep (ninS (Ne.symm ne_lo_l2) nin0)
        have K_353 := K_342.call C343 (allS (Or.inr sz_lo) all0)
        show GoG _ _ _ _ _ (mkF m 231 #[.val (.int p0), .val (.int p1), .val (.int p2), .val (.int p3), .val (.int b1), .val (.int b2), .val (.int b3), .val (.int b4), .val (.int b5), .val (.int b6), .val (.int b7), .val (.int b8), .val (.int tt), .val (.int ch), .val (.ref sa), .val nv, .val rv, .val (.ref lo), .unset, .unset, .unset] [(.int (1 : Int32))])
        refine Go.back (f' := (mkF m 232 #[.val (.int p0), .val (.int p1), .val (.int p2), .val (.int p3), .val (.int b1), .val (.int b2), .val (.int b3), .val (.int b4), .val (.int b5), .val (.int b6), .val (.int b7), .val (.int b8), .val (.int tt), .val (.int ch), .val (.ref sa), .val nv, .val rv, .val (.ref lo), .unset, .unset, .unset] [])) (fun _ k => XS.pop X343.here hx rfl (hb hby at_231) rfl rfl k) ?_
        exact J3 _ _ _ _ _ (.ref lo) rfl rfl ⟨fun q => (by cases q), fun q => absurd q ho1⟩ (X343.more (by decide) (by decide)) rfl hS (Nat.le_trans hk K_353.grow) hZ hown K_353.base Ex_344 Ar_345 St_346
  clear hS hk hZ hown
  intro TJ3 vmJ3 kJ3 hJ3 LJ3 ov hov cov iov XJ3 eJ3 hS hk hZ hown KJ3 EsJ3 AdJ3 SdJ3
  have hmk : b8 = 0 ∨ b8 = 1 := by rw [h_b8]; split; exact Or.inl rfl; exact Or.inr rfl
  obtain ⟨T354, h354, X354, e354, E354, A354, D354, -, st354⟩ := newO XJ3 hx hZ hown (hw _ (List.mem_of_getElem? (i := 50) rfl)) (hw _ (List.mem_of_getElem? (i := 51) rfl)) (hw _ (List.mem_of_getElem? (i := 52) rfl)) eJ3 (g := (mkF m 232 #[.val (.int p0), .val (.int p1), .val (.int p2), .val (.int p3), .val (.int b1), .val (.int b2), .val (.int b3), .val (.int b4), .val (.int b5), .val (.int b6), .val (.int b7), .val (.int b8), .val (.int tt), .val (.int ch), .val (.ref sa), .val nv, .val rv, .val ov, .unset, .unset, .unset] [])) rfl (hb hby at_232) (by decide) (by decide)
  obtain ⟨mm, q354⟩ : ∃ z, z = hJ3.size := ⟨_, rfl⟩
  rw [← q354] at A354 D354 st354
  have ne_de_mm : de ≠ mm := lt_ne q354 AdJ3.lt
  have ne_sa_mm : sa ≠ mm := lt_ne q354 EsJ3.lt
  have sz_mm := KJ3.at q354
  have g_mm := KJ3.ge sz_mm
  have Ex_355 := EsJ3.ext E354
  have Ar_356 := AdJ3.ext E354
  have St_357 := SdJ3.ext E354
  have K_358 := KJ3.ext E354
  have Fl_359 : Fld Z h354 mm "com/example/durable_coordinator/durablecoordinator/protocol/ConsumerGroupHeartbeatRequest$Member" "instanceId" "Ljava/lang/String;" .null := D354 (Or.inr (hw _ (List.mem_of_getElem? (i := 58) rfl))) (ty := (.object "java/lang/String")) (by decide)
  have Fl_360 : Fld Z h354 mm "com/example/durable_coordinator/durablecoordinator/protocol/ConsumerGroupHeartbeatRequest$Member" "rackId" "Ljava/lang/String;" .null := D354 (Or.inr (hw _ (List.mem_of_getElem? (i := 60) rfl))) (ty := (.object "java/lang/String")) (by decide)
  have Fl_361 : Fld Z h354 mm "com/example/durable_coordinator/durablecoordinator/protocol/ConsumerGroupHeartbeatRequest$Member" "rebalanceTimeoutMs" "I" (.int (0 : Int32)) := D354 (Or.inr (hw _ (List.mem_of_getElem? (i := 62) rfl))) (ty := .int) (by decide)
  have Fl_362 : Fld Z h354 mm "com/example/durable_coordinator/durablecoordinator/protocol/ConsumerGroupHeartbeatRequest$Member" "topicNames" "Ljava/util/List;" .null := D354 (Or.inr (hw _ (List.mem_of_getElem? (i := 64) rfl))) (ty := (.object "java/util/List")) (by decide)
  have Fl_363 : Fld Z h354 mm "com/example/durable_coordinator/durablecoordinator/protocol/ConsumerGroupHeartbeatRequest$Member" "topicRegex" "Ljava/lang/String;" .null := D354 (Or.inr (hw _ (List.mem_of_getElem? (i := 66) rfl))) (ty := (.object "java/lang/String")) (by decide)
  have Fl_364 : Fld Z h354 mm "com/example/durable_coordinator/durablecoordinator/protocol/ConsumerGroupHeartbeatRequest$Member" "serverAssignor" "Ljava/lang/String;" .null := D354 (Or.inr (hw _ (List.mem_of_getElem? (i := 68) rfl))) (ty := (.object "java/lang/String")) (by decide)
  refine Go.back (f' := (mkF m 235 #[.val (.int p0), .val (.int p1), .val (.int p2), .val (.int p3), .val (.int b1), .val (.int b2), .val (.int b3), .val (.int b4), .val (.int b5), .val (.int b6), .val (.int b7), .val (.int b8), .val (.int tt), .val (.int ch), .val (.ref sa), .val nv, .val rv, .val ov, .unset, .unset, .unset] [(.ref mm)])) st354 ?_
  refine Go.back (f' := (mkF m 236 #[.val (.int p0), .val (.int p1), .val (.int p2), .val (.int p3), .val (.int b1), .val (.int b2), .val (.int b3), .val (.int b4), .val (.int b5), .val (.int b6), .val (.int b7), .val (.int b8), .val (.int tt), .val (.int ch), .val (.ref sa), .val nv, .val rv, .val ov, .unset, .unset, .unset] [(.ref mm), (.ref mm)])) (fun _ k => XS.dup X354.here hx rfl (hb hby at_235) rfl rfl k) ?_
  refine Go.back (f' := (mkF m 238 #[.val (.int p0), .val (.int p1), .val (.int p2), .val (.int p3), .val (.int b1), .val (.int b2), .val (.int b3), .val (.int b4), .val (.int b5), .val (.int b6), .val (.int b7), .val (.int b8), .val (.int tt), .val (.int ch), .val (.ref sa), .val nv, .val rv, .val ov, .unset, .unset, .unset] [(.ref sa), (.ref mm), (.ref mm)])) (fun _ k => XS.aload X354.here hx rfl (hb hby at_236) rfl rfl k) ?_
  refine Go.back (f' := (mkF m 239 #[.val (.int p0), .val (.int p1), .val (.int p2), .val (.int p3), .val (.int b1), .val (.int b2), .val (.int b3), .val (.int b4), .val (.int b5), .val (.int b6), .val (.int b7), .val (.int b8), .val (.int tt), .val (.int ch), .val (.ref sa), .val nv, .val rv, .val ov, .unset, .unset, .unset] [.null, (.ref sa), (.ref mm), (.ref mm)])) (fun _ k => XS.aconstNull X354.here hx rfl (hb hby at_238) k) ?_
  refine Go.back (f' := (mkF m 241 #[.val (.int p0), .val (.int p1), .val (.int p2), .val (.int p3), .val (.int b1), .val (.int b2), .val (.int b3), .val (.int b4), .val (.int b5), .val (.int b6), .val (.int b7), .val (.int b8), .val (.int tt), .val (.int ch), .val (.ref sa), .val nv, .val rv, .val ov, .unset, .unset, .unset] [(.int tt), .null, (.ref sa), (.ref mm), (.ref mm)])) (fun _ k => XS.iload X354.here hx rfl (hb hby at_239) rfl k) ?_
  refine Go.back (f' := (mkF m 243 #[.val (.int p0), .val (.int p1), .val (.int p2), .val (.int p3), .val (.int b1), .val (.int b2), .val (.int b3), .val (.int b4), .val (.int b5), .val (.int b6), .val (.int b7), .val (.int b8), .val (.int tt), .val (.int ch), .val (.ref sa), .val nv, .val rv, .val ov, .unset, .unset, .unset] [nv, (.int tt), .null, (.ref sa), (.ref mm), (.ref mm)])) (fun _ k => XS.aload X354.here hx rfl (hb hby at_241) rfl hnv k) ?_
  refine Go.back (f' := (mkF m 245 #[.val (.int p0), .val (.int p1), .val (.int p2), .val (.int p3), .val (.int b1), .val (.int b2), .val (.int b3), .val (.int b4), .val (.int b5), .val (.int b6), .val (.int b7), .val (.int b8), .val (.int tt), .val (.int ch), .val (.ref sa), .val nv, .val rv, .val ov, .unset, .unset, .unset] [rv, nv, (.int tt), .null, (.ref sa), (.ref mm), (.ref mm)])) (fun _ k => XS.aload X354.here hx rfl (hb hby at_243) rfl hrv k) ?_
  refine Go.back (f' := (mkF m 246 #[.val (.int p0), .val (.int p1), .val (.int p2), .val (.int p3), .val (.int b1), .val (.int b2), .val (.int b3), .val (.int b4), .val (.int b5), .val (.int b6), .val (.int b7), .val (.int b8), .val (.int tt), .val (.int ch), .val (.ref sa), .val nv, .val rv, .val ov, .unset, .unset, .unset] [.null, rv, nv, (.int tt), .null, (.ref sa), (.ref mm), (.ref mm)])) (fun _ k => XS.aconstNull X354.here hx rfl (hb hby at_245) k) ?_
  refine Go.callI X354 hx hZ rfl hown (hw _ (List.mem_of_getElem? (i := 53) rfl)) (hw _ (List.mem_of_getElem? (i := 54) rfl)) (hw _ (List.mem_of_getElem? (i := 52) rfl)) (hw _ (List.mem_of_getElem? (i := 55) rfl)) (by decide) e354 (a := mm) (argsL := [(.ref sa), .null, (.int tt), nv, rv, .null]) (rest := [(.ref mm)]) (rmMB l Z a0 hw mm sa tt nv rv h0.size h354 K_358.size A354 g_mm Fl_359 Fl_360 Fl_361 Fl_362 Fl_363 Fl_364 hnv cnv hrv crv) (lenOf pd_11 rfl) rfl (by rw [hml]; rfl) (W := 1) (Nat.le_of_eq rfl) (hb hby at_246) (by decide) (by decide) (by decide) (by decide) ?_
  intro v365 T365 L365 X365 hQ365
  obtain ⟨rfl, C365, Q1_365, Q2_365, Q3_365⟩ := hQ365
  have Ex_366 := Ex_355.keep C365.keep
  have Ar_367 := Ar_356.keep C365.keep (ninS ne_de_mm nin0)
  have St_368 := staKeep St_357 C365.keep (own_nsS (own_exaNS A354) own_ns0)
  have Ex_369 := A354.keep C365.keep
  have K_370 := K_358.call C365 (allS (Or.inr sz_mm) all0)
  show GoG _ _ _ _ _ (mkF m 249 #[.val (.int p0), .val (.int p1), .val (.int p2), .val (.int p3), .val (.int b1), .val (.int b2), .val (.int b3), .val (.int b4), .val (.int b5), .val (.int b6), .val (.int b7), .val (.int b8), .val (.int tt), .val (.int ch), .val (.ref sa), .val nv, .val rv, .val ov, .unset, .unset, .unset] [(.ref mm)])
  refine Go.back (f' := (mkF m 251 #[.val (.int p0), .val (.int p1), .val (.int p2), .val (.int p3), .val (.int b1), .val (.int b2), .val (.int b3), .val (.int b4), .val (.int b5), .val (.int b6), .val (.int b7), .val (.int b8), .val (.int tt), .val (.int ch), .val (.ref sa), .val nv, .val rv, .val ov, .val (.ref mm), .unset, .unset] [])) (fun _ k => XS.astore X365.here hx rfl (hb hby at_249) rfl rfl (l' := #[.val (.int p0), .val (.int p1), .val (.int p2), .val (.int p3), .val (.int b1), .val (.int b2), .val (.int b3), .val (.int b4), .val (.int b5), .val (.int b6), .val (.int b7), .val (.int b8), .val (.int tt), .val (.int ch), .val (.ref sa), .val nv, .val rv, .val ov, .val (.ref mm), .unset, .unset]) rfl k) ?_
  obtain ⟨T371, h371, X371, e371, E371, A371, D371, -, st371⟩ := newO X365 hx hZ hown (hw _ (List.mem_of_getElem? (i := 69) rfl)) (hw _ (List.mem_of_getElem? (i := 70) rfl)) (hw _ (List.mem_of_getElem? (i := 71) rfl)) rfl (g := (mkF m 251 #[.val (.int p0), .val (.int p1), .val (.int p2), .val (.int p3), .val (.int b1), .val (.int b2), .val (.int b3), .val (.int b4), .val (.int b5), .val (.int b6), .val (.int b7), .val (.int b8), .val (.int tt), .val (.int ch), .val (.ref sa), .val nv, .val rv, .val ov, .val (.ref mm), .unset, .unset] [])) rfl (hb hby at_251) (by decide) (by decide)
  obtain ⟨rq, q371⟩ : ∃ z, z = T365.heap.size := ⟨_, rfl⟩
  rw [← q371] at A371 D371 st371
  have ne_de_rq : de ≠ rq := lt_ne q371 Ar_367.lt
  have ne_mm_rq : mm ≠ rq := lt_ne q371 Ex_369.lt
  have ne_sa_rq : sa ≠ rq := lt_ne q371 Ex_366.lt
  have sz_rq := K_370.at q371
  have g_rq := K_370.ge sz_rq
  have Ex_372 := Ex_366.ext E371
  have Ar_373 := Ar_367.ext E371
  have St_374 := St_368.ext E371
  have Ex_375 := Ex_369.ext E371
  have Fl_376 := Q1_365.ext E371
  have Fl_377 := Q2_365.ext E371
  have Fl_378 := Q3_365.ext E371
  have K_379 := K_370.ext E371
  have Fl_380 : Fld Z h371 rq "com/example/durable_coordinator/durablecoordinator/protocol/ConsumerGroupHeartbeatRequest" "groupId" "Ljava/lang/String;" .null := D371 (Or.inr (hw _ (List.mem_of_getElem? (i := 77) rfl))) (ty := (.object "java/lang/String")) (by decide)
  have Fl_381 : Fld Z h371 rq "com/example/durable_coordinator/durablecoordinator/protocol/ConsumerGroupHeartbeatRequest" "memberId" "Ljava/lang/String;" .null := D371 (Or.inr (hw _ (List.mem_of_getElem? (i := 79) rfl))) (ty := (.object "java/lang/String")) (by decide)
  have Fl_382 : Fld Z h371 rq "com/example/durable_coordinator/durablecoordinator/protocol/ConsumerGroupHeartbeatRequest" "memberEpoch" "I" (.int (0 : Int32)) := D371 (Or.inr (hw _ (List.mem_of_getElem? (i := 81) rfl))) (ty := .int) (by decide)
  have Fl_383 : Fld Z h371 rq "com/example/durable_coordinator/durablecoordinator/protocol/ConsumerGroupHeartbeatRequest" "memberMakesItsId" "Z" (.int (0 : Int32)) := D371 (Or.inr (hw _ (List.mem_of_getElem? (i := 83) rfl))) (ty := .boolean) (by decide)
  have Fl_384 : Fld Z h371 rq "com/example/durable_coordinator/durablecoordinator/protocol/ConsumerGroupHeartbeatRequest" "member" "Lcom/example/durable_coordinator/durablecoordinator/protocol/ConsumerGroupHeartbeatRequest$Member;" .null := D371 (Or.inr (hw _ (List.mem_of_getElem? (i := 85) rfl))) (ty := (.object "com/example/durable_coordinator/durablecoordinator/protocol/ConsumerGroupHeartbeatRequest$Member")) (by decide)
  have Fl_385 : Fld Z h371 rq "com/example/durable_coordinator/durablecoordinator/protocol/ConsumerGroupHeartbeatRequest" "ownedPartitions" "Ljava/util/List;" .null := D371 (Or.inr (hw _ (List.mem_of_getElem? (i := 87) rfl))) (ty := (.object "java/util/List")) (by decide)
  refine Go.back (f' := (mkF m 254 #[.val (.int p0), .val (.int p1), .val (.int p2), .val (.int p3), .val (.int b1), .val (.int b2), .val (.int b3), .val (.int b4), .val (.int b5), .val (.int b6), .val (.int b7), .val (.int b8), .val (.int tt), .val (.int ch), .val (.ref sa), .val nv, .val rv, .val ov, .val (.ref mm), .unset, .unset] [(.ref rq)])) st371 ?_
  refine Go.back (f' := (mkF m 255 #[.val (.int p0), .val (.int p1), .val (.int p2), .val (.int p3), .val (.int b1), .val (.int b2), .val (.int b3), .val (.int b4), .val (.int b5), .val (.int b6), .val (.int b7), .val (.int b8), .val (.int tt), .val (.int ch), .val (.ref sa), .val nv, .val rv, .val ov, .val (.ref mm), .unset, .unset] [(.ref rq), (.ref rq)])) (fun _ k => XS.dup X371.here hx rfl (hb hby at_254) rfl rfl k) ?_
  refine Go.back (f' := (mkF m 257 #[.val (.int p0), .val (.int p1), .val (.int p2), .val (.int p3), .val (.int b1), .val (.int b2), .val (.int b3), .val (.int b4), .val (.int b5), .val (.int b6), .val (.int b7), .val (.int b8), .val (.int tt), .val (.int ch), .val (.ref sa), .val nv, .val rv, .val ov, .val (.ref mm), .unset, .unset] [(.ref sa), (.ref rq), (.ref rq)])) (fun _ k => XS.aload X371.here hx rfl (hb hby at_255) rfl rfl k) ?_
  refine Go.back (f' := (mkF m 259 #[.val (.int p0), .val (.int p1), .val (.int p2), .val (.int p3), .val (.int b1), .val (.int b2), .val (.int b3), .val (.int b4), .val (.int b5), .val (.int b6), .val (.int b7), .val (.int b8), .val (.int tt), .val (.int ch), .val (.ref sa), .val nv, .val rv, .val ov, .val (.ref mm), .unset, .unset] [(.ref sa), (.ref sa), (.ref rq), (.ref rq)])) (fun _ k => XS.aload X371.here hx rfl (hb hby at_257) rfl rfl k) ?_
  refine Go.back (f' := (mkF m 260 #[.val (.int p0), .val (.int p1), .val (.int p2), .val (.int p3), .val (.int b1), .val (.int b2), .val (.int b3), .val (.int b4), .val (.int b5), .val (.int b6), .val (.int b7), .val (.int b8), .val (.int tt), .val (.int ch), .val (.ref sa), .val nv, .val rv, .val ov, .val (.ref mm), .unset, .unset] [(.int p2), (.ref sa), (.ref sa), (.ref rq), (.ref rq)])) (fun _ k => XS.iloadN X371.here hx rfl (hb hby at_259) rfl k) ?_
  refine Go.back (f' := (mkF m 262 #[.val (.int p0), .val (.int p1), .val (.int p2), .val (.int p3), .val (.int b1), .val (.int b2), .val (.int b3), .val (.int b4), .val (.int b5), .val (.int b6), .val (.int b7), .val (.int b8), .val (.int tt), .val (.int ch), .val (.ref sa), .val nv, .val rv, .val ov, .val (.ref mm), .unset, .unset] [(.int b8), (.int p2), (.ref sa), (.ref sa), (.ref rq), (.ref rq)])) (fun _ k => XS.iload X371.here hx rfl (hb hby at_260) rfl k) ?_
  refine Go.back (f' := (mkF m 264 #[.val (.int p0), .val (.int p1), .val (.int p2), .val (.int p3), .val (.int b1), .val (.int b2), .val (.int b3), .val (.int b4), .val (.int b5), .val (.int b6), .val (.int b7), .val (.int b8), .val (.int tt), .val (.int ch), .val (.ref sa), .val nv, .val rv, .val ov, .val (.ref mm), .unset, .unset] [(.ref mm), (.int b8), (.int p2), (.ref sa), (.ref sa), (.ref rq), (.ref rq)])) (fun _ k => XS.aload X371.here hx rfl (hb hby at_262) rfl rfl k) ?_
  refine Go.back (f' := (mkF m 266 #[.val (.int p0), .val (.int p1), .val (.int p2), .val (.int p3), .val (.int b1), .val (.int b2), .val (.int b3), .val (.int b4), .val (.int b5), .val (.int b6), .val (.int b7), .val (.int b8), .val (.int tt), .val (.int ch), .val (.ref sa), .val nv, .val rv, .val ov, .val (.ref mm), .unset, .unset] [ov, (.ref mm), (.int b8), (.int p2), (.ref sa), (.ref sa), (.ref rq), (.ref rq)])) (fun _ k => XS.aload X371.here hx rfl (hb hby at_264) rfl hov k) ?_
  refine Go.callI X371 hx hZ rfl hown (hw _ (List.mem_of_getElem? (i := 72) rfl)) (hw _ (List.mem_of_getElem? (i := 73) rfl)) (hw _ (List.mem_of_getElem? (i := 71) rfl)) (hw _ (List.mem_of_getElem? (i := 74) rfl)) (by decide) e371 (a := rq) (argsL := [(.ref sa), (.ref sa), (.int p2), (.int b8), (.ref mm), ov]) (rest := [(.ref rq)]) (rmRQ l Z a0 hw rq sa mm p2 b8 ov h0.size h371 K_379.size A371 g_rq Fl_380 Fl_381 Fl_382 Fl_383 Fl_384 Fl_385 hov cov hmk) (lenOf pd_12 rfl) rfl (by rw [hml]; rfl) (W := 1) (Nat.le_of_eq rfl) (hb hby at_266) (by decide) (by decide) (by decide) (by decide) ?_
  intro v386 T386 L386 X386 hQ386
  obtain ⟨rfl, C386, Q1_386, Q2_386⟩ := hQ386
  have Ex_387 := Ex_372.keep C386.keep
  have Ar_388 := Ar_373.keep C386.keep (ninS ne_de_rq nin0)
  have St_389 := staKeep St_374 C386.keep (own_nsS (own_exaNS A371) own_ns0)
  have Ex_390 := Ex_375.keep C386.keep
  have Fl_391 := Fl_376.keep C386.keep (ninS ne_mm_rq nin0)
  have Fl_392 := Fl_377.keep C386.keep (ninS ne_mm_rq nin0)
  have Fl_393 := Fl_378.keep C386.keep (ninS ne_mm_rq nin0)
  have Ex_394 := A371.keep C386.keep
  have K_395 := K_379.call C386 (allS (Or.inr sz_rq) all0)
  show GoG _ _ _ _ _ (mkF m 269 #[.val (.int p0), .val (.int p1), .val (.int p2), .val (.int p3), .val (.int b1), .val (.int b2), .val (.int b3), .val (.int b4), .val (.int b5), .val (.int b6), .val (.int b7), .val (.int b8), .val (.int tt), .val (.int ch), .val (.ref sa), .val nv, .val rv, .val ov, .val (.ref mm), .unset, .unset] [(.ref rq)])
  refine Go.back (f' := (mkF m 271 #[.val (.int p0), .val (.int p1), .val (.int p2), .val (.int p3), .val (.int b1), .val (.int b2), .val (.int b3), .val (.int b4), .val (.int b5), .val (.int b6), .val (.int b7), .val (.int b8), .val (.int tt), .val (.int ch), .val (.ref sa), .val nv, .val rv, .val ov, .val (.ref mm), .val (.ref rq), .unset] [])) (fun _ k => XS.astore X386.here hx rfl (hb hby at_269) rfl rfl (l' := #[.val (.int p0), .val (.int p1), .val (.int p2), .val (.int p3), .val (.int b1), .val (.int b2), .val (.int b3), .val (.int b4), .val (.int b5), .val (.int b6), .val (.int b7), .val (.int b8), .val (.int tt), .val (.int ch), .val (.ref sa), .val nv, .val rv, .val ov, .val (.ref mm), .val (.ref rq), .unset]) rfl k) ?_
  refine Go.back (f' := (mkF m 273 #[.val (.int p0), .val (.int p1), .val (.int p2), .val (.int p3), .val (.int b1), .val (.int b2), .val (.int b3), .val (.int b4), .val (.int b5), .val (.int b6), .val (.int b7), .val (.int b8), .val (.int tt), .val (.int ch), .val (.ref sa), .val nv, .val rv, .val ov, .val (.ref mm), .val (.ref rq), .unset] [(.int tt)])) (fun _ k => XS.iload X386.here hx rfl (hb hby at_271) rfl k) ?_
  refine Go.back (f' := (mkF m 274 #[.val (.int p0), .val (.int p1), .val (.int p2), .val (.int p3), .val (.int b1), .val (.int b2), .val (.int b3), .val (.int b4), .val (.int b5), .val (.int b6), .val (.int b7), .val (.int b8), .val (.int tt), .val (.int ch), .val (.ref sa), .val nv, .val rv, .val ov, .val (.ref mm), .val (.ref rq), .unset] [(.int (-1 : Int32)), (.int tt)])) (fun _ k => XS.iconst X386.here hx rfl (hb hby at_273) k) ?_
  by_cases h1 : tt = (-1 : Int32)
  · refine Go.back (f' := (mkF m 296 #[.val (.int p0), .val (.int p1), .val (.int p2), .val (.int p3), .val (.int b1), .val (.int b2), .val (.int b3), .val (.int b4), .val (.int b5), .val (.int b6), .val (.int b7), .val (.int b8), .val (.int tt), .val (.int ch), .val (.ref sa), .val nv, .val rv, .val ov, .val (.ref mm), .val (.ref rq), .unset] [])) (fun _ k => XS.icmpYes X386.here hx rfl (pc0 := 274) (pc' := 296) rfl (hb hby at_274) rfl (teq h1).1 (by decide) (by decide) k) ?_
    refine Go.back (f' := (mkF m 297 #[.val (.int p0), .val (.int p1), .val (.int p2), .val (.int p3), .val (.int b1), .val (.int b2), .val (.int b3), .val (.int b4), .val (.int b5), .val (.int b6), .val (.int b7), .val (.int b8), .val (.int tt), .val (.int ch), .val (.ref sa), .val nv, .val rv, .val ov, .val (.ref mm), .val (.ref rq), .unset] [(.int (0 : Int32))])) (fun _ k => XS.iconst X386.here hx rfl (hb hby at_296) k) ?_
    refine Go.back (f' := (mkF m 299 #[.val (.int p0), .val (.int p1), .val (.int p2), .val (.int p3), .val (.int b1), .val (.int b2), .val (.int b3), .val (.int b4), .val (.int b5), .val (.int b6), .val (.int b7), .val (.int b8), .val (.int tt), .val (.int ch), .val (.ref sa), .val nv, .val rv, .val ov, .val (.ref mm), .val (.ref rq), .val (.int (0 : Int32))] [])) (fun _ k => XS.istore X386.here hx rfl (hb hby at_297) rfl (l' := #[.val (.int p0), .val (.int p1), .val (.int p2), .val (.int p3), .val (.int b1), .val (.int b2), .val (.int b3), .val (.int b4), .val (.int b5), .val (.int b6), .val (.int b7), .val (.int b8), .val (.int tt), .val (.int ch), .val (.ref sa), .val nv, .val rv, .val ov, .val (.ref mm), .val (.ref rq), .val (.int (0 : Int32))]) rfl k) ?_
    refine Go.back (f' := (mkF m 301 #[.val (.int p0), .val (.int p1), .val (.int p2), .val (.int p3), .val (.int b1), .val (.int b2), .val (.int b3), .val (.int b4), .val (.int b5), .val (.int b6), .val (.int b7), .val (.int b8), .val (.int tt), .val (.int ch), .val (.ref sa), .val nv, .val rv, .val ov, .val (.ref mm), .val (.ref rq), .val (.int (0 : Int32))] [(.ref rq)])) (fun _ k => XS.aload X386.here hx rfl (hb hby at_299) rfl rfl k) ?_
    refine Go.callV X386 hx hZ hown (hw _ (List.mem_of_getElem? (i := 88) rfl)) (hw _ (List.mem_of_getElem? (i := 89) rfl)) (hw _ (List.mem_of_getElem? (i := 91) rfl)) (hw _ (List.mem_of_getElem? (i := 90) rfl)) (hw _ (List.mem_of_getElem? (i := 71) rfl)) (hw _ (List.mem_of_getElem? (i := 92) rfl)) (by decide) rfl Ex_394 (argsL := []) (rest := []) (rmIF l Z a0 hw rq mm tt nv rv ov T386.heap Q1_386 Q2_386 Fl_391 Fl_392 Fl_393 hnv cnv hrv crv hov cov) (lenOf pd_13 rfl) rfl (by rw [hml]; rfl) (W := 0) (Nat.le_of_eq rfl) (hb hby at_301) (by decide) (by decide) (by decide) (by decide) ?_
    intro v396 T396 L396 X396 hQ396
    obtain ⟨g, rfl, g01, gi, rfl, hh396⟩ := hQ396
    have eg : g = 0 := g01.resolve_right (fun q => (gi.mp q).1 h1)
    subst eg
    rw [List.append_nil] at X396
    show GoG _ _ _ _ _ (mkF m 304 #[.val (.int p0), .val (.int p1), .val (.int p2), .val (.int p3), .val (.int b1), .val (.int b2), .val (.int b3), .val (.int b4), .val (.int b5), .val (.int b6), .val (.int b7), .val (.int b8), .val (.int tt), .val (.int ch), .val (.ref sa), .val nv, .val rv, .val ov, .val (.ref mm), .val (.ref rq), .val (.int (0 : Int32))] [(.int (0 : Int32))])
    refine Go.back (f' := (mkF m 306 #[.val (.int p0), .val (.int p1), .val (.int p2), .val (.int p3), .val (.int b1), .val (.int b2), .val (.int b3), .val (.int b4), .val (.int b5), .val (.int b6), .val (.int b7), .val (.int b8), .val (.int tt), .val (.int ch), .val (.ref sa), .val nv, .val rv, .val ov, .val (.ref mm), .val (.ref rq), .val (.int (0 : Int32))] [(.int (0 : Int32)), (.int (0 : Int32))])) (fun _ k => XS.iload X396.here hx rfl (hb hby at_304) rfl k) ?_
    refine Go.back (f' := (mkF m 309 #[.val (.int p0), .val (.int p1), .val (.int p2), .val (.int p3), .val (.int b1), .val (.int b2), .val (.int b3), .val (.int b4), .val (.int b5), .val (.int b6), .val (.int b7), .val (.int b8), .val (.int tt), .val (.int ch), .val (.ref sa), .val nv, .val rv, .val ov, .val (.ref mm), .val (.ref rq), .val (.int (0 : Int32))] [])) (fun _ k => XS.icmpNo X396.here hx rfl (hb hby at_306) rfl (teq rfl).2 k) ?_
    refine Go.back (f' := (mkF m 310 #[.val (.int p0), .val (.int p1), .val (.int p2), .val (.int p3), .val (.int b1), .val (.int b2), .val (.int b3), .val (.int b4), .val (.int b5), .val (.int b6), .val (.int b7), .val (.int b8), .val (.int tt), .val (.int ch), .val (.ref sa), .val nv, .val rv, .val ov, .val (.ref mm), .val (.ref rq), .val (.int (0 : Int32))] [(.int (1 : Int32))])) (fun _ k => XS.iconst X396.here hx rfl (hb hby at_309) k) ?_
    refine Go.back (f' := (mkF m 314 #[.val (.int p0), .val (.int p1), .val (.int p2), .val (.int p3), .val (.int b1), .val (.int b2), .val (.int b3), .val (.int b4), .val (.int b5), .val (.int b6), .val (.int b7), .val (.int b8), .val (.int tt), .val (.int ch), .val (.ref sa), .val nv, .val rv, .val ov, .val (.ref mm), .val (.ref rq), .val (.int (0 : Int32))] [(.int (1 : Int32))])) (fun _ k => XS.goto X396.here hx rfl (pc0 := 310) (pc' := 314) rfl (hb hby at_310) (by decide) (by decide) k) ?_
    exact GoW.retN X396 hx hS (by rw [hh396]; exact (Nat.le_trans hk K_395.grow)) (t := .boolean) hret (by simp) (w := (1 : Int32)) rfl hlk (hb hby at_314) (by (try rw [hh396]); exact ⟨rfl, hh0 ▸ K_395.fr⟩) (by decide) (by decide)
  · refine Go.back (f' := (mkF m 277 #[.val (.int p0), .val (.int p1), .val (.int p2), .val (.int p3), .val (.int b1), .val (.int b2), .val (.int b3), .val (.int b4), .val (.int b5), .val (.int b6), .val (.int b7), .val (.int b8), .val (.int tt), .val (.int ch), .val (.ref sa), .val nv, .val rv, .val ov, .val (.ref mm), .val (.ref rq), .unset] [])) (fun _ k => XS.icmpNo X386.here hx rfl (hb hby at_274) rfl (feq h1).1 k) ?_
    refine Go.back (f' := (mkF m 279 #[.val (.int p0), .val (.int p1), .val (.int p2), .val (.int p3), .val (.int b1), .val (.int b2), .val (.int b3), .val (.int b4), .val (.int b5), .val (.int b6), .val (.int b7), .val (.int b8), .val (.int tt), .val (.int ch), .val (.ref sa), .val nv, .val rv, .val ov, .val (.ref mm), .val (.ref rq), .unset] [(.int b2)])) (fun _ k => XS.iload X386.here hx rfl (hb hby at_277) rfl k) ?_
    by_cases h2 : b2 = 0
    · refine Go.back (f' := (mkF m 282 #[.val (.int p0), .val (.int p1), .val (.int p2), .val (.int p3), .val (.int b1), .val (.int b2), .val (.int b3), .val (.int b4), .val (.int b5), .val (.int b6), .val (.int b7), .val (.int b8), .val (.int tt), .val (.int ch), .val (.ref sa), .val nv, .val rv, .val ov, .val (.ref mm), .val (.ref rq), .unset] [])) (fun _ k => XS.ifNo X386.here hx rfl (hb hby at_279) rfl ((if0 _ _).trans (teq h2).2) k) ?_
      refine Go.back (f' := (mkF m 284 #[.val (.int p0), .val (.int p1), .val (.int p2), .val (.int p3), .val (.int b1), .val (.int b2), .val (.int b3), .val (.int b4), .val (.int b5), .val (.int b6), .val (.int b7), .val (.int b8), .val (.int tt), .val (.int ch), .val (.ref sa), .val nv, .val rv, .val ov, .val (.ref mm), .val (.ref rq), .unset] [(.int b4)])) (fun _ k => XS.iload X386.here hx rfl (hb hby at_282) rfl k) ?_
      by_cases h3 : b4 = 0
      · refine Go.back (f' := (mkF m 296 #[.val (.int p0), .val (.int p1), .val (.int p2), .val (.int p3), .val (.int b1), .val (.int b2), .val (.int b3), .val (.int b4), .val (.int b5), .val (.int b6), .val (.int b7), .val (.int b8), .val (.int tt), .val (.int ch), .val (.ref sa), .val nv, .val rv, .val ov, .val (.ref mm), .val (.ref rq), .unset] [])) (fun _ k => XS.ifYes X386.here hx rfl (pc0 := 284) (pc' := 296) rfl (hb hby at_284) rfl ((if0 _ _).trans (teq h3).1) (by decide) (by decide) k) ?_
        refine Go.back (f' := (mkF m 297 #[.val (.int p0), .val (.int p1), .val (.int p2), .val (.int p3), .val (.int b1), .val (.int b2), .val (.int b3), .val (.int b4), .val (.int b5), .val (.int b6), .val (.int b7), .val (.int b8), .val (.int tt), .val (.int ch), .val (.ref sa), .val nv, .val rv, .val ov, .val (.ref mm), .val (.ref rq), .unset] [(.int (0 : Int32))])) (fun _ k => XS.iconst X386.here hx rfl (hb hby at_296) k) ?_
        refine Go.back (f' := (mkF m 299 #[.val (.int p0), .val (.int p1), .val (.int p2), .val (.int p3), .val (.int b1), .val (.int b2), .val (.int b3), .val (.int b4), .val (.int b5), .val (.int b6), .val (.int b7), .val (.int b8), .val (.int tt), .val (.int ch), .val (.ref sa), .val nv, .val rv, .val ov, .val (.ref mm), .val (.ref rq), .val (.int (0 : Int32))] [])) (fun _ k => XS.istore X386.here hx rfl (hb hby at_297) rfl (l' := #[.val (.int p0), .val (.int p1), .val (.int p2), .val (.int p3), .val (.int b1), .val (.int b2), .val (.int b3), .val (.int b4), .val (.int b5), .val (.int b6), .val (.int b7), .val (.int b8), .val (.int tt), .val (.int ch), .val (.ref sa), .val nv, .val rv, .val ov, .val (.ref mm), .val (.ref rq), .val (.int (0 : Int32))]) rfl k) ?_
        refine Go.back (f' := (mkF m 301 #[.val (.int p0), .val (.int p1), .val (.int p2), .val (.int p3), .val (.int b1), .val (.int b2), .val (.int b3), .val (.int b4), .val (.int b5), .val (.int b6), .val (.int b7), .val (.int b8), .val (.int tt), .val (.int ch), .val (.ref sa), .val nv, .val rv, .val ov, .val (.ref mm), .val (.ref rq), .val (.int (0 : Int32))] [(.ref rq)])) (fun _ k => XS.aload X386.here hx rfl (hb hby at_299) rfl rfl k) ?_
        refine Go.callV X386 hx hZ hown (hw _ (List.mem_of_getElem? (i := 88) rfl)) (hw _ (List.mem_of_getElem? (i := 89) rfl)) (hw _ (List.mem_of_getElem? (i := 91) rfl)) (hw _ (List.mem_of_getElem? (i := 90) rfl)) (hw _ (List.mem_of_getElem? (i := 71) rfl)) (hw _ (List.mem_of_getElem? (i := 92) rfl)) (by decide) rfl Ex_394 (argsL := []) (rest := []) (rmIF l Z a0 hw rq mm tt nv rv ov T386.heap Q1_386 Q2_386 Fl_391 Fl_392 Fl_393 hnv cnv hrv crv hov cov) (lenOf pd_13 rfl) rfl (by rw [hml]; rfl) (W := 0) (Nat.le_of_eq rfl) (hb hby at_301) (by decide) (by decide) (by decide) (by decide) ?_
        intro v397 T397 L397 X397 hQ397
        obtain ⟨g, rfl, g01, gi, rfl, hh397⟩ := hQ397
        have eg : g = 0 := g01.resolve_right (fun q => (gi.mp q).2.1.elim (fun z => z (inv.mpr h2)) (fun z => z (irv.mpr h3)))
        subst eg
        rw [List.append_nil] at X397
        show GoG _ _ _ _ _ (mkF m 304 #[.val (.int p0), .val (.int p1), .val (.int p2), .val (.int p3), .val (.int b1), .val (.int b2), .val (.int b3), .val (.int b4), .val (.int b5), .val (.int b6), .val (.int b7), .val (.int b8), .val (.int tt), .val (.int ch), .val (.ref sa), .val nv, .val rv, .val ov, .val (.ref mm), .val (.ref rq), .val (.int (0 : Int32))] [(.int (0 : Int32))])
        refine Go.back (f' := (mkF m 306 #[.val (.int p0), .val (.int p1), .val (.int p2), .val (.int p3), .val (.int b1), .val (.int b2), .val (.int b3), .val (.int b4), .val (.int b5), .val (.int b6), .val (.int b7), .val (.int b8), .val (.int tt), .val (.int ch), .val (.ref sa), .val nv, .val rv, .val ov, .val (.ref mm), .val (.ref rq), .val (.int (0 : Int32))] [(.int (0 : Int32)), (.int (0 : Int32))])) (fun _ k => XS.iload X397.here hx rfl (hb hby at_304) rfl k) ?_
        refine Go.back (f' := (mkF m 309 #[.val (.int p0), .val (.int p1), .val (.int p2), .val (.int p3), .val (.int b1), .val (.int b2), .val (.int b3), .val (.int b4), .val (.int b5), .val (.int b6), .val (.int b7), .val (.int b8), .val (.int tt), .val (.int ch), .val (.ref sa), .val nv, .val rv, .val ov, .val (.ref mm), .val (.ref rq), .val (.int (0 : Int32))] [])) (fun _ k => XS.icmpNo X397.here hx rfl (hb hby at_306) rfl (teq rfl).2 k) ?_
        refine Go.back (f' := (mkF m 310 #[.val (.int p0), .val (.int p1), .val (.int p2), .val (.int p3), .val (.int b1), .val (.int b2), .val (.int b3), .val (.int b4), .val (.int b5), .val (.int b6), .val (.int b7), .val (.int b8), .val (.int tt), .val (.int ch), .val (.ref sa), .val nv, .val rv, .val ov, .val (.ref mm), .val (.ref rq), .val (.int (0 : Int32))] [(.int (1 : Int32))])) (fun _ k => XS.iconst X397.here hx rfl (hb hby at_309) k) ?_
        refine Go.back (f' := (mkF m 314 #[.val (.int p0), .val (.int p1), .val (.int p2), .val (.int p3), .val (.int b1), .val (.int b2), .val (.int b3), .val (.int b4), .val (.int b5), .val (.int b6), .val (.int b7), .val (.int b8), .val (.int tt), .val (.int ch), .val (.ref sa), .val nv, .val rv, .val ov, .val (.ref mm), .val (.ref rq), .val (.int (0 : Int32))] [(.int (1 : Int32))])) (fun _ k => XS.goto X397.here hx rfl (pc0 := 310) (pc' := 314) rfl (hb hby at_310) (by decide) (by decide) k) ?_
        exact GoW.retN X397 hx hS (by rw [hh397]; exact (Nat.le_trans hk K_395.grow)) (t := .boolean) hret (by simp) (w := (1 : Int32)) rfl hlk (hb hby at_314) (by (try rw [hh397]); exact ⟨rfl, hh0 ▸ K_395.fr⟩) (by decide) (by decide)
      · refine Go.back (f' := (mkF m 287 #[.val (.int p0), .val (.int p1), .val (.int p2), .val (.int p3), .val (.int b1), .val (.int b2), .val (.int b3), .val (.int b4), .val (.int b5), .val (.int b6), .val (.int b7), .val (.int b8), .val (.int tt), .val (.int ch), .val (.ref sa), .val nv, .val rv, .val ov, .val (.ref mm), .val (.ref rq), .unset] [])) (fun _ k => XS.ifNo X386.here hx rfl (hb hby at_284) rfl ((if0 _ _).trans (feq h3).1) k) ?_
        refine Go.back (f' := (mkF m 289 #[.val (.int p0), .val (.int p1), .val (.int p2), .val (.int p3), .val (.int b1), .val (.int b2), .val (.int b3), .val (.int b4), .val (.int b5), .val (.int b6), .val (.int b7), .val (.int b8), .val (.int tt), .val (.int ch), .val (.ref sa), .val nv, .val rv, .val ov, .val (.ref mm), .val (.ref rq), .unset] [(.int b6)])) (fun _ k => XS.iload X386.here hx rfl (hb hby at_287) rfl k) ?_
        by_cases h4 : b6 = 0
        · refine Go.back (f' := (mkF m 296 #[.val (.int p0), .val (.int p1), .val (.int p2), .val (.int p3), .val (.int b1), .val (.int b2), .val (.int b3), .val (.int b4), .val (.int b5), .val (.int b6), .val (.int b7), .val (.int b8), .val (.int tt), .val (.int ch), .val (.ref sa), .val nv, .val rv, .val ov, .val (.ref mm), .val (.ref rq), .unset] [])) (fun _ k => XS.ifYes X386.here hx rfl (pc0 := 289) (pc' := 296) rfl (hb hby at_289) rfl ((if0 _ _).trans (teq h4).1) (by decide) (by decide) k) ?_
          refine Go.back (f' := (mkF m 297 #[.val (.int p0), .val (.int p1), .val (.int p2), .val (.int p3), .val (.int b1), .val (.int b2), .val (.int b3), .val (.int b4), .val (.int b5), .val (.int b6), .val (.int b7), .val (.int b8), .val (.int tt), .val (.int ch), .val (.ref sa), .val nv, .val rv, .val ov, .val (.ref mm), .val (.ref rq), .unset] [(.int (0 : Int32))])) (fun _ k => XS.iconst X386.here hx rfl (hb hby at_296) k) ?_
          refine Go.back (f' := (mkF m 299 #[.val (.int p0), .val (.int p1), .val (.int p2), .val (.int p3), .val (.int b1), .val (.int b2), .val (.int b3), .val (.int b4), .val (.int b5), .val (.int b6), .val (.int b7), .val (.int b8), .val (.int tt), .val (.int ch), .val (.ref sa), .val nv, .val rv, .val ov, .val (.ref mm), .val (.ref rq), .val (.int (0 : Int32))] [])) (fun _ k => XS.istore X386.here hx rfl (hb hby at_297) rfl (l' := #[.val (.int p0), .val (.int p1), .val (.int p2), .val (.int p3), .val (.int b1), .val (.int b2), .val (.int b3), .val (.int b4), .val (.int b5), .val (.int b6), .val (.int b7), .val (.int b8), .val (.int tt), .val (.int ch), .val (.ref sa), .val nv, .val rv, .val ov, .val (.ref mm), .val (.ref rq), .val (.int (0 : Int32))]) rfl k) ?_
          refine Go.back (f' := (mkF m 301 #[.val (.int p0), .val (.int p1), .val (.int p2), .val (.int p3), .val (.int b1), .val (.int b2), .val (.int b3), .val (.int b4), .val (.int b5), .val (.int b6), .val (.int b7), .val (.int b8), .val (.int tt), .val (.int ch), .val (.ref sa), .val nv, .val rv, .val ov, .val (.ref mm), .val (.ref rq), .val (.int (0 : Int32))] [(.ref rq)])) (fun _ k => XS.aload X386.here hx rfl (hb hby at_299) rfl rfl k) ?_
          refine Go.callV X386 hx hZ hown (hw _ (List.mem_of_getElem? (i := 88) rfl)) (hw _ (List.mem_of_getElem? (i := 89) rfl)) (hw _ (List.mem_of_getElem? (i := 91) rfl)) (hw _ (List.mem_of_getElem? (i := 90) rfl)) (hw _ (List.mem_of_getElem? (i := 71) rfl)) (hw _ (List.mem_of_getElem? (i := 92) rfl)) (by decide) rfl Ex_394 (argsL := []) (rest := []) (rmIF l Z a0 hw rq mm tt nv rv ov T386.heap Q1_386 Q2_386 Fl_391 Fl_392 Fl_393 hnv cnv hrv crv hov cov) (lenOf pd_13 rfl) rfl (by rw [hml]; rfl) (W := 0) (Nat.le_of_eq rfl) (hb hby at_301) (by decide) (by decide) (by decide) (by decide) ?_
          intro v398 T398 L398 X398 hQ398
          obtain ⟨g, rfl, g01, gi, rfl, hh398⟩ := hQ398
          have eg : g = 0 := g01.resolve_right (fun q => (gi.mp q).2.2 (iov.mpr h4))
          subst eg
          rw [List.append_nil] at X398
          show GoG _ _ _ _ _ (mkF m 304 #[.val (.int p0), .val (.int p1), .val (.int p2), .val (.int p3), .val (.int b1), .val (.int b2), .val (.int b3), .val (.int b4), .val (.int b5), .val (.int b6), .val (.int b7), .val (.int b8), .val (.int tt), .val (.int ch), .val (.ref sa), .val nv, .val rv, .val ov, .val (.ref mm), .val (.ref rq), .val (.int (0 : Int32))] [(.int (0 : Int32))])
          refine Go.back (f' := (mkF m 306 #[.val (.int p0), .val (.int p1), .val (.int p2), .val (.int p3), .val (.int b1), .val (.int b2), .val (.int b3), .val (.int b4), .val (.int b5), .val (.int b6), .val (.int b7), .val (.int b8), .val (.int tt), .val (.int ch), .val (.ref sa), .val nv, .val rv, .val ov, .val (.ref mm), .val (.ref rq), .val (.int (0 : Int32))] [(.int (0 : Int32)), (.int (0 : Int32))])) (fun _ k => XS.iload X398.here hx rfl (hb hby at_304) rfl k) ?_
          refine Go.back (f' := (mkF m 309 #[.val (.int p0), .val (.int p1), .val (.int p2), .val (.int p3), .val (.int b1), .val (.int b2), .val (.int b3), .val (.int b4), .val (.int b5), .val (.int b6), .val (.int b7), .val (.int b8), .val (.int tt), .val (.int ch), .val (.ref sa), .val nv, .val rv, .val ov, .val (.ref mm), .val (.ref rq), .val (.int (0 : Int32))] [])) (fun _ k => XS.icmpNo X398.here hx rfl (hb hby at_306) rfl (teq rfl).2 k) ?_
          refine Go.back (f' := (mkF m 310 #[.val (.int p0), .val (.int p1), .val (.int p2), .val (.int p3), .val (.int b1), .val (.int b2), .val (.int b3), .val (.int b4), .val (.int b5), .val (.int b6), .val (.int b7), .val (.int b8), .val (.int tt), .val (.int ch), .val (.ref sa), .val nv, .val rv, .val ov, .val (.ref mm), .val (.ref rq), .val (.int (0 : Int32))] [(.int (1 : Int32))])) (fun _ k => XS.iconst X398.here hx rfl (hb hby at_309) k) ?_
          refine Go.back (f' := (mkF m 314 #[.val (.int p0), .val (.int p1), .val (.int p2), .val (.int p3), .val (.int b1), .val (.int b2), .val (.int b3), .val (.int b4), .val (.int b5), .val (.int b6), .val (.int b7), .val (.int b8), .val (.int tt), .val (.int ch), .val (.ref sa), .val nv, .val rv, .val ov, .val (.ref mm), .val (.ref rq), .val (.int (0 : Int32))] [(.int (1 : Int32))])) (fun _ k => XS.goto X398.here hx rfl (pc0 := 310) (pc' := 314) rfl (hb hby at_310) (by decide) (by decide) k) ?_
          exact GoW.retN X398 hx hS (by rw [hh398]; exact (Nat.le_trans hk K_395.grow)) (t := .boolean) hret (by simp) (w := (1 : Int32)) rfl hlk (hb hby at_314) (by (try rw [hh398]); exact ⟨rfl, hh0 ▸ K_395.fr⟩) (by decide) (by decide)
        · refine Go.back (f' := (mkF m 292 #[.val (.int p0), .val (.int p1), .val (.int p2), .val (.int p3), .val (.int b1), .val (.int b2), .val (.int b3), .val (.int b4), .val (.int b5), .val (.int b6), .val (.int b7), .val (.int b8), .val (.int tt), .val (.int ch), .val (.ref sa), .val nv, .val rv, .val ov, .val (.ref mm), .val (.ref rq), .unset] [])) (fun _ k => XS.ifNo X386.here hx rfl (hb hby at_289) rfl ((if0 _ _).trans (feq h4).1) k) ?_
          refine Go.back (f' := (mkF m 293 #[.val (.int p0), .val (.int p1), .val (.int p2), .val (.int p3), .val (.int b1), .val (.int b2), .val (.int b3), .val (.int b4), .val (.int b5), .val (.int b6), .val (.int b7), .val (.int b8), .val (.int tt), .val (.int ch), .val (.ref sa), .val nv, .val rv, .val ov, .val (.ref mm), .val (.ref rq), .unset] [(.int (1 : Int32))])) (fun _ k => XS.iconst X386.here hx rfl (hb hby at_292) k) ?_
          refine Go.back (f' := (mkF m 297 #[.val (.int p0), .val (.int p1), .val (.int p2), .val (.int p3), .val (.int b1), .val (.int b2), .val (.int b3), .val (.int b4), .val (.int b5), .val (.int b6), .val (.int b7), .val (.int b8), .val (.int tt), .val (.int ch), .val (.ref sa), .val nv, .val rv, .val ov, .val (.ref mm), .val (.ref rq), .unset] [(.int (1 : Int32))])) (fun _ k => XS.goto X386.here hx rfl (pc0 := 293) (pc' := 297) rfl (hb hby at_293) (by decide) (by decide) k) ?_
          refine Go.back (f' := (mkF m 299 #[.val (.int p0), .val (.int p1), .val (.int p2), .val (.int p3), .val (.int b1), .val (.int b2), .val (.int b3), .val (.int b4), .val (.int b5), .val (.int b6), .val (.int b7), .val (.int b8), .val (.int tt), .val (.int ch), .val (.ref sa), .val nv, .val rv, .val ov, .val (.ref mm), .val (.ref rq), .val (.int (1 : Int32))] [])) (fun _ k => XS.istore X386.here hx rfl (hb hby at_297) rfl (l' := #[.val (.int p0), .val (.int p1), .val (.int p2), .val (.int p3), .val (.int b1), .val (.int b2), .val (.int b3), .val (.int b4), .val (.int b5), .val (.int b6), .val (.int b7), .val (.int b8), .val (.int tt), .val (.int ch), .val (.ref sa), .val nv, .val rv, .val ov, .val (.ref mm), .val (.ref rq), .val (.int (1 : Int32))]) rfl k) ?_
          refine Go.back (f' := (mkF m 301 #[.val (.int p0), .val (.int p1), .val (.int p2), .val (.int p3), .val (.int b1), .val (.int b2), .val (.int b3), .val (.int b4), .val (.int b5), .val (.int b6), .val (.int b7), .val (.int b8), .val (.int tt), .val (.int ch), .val (.ref sa), .val nv, .val rv, .val ov, .val (.ref mm), .val (.ref rq), .val (.int (1 : Int32))] [(.ref rq)])) (fun _ k => XS.aload X386.here hx rfl (hb hby at_299) rfl rfl k) ?_
          refine Go.callV X386 hx hZ hown (hw _ (List.mem_of_getElem? (i := 88) rfl)) (hw _ (List.mem_of_getElem? (i := 89) rfl)) (hw _ (List.mem_of_getElem? (i := 91) rfl)) (hw _ (List.mem_of_getElem? (i := 90) rfl)) (hw _ (List.mem_of_getElem? (i := 71) rfl)) (hw _ (List.mem_of_getElem? (i := 92) rfl)) (by decide) rfl Ex_394 (argsL := []) (rest := []) (rmIF l Z a0 hw rq mm tt nv rv ov T386.heap Q1_386 Q2_386 Fl_391 Fl_392 Fl_393 hnv cnv hrv crv hov cov) (lenOf pd_13 rfl) rfl (by rw [hml]; rfl) (W := 0) (Nat.le_of_eq rfl) (hb hby at_301) (by decide) (by decide) (by decide) (by decide) ?_
          intro v399 T399 L399 X399 hQ399
          obtain ⟨g, rfl, g01, gi, rfl, hh399⟩ := hQ399
          have eg : g = 1 := gi.mpr ⟨h1, Or.inr (fun z => h3 (irv.mp z)), fun z => h4 (iov.mp z)⟩
          subst eg
          rw [List.append_nil] at X399
          show GoG _ _ _ _ _ (mkF m 304 #[.val (.int p0), .val (.int p1), .val (.int p2), .val (.int p3), .val (.int b1), .val (.int b2), .val (.int b3), .val (.int b4), .val (.int b5), .val (.int b6), .val (.int b7), .val (.int b8), .val (.int tt), .val (.int ch), .val (.ref sa), .val nv, .val rv, .val ov, .val (.ref mm), .val (.ref rq), .val (.int (1 : Int32))] [(.int (1 : Int32))])
          refine Go.back (f' := (mkF m 306 #[.val (.int p0), .val (.int p1), .val (.int p2), .val (.int p3), .val (.int b1), .val (.int b2), .val (.int b3), .val (.int b4), .val (.int b5), .val (.int b6), .val (.int b7), .val (.int b8), .val (.int tt), .val (.int ch), .val (.ref sa), .val nv, .val rv, .val ov, .val (.ref mm), .val (.ref rq), .val (.int (1 : Int32))] [(.int (1 : Int32)), (.int (1 : Int32))])) (fun _ k => XS.iload X399.here hx rfl (hb hby at_304) rfl k) ?_
          refine Go.back (f' := (mkF m 309 #[.val (.int p0), .val (.int p1), .val (.int p2), .val (.int p3), .val (.int b1), .val (.int b2), .val (.int b3), .val (.int b4), .val (.int b5), .val (.int b6), .val (.int b7), .val (.int b8), .val (.int tt), .val (.int ch), .val (.ref sa), .val nv, .val rv, .val ov, .val (.ref mm), .val (.ref rq), .val (.int (1 : Int32))] [])) (fun _ k => XS.icmpNo X399.here hx rfl (hb hby at_306) rfl (teq rfl).2 k) ?_
          refine Go.back (f' := (mkF m 310 #[.val (.int p0), .val (.int p1), .val (.int p2), .val (.int p3), .val (.int b1), .val (.int b2), .val (.int b3), .val (.int b4), .val (.int b5), .val (.int b6), .val (.int b7), .val (.int b8), .val (.int tt), .val (.int ch), .val (.ref sa), .val nv, .val rv, .val ov, .val (.ref mm), .val (.ref rq), .val (.int (1 : Int32))] [(.int (1 : Int32))])) (fun _ k => XS.iconst X399.here hx rfl (hb hby at_309) k) ?_
          refine Go.back (f' := (mkF m 314 #[.val (.int p0), .val (.int p1), .val (.int p2), .val (.int p3), .val (.int b1), .val (.int b2), .val (.int b3), .val (.int b4), .val (.int b5), .val (.int b6), .val (.int b7), .val (.int b8), .val (.int tt), .val (.int ch), .val (.ref sa), .val nv, .val rv, .val ov, .val (.ref mm), .val (.ref rq), .val (.int (1 : Int32))] [(.int (1 : Int32))])) (fun _ k => XS.goto X399.here hx rfl (pc0 := 310) (pc' := 314) rfl (hb hby at_310) (by decide) (by decide) k) ?_
          exact GoW.retN X399 hx hS (by rw [hh399]; exact (Nat.le_trans hk K_395.grow)) (t := .boolean) hret (by simp) (w := (1 : Int32)) rfl hlk (hb hby at_314) (by (try rw [hh399]); exact ⟨rfl, hh0 ▸ K_395.fr⟩) (by decide) (by decide)
    · refine Go.back (f' := (mkF m 287 #[.val (.int p0), .val (.int p1), .val (.int p2), .val (.int p3), .val (.int b1), .val (.int b2), .val (.int b3), .val (.int b4), .val (.int b5), .val (.int b6), .val (.int b7), .val (.int b8), .val (.int tt), .val (.int ch), .val (.ref sa), .val nv, .val rv, .val ov, .val (.ref mm), .val (.ref rq), .unset] [])) (fun _ k => XS.ifYes X386.here hx rfl (pc0 := 279) (pc' := 287) rfl (hb hby at_279) rfl ((if0 _ _).trans (feq h2).2) (by decide) (by decide) k) ?_
      refine Go.back (f' := (mkF m 289 #[.val (.int p0), .val (.int p1), .val (.int p2), .val (.int p3), .val (.int b1), .val (.int b2), .val (.int b3), .val (.int b4), .val (.int b5), .val (.int b6), .val (.int b7), .val (.int b8), .val (.int tt), .val (.int ch), .val (.ref sa), .val nv, .val rv, .val ov, .val (.ref mm), .val (.ref rq), .unset] [(.int b6)])) (fun _ k => XS.iload X386.here hx rfl (hb hby at_287) rfl k) ?_
      by_cases h4 : b6 = 0
      · refine Go.back (f' := (mkF m 296 #[.val (.int p0), .val (.int p1), .val (.int p2), .val (.int p3), .val (.int b1), .val (.int b2), .val (.int b3), .val (.int b4), .val (.int b5), .val (.int b6), .val (.int b7), .val (.int b8), .val (.int tt), .val (.int ch), .val (.ref sa), .val nv, .val rv, .val ov, .val (.ref mm), .val (.ref rq), .unset] [])) (fun _ k => XS.ifYes X386.here hx rfl (pc0 := 289) (pc' := 296) rfl (hb hby at_289) rfl ((if0 _ _).trans (teq h4).1) (by decide) (by decide) k) ?_
        refine Go.back (f' := (mkF m 297 #[.val (.int p0), .val (.int p1), .val (.int p2), .val (.int p3), .val (.int b1), .val (.int b2), .val (.int b3), .val (.int b4), .val (.int b5), .val (.int b6), .val (.int b7), .val (.int b8), .val (.int tt), .val (.int ch), .val (.ref sa), .val nv, .val rv, .val ov, .val (.ref mm), .val (.ref rq), .unset] [(.int (0 : Int32))])) (fun _ k => XS.iconst X386.here hx rfl (hb hby at_296) k) ?_
        refine Go.back (f' := (mkF m 299 #[.val (.int p0), .val (.int p1), .val (.int p2), .val (.int p3), .val (.int b1), .val (.int b2), .val (.int b3), .val (.int b4), .val (.int b5), .val (.int b6), .val (.int b7), .val (.int b8), .val (.int tt), .val (.int ch), .val (.ref sa), .val nv, .val rv, .val ov, .val (.ref mm), .val (.ref rq), .val (.int (0 : Int32))] [])) (fun _ k => XS.istore X386.here hx rfl (hb hby at_297) rfl (l' := #[.val (.int p0), .val (.int p1), .val (.int p2), .val (.int p3), .val (.int b1), .val (.int b2), .val (.int b3), .val (.int b4), .val (.int b5), .val (.int b6), .val (.int b7), .val (.int b8), .val (.int tt), .val (.int ch), .val (.ref sa), .val nv, .val rv, .val ov, .val (.ref mm), .val (.ref rq), .val (.int (0 : Int32))]) rfl k) ?_
        refine Go.back (f' := (mkF m 301 #[.val (.int p0), .val (.int p1), .val (.int p2), .val (.int p3), .val (.int b1), .val (.int b2), .val (.int b3), .val (.int b4), .val (.int b5), .val (.int b6), .val (.int b7), .val (.int b8), .val (.int tt), .val (.int ch), .val (.ref sa), .val nv, .val rv, .val ov, .val (.ref mm), .val (.ref rq), .val (.int (0 : Int32))] [(.ref rq)])) (fun _ k => XS.aload X386.here hx rfl (hb hby at_299) rfl rfl k) ?_
        refine Go.callV X386 hx hZ hown (hw _ (List.mem_of_getElem? (i := 88) rfl)) (hw _ (List.mem_of_getElem? (i := 89) rfl)) (hw _ (List.mem_of_getElem? (i := 91) rfl)) (hw _ (List.mem_of_getElem? (i := 90) rfl)) (hw _ (List.mem_of_getElem? (i := 71) rfl)) (hw _ (List.mem_of_getElem? (i := 92) rfl)) (by decide) rfl Ex_394 (argsL := []) (rest := []) (rmIF l Z a0 hw rq mm tt nv rv ov T386.heap Q1_386 Q2_386 Fl_391 Fl_392 Fl_393 hnv cnv hrv crv hov cov) (lenOf pd_13 rfl) rfl (by rw [hml]; rfl) (W := 0) (Nat.le_of_eq rfl) (hb hby at_301) (by decide) (by decide) (by decide) (by decide) ?_
        intro v400 T400 L400 X400 hQ400
        obtain ⟨g, rfl, g01, gi, rfl, hh400⟩ := hQ400
        have eg : g = 0 := g01.resolve_right (fun q => (gi.mp q).2.2 (iov.mpr h4))
        subst eg
        rw [List.append_nil] at X400
        show GoG _ _ _ _ _ (mkF m 304 #[.val (.int p0), .val (.int p1), .val (.int p2), .val (.int p3), .val (.int b1), .val (.int b2), .val (.int b3), .val (.int b4), .val (.int b5), .val (.int b6), .val (.int b7), .val (.int b8), .val (.int tt), .val (.int ch), .val (.ref sa), .val nv, .val rv, .val ov, .val (.ref mm), .val (.ref rq), .val (.int (0 : Int32))] [(.int (0 : Int32))])
        refine Go.back (f' := (mkF m 306 #[.val (.int p0), .val (.int p1), .val (.int p2), .val (.int p3), .val (.int b1), .val (.int b2), .val (.int b3), .val (.int b4), .val (.int b5), .val (.int b6), .val (.int b7), .val (.int b8), .val (.int tt), .val (.int ch), .val (.ref sa), .val nv, .val rv, .val ov, .val (.ref mm), .val (.ref rq), .val (.int (0 : Int32))] [(.int (0 : Int32)), (.int (0 : Int32))])) (fun _ k => XS.iload X400.here hx rfl (hb hby at_304) rfl k) ?_
        refine Go.back (f' := (mkF m 309 #[.val (.int p0), .val (.int p1), .val (.int p2), .val (.int p3), .val (.int b1), .val (.int b2), .val (.int b3), .val (.int b4), .val (.int b5), .val (.int b6), .val (.int b7), .val (.int b8), .val (.int tt), .val (.int ch), .val (.ref sa), .val nv, .val rv, .val ov, .val (.ref mm), .val (.ref rq), .val (.int (0 : Int32))] [])) (fun _ k => XS.icmpNo X400.here hx rfl (hb hby at_306) rfl (teq rfl).2 k) ?_
        refine Go.back (f' := (mkF m 310 #[.val (.int p0), .val (.int p1), .val (.int p2), .val (.int p3), .val (.int b1), .val (.int b2), .val (.int b3), .val (.int b4), .val (.int b5), .val (.int b6), .val (.int b7), .val (.int b8), .val (.int tt), .val (.int ch), .val (.ref sa), .val nv, .val rv, .val ov, .val (.ref mm), .val (.ref rq), .val (.int (0 : Int32))] [(.int (1 : Int32))])) (fun _ k => XS.iconst X400.here hx rfl (hb hby at_309) k) ?_
        refine Go.back (f' := (mkF m 314 #[.val (.int p0), .val (.int p1), .val (.int p2), .val (.int p3), .val (.int b1), .val (.int b2), .val (.int b3), .val (.int b4), .val (.int b5), .val (.int b6), .val (.int b7), .val (.int b8), .val (.int tt), .val (.int ch), .val (.ref sa), .val nv, .val rv, .val ov, .val (.ref mm), .val (.ref rq), .val (.int (0 : Int32))] [(.int (1 : Int32))])) (fun _ k => XS.goto X400.here hx rfl (pc0 := 310) (pc' := 314) rfl (hb hby at_310) (by decide) (by decide) k) ?_
        exact GoW.retN X400 hx hS (by rw [hh400]; exact (Nat.le_trans hk K_395.grow)) (t := .boolean) hret (by simp) (w := (1 : Int32)) rfl hlk (hb hby at_314) (by (try rw [hh400]); exact ⟨rfl, hh0 ▸ K_395.fr⟩) (by decide) (by decide)
      · refine Go.back (f' := (mkF m 292 #[.val (.int p0), .val (.int p1), .val (.int p2), .val (.int p3), .val (.int b1), .val (.int b2), .val (.int b3), .val (.int b4), .val (.int b5), .val (.int b6), .val (.int b7), .val (.int b8), .val (.int tt), .val (.int ch), .val (.ref sa), .val nv, .val rv, .val ov, .val (.ref mm), .val (.ref rq), .unset] [])) (fun _ k => XS.ifNo X386.here hx rfl (hb hby at_289) rfl ((if0 _ _).trans (feq h4).1) k) ?_
        refine Go.back (f' := (mkF m 293 #[.val (.int p0), .val (.int p1), .val (.int p2), .val (.int p3), .val (.int b1), .val (.int b2), .val (.int b3), .val (.int b4), .val (.int b5), .val (.int b6), .val (.int b7), .val (.int b8), .val (.int tt), .val (.int ch), .val (.ref sa), .val nv, .val rv, .val ov, .val (.ref mm), .val (.ref rq), .unset] [(.int (1 : Int32))])) (fun _ k => XS.iconst X386.here hx rfl (hb hby at_292) k) ?_
        refine Go.back (f' := (mkF m 297 #[.val (.int p0), .val (.int p1), .val (.int p2), .val (.int p3), .val (.int b1), .val (.int b2), .val (.int b3), .val (.int b4), .val (.int b5), .val (.int b6), .val (.int b7), .val (.int b8), .val (.int tt), .val (.int ch), .val (.ref sa), .val nv, .val rv, .val ov, .val (.ref mm), .val (.ref rq), .unset] [(.int (1 : Int32))])) (fun _ k => XS.goto X386.here hx rfl (pc0 := 293) (pc' := 297) rfl (hb hby at_293) (by decide) (by decide) k) ?_
        refine Go.back (f' := (mkF m 299 #[.val (.int p0), .val (.int p1), .val (.int p2), .val (.int p3), .val (.int b1), .val (.int b2), .val (.int b3), .val (.int b4), .val (.int b5), .val (.int b6), .val (.int b7), .val (.int b8), .val (.int tt), .val (.int ch), .val (.ref sa), .val nv, .val rv, .val ov, .val (.ref mm), .val (.ref rq), .val (.int (1 : Int32))] [])) (fun _ k => XS.istore X386.here hx rfl (hb hby at_297) rfl (l' := #[.val (.int p0), .val (.int p1), .val (.int p2), .val (.int p3), .val (.int b1), .val (.int b2), .val (.int b3), .val (.int b4), .val (.int b5), .val (.int b6), .val (.int b7), .val (.int b8), .val (.int tt), .val (.int ch), .val (.ref sa), .val nv, .val rv, .val ov, .val (.ref mm), .val (.ref rq), .val (.int (1 : Int32))]) rfl k) ?_
        refine Go.back (f' := (mkF m 301 #[.val (.int p0), .val (.int p1), .val (.int p2), .val (.int p3), .val (.int b1), .val (.int b2), .val (.int b3), .val (.int b4), .val (.int b5), .val (.int b6), .val (.int b7), .val (.int b8), .val (.int tt), .val (.int ch), .val (.ref sa), .val nv, .val rv, .val ov, .val (.ref mm), .val (.ref rq), .val (.int (1 : Int32))] [(.ref rq)])) (fun _ k => XS.aload X386.here hx rfl (hb hby at_299) rfl rfl k) ?_
        refine Go.callV X386 hx hZ hown (hw _ (List.mem_of_getElem? (i := 88) rfl)) (hw _ (List.mem_of_getElem? (i := 89) rfl)) (hw _ (List.mem_of_getElem? (i := 91) rfl)) (hw _ (List.mem_of_getElem? (i := 90) rfl)) (hw _ (List.mem_of_getElem? (i := 71) rfl)) (hw _ (List.mem_of_getElem? (i := 92) rfl)) (by decide) rfl Ex_394 (argsL := []) (rest := []) (rmIF l Z a0 hw rq mm tt nv rv ov T386.heap Q1_386 Q2_386 Fl_391 Fl_392 Fl_393 hnv cnv hrv crv hov cov) (lenOf pd_13 rfl) rfl (by rw [hml]; rfl) (W := 0) (Nat.le_of_eq rfl) (hb hby at_301) (by decide) (by decide) (by decide) (by decide) ?_
        intro v401 T401 L401 X401 hQ401
        obtain ⟨g, rfl, g01, gi, rfl, hh401⟩ := hQ401
        have eg : g = 1 := gi.mpr ⟨h1, Or.inl (fun z => h2 (inv.mp z)), fun z => h4 (iov.mp z)⟩
        subst eg
        rw [List.append_nil] at X401
        show GoG _ _ _ _ _ (mkF m 304 #[.val (.int p0), .val (.int p1), .val (.int p2), .val (.int p3), .val (.int b1), .val (.int b2), .val (.int b3), .val (.int b4), .val (.int b5), .val (.int b6), .val (.int b7), .val (.int b8), .val (.int tt), .val (.int ch), .val (.ref sa), .val nv, .val rv, .val ov, .val (.ref mm), .val (.ref rq), .val (.int (1 : Int32))] [(.int (1 : Int32))])
        refine Go.back (f' := (mkF m 306 #[.val (.int p0), .val (.int p1), .val (.int p2), .val (.int p3), .val (.int b1), .val (.int b2), .val (.int b3), .val (.int b4), .val (.int b5), .val (.int b6), .val (.int b7), .val (.int b8), .val (.int tt), .val (.int ch), .val (.ref sa), .val nv, .val rv, .val ov, .val (.ref mm), .val (.ref rq), .val (.int (1 : Int32))] [(.int (1 : Int32)), (.int (1 : Int32))])) (fun _ k => XS.iload X401.here hx rfl (hb hby at_304) rfl k) ?_
        refine Go.back (f' := (mkF m 309 #[.val (.int p0), .val (.int p1), .val (.int p2), .val (.int p3), .val (.int b1), .val (.int b2), .val (.int b3), .val (.int b4), .val (.int b5), .val (.int b6), .val (.int b7), .val (.int b8), .val (.int tt), .val (.int ch), .val (.ref sa), .val nv, .val rv, .val ov, .val (.ref mm), .val (.ref rq), .val (.int (1 : Int32))] [])) (fun _ k => XS.icmpNo X401.here hx rfl (hb hby at_306) rfl (teq rfl).2 k) ?_
        refine Go.back (f' := (mkF m 310 #[.val (.int p0), .val (.int p1), .val (.int p2), .val (.int p3), .val (.int b1), .val (.int b2), .val (.int b3), .val (.int b4), .val (.int b5), .val (.int b6), .val (.int b7), .val (.int b8), .val (.int tt), .val (.int ch), .val (.ref sa), .val nv, .val rv, .val ov, .val (.ref mm), .val (.ref rq), .val (.int (1 : Int32))] [(.int (1 : Int32))])) (fun _ k => XS.iconst X401.here hx rfl (hb hby at_309) k) ?_
        refine Go.back (f' := (mkF m 314 #[.val (.int p0), .val (.int p1), .val (.int p2), .val (.int p3), .val (.int b1), .val (.int b2), .val (.int b3), .val (.int b4), .val (.int b5), .val (.int b6), .val (.int b7), .val (.int b8), .val (.int tt), .val (.int ch), .val (.ref sa), .val nv, .val rv, .val ov, .val (.ref mm), .val (.ref rq), .val (.int (1 : Int32))] [(.int (1 : Int32))])) (fun _ k => XS.goto X401.here hx rfl (pc0 := 310) (pc' := 314) rfl (hb hby at_310) (by decide) (by decide) k) ?_
        exact GoW.retN X401 hx hS (by rw [hh401]; exact (Nat.le_trans hk K_395.grow)) (t := .boolean) hret (by simp) (w := (1 : Int32)) rfl hlk (hb hby at_314) (by (try rw [hh401]); exact ⟨rfl, hh0 ▸ K_395.fr⟩) (by decide) (by decide)
set_option maxRecDepth 65536 in
set_option maxHeartbeats 40000000 in
theorem comes_1 {Post : Tables → Env → Array Value → State → Outcome → State → Prop} (hpost : ∀ tb e args s v u, (limb_1_1.after args s (.returned v) u = true ∧ limb_1_2.after args s (.returned v) u = true ∧ True) → ReturnedEndW s (.returned v) u (Jvm.fieldLocs frame_1_writes args s ++ Jvm.arrayLocs frame_1_arrays args s ++ Jvm.staticLocs frame_1_statics s) 32 1216 → Post tb e args s (.returned v) u) :
    ArmFor flags0 classFile x code maxLocals ret World_1 tables_1 room_1 Calls_1 rest_1 Pre_1 Post := by
  intro l hfl _ _ p e ha hc hk s m args below hf hA hF happ hP
  obtain ⟨hcalls, hrest, hpre⟩ := hP
  obtain ⟨-, -, -, hnamed, -, -, -, hat⟩ := (Spec.applies_iff hf).mp happ
  obtain ⟨hg, hn⟩ := and_e (Cond.before_iff.mp (show (Jvm.Cond.and given_1 narrow_1).before args s = true from hpre))
  obtain ⟨hcnt, hg0⟩ := and_e hg
  obtain ⟨ht0, hg1⟩ := and_e hg0
  obtain ⟨ht1, hg2⟩ := and_e hg1
  obtain ⟨ht2, hg3⟩ := and_e hg2
  have ht3 := hg3
  obtain ⟨w0, w1, w2, w3, rfl⟩ : ∃ w0 w1 w2 w3 : Value, args = #[w0, w1, w2, w3] := by
    have hs : args.size = 4 := by simpa [Cond.value, given_1] using hcnt
    obtain ⟨L⟩ := args
    match L, hs with
    | [w0, w1, w2, w3], _ => exact ⟨w0, w1, w2, w3, rfl⟩
  have hw := fun d (hd : d ∈ tables_1) => atoms_spec (ws := Jvm.Cond.code x code maxLocals ret :: tables_1) hat d (List.mem_cons_of_mem _ hd)
  have hfit : Fit s := fun {y c} hc i hi => by
    obtain ⟨ha, rfl⟩ := Array.getElem?_eq_some_iff.mp hc
    have q := List.all_eq_true.mp ((Array.all_eq_true_iff_forall_mem.mp hF) _ (Array.getElem_mem ha)) i (List.mem_range.mpr hi)
    simpa [Array.getElem?_eq_getElem hi] using q
  obtain ⟨i0, ei0⟩ := is_v ht0
  obtain rfl : w0 = (.int i0) := Option.some.inj ei0
  obtain ⟨i1, ei1⟩ := is_v ht1
  obtain rfl : w1 = (.int i1) := Option.some.inj ei1
  obtain ⟨i2, ei2⟩ := is_v ht2
  obtain rfl : w2 = (.int i2) := Option.some.inj ei2
  obtain ⟨i3, ei3⟩ := is_v ht3
  obtain rfl : w3 = (.int i3) := Option.some.inj ei3
  obtain ⟨hsets, hown0⟩ := atoms_of _ (rest_1_c_eq ▸ (show rest_1_c.before _ s = true from hrest))
  obtain ⟨cz, ecz⟩ := is_v (Cond.before_iff.mp (hsets _ (List.mem_of_getElem? (i := 1) rfl)))
  have SC : Sta s s.heap "java/lang/String" "COMPACT_STRINGS" "Z" (.int cz) := Sta.start ecz (Or.inl (hsets _ (List.mem_of_getElem? (i := 0) rfl)))
  have hcz : ¬ cz = 0 := fun q => by
    have := not_v (Cond.before_iff.mp (hsets _ (List.mem_of_getElem? (i := 2) rfl)))
    rw [eq_i ecz (Term.int_eval 0) (by rw [q])] at this; cases this
  obtain ⟨de, ede⟩ := arr_v (Cond.before_iff.mp (hsets _ (List.mem_of_getElem? (i := 15) rfl)))
  have SDz : Sta s s.heap "java/util/ArrayList" "DEFAULTCAPACITY_EMPTY_ELEMENTDATA" "[Ljava/lang/Object;" (.ref de) := Sta.start ede (Or.inr ⟨(hw _ (List.mem_of_getElem? (i := 28) rfl)), (hsets _ (List.mem_of_getElem? (i := 11) rfl))⟩)
  have ADz := own_arr0 ede (Cond.before_iff.mp (hsets _ (List.mem_of_getElem? (i := 15) rfl))) (own_eqI (Cond.before_iff.mp (hsets _ (List.mem_of_getElem? (i := 17) rfl))))
  obtain ⟨n, o, h1, h2, h3, _, L, rfl, ⟨rfl, N⟩, hq⟩ := (rm0 l s _ hw i0 i1 i2 i3 cz de SC hcz SDz ADz) tables_1 p e ha hc hk s m _ below hf ((Spec.applies_iff_loose hf).mp happ).1 ⟨rfl, rfl⟩ trivial
  refine ⟨n, _, h1, h2, h3, hpost _ _ _ _ _ _ ⟨Cond.after_iff.mpr rfl, Cond.after_iff.mpr (eq_i res_at (Term.int_eval (1)) rfl), trivial⟩ ⟨hq.1, hq.2.1, hq.2.2.1, (hq.2.2.2.sift fun y hy => Or.inr (N y hy)).mono (by decide) (by decide)⟩⟩
theorem main_1_1 : Claimed_1_1 := comes_1 fun _ _ _ _ _ _ h hF => ⟨h.1, hF⟩
theorem main_1_2 : Claimed_1_2 := comes_1 fun _ _ _ _ _ _ h hF => ⟨h.2.1, hF⟩
end Jvm.Pilot.@@N@@
namespace Jvm.Pilot.@@N@@
open Jvm Jvm.ClassFile Sem Op Lib Jvm.Free Jvm.Stand Jvm.Pilot.@@N@@.Jvm.D
/-! MADE BY PROGRAM (witnessworld.py) out of the Statement's table words and the real class files: 27 classes; the members and pool entries that the words name. The judged class is class 1, her method 1. -/
namespace start1
open Jvm.ClassFile
def u (s : String) : CpInfo := .utf8 (stringToUtf16 s)
/-- a pool by its gaps: so many unusable entries, then the entry; so many at the end -/
def gap : Nat → List CpInfo → List CpInfo
  | 0, r => r
  | n + 1, r => .unusable :: gap n r
def poolList (es : List (Nat × CpInfo)) (last : Nat) : List CpInfo := es.foldr (fun e r => gap e.1 (e.2 :: r)) (gap last [])
def pool (es : List (Nat × CpInfo)) (last : Nat) : Array CpInfo := ⟨poolList es last⟩
def fileOf (pool : Array CpInfo) (this : Nat) (attrs : Array Attribute := #[]) (ms : Array MethodInfo := #[]) (fl : Nat := 33) (sup : Nat := 0) (ifs : Array Nat := #[]) (fds : Array FieldInfo := #[]) : ClassFile where
  minorVersion := 0
  majorVersion := 65
  constantPool := pool
  accessFlags := fl
  thisClass := this
  superClass := sup
  interfaces := ifs
  fields := fds
  methods := ms
  attributes := attrs
def plain (name : String) (sup : Option ClassId) : Class where
  name := name
  kind := .ordinary
  loader := none
  accessFlags := 33
  super := sup
  interfaces := #[]
  cf := none
  fields := #[]
  methods := #[]
  instanceTypes := #[]
  staticTypes := #[]
  resolved := #[]
  callSites := []
  init := .initialized
  statics := none
  mirror := none

def pool0 : Array CpInfo := pool [(5, u "<init>"), (0, u "()V"), (1, .class_ 10), (1, u "java/lang/Object")] 113

def k0c0 : Code := { maxStack := 0, maxLocals := 1, code := object_method_1_code, exceptionTable := #[], attributes := #[] }
def k0m0 : Method := { name := "<init>", desc := "()V", sig := { parameters := [], returnType := none }, accessFlags := 1, code := some k0c0 }
/-- java/lang/Object -/
def k0 : Class := { plain "java/lang/Object" none with
  accessFlags := 33
  interfaces := #[]
  cf := some (fileOf pool0 8 #[] #[{ accessFlags := 1, nameIndex := 5, descriptorIndex := 6, attributes := #[] }] 33 0 #[] #[])
  fields := #[]
  methods := #[k0m0]
  instanceTypes := #[]
  staticTypes := #[]
  resolved := Array.replicate 124 none
  statics := none }

def pool1 : Array CpInfo := pool [(2, .class_ 4), (0, .nameAndType 5 6), (0, u "java/lang/Object"), (0, u "<init>"), (0, u "()V"), (0, .methodref 8 9), (0, .class_ 10), (0, .nameAndType 11 12), (0, u "java/lang/String"), (0, u "valueOf"), (0, u "(C)Ljava/lang/String;"), (0, .class_ 14), (0, u "java/util/ArrayList"), (0, .methodref 13 3), (0, .methodref 13 17), (0, .nameAndType 18 19), (0, u "add"), (0, u "(Ljava/lang/Object;)Z"), (0, .string 21), (0, u ""), (0, .class_ 23), (0, u "com/example/durable_coordinator/durablecoordinator/protocol/TopicIdPartitions"), (0, .methodref 22 25), (0, .nameAndType 5 26), (0, u "(Ljava/util/UUID;Ljava/util/List;)V"), (0, .class_ 28), (0, u "com/example/durable_coordinator/durablecoordinator/protocol/ConsumerGroupHeartbeatRequest$Member"), (0, .methodref 27 30), (0, .nameAndType 5 31), (0, u "(Ljava/lang/String;Ljava/lang/String;ILjava/util/List;Ljava/lang/String;Ljava/lang/String;)V"), (0, .class_ 33), (0, u "com/example/durable_coordinator/durablecoordinator/protocol/ConsumerGroupHeartbeatRequest"), (0, .methodref 32 35), (0, .nameAndType 5 36), (0, u "(Ljava/lang/String;Ljava/lang/String;IZLcom/example/durable_coordinator/durablecoordinator/protocol/ConsumerGroupHeartbeatRequest$Member;Ljava/util/List;)V"), (0, .methodref 32 38), (0, .nameAndType 39 40), (0, u "isFull"), (0, u "()Z"), (0, .class_ 42), (0, u "com/example/durable_coordinator/durablecoordinator/protocol/ConsumerGroupHeartbeatRequestIsFullPinLaw"), (2, u "law"), (0, u "(IIII)Z")] 5

def k1m0 : Method := { name := "<init>", desc := "()V", sig := { parameters := [], returnType := none }, accessFlags := 1, code := none }
def k1c1 : Code := { maxStack := 8, maxLocals := 21, code := code, exceptionTable := #[], attributes := #[] }
def k1m1 : Method := { name := "law", desc := "(IIII)Z", sig := { parameters := [.int, .int, .int, .int], returnType := some .boolean }, accessFlags := 9, code := some k1c1 }
/-- com/example/durable_coordinator/durablecoordinator/protocol/ConsumerGroupHeartbeatRequestIsFullPinLaw -/
def k1 : Class := { plain "com/example/durable_coordinator/durablecoordinator/protocol/ConsumerGroupHeartbeatRequestIsFullPinLaw" (some 0) with
  accessFlags := 49
  interfaces := #[]
  cf := some (fileOf pool1 41 #[] #[{ accessFlags := 1, nameIndex := 5, descriptorIndex := 6, attributes := #[] }, { accessFlags := 9, nameIndex := 45, descriptorIndex := 46, attributes := #[] }] 49 2 #[] #[])
  fields := #[]
  methods := #[k1m0, k1m1]
  instanceTypes := #[]
  staticTypes := #[]
  resolved := Array.replicate 52 none
  statics := none }

def pool2 : Array CpInfo := pool [(1, .class_ 2), (0, u "java/io/Serializable"), (0, .class_ 4), (0, u "java/lang/Object")] 2

/-- java/io/Serializable -/
def k2 : Class := { plain "java/io/Serializable" (some 0) with
  accessFlags := 1537
  interfaces := #[]
  cf := some (fileOf pool2 1 #[] #[] 1537 3 #[] #[])
  fields := #[]
  methods := #[]
  instanceTypes := #[]
  staticTypes := #[]
  resolved := Array.replicate 7 none
  statics := none }

def pool3 : Array CpInfo := pool [(1, .class_ 2), (0, u "java/lang/Comparable"), (0, .class_ 4), (0, u "java/lang/Object")] 7

/-- java/lang/Comparable -/
def k3 : Class := { plain "java/lang/Comparable" (some 0) with
  accessFlags := 1537
  interfaces := #[]
  cf := some (fileOf pool3 1 #[] #[] 1537 3 #[] #[])
  fields := #[]
  methods := #[]
  instanceTypes := #[]
  staticTypes := #[]
  resolved := Array.replicate 12 none
  statics := none }

def pool4 : Array CpInfo := pool [(2, .class_ 4), (1, u "java/lang/CharSequence"), (42, .class_ 48), (0, u "java/lang/CharSequence$1CodePointIterator"), (10, .class_ 60), (0, u "java/lang/CharSequence$1CharIterator"), (5, .class_ 67), (0, u "java/lang/Object")] 63

/-- java/lang/CharSequence -/
def k4 : Class := { plain "java/lang/CharSequence" (some 0) with
  accessFlags := 1537
  interfaces := #[]
  cf := some (fileOf pool4 2 #[.nestMembers #[47, 59]] #[] 1537 66 #[] #[])
  fields := #[]
  methods := #[]
  instanceTypes := #[]
  staticTypes := #[]
  resolved := Array.replicate 131 none
  statics := none }

def pool5 : Array CpInfo := pool [(1, .class_ 2), (0, u "java/lang/constant/Constable"), (0, .class_ 4), (0, u "java/lang/Object")] 6

/-- java/lang/constant/Constable -/
def k5 : Class := { plain "java/lang/constant/Constable" (some 0) with
  accessFlags := 1537
  interfaces := #[]
  cf := some (fileOf pool5 1 #[] #[] 1537 3 #[] #[])
  fields := #[]
  methods := #[]
  instanceTypes := #[]
  staticTypes := #[]
  resolved := Array.replicate 11 none
  statics := none }

def pool6 : Array CpInfo := pool [(1, .class_ 2), (0, u "java/lang/constant/ConstantDesc"), (0, .class_ 4), (0, u "java/lang/Object")] 32

/-- java/lang/constant/ConstantDesc -/
def k6 : Class := { plain "java/lang/constant/ConstantDesc" (some 0) with
  accessFlags := 1537
  interfaces := #[]
  cf := some (fileOf pool6 1 #[] #[] 1537 3 #[] #[])
  fields := #[]
  methods := #[]
  instanceTypes := #[]
  staticTypes := #[]
  resolved := Array.replicate 37 none
  statics := none }

def pool7 : Array CpInfo := pool [(1, .methodref 2 3), (0, .class_ 4), (0, .nameAndType 5 6), (0, u "java/lang/Object"), (0, u "<init>"), (0, u "()V"), (2, .fieldref 10 11), (0, .class_ 12), (0, .nameAndType 13 14), (0, u "java/lang/String"), (0, u "value"), (0, u "[B"), (0, .fieldref 10 16), (0, .nameAndType 17 18), (0, u "coder"), (0, u "B"), (2, u "hash"), (0, u "I"), (2, u "hashIsZero"), (0, u "Z"), (11, .fieldref 10 39), (0, .nameAndType 40 26), (0, u "COMPACT_STRINGS"), (12, u "toBytes"), (53, .class_ 109), (1, u "java/lang/StringLatin1"), (99, .methodref 10 210), (0, .nameAndType 5 211), (0, u "([BB)V"), (157, u "(C)Z"), (205, .class_ 576), (0, u "java/lang/CharSequence"), (22, u "CASE_INSENSITIVE_ORDER"), (0, u "Ljava/util/Comparator;"), (181, u "valueOf"), (0, u "(C)Ljava/lang/String;"), (231, .methodref 107 1016), (0, .nameAndType 1017 369), (0, u "canEncode"), (0, .methodref 107 1019), (0, .nameAndType 53 1020), (0, u "(C)[B"), (80, u "serialPersistentFields"), (0, u "[Ljava/io/ObjectStreamField;"), (0, .class_ 1104), (0, u "java/lang/String$CaseInsensitiveComparator"), (1, .class_ 1107), (0, u "java/io/Serializable"), (0, .class_ 1109), (0, u "java/lang/Comparable"), (0, .class_ 1111), (0, u "java/lang/constant/Constable"), (0, .class_ 1113), (0, u "java/lang/constant/ConstantDesc"), (2, u "serialVersionUID"), (0, u "J"), (3, u "REPL"), (0, u "C"), (2, u "LATIN1"), (1, u "UTF16")] 323

def k7m0 : Method := { name := "<init>", desc := "()V", sig := { parameters := [], returnType := none }, accessFlags := 1, code := none }
def k7c1 : Code := { maxStack := 4, maxLocals := 1, code := jdk_42_method_139_code, exceptionTable := #[], attributes := #[] }
def k7m1 : Method := { name := "valueOf", desc := "(C)Ljava/lang/String;", sig := { parameters := [.char], returnType := some (.object "java/lang/String") }, accessFlags := 9, code := some k7c1 }
def k7c2 : Code := { maxStack := 2, maxLocals := 3, code := jdk_42_method_151_code, exceptionTable := #[], attributes := #[] }
def k7m2 : Method := { name := "<init>", desc := "([BB)V", sig := { parameters := [(.array .byte), .byte], returnType := none }, accessFlags := 0, code := some k7c2 }
/-- java/lang/String -/
def k7 : Class := { plain "java/lang/String" (some 0) with
  accessFlags := 49
  interfaces := #[2, 3, 4, 5, 6]
  cf := some (fileOf pool7 10 #[.nestMembers #[1103]] #[{ accessFlags := 1, nameIndex := 5, descriptorIndex := 6, attributes := #[] }, { accessFlags := 9, nameIndex := 782, descriptorIndex := 783, attributes := #[] }, { accessFlags := 0, nameIndex := 5, descriptorIndex := 211, attributes := #[] }] 49 2 #[1106, 1108, 575, 1110, 1112] #[{ accessFlags := 18, nameIndex := 13, descriptorIndex := 14, attributes := #[] }, { accessFlags := 18, nameIndex := 17, descriptorIndex := 18, attributes := #[] }, { accessFlags := 2, nameIndex := 21, descriptorIndex := 22, attributes := #[] }, { accessFlags := 2, nameIndex := 25, descriptorIndex := 26, attributes := #[] }, { accessFlags := 26, nameIndex := 1116, descriptorIndex := 1117, attributes := #[] }, { accessFlags := 24, nameIndex := 40, descriptorIndex := 26, attributes := #[] }, { accessFlags := 26, nameIndex := 1101, descriptorIndex := 1102, attributes := #[] }, { accessFlags := 26, nameIndex := 1121, descriptorIndex := 1122, attributes := #[] }, { accessFlags := 25, nameIndex := 599, descriptorIndex := 600, attributes := #[] }, { accessFlags := 24, nameIndex := 1125, descriptorIndex := 18, attributes := #[] }, { accessFlags := 24, nameIndex := 1127, descriptorIndex := 18, attributes := #[] }])
  fields := #[{ name := "value", type := (.array .byte), accessFlags := 18, slot := 0, constantValue := 0 }, { name := "coder", type := .byte, accessFlags := 18, slot := 1, constantValue := 0 }, { name := "hash", type := .int, accessFlags := 2, slot := 2, constantValue := 0 }, { name := "hashIsZero", type := .boolean, accessFlags := 2, slot := 3, constantValue := 0 }, { name := "serialVersionUID", type := .long, accessFlags := 26, slot := 0, constantValue := 0 }, { name := "COMPACT_STRINGS", type := .boolean, accessFlags := 24, slot := 1, constantValue := 0 }, { name := "serialPersistentFields", type := (.array (.object "java/io/ObjectStreamField")), accessFlags := 26, slot := 2, constantValue := 0 }, { name := "REPL", type := .char, accessFlags := 26, slot := 3, constantValue := 0 }, { name := "CASE_INSENSITIVE_ORDER", type := (.object "java/util/Comparator"), accessFlags := 25, slot := 4, constantValue := 0 }, { name := "LATIN1", type := .byte, accessFlags := 24, slot := 5, constantValue := 0 }, { name := "UTF16", type := .byte, accessFlags := 24, slot := 6, constantValue := 0 }]
  methods := #[k7m0, k7m1, k7m2]
  instanceTypes := #[(.array .byte), .byte, .int, .boolean]
  staticTypes := #[.long, .boolean, (.array (.object "java/io/ObjectStreamField")), .char, (.object "java/util/Comparator"), .byte, .byte]
  resolved := Array.replicate 1451 none
  statics := some 0 }

def pool8 : Array CpInfo := pool [(4, .class_ 6), (1, u "java/lang/Object"), (0, u "<init>"), (0, u "()V"), (5, .class_ 16), (1, u "java/lang/StringLatin1"), (73, u "canEncode"), (14, u "(C)Z"), (15, u "$assertionsDisabled"), (0, u "Z"), (98, .class_ 223), (1, u "java/lang/StringLatin1$LinesSpliterator"), (156, u "toBytes"), (1, u "(C)[B"), (7, .class_ 391), (0, u "java/lang/StringLatin1$CharsSpliterator")] 3

def k8m0 : Method := { name := "<init>", desc := "()V", sig := { parameters := [], returnType := none }, accessFlags := 0, code := none }
def k8c1 : Code := { maxStack := 2, maxLocals := 1, code := jdk_43_method_3_code, exceptionTable := #[], attributes := #[] }
def k8m1 : Method := { name := "canEncode", desc := "(C)Z", sig := { parameters := [.char], returnType := some .boolean }, accessFlags := 9, code := some k8c1 }
def k8c2 : Code := { maxStack := 4, maxLocals := 1, code := jdk_43_method_46_code, exceptionTable := #[], attributes := #[] }
def k8m2 : Method := { name := "toBytes", desc := "(C)[B", sig := { parameters := [.char], returnType := some (.array .byte) }, accessFlags := 9, code := some k8c2 }
/-- java/lang/StringLatin1 -/
def k8 : Class := { plain "java/lang/StringLatin1" (some 0) with
  accessFlags := 48
  interfaces := #[]
  cf := some (fileOf pool8 14 #[.nestMembers #[390, 221]] #[{ accessFlags := 0, nameIndex := 7, descriptorIndex := 8, attributes := #[] }, { accessFlags := 9, nameIndex := 90, descriptorIndex := 105, attributes := #[] }, { accessFlags := 9, nameIndex := 380, descriptorIndex := 382, attributes := #[] }] 48 4 #[] #[{ accessFlags := 4120, nameIndex := 121, descriptorIndex := 122, attributes := #[] }])
  fields := #[{ name := "$assertionsDisabled", type := .boolean, accessFlags := 4120, slot := 0, constantValue := 0 }]
  methods := #[k8m0, k8m1, k8m2]
  instanceTypes := #[]
  staticTypes := #[.boolean]
  resolved := Array.replicate 395 none
  statics := none }

def pool9 : Array CpInfo := pool [(8, .class_ 10), (1, u "java/lang/Iterable"), (24, .class_ 36), (0, u "java/lang/Object")] 25

/-- java/lang/Iterable -/
def k9 : Class := { plain "java/lang/Iterable" (some 0) with
  accessFlags := 1537
  interfaces := #[]
  cf := some (fileOf pool9 8 #[] #[] 1537 35 #[] #[])
  fields := #[]
  methods := #[]
  instanceTypes := #[]
  staticTypes := #[]
  resolved := Array.replicate 62 none
  statics := none }

def pool10 : Array CpInfo := pool [(10, .class_ 12), (1, u "java/util/Collection"), (47, .class_ 61), (0, u "java/lang/Object"), (0, .class_ 63), (0, u "java/lang/Iterable")] 51

/-- java/util/Collection -/
def k10 : Class := { plain "java/util/Collection" (some 0) with
  accessFlags := 1537
  interfaces := #[9]
  cf := some (fileOf pool10 10 #[] #[] 1537 60 #[62] #[])
  fields := #[]
  methods := #[]
  instanceTypes := #[]
  staticTypes := #[]
  resolved := Array.replicate 115 none
  statics := none }

def pool11 : Array CpInfo := pool [(1, .methodref 2 3), (0, .class_ 4), (0, .nameAndType 5 6), (0, u "java/lang/Object"), (0, u "<init>"), (0, u "()V"), (1, .class_ 10), (1, u "java/util/AbstractCollection"), (66, .class_ 78), (0, u "java/util/Collection")] 81

def k11c0 : Code := { maxStack := 1, maxLocals := 1, code := jdk_22_method_1_code, exceptionTable := #[], attributes := #[] }
def k11m0 : Method := { name := "<init>", desc := "()V", sig := { parameters := [], returnType := none }, accessFlags := 4, code := some k11c0 }
/-- java/util/AbstractCollection -/
def k11 : Class := { plain "java/util/AbstractCollection" (some 0) with
  accessFlags := 1057
  interfaces := #[10]
  cf := some (fileOf pool11 8 #[] #[{ accessFlags := 4, nameIndex := 5, descriptorIndex := 6, attributes := #[] }] 1057 2 #[77] #[])
  fields := #[]
  methods := #[k11m0]
  instanceTypes := #[]
  staticTypes := #[]
  resolved := Array.replicate 160 none
  statics := none }

def pool12 : Array CpInfo := pool [(8, .class_ 10), (1, u "java/util/SequencedCollection"), (15, .class_ 27), (0, u "java/lang/Object"), (0, .class_ 29), (0, u "java/util/Collection")] 27

/-- java/util/SequencedCollection -/
def k12 : Class := { plain "java/util/SequencedCollection" (some 0) with
  accessFlags := 1537
  interfaces := #[10]
  cf := some (fileOf pool12 8 #[] #[] 1537 26 #[28] #[])
  fields := #[]
  methods := #[]
  instanceTypes := #[]
  staticTypes := #[]
  resolved := Array.replicate 57 none
  statics := none }

def pool13 : Array CpInfo := pool [(8, .class_ 10), (1, u "java/util/List"), (92, .class_ 104), (0, u "java/lang/Object"), (15, .class_ 121), (0, u "java/util/SequencedCollection")] 129

/-- java/util/List -/
def k13 : Class := { plain "java/util/List" (some 0) with
  accessFlags := 1537
  interfaces := #[12]
  cf := some (fileOf pool13 8 #[] #[] 1537 103 #[120] #[])
  fields := #[]
  methods := #[]
  instanceTypes := #[]
  staticTypes := #[]
  resolved := Array.replicate 251 none
  statics := none }

def pool14 : Array CpInfo := pool [(1, .methodref 2 3), (0, .class_ 4), (0, .nameAndType 5 6), (0, u "java/util/AbstractCollection"), (0, u "<init>"), (0, u "()V"), (0, .fieldref 8 9), (0, .class_ 10), (0, .nameAndType 11 12), (0, u "java/util/AbstractList"), (0, u "modCount"), (0, u "I"), (64, .class_ 78), (0, u "java/util/AbstractList$Itr"), (3, .class_ 83), (0, u "java/util/AbstractList$ListItr"), (9, .class_ 94), (0, u "java/util/AbstractList$RandomAccessSubList"), (3, .class_ 99), (0, u "java/util/AbstractList$SubList"), (33, .class_ 134), (0, u "java/util/List"), (73, .class_ 209), (0, u "java/util/AbstractList$SubList$1"), (0, .class_ 211), (0, u "java/util/AbstractList$RandomAccessSpliterator")] 6

def k14c0 : Code := { maxStack := 2, maxLocals := 1, code := jdk_39_method_1_code, exceptionTable := #[], attributes := #[] }
def k14m0 : Method := { name := "<init>", desc := "()V", sig := { parameters := [], returnType := none }, accessFlags := 4, code := some k14c0 }
/-- java/util/AbstractList -/
def k14 : Class := { plain "java/util/AbstractList" (some 11) with
  accessFlags := 1057
  interfaces := #[13]
  cf := some (fileOf pool14 8 #[.nestMembers #[93, 98, 208, 210, 82, 77]] #[{ accessFlags := 4, nameIndex := 5, descriptorIndex := 6, attributes := #[] }] 1057 2 #[133] #[{ accessFlags := 132, nameIndex := 11, descriptorIndex := 12, attributes := #[] }])
  fields := #[{ name := "modCount", type := .int, accessFlags := 132, slot := 0, constantValue := 0 }]
  methods := #[k14m0]
  instanceTypes := #[.int]
  staticTypes := #[]
  resolved := Array.replicate 218 none
  statics := none }

def pool15 : Array CpInfo := pool [(1, .class_ 2), (0, u "java/util/RandomAccess"), (0, .class_ 4), (0, u "java/lang/Object")] 2

/-- java/util/RandomAccess -/
def k15 : Class := { plain "java/util/RandomAccess" (some 0) with
  accessFlags := 1537
  interfaces := #[]
  cf := some (fileOf pool15 1 #[] #[] 1537 3 #[] #[])
  fields := #[]
  methods := #[]
  instanceTypes := #[]
  staticTypes := #[]
  resolved := Array.replicate 7 none
  statics := none }

def pool16 : Array CpInfo := pool [(1, .class_ 2), (0, u "java/lang/Cloneable"), (0, .class_ 4), (0, u "java/lang/Object")] 2

/-- java/lang/Cloneable -/
def k16 : Class := { plain "java/lang/Cloneable" (some 0) with
  accessFlags := 1537
  interfaces := #[]
  cf := some (fileOf pool16 1 #[] #[] 1537 3 #[] #[])
  fields := #[]
  methods := #[]
  instanceTypes := #[]
  staticTypes := #[]
  resolved := Array.replicate 7 none
  statics := none }

def pool17 : Array CpInfo := pool [(1, .methodref 2 3), (0, .class_ 4), (0, .nameAndType 5 6), (0, u "java/util/AbstractList"), (0, u "<init>"), (0, u "()V"), (0, .class_ 8), (0, u "java/lang/Object"), (0, .fieldref 10 11), (0, .class_ 12), (0, .nameAndType 13 14), (0, u "java/util/ArrayList"), (0, u "elementData"), (0, u "[Ljava/lang/Object;"), (2, u "EMPTY_ELEMENTDATA"), (21, .fieldref 10 40), (0, .nameAndType 41 14), (0, u "DEFAULTCAPACITY_EMPTY_ELEMENTDATA"), (5, u "()[Ljava/lang/Object;"), (0, .fieldref 10 49), (0, .nameAndType 50 51), (0, u "size"), (0, u "I"), (11, .fieldref 10 64), (0, .nameAndType 65 51), (0, u "modCount"), (3, .methodref 10 70), (0, .nameAndType 71 72), (0, u "grow"), (0, u "(I)[Ljava/lang/Object;"), (6, .methodref 80 81), (0, .class_ 82), (0, .nameAndType 83 84), (0, u "java/lang/Math"), (0, u "max"), (0, u "(II)I"), (11, u "(Ljava/lang/Object;)Z"), (32, .methodref 10 130), (0, .nameAndType 71 47), (0, .methodref 10 132), (0, .nameAndType 133 134), (0, u "add"), (0, u "(Ljava/lang/Object;[Ljava/lang/Object;I)V"), (13, .class_ 149), (0, u "java/util/List"), (112, .class_ 263), (0, u "java/util/ArrayList$ListItr"), (3, .class_ 268), (0, u "java/util/ArrayList$Itr"), (7, .class_ 277), (0, u "java/util/ArrayList$SubList"), (12, .class_ 291), (0, u "java/util/ArrayList$ArrayListSpliterator"), (37, .class_ 330), (0, u "java/util/RandomAccess"), (0, .class_ 332), (0, u "java/lang/Cloneable"), (0, .class_ 334), (0, u "java/io/Serializable"), (0, u "serialVersionUID"), (0, u "J"), (3, u "DEFAULT_CAPACITY"), (159, .class_ 501), (0, u "java/util/ArrayList$SubList$2"), (0, .class_ 503), (0, u "java/util/ArrayList$SubList$1")] 5

def k17c0 : Code := { maxStack := 2, maxLocals := 1, code := jdk_38_method_2_code, exceptionTable := #[], attributes := #[] }
def k17m0 : Method := { name := "<init>", desc := "()V", sig := { parameters := [], returnType := none }, accessFlags := 1, code := some k17c0 }
def k17c1 : Code := { maxStack := 4, maxLocals := 4, code := jdk_38_method_6_code, exceptionTable := #[], attributes := #[] }
def k17m1 : Method := { name := "grow", desc := "(I)[Ljava/lang/Object;", sig := { parameters := [.int], returnType := some (.array (.object "java/lang/Object")) }, accessFlags := 2, code := some k17c1 }
def k17c2 : Code := { maxStack := 3, maxLocals := 1, code := jdk_38_method_7_code, exceptionTable := #[], attributes := #[] }
def k17m2 : Method := { name := "grow", desc := "()[Ljava/lang/Object;", sig := { parameters := [], returnType := some (.array (.object "java/lang/Object")) }, accessFlags := 2, code := some k17c2 }
def k17c3 : Code := { maxStack := 3, maxLocals := 4, code := jdk_38_method_24_code, exceptionTable := #[], attributes := #[] }
def k17m3 : Method := { name := "add", desc := "(Ljava/lang/Object;[Ljava/lang/Object;I)V", sig := { parameters := [(.object "java/lang/Object"), (.array (.object "java/lang/Object")), .int], returnType := none }, accessFlags := 2, code := some k17c3 }
def k17c4 : Code := { maxStack := 4, maxLocals := 2, code := jdk_38_method_25_code, exceptionTable := #[], attributes := #[] }
def k17m4 : Method := { name := "add", desc := "(Ljava/lang/Object;)Z", sig := { parameters := [(.object "java/lang/Object")], returnType := some .boolean }, accessFlags := 1, code := some k17c4 }
/-- java/util/ArrayList -/
def k17 : Class := { plain "java/util/ArrayList" (some 14) with
  accessFlags := 33
  interfaces := #[13, 15, 16, 2]
  cf := some (fileOf pool17 10 #[.nestMembers #[290, 276, 500, 502, 262, 267]] #[{ accessFlags := 1, nameIndex := 5, descriptorIndex := 6, attributes := #[] }, { accessFlags := 2, nameIndex := 71, descriptorIndex := 72, attributes := #[] }, { accessFlags := 2, nameIndex := 71, descriptorIndex := 47, attributes := #[] }, { accessFlags := 2, nameIndex := 133, descriptorIndex := 134, attributes := #[] }, { accessFlags := 1, nameIndex := 133, descriptorIndex := 96, attributes := #[] }] 33 2 #[148, 329, 331, 333] #[{ accessFlags := 26, nameIndex := 335, descriptorIndex := 336, attributes := #[] }, { accessFlags := 26, nameIndex := 340, descriptorIndex := 51, attributes := #[] }, { accessFlags := 26, nameIndex := 17, descriptorIndex := 14, attributes := #[] }, { accessFlags := 26, nameIndex := 41, descriptorIndex := 14, attributes := #[] }, { accessFlags := 128, nameIndex := 13, descriptorIndex := 14, attributes := #[] }, { accessFlags := 2, nameIndex := 50, descriptorIndex := 51, attributes := #[] }])
  fields := #[{ name := "serialVersionUID", type := .long, accessFlags := 26, slot := 0, constantValue := 0 }, { name := "DEFAULT_CAPACITY", type := .int, accessFlags := 26, slot := 1, constantValue := 0 }, { name := "EMPTY_ELEMENTDATA", type := (.array (.object "java/lang/Object")), accessFlags := 26, slot := 2, constantValue := 0 }, { name := "DEFAULTCAPACITY_EMPTY_ELEMENTDATA", type := (.array (.object "java/lang/Object")), accessFlags := 26, slot := 3, constantValue := 0 }, { name := "elementData", type := (.array (.object "java/lang/Object")), accessFlags := 128, slot := 1, constantValue := 0 }, { name := "size", type := .int, accessFlags := 2, slot := 2, constantValue := 0 }]
  methods := #[k17m0, k17m1, k17m2, k17m3, k17m4]
  instanceTypes := #[.int, (.array (.object "java/lang/Object")), .int]
  staticTypes := #[.long, .int, (.array (.object "java/lang/Object")), (.array (.object "java/lang/Object"))]
  resolved := Array.replicate 509 none
  statics := some 1 }

def pool18 : Array CpInfo := pool [(1, .methodref 2 3), (0, .class_ 4), (0, .nameAndType 5 6), (0, u "java/lang/Object"), (0, u "<init>"), (0, u "()V"), (0, .fieldref 8 9), (0, .class_ 10), (0, .nameAndType 11 12), (0, u "com/example/durable_coordinator/durablecoordinator/protocol/ConsumerGroupHeartbeatRequest$Member"), (0, u "instanceId"), (0, u "Ljava/lang/String;"), (0, .fieldref 8 14), (0, .nameAndType 15 12), (0, u "rackId"), (0, .fieldref 8 17), (0, .nameAndType 18 19), (0, u "rebalanceTimeoutMs"), (0, u "I"), (0, .fieldref 8 21), (0, .nameAndType 22 23), (0, u "topicNames"), (0, u "Ljava/util/List;"), (0, .fieldref 8 25), (0, .nameAndType 26 12), (0, u "topicRegex"), (0, .fieldref 8 28), (0, .nameAndType 29 12), (0, u "serverAssignor"), (2, u "(Ljava/lang/String;Ljava/lang/String;ILjava/util/List;Ljava/lang/String;Ljava/lang/String;)V"), (10, .class_ 44), (0, u "com/example/durable_coordinator/durablecoordinator/protocol/ConsumerGroupHeartbeatRequest")] 2

def k18c0 : Code := { maxStack := 2, maxLocals := 7, code := prog_61_method_1_code, exceptionTable := #[], attributes := #[] }
def k18m0 : Method := { name := "<init>", desc := "(Ljava/lang/String;Ljava/lang/String;ILjava/util/List;Ljava/lang/String;Ljava/lang/String;)V", sig := { parameters := [(.object "java/lang/String"), (.object "java/lang/String"), .int, (.object "java/util/List"), (.object "java/lang/String"), (.object "java/lang/String")], returnType := none }, accessFlags := 1, code := some k18c0 }
/-- com/example/durable_coordinator/durablecoordinator/protocol/ConsumerGroupHeartbeatRequest$Member -/
def k18 : Class := { plain "com/example/durable_coordinator/durablecoordinator/protocol/ConsumerGroupHeartbeatRequest$Member" (some 0) with
  accessFlags := 33
  interfaces := #[]
  cf := some (fileOf pool18 8 #[.nestHost 43] #[{ accessFlags := 1, nameIndex := 5, descriptorIndex := 32, attributes := #[] }] 33 2 #[] #[{ accessFlags := 18, nameIndex := 11, descriptorIndex := 12, attributes := #[] }, { accessFlags := 18, nameIndex := 15, descriptorIndex := 12, attributes := #[] }, { accessFlags := 18, nameIndex := 18, descriptorIndex := 19, attributes := #[] }, { accessFlags := 18, nameIndex := 22, descriptorIndex := 23, attributes := #[] }, { accessFlags := 18, nameIndex := 26, descriptorIndex := 12, attributes := #[] }, { accessFlags := 18, nameIndex := 29, descriptorIndex := 12, attributes := #[] }])
  fields := #[{ name := "instanceId", type := (.object "java/lang/String"), accessFlags := 18, slot := 0, constantValue := 0 }, { name := "rackId", type := (.object "java/lang/String"), accessFlags := 18, slot := 1, constantValue := 0 }, { name := "rebalanceTimeoutMs", type := .int, accessFlags := 18, slot := 2, constantValue := 0 }, { name := "topicNames", type := (.object "java/util/List"), accessFlags := 18, slot := 3, constantValue := 0 }, { name := "topicRegex", type := (.object "java/lang/String"), accessFlags := 18, slot := 4, constantValue := 0 }, { name := "serverAssignor", type := (.object "java/lang/String"), accessFlags := 18, slot := 5, constantValue := 0 }]
  methods := #[k18m0]
  instanceTypes := #[(.object "java/lang/String"), (.object "java/lang/String"), .int, (.object "java/util/List"), (.object "java/lang/String"), (.object "java/lang/String")]
  staticTypes := #[]
  resolved := Array.replicate 47 none
  statics := none }

def pool19 : Array CpInfo := pool [(1, .methodref 2 3), (0, .class_ 4), (0, .nameAndType 5 6), (0, u "java/lang/Object"), (0, u "<init>"), (0, u "()V"), (0, .fieldref 8 9), (0, .class_ 10), (0, .nameAndType 11 12), (0, u "com/example/durable_coordinator/durablecoordinator/protocol/ConsumerGroupHeartbeatRequest"), (0, u "groupId"), (0, u "Ljava/lang/String;"), (0, .fieldref 8 14), (0, .nameAndType 15 12), (0, u "memberId"), (0, .fieldref 8 17), (0, .nameAndType 18 19), (0, u "memberEpoch"), (0, u "I"), (0, .fieldref 8 21), (0, .nameAndType 22 23), (0, u "memberMakesItsId"), (0, u "Z"), (0, .fieldref 8 25), (0, .nameAndType 26 27), (0, u "member"), (0, u "Lcom/example/durable_coordinator/durablecoordinator/protocol/ConsumerGroupHeartbeatRequest$Member;"), (0, .fieldref 8 29), (0, .nameAndType 30 31), (0, u "ownedPartitions"), (0, u "Ljava/util/List;"), (36, .class_ 69), (0, u "com/example/durable_coordinator/durablecoordinator/protocol/ConsumerGroupHeartbeatRequest$Member"), (5, u "(Ljava/lang/String;Ljava/lang/String;IZLcom/example/durable_coordinator/durablecoordinator/protocol/ConsumerGroupHeartbeatRequest$Member;Ljava/util/List;)V"), (0, .fieldref 68 77), (0, .nameAndType 78 19), (0, u "rebalanceTimeoutMs"), (0, .fieldref 68 80), (0, .nameAndType 81 31), (0, u "topicNames"), (0, .fieldref 68 83), (0, .nameAndType 84 12), (0, u "topicRegex"), (0, u "JOIN_EPOCH"), (2, u "LEAVE_EPOCH"), (1, u "STATIC_LEAVE_EPOCH"), (11, u "()Z"), (3, u "isFull")] 5

def k19c0 : Code := { maxStack := 2, maxLocals := 7, code := prog_60_method_1_code, exceptionTable := #[], attributes := #[] }
def k19m0 : Method := { name := "<init>", desc := "(Ljava/lang/String;Ljava/lang/String;IZLcom/example/durable_coordinator/durablecoordinator/protocol/ConsumerGroupHeartbeatRequest$Member;Ljava/util/List;)V", sig := { parameters := [(.object "java/lang/String"), (.object "java/lang/String"), .int, .boolean, (.object "com/example/durable_coordinator/durablecoordinator/protocol/ConsumerGroupHeartbeatRequest$Member"), (.object "java/util/List")], returnType := none }, accessFlags := 1, code := some k19c0 }
def k19c1 : Code := { maxStack := 2, maxLocals := 1, code := prog_60_method_9_code, exceptionTable := #[], attributes := #[] }
def k19m1 : Method := { name := "isFull", desc := "()Z", sig := { parameters := [], returnType := some .boolean }, accessFlags := 1, code := some k19c1 }
/-- com/example/durable_coordinator/durablecoordinator/protocol/ConsumerGroupHeartbeatRequest -/
def k19 : Class := { plain "com/example/durable_coordinator/durablecoordinator/protocol/ConsumerGroupHeartbeatRequest" (some 0) with
  accessFlags := 33
  interfaces := #[]
  cf := some (fileOf pool19 8 #[.nestMembers #[68]] #[{ accessFlags := 1, nameIndex := 5, descriptorIndex := 75, attributes := #[] }, { accessFlags := 1, nameIndex := 106, descriptorIndex := 102, attributes := #[] }] 33 2 #[] #[{ accessFlags := 25, nameIndex := 85, descriptorIndex := 19, attributes := #[] }, { accessFlags := 25, nameIndex := 88, descriptorIndex := 19, attributes := #[] }, { accessFlags := 25, nameIndex := 90, descriptorIndex := 19, attributes := #[] }, { accessFlags := 18, nameIndex := 11, descriptorIndex := 12, attributes := #[] }, { accessFlags := 18, nameIndex := 15, descriptorIndex := 12, attributes := #[] }, { accessFlags := 18, nameIndex := 18, descriptorIndex := 19, attributes := #[] }, { accessFlags := 18, nameIndex := 22, descriptorIndex := 23, attributes := #[] }, { accessFlags := 18, nameIndex := 26, descriptorIndex := 27, attributes := #[] }, { accessFlags := 18, nameIndex := 30, descriptorIndex := 31, attributes := #[] }])
  fields := #[{ name := "JOIN_EPOCH", type := .int, accessFlags := 25, slot := 0, constantValue := 0 }, { name := "LEAVE_EPOCH", type := .int, accessFlags := 25, slot := 1, constantValue := 0 }, { name := "STATIC_LEAVE_EPOCH", type := .int, accessFlags := 25, slot := 2, constantValue := 0 }, { name := "groupId", type := (.object "java/lang/String"), accessFlags := 18, slot := 0, constantValue := 0 }, { name := "memberId", type := (.object "java/lang/String"), accessFlags := 18, slot := 1, constantValue := 0 }, { name := "memberEpoch", type := .int, accessFlags := 18, slot := 2, constantValue := 0 }, { name := "memberMakesItsId", type := .boolean, accessFlags := 18, slot := 3, constantValue := 0 }, { name := "member", type := (.object "com/example/durable_coordinator/durablecoordinator/protocol/ConsumerGroupHeartbeatRequest$Member"), accessFlags := 18, slot := 4, constantValue := 0 }, { name := "ownedPartitions", type := (.object "java/util/List"), accessFlags := 18, slot := 5, constantValue := 0 }]
  methods := #[k19m0, k19m1]
  instanceTypes := #[(.object "java/lang/String"), (.object "java/lang/String"), .int, .boolean, (.object "com/example/durable_coordinator/durablecoordinator/protocol/ConsumerGroupHeartbeatRequest$Member"), (.object "java/util/List")]
  staticTypes := #[.int, .int, .int]
  resolved := (((Array.replicate 112 none).setIfInBounds 76 (some (.field 18 2))).setIfInBounds 79 (some (.field 18 3))).setIfInBounds 82 (some (.field 18 4))
  statics := none }

def pool20 : Array CpInfo := pool [(1, .class_ 2), (0, u "java/lang/Math"), (1, .class_ 6), (1, u "java/lang/Object"), (0, u "<init>"), (0, u "()V"), (89, .class_ 100), (1, u "java/lang/Math$RandomNumberGeneratorHolder"), (71, u "negativeZeroFloatBits"), (0, u "J"), (2, u "negativeZeroDoubleBits"), (21, u "max"), (46, u "$assertionsDisabled"), (0, u "Z"), (88, u "(II)I"), (2, u "twoToTheDoubleScaleDown"), (0, u "D"), (4, u "twoToTheDoubleScaleUp"), (9, u "E"), (3, u "PI"), (2, u "TAU"), (2, u "DEGREES_TO_RADIANS"), (0, u "RADIANS_TO_DEGREES")] 94

def k20m0 : Method := { name := "<init>", desc := "()V", sig := { parameters := [], returnType := none }, accessFlags := 2, code := none }
def k20c1 : Code := { maxStack := 2, maxLocals := 2, code := jdk_29_method_65_code, exceptionTable := #[], attributes := #[] }
def k20m1 : Method := { name := "max", desc := "(II)I", sig := { parameters := [.int, .int], returnType := some .int }, accessFlags := 9, code := some k20c1 }
/-- java/lang/Math -/
def k20 : Class := { plain "java/lang/Math" (some 0) with
  accessFlags := 49
  interfaces := #[]
  cf := some (fileOf pool20 1 #[.nestMembers #[98]] #[{ accessFlags := 2, nameIndex := 7, descriptorIndex := 8, attributes := #[] }, { accessFlags := 9, nameIndex := 198, descriptorIndex := 335, attributes := #[] }] 49 4 #[] #[{ accessFlags := 25, nameIndex := 354, descriptorIndex := 339, attributes := #[] }, { accessFlags := 25, nameIndex := 358, descriptorIndex := 339, attributes := #[] }, { accessFlags := 25, nameIndex := 361, descriptorIndex := 339, attributes := #[] }, { accessFlags := 26, nameIndex := 364, descriptorIndex := 339, attributes := #[] }, { accessFlags := 26, nameIndex := 365, descriptorIndex := 339, attributes := #[] }, { accessFlags := 26, nameIndex := 172, descriptorIndex := 173, attributes := #[] }, { accessFlags := 26, nameIndex := 176, descriptorIndex := 173, attributes := #[] }, { accessFlags := 8, nameIndex := 344, descriptorIndex := 339, attributes := #[] }, { accessFlags := 8, nameIndex := 338, descriptorIndex := 339, attributes := #[] }, { accessFlags := 4120, nameIndex := 245, descriptorIndex := 246, attributes := #[] }])
  fields := #[{ name := "E", type := .double, accessFlags := 25, slot := 0, constantValue := 0 }, { name := "PI", type := .double, accessFlags := 25, slot := 1, constantValue := 0 }, { name := "TAU", type := .double, accessFlags := 25, slot := 2, constantValue := 0 }, { name := "DEGREES_TO_RADIANS", type := .double, accessFlags := 26, slot := 3, constantValue := 0 }, { name := "RADIANS_TO_DEGREES", type := .double, accessFlags := 26, slot := 4, constantValue := 0 }, { name := "negativeZeroFloatBits", type := .long, accessFlags := 26, slot := 5, constantValue := 0 }, { name := "negativeZeroDoubleBits", type := .long, accessFlags := 26, slot := 6, constantValue := 0 }, { name := "twoToTheDoubleScaleUp", type := .double, accessFlags := 8, slot := 7, constantValue := 0 }, { name := "twoToTheDoubleScaleDown", type := .double, accessFlags := 8, slot := 8, constantValue := 0 }, { name := "$assertionsDisabled", type := .boolean, accessFlags := 4120, slot := 9, constantValue := 0 }]
  methods := #[k20m0, k20m1]
  instanceTypes := #[]
  staticTypes := #[.double, .double, .double, .double, .double, .long, .long, .double, .double, .boolean]
  resolved := Array.replicate 460 none
  statics := none }

def pool21 : Array CpInfo := pool [(1, .methodref 2 3), (0, .class_ 4), (0, .nameAndType 5 6), (0, u "java/lang/Object"), (0, u "<init>"), (0, u "()V"), (0, .fieldref 8 9), (0, .class_ 10), (0, .nameAndType 11 12), (0, u "com/example/durable_coordinator/durablecoordinator/protocol/TopicIdPartitions"), (0, u "topicId"), (0, u "Ljava/util/UUID;"), (0, .fieldref 8 14), (0, .nameAndType 15 16), (0, u "partitions"), (0, u "Ljava/util/List;"), (38, u "(Ljava/util/UUID;Ljava/util/List;)V")] 48

def k21c0 : Code := { maxStack := 2, maxLocals := 3, code := prog_99_method_1_code, exceptionTable := #[], attributes := #[] }
def k21m0 : Method := { name := "<init>", desc := "(Ljava/util/UUID;Ljava/util/List;)V", sig := { parameters := [(.object "java/util/UUID"), (.object "java/util/List")], returnType := none }, accessFlags := 1, code := some k21c0 }
/-- com/example/durable_coordinator/durablecoordinator/protocol/TopicIdPartitions -/
def k21 : Class := { plain "com/example/durable_coordinator/durablecoordinator/protocol/TopicIdPartitions" (some 0) with
  accessFlags := 33
  interfaces := #[]
  cf := some (fileOf pool21 8 #[] #[{ accessFlags := 1, nameIndex := 5, descriptorIndex := 55, attributes := #[] }] 33 2 #[] #[{ accessFlags := 18, nameIndex := 11, descriptorIndex := 12, attributes := #[] }, { accessFlags := 18, nameIndex := 15, descriptorIndex := 16, attributes := #[] }])
  fields := #[{ name := "topicId", type := (.object "java/util/UUID"), accessFlags := 18, slot := 0, constantValue := 0 }, { name := "partitions", type := (.object "java/util/List"), accessFlags := 18, slot := 1, constantValue := 0 }]
  methods := #[k21m0]
  instanceTypes := #[(.object "java/util/UUID"), (.object "java/util/List")]
  staticTypes := #[]
  resolved := Array.replicate 104 none
  statics := none }

def pool22 : Array CpInfo := pool [(2, .class_ 4), (1, u "java/lang/Object"), (0, u "<init>"), (0, u "()V"), (17, .class_ 26), (1, u "jdk/internal/util/Preconditions"), (28, .class_ 56), (0, u "jdk/internal/util/Preconditions$4"), (57, .class_ 115), (0, u "jdk/internal/util/Preconditions$1"), (7, u "SIOOBE_FORMATTER"), (0, u "Ljava/util/function/BiFunction;"), (0, .class_ 126), (0, u "jdk/internal/util/Preconditions$2"), (3, u "AIOOBE_FORMATTER"), (0, .class_ 132), (0, u "jdk/internal/util/Preconditions$3"), (3, u "IOOBE_FORMATTER")] 57

def k22m0 : Method := { name := "<init>", desc := "()V", sig := { parameters := [], returnType := none }, accessFlags := 1, code := none }
/-- jdk/internal/util/Preconditions -/
def k22 : Class := { plain "jdk/internal/util/Preconditions" (some 0) with
  accessFlags := 33
  interfaces := #[]
  cf := some (fileOf pool22 24 #[.nestMembers #[55, 131, 125, 114]] #[{ accessFlags := 1, nameIndex := 5, descriptorIndex := 6, attributes := #[] }] 33 2 #[] #[{ accessFlags := 25, nameIndex := 123, descriptorIndex := 124, attributes := #[] }, { accessFlags := 25, nameIndex := 130, descriptorIndex := 124, attributes := #[] }, { accessFlags := 25, nameIndex := 136, descriptorIndex := 124, attributes := #[] }])
  fields := #[{ name := "SIOOBE_FORMATTER", type := (.object "java/util/function/BiFunction"), accessFlags := 25, slot := 0, constantValue := 0 }, { name := "AIOOBE_FORMATTER", type := (.object "java/util/function/BiFunction"), accessFlags := 25, slot := 1, constantValue := 0 }, { name := "IOOBE_FORMATTER", type := (.object "java/util/function/BiFunction"), accessFlags := 25, slot := 2, constantValue := 0 }]
  methods := #[k22m0]
  instanceTypes := #[]
  staticTypes := #[(.object "java/util/function/BiFunction"), (.object "java/util/function/BiFunction"), (.object "java/util/function/BiFunction")]
  resolved := Array.replicate 194 none
  statics := some 2 }

def pool23 : Array CpInfo := pool [(9, u "<init>"), (6, .class_ 18), (1, u "java/lang/Object"), (0, u "()V"), (1, .class_ 23), (1, u "jdk/internal/util/ArraysSupport"), (0, u "LOG2_ARRAY_LONG_INDEX_SCALE"), (0, u "I"), (2, u "U"), (0, u "Ljdk/internal/misc/Unsafe;"), (8, u "BIG_ENDIAN"), (0, u "Z"), (8, u "LOG2_BYTE_BIT_SIZE"), (4, u "LOG2_ARRAY_INT_INDEX_SCALE"), (54, u "JLA"), (0, u "Ljdk/internal/access/JavaLangAccess;"), (11, u "LOG2_ARRAY_BOOLEAN_INDEX_SCALE"), (9, u "LOG2_ARRAY_BYTE_INDEX_SCALE"), (5, u "LOG2_ARRAY_CHAR_INDEX_SCALE"), (5, u "LOG2_ARRAY_SHORT_INDEX_SCALE"), (18, u "LOG2_ARRAY_FLOAT_INDEX_SCALE"), (24, u "LOG2_ARRAY_DOUBLE_INDEX_SCALE"), (89, u "T_BOOLEAN"), (2, u "T_CHAR"), (1, u "T_FLOAT"), (1, u "T_DOUBLE"), (1, u "T_BYTE"), (1, u "T_SHORT"), (1, u "T_INT"), (1, u "T_LONG"), (1, u "SOFT_MAX_ARRAY_LENGTH")] 83

def k23m0 : Method := { name := "<init>", desc := "()V", sig := { parameters := [], returnType := none }, accessFlags := 2, code := none }
/-- jdk/internal/util/ArraysSupport -/
def k23 : Class := { plain "jdk/internal/util/ArraysSupport" (some 0) with
  accessFlags := 33
  interfaces := #[]
  cf := some (fileOf pool23 21 #[] #[{ accessFlags := 2, nameIndex := 9, descriptorIndex := 19, attributes := #[] }] 33 16 #[] #[{ accessFlags := 24, nameIndex := 28, descriptorIndex := 29, attributes := #[] }, { accessFlags := 26, nameIndex := 38, descriptorIndex := 39, attributes := #[] }, { accessFlags := 25, nameIndex := 121, descriptorIndex := 25, attributes := #[] }, { accessFlags := 25, nameIndex := 131, descriptorIndex := 25, attributes := #[] }, { accessFlags := 25, nameIndex := 137, descriptorIndex := 25, attributes := #[] }, { accessFlags := 25, nameIndex := 143, descriptorIndex := 25, attributes := #[] }, { accessFlags := 25, nameIndex := 53, descriptorIndex := 25, attributes := #[] }, { accessFlags := 25, nameIndex := 24, descriptorIndex := 25, attributes := #[] }, { accessFlags := 25, nameIndex := 162, descriptorIndex := 25, attributes := #[] }, { accessFlags := 25, nameIndex := 187, descriptorIndex := 25, attributes := #[] }, { accessFlags := 26, nameIndex := 48, descriptorIndex := 25, attributes := #[] }, { accessFlags := 25, nameIndex := 277, descriptorIndex := 25, attributes := #[] }, { accessFlags := 25, nameIndex := 280, descriptorIndex := 25, attributes := #[] }, { accessFlags := 25, nameIndex := 282, descriptorIndex := 25, attributes := #[] }, { accessFlags := 25, nameIndex := 284, descriptorIndex := 25, attributes := #[] }, { accessFlags := 25, nameIndex := 286, descriptorIndex := 25, attributes := #[] }, { accessFlags := 25, nameIndex := 288, descriptorIndex := 25, attributes := #[] }, { accessFlags := 25, nameIndex := 290, descriptorIndex := 25, attributes := #[] }, { accessFlags := 25, nameIndex := 292, descriptorIndex := 25, attributes := #[] }, { accessFlags := 26, nameIndex := 108, descriptorIndex := 109, attributes := #[] }, { accessFlags := 25, nameIndex := 294, descriptorIndex := 25, attributes := #[] }])
  fields := #[{ name := "U", type := (.object "jdk/internal/misc/Unsafe"), accessFlags := 24, slot := 0, constantValue := 0 }, { name := "BIG_ENDIAN", type := .boolean, accessFlags := 26, slot := 1, constantValue := 0 }, { name := "LOG2_ARRAY_BOOLEAN_INDEX_SCALE", type := .int, accessFlags := 25, slot := 2, constantValue := 0 }, { name := "LOG2_ARRAY_BYTE_INDEX_SCALE", type := .int, accessFlags := 25, slot := 3, constantValue := 0 }, { name := "LOG2_ARRAY_CHAR_INDEX_SCALE", type := .int, accessFlags := 25, slot := 4, constantValue := 0 }, { name := "LOG2_ARRAY_SHORT_INDEX_SCALE", type := .int, accessFlags := 25, slot := 5, constantValue := 0 }, { name := "LOG2_ARRAY_INT_INDEX_SCALE", type := .int, accessFlags := 25, slot := 6, constantValue := 0 }, { name := "LOG2_ARRAY_LONG_INDEX_SCALE", type := .int, accessFlags := 25, slot := 7, constantValue := 0 }, { name := "LOG2_ARRAY_FLOAT_INDEX_SCALE", type := .int, accessFlags := 25, slot := 8, constantValue := 0 }, { name := "LOG2_ARRAY_DOUBLE_INDEX_SCALE", type := .int, accessFlags := 25, slot := 9, constantValue := 0 }, { name := "LOG2_BYTE_BIT_SIZE", type := .int, accessFlags := 26, slot := 10, constantValue := 0 }, { name := "T_BOOLEAN", type := .int, accessFlags := 25, slot := 11, constantValue := 0 }, { name := "T_CHAR", type := .int, accessFlags := 25, slot := 12, constantValue := 0 }, { name := "T_FLOAT", type := .int, accessFlags := 25, slot := 13, constantValue := 0 }, { name := "T_DOUBLE", type := .int, accessFlags := 25, slot := 14, constantValue := 0 }, { name := "T_BYTE", type := .int, accessFlags := 25, slot := 15, constantValue := 0 }, { name := "T_SHORT", type := .int, accessFlags := 25, slot := 16, constantValue := 0 }, { name := "T_INT", type := .int, accessFlags := 25, slot := 17, constantValue := 0 }, { name := "T_LONG", type := .int, accessFlags := 25, slot := 18, constantValue := 0 }, { name := "JLA", type := (.object "jdk/internal/access/JavaLangAccess"), accessFlags := 26, slot := 19, constantValue := 0 }, { name := "SOFT_MAX_ARRAY_LENGTH", type := .int, accessFlags := 25, slot := 20, constantValue := 0 }]
  methods := #[k23m0]
  instanceTypes := #[]
  staticTypes := #[(.object "jdk/internal/misc/Unsafe"), .boolean, .int, .int, .int, .int, .int, .int, .int, .int, .int, .int, .int, .int, .int, .int, .int, .int, .int, (.object "jdk/internal/access/JavaLangAccess"), .int]
  resolved := Array.replicate 378 none
  statics := none }

/-- the primitive byte -/
def k24 : Class := { plain "byte" none with kind := .primitive 'B', accessFlags := 0x411 }
/-- [B -/
def k25 : Class := { plain "[B" (some 0) with kind := .array 24 .byte, interfaces := #[16, 2], accessFlags := 1041 }

/-- [Ljava/lang/Object; -/
def k26 : Class := { plain "[Ljava/lang/Object;" (some 0) with kind := .array 0 (.object "java/lang/Object"), interfaces := #[16, 2], accessFlags := 1041 }

def heap : Heap := #[{ cls := 7, slots := #[.long 0, .int 1, .null, .int 0, .null, .int 0, .int 0], vm := .statics 7 },
  { cls := 17, slots := #[.long 0, .int 0, .ref 3, .ref 4], vm := .statics 17 },
  { cls := 22, slots := #[.null, .null, .null], vm := .statics 22 },
  { cls := 26, slots := #[], vm := .none },
  { cls := 26, slots := #[], vm := .none }]
def classes : Array Class := #[k0, k1, k2, k3, k4, k5, k6, k7, k8, k9, k10, k11, k12, k13, k14, k15, k16, k17, k18, k19, k20, k21, k22, k23, k24, k25, k26]
def interned : List (Array UInt16 × Addr) := []
def slotsUsed : Nat := 14
def theMethod : MethodId := ⟨1, 1⟩
def args0 : Array Value := #[.int 1, .int 2, .int 3, .int 4]
def aboutOver (below : List Frame) : State where
  vm := { classes := classes, interned := interned.toArray }
  heap := heap
  slotsUsed := slotsUsed
  threads := #[{ frames := .invoking theMethod args0 :: below }]
def below0 : List Frame := [.native { method := ⟨0, 0⟩, args := #[] }]
def about1 : State := aboutOver below0
def p0 : Program := .bare "" "" ""
def e0 : Env := launch0.env 0 0 0
theorem w_frames : about1.frames = Frame.invoking theMethod args0 :: below0 := rfl
set_option maxRecDepth 65536 in
theorem w_args : argsFit about1.vm theMethod args0 = true := by decide +kernel
set_option maxRecDepth 65536 in
theorem w_heap : heapFits about1 = true := by decide +kernel
set_option maxRecDepth 65536 in
theorem w_runnable : about1.curStatus? = some .runnable := by decide +kernel
set_option maxRecDepth 65536 in
theorem w_alone : about1.alone = true := by decide +kernel
set_option maxRecDepth 65536 in
theorem w_named : about1.methodNamed? x = some theMethod := by decide +kernel
set_option maxRecDepth 65536 in
theorem w_hears : about1.hears theMethod below0 = true := by decide +kernel
set_option maxRecDepth 65536 in
theorem w_ripe : about1.ripe theMethod args0 below0 = true := by decide +kernel
theorem w_running : about1.status = .running := rfl
set_option maxRecDepth 65536 in
theorem w_room : about1.hasRoom e0.platform room_1 = true :=
  launch0.hasRoom_least _ room_1 (by decide +kernel) (by decide +kernel) (by decide +kernel) (by decide +kernel) (by decide +kernel) (by decide +kernel)
theorem allAtoms_all (ts : List Jvm.Cond) (a : Array Jvm.Value) (st : Jvm.State) : (allAtoms ts).before a st = ts.all (fun c => c.before a st) := by
  induction ts with
  | nil => rfl
  | cons c t ih =>
    show (Jvm.Cond.and c (allAtoms t)).before a st = _
    rw [Jvm.Cond.before_and, ih, List.all_cons]
def words1 : List Jvm.Cond := Jvm.Cond.code x code maxLocals ret :: tables_1
/-- a 'code' word, met by the world's own term for the bytes: nothing is compared byte by byte -/
theorem code_word {y : MethodName} {bytes : ByteArray} {mx : Nat} {rt : Option FieldType} {a : Array Value} {s : State} {m : MethodId} {meth : Method} {c : Code} (h1 : s.methodNamed? y = some m) (h2 : s.vm.method? m = some meth) (h3 : meth.code = some c) (h4 : c.code = bytes)
    (h5 : (c.maxLocals == mx && c.exceptionTable.isEmpty && decide (c.maxStack ≤ mostOperands) && decide (meth.sig.returnType = rt) && !meth.locks && decide (parseMethodDescriptor y.desc = some meth.sig)) = true) : (Jvm.Cond.code y bytes mx rt).before a s = true := by
  simp only [Bool.and_eq_true, beq_iff_eq, Bool.not_eq_true', decide_eq_true_eq] at h5
  obtain ⟨⟨⟨⟨⟨g1, g2⟩, g3⟩, g4⟩, g5⟩, g6⟩ := h5
  simp [Cond.before, Cond.holds, Cond.value, h1, h2, h3, h4, g1, g2, g3, g4, g5, g6]
def isCode : Jvm.Cond → Bool
  | .code _ _ _ _ => true
  | _ => false
theorem all_split {L : List Jvm.Cond} {P : Jvm.Cond → Bool} (h1 : L.all (fun c => isCode c || P c) = true) (h2 : ∀ c ∈ L.filter isCode, P c = true) : L.all P = true := by
  refine List.all_eq_true.mpr fun c hc => ?_
  have h := List.all_eq_true.mp h1 c hc
  rcases Bool.eq_false_or_eq_true (isCode c) with hi | hi
  · exact h2 c (List.mem_filter.mpr ⟨hc, hi⟩)
  · simpa [hi] using h
set_option maxRecDepth 65536 in
theorem w_c0 : (Jvm.Cond.code x code maxLocals ret).before args0 about1 = true := code_word (m := ⟨1, 1⟩) (meth := k1m1) (c := k1c1) (by decide +kernel) rfl rfl rfl (by decide +kernel)
set_option maxRecDepth 65536 in
theorem w_c1 : (Jvm.Cond.code ({ cls := "java/lang/String", name := "valueOf", desc := "(C)Ljava/lang/String;" } : Jvm.MethodName) jdk_42_method_139_code (1 : Nat) (Option.some (Jvm.ClassFile.FieldType.object "java/lang/String"))).before args0 about1 = true := code_word (m := ⟨7, 1⟩) (meth := k7m1) (c := k7c1) (by decide +kernel) rfl rfl rfl (by decide +kernel)
set_option maxRecDepth 65536 in
theorem w_c2 : (Jvm.Cond.code ({ cls := "java/lang/StringLatin1", name := "canEncode", desc := "(C)Z" } : Jvm.MethodName) jdk_43_method_3_code (1 : Nat) (Option.some Jvm.ClassFile.FieldType.boolean)).before args0 about1 = true := code_word (m := ⟨8, 1⟩) (meth := k8m1) (c := k8c1) (by decide +kernel) rfl rfl rfl (by decide +kernel)
set_option maxRecDepth 65536 in
theorem w_c3 : (Jvm.Cond.code ({ cls := "java/lang/StringLatin1", name := "toBytes", desc := "(C)[B" } : Jvm.MethodName) jdk_43_method_46_code (1 : Nat) (Option.some (Jvm.ClassFile.FieldType.array Jvm.ClassFile.FieldType.byte))).before args0 about1 = true := code_word (m := ⟨8, 2⟩) (meth := k8m2) (c := k8c2) (by decide +kernel) rfl rfl rfl (by decide +kernel)
set_option maxRecDepth 65536 in
theorem w_c4 : (Jvm.Cond.code ({ cls := "java/lang/String", name := "<init>", desc := "([BB)V" } : Jvm.MethodName) jdk_42_method_151_code (3 : Nat) (Option.none : Option Jvm.ClassFile.FieldType)).before args0 about1 = true := code_word (m := ⟨7, 2⟩) (meth := k7m2) (c := k7c2) (by decide +kernel) rfl rfl rfl (by decide +kernel)
set_option maxRecDepth 65536 in
theorem w_c5 : (Jvm.Cond.code ({ cls := "java/lang/Object", name := "<init>", desc := "()V" } : Jvm.MethodName) object_method_1_code (1 : Nat) (Option.none : Option Jvm.ClassFile.FieldType)).before args0 about1 = true := code_word (m := ⟨0, 0⟩) (meth := k0m0) (c := k0c0) (by decide +kernel) rfl rfl rfl (by decide +kernel)
set_option maxRecDepth 65536 in
theorem w_c6 : (Jvm.Cond.code ({ cls := "java/util/ArrayList", name := "<init>", desc := "()V" } : Jvm.MethodName) jdk_38_method_2_code (1 : Nat) (Option.none : Option Jvm.ClassFile.FieldType)).before args0 about1 = true := code_word (m := ⟨17, 0⟩) (meth := k17m0) (c := k17c0) (by decide +kernel) rfl rfl rfl (by decide +kernel)
set_option maxRecDepth 65536 in
theorem w_c7 : (Jvm.Cond.code ({ cls := "java/util/AbstractList", name := "<init>", desc := "()V" } : Jvm.MethodName) jdk_39_method_1_code (1 : Nat) (Option.none : Option Jvm.ClassFile.FieldType)).before args0 about1 = true := code_word (m := ⟨14, 0⟩) (meth := k14m0) (c := k14c0) (by decide +kernel) rfl rfl rfl (by decide +kernel)
set_option maxRecDepth 65536 in
theorem w_c8 : (Jvm.Cond.code ({ cls := "java/util/AbstractCollection", name := "<init>", desc := "()V" } : Jvm.MethodName) jdk_22_method_1_code (1 : Nat) (Option.none : Option Jvm.ClassFile.FieldType)).before args0 about1 = true := code_word (m := ⟨11, 0⟩) (meth := k11m0) (c := k11c0) (by decide +kernel) rfl rfl rfl (by decide +kernel)
set_option maxRecDepth 65536 in
theorem w_c9 : (Jvm.Cond.code ({ cls := "com/example/durable_coordinator/durablecoordinator/protocol/ConsumerGroupHeartbeatRequest$Member", name := "<init>", desc := "(Ljava/lang/String;Ljava/lang/String;ILjava/util/List;Ljava/lang/String;Ljava/lang/String;)V" } : Jvm.MethodName) prog_61_method_1_code (7 : Nat) (Option.none : Option Jvm.ClassFile.FieldType)).before args0 about1 = true := code_word (m := ⟨18, 0⟩) (meth := k18m0) (c := k18c0) (by decide +kernel) rfl rfl rfl (by decide +kernel)
set_option maxRecDepth 65536 in
theorem w_c10 : (Jvm.Cond.code ({ cls := "com/example/durable_coordinator/durablecoordinator/protocol/ConsumerGroupHeartbeatRequest", name := "<init>", desc := "(Ljava/lang/String;Ljava/lang/String;IZLcom/example/durable_coordinator/durablecoordinator/protocol/ConsumerGroupHeartbeatRequest$Member;Ljava/util/List;)V" } : Jvm.MethodName) prog_60_method_1_code (7 : Nat) (Option.none : Option Jvm.ClassFile.FieldType)).before args0 about1 = true := code_word (m := ⟨19, 0⟩) (meth := k19m0) (c := k19c0) (by decide +kernel) rfl rfl rfl (by decide +kernel)
set_option maxRecDepth 65536 in
theorem w_c11 : (Jvm.Cond.code ({ cls := "com/example/durable_coordinator/durablecoordinator/protocol/ConsumerGroupHeartbeatRequest", name := "isFull", desc := "()Z" } : Jvm.MethodName) prog_60_method_9_code (1 : Nat) (Option.some Jvm.ClassFile.FieldType.boolean)).before args0 about1 = true := code_word (m := ⟨19, 1⟩) (meth := k19m1) (c := k19c1) (by decide +kernel) rfl rfl rfl (by decide +kernel)
set_option maxRecDepth 65536 in
theorem w_c12 : (Jvm.Cond.code ({ cls := "java/util/ArrayList", name := "add", desc := "(Ljava/lang/Object;)Z" } : Jvm.MethodName) jdk_38_method_25_code (2 : Nat) (Option.some Jvm.ClassFile.FieldType.boolean)).before args0 about1 = true := code_word (m := ⟨17, 4⟩) (meth := k17m4) (c := k17c4) (by decide +kernel) rfl rfl rfl (by decide +kernel)
set_option maxRecDepth 65536 in
theorem w_c13 : (Jvm.Cond.code ({ cls := "java/util/ArrayList", name := "add", desc := "(Ljava/lang/Object;[Ljava/lang/Object;I)V" } : Jvm.MethodName) jdk_38_method_24_code (4 : Nat) (Option.none : Option Jvm.ClassFile.FieldType)).before args0 about1 = true := code_word (m := ⟨17, 3⟩) (meth := k17m3) (c := k17c3) (by decide +kernel) rfl rfl rfl (by decide +kernel)
set_option maxRecDepth 65536 in
theorem w_c14 : (Jvm.Cond.code ({ cls := "java/util/ArrayList", name := "grow", desc := "()[Ljava/lang/Object;" } : Jvm.MethodName) jdk_38_method_7_code (1 : Nat) (Option.some (Jvm.ClassFile.FieldType.array (Jvm.ClassFile.FieldType.object "java/lang/Object")))).before args0 about1 = true := code_word (m := ⟨17, 2⟩) (meth := k17m2) (c := k17c2) (by decide +kernel) rfl rfl rfl (by decide +kernel)
set_option maxRecDepth 65536 in
theorem w_c15 : (Jvm.Cond.code ({ cls := "java/util/ArrayList", name := "grow", desc := "(I)[Ljava/lang/Object;" } : Jvm.MethodName) jdk_38_method_6_code (4 : Nat) (Option.some (Jvm.ClassFile.FieldType.array (Jvm.ClassFile.FieldType.object "java/lang/Object")))).before args0 about1 = true := code_word (m := ⟨17, 1⟩) (meth := k17m1) (c := k17c1) (by decide +kernel) rfl rfl rfl (by decide +kernel)
set_option maxRecDepth 65536 in
theorem w_c16 : (Jvm.Cond.code ({ cls := "java/lang/Math", name := "max", desc := "(II)I" } : Jvm.MethodName) jdk_29_method_65_code (2 : Nat) (Option.some Jvm.ClassFile.FieldType.int)).before args0 about1 = true := code_word (m := ⟨20, 1⟩) (meth := k20m1) (c := k20c1) (by decide +kernel) rfl rfl rfl (by decide +kernel)
set_option maxRecDepth 65536 in
theorem w_c17 : (Jvm.Cond.code ({ cls := "com/example/durable_coordinator/durablecoordinator/protocol/TopicIdPartitions", name := "<init>", desc := "(Ljava/util/UUID;Ljava/util/List;)V" } : Jvm.MethodName) prog_99_method_1_code (3 : Nat) (Option.none : Option Jvm.ClassFile.FieldType)).before args0 about1 = true := code_word (m := ⟨21, 0⟩) (meth := k21m0) (c := k21c0) (by decide +kernel) rfl rfl rfl (by decide +kernel)
def codes1 : List Jvm.Cond := [Jvm.Cond.code x code maxLocals ret, Jvm.Cond.code ({ cls := "java/lang/String", name := "valueOf", desc := "(C)Ljava/lang/String;" } : Jvm.MethodName) jdk_42_method_139_code (1 : Nat) (Option.some (Jvm.ClassFile.FieldType.object "java/lang/String")), Jvm.Cond.code ({ cls := "java/lang/StringLatin1", name := "canEncode", desc := "(C)Z" } : Jvm.MethodName) jdk_43_method_3_code (1 : Nat) (Option.some Jvm.ClassFile.FieldType.boolean), Jvm.Cond.code ({ cls := "java/lang/StringLatin1", name := "toBytes", desc := "(C)[B" } : Jvm.MethodName) jdk_43_method_46_code (1 : Nat) (Option.some (Jvm.ClassFile.FieldType.array Jvm.ClassFile.FieldType.byte)), Jvm.Cond.code ({ cls := "java/lang/String", name := "<init>", desc := "([BB)V" } : Jvm.MethodName) jdk_42_method_151_code (3 : Nat) (Option.none : Option Jvm.ClassFile.FieldType), Jvm.Cond.code ({ cls := "java/lang/Object", name := "<init>", desc := "()V" } : Jvm.MethodName) object_method_1_code (1 : Nat) (Option.none : Option Jvm.ClassFile.FieldType), Jvm.Cond.code ({ cls := "java/util/ArrayList", name := "<init>", desc := "()V" } : Jvm.MethodName) jdk_38_method_2_code (1 : Nat) (Option.none : Option Jvm.ClassFile.FieldType), Jvm.Cond.code ({ cls := "java/util/AbstractList", name := "<init>", desc := "()V" } : Jvm.MethodName) jdk_39_method_1_code (1 : Nat) (Option.none : Option Jvm.ClassFile.FieldType), Jvm.Cond.code ({ cls := "java/util/AbstractCollection", name := "<init>", desc := "()V" } : Jvm.MethodName) jdk_22_method_1_code (1 : Nat) (Option.none : Option Jvm.ClassFile.FieldType), Jvm.Cond.code ({ cls := "com/example/durable_coordinator/durablecoordinator/protocol/ConsumerGroupHeartbeatRequest$Member", name := "<init>", desc := "(Ljava/lang/String;Ljava/lang/String;ILjava/util/List;Ljava/lang/String;Ljava/lang/String;)V" } : Jvm.MethodName) prog_61_method_1_code (7 : Nat) (Option.none : Option Jvm.ClassFile.FieldType), Jvm.Cond.code ({ cls := "com/example/durable_coordinator/durablecoordinator/protocol/ConsumerGroupHeartbeatRequest", name := "<init>", desc := "(Ljava/lang/String;Ljava/lang/String;IZLcom/example/durable_coordinator/durablecoordinator/protocol/ConsumerGroupHeartbeatRequest$Member;Ljava/util/List;)V" } : Jvm.MethodName) prog_60_method_1_code (7 : Nat) (Option.none : Option Jvm.ClassFile.FieldType), Jvm.Cond.code ({ cls := "com/example/durable_coordinator/durablecoordinator/protocol/ConsumerGroupHeartbeatRequest", name := "isFull", desc := "()Z" } : Jvm.MethodName) prog_60_method_9_code (1 : Nat) (Option.some Jvm.ClassFile.FieldType.boolean), Jvm.Cond.code ({ cls := "java/util/ArrayList", name := "add", desc := "(Ljava/lang/Object;)Z" } : Jvm.MethodName) jdk_38_method_25_code (2 : Nat) (Option.some Jvm.ClassFile.FieldType.boolean), Jvm.Cond.code ({ cls := "java/util/ArrayList", name := "add", desc := "(Ljava/lang/Object;[Ljava/lang/Object;I)V" } : Jvm.MethodName) jdk_38_method_24_code (4 : Nat) (Option.none : Option Jvm.ClassFile.FieldType), Jvm.Cond.code ({ cls := "java/util/ArrayList", name := "grow", desc := "()[Ljava/lang/Object;" } : Jvm.MethodName) jdk_38_method_7_code (1 : Nat) (Option.some (Jvm.ClassFile.FieldType.array (Jvm.ClassFile.FieldType.object "java/lang/Object"))), Jvm.Cond.code ({ cls := "java/util/ArrayList", name := "grow", desc := "(I)[Ljava/lang/Object;" } : Jvm.MethodName) jdk_38_method_6_code (4 : Nat) (Option.some (Jvm.ClassFile.FieldType.array (Jvm.ClassFile.FieldType.object "java/lang/Object"))), Jvm.Cond.code ({ cls := "java/lang/Math", name := "max", desc := "(II)I" } : Jvm.MethodName) jdk_29_method_65_code (2 : Nat) (Option.some Jvm.ClassFile.FieldType.int), Jvm.Cond.code ({ cls := "com/example/durable_coordinator/durablecoordinator/protocol/TopicIdPartitions", name := "<init>", desc := "(Ljava/util/UUID;Ljava/util/List;)V" } : Jvm.MethodName) prog_99_method_1_code (3 : Nat) (Option.none : Option Jvm.ClassFile.FieldType)]
set_option maxRecDepth 65536 in
theorem codes_eq : words1.filter isCode = codes1 := rfl
theorem w_codes : ∀ c ∈ words1.filter isCode, c.before args0 about1 = true := by
  rw [codes_eq]
  intro c hc
  simp only [codes1, List.mem_cons, List.not_mem_nil, or_false] at hc
  rcases hc with rfl | rfl | rfl | rfl | rfl | rfl | rfl | rfl | rfl | rfl | rfl | rfl | rfl | rfl | rfl | rfl | rfl | rfl
  · exact w_c0
  · exact w_c1
  · exact w_c2
  · exact w_c3
  · exact w_c4
  · exact w_c5
  · exact w_c6
  · exact w_c7
  · exact w_c8
  · exact w_c9
  · exact w_c10
  · exact w_c11
  · exact w_c12
  · exact w_c13
  · exact w_c14
  · exact w_c15
  · exact w_c16
  · exact w_c17
set_option maxRecDepth 65536 in
theorem w_t1 : (words1.take 24).all (fun c => isCode c || c.before args0 about1) = true := by decide +kernel
set_option maxRecDepth 65536 in
theorem w_t2 : ((words1.drop 24).take 24).all (fun c => isCode c || c.before args0 about1) = true := by decide +kernel
set_option maxRecDepth 65536 in
theorem w_t3 : (((words1.drop 24).drop 24).take 24).all (fun c => isCode c || c.before args0 about1) = true := by decide +kernel
set_option maxRecDepth 65536 in
theorem w_t4 : ((((words1.drop 24).drop 24).drop 24).take 24).all (fun c => isCode c || c.before args0 about1) = true := by decide +kernel
set_option maxRecDepth 65536 in
theorem w_t5 : (((((words1.drop 24).drop 24).drop 24).drop 24).take 24).all (fun c => isCode c || c.before args0 about1) = true := by decide +kernel
set_option maxRecDepth 65536 in
theorem w_t6 : (((((words1.drop 24).drop 24).drop 24).drop 24).drop 24).all (fun c => isCode c || c.before args0 about1) = true := by decide +kernel
theorem w_tables : (allAtoms (Jvm.Cond.code x code maxLocals ret :: tables_1)).before args0 about1 = true := by
  rw [allAtoms_all]
  show words1.all (fun c => c.before args0 about1) = true
  refine all_split ?_ w_codes
  rw [← List.take_append_drop 24 words1, List.all_append, w_t1, ← List.take_append_drop 24 (words1.drop 24), List.all_append, w_t2, ← List.take_append_drop 24 ((words1.drop 24).drop 24), List.all_append, w_t3, ← List.take_append_drop 24 (((words1.drop 24).drop 24).drop 24), List.all_append, w_t4, ← List.take_append_drop 24 ((((words1.drop 24).drop 24).drop 24).drop 24), List.all_append, w_t5, w_t6]
  rfl
set_option maxRecDepth 65536 in
theorem w_rest : rest_1_c.before args0 about1 = true := by decide +kernel
set_option maxRecDepth 65536 in
theorem w_case : (Jvm.Cond.and given_1 narrow_1).before args0 about1 = true := by decide +kernel
theorem w_applies : (headSpec (Jvm.Cond.code x code maxLocals ret :: tables_1) room_1).applies x e0.platform about1 = true :=
  (Spec.applies_iff w_frames).mpr ⟨w_running, w_runnable, w_alone, w_named, w_hears, w_ripe, w_room, w_tables⟩
theorem atStart : AtStart classFile x code maxLocals ret World_1 tables_1 room_1 Calls_1 rest_1 Pre_1 launch0 p0 e0 about1 theMethod args0 below0 :=
  ⟨lists_1, trivial, launch0.admits_env _ _ _, launch0.least_env, fairChoices_fair.cas, fairChoices_fair.clock, w_frames, w_args, w_heap, w_applies, trivial, w_rest, w_case⟩
end start1
theorem witness_1 : WitnessClaimed_1 := ⟨start1.p0, start1.e0, start1.about1, start1.theMethod, start1.args0, start1.below0, start1.atStart⟩
end Jvm.Pilot.@@N@@
