import JvmDerived
import JvmDerived.Pilot.@@N@@Statement
import JvmDerived.Pilot.@@N@@Code
set_option linter.unusedVariables false
set_option linter.unusedSimpArgs false
namespace Jvm.OwnKit
open Sem ClassFile Op Lib Jvm.Stand Jvm.Free Jvm.LawKit Jvm.RoadKit
section Core
variable {p : Program} {l : Launch} {e : Env} {R : Room} {s : State} {m : MethodId} {args : Array Value} {below : List Frame} {meth : Method} {c : Code} {T T' : State} {locs : List Loc} {cells slots : Nat} {Z : State} {a0 : Array Value} {h : Heap}
  {Q Q' : Option Value → Heap → List Loc → Prop} {kc ks : Nat} {F : Outcome → State → Prop}
/-- from the frame f over T the body comes to its end, and F holds there -/
def GoG (p : Program) (e : Env) (below : List Frame) (F : Outcome → State → Prop) (T : State) (f : JFrame) : Prop :=
  ∃ t o, Steps p.tables e below (T.setTop f) t ∧ t.status = .running ∧ Ended t below o ∧ F o t
/-- .. Q holds there, and the frame is kept -/
def Fin (s : State) (Q : Option Value → Heap → List Loc → Prop) (kc ks : Nat) : Outcome → State → Prop := fun o t => ∃ v L, o = .returned v ∧ Q v t.heap L ∧ FrameEnd s o t L kc ks
abbrev Go (p : Program) (e : Env) (below : List Frame) (s : State) (Q : Option Value → Heap → List Loc → Prop) (kc ks : Nat) (T : State) (f : JFrame) : Prop := GoG p e below (Fin s Q kc ks) T f
theorem Go.back {f f' : JFrame} (st : ∀ t, Steps p.tables e below (T'.setTop f') t → Steps p.tables e below (T.setTop f) t) (k : GoG p e below F T' f') : GoG p e below F T f := by
  obtain ⟨t, o, h1, h2⟩ := k; exact ⟨t, o, st _ h1, h2⟩
theorem Go.cast {f f' : JFrame} (q : f = f') (k : GoG p e below F T f') : GoG p e below F T f := q ▸ k
theorem Go.imp {f : JFrame} (q : ∀ v h L, Q' v h L → Q v h L) (k : Go p e below s Q' kc ks T f) : Go p e below s Q kc ks T f := by
  obtain ⟨t, o, h1, h2, h3, v, L, h4, h5, h6⟩ := k; exact ⟨t, o, h1, h2, h3, v, L, h4, q _ _ _ h5, h6⟩
theorem Go.done (X : Stand p l e R s m args below meth c T locs cells slots) {v : Option Value} {f0 : JFrame} (hv : meth.sig.returnType = none → v = none) (hlk : meth.locks = false)
    (st : ∀ fs, (∀ (f : JFrame) (acts : List Action), f.method = m → f.locked = none → f.entered = [] → (doReturn e (T.setTop f) acts v).1 = T.setFrames fs) → Steps p.tables e below (T.setTop f0) (T.setFrames fs))
    (hQ : Q v T.heap locs) (hc : cells ≤ kc) (hs : slots ≤ ks) : Go p e below s Q kc ks T f0 := by
  obtain ⟨fs, hr, hrun, hended, hW, hsame⟩ := X.leave (v := v) hv hlk
  exact ⟨_, _, st fs hr, hrun, hended, v, locs, rfl, hQ, ⟨_, rfl⟩, hW, hsame.mono hc hs⟩
theorem Go.retI (X : Stand p l e R s m args below meth c T locs cells slots) (hx : p.tables.exec = Jvm.exec) {pc : Nat} {Ls : Array Slot} {z : Int32} {rest : List Value} (hret : meth.sig.returnType = some .int) (hlk : meth.locks = false) (hd : decode c.code pc = .ok (.ireturn, 1))
    (hQ : Q (some (.int z)) T.heap locs) (hc : cells ≤ kc) (hs : slots ≤ ks) : Go p e below s Q kc ks T (mkF m pc Ls (.int z :: rest)) :=
  Go.done X (fun q => by rw [hret] at q; cases q) hlk (fun _ hl => retOut X hx hret rfl (Or.inl ⟨rfl, Or.inl rfl, z, rfl⟩) hd hl) hQ hc hs
theorem Go.retJ (X : Stand p l e R s m args below meth c T locs cells slots) (hx : p.tables.exec = Jvm.exec) {pc : Nat} {Ls : Array Slot} {z : Int64} {rest : List Value} (hret : meth.sig.returnType = some .long) (hlk : meth.locks = false) (hd : decode c.code pc = .ok (.lreturn, 1))
    (hQ : Q (some (.long z)) T.heap locs) (hc : cells ≤ kc) (hs : slots ≤ ks) : Go p e below s Q kc ks T (mkF m pc Ls (.long z :: rest)) :=
  Go.done X (fun q => by rw [hret] at q; cases q) hlk (fun _ hl => retOut X hx hret rfl (Or.inr (Or.inl ⟨rfl, rfl, z, rfl⟩)) hd hl) hQ hc hs
theorem narrow_ref {t : FieldType} {w : Value} (hw : w.isRef = true) : narrow t w = w := by
  cases w <;> simp [Value.isRef] at hw <;> cases t <;> rfl
theorem Go.retA (X : Stand p l e R s m args below meth c T locs cells slots) (hx : p.tables.exec = Jvm.exec) {pc : Nat} {Ls : Array Slot} {w : Value} {t : FieldType} {rest : List Value} (hret : meth.sig.returnType = some t) (hlk : meth.locks = false) (hd : decode c.code pc = .ok (.areturn, 1)) (ht : t.isReference = true) (hw : w.isRef = true)
    (hQ : Q (some w) T.heap locs) (hc : cells ≤ kc) (hs : slots ≤ ks) : Go p e below s Q kc ks T (mkF m pc Ls (w :: rest)) :=
  Go.done X (fun q => by rw [hret] at q; cases q) hlk (fun _ hl => retOut X hx hret (narrow_ref hw) (Or.inr (Or.inr (Or.inr (Or.inr ⟨rfl, ht, hw⟩)))) hd hl) hQ hc hs
theorem Go.ret0 (X : Stand p l e R s m args below meth c T locs cells slots) (hx : p.tables.exec = Jvm.exec) {pc : Nat} {Ls : Array Slot} (hret : meth.sig.returnType = none) (hlk : meth.locks = false) (hd : decode c.code pc = .ok (.return_, 1))
    (hQ : Q none T.heap locs) (hc : cells ≤ kc) (hs : slots ≤ ks) : Go p e below s Q kc ks T (mkF m pc Ls []) :=
  Go.done X (fun _ => rfl) hlk (fun _ hl => X.returnOut hx hret hd hl) hQ hc hs
theorem Go.retN (X : Stand p l e R s m args below meth c T locs cells slots) (hx : p.tables.exec = Jvm.exec) {pc : Nat} {Ls : Array Slot} {z w : Int32} {t : FieldType} {rest : List Value} (hret : meth.sig.returnType = some t) (ht : t = .boolean ∨ t = .byte ∨ t = .char ∨ t = .short) (hw : nar t z = w) (hlk : meth.locks = false) (hd : decode c.code pc = .ok (.ireturn, 1))
    (hQ : Q (some (.int w)) T.heap locs) (hc : cells ≤ kc) (hs : slots ≤ ks) : Go p e below s Q kc ks T (mkF m pc Ls (.int z :: rest)) :=
  Go.done X (fun q => by rw [hret] at q; cases q) hlk (fun _ hl => Jvm.RoadKit.retN X hx hret ht hd (by rw [hw]; exact hl)) hQ hc hs
theorem nar_bool {z : Int32} (hz : z = 0 ∨ z = 1) : nar .boolean z = z := by rcases hz with rfl | rfl <;> rfl
/-- a body's contract, said of one heap and one array of arguments -/
def Met (l : Launch) (Z : State) (y : MethodName) (bytes : ByteArray) (maxL : Nat) (ret : Option FieldType) (rm : Room) (as' : Array Value) (h : Heap) (Q : Option Value → Heap → List Loc → Prop) : Prop :=
  ∀ ws : List Jvm.Cond, MetFree l y (head1 (Jvm.Cond.code y bytes maxL ret :: ws) rm) (fun a U => a = as' ∧ Z.Warmed39 U.vm ∧ U.heap = h) (fun _ _ _ _ _ => True) (fun _ U o U' => ∃ v L, o = .returned v ∧ Q v U'.heap L ∧ FrameEnd U o U' L rm.cells rm.slots)
variable {y z : MethodName} {bytes : ByteArray} {maxL : Nat} {ret : Option FieldType} {rm : Room} {as' : Array Value}
theorem Met.intro (hp : plainFor y = true) (body : ∀ (p : Program) (e : Env) (s : State) (m : MethodId) (below : List Frame) (meth : Method) (c : Code) (T : State),
      p.tables.exec = Jvm.exec → c.code = bytes → c.maxLocals = maxL → s.vm.findClass y.cls = some m.cls → meth.name = y.name → meth.sig.returnType = ret → meth.locks = false → Z.Warmed39 s.vm →
      Stand p l e rm s m as' below meth c T [] 0 0 → T.heap = h → Go p e below s Q rm.cells rm.slots T (entryFrame m as' maxL)) : Met l Z y bytes maxL ret rm as' h Q := by
  intro ws
  refine MetFree.of_bodySF hp hisR ?_
  intro p e s m args below meth c s₁ Bd hml0 hP hK
  obtain ⟨rfl, hZ, hh⟩ := hP
  exact body p e s m below meth c s₁ Bd.exec Bd.bytes hml0 (findClass_of_methodNamed Bd.named) (name_of_methodNamed Bd.named Bd.method).1 Bd.returns Bd.notSynchronized hZ (Stand.of_body Bd) (by rw [← hh, Bd.state]; rfl)
theorem Met.imp (q : ∀ v h L, Q' v h L → Q v h L) (k : Met l Z y bytes maxL ret rm as' h Q') : Met l Z y bytes maxL ret rm as' h Q := fun ws p e ha hc hk s m args below hf happ hP hK => by
  obtain ⟨n, o, h1, h2, h3, v, L, h4, h5, h6⟩ := k ws p e ha hc hk s m args below hf happ hP hK
  exact ⟨n, o, h1, h2, h3, v, L, h4, q _ _ _ h5, h6⟩
theorem Go.callS (X : Stand p l e R s m args below meth c T locs cells slots) (hx : p.tables.exec = Jvm.exec) (hZ : Z.Warmed39 s.vm) {own : String} {index : Nat} (hown : s.vm.findClass own = some m.cls)
    (w1 : (Jvm.Cond.methodLink own index y).before a0 Z = true) (w2 : (Jvm.Cond.static y).before a0 Z = true) (w3 : (Jvm.Cond.initialized y.cls).before a0 Z = true) (w4 : (Jvm.Cond.code y bytes maxL ret).before a0 Z = true)
    (hy : y.cls ≠ "java/lang/invoke/MethodHandle" ∧ y.cls ≠ "java/lang/invoke/VarHandle") (eT : T.heap = h) {argsL rest st : List Value} (hM : Met l Z y bytes maxL ret rm argsL.toArray h Q')
    (hlen : ∀ sig, parseMethodDescriptor y.desc = some sig → argsL.length = sig.parameters.length) {pc : Nat} {Ls : Array Slot} (hst : st = argsL.reverse ++ rest) (hsz : Ls.size = c.maxLocals) {W : Nat} (hW : 2 * 0 + (rest.map fun v => v.category).sum ≤ W)
    (hd : decode c.code pc = .ok (.invokestatic index, 3)) (hf : rm.frames + 1 ≤ R.frames) (hl : W + (maxL + 11) + rm.locals ≤ R.locals) (hc : cells + rm.cells ≤ R.cells) (hs : slots + rm.slots ≤ R.slots)
    (k : ∀ v T' L, Stand p l e R s m args below meth c T' (locs ++ L) (cells + rm.cells) (slots + rm.slots) → Q' v T'.heap L → GoG p e below F T' (mkF m (pc + 3) Ls (v.toList ++ rest))) :
    GoG p e below F T (mkF m pc Ls st) := by
  subst hst
  obtain ⟨v, _, ⟨T1, L1, k1, n1⟩, -, X1, ⟨Lc, hQ, l1, y1, z1⟩, st1⟩ := Jvm.LawKit.callS X hx (y := y) hown (mvT hZ w1) (mvT hZ w2) (mvT hZ w3) (mvT hZ w4) hy (backOf (W := W) (hM []) hZ w4 w3 hf hl) (g := mkF m pc Ls (argsL.reverse ++ rest)) rfl hsz (argsL := argsL) (rest := rest) hlen rfl hW hd (fun _ _ => ⟨rfl, eT, hc, hs⟩)
  dsimp only [Pt.U, Pt.locs, Pt.cells, Pt.slots] at X1 l1 y1 z1 st1 hQ
  subst l1 y1 z1
  exact Go.back st1 (k v T1 Lc X1 hQ)
theorem Go.callI (X : Stand p l e R s m args below meth c T locs cells slots) (hx : p.tables.exec = Jvm.exec) (hZ : Z.Warmed39 s.vm) {own : String} {index : Nat} (hy1 : y.name = "<init>") (hown : s.vm.findClass own = some m.cls)
    (w1 : (Jvm.Cond.methodLink own index y).before a0 Z = true) (w2 : (Jvm.Cond.instanceMethod y).before a0 Z = true) (w3 : (Jvm.Cond.initialized y.cls).before a0 Z = true) (w4 : (Jvm.Cond.code y bytes maxL none).before a0 Z = true)
    (hy : y.cls ≠ "java/lang/invoke/MethodHandle" ∧ y.cls ≠ "java/lang/invoke/VarHandle") (eT : T.heap = h) {a : Addr} {argsL rest st : List Value} (hM : Met l Z y bytes maxL none rm (.ref a :: argsL).toArray h Q')
    (hlen : ∀ sig, parseMethodDescriptor y.desc = some sig → argsL.length = sig.parameters.length) {pc : Nat} {Ls : Array Slot} (hst : st = argsL.reverse ++ .ref a :: rest) (hsz : Ls.size = c.maxLocals) {W : Nat} (hW : 2 * 0 + (rest.map fun v => v.category).sum ≤ W)
    (hd : decode c.code pc = .ok (.invokespecial index, 3)) (hf : rm.frames + 1 ≤ R.frames) (hl : W + (maxL + 11) + rm.locals ≤ R.locals) (hc : cells + rm.cells ≤ R.cells) (hs : slots + rm.slots ≤ R.slots)
    (k : ∀ v T' L, Stand p l e R s m args below meth c T' (locs ++ L) (cells + rm.cells) (slots + rm.slots) → Q' v T'.heap L → GoG p e below F T' (mkF m (pc + 3) Ls (v.toList ++ rest))) :
    GoG p e below F T (mkF m pc Ls st) := by
  subst hst
  obtain ⟨v, _, ⟨T1, L1, k1, n1⟩, -, X1, ⟨Lc, hQ, l1, y1, z1⟩, st1⟩ := X.specialBack hx (y := y) hy1 hown (mvT hZ w1) (mvT hZ w2) (mvT hZ w4) hy (backOf (W := W) (hM []) hZ w4 w3 hf hl) (g := mkF m pc Ls (argsL.reverse ++ .ref a :: rest)) rfl hsz (Steps.refl _) (a := a) (argsL := argsL) (rest := rest) hlen rfl hW hd (fun _ _ => ⟨rfl, eT, hc, hs⟩)
  dsimp only [Pt.U, Pt.locs, Pt.cells, Pt.slots] at X1 l1 y1 z1 st1 hQ
  subst l1 y1 z1
  exact Go.back (fun _ q => st1.trans q) (k v T1 Lc X1 hQ)
theorem Go.callV (X : Stand p l e R s m args below meth c T locs cells slots) (hx : p.tables.exec = Jvm.exec) (hZ : Z.Warmed39 s.vm) {own C : String} {index : Nat} (hown : s.vm.findClass own = some m.cls)
    (w1 : (Jvm.Cond.methodLink own index y).before a0 Z = true) (w2 : (Jvm.Cond.declares y).before a0 Z = true) (w3 : (Jvm.Cond.selects C y y).before a0 Z = true) (w4 : (Jvm.Cond.instanceMethod y).before a0 Z = true)
    (w5 : (Jvm.Cond.initialized y.cls).before a0 Z = true) (w6 : (Jvm.Cond.code y bytes maxL ret).before a0 Z = true)
    (hy : y.cls ≠ "java/lang/invoke/MethodHandle" ∧ y.cls ≠ "java/lang/invoke/VarHandle") (eT : T.heap = h) {a : Addr} (E : Exa Z h a C) {argsL rest st : List Value} (hM : Met l Z y bytes maxL ret rm (.ref a :: argsL).toArray h Q')
    (hlen : ∀ sig, parseMethodDescriptor y.desc = some sig → argsL.length = sig.parameters.length) {pc : Nat} {Ls : Array Slot} (hst : st = argsL.reverse ++ .ref a :: rest) (hsz : Ls.size = c.maxLocals) {W : Nat} (hW : 2 * 0 + (rest.map fun v => v.category).sum ≤ W)
    (hd : decode c.code pc = .ok (.invokevirtual index, 3)) (hf : rm.frames + 1 ≤ R.frames) (hl : W + (maxL + 11) + rm.locals ≤ R.locals) (hc : cells + rm.cells ≤ R.cells) (hs : slots + rm.slots ≤ R.slots)
    (k : ∀ v T' L, Stand p l e R s m args below meth c T' (locs ++ L) (cells + rm.cells) (slots + rm.slots) → Q' v T'.heap L → GoG p e below F T' (mkF m (pc + 3) Ls (v.toList ++ rest))) :
    GoG p e below F T (mkF m pc Ls st) := by
  subst hst
  obtain ⟨cq, kq, qa, qb, qc⟩ := isOf hZ eT E
  obtain ⟨v, _, ⟨T1, L1, k1, n1⟩, -, X1, ⟨Lc, hQ, l1, y1, z1⟩, st1⟩ := X.virtualBack hx (y := y) (z := y) hown (mvT hZ w1) (mvT hZ w2) (notFace_of_selects (args := #[]) (mvT hZ w3)) (mvT hZ w3) (mvT hZ w4) hy (backOf (W := W) (hM []) hZ w6 w5 hf hl) qa qc (g := mkF m pc Ls (argsL.reverse ++ .ref a :: rest)) rfl hsz (Steps.refl _) (argsL := argsL) (rest := rest) hlen rfl hW hd (fun _ _ => ⟨rfl, eT, hc, hs⟩)
  dsimp only [Pt.U, Pt.locs, Pt.cells, Pt.slots] at X1 l1 y1 z1 st1 hQ
  subst l1 y1 z1
  exact Go.back (fun _ q => st1.trans q) (k v T1 Lc X1 hQ)
end Core
section Cmp
theorem l_lt_t {x y : Int64} (h : x < y) : ifCond.holds .lt (lcmpW x y) = true := (if0 _ _).trans (tlt ((lw_lt x y).mpr h)).1
theorem l_lt_f {x y : Int64} (h : ¬ x < y) : ifCond.holds .lt (lcmpW x y) = false := (if0 _ _).trans (flt (fun q => h ((lw_lt x y).mp q))).1
theorem l_ge_t {x y : Int64} (h : ¬ x < y) : ifCond.holds .ge (lcmpW x y) = true := (if0 _ _).trans (flt (fun q => h ((lw_lt x y).mp q))).2.1
theorem l_ge_f {x y : Int64} (h : x < y) : ifCond.holds .ge (lcmpW x y) = false := (if0 _ _).trans (tlt ((lw_lt x y).mpr h)).2.1
theorem l_gt_t {x y : Int64} (h : y < x) : ifCond.holds .gt (lcmpW x y) = true := (if0 _ _).trans (tlt ((lw_gt x y).mpr h)).2.2.1
theorem l_gt_f {x y : Int64} (h : ¬ y < x) : ifCond.holds .gt (lcmpW x y) = false := (if0 _ _).trans (flt (fun q => h ((lw_gt x y).mp q))).2.2.1
theorem l_le_t {x y : Int64} (h : ¬ y < x) : ifCond.holds .le (lcmpW x y) = true := (if0 _ _).trans (flt (fun q => h ((lw_gt x y).mp q))).2.2.2
theorem l_le_f {x y : Int64} (h : y < x) : ifCond.holds .le (lcmpW x y) = false := (if0 _ _).trans (tlt ((lw_gt x y).mpr h)).2.2.2
theorem l_eq_t {x y : Int64} (h : x = y) : ifCond.holds .eq (lcmpW x y) = true := (if0 _ _).trans (teq ((lw_eq x y).mpr h)).1
theorem l_eq_f {x y : Int64} (h : ¬ x = y) : ifCond.holds .eq (lcmpW x y) = false := (if0 _ _).trans (feq (fun q => h ((lw_eq x y).mp q))).1
theorem l_ne_t {x y : Int64} (h : ¬ x = y) : ifCond.holds .ne (lcmpW x y) = true := (if0 _ _).trans (feq (fun q => h ((lw_eq x y).mp q))).2
theorem l_ne_f {x y : Int64} (h : x = y) : ifCond.holds .ne (lcmpW x y) = false := (if0 _ _).trans (teq ((lw_eq x y).mpr h)).2
end Cmp
end Jvm.OwnKit
namespace Jvm.OwnKit
open Sem ClassFile Op Lib Jvm.Stand Jvm.Free Jvm.LawKit Jvm.RoadKit
section Arrays
variable {p : Program} {l : Launch} {e : Env} {R : Room} {s : State} {m : MethodId} {args : Array Value} {below : List Frame} {meth : Method} {c : Code} {T T' : State} {locs : List Loc} {cells slots : Nat} {Z : State} {a0 : Array Value} {h h' : Heap}
  {F : Outcome → State → Prop} {a b : Addr} {ty : FieldType} {vs vd : List Value} {j x : Int32} {i : Nat} {v : Value} {pc : Nat} {Ls : Array Slot} {rest : List Value}
/-- an array, all of its components told -/
def VArr (Z : State) (h : Heap) (a : Addr) (ty : FieldType) (vs : List Value) : Prop := vs.length < 2147483648 ∧ ∃ k, Arv Z h a k ty vs.length.toInt32 vs (defaultValue ty)
theorem n32 {n : Nat} (q : n < 2147483648) : n.toInt32.toInt = n := len_toInt q
theorem n32c {n : Nat} (q : n < 2147483648) : n.toInt32.toNatClampNeg = n := by simp only [Int32.toNatClampNeg, n32 q]; rfl
theorem idx0 (hi : j.toInt = i) : ¬ j < 0 := by rw [Int32.lt_iff_toInt_lt, hi]; show ¬ (i : Int) < 0; omega
theorem idxN (hi : j.toInt = i) : j.toNatClampNeg = i := by simp only [Int32.toNatClampNeg, hi]; rfl
theorem VArr.lt (A : VArr Z h a ty vs) : a < h.size := by obtain ⟨-, k, A⟩ := A; exact A.lt
theorem VArr.len (A : VArr Z h a ty vs) : vs.length < 2147483648 := A.1
theorem VArr.ext (A : VArr Z h a ty vs) (E : Ext h h') : VArr Z h' a ty vs := by obtain ⟨q, k, A⟩ := A; exact ⟨q, k, A.ext E⟩
theorem VArr.other {sl : Nat} (A : VArr Z h b ty vs) (W : Wr h h' a sl v) (q : b ≠ a) : VArr Z h' b ty vs := by obtain ⟨r, k, A⟩ := A; exact ⟨r, k, A.other W q⟩
theorem VArr.keep {ws : List Addr} (A : VArr Z h a ty vs) (K : Keep h h' ws) (q : a ∉ ws) : VArr Z h' a ty vs := by obtain ⟨r, k, A⟩ := A; exact ⟨r, k, A.keep K q⟩
theorem VArr.to (A : VArr Z h a ty vs) (e : vs = vd) : VArr Z h a ty vd := e ▸ A
theorem VArr.cell (A : VArr Z h a ty vs) : ∃ cl, Arr Z h a cl ty ∧ cl.slots.size = vs.length ∧ Has cl vs (defaultValue ty) := by
  obtain ⟨q, k, cl, A, -, S, N, H, -⟩ := A
  exact ⟨cl, A, by rw [S, n32c q], H⟩
theorem VArr.at (A : VArr Z h a ty vs) (hi : j.toInt = i) (hv : vs[i]? = some v) : ∃ cl, Arr Z h a cl ty ∧ ¬ (j < 0 ∨ cl.slots.size ≤ j.toNatClampNeg) ∧ cl.slots[j.toNatClampNeg]? = some v := by
  obtain ⟨cl, A, S, H⟩ := A.cell
  obtain ⟨hl, e⟩ := List.getElem?_eq_some_iff.mp hv
  refine ⟨cl, A, fun q => ?_, ?_⟩
  · rw [idxN hi, S] at q; exact q.elim (idx0 hi) (by omega)
  · rw [idxN hi, H i (by omega), List.getD_eq_getElem?_getD, hv]; rfl
theorem VArr.exa_ne {C : String} {kk : Nat} (A : VArr Z h a ty vs) (E : Exa Z h b C) (wi : (Jvm.Cond.instantiable C kk).before a0 Z = true) : b ≠ a := by
  obtain ⟨cl, A, -, -⟩ := A.cell; exact ne_arr E wi A
theorem VArr.lenS (A : VArr Z h a ty vs) (X : Stand p l e R s m args below meth c T locs cells slots) (hx : p.tables.exec = Jvm.exec) (hZ : Z.Warmed39 s.vm) (eT : T.heap = h) (hd : decode c.code pc = .ok (.arraylength, 1)) :
    ∀ t, Steps p.tables e below (T.setTop (mkF m (pc + 1) Ls (.int vs.length.toInt32 :: rest))) t → Steps p.tables e below (T.setTop (mkF m pc Ls (.ref a :: rest))) t := by
  obtain ⟨cl, Ar, S, -⟩ := A.cell
  intro t k
  refine X.arraylength hx (by rw [eT]; exact Ar.1) (State.isArrayOf_alike hZ.alike Ar.2.1) (g := mkF m pc Ls (.ref a :: rest)) rfl rfl hd _ ?_
  rw [S]; exact k
theorem VArr.ldI (A : VArr Z h a .int vs) (X : Stand p l e R s m args below meth c T locs cells slots) (hx : p.tables.exec = Jvm.exec) (hZ : Z.Warmed39 s.vm) (eT : T.heap = h) (hd : decode c.code pc = .ok (.iaload, 1)) (hi : j.toInt = i) (hv : vs[i]? = some v) :
    ∀ t, Steps p.tables e below (T.setTop (mkF m (pc + 1) Ls (v :: rest))) t → Steps p.tables e below (T.setTop (mkF m pc Ls (.int j :: .ref a :: rest))) t := by
  obtain ⟨cl, Ar, q, r⟩ := A.at hi hv
  exact fun t k => X.iaload hx (j := j) (v := v) (by rw [eT]; exact Ar.1) (State.isArrayOf_alike hZ.alike Ar.2.1) Ar.2.2 q r (g := mkF m pc Ls (.int j :: .ref a :: rest)) rfl rfl hd _ k
theorem VArr.ldJ (A : VArr Z h a .long vs) (X : Stand p l e R s m args below meth c T locs cells slots) (hx : p.tables.exec = Jvm.exec) (hZ : Z.Warmed39 s.vm) (eT : T.heap = h) (hd : decode c.code pc = .ok (.laload, 1)) (hi : j.toInt = i) (hv : vs[i]? = some v) :
    ∀ t, Steps p.tables e below (T.setTop (mkF m (pc + 1) Ls (v :: rest))) t → Steps p.tables e below (T.setTop (mkF m pc Ls (.int j :: .ref a :: rest))) t := by
  obtain ⟨cl, Ar, q, r⟩ := A.at hi hv
  exact fun t k => X.laload hx (j := j) (v := v) (by rw [eT]; exact Ar.1) (State.isArrayOf_alike hZ.alike Ar.2.1) Ar.2.2 q r (g := mkF m pc Ls (.int j :: .ref a :: rest)) rfl rfl hd _ k
theorem VArr.ldB (A : VArr Z h a .byte vs) (X : Stand p l e R s m args below meth c T locs cells slots) (hx : p.tables.exec = Jvm.exec) (hZ : Z.Warmed39 s.vm) (eT : T.heap = h) (hd : decode c.code pc = .ok (.baload, 1)) (hi : j.toInt = i) (hv : vs[i]? = some v) :
    ∀ t, Steps p.tables e below (T.setTop (mkF m (pc + 1) Ls (v :: rest))) t → Steps p.tables e below (T.setTop (mkF m pc Ls (.int j :: .ref a :: rest))) t := by
  obtain ⟨cl, Ar, q, r⟩ := A.at hi hv
  exact fun t k => X.baloadBytes hx (j := j) (v := v) (by rw [eT]; exact Ar.1) (State.isArrayOf_alike hZ.alike Ar.2.1) Ar.2.2 q r (g := mkF m pc Ls (.int j :: .ref a :: rest)) rfl rfl hd _ k
theorem VArr.fit (A : VArr Z h a ty vs) (hv : vs[i]? = some v) : fits ty v = true := by
  obtain ⟨q, k, cl, A, -, S, N, H, G⟩ := A
  obtain ⟨hl, e⟩ := List.getElem?_eq_some_iff.mp hv
  have := G i (by rw [S, n32c q]; exact hl)
  rw [List.getD_eq_getElem?_getD, hv] at this; exact this
theorem VArr.set (A : VArr Z h a ty vs) (hv : fits ty v = true) (W : Wr h h' a i v) (hl : i < vs.length) : VArr Z h' a ty (vs.set i v) := by
  obtain ⟨q, k, cl, A, q1, S, N, H, G⟩ := A
  have q' : (vs.set i v).length < 2147483648 := by rw [List.length_set]; exact q
  refine ⟨q', k, ?_⟩
  rw [List.length_set]
  exact Arv.set (j := i.toInt32) A q1 S N H G hv (by rw [n32c (by omega)]; exact W) i (n32c (by omega)) hl
theorem VArr.in_ (A : VArr Z h a ty vs) (hi : j.toInt = i) (hl : i < vs.length) : ∃ cl, Arr Z h a cl ty ∧ ¬ (j < 0 ∨ cl.slots.size ≤ j.toNatClampNeg) := by
  obtain ⟨cl, A, S, H⟩ := A.cell
  refine ⟨cl, A, fun q => ?_⟩
  rw [idxN hi, S] at q; exact q.elim (idx0 hi) (by omega)
theorem Go.stI (A : VArr Z h a .int vs) (X : Stand p l e R s m args below meth c T locs cells slots) (hx : p.tables.exec = Jvm.exec) (hZ : Z.Warmed39 s.vm) (eT : T.heap = h) (hd : decode c.code pc = .ok (.iastore, 1)) (hi : j.toInt = i) (hl : i < vs.length)
    (k : ∀ T' h', Stand p l e R s m args below meth c T' (locs ++ [⟨a, i⟩]) cells slots → T'.heap = h' → Wr h h' a i (.int x) → VArr Z h' a .int (vs.set i (.int x)) → GoG p e below F T' (mkF m (pc + 1) Ls rest)) :
    GoG p e below F T (mkF m pc Ls (.int x :: .int j :: .ref a :: rest)) := by
  obtain ⟨cl, Ar, q⟩ := A.in_ hi hl
  obtain ⟨T', h', X', e', W, st⟩ := Jvm.RoadKit.stI X hx hZ eT Ar (j := j) (x := x) q (g := mkF m pc Ls (.int x :: .int j :: .ref a :: rest)) rfl rfl hd
  rw [idxN hi] at X' W
  exact Go.back st (k T' h' X' e' W (A.set rfl W hl))
theorem Go.stJ {x : Int64} (A : VArr Z h a .long vs) (X : Stand p l e R s m args below meth c T locs cells slots) (hx : p.tables.exec = Jvm.exec) (hZ : Z.Warmed39 s.vm) (eT : T.heap = h) (hd : decode c.code pc = .ok (.lastore, 1)) (hi : j.toInt = i) (hl : i < vs.length)
    (k : ∀ T' h', Stand p l e R s m args below meth c T' (locs ++ [⟨a, i⟩]) cells slots → T'.heap = h' → Wr h h' a i (.long x) → VArr Z h' a .long (vs.set i (.long x)) → GoG p e below F T' (mkF m (pc + 1) Ls rest)) :
    GoG p e below F T (mkF m pc Ls (.long x :: .int j :: .ref a :: rest)) := by
  obtain ⟨cl, Ar, q⟩ := A.in_ hi hl
  obtain ⟨T', h', X', e', W, st⟩ := Jvm.RoadKit.stJ X hx hZ eT Ar (j := j) (x := x) q (g := mkF m pc Ls (.long x :: .int j :: .ref a :: rest)) rfl rfl hd
  rw [idxN hi] at X' W
  exact Go.back st (k T' h' X' e' W (A.set rfl W hl))
theorem Go.stB (A : VArr Z h a .byte vs) (X : Stand p l e R s m args below meth c T locs cells slots) (hx : p.tables.exec = Jvm.exec) (hZ : Z.Warmed39 s.vm) (eT : T.heap = h) (hd : decode c.code pc = .ok (.bastore, 1)) (hi : j.toInt = i) (hl : i < vs.length)
    (k : ∀ T' h', Stand p l e R s m args below meth c T' (locs ++ [⟨a, i⟩]) cells slots → T'.heap = h' → Wr h h' a i (.int (nar .byte x)) → VArr Z h' a .byte (vs.set i (.int (nar .byte x))) → GoG p e below F T' (mkF m (pc + 1) Ls rest)) :
    GoG p e below F T (mkF m pc Ls (.int x :: .int j :: .ref a :: rest)) := by
  obtain ⟨cl, Ar, q⟩ := A.in_ hi hl
  obtain ⟨T', h', X', e', W, st⟩ := Jvm.RoadKit.stB X hx hZ eT Ar (j := j) (x := x) q (g := mkF m pc Ls (.int x :: .int j :: .ref a :: rest)) rfl rfl hd
  rw [idxN hi] at X' W
  exact Go.back st (k T' h' X' e' W (A.set (fits_nar_byte x) W hl))
theorem VArr.new {k : ClassId} {n : Int32} (A : Arr Z h a (newA k ty n) ty) (hi : n.toInt = i) : VArr Z h a ty (List.replicate i (defaultValue ty)) := by
  have hl : i < 2147483648 := by have := n.toInt_lt; omega
  have e : i.toInt32 = n := Int32.toInt_inj.mp (by rw [n32 hl, hi])
  refine ⟨by simpa using hl, k, ?_⟩
  rw [List.length_replicate, e]
  exact (Arv.new A (idx0 hi)).pad fun q => by have := pad_rep [] (defaultValue ty) i q; simpa using this
theorem Go.newA {aty : ArrayType} {n : Int32} {cap : Nat} (X : Stand p l e R s m args below meth c T locs cells slots) (hx : p.tables.exec = Jvm.exec) (hZ : Z.Warmed39 s.vm) (w : (Jvm.Cond.arrayClass (newarray.typeOf aty)).before a0 Z = true) (eT : T.heap = h) (hd : decode c.code pc = .ok (.newarray aty, 2))
    (hi : n.toInt = i) (hcap : i ≤ cap) (hb : cap * 8 ≤ 536870912) (hc : cells + 1 ≤ R.cells) (hl : slots + cap ≤ R.slots)
    (k : ∀ T' h' a, a = h.size → Stand p l e R s m args below meth c T' locs (cells + 1) (slots + cap) → T'.heap = h' → Ext h h' → VArr Z h' a (newarray.typeOf aty) (List.replicate i (defaultValue (newarray.typeOf aty))) → GoG p e below F T' (mkF m (pc + 2) Ls (.ref a :: rest))) :
    GoG p e below F T (mkF m pc Ls (.int n :: rest)) := by
  obtain ⟨T', h', cA, X', e', E, A, st⟩ := newP X hx hZ w eT (g := mkF m pc Ls (.int n :: rest)) rfl hd rfl (idx0 hi) (cap := cap) (by rw [idxN hi]; exact hcap) hb hc hl
  exact Go.back st (k T' h' _ rfl X' e' E (VArr.new A hi))
theorem Go.newAE {aty : ArrayType} {n : Int32} {cap : Nat} {ad : String} (had : "[" ++ (newarray.typeOf aty).toString = ad) (X : Stand p l e R s m args below meth c T locs cells slots) (hx : p.tables.exec = Jvm.exec) (hZ : Z.Warmed39 s.vm) (w : (Jvm.Cond.arrayClass (newarray.typeOf aty)).before a0 Z = true) (eT : T.heap = h) (hd : decode c.code pc = .ok (.newarray aty, 2))
    (hi : n.toInt = i) (hcap : i ≤ cap) (hb : cap * 8 ≤ 536870912) (hc : cells + 1 ≤ R.cells) (hl : slots + cap ≤ R.slots)
    (k : ∀ T' h' a, a = h.size → Stand p l e R s m args below meth c T' locs (cells + 1) (slots + cap) → T'.heap = h' → Ext h h' → VArr Z h' a (newarray.typeOf aty) (List.replicate i (defaultValue (newarray.typeOf aty))) → Exa Z h' a ad → GoG p e below F T' (mkF m (pc + 2) Ls (.ref a :: rest))) :
    GoG p e below F T (mkF m pc Ls (.int n :: rest)) := by
  obtain ⟨T', h', cA, X', e', E, A, B, st⟩ := newPE X hx hZ w eT (g := mkF m pc Ls (.int n :: rest)) rfl hd rfl (idx0 hi) (cap := cap) (by rw [idxN hi]; exact hcap) hb hc hl had
  exact Go.back st (k T' h' _ rfl X' e' E (VArr.new A hi) B)
theorem stretch (vs : List Value) (dv : Value) (i n : Nat) (q : i + n ≤ vs.length) : (vs.drop i).take n = (List.range n).map fun z => vs.getD (i + z) dv := by
  apply List.ext_getElem
  · simp; omega
  · intro k h1 h2
    simp at h1 h2 ⊢
    rw [List.getElem?_eq_getElem (by omega)]; rfl
theorem Go.cpy {own : String} {index n0 n : Nat} {sp dp nn : Int32} {j' : Nat} (X : Stand p l e R s m args below meth c T locs cells slots) (hx : p.tables.exec = Jvm.exec) (hZ : Z.Warmed39 s.vm) (hown : s.vm.findClass own = some m.cls)
    (w1 : (Jvm.Cond.methodLink own index Jvm.Stand.acN).before a0 Z = true) (w2 : (Jvm.Cond.native Jvm.Stand.acN).before a0 Z = true) (w3 : (Jvm.Cond.static Jvm.Stand.acN).before a0 Z = true) (w4 : (Jvm.Cond.initialized "java/lang/System").before a0 Z = true) (eT : T.heap = h)
    (A : VArr Z h a ty vs) (B : VArr Z h b ty vd) (hty : refKind ty = false) (hi : sp.toInt = i) (hj : dp.toInt = j') (hn : nn.toInt = n) (b1 : i + n ≤ vs.length) (b2 : j' + n ≤ vd.length) (N : Fr n0 locs) (ge : n0 ≤ b)
    (hsz : Ls.size = c.maxLocals) (hd : decode c.code pc = .ok (.invokestatic index, 3)) (hf : 1 ≤ R.frames) {W : Nat} (hW : 2 * 0 + (rest.map fun v => v.category).sum ≤ W) (hlo : W + (nativeFrameWords "java/lang/System" "arraycopy" 5 + 11) ≤ R.locals)
    (k : ∀ T' h' L, Stand p l e R s m args below meth c T' L cells slots → T'.heap = h' → Fr n0 L → Keep h h' [b] → VArr Z h' b ty (vd.take j' ++ (vs.drop i).take n ++ vd.drop (j' + n)) → GoG p e below F T' (mkF m (pc + 3) Ls rest)) :
    GoG p e below F T (mkF m pc Ls (.int nn :: .int dp :: .ref b :: .int sp :: .ref a :: rest)) := by
  obtain ⟨q1, k1, A1⟩ := A
  obtain ⟨q2, k2, B1⟩ := B
  obtain ⟨T', h', L, X', e', N', K, V, st⟩ := cpA X hx hZ hown w1 w2 w3 w4 eT A1 B1 (us := (vs.drop i).take n) (Or.inl ⟨rfl, hty⟩) (sp := sp) (dp := dp) (nn := nn) (idx0 hi) (idx0 hj) (idx0 hn) (by rw [idxN hi, idxN hn, n32c q1]; exact b1) (by rw [idxN hj, idxN hn, n32c q2]; exact b2) (by rw [idxN hi, idxN hn]; exact stretch vs _ i n b1) (by rw [idxN hj, idxN hn]; exact b2) N ge (g := mkF m pc Ls (.int nn :: .int dp :: .ref b :: .int sp :: .ref a :: rest)) rfl hsz rfl hd hf (W := W) hW hlo
  rw [idxN hj, idxN hn] at V
  refine Go.back st (k T' h' L X' e' N' K ?_)
  have el : (vd.take j' ++ (vs.drop i).take n ++ vd.drop (j' + n)).length = vd.length := by simp; omega
  exact ⟨by rw [el]; exact q2, k2, by rw [el]; exact V⟩
end Arrays
end Jvm.OwnKit
namespace Jvm.OwnKit
open Sem ClassFile Op Lib Jvm.Stand Jvm.Free Jvm.LawKit Jvm.RoadKit
theorem VArr.ofArv {Z : State} {h : Heap} {a : Addr} {k : ClassId} {z : Int32} {vs : List Value} (A : Arv Z h a k .byte z vs (.int 0)) (hl : z.toNatClampNeg = vs.length) : VArr Z h a .byte vs := by
  have hz : ¬ z < 0 := by obtain ⟨c, -, -, -, q, -⟩ := A; exact q
  have q := back32 hz
  rw [hl] at q
  exact ⟨q.2, k, by rw [q.1]; exact A⟩
end Jvm.OwnKit
namespace Jvm.OwnKit
open Sem ClassFile Op Lib Jvm.Stand Jvm.Free Jvm.LawKit Jvm.RoadKit
section Change
variable {Z : State} {n0 : Nat} {h0 h h' : Heap} {ws ws' : List Addr} {L L' : List Loc} {a b : Addr} {sl : Nat} {v : Value}
/-- what a walk has changed since h0: cells at ws, and new ones; no place below n0 -/
def Chg (n0 : Nat) (h0 h : Heap) (ws : List Addr) (L : List Loc) : Prop := n0 ≤ h0.size ∧ Keep h0 h ws ∧ Fr n0 L
theorem Chg.refl (q : n0 ≤ h0.size) : Chg n0 h0 h0 ws [] := ⟨q, Keep.refl _ _, Fr.nil _⟩
theorem Chg.keep (C : Chg n0 h0 h ws L) : Keep h0 h ws := C.2.1
theorem Chg.fr (C : Chg n0 h0 h ws L) : Fr n0 L := C.2.2
theorem Chg.size (C : Chg n0 h0 h ws L) : n0 ≤ h.size := Nat.le_trans C.1 C.2.1.1
theorem Chg.grow (C : Chg n0 h0 h ws L) : h0.size ≤ h.size := C.2.1.1
theorem Chg.at (C : Chg n0 h0 h ws L) (q : a = h.size) : h0.size ≤ a := q ▸ C.grow
theorem Chg.ge (C : Chg n0 h0 h ws L) (q : h0.size ≤ a) : n0 ≤ a := Nat.le_trans C.1 q
theorem Chg.ext (C : Chg n0 h0 h ws L) (E : Ext h h') : Chg n0 h0 h' ws L := ⟨C.1, C.2.1.ext E, C.2.2⟩
theorem Chg.wr (C : Chg n0 h0 h ws L) (W : Wr h h' a sl v) (q : a ∈ ws ∨ h0.size ≤ a) (g : n0 ≤ a) : Chg n0 h0 h' ws (L ++ [⟨a, sl⟩]) := ⟨C.1, C.2.1.wr W q, C.2.2.app fun y hy => by cases List.mem_singleton.mp hy; exact g⟩
theorem Chg.wrN (C : Chg n0 h0 h ws L) (W : Wr h h' a sl v) (q : a ∈ ws ∨ h0.size ≤ a) (N : Fr n0 L') : Chg n0 h0 h' ws (L ++ L') := ⟨C.1, C.2.1.wr W q, C.2.2.app N⟩
theorem Chg.call (C : Chg n0 h0 h ws L) (C' : Chg n0 h h' ws' L') (q : ∀ x ∈ ws', x ∈ ws ∨ h0.size ≤ x) : Chg n0 h0 h' ws (L ++ L') := ⟨C.1, C.2.1.trans C'.2.1 q, C.2.2.app C'.2.2⟩
theorem Chg.cpy (C : Chg n0 h0 h ws L) (K : Keep h h' [b]) (N : Fr n0 L') (q : b ∈ ws ∨ h0.size ≤ b) : Chg n0 h0 h' ws L' := ⟨C.1, C.2.1.trans K (allS q all0), N⟩
theorem Chg.pure (C : Chg n0 h0 h ws L) (N : Fr n0 L') (e : h' = h) : Chg n0 h0 h' ws (L ++ L') := by subst e; exact ⟨C.1, C.2.1, C.2.2.app N⟩
theorem Chg.sub (C : Chg n0 h0 h ws L) (q : ∀ x ∈ ws, x ∈ ws') : Chg n0 h0 h ws' L := ⟨C.1, (Keep.refl h0 ws').trans C.2.1 (fun x hx => Or.inl (q x hx)), C.2.2⟩
theorem lt_ne {F : Nat} (q : b = F) (r : a < F) : a ≠ b := Nat.ne_of_lt (q ▸ r)
theorem Chg.base (C : Chg n0 h0 h ws L) : Chg n0 h h ws' L := ⟨C.size, Keep.refl _ _, C.fr⟩
/-- no class's statics lie at x -/
def NS (h : Heap) (x : Addr) : Prop := ∀ cl : Cell, h[x]? = some cl → cl.vm.isStatics = false
theorem own_exaNS {K : String} (E : Exa Z h a K) : NS h a := fun cl q => by obtain ⟨c, k, h1, -, -, h4, -⟩ := E; cases h1.symm.trans q; exact h4
theorem own_ns0 : ∀ x ∈ ([] : List Addr), NS h x := fun _ q => by cases q
theorem own_nsS (q : NS h a) (r : ∀ x ∈ ws, NS h x) : ∀ x ∈ a :: ws, NS h x := fun x hx => by
  rcases List.mem_cons.mp hx with rfl | q'
  · exact q
  · exact r x q'
theorem staKeep {K n d : String} (S : Sta Z h K n d v) (k : Keep h h' ws) (q : ∀ x ∈ ws, NS h x) : Sta Z h' K n d v := by
  obtain ⟨cf, i, kk, f, st, cell, h1, h2, h3, h4, h5, h6, h7⟩ := S
  exact ⟨cf, i, kk, f, st, cell, h1, h2, h3, h4, k.2.1 _ _ h5 (fun hm => by have := q _ hm _ h5; rw [h6] at this; cases this), h6, h7⟩
end Change
end Jvm.OwnKit
namespace Jvm.Pilot.@@N@@
open Jvm Jvm.ClassFile Sem Op Lib Jvm.Free Jvm.Stand Jvm.LawKit Jvm.RoadKit Bundle Jvm.OwnKit Jvm.Pilot.@@N@@.Jvm.D
theorem d1_0 : decode prog_11_method_1_code 0 = .ok (.aload_n 0, 1) := by decide +kernel
theorem d1_1 : decode prog_11_method_1_code 1 = .ok (.invokespecial 1, 3) := by decide +kernel
theorem d1_4 : decode prog_11_method_1_code 4 = .ok (.aload_n 0, 1) := by decide +kernel
theorem d1_5 : decode prog_11_method_1_code 5 = .ok (.iconst 1, 1) := by decide +kernel
theorem d1_6 : decode prog_11_method_1_code 6 = .ok (.iload_n 1, 1) := by decide +kernel
theorem d1_7 : decode prog_11_method_1_code 7 = .ok (.invokestatic 7, 3) := by decide +kernel
theorem d1_10 : decode prog_11_method_1_code 10 = .ok (.newarray .long, 2) := by decide +kernel
theorem d1_12 : decode prog_11_method_1_code 12 = .ok (.putfield 13, 3) := by decide +kernel
theorem d1_15 : decode prog_11_method_1_code 15 = .ok (.return_, 1) := by decide +kernel
theorem d3_0 : decode jdk_29_method_65_code 0 = .ok (.iload_n 0, 1) := by decide +kernel
theorem d3_1 : decode jdk_29_method_65_code 1 = .ok (.iload_n 1, 1) := by decide +kernel
theorem d3_2 : decode jdk_29_method_65_code 2 = .ok (.if_icmp .lt 7, 3) := by decide +kernel
theorem d3_5 : decode jdk_29_method_65_code 5 = .ok (.iload_n 0, 1) := by decide +kernel
theorem d3_6 : decode jdk_29_method_65_code 6 = .ok (.goto 4, 3) := by decide +kernel
theorem d3_9 : decode jdk_29_method_65_code 9 = .ok (.iload_n 1, 1) := by decide +kernel
theorem d3_10 : decode jdk_29_method_65_code 10 = .ok (.ireturn, 1) := by decide +kernel
theorem d4_0 : decode prog_11_method_2_code 0 = .ok (.aload_n 0, 1) := by decide +kernel
theorem d4_1 : decode prog_11_method_2_code 1 = .ok (.getfield 19, 3) := by decide +kernel
theorem d4_4 : decode prog_11_method_2_code 4 = .ok (.aload_n 0, 1) := by decide +kernel
theorem d4_5 : decode prog_11_method_2_code 5 = .ok (.getfield 13, 3) := by decide +kernel
theorem d4_8 : decode prog_11_method_2_code 8 = .ok (.arraylength, 1) := by decide +kernel
theorem d4_9 : decode prog_11_method_2_code 9 = .ok (.if_icmp .ne 20, 3) := by decide +kernel
theorem d4_12 : decode prog_11_method_2_code 12 = .ok (.aload_n 0, 1) := by decide +kernel
theorem d4_13 : decode prog_11_method_2_code 13 = .ok (.aload_n 0, 1) := by decide +kernel
theorem d4_14 : decode prog_11_method_2_code 14 = .ok (.getfield 13, 3) := by decide +kernel
theorem d4_17 : decode prog_11_method_2_code 17 = .ok (.iconst 2, 1) := by decide +kernel
theorem d4_18 : decode prog_11_method_2_code 18 = .ok (.aload_n 0, 1) := by decide +kernel
theorem d4_19 : decode prog_11_method_2_code 19 = .ok (.getfield 19, 3) := by decide +kernel
theorem d4_22 : decode prog_11_method_2_code 22 = .ok (.imul, 1) := by decide +kernel
theorem d4_23 : decode prog_11_method_2_code 23 = .ok (.invokestatic 23, 3) := by decide +kernel
theorem d4_26 : decode prog_11_method_2_code 26 = .ok (.putfield 13, 3) := by decide +kernel
theorem d4_29 : decode prog_11_method_2_code 29 = .ok (.aload_n 0, 1) := by decide +kernel
theorem d4_30 : decode prog_11_method_2_code 30 = .ok (.dup, 1) := by decide +kernel
theorem d4_31 : decode prog_11_method_2_code 31 = .ok (.getfield 19, 3) := by decide +kernel
theorem d4_34 : decode prog_11_method_2_code 34 = .ok (.dup_x1, 1) := by decide +kernel
theorem d4_35 : decode prog_11_method_2_code 35 = .ok (.iconst 1, 1) := by decide +kernel
theorem d4_36 : decode prog_11_method_2_code 36 = .ok (.iadd, 1) := by decide +kernel
theorem d4_37 : decode prog_11_method_2_code 37 = .ok (.putfield 19, 3) := by decide +kernel
theorem d4_40 : decode prog_11_method_2_code 40 = .ok (.istore_n 3, 1) := by decide +kernel
theorem d4_41 : decode prog_11_method_2_code 41 = .ok (.iload_n 3, 1) := by decide +kernel
theorem d4_42 : decode prog_11_method_2_code 42 = .ok (.ifCond .le 44, 3) := by decide +kernel
theorem d4_45 : decode prog_11_method_2_code 45 = .ok (.iload_n 3, 1) := by decide +kernel
theorem d4_46 : decode prog_11_method_2_code 46 = .ok (.iconst 1, 1) := by decide +kernel
theorem d4_47 : decode prog_11_method_2_code 47 = .ok (.isub, 1) := by decide +kernel
theorem d4_48 : decode prog_11_method_2_code 48 = .ok (.iconst 2, 1) := by decide +kernel
theorem d4_49 : decode prog_11_method_2_code 49 = .ok (.idiv, 1) := by decide +kernel
theorem d4_50 : decode prog_11_method_2_code 50 = .ok (.istore 4, 2) := by decide +kernel
theorem d4_52 : decode prog_11_method_2_code 52 = .ok (.aload_n 0, 1) := by decide +kernel
theorem d4_53 : decode prog_11_method_2_code 53 = .ok (.getfield 13, 3) := by decide +kernel
theorem d4_56 : decode prog_11_method_2_code 56 = .ok (.iload 4, 2) := by decide +kernel
theorem d4_58 : decode prog_11_method_2_code 58 = .ok (.laload, 1) := by decide +kernel
theorem d4_59 : decode prog_11_method_2_code 59 = .ok (.lload_n 1, 1) := by decide +kernel
theorem d4_60 : decode prog_11_method_2_code 60 = .ok (.lcmp, 1) := by decide +kernel
theorem d4_61 : decode prog_11_method_2_code 61 = .ok (.ifCond .gt 6, 3) := by decide +kernel
theorem d4_64 : decode prog_11_method_2_code 64 = .ok (.goto 22, 3) := by decide +kernel
theorem d4_67 : decode prog_11_method_2_code 67 = .ok (.aload_n 0, 1) := by decide +kernel
theorem d4_68 : decode prog_11_method_2_code 68 = .ok (.getfield 13, 3) := by decide +kernel
theorem d4_71 : decode prog_11_method_2_code 71 = .ok (.iload_n 3, 1) := by decide +kernel
theorem d4_72 : decode prog_11_method_2_code 72 = .ok (.aload_n 0, 1) := by decide +kernel
theorem d4_73 : decode prog_11_method_2_code 73 = .ok (.getfield 13, 3) := by decide +kernel
theorem d4_76 : decode prog_11_method_2_code 76 = .ok (.iload 4, 2) := by decide +kernel
theorem d4_78 : decode prog_11_method_2_code 78 = .ok (.laload, 1) := by decide +kernel
theorem d4_79 : decode prog_11_method_2_code 79 = .ok (.lastore, 1) := by decide +kernel
theorem d4_80 : decode prog_11_method_2_code 80 = .ok (.iload 4, 2) := by decide +kernel
theorem d4_82 : decode prog_11_method_2_code 82 = .ok (.istore_n 3, 1) := by decide +kernel
theorem d4_83 : decode prog_11_method_2_code 83 = .ok (.goto (-42), 3) := by decide +kernel
theorem d4_86 : decode prog_11_method_2_code 86 = .ok (.aload_n 0, 1) := by decide +kernel
theorem d4_87 : decode prog_11_method_2_code 87 = .ok (.getfield 13, 3) := by decide +kernel
theorem d4_90 : decode prog_11_method_2_code 90 = .ok (.iload_n 3, 1) := by decide +kernel
theorem d4_91 : decode prog_11_method_2_code 91 = .ok (.lload_n 1, 1) := by decide +kernel
theorem d4_92 : decode prog_11_method_2_code 92 = .ok (.lastore, 1) := by decide +kernel
theorem d4_93 : decode prog_11_method_2_code 93 = .ok (.return_, 1) := by decide +kernel
theorem d5_0 : decode jdk_65_method_124_code 0 = .ok (.iload_n 1, 1) := by decide +kernel
theorem d5_1 : decode jdk_65_method_124_code 1 = .ok (.aload_n 0, 1) := by decide +kernel
theorem d5_2 : decode jdk_65_method_124_code 2 = .ok (.arraylength, 1) := by decide +kernel
theorem d5_3 : decode jdk_65_method_124_code 3 = .ok (.if_icmp .ne 11, 3) := by decide +kernel
theorem d5_6 : decode jdk_65_method_124_code 6 = .ok (.aload_n 0, 1) := by decide +kernel
theorem d5_7 : decode jdk_65_method_124_code 7 = .ok (.invokevirtual 319, 3) := by decide +kernel
theorem d5_10 : decode jdk_65_method_124_code 10 = .ok (.checkcast 320, 3) := by decide +kernel
theorem d5_13 : decode jdk_65_method_124_code 13 = .ok (.areturn, 1) := by decide +kernel
theorem d5_14 : decode jdk_65_method_124_code 14 = .ok (.iload_n 1, 1) := by decide +kernel
theorem d5_15 : decode jdk_65_method_124_code 15 = .ok (.newarray .long, 2) := by decide +kernel
theorem d5_17 : decode jdk_65_method_124_code 17 = .ok (.astore_n 2, 1) := by decide +kernel
theorem d5_18 : decode jdk_65_method_124_code 18 = .ok (.aload_n 0, 1) := by decide +kernel
theorem d5_19 : decode jdk_65_method_124_code 19 = .ok (.iconst 0, 1) := by decide +kernel
theorem d5_20 : decode jdk_65_method_124_code 20 = .ok (.aload_n 2, 1) := by decide +kernel
theorem d5_21 : decode jdk_65_method_124_code 21 = .ok (.iconst 0, 1) := by decide +kernel
theorem d5_22 : decode jdk_65_method_124_code 22 = .ok (.aload_n 0, 1) := by decide +kernel
theorem d5_23 : decode jdk_65_method_124_code 23 = .ok (.arraylength, 1) := by decide +kernel
theorem d5_24 : decode jdk_65_method_124_code 24 = .ok (.iload_n 1, 1) := by decide +kernel
theorem d5_25 : decode jdk_65_method_124_code 25 = .ok (.invokestatic 304, 3) := by decide +kernel
theorem d5_28 : decode jdk_65_method_124_code 28 = .ok (.invokestatic 150, 3) := by decide +kernel
theorem d5_31 : decode jdk_65_method_124_code 31 = .ok (.aload_n 2, 1) := by decide +kernel
theorem d5_32 : decode jdk_65_method_124_code 32 = .ok (.areturn, 1) := by decide +kernel
theorem d6_0 : decode jdk_29_method_69_code 0 = .ok (.iload_n 0, 1) := by decide +kernel
theorem d6_1 : decode jdk_29_method_69_code 1 = .ok (.iload_n 1, 1) := by decide +kernel
theorem d6_2 : decode jdk_29_method_69_code 2 = .ok (.if_icmp .gt 7, 3) := by decide +kernel
theorem d6_5 : decode jdk_29_method_69_code 5 = .ok (.iload_n 0, 1) := by decide +kernel
theorem d6_6 : decode jdk_29_method_69_code 6 = .ok (.goto 4, 3) := by decide +kernel
theorem d6_9 : decode jdk_29_method_69_code 9 = .ok (.iload_n 1, 1) := by decide +kernel
theorem d6_10 : decode jdk_29_method_69_code 10 = .ok (.ireturn, 1) := by decide +kernel
theorem d7_0 : decode prog_11_method_3_code 0 = .ok (.aload_n 0, 1) := by decide +kernel
theorem d7_1 : decode prog_11_method_3_code 1 = .ok (.getfield 19, 3) := by decide +kernel
theorem d7_4 : decode prog_11_method_3_code 4 = .ok (.ifCond .ne 13, 3) := by decide +kernel
theorem d7_7 : decode prog_11_method_3_code 7 = .ok (.new 29, 3) := by decide +kernel
theorem d7_10 : decode prog_11_method_3_code 10 = .ok (.dup, 1) := by decide +kernel
theorem d7_11 : decode prog_11_method_3_code 11 = .ok (.ldc 31, 2) := by decide +kernel
theorem d7_13 : decode prog_11_method_3_code 13 = .ok (.invokespecial 33, 3) := by decide +kernel
theorem d7_16 : decode prog_11_method_3_code 16 = .ok (.athrow, 1) := by decide +kernel
theorem d7_17 : decode prog_11_method_3_code 17 = .ok (.aload_n 0, 1) := by decide +kernel
theorem d7_18 : decode prog_11_method_3_code 18 = .ok (.getfield 13, 3) := by decide +kernel
theorem d7_21 : decode prog_11_method_3_code 21 = .ok (.iconst 0, 1) := by decide +kernel
theorem d7_22 : decode prog_11_method_3_code 22 = .ok (.laload, 1) := by decide +kernel
theorem d7_23 : decode prog_11_method_3_code 23 = .ok (.lstore_n 1, 1) := by decide +kernel
theorem d7_24 : decode prog_11_method_3_code 24 = .ok (.aload_n 0, 1) := by decide +kernel
theorem d7_25 : decode prog_11_method_3_code 25 = .ok (.getfield 13, 3) := by decide +kernel
theorem d7_28 : decode prog_11_method_3_code 28 = .ok (.aload_n 0, 1) := by decide +kernel
theorem d7_29 : decode prog_11_method_3_code 29 = .ok (.dup, 1) := by decide +kernel
theorem d7_30 : decode prog_11_method_3_code 30 = .ok (.getfield 19, 3) := by decide +kernel
theorem d7_33 : decode prog_11_method_3_code 33 = .ok (.iconst 1, 1) := by decide +kernel
theorem d7_34 : decode prog_11_method_3_code 34 = .ok (.isub, 1) := by decide +kernel
theorem d7_35 : decode prog_11_method_3_code 35 = .ok (.dup_x1, 1) := by decide +kernel
theorem d7_36 : decode prog_11_method_3_code 36 = .ok (.putfield 19, 3) := by decide +kernel
theorem d7_39 : decode prog_11_method_3_code 39 = .ok (.laload, 1) := by decide +kernel
theorem d7_40 : decode prog_11_method_3_code 40 = .ok (.lstore_n 3, 1) := by decide +kernel
theorem d7_41 : decode prog_11_method_3_code 41 = .ok (.iconst 0, 1) := by decide +kernel
theorem d7_42 : decode prog_11_method_3_code 42 = .ok (.istore 5, 2) := by decide +kernel
theorem d7_44 : decode prog_11_method_3_code 44 = .ok (.iconst 2, 1) := by decide +kernel
theorem d7_45 : decode prog_11_method_3_code 45 = .ok (.iload 5, 2) := by decide +kernel
theorem d7_47 : decode prog_11_method_3_code 47 = .ok (.imul, 1) := by decide +kernel
theorem d7_48 : decode prog_11_method_3_code 48 = .ok (.iconst 1, 1) := by decide +kernel
theorem d7_49 : decode prog_11_method_3_code 49 = .ok (.iadd, 1) := by decide +kernel
theorem d7_50 : decode prog_11_method_3_code 50 = .ok (.istore 6, 2) := by decide +kernel
theorem d7_52 : decode prog_11_method_3_code 52 = .ok (.iload 6, 2) := by decide +kernel
theorem d7_54 : decode prog_11_method_3_code 54 = .ok (.aload_n 0, 1) := by decide +kernel
theorem d7_55 : decode prog_11_method_3_code 55 = .ok (.getfield 19, 3) := by decide +kernel
theorem d7_58 : decode prog_11_method_3_code 58 = .ok (.if_icmp .lt 6, 3) := by decide +kernel
theorem d7_61 : decode prog_11_method_3_code 61 = .ok (.goto 73, 3) := by decide +kernel
theorem d7_64 : decode prog_11_method_3_code 64 = .ok (.iload 6, 2) := by decide +kernel
theorem d7_66 : decode prog_11_method_3_code 66 = .ok (.iconst 1, 1) := by decide +kernel
theorem d7_67 : decode prog_11_method_3_code 67 = .ok (.iadd, 1) := by decide +kernel
theorem d7_68 : decode prog_11_method_3_code 68 = .ok (.aload_n 0, 1) := by decide +kernel
theorem d7_69 : decode prog_11_method_3_code 69 = .ok (.getfield 19, 3) := by decide +kernel
theorem d7_72 : decode prog_11_method_3_code 72 = .ok (.if_icmp .ge 26, 3) := by decide +kernel
theorem d7_75 : decode prog_11_method_3_code 75 = .ok (.aload_n 0, 1) := by decide +kernel
theorem d7_76 : decode prog_11_method_3_code 76 = .ok (.getfield 13, 3) := by decide +kernel
theorem d7_79 : decode prog_11_method_3_code 79 = .ok (.iload 6, 2) := by decide +kernel
theorem d7_81 : decode prog_11_method_3_code 81 = .ok (.iconst 1, 1) := by decide +kernel
theorem d7_82 : decode prog_11_method_3_code 82 = .ok (.iadd, 1) := by decide +kernel
theorem d7_83 : decode prog_11_method_3_code 83 = .ok (.laload, 1) := by decide +kernel
theorem d7_84 : decode prog_11_method_3_code 84 = .ok (.aload_n 0, 1) := by decide +kernel
theorem d7_85 : decode prog_11_method_3_code 85 = .ok (.getfield 13, 3) := by decide +kernel
theorem d7_88 : decode prog_11_method_3_code 88 = .ok (.iload 6, 2) := by decide +kernel
theorem d7_90 : decode prog_11_method_3_code 90 = .ok (.laload, 1) := by decide +kernel
theorem d7_91 : decode prog_11_method_3_code 91 = .ok (.lcmp, 1) := by decide +kernel
theorem d7_92 : decode prog_11_method_3_code 92 = .ok (.ifCond .ge 6, 3) := by decide +kernel
theorem d7_95 : decode prog_11_method_3_code 95 = .ok (.iinc 6 1, 3) := by decide +kernel
theorem d7_98 : decode prog_11_method_3_code 98 = .ok (.lload_n 3, 1) := by decide +kernel
theorem d7_99 : decode prog_11_method_3_code 99 = .ok (.aload_n 0, 1) := by decide +kernel
theorem d7_100 : decode prog_11_method_3_code 100 = .ok (.getfield 13, 3) := by decide +kernel
theorem d7_103 : decode prog_11_method_3_code 103 = .ok (.iload 6, 2) := by decide +kernel
theorem d7_105 : decode prog_11_method_3_code 105 = .ok (.laload, 1) := by decide +kernel
theorem d7_106 : decode prog_11_method_3_code 106 = .ok (.lcmp, 1) := by decide +kernel
theorem d7_107 : decode prog_11_method_3_code 107 = .ok (.ifCond .gt 6, 3) := by decide +kernel
theorem d7_110 : decode prog_11_method_3_code 110 = .ok (.goto 24, 3) := by decide +kernel
theorem d7_113 : decode prog_11_method_3_code 113 = .ok (.aload_n 0, 1) := by decide +kernel
theorem d7_114 : decode prog_11_method_3_code 114 = .ok (.getfield 13, 3) := by decide +kernel
theorem d7_117 : decode prog_11_method_3_code 117 = .ok (.iload 5, 2) := by decide +kernel
theorem d7_119 : decode prog_11_method_3_code 119 = .ok (.aload_n 0, 1) := by decide +kernel
theorem d7_120 : decode prog_11_method_3_code 120 = .ok (.getfield 13, 3) := by decide +kernel
theorem d7_123 : decode prog_11_method_3_code 123 = .ok (.iload 6, 2) := by decide +kernel
theorem d7_125 : decode prog_11_method_3_code 125 = .ok (.laload, 1) := by decide +kernel
theorem d7_126 : decode prog_11_method_3_code 126 = .ok (.lastore, 1) := by decide +kernel
theorem d7_127 : decode prog_11_method_3_code 127 = .ok (.iload 6, 2) := by decide +kernel
theorem d7_129 : decode prog_11_method_3_code 129 = .ok (.istore 5, 2) := by decide +kernel
theorem d7_131 : decode prog_11_method_3_code 131 = .ok (.goto (-87), 3) := by decide +kernel
theorem d7_134 : decode prog_11_method_3_code 134 = .ok (.aload_n 0, 1) := by decide +kernel
theorem d7_135 : decode prog_11_method_3_code 135 = .ok (.getfield 13, 3) := by decide +kernel
theorem d7_138 : decode prog_11_method_3_code 138 = .ok (.iload 5, 2) := by decide +kernel
theorem d7_140 : decode prog_11_method_3_code 140 = .ok (.lload_n 3, 1) := by decide +kernel
theorem d7_141 : decode prog_11_method_3_code 141 = .ok (.lastore, 1) := by decide +kernel
theorem d7_142 : decode prog_11_method_3_code 142 = .ok (.lload_n 1, 1) := by decide +kernel
theorem d7_143 : decode prog_11_method_3_code 143 = .ok (.lreturn, 1) := by decide +kernel
theorem d8_0 : decode method_2_code 0 = .ok (.aload_n 0, 1) := by decide +kernel
theorem d8_1 : decode method_2_code 1 = .ok (.iload_n 2, 1) := by decide +kernel
theorem d8_2 : decode method_2_code 2 = .ok (.laload, 1) := by decide +kernel
theorem d8_3 : decode method_2_code 3 = .ok (.aload_n 0, 1) := by decide +kernel
theorem d8_4 : decode method_2_code 4 = .ok (.iload_n 1, 1) := by decide +kernel
theorem d8_5 : decode method_2_code 5 = .ok (.laload, 1) := by decide +kernel
theorem d8_6 : decode method_2_code 6 = .ok (.lcmp, 1) := by decide +kernel
theorem d8_7 : decode method_2_code 7 = .ok (.ifCond .ge 17, 3) := by decide +kernel
theorem d8_10 : decode method_2_code 10 = .ok (.aload_n 0, 1) := by decide +kernel
theorem d8_11 : decode method_2_code 11 = .ok (.iload_n 1, 1) := by decide +kernel
theorem d8_12 : decode method_2_code 12 = .ok (.laload, 1) := by decide +kernel
theorem d8_13 : decode method_2_code 13 = .ok (.lstore_n 3, 1) := by decide +kernel
theorem d8_14 : decode method_2_code 14 = .ok (.aload_n 0, 1) := by decide +kernel
theorem d8_15 : decode method_2_code 15 = .ok (.iload_n 1, 1) := by decide +kernel
theorem d8_16 : decode method_2_code 16 = .ok (.aload_n 0, 1) := by decide +kernel
theorem d8_17 : decode method_2_code 17 = .ok (.iload_n 2, 1) := by decide +kernel
theorem d8_18 : decode method_2_code 18 = .ok (.laload, 1) := by decide +kernel
theorem d8_19 : decode method_2_code 19 = .ok (.lastore, 1) := by decide +kernel
theorem d8_20 : decode method_2_code 20 = .ok (.aload_n 0, 1) := by decide +kernel
theorem d8_21 : decode method_2_code 21 = .ok (.iload_n 2, 1) := by decide +kernel
theorem d8_22 : decode method_2_code 22 = .ok (.lload_n 3, 1) := by decide +kernel
theorem d8_23 : decode method_2_code 23 = .ok (.lastore, 1) := by decide +kernel
theorem d8_24 : decode method_2_code 24 = .ok (.return_, 1) := by decide +kernel
theorem pd_0 : parseMethodDescriptor "(II)I" = some ⟨[.int, .int], some .int⟩ := by decide +kernel
theorem pd_1 : parseMethodDescriptor "([JI)[J" = some ⟨[(.array .long), .int], some (.array .long)⟩ := by decide +kernel
theorem pd_2 : parseMethodDescriptor "(I)V" = some ⟨[.int], none⟩ := by decide +kernel
theorem pd_3 : parseMethodDescriptor "(J)V" = some ⟨[.long], none⟩ := by decide +kernel
theorem pd_4 : parseMethodDescriptor "()J" = some ⟨[], some .long⟩ := by decide +kernel
theorem pd_5 : parseMethodDescriptor "([JII)V" = some ⟨[(.array .long), .int, .int], none⟩ := by decide +kernel

def upd (g : Nat → Int) (i : Nat) (v : Int) : Nat → Int := fun k => if k = i then v else g k
theorem upd_at (g : Nat → Int) (i : Nat) (v : Int) : upd g i v i = v := if_pos rfl
theorem upd_ne (g : Nat → Int) {i k : Nat} (v : Int) (q : k ≠ i) : upd g i v k = g k := if_neg q
/-- the heap's order on the first n places -/
def Hp (g : Nat → Int) (n : Nat) : Prop := ∀ k, 0 < k → k < n → g ((k - 1) / 2) ≤ g k
/-- a hole at i, which v is on its way up to fill -/
def HU (g : Nat → Int) (n i : Nat) (v : Int) : Prop := (∀ k, 0 < k → k < n → k ≠ i → (k - 1) / 2 ≠ i → g ((k - 1) / 2) ≤ g k) ∧ (∀ k, 0 < k → k < n → (k - 1) / 2 = i → v ≤ g k) ∧ (∀ k, 0 < k → k < n → (k - 1) / 2 = i → 0 < i → g ((i - 1) / 2) ≤ g k)
theorem HU.start {g : Nat → Int} {n : Nat} (v : Int) (H : Hp g n) : HU g (n + 1) n v :=
  ⟨fun k h1 h2 h3 _ => H k h1 (by omega), fun k h1 h2 h3 => by omega, fun k h1 h2 h3 => by omega⟩
theorem HU.step {g : Nat → Int} {n i : Nat} {v : Int} (H : HU g n i v) (h0 : 0 < i) (hi : i < n) (q : v < g ((i - 1) / 2)) : HU (upd g i (g ((i - 1) / 2))) n ((i - 1) / 2) v := by
  obtain ⟨A, B, C⟩ := H
  refine ⟨fun k h1 h2 h3 h4 => ?_, fun k h1 h2 h3 => ?_, fun k h1 h2 h3 h4 => ?_⟩
  · have ki : k ≠ i := fun e => h4 (by rw [e])
    rw [upd_ne _ _ ki]
    by_cases e : (k - 1) / 2 = i
    · rw [e, upd_at]; exact C k h1 h2 e h0
    · rw [upd_ne _ _ e]; exact A k h1 h2 ki e
  · by_cases ki : k = i
    · rw [ki, upd_at]; omega
    · rw [upd_ne _ _ ki]
      have := A k h1 h2 ki (by omega)
      rw [h3] at this; omega
  · have ne : ((i - 1) / 2 - 1) / 2 ≠ i := by omega
    rw [upd_ne _ _ ne]
    have r := A ((i - 1) / 2) h4 (by omega) (by omega) ne
    by_cases ki : k = i
    · rw [ki, upd_at]; exact r
    · rw [upd_ne _ _ ki]
      have := A k h1 h2 ki (by omega)
      rw [h3] at this; omega
theorem HU.done {g : Nat → Int} {n i : Nat} {v : Int} (H : HU g n i v) (q : 0 < i → g ((i - 1) / 2) ≤ v) : Hp (upd g i v) n := by
  obtain ⟨A, B, C⟩ := H
  intro k h1 h2
  by_cases ki : k = i
  · subst ki; rw [upd_at, upd_ne _ _ (by omega)]; exact q h1
  · rw [upd_ne _ _ ki]
    by_cases e : (k - 1) / 2 = i
    · rw [e, upd_at]; exact B k h1 h2 e
    · rw [upd_ne _ _ e]; exact A k h1 h2 ki e
/-- a hole at i, into which x sinks -/
def HD (g : Nat → Int) (n i : Nat) (x : Int) : Prop := (∀ k, 0 < k → k < n → k ≠ i → (k - 1) / 2 ≠ i → g ((k - 1) / 2) ≤ g k) ∧ (0 < i → i < n → g ((i - 1) / 2) ≤ x) ∧ (∀ k, 0 < k → k < n → (k - 1) / 2 = i → 0 < i → g ((i - 1) / 2) ≤ g k)
theorem HD.start {g : Nat → Int} {n : Nat} (x : Int) (H : Hp g (n + 1)) : HD g n 0 x :=
  ⟨fun k h1 h2 h3 _ => H k h1 (by omega), fun h => absurd h (by omega), fun k h1 h2 h3 h4 => absurd h4 (by omega)⟩
theorem HD.step {g : Nat → Int} {n i c : Nat} {x : Int} (H : HD g n i x) (hc : (c - 1) / 2 = i) (c0 : 0 < c) (cn : c < n) (q : g c < x) (mn : ∀ k, 0 < k → k < n → (k - 1) / 2 = i → g c ≤ g k) : HD (upd g i (g c)) n c x := by
  obtain ⟨A, B, C⟩ := H
  refine ⟨fun k h1 h2 h3 h4 => ?_, fun _ _ => ?_, fun k h1 h2 h3 h4 => ?_⟩
  · by_cases ki : k = i
    · subst ki; rw [upd_at, upd_ne _ _ (by omega)]; exact C c c0 cn hc h1
    · rw [upd_ne _ _ ki]
      by_cases e : (k - 1) / 2 = i
      · rw [e, upd_at]; exact mn k h1 h2 e
      · rw [upd_ne _ _ e]; exact A k h1 h2 ki e
  · rw [hc, upd_at]; omega
  · rw [hc, upd_at, upd_ne _ _ (by omega)]
    have := A k h1 h2 (by omega) (by omega)
    rw [h3] at this; exact this
theorem HD.done {g : Nat → Int} {n i : Nat} {x : Int} (H : HD g n i x) (q : ∀ k, 0 < k → k < n → (k - 1) / 2 = i → x ≤ g k) : Hp (upd g i x) n := by
  obtain ⟨A, B, C⟩ := H
  intro k h1 h2
  by_cases ki : k = i
  · subst ki; rw [upd_at, upd_ne _ _ (by omega)]; exact B h1 h2
  · rw [upd_ne _ _ ki]
    by_cases e : (k - 1) / 2 = i
    · rw [e, upd_at]; exact q k h1 h2 e
    · rw [upd_ne _ _ e]; exact A k h1 h2 ki e
theorem Hp.root {g : Nat → Int} {n : Nat} (H : Hp g n) : ∀ k, k < n → g 0 ≤ g k := by
  intro k
  induction k using Nat.strongRecOn with
  | ind k ih =>
    intro hk
    by_cases e : k = 0
    · rw [e]; exact Int.le_refl _
    · exact Int.le_trans (ih ((k - 1) / 2) (by omega) (by omega)) (H k (by omega) hk)
/-- the list's entries as numbers -/
def gl (vs : List Int64) : Nat → Int := fun k => (vs.getD k 0).toInt
theorem gl_set {vs : List Int64} {i : Nat} (v : Int64) (q : i < vs.length) : gl (vs.set i v) = upd (gl vs) i v.toInt := by
  funext k
  unfold gl upd
  simp only [List.getD_eq_getElem?_getD]
  by_cases e : k = i
  · subst e; simp [q]
  · rw [if_neg e, List.getElem?_set_ne (fun w => e w.symm)]
theorem getD_lt {vs : List Int64} {k : Nat} (q : k < vs.length) : vs[k]? = some (vs.getD k 0) := by
  rw [List.getElem?_eq_getElem q, List.getD_eq_getElem?_getD, List.getElem?_eq_getElem q]; rfl
theorem own_get {vs : List Int64} {k : Nat} (q : k < vs.length) : (vs.map Value.long)[k]? = some (.long (vs.getD k 0)) := by
  rw [List.getElem?_map, getD_lt q]; rfl
theorem hp_congr {vs ws : List Int64} {n : Nat} (e : ws.take n = vs.take n) (H : Hp (gl vs) n) : Hp (gl ws) n := by
  have q : ∀ k, k < n → gl ws k = gl vs k := fun k hk => by
    have := congrArg (fun (l : List Int64) => (l.getD k 0).toInt) e
    simpa [gl, List.getElem?_take_of_lt hk] using this
  intro k h1 h2
  rw [q k h2, q _ (by omega)]; exact H k h1 h2
/-- two places changed about -/
theorem perm_swap {vs : List Int64} {n i p : Nat} (v : Int64) (hn : n ≤ vs.length) (hi : i < n) (hp : p < n) (ne : p ≠ i) : (((vs.set i (vs.getD p 0)).set p v).take n).Perm ((vs.set i v).take n) := by
  have li : i < ((vs.set i v).take n).length := by simp; omega
  have lp : p < ((vs.set i v).take n).length := by simp; omega
  have q := List.set_set_perm li lp
  have e1 : ((vs.set i v).take n)[i] = v := by simp
  have e2 : ((vs.set i v).take n)[p] = vs.getD p 0 := by
    simp [List.getElem_set_ne (fun w => ne w.symm)]
    rw [List.getElem?_eq_getElem (by omega)]; rfl
  rw [e1, e2] at q
  have e3 : (((vs.set i v).take n).set i (vs.getD p 0)).set p v = ((vs.set i (vs.getD p 0)).set p v).take n := by
    rw [List.take_set, List.take_set, List.take_set, List.set_set]
  rw [e3] at q; exact q
theorem perm_last {vs : List Int64} {n : Nat} (v : Int64) (hn : n < vs.length) : ((vs.set n v).take (n + 1)).Perm (v :: vs.take n) := by
  have e : (vs.set n v).take (n + 1) = vs.take n ++ [v] := by
    apply List.ext_getElem?
    intro k
    by_cases h1 : k < n
    · rw [List.getElem?_take_of_lt (by omega), List.getElem?_set_ne (by omega), List.getElem?_append_left (by simp; omega), List.getElem?_take_of_lt h1]
    · by_cases h2 : k = n
      · subst h2
        rw [List.getElem?_take_of_lt (by omega), List.getElem?_set_self hn, List.getElem?_append_right (by simp; omega)]
        have : k - (vs.take k).length = 0 := by simp; omega
        rw [this]; rfl
      · rw [List.getElem?_eq_none (by simp; omega), List.getElem?_eq_none (by simp; omega)]
  rw [e]; exact List.perm_append_singleton v _
theorem perm_first {vs : List Int64} {n : Nat} (hn : n < vs.length) : (vs.getD 0 0 :: ((vs.set 0 (vs.getD n 0)).take n)).Perm (vs.take (n + 1)) := by
  cases vs with
  | nil => simp at hn
  | cons r t =>
    cases n with
    | zero => simp
    | succ n =>
      have e : (r :: t).getD (n + 1) 0 = t.getD n 0 := by simp
      rw [e]
      show (r :: ((t.getD n 0 :: t).take (n + 1))).Perm (r :: t.take (n + 1))
      have hl : n < t.length := by simpa using hn
      have e2 : t.take (n + 1) = t.take n ++ [t.getD n 0] := by
        rw [List.take_succ, getD_lt hl]; rfl
      rw [e2, List.take_succ_cons]
      exact ((List.perm_append_singleton _ _).symm).cons _
theorem gl_lt {vs : List Int64} {x : Int64} {k : Nat} : x < vs.getD k 0 ↔ x.toInt < gl vs k := by rw [Int64.lt_iff_toInt_lt]; exact Iff.rfl
theorem gl_gt {vs : List Int64} {x : Int64} {k : Nat} : vs.getD k 0 < x ↔ gl vs k < x.toInt := by rw [Int64.lt_iff_toInt_lt]; exact Iff.rfl
theorem par32 {i32 : Int32} {i : Nat} (hi : i32.toInt = i) (h0 : 0 < i) (h8 : i < 1000) : ((i32 - (1 : Int32)) / (2 : Int32)).toInt = (((i - 1) / 2 : Nat) : Int) := by
  have a := c_isub i32 1; have b := rng32 (i32 - 1); have e1 : (1 : Int32).toInt = 1 := rfl
  have d := (c_idiv (i32 - 1) 2 2 rfl (by decide)).1 (by omega)
  rw [d]; omega
theorem chi32 {i32 : Int32} {i : Nat} (hi : i32.toInt = i) (h8 : i < 1000) : (((2 : Int32) * i32) + (1 : Int32)).toInt = ((2 * i + 1 : Nat) : Int) := by
  have a := c_imul 2 i32; have e2 : (2 : Int32).toInt = 2 := rfl; have b := rng32 (2 * i32)
  rw [e2, hi] at a
  have c := c_iadd (2 * i32) 1; have d := rng32 (2 * i32 + 1); have e1 : (1 : Int32).toInt = 1 := rfl
  omega
theorem inc32 {i32 : Int32} {i : Nat} (hi : i32.toInt = i) (h8 : i < 1000) : (i32 + (1 : Int32)).toInt = ((i + 1 : Nat) : Int) := by
  have a := c_iadd i32 1; have b := rng32 (i32 + 1); have e1 : (1 : Int32).toInt = 1 := rfl; omega
theorem dec32 {i32 : Int32} {i : Nat} (hi : i32.toInt = ((i + 1 : Nat) : Int)) (h8 : i < 1000) : (i32 - (1 : Int32)).toInt = (i : Int) := by
  have a := c_isub i32 1; have b := rng32 (i32 - 1); have e1 : (1 : Int32).toInt = 1 := rfl; omega
theorem lt32 {a b : Int32} {i j : Nat} (ha : a.toInt = i) (hb : b.toInt = j) : a < b ↔ i < j := by rw [Int32.lt_iff_toInt_lt, ha, hb]; omega
theorem eq32 {a b : Int32} {i j : Nat} (ha : a.toInt = i) (hb : b.toInt = j) : a = b ↔ i = j := by rw [← Int32.toInt_inj, ha, hb]; omega
/-- a LongHeap object: its array, its size -/
def HR (Z : State) (h : Heap) (ho arr : Addr) (vs : List Int64) (n : Nat) (n32 : Int32) : Prop := Exa Z h ho "com/example/corymb/corymb/engine/LongHeap" ∧ Fld Z h ho "com/example/corymb/corymb/engine/LongHeap" "size" "I" (.int n32) ∧ Fld Z h ho "com/example/corymb/corymb/engine/LongHeap" "values" "[J" (.ref arr) ∧ VArr Z h arr .long (vs.map Value.long) ∧ n32.toInt = n ∧ n ≤ vs.length ∧ vs.length ≤ 8 ∧ 1 ≤ vs.length ∧ Hp (gl vs) n


theorem own_max {a b : Int32} {i j : Nat} (ha : a.toInt = i) (hb : b.toInt = j) : (if a < b then b else a).toInt = ((max i j : Nat) : Int) := by
  split
  · rename_i q; rw [Int32.lt_iff_toInt_lt] at q; omega
  · rename_i q; rw [Int32.lt_iff_toInt_lt] at q; omega
theorem own_min {a b : Int32} {i j : Nat} (ha : a.toInt = i) (hb : b.toInt = j) : (if b < a then b else a).toInt = ((min i j : Nat) : Int) := by
  split
  · rename_i q; rw [Int32.lt_iff_toInt_lt] at q; omega
  · rename_i q; rw [Int32.lt_iff_toInt_lt] at q; omega
theorem own_two {x : Int32} {n : Nat} (hx : x.toInt = n) (q : n < 1000) : ((2 : Int32) * x).toInt = ((2 * n : Nat) : Int) := by
  have a := c_imul 2 x; have b := rng32 (2 * x); have e2 : (2 : Int32).toInt = 2 := rfl
  rw [e2, hx] at a; omega

theorem ef_rmMax (m : MethodId) (x0 : Int32) (x1 : Int32) : entryFrame m #[(.int x0), (.int x1)] 2 = mkF m 0 #[.val (.int x0), .val (.int x1)] [] := by first | (simp [entryFrame, mkF, argsToLocals, Value.category]; done) | rfl
set_option maxRecDepth 65536 in
set_option maxHeartbeats 40000000 in
theorem rmMax (l : Launch) (Z : State) (a0 : Array Value) (hw : ∀ d ∈ tables_1, d.before a0 Z = true) (p1 p2 : Int32) (h0 : Heap)  :
    Met l Z (⟨"java/lang/Math", "max", "(II)I"⟩ : MethodName) jdk_29_method_65_code 2 (some .int) ({ frames := 0, cells := 0, slots := 0, locals := 0 } : Room) #[(.int p1), (.int p2)] h0 (fun v h L => v = some (.int (if p1 < p2 then p2 else p1)) ∧ L = [] ∧ h = h0) := by
  refine Met.intro (Jvm.Free.JP.mathPlain rfl (by decide +kernel)) ?_
  intro p e s m below meth c T0 hx hby hml hown hnm hret hlk hZ X0 e0
  refine Go.cast (ef_rmMax m p1 p2) ?_
  refine Go.back (f' := (mkF m 1 #[.val (.int p1), .val (.int p2)] [(.int p1)])) (fun _ k => XS.iloadN X0.here hx rfl (hb hby d3_0) rfl k) ?_
  refine Go.back (f' := (mkF m 2 #[.val (.int p1), .val (.int p2)] [(.int p2), (.int p1)])) (fun _ k => XS.iloadN X0.here hx rfl (hb hby d3_1) rfl k) ?_
  by_cases hc : p1 < p2
  · refine Go.back (f' := (mkF m 9 #[.val (.int p1), .val (.int p2)] [])) (fun _ k => XS.icmpYes X0.here hx rfl (pc0 := 2) (pc' := 9) rfl (hb hby d3_2) rfl (tlt hc).1 (by decide) (by decide) k) ?_
    refine Go.back (f' := (mkF m 10 #[.val (.int p1), .val (.int p2)] [(.int p2)])) (fun _ k => XS.iloadN X0.here hx rfl (hb hby d3_9) rfl k) ?_
    exact Go.retI X0 hx hret hlk (hb hby d3_10) (by (try rw [e0]); exact ⟨by rw [if_pos hc], rfl, rfl⟩) (Nat.zero_le _) (Nat.zero_le _)
  · refine Go.back (f' := (mkF m 5 #[.val (.int p1), .val (.int p2)] [])) (fun _ k => XS.icmpNo X0.here hx rfl (hb hby d3_2) rfl (flt hc).1 k) ?_
    refine Go.back (f' := (mkF m 6 #[.val (.int p1), .val (.int p2)] [(.int p1)])) (fun _ k => XS.iloadN X0.here hx rfl (hb hby d3_5) rfl k) ?_
    refine Go.back (f' := (mkF m 10 #[.val (.int p1), .val (.int p2)] [(.int p1)])) (fun _ k => XS.goto X0.here hx rfl (pc0 := 6) (pc' := 10) rfl (hb hby d3_6) (by decide) (by decide) k) ?_
    exact Go.retI X0 hx hret hlk (hb hby d3_10) (by (try rw [e0]); exact ⟨by rw [if_neg hc], rfl, rfl⟩) (Nat.zero_le _) (Nat.zero_le _)
theorem ef_rmMin (m : MethodId) (x0 : Int32) (x1 : Int32) : entryFrame m #[(.int x0), (.int x1)] 2 = mkF m 0 #[.val (.int x0), .val (.int x1)] [] := by first | (simp [entryFrame, mkF, argsToLocals, Value.category]; done) | rfl
set_option maxRecDepth 65536 in
set_option maxHeartbeats 40000000 in
theorem rmMin (l : Launch) (Z : State) (a0 : Array Value) (hw : ∀ d ∈ tables_1, d.before a0 Z = true) (p1 p2 : Int32) (h0 : Heap)  :
    Met l Z (⟨"java/lang/Math", "min", "(II)I"⟩ : MethodName) jdk_29_method_69_code 2 (some .int) ({ frames := 0, cells := 0, slots := 0, locals := 0 } : Room) #[(.int p1), (.int p2)] h0 (fun v h L => v = some (.int (if p2 < p1 then p2 else p1)) ∧ L = [] ∧ h = h0) := by
  refine Met.intro (Jvm.Free.JP.mathPlain rfl (by decide +kernel)) ?_
  intro p e s m below meth c T0 hx hby hml hown hnm hret hlk hZ X0 e0
  refine Go.cast (ef_rmMin m p1 p2) ?_
  refine Go.back (f' := (mkF m 1 #[.val (.int p1), .val (.int p2)] [(.int p1)])) (fun _ k => XS.iloadN X0.here hx rfl (hb hby d6_0) rfl k) ?_
  refine Go.back (f' := (mkF m 2 #[.val (.int p1), .val (.int p2)] [(.int p2), (.int p1)])) (fun _ k => XS.iloadN X0.here hx rfl (hb hby d6_1) rfl k) ?_
  by_cases hc : p2 < p1
  · refine Go.back (f' := (mkF m 9 #[.val (.int p1), .val (.int p2)] [])) (fun _ k => XS.icmpYes X0.here hx rfl (pc0 := 2) (pc' := 9) rfl (hb hby d6_2) rfl (tlt hc).2.2.1 (by decide) (by decide) k) ?_
    refine Go.back (f' := (mkF m 10 #[.val (.int p1), .val (.int p2)] [(.int p2)])) (fun _ k => XS.iloadN X0.here hx rfl (hb hby d6_9) rfl k) ?_
    exact Go.retI X0 hx hret hlk (hb hby d6_10) (by (try rw [e0]); exact ⟨by rw [if_pos hc], rfl, rfl⟩) (Nat.zero_le _) (Nat.zero_le _)
  · refine Go.back (f' := (mkF m 5 #[.val (.int p1), .val (.int p2)] [])) (fun _ k => XS.icmpNo X0.here hx rfl (hb hby d6_2) rfl (flt hc).2.2.1 k) ?_
    refine Go.back (f' := (mkF m 6 #[.val (.int p1), .val (.int p2)] [(.int p1)])) (fun _ k => XS.iloadN X0.here hx rfl (hb hby d6_5) rfl k) ?_
    refine Go.back (f' := (mkF m 10 #[.val (.int p1), .val (.int p2)] [(.int p1)])) (fun _ k => XS.goto X0.here hx rfl (pc0 := 6) (pc' := 10) rfl (hb hby d6_6) (by decide) (by decide) k) ?_
    exact Go.retI X0 hx hret hlk (hb hby d6_10) (by (try rw [e0]); exact ⟨by rw [if_neg hc], rfl, rfl⟩) (Nat.zero_le _) (Nat.zero_le _)
theorem ef_rmCopy (m : MethodId) (x0 : Addr) (x1 : Int32) : entryFrame m #[(.ref x0), (.int x1)] 3 = mkF m 0 #[.val (.ref x0), .val (.int x1), .unset] [] := by first | (simp [entryFrame, mkF, argsToLocals, Value.category]; done) | rfl
set_option maxRecDepth 65536 in
set_option maxHeartbeats 40000000 in
theorem rmCopy (l : Launch) (Z : State) (a0 : Array Value) (hw : ∀ d ∈ tables_1, d.before a0 Z = true) (a1 : Addr) (nn : Int32) (vs : List Value) (k n0 : Nat) (h0 : Heap) (Z0 : n0 ≤ h0.size) (A : VArr Z h0 a1 .long vs) (hn : nn.toInt = ((vs.length + k : Nat) : Int)) (hk1 : 0 < k) (hk2 : vs.length + k ≤ 8) :
    Met l Z (⟨"java/util/Arrays", "copyOf", "([JI)[J"⟩ : MethodName) jdk_65_method_124_code 3 (some (.array .long)) ({ frames := 1, cells := 1, slots := 8, locals := 40 } : Room) #[(.ref a1), (.int nn)] h0 (fun v h L => ∃ b1, v = some (.ref b1) ∧ Chg n0 h0 h [] L ∧ h0.size ≤ b1 ∧ VArr Z h b1 .long (vs ++ List.replicate k (.long 0))) := by
  refine Met.intro (by decide +kernel) ?_
  intro p e s m below meth c T0 hx hby hml hown hnm hret hlk hZ X0 e0
  refine Go.cast (ef_rmCopy m a1 nn) ?_
  have K0 : Chg n0 h0 h0 [] [] := Chg.refl Z0
  have hN := A.len
  refine Go.back (f' := (mkF m 1 #[.val (.ref a1), .val (.int nn), .unset] [(.int nn)])) (fun _ k => XS.iloadN X0.here hx rfl (hb hby d5_0) rfl k) ?_
  refine Go.back (f' := (mkF m 2 #[.val (.ref a1), .val (.int nn), .unset] [(.ref a1), (.int nn)])) (fun _ k => XS.aloadN X0.here hx rfl (hb hby d5_1) rfl rfl k) ?_
  refine Go.back (f' := (mkF m 3 #[.val (.ref a1), .val (.int nn), .unset] [(.int (vs).length.toInt32), (.int nn)])) (A.lenS X0 hx hZ e0 (hb hby d5_2)) ?_
  refine Go.back (f' := (mkF m 14 #[.val (.ref a1), .val (.int nn), .unset] [])) (fun _ k => XS.icmpYes X0.here hx rfl (pc0 := 3) (pc' := 14) rfl (hb hby d5_3) rfl (feq (fun q => by rw [q, n32 hN] at hn; omega)).2 (by decide) (by decide) k) ?_
  refine Go.back (f' := (mkF m 15 #[.val (.ref a1), .val (.int nn), .unset] [(.int nn)])) (fun _ k => XS.iloadN X0.here hx rfl (hb hby d5_14) rfl k) ?_
  refine Go.newA X0 hx hZ (hw _ (List.mem_of_getElem? (i := 0) rfl)) e0 (hb hby d5_15) (i := (vs.length + k)) hn (cap := 8) hk2 (by decide) (by decide) (by decide) ?_
  intro T1 h1 b1 q1 X1 e1 E1 V1
  have V1 : VArr Z h1 b1 .long (List.replicate (vs.length + k) (.long 0)) := V1
  have ne_a1_b1 : a1 ≠ b1 := lt_ne q1 A.lt
  have sz_b1 := K0.at q1
  have g_b1 := K0.ge sz_b1
  have Ar_2 := A.ext E1
  have K_3 := K0.ext E1
  show GoG _ _ _ _ _ (mkF m 17 #[.val (.ref a1), .val (.int nn), .unset] [(.ref b1)])
  refine Go.back (f' := (mkF m 18 #[.val (.ref a1), .val (.int nn), .val (.ref b1)] [])) (fun _ k => XS.astoreN X1.here hx rfl (hb hby d5_17) rfl rfl (l' := #[.val (.ref a1), .val (.int nn), .val (.ref b1)]) rfl k) ?_
  refine Go.back (f' := (mkF m 19 #[.val (.ref a1), .val (.int nn), .val (.ref b1)] [(.ref a1)])) (fun _ k => XS.aloadN X1.here hx rfl (hb hby d5_18) rfl rfl k) ?_
  refine Go.back (f' := (mkF m 20 #[.val (.ref a1), .val (.int nn), .val (.ref b1)] [(.int (0 : Int32)), (.ref a1)])) (fun _ k => XS.iconst X1.here hx rfl (hb hby d5_19) k) ?_
  refine Go.back (f' := (mkF m 21 #[.val (.ref a1), .val (.int nn), .val (.ref b1)] [(.ref b1), (.int (0 : Int32)), (.ref a1)])) (fun _ k => XS.aloadN X1.here hx rfl (hb hby d5_20) rfl rfl k) ?_
  refine Go.back (f' := (mkF m 22 #[.val (.ref a1), .val (.int nn), .val (.ref b1)] [(.int (0 : Int32)), (.ref b1), (.int (0 : Int32)), (.ref a1)])) (fun _ k => XS.iconst X1.here hx rfl (hb hby d5_21) k) ?_
  refine Go.back (f' := (mkF m 23 #[.val (.ref a1), .val (.int nn), .val (.ref b1)] [(.ref a1), (.int (0 : Int32)), (.ref b1), (.int (0 : Int32)), (.ref a1)])) (fun _ k => XS.aloadN X1.here hx rfl (hb hby d5_22) rfl rfl k) ?_
  refine Go.back (f' := (mkF m 24 #[.val (.ref a1), .val (.int nn), .val (.ref b1)] [(.int (vs).length.toInt32), (.int (0 : Int32)), (.ref b1), (.int (0 : Int32)), (.ref a1)])) (Ar_2.lenS X1 hx hZ e1 (hb hby d5_23)) ?_
  refine Go.back (f' := (mkF m 25 #[.val (.ref a1), .val (.int nn), .val (.ref b1)] [(.int nn), (.int (vs).length.toInt32), (.int (0 : Int32)), (.ref b1), (.int (0 : Int32)), (.ref a1)])) (fun _ k => XS.iloadN X1.here hx rfl (hb hby d5_24) rfl k) ?_
  refine Go.callS X1 hx hZ hown (hw _ (List.mem_of_getElem? (i := 27) rfl)) (hw _ (List.mem_of_getElem? (i := 28) rfl)) (hw _ (List.mem_of_getElem? (i := 12) rfl)) (hw _ (List.mem_of_getElem? (i := 29) rfl)) (by decide) e1 (argsL := [(.int (vs).length.toInt32), (.int nn)]) (rest := [(.int (0 : Int32)), (.ref b1), (.int (0 : Int32)), (.ref a1)]) (rmMin l Z a0 hw vs.length.toInt32 nn h1) (lenOf pd_0 rfl) rfl (by rw [hml]; rfl) (W := 4) (Nat.le_of_eq rfl) (hb hby d5_25) (by decide) (by decide) (by decide) (by decide) ?_
  intro v4 T4 L4 X4 hQ4
  obtain ⟨rfl, rfl, hh4⟩ := hQ4
  rw [List.append_nil] at X4
  have hm := own_min (n32 hN) hn
  generalize (if nn < vs.length.toInt32 then nn else vs.length.toInt32) = mm at hm ⊢
  rw [Nat.min_eq_left (by omega)] at hm
  show GoG _ _ _ _ _ (mkF m 28 #[.val (.ref a1), .val (.int nn), .val (.ref b1)] [(.int mm), (.int (0 : Int32)), (.ref b1), (.int (0 : Int32)), (.ref a1)])
  refine Go.cpy X4 hx hZ hown (hw _ (List.mem_of_getElem? (i := 30) rfl)) (hw _ (List.mem_of_getElem? (i := 33) rfl)) (hw _ (List.mem_of_getElem? (i := 31) rfl)) (hw _ (List.mem_of_getElem? (i := 32) rfl)) hh4 Ar_2 V1 rfl (i := 0) rfl (j' := 0) rfl (n := vs.length) hm (by omega) (by simp) K_3.fr g_b1 (by rw [hml]; rfl) (hb hby d5_28) (by decide) (W := 0) (Nat.le_of_eq rfl) (by decide) ?_
  intro T5 h5 L5 X5 e5 N5 Kc5 V5
  have Ar_6 := Ar_2.keep Kc5 (ninS ne_a1_b1 nin0)
  have K_7 := K_3.cpy Kc5 N5 (Or.inr sz_b1)
  show GoG _ _ _ _ _ (mkF m 31 #[.val (.ref a1), .val (.int nn), .val (.ref b1)] [])
  refine Go.back (f' := (mkF m 32 #[.val (.ref a1), .val (.int nn), .val (.ref b1)] [(.ref b1)])) (fun _ k => XS.aloadN X5.here hx rfl (hb hby d5_31) rfl rfl k) ?_
  exact Go.retA X5 hx hret hlk (hb hby d5_32) rfl rfl (by (try rw [e5]); exact ⟨b1, rfl, K_7, sz_b1, V5.to (by simp)⟩) (by decide) (by decide)
theorem ef_rmIni (m : MethodId) (x0 : Addr) (x1 : Int32) : entryFrame m #[(.ref x0), (.int x1)] 2 = mkF m 0 #[.val (.ref x0), .val (.int x1)] [] := by first | (simp [entryFrame, mkF, argsToLocals, Value.category]; done) | rfl
set_option maxRecDepth 65536 in
set_option maxHeartbeats 40000000 in
theorem rmIni (l : Launch) (Z : State) (a0 : Array Value) (hw : ∀ d ∈ tables_1, d.before a0 Z = true) (ho : Addr) (cc : Int32) (i n0 : Nat) (h0 : Heap) (Z0 : n0 ≤ h0.size) (Ex : Exa Z h0 ho "com/example/corymb/corymb/engine/LongHeap") (F1 : Fld Z h0 ho "com/example/corymb/corymb/engine/LongHeap" "size" "I" (.int (0 : Int32))) (F2 : Fld Z h0 ho "com/example/corymb/corymb/engine/LongHeap" "values" "[J" .null) (hc : cc.toInt = i) (i7 : i ≤ 7) (g_ho : n0 ≤ ho) :
    Met l Z (⟨"com/example/corymb/corymb/engine/LongHeap", "<init>", "(I)V"⟩ : MethodName) prog_11_method_1_code 2 none ({ frames := 1, cells := 1, slots := 7, locals := 20 } : Room) #[(.ref ho), (.int cc)] h0 (fun v h L => v = none ∧ Chg n0 h0 h [ho] L ∧ ∃ arr, h0.size ≤ arr ∧ HR Z h ho arr (List.replicate (max 1 i) 0) 0 0) := by
  refine Met.intro (plainFor_of_name (by first | (simp [plainName, overriddenIn]; done) | decide +kernel)) ?_
  intro p e s m below meth c T0 hx hby hml hown hnm hret hlk hZ X0 e0
  refine Go.cast (ef_rmIni m ho cc) ?_
  have K0 : Chg n0 h0 h0 [ho] [] := Chg.refl Z0
  refine Go.back (f' := (mkF m 1 #[.val (.ref ho), .val (.int cc)] [(.ref ho)])) (fun _ k => XS.aloadN X0.here hx rfl (hb hby d1_0) rfl rfl k) ?_
  obtain ⟨T8, X8, e8, st8⟩ := initO X0 hx hZ hown (hw _ (List.mem_of_getElem? (i := 7) rfl)) (hw _ (List.mem_of_getElem? (i := 8) rfl)) (hw _ (List.mem_of_getElem? (i := 9) rfl)) e0 (g := (mkF m 1 #[.val (.ref ho), .val (.int cc)] [(.ref ho)])) rfl (by rw [hml]; rfl) rfl (hb hby d1_1) (by decide) (W := 0) (by show 2 * 0 + _ ≤ _; exact Nat.le_of_eq rfl) (by decide)
  refine Go.back (f' := (mkF m 4 #[.val (.ref ho), .val (.int cc)] [])) st8 ?_
  refine Go.back (f' := (mkF m 5 #[.val (.ref ho), .val (.int cc)] [(.ref ho)])) (fun _ k => XS.aloadN X8.here hx rfl (hb hby d1_4) rfl rfl k) ?_
  refine Go.back (f' := (mkF m 6 #[.val (.ref ho), .val (.int cc)] [(.int (1 : Int32)), (.ref ho)])) (fun _ k => XS.iconst X8.here hx rfl (hb hby d1_5) k) ?_
  refine Go.back (f' := (mkF m 7 #[.val (.ref ho), .val (.int cc)] [(.int cc), (.int (1 : Int32)), (.ref ho)])) (fun _ k => XS.iloadN X8.here hx rfl (hb hby d1_6) rfl k) ?_
  refine Go.callS X8 hx hZ hown (hw _ (List.mem_of_getElem? (i := 10) rfl)) (hw _ (List.mem_of_getElem? (i := 11) rfl)) (hw _ (List.mem_of_getElem? (i := 12) rfl)) (hw _ (List.mem_of_getElem? (i := 13) rfl)) (by decide) e8 (argsL := [(.int (1 : Int32)), (.int cc)]) (rest := [(.ref ho)]) (rmMax l Z a0 hw (1 : Int32) cc h0) (lenOf pd_0 rfl) rfl (by rw [hml]; rfl) (W := 1) (Nat.le_of_eq rfl) (hb hby d1_7) (by decide) (by decide) (by decide) (by decide) ?_
  intro v9 T9 L9 X9 hQ9
  obtain ⟨rfl, rfl, hh9⟩ := hQ9
  rw [List.append_nil] at X9
  have hm := own_max (a := 1) (i := 1) rfl hc
  generalize (if (1 : Int32) < cc then cc else (1 : Int32)) = mx at hm ⊢
  show GoG _ _ _ _ _ (mkF m 10 #[.val (.ref ho), .val (.int cc)] [(.int mx), (.ref ho)])
  refine Go.newA X9 hx hZ (hw _ (List.mem_of_getElem? (i := 0) rfl)) hh9 (hb hby d1_10) (i := (max 1 i)) hm (cap := 7) (by omega) (by decide) (by decide) (by decide) ?_
  intro T10 h10 arr q10 X10 e10 E10 V10
  have V10 : VArr Z h10 arr .long (List.replicate (max 1 i) (.long 0)) := V10
  have ne_ho_arr : ho ≠ arr := lt_ne q10 Ex.lt
  have sz_arr := K0.at q10
  have g_arr := K0.ge sz_arr
  have Ex_11 := Ex.ext E10
  have Fl_12 := F1.ext E10
  have Fl_13 := F2.ext E10
  have K_14 := K0.ext E10
  show GoG _ _ _ _ _ (mkF m 12 #[.val (.ref ho), .val (.int cc)] [(.ref arr), (.ref ho)])
  obtain ⟨T15, h15, X15, e15, W15, st15⟩ := putF X10 hx hZ hown (host := "") (Or.inl (hw _ (List.mem_of_getElem? (i := 14) rfl))) Via.refl e10 Fl_13 Ex_11 (Or.inl (hw _ (List.mem_of_getElem? (i := 15) rfl))) (hw _ (List.mem_of_getElem? (i := 2) rfl)) (ty := (.array .long)) (by decide) rfl rfl (g := (mkF m 12 #[.val (.ref ho), .val (.int cc)] [(.ref arr), (.ref ho)])) rfl rfl (hb hby d1_12)
  refine Go.back (f' := (mkF m 15 #[.val (.ref ho), .val (.int cc)] [])) st15 ?_
  have Ex_16 := Ex_11.wr W15
  have Fl_17 := Fl_12.other W15 (Or.inr (slot_ne (Or.inl (hw _ (List.mem_of_getElem? (i := 22) rfl))) (Or.inl (hw _ (List.mem_of_getElem? (i := 15) rfl))) (by decide) (t := .int) (t' := (.array .long)) (by decide) (by decide)))
  have Fl_18 := Fl_13.same W15
  have Ar_19 := V10.other W15 (Ne.symm ne_ho_arr)
  have K_20 := K_14.wr W15 (Or.inl (List.mem_of_getElem? (i := 0) rfl)) g_ho
  exact Go.ret0 X15 hx hret hlk (hb hby d1_15) (by (try rw [e15]); exact ⟨rfl, K_20, arr, sz_arr, Ex_16, Fl_17, Fl_18, Ar_19.to (by simp), rfl, Nat.zero_le _, (by simp; omega), (by simp; omega), fun k h1 h2 => absurd h2 (by omega)⟩) (by decide) (by decide)
theorem ef_rmAdd (m : MethodId) (x0 : Addr) (x1 : Int64) : entryFrame m #[(.ref x0), (.long x1)] 5 = mkF m 0 #[.val (.ref x0), .val (.long x1), .second, .unset, .unset] [] := by first | (simp [entryFrame, mkF, argsToLocals, Value.category]; done) | rfl
set_option maxRecDepth 65536 in
set_option maxHeartbeats 40000000 in
theorem rmAdd (l : Launch) (Z : State) (a0 : Array Value) (hw : ∀ d ∈ tables_1, d.before a0 Z = true) (ho arr : Addr) (x : Int64) (m32 : Int32) (vs : List Int64) (n n0 : Nat) (h0 : Heap) (Z0 : n0 ≤ h0.size) (R0 : HR Z h0 ho arr vs n m32) (n4 : n ≤ 4) (g_ho : n0 ≤ ho) (g_arr : n0 ≤ arr) :
    Met l Z (⟨"com/example/corymb/corymb/engine/LongHeap", "add", "(J)V"⟩ : MethodName) prog_11_method_2_code 5 none ({ frames := 2, cells := 1, slots := 8, locals := 60 } : Room) #[(.ref ho), (.long x)] h0 (fun v h L => v = none ∧ Chg n0 h0 h [ho, arr] L ∧ ∃ arr' vs', (arr' = arr ∨ h0.size ≤ arr') ∧ HR Z h ho arr' vs' (n + 1) (m32 + 1) ∧ (vs'.take (n + 1)).Perm (x :: vs.take n)) := by
  refine Met.intro (plainFor_of_name (by first | (simp [plainName, overriddenIn]; done) | decide +kernel)) ?_
  intro p e s m below meth c T0 hx hby hml hown hnm hret hlk hZ X0 e0
  refine Go.cast (ef_rmAdd m ho x) ?_
  obtain ⟨Ex, F1, F2, A, hn, hnl, hl8, hl1, hp⟩ := R0
  have ne_ho_arr : ho ≠ arr := A.exa_ne Ex (hw _ (List.mem_of_getElem? (i := 2) rfl))
  have K0 : Chg n0 h0 h0 [ho, arr] [] := Chg.refl Z0
  have fin29 : ∀ (T : State) (h : Heap) (locs : List Loc) (ax : Addr) (ws : List Int64), Stand p l e ({ frames := 2, cells := 1, slots := 8, locals := 60 } : Room) s m #[(.ref ho), (.long x)] below meth c T locs 1 8 → T.heap = h → Exa Z h ho "com/example/corymb/corymb/engine/LongHeap" → Fld Z h ho "com/example/corymb/corymb/engine/LongHeap" "size" "I" (.int m32) → Fld Z h ho "com/example/corymb/corymb/engine/LongHeap" "values" "[J" (.ref ax) → VArr Z h ax .long (ws.map Value.long) → Chg n0 h0 h [ho, arr] locs → (ax = arr ∨ h0.size ≤ ax) → ws.take n = vs.take n → n < ws.length → ws.length ≤ 8 → Go p e below s (fun v h L => v = none ∧ Chg n0 h0 h [ho, arr] L ∧ ∃ arr' vs', (arr' = arr ∨ h0.size ≤ arr') ∧ HR Z h ho arr' vs' (n + 1) (m32 + 1) ∧ (vs'.take (n + 1)).Perm (x :: vs.take n)) ({ frames := 2, cells := 1, slots := 8, locals := 60 } : Room).cells ({ frames := 2, cells := 1, slots := 8, locals := 60 } : Room).slots T (mkF m 29 #[.val (.ref ho), .val (.long x), .second, .unset, .unset] []) := by
    intro T29 h29 locs29 ax ws X29 e29 Ex29 F129 F229 A29 K29 qax etk hlt hw8
    have ne_ho_ax : ho ≠ ax := A29.exa_ne Ex29 (hw _ (List.mem_of_getElem? (i := 2) rfl))
    have mm : ax ∈ [ho, arr] ∨ h0.size ≤ ax := qax.imp (fun q => by rw [q]; exact List.mem_of_getElem? (i := 1) rfl) id
    have gg : n0 ≤ ax := qax.elim (fun q => q ▸ g_arr) (fun q => K29.ge q)
    refine Go.back (f' := (mkF m 30 #[.val (.ref ho), .val (.long x), .second, .unset, .unset] [(.ref ho)])) (fun _ k => XS.aloadN X29.here hx rfl (hb hby d4_29) rfl rfl k) ?_
    refine Go.back (f' := (mkF m 31 #[.val (.ref ho), .val (.long x), .second, .unset, .unset] [(.ref ho), (.ref ho)])) (fun _ k => XS.dup X29.here hx rfl (hb hby d4_30) rfl rfl k) ?_
    obtain ⟨T21, X21, e21, st21⟩ := getF X29 hx hZ hown (host := "") (Or.inl (hw _ (List.mem_of_getElem? (i := 21) rfl))) Via.refl e29 F129 (g := (mkF m 31 #[.val (.ref ho), .val (.long x), .second, .unset, .unset] [(.ref ho), (.ref ho)])) rfl rfl (hb hby d4_31)
    refine Go.back (f' := (mkF m 34 #[.val (.ref ho), .val (.long x), .second, .unset, .unset] [(.int m32), (.ref ho)])) st21 ?_
    refine Go.back (f' := (mkF m 35 #[.val (.ref ho), .val (.long x), .second, .unset, .unset] [(.int m32), (.ref ho), (.int m32)])) (fun _ k => XS.dupX1 X21.here hx rfl (hb hby d4_34) rfl rfl rfl k) ?_
    refine Go.back (f' := (mkF m 36 #[.val (.ref ho), .val (.long x), .second, .unset, .unset] [(.int (1 : Int32)), (.int m32), (.ref ho), (.int m32)])) (fun _ k => XS.iconst X21.here hx rfl (hb hby d4_35) k) ?_
    refine Go.back (f' := (mkF m 37 #[.val (.ref ho), .val (.long x), .second, .unset, .unset] [(.int (m32 + (1 : Int32))), (.ref ho), (.int m32)])) (fun _ k => XS.iadd X21.here hx rfl (hb hby d4_36) rfl k) ?_
    obtain ⟨T22, h22, X22, e22, W22, st22⟩ := putF X21 hx hZ hown (host := "") (Or.inl (hw _ (List.mem_of_getElem? (i := 21) rfl))) Via.refl e21 F129 Ex29 (Or.inl (hw _ (List.mem_of_getElem? (i := 22) rfl))) (hw _ (List.mem_of_getElem? (i := 2) rfl)) (ty := .int) (by decide) rfl rfl (g := (mkF m 37 #[.val (.ref ho), .val (.long x), .second, .unset, .unset] [(.int (m32 + (1 : Int32))), (.ref ho), (.int m32)])) rfl rfl (hb hby d4_37)
    refine Go.back (f' := (mkF m 40 #[.val (.ref ho), .val (.long x), .second, .unset, .unset] [(.int m32)])) st22 ?_
    have Ex_23 := Ex29.wr W22
    have Fl_24 := F129.same W22
    have Fl_25 := F229.other W22 (Or.inr (slot_ne (Or.inl (hw _ (List.mem_of_getElem? (i := 15) rfl))) (Or.inl (hw _ (List.mem_of_getElem? (i := 22) rfl))) (by decide) (t := (.array .long)) (t' := .int) (by decide) (by decide)))
    have Ar_26 := A29.other W22 (Ne.symm ne_ho_ax)
    have K_27 := K29.wr W22 (Or.inl (List.mem_of_getElem? (i := 0) rfl)) g_ho
    refine Go.back (f' := (mkF m 41 #[.val (.ref ho), .val (.long x), .second, .val (.int m32), .unset] [])) (fun _ k => XS.istoreN X22.here hx rfl (hb hby d4_40) rfl (l' := #[.val (.ref ho), .val (.long x), .second, .val (.int m32), .unset]) rfl k) ?_
    have lp : ∀ (j : Nat) (T : State) (h : Heap) (locs : List Loc) (ws : List Int64) (j32 : Int32) (s4 : Slot), Stand p l e ({ frames := 2, cells := 1, slots := 8, locals := 60 } : Room) s m #[(.ref ho), (.long x)] below meth c T locs 1 8 → T.heap = h → Exa Z h ho "com/example/corymb/corymb/engine/LongHeap" → Fld Z h ho "com/example/corymb/corymb/engine/LongHeap" "size" "I" (.int (m32 + (1 : Int32))) → Fld Z h ho "com/example/corymb/corymb/engine/LongHeap" "values" "[J" (.ref ax) → VArr Z h ax .long (ws.map Value.long) → Chg n0 h0 h [ho, arr] locs → j32.toInt = j → j < n + 1 → n < ws.length → ws.length ≤ 8 → HU (gl ws) (n + 1) j x.toInt → ((ws.set j x).take (n + 1)).Perm (x :: vs.take n) → (s4 = .unset ∨ ∃ q, s4 = .val (.int q)) → Go p e below s (fun v h L => v = none ∧ Chg n0 h0 h [ho, arr] L ∧ ∃ arr' vs', (arr' = arr ∨ h0.size ≤ arr') ∧ HR Z h ho arr' vs' (n + 1) (m32 + 1) ∧ (vs'.take (n + 1)).Perm (x :: vs.take n)) ({ frames := 2, cells := 1, slots := 8, locals := 60 } : Room).cells ({ frames := 2, cells := 1, slots := 8, locals := 60 } : Room).slots T (mkF m 41 #[.val (.ref ho), .val (.long x), .second, .val (.int j32), s4] []) := by
      intro j
      induction j using Nat.strongRecOn with
      | ind j ih =>
        intro T41 h41 locs41 ws j32 s4 X41 e41 Ex41 F141 F241 A41 K41 hj jn hlt hw8 hU hP hs4
        refine Go.back (f' := (mkF m 42 #[.val (.ref ho), .val (.long x), .second, .val (.int j32), s4] [(.int j32)])) (fun _ k => XS.iloadN X41.here hx rfl (hb hby d4_41) rfl k) ?_
        by_cases h0j : 0 < j32
        · refine Go.back (f' := (mkF m 45 #[.val (.ref ho), .val (.long x), .second, .val (.int j32), s4] [])) (fun _ k => XS.ifNo X41.here hx rfl (hb hby d4_42) rfl ((if0 _ _).trans (tlt h0j).2.2.2) k) ?_
          have j0 : 0 < j := by have := (lt32 (a := 0) (i := 0) rfl hj).mp h0j; omega
          refine Go.back (f' := (mkF m 46 #[.val (.ref ho), .val (.long x), .second, .val (.int j32), s4] [(.int j32)])) (fun _ k => XS.iloadN X41.here hx rfl (hb hby d4_45) rfl k) ?_
          refine Go.back (f' := (mkF m 47 #[.val (.ref ho), .val (.long x), .second, .val (.int j32), s4] [(.int (1 : Int32)), (.int j32)])) (fun _ k => XS.iconst X41.here hx rfl (hb hby d4_46) k) ?_
          refine Go.back (f' := (mkF m 48 #[.val (.ref ho), .val (.long x), .second, .val (.int j32), s4] [(.int (j32 - (1 : Int32)))])) (fun _ k => XS.isub X41.here hx rfl (hb hby d4_47) rfl k) ?_
          refine Go.back (f' := (mkF m 49 #[.val (.ref ho), .val (.long x), .second, .val (.int j32), s4] [(.int (2 : Int32)), (.int (j32 - (1 : Int32)))])) (fun _ k => XS.iconst X41.here hx rfl (hb hby d4_48) k) ?_
          refine Go.back (f' := (mkF m 50 #[.val (.ref ho), .val (.long x), .second, .val (.int j32), s4] [(.int ((j32 - (1 : Int32)) / (2 : Int32)))])) (fun _ k => XS.idiv X41.here hx rfl (hb hby d4_49) rfl (by decide) k) ?_
          refine Go.back (f' := (mkF m 52 #[.val (.ref ho), .val (.long x), .second, .val (.int j32), .val (.int ((j32 - (1 : Int32)) / (2 : Int32)))] [])) (fun _ k => XS.istore X41.here hx rfl (hb hby d4_50) rfl (l' := #[.val (.ref ho), .val (.long x), .second, .val (.int j32), .val (.int ((j32 - (1 : Int32)) / (2 : Int32)))]) (by rcases hs4 with rfl | ⟨_, rfl⟩ <;> rfl) k) ?_
          generalize ep : ((j32 - (1 : Int32)) / (2 : Int32)) = p32
          have hpp := par32 hj j0 (by omega)
          rw [ep] at hpp
          refine Go.back (f' := (mkF m 53 #[.val (.ref ho), .val (.long x), .second, .val (.int j32), .val (.int p32)] [(.ref ho)])) (fun _ k => XS.aloadN X41.here hx rfl (hb hby d4_52) rfl rfl k) ?_
          obtain ⟨T28, X28, e28, st28⟩ := getF X41 hx hZ hown (host := "") (Or.inl (hw _ (List.mem_of_getElem? (i := 14) rfl))) Via.refl e41 F241 (g := (mkF m 53 #[.val (.ref ho), .val (.long x), .second, .val (.int j32), .val (.int p32)] [(.ref ho)])) rfl rfl (hb hby d4_53)
          refine Go.back (f' := (mkF m 56 #[.val (.ref ho), .val (.long x), .second, .val (.int j32), .val (.int p32)] [(.ref ax)])) st28 ?_
          refine Go.back (f' := (mkF m 58 #[.val (.ref ho), .val (.long x), .second, .val (.int j32), .val (.int p32)] [(.int p32), (.ref ax)])) (fun _ k => XS.iload X28.here hx rfl (hb hby d4_56) rfl k) ?_
          refine Go.back (f' := (mkF m 59 #[.val (.ref ho), .val (.long x), .second, .val (.int j32), .val (.int p32)] [(.long (ws.getD ((j - 1) / 2) 0))])) (A41.ldJ X28 hx hZ e28 (hb hby d4_58) (i := ((j - 1) / 2)) hpp (own_get (by omega))) ?_
          refine Go.back (f' := (mkF m 60 #[.val (.ref ho), .val (.long x), .second, .val (.int j32), .val (.int p32)] [(.long x), (.long (ws.getD ((j - 1) / 2) 0))])) (fun _ k => XS.lloadN X28.here hx rfl (hb hby d4_59) rfl k) ?_
          refine Go.back (f' := (mkF m 61 #[.val (.ref ho), .val (.long x), .second, .val (.int j32), .val (.int p32)] [(.int (lcmpW (ws.getD ((j - 1) / 2) 0) x))])) (fun _ k => XS.lcmp X28.here hx rfl (hb hby d4_60) rfl k) ?_
          by_cases hxl : x < (ws.getD ((j - 1) / 2) 0)
          · refine Go.back (f' := (mkF m 67 #[.val (.ref ho), .val (.long x), .second, .val (.int j32), .val (.int p32)] [])) (fun _ k => XS.ifYes X28.here hx rfl (pc0 := 61) (pc' := 67) rfl (hb hby d4_61) rfl (l_gt_t hxl) (by decide) (by decide) k) ?_
            refine Go.back (f' := (mkF m 68 #[.val (.ref ho), .val (.long x), .second, .val (.int j32), .val (.int p32)] [(.ref ho)])) (fun _ k => XS.aloadN X28.here hx rfl (hb hby d4_67) rfl rfl k) ?_
            obtain ⟨T29, X29, e29, st29⟩ := getF X28 hx hZ hown (host := "") (Or.inl (hw _ (List.mem_of_getElem? (i := 14) rfl))) Via.refl e28 F241 (g := (mkF m 68 #[.val (.ref ho), .val (.long x), .second, .val (.int j32), .val (.int p32)] [(.ref ho)])) rfl rfl (hb hby d4_68)
            refine Go.back (f' := (mkF m 71 #[.val (.ref ho), .val (.long x), .second, .val (.int j32), .val (.int p32)] [(.ref ax)])) st29 ?_
            refine Go.back (f' := (mkF m 72 #[.val (.ref ho), .val (.long x), .second, .val (.int j32), .val (.int p32)] [(.int j32), (.ref ax)])) (fun _ k => XS.iloadN X29.here hx rfl (hb hby d4_71) rfl k) ?_
            refine Go.back (f' := (mkF m 73 #[.val (.ref ho), .val (.long x), .second, .val (.int j32), .val (.int p32)] [(.ref ho), (.int j32), (.ref ax)])) (fun _ k => XS.aloadN X29.here hx rfl (hb hby d4_72) rfl rfl k) ?_
            obtain ⟨T30, X30, e30, st30⟩ := getF X29 hx hZ hown (host := "") (Or.inl (hw _ (List.mem_of_getElem? (i := 14) rfl))) Via.refl e29 F241 (g := (mkF m 73 #[.val (.ref ho), .val (.long x), .second, .val (.int j32), .val (.int p32)] [(.ref ho), (.int j32), (.ref ax)])) rfl rfl (hb hby d4_73)
            refine Go.back (f' := (mkF m 76 #[.val (.ref ho), .val (.long x), .second, .val (.int j32), .val (.int p32)] [(.ref ax), (.int j32), (.ref ax)])) st30 ?_
            refine Go.back (f' := (mkF m 78 #[.val (.ref ho), .val (.long x), .second, .val (.int j32), .val (.int p32)] [(.int p32), (.ref ax), (.int j32), (.ref ax)])) (fun _ k => XS.iload X30.here hx rfl (hb hby d4_76) rfl k) ?_
            refine Go.back (f' := (mkF m 79 #[.val (.ref ho), .val (.long x), .second, .val (.int j32), .val (.int p32)] [(.long (ws.getD ((j - 1) / 2) 0)), (.int j32), (.ref ax)])) (A41.ldJ X30 hx hZ e30 (hb hby d4_78) (i := ((j - 1) / 2)) hpp (own_get (by omega))) ?_
            refine Go.stJ A41 X30 hx hZ e30 (hb hby d4_79) (i := j) hj (by rw [List.length_map]; omega) ?_
            intro T31 h31 X31 e31 W31 V31
            have Ex_32 := Ex41.wr W31
            have Fl_33 := F141.other W31 (Or.inl ne_ho_ax)
            have Fl_34 := F241.other W31 (Or.inl ne_ho_ax)
            have K_35 := K41.wr W31 mm gg
            show GoG _ _ _ _ _ (mkF m 80 #[.val (.ref ho), .val (.long x), .second, .val (.int j32), .val (.int p32)] [])
            refine Go.back (f' := (mkF m 82 #[.val (.ref ho), .val (.long x), .second, .val (.int j32), .val (.int p32)] [(.int p32)])) (fun _ k => XS.iload X31.here hx rfl (hb hby d4_80) rfl k) ?_
            refine Go.back (f' := (mkF m 83 #[.val (.ref ho), .val (.long x), .second, .val (.int p32), .val (.int p32)] [])) (fun _ k => XS.istoreN X31.here hx rfl (hb hby d4_82) rfl (l' := #[.val (.ref ho), .val (.long x), .second, .val (.int p32), .val (.int p32)]) rfl k) ?_
            refine Go.back (f' := (mkF m 41 #[.val (.ref ho), .val (.long x), .second, .val (.int p32), .val (.int p32)] [])) (fun _ k => XS.goto X31.here hx rfl (pc0 := 83) (pc' := 41) rfl (hb hby d4_83) (by decide) (by decide) k) ?_
            exact ih ((j - 1) / 2) (by omega) T31 _ _ (ws.set j (ws.getD ((j - 1) / 2) 0)) p32 _ X31 e31 Ex_32 Fl_33 Fl_34 (V31.to (by rw [List.map_set])) K_35 hpp (by omega) (by rw [List.length_set]; exact hlt) (by rw [List.length_set]; exact hw8) (by rw [gl_set _ (by omega)]; exact hU.step j0 jn (gl_lt.mp hxl)) ((perm_swap x (by omega) jn (by omega) (by omega)).trans hP) (Or.inr ⟨_, rfl⟩)
          · refine Go.back (f' := (mkF m 64 #[.val (.ref ho), .val (.long x), .second, .val (.int j32), .val (.int p32)] [])) (fun _ k => XS.ifNo X28.here hx rfl (hb hby d4_61) rfl (l_gt_f hxl) k) ?_
            refine Go.back (f' := (mkF m 86 #[.val (.ref ho), .val (.long x), .second, .val (.int j32), .val (.int p32)] [])) (fun _ k => XS.goto X28.here hx rfl (pc0 := 64) (pc' := 86) rfl (hb hby d4_64) (by decide) (by decide) k) ?_
            refine Go.back (f' := (mkF m 87 #[.val (.ref ho), .val (.long x), .second, .val (.int j32), .val (.int p32)] [(.ref ho)])) (fun _ k => XS.aloadN X28.here hx rfl (hb hby d4_86) rfl rfl k) ?_
            obtain ⟨T36, X36, e36, st36⟩ := getF X28 hx hZ hown (host := "") (Or.inl (hw _ (List.mem_of_getElem? (i := 14) rfl))) Via.refl e28 F241 (g := (mkF m 87 #[.val (.ref ho), .val (.long x), .second, .val (.int j32), .val (.int p32)] [(.ref ho)])) rfl rfl (hb hby d4_87)
            refine Go.back (f' := (mkF m 90 #[.val (.ref ho), .val (.long x), .second, .val (.int j32), .val (.int p32)] [(.ref ax)])) st36 ?_
            refine Go.back (f' := (mkF m 91 #[.val (.ref ho), .val (.long x), .second, .val (.int j32), .val (.int p32)] [(.int j32), (.ref ax)])) (fun _ k => XS.iloadN X36.here hx rfl (hb hby d4_90) rfl k) ?_
            refine Go.back (f' := (mkF m 92 #[.val (.ref ho), .val (.long x), .second, .val (.int j32), .val (.int p32)] [(.long x), (.int j32), (.ref ax)])) (fun _ k => XS.lloadN X36.here hx rfl (hb hby d4_91) rfl k) ?_
            refine Go.stJ A41 X36 hx hZ e36 (hb hby d4_92) (i := j) hj (by rw [List.length_map]; omega) ?_
            intro T37 h37 X37 e37 W37 V37
            have Ex_38 := Ex41.wr W37
            have Fl_39 := F141.other W37 (Or.inl ne_ho_ax)
            have Fl_40 := F241.other W37 (Or.inl ne_ho_ax)
            have K_41 := K41.wr W37 mm gg
            show GoG _ _ _ _ _ (mkF m 93 #[.val (.ref ho), .val (.long x), .second, .val (.int j32), .val (.int p32)] [])
            exact Go.ret0 X37 hx hret hlk (hb hby d4_93) (by (try rw [e37]); exact ⟨rfl, K_41, ax, (ws.set j x), qax, ⟨Ex_38, Fl_39, Fl_40, V37.to (by rw [List.map_set]), (inc32 hn (by omega)), (by rw [List.length_set]; omega), (by rw [List.length_set]; omega), (by rw [List.length_set]; omega), (by rw [gl_set x (by omega)]; exact hU.done (fun _ => by have := mt gl_lt.mpr hxl; omega))⟩, hP⟩) (by decide) (by decide)
        · refine Go.back (f' := (mkF m 86 #[.val (.ref ho), .val (.long x), .second, .val (.int j32), s4] [])) (fun _ k => XS.ifYes X41.here hx rfl (pc0 := 42) (pc' := 86) rfl (hb hby d4_42) rfl ((if0 _ _).trans (flt h0j).2.2.2) (by decide) (by decide) k) ?_
          have j0 : ¬ 0 < j := fun q => h0j ((lt32 (a := 0) (i := 0) rfl hj).mpr (by omega))
          refine Go.back (f' := (mkF m 87 #[.val (.ref ho), .val (.long x), .second, .val (.int j32), s4] [(.ref ho)])) (fun _ k => XS.aloadN X41.here hx rfl (hb hby d4_86) rfl rfl k) ?_
          obtain ⟨T42, X42, e42, st42⟩ := getF X41 hx hZ hown (host := "") (Or.inl (hw _ (List.mem_of_getElem? (i := 14) rfl))) Via.refl e41 F241 (g := (mkF m 87 #[.val (.ref ho), .val (.long x), .second, .val (.int j32), s4] [(.ref ho)])) rfl rfl (hb hby d4_87)
          refine Go.back (f' := (mkF m 90 #[.val (.ref ho), .val (.long x), .second, .val (.int j32), s4] [(.ref ax)])) st42 ?_
          refine Go.back (f' := (mkF m 91 #[.val (.ref ho), .val (.long x), .second, .val (.int j32), s4] [(.int j32), (.ref ax)])) (fun _ k => XS.iloadN X42.here hx rfl (hb hby d4_90) rfl k) ?_
          refine Go.back (f' := (mkF m 92 #[.val (.ref ho), .val (.long x), .second, .val (.int j32), s4] [(.long x), (.int j32), (.ref ax)])) (fun _ k => XS.lloadN X42.here hx rfl (hb hby d4_91) rfl k) ?_
          refine Go.stJ A41 X42 hx hZ e42 (hb hby d4_92) (i := j) hj (by rw [List.length_map]; omega) ?_
          intro T43 h43 X43 e43 W43 V43
          have Ex_44 := Ex41.wr W43
          have Fl_45 := F141.other W43 (Or.inl ne_ho_ax)
          have Fl_46 := F241.other W43 (Or.inl ne_ho_ax)
          have K_47 := K41.wr W43 mm gg
          show GoG _ _ _ _ _ (mkF m 93 #[.val (.ref ho), .val (.long x), .second, .val (.int j32), s4] [])
          exact Go.ret0 X43 hx hret hlk (hb hby d4_93) (by (try rw [e43]); exact ⟨rfl, K_47, ax, (ws.set j x), qax, ⟨Ex_44, Fl_45, Fl_46, V43.to (by rw [List.map_set]), (inc32 hn (by omega)), (by rw [List.length_set]; omega), (by rw [List.length_set]; omega), (by rw [List.length_set]; omega), (by rw [gl_set x (by omega)]; exact hU.done (fun q => absurd q j0))⟩, hP⟩) (by decide) (by decide)
    exact lp n T22 _ _ ws m32 _ X22 e22 Ex_23 Fl_24 Fl_25 Ar_26 K_27 hn (by omega) hlt hw8 (HU.start _ (hp_congr etk hp)) ((perm_last x hlt).trans (by rw [etk])) (Or.inl rfl)
  refine Go.back (f' := (mkF m 1 #[.val (.ref ho), .val (.long x), .second, .unset, .unset] [(.ref ho)])) (fun _ k => XS.aloadN X0.here hx rfl (hb hby d4_0) rfl rfl k) ?_
  obtain ⟨T48, X48, e48, st48⟩ := getF X0 hx hZ hown (host := "") (Or.inl (hw _ (List.mem_of_getElem? (i := 21) rfl))) Via.refl e0 F1 (g := (mkF m 1 #[.val (.ref ho), .val (.long x), .second, .unset, .unset] [(.ref ho)])) rfl rfl (hb hby d4_1)
  refine Go.back (f' := (mkF m 4 #[.val (.ref ho), .val (.long x), .second, .unset, .unset] [(.int m32)])) st48 ?_
  refine Go.back (f' := (mkF m 5 #[.val (.ref ho), .val (.long x), .second, .unset, .unset] [(.ref ho), (.int m32)])) (fun _ k => XS.aloadN X48.here hx rfl (hb hby d4_4) rfl rfl k) ?_
  obtain ⟨T49, X49, e49, st49⟩ := getF X48 hx hZ hown (host := "") (Or.inl (hw _ (List.mem_of_getElem? (i := 14) rfl))) Via.refl e48 F2 (g := (mkF m 5 #[.val (.ref ho), .val (.long x), .second, .unset, .unset] [(.ref ho), (.int m32)])) rfl rfl (hb hby d4_5)
  refine Go.back (f' := (mkF m 8 #[.val (.ref ho), .val (.long x), .second, .unset, .unset] [(.ref arr), (.int m32)])) st49 ?_
  refine Go.back (f' := (mkF m 9 #[.val (.ref ho), .val (.long x), .second, .unset, .unset] [(.int ((vs.map Value.long)).length.toInt32), (.int m32)])) (A.lenS X49 hx hZ e49 (hb hby d4_8)) ?_
  rw [List.length_map]
  show GoG _ _ _ _ _ (mkF m 9 #[.val (.ref ho), .val (.long x), .second, .unset, .unset] [(.int vs.length.toInt32), (.int m32)])
  by_cases hg : m32 = vs.length.toInt32
  · refine Go.back (f' := (mkF m 12 #[.val (.ref ho), .val (.long x), .second, .unset, .unset] [])) (fun _ k => XS.icmpNo X49.here hx rfl (hb hby d4_9) rfl (teq hg).2 k) ?_
    have en : n = vs.length := (eq32 hn (n32 (by omega))).mp hg
    refine Go.back (f' := (mkF m 13 #[.val (.ref ho), .val (.long x), .second, .unset, .unset] [(.ref ho)])) (fun _ k => XS.aloadN X49.here hx rfl (hb hby d4_12) rfl rfl k) ?_
    refine Go.back (f' := (mkF m 14 #[.val (.ref ho), .val (.long x), .second, .unset, .unset] [(.ref ho), (.ref ho)])) (fun _ k => XS.aloadN X49.here hx rfl (hb hby d4_13) rfl rfl k) ?_
    obtain ⟨T50, X50, e50, st50⟩ := getF X49 hx hZ hown (host := "") (Or.inl (hw _ (List.mem_of_getElem? (i := 14) rfl))) Via.refl e49 F2 (g := (mkF m 14 #[.val (.ref ho), .val (.long x), .second, .unset, .unset] [(.ref ho), (.ref ho)])) rfl rfl (hb hby d4_14)
    refine Go.back (f' := (mkF m 17 #[.val (.ref ho), .val (.long x), .second, .unset, .unset] [(.ref arr), (.ref ho)])) st50 ?_
    refine Go.back (f' := (mkF m 18 #[.val (.ref ho), .val (.long x), .second, .unset, .unset] [(.int (2 : Int32)), (.ref arr), (.ref ho)])) (fun _ k => XS.iconst X50.here hx rfl (hb hby d4_17) k) ?_
    refine Go.back (f' := (mkF m 19 #[.val (.ref ho), .val (.long x), .second, .unset, .unset] [(.ref ho), (.int (2 : Int32)), (.ref arr), (.ref ho)])) (fun _ k => XS.aloadN X50.here hx rfl (hb hby d4_18) rfl rfl k) ?_
    obtain ⟨T51, X51, e51, st51⟩ := getF X50 hx hZ hown (host := "") (Or.inl (hw _ (List.mem_of_getElem? (i := 21) rfl))) Via.refl e50 F1 (g := (mkF m 19 #[.val (.ref ho), .val (.long x), .second, .unset, .unset] [(.ref ho), (.int (2 : Int32)), (.ref arr), (.ref ho)])) rfl rfl (hb hby d4_19)
    refine Go.back (f' := (mkF m 22 #[.val (.ref ho), .val (.long x), .second, .unset, .unset] [(.int m32), (.int (2 : Int32)), (.ref arr), (.ref ho)])) st51 ?_
    refine Go.back (f' := (mkF m 23 #[.val (.ref ho), .val (.long x), .second, .unset, .unset] [(.int ((2 : Int32) * m32)), (.ref arr), (.ref ho)])) (fun _ k => XS.imul X51.here hx rfl (hb hby d4_22) rfl k) ?_
    have h2n := own_two hn (by omega)
    have ek : 2 * n = (vs.map Value.long).length + n := by rw [List.length_map]; omega
    rw [ek] at h2n
    refine Go.callS X51 hx hZ hown (hw _ (List.mem_of_getElem? (i := 23) rfl)) (hw _ (List.mem_of_getElem? (i := 24) rfl)) (hw _ (List.mem_of_getElem? (i := 25) rfl)) (hw _ (List.mem_of_getElem? (i := 26) rfl)) (by decide) e51 (argsL := [(.ref arr), (.int ((2 : Int32) * m32))]) (rest := [(.ref ho)]) (rmCopy l Z a0 hw arr ((2 : Int32) * m32) (vs.map Value.long) n n0 h0 K0.size A h2n (by omega) (by rw [List.length_map]; omega)) (lenOf pd_1 rfl) rfl (by rw [hml]; rfl) (W := 1) (Nat.le_of_eq rfl) (hb hby d4_23) (by decide) (by decide) (by decide) (by decide) ?_
    intro v52 T52 L52 X52 hQ52
    obtain ⟨b1, rfl, C52, z52, V52⟩ := hQ52
    have ne_arr_b1 : arr ≠ b1 := Nat.ne_of_lt (Nat.lt_of_lt_of_le A.lt z52)
    have ne_ho_b1 : ho ≠ b1 := Nat.ne_of_lt (Nat.lt_of_lt_of_le Ex.lt z52)
    have sz_b1 := Nat.le_trans K0.grow z52
    have g_b1 := K0.ge sz_b1
    have Ex_53 := Ex.keep C52.keep
    have Fl_54 := F1.keep C52.keep nin0
    have Fl_55 := F2.keep C52.keep nin0
    have Ar_56 := A.keep C52.keep nin0
    have K_57 := K0.call C52 all0
    show GoG _ _ _ _ _ (mkF m 26 #[.val (.ref ho), .val (.long x), .second, .unset, .unset] [(.ref b1), (.ref ho)])
    obtain ⟨T58, h58, X58, e58, W58, st58⟩ := putF X52 hx hZ hown (host := "") (Or.inl (hw _ (List.mem_of_getElem? (i := 14) rfl))) Via.refl rfl Fl_55 Ex_53 (Or.inl (hw _ (List.mem_of_getElem? (i := 15) rfl))) (hw _ (List.mem_of_getElem? (i := 2) rfl)) (ty := (.array .long)) (by decide) rfl rfl (g := (mkF m 26 #[.val (.ref ho), .val (.long x), .second, .unset, .unset] [(.ref b1), (.ref ho)])) rfl rfl (hb hby d4_26)
    refine Go.back (f' := (mkF m 29 #[.val (.ref ho), .val (.long x), .second, .unset, .unset] [])) st58 ?_
    have Ex_59 := Ex_53.wr W58
    have Fl_60 := Fl_54.other W58 (Or.inr (slot_ne (Or.inl (hw _ (List.mem_of_getElem? (i := 22) rfl))) (Or.inl (hw _ (List.mem_of_getElem? (i := 15) rfl))) (by decide) (t := .int) (t' := (.array .long)) (by decide) (by decide)))
    have Fl_61 := Fl_55.same W58
    have Ar_62 := Ar_56.other W58 (Ne.symm ne_ho_arr)
    have Ar_63 := V52.other W58 (Ne.symm ne_ho_b1)
    have K_64 := K_57.wr W58 (Or.inl (List.mem_of_getElem? (i := 0) rfl)) g_ho
    exact fin29 T58 _ _ b1 (vs ++ List.replicate n 0) (X58.more (by decide) (by decide)) e58 Ex_59 Fl_60 Fl_61 (Ar_63.to (by rw [List.map_append, List.map_replicate])) K_64 (Or.inr sz_b1) (List.take_append_of_le_length (by omega)) (by simp; omega) (by simp; omega)
  · refine Go.back (f' := (mkF m 29 #[.val (.ref ho), .val (.long x), .second, .unset, .unset] [])) (fun _ k => XS.icmpYes X49.here hx rfl (pc0 := 9) (pc' := 29) rfl (hb hby d4_9) rfl (feq hg).2 (by decide) (by decide) k) ?_
    exact fin29 T49 _ _ arr vs (X49.more (by decide) (by decide)) e49 Ex F1 F2 A K0 (Or.inl rfl) rfl (by have : n ≠ vs.length := fun q => hg ((eq32 hn (n32 (by omega))).mpr q); omega) hl8
theorem ef_rmPoll (m : MethodId) (x0 : Addr) : entryFrame m #[(.ref x0)] 7 = mkF m 0 #[.val (.ref x0), .unset, .unset, .unset, .unset, .unset, .unset] [] := by first | (simp [entryFrame, mkF, argsToLocals, Value.category]; done) | rfl
set_option maxRecDepth 65536 in
set_option maxHeartbeats 40000000 in
theorem rmPoll (l : Launch) (Z : State) (a0 : Array Value) (hw : ∀ d ∈ tables_1, d.before a0 Z = true) (ho arr : Addr) (m32 : Int32) (vs : List Int64) (n n0 : Nat) (h0 : Heap) (Z0 : n0 ≤ h0.size) (R0 : HR Z h0 ho arr vs (n + 1) m32) (g_ho : n0 ≤ ho) (g_arr : n0 ≤ arr) :
    Met l Z (⟨"com/example/corymb/corymb/engine/LongHeap", "poll", "()J"⟩ : MethodName) prog_11_method_3_code 7 (some .long) ({ frames := 0, cells := 0, slots := 0, locals := 0 } : Room) #[(.ref ho)] h0 (fun v h L => v = some (.long (vs.getD 0 0)) ∧ Chg n0 h0 h [ho, arr] L ∧ ∃ vs', HR Z h ho arr vs' n (m32 - 1) ∧ (vs.getD 0 0 :: vs'.take n).Perm (vs.take (n + 1)) ∧ (∀ y ∈ vs.take (n + 1), (vs.getD 0 0).toInt ≤ y.toInt)) := by
  refine Met.intro (plainFor_of_name (by first | (simp [plainName, overriddenIn]; done) | decide +kernel)) ?_
  intro p e s m below meth c T0 hx hby hml hown hnm hret hlk hZ X0 e0
  refine Go.cast (ef_rmPoll m ho) ?_
  have hmin : ∀ y ∈ vs.take (n + 1), (vs.getD 0 0).toInt ≤ y.toInt := by
    intro y hy
    obtain ⟨k, hk, e⟩ := List.getElem_of_mem hy
    have hk' : k < n + 1 := by simp at hk; omega
    have q := (R0.2.2.2.2.2.2.2.2).root k hk'
    have l2 := R0.2.2.2.2.2.1
    have e2 : vs.getD k 0 = y := by
      rw [← e, List.getElem_take, List.getD_eq_getElem?_getD, List.getElem?_eq_getElem (by omega)]; rfl
    rw [← e2]; exact q
  obtain ⟨Ex, F1, F2, A, hn, hnl, hl8, hl1, hp⟩ := R0
  have ne_ho_arr : ho ≠ arr := A.exa_ne Ex (hw _ (List.mem_of_getElem? (i := 2) rfl))
  have K0 : Chg n0 h0 h0 [ho, arr] [] := Chg.refl Z0
  refine Go.back (f' := (mkF m 1 #[.val (.ref ho), .unset, .unset, .unset, .unset, .unset, .unset] [(.ref ho)])) (fun _ k => XS.aloadN X0.here hx rfl (hb hby d7_0) rfl rfl k) ?_
  obtain ⟨T65, X65, e65, st65⟩ := getF X0 hx hZ hown (host := "") (Or.inl (hw _ (List.mem_of_getElem? (i := 21) rfl))) Via.refl e0 F1 (g := (mkF m 1 #[.val (.ref ho), .unset, .unset, .unset, .unset, .unset, .unset] [(.ref ho)])) rfl rfl (hb hby d7_1)
  refine Go.back (f' := (mkF m 4 #[.val (.ref ho), .unset, .unset, .unset, .unset, .unset, .unset] [(.int m32)])) st65 ?_
  refine Go.back (f' := (mkF m 17 #[.val (.ref ho), .unset, .unset, .unset, .unset, .unset, .unset] [])) (fun _ k => XS.ifYes X65.here hx rfl (pc0 := 4) (pc' := 17) rfl (hb hby d7_4) rfl ((if0 _ _).trans (feq (fun q => by rw [q] at hn; have e0 : (0 : Int32).toInt = 0 := rfl; omega)).2) (by decide) (by decide) k) ?_
  refine Go.back (f' := (mkF m 18 #[.val (.ref ho), .unset, .unset, .unset, .unset, .unset, .unset] [(.ref ho)])) (fun _ k => XS.aloadN X65.here hx rfl (hb hby d7_17) rfl rfl k) ?_
  obtain ⟨T66, X66, e66, st66⟩ := getF X65 hx hZ hown (host := "") (Or.inl (hw _ (List.mem_of_getElem? (i := 14) rfl))) Via.refl e65 F2 (g := (mkF m 18 #[.val (.ref ho), .unset, .unset, .unset, .unset, .unset, .unset] [(.ref ho)])) rfl rfl (hb hby d7_18)
  refine Go.back (f' := (mkF m 21 #[.val (.ref ho), .unset, .unset, .unset, .unset, .unset, .unset] [(.ref arr)])) st66 ?_
  refine Go.back (f' := (mkF m 22 #[.val (.ref ho), .unset, .unset, .unset, .unset, .unset, .unset] [(.int (0 : Int32)), (.ref arr)])) (fun _ k => XS.iconst X66.here hx rfl (hb hby d7_21) k) ?_
  refine Go.back (f' := (mkF m 23 #[.val (.ref ho), .unset, .unset, .unset, .unset, .unset, .unset] [(.long (vs.getD 0 0))])) (A.ldJ X66 hx hZ e66 (hb hby d7_22) (i := 0) rfl (own_get (by omega))) ?_
  refine Go.back (f' := (mkF m 24 #[.val (.ref ho), .val (.long (vs.getD 0 0)), .second, .unset, .unset, .unset, .unset] [])) (fun _ k => XS.lstoreN X66.here hx rfl (hb hby d7_23) rfl (l' := #[.val (.ref ho), .val (.long (vs.getD 0 0)), .second, .unset, .unset, .unset, .unset]) rfl k) ?_
  refine Go.back (f' := (mkF m 25 #[.val (.ref ho), .val (.long (vs.getD 0 0)), .second, .unset, .unset, .unset, .unset] [(.ref ho)])) (fun _ k => XS.aloadN X66.here hx rfl (hb hby d7_24) rfl rfl k) ?_
  obtain ⟨T67, X67, e67, st67⟩ := getF X66 hx hZ hown (host := "") (Or.inl (hw _ (List.mem_of_getElem? (i := 14) rfl))) Via.refl e66 F2 (g := (mkF m 25 #[.val (.ref ho), .val (.long (vs.getD 0 0)), .second, .unset, .unset, .unset, .unset] [(.ref ho)])) rfl rfl (hb hby d7_25)
  refine Go.back (f' := (mkF m 28 #[.val (.ref ho), .val (.long (vs.getD 0 0)), .second, .unset, .unset, .unset, .unset] [(.ref arr)])) st67 ?_
  refine Go.back (f' := (mkF m 29 #[.val (.ref ho), .val (.long (vs.getD 0 0)), .second, .unset, .unset, .unset, .unset] [(.ref ho), (.ref arr)])) (fun _ k => XS.aloadN X67.here hx rfl (hb hby d7_28) rfl rfl k) ?_
  refine Go.back (f' := (mkF m 30 #[.val (.ref ho), .val (.long (vs.getD 0 0)), .second, .unset, .unset, .unset, .unset] [(.ref ho), (.ref ho), (.ref arr)])) (fun _ k => XS.dup X67.here hx rfl (hb hby d7_29) rfl rfl k) ?_
  obtain ⟨T68, X68, e68, st68⟩ := getF X67 hx hZ hown (host := "") (Or.inl (hw _ (List.mem_of_getElem? (i := 21) rfl))) Via.refl e67 F1 (g := (mkF m 30 #[.val (.ref ho), .val (.long (vs.getD 0 0)), .second, .unset, .unset, .unset, .unset] [(.ref ho), (.ref ho), (.ref arr)])) rfl rfl (hb hby d7_30)
  refine Go.back (f' := (mkF m 33 #[.val (.ref ho), .val (.long (vs.getD 0 0)), .second, .unset, .unset, .unset, .unset] [(.int m32), (.ref ho), (.ref arr)])) st68 ?_
  refine Go.back (f' := (mkF m 34 #[.val (.ref ho), .val (.long (vs.getD 0 0)), .second, .unset, .unset, .unset, .unset] [(.int (1 : Int32)), (.int m32), (.ref ho), (.ref arr)])) (fun _ k => XS.iconst X68.here hx rfl (hb hby d7_33) k) ?_
  refine Go.back (f' := (mkF m 35 #[.val (.ref ho), .val (.long (vs.getD 0 0)), .second, .unset, .unset, .unset, .unset] [(.int (m32 - (1 : Int32))), (.ref ho), (.ref arr)])) (fun _ k => XS.isub X68.here hx rfl (hb hby d7_34) rfl k) ?_
  refine Go.back (f' := (mkF m 36 #[.val (.ref ho), .val (.long (vs.getD 0 0)), .second, .unset, .unset, .unset, .unset] [(.int (m32 - (1 : Int32))), (.ref ho), (.int (m32 - (1 : Int32))), (.ref arr)])) (fun _ k => XS.dupX1 X68.here hx rfl (hb hby d7_35) rfl rfl rfl k) ?_
  obtain ⟨T69, h69, X69, e69, W69, st69⟩ := putF X68 hx hZ hown (host := "") (Or.inl (hw _ (List.mem_of_getElem? (i := 21) rfl))) Via.refl e68 F1 Ex (Or.inl (hw _ (List.mem_of_getElem? (i := 22) rfl))) (hw _ (List.mem_of_getElem? (i := 2) rfl)) (ty := .int) (by decide) rfl rfl (g := (mkF m 36 #[.val (.ref ho), .val (.long (vs.getD 0 0)), .second, .unset, .unset, .unset, .unset] [(.int (m32 - (1 : Int32))), (.ref ho), (.int (m32 - (1 : Int32))), (.ref arr)])) rfl rfl (hb hby d7_36)
  refine Go.back (f' := (mkF m 39 #[.val (.ref ho), .val (.long (vs.getD 0 0)), .second, .unset, .unset, .unset, .unset] [(.int (m32 - (1 : Int32))), (.ref arr)])) st69 ?_
  have Ex_70 := Ex.wr W69
  have Fl_71 := F1.same W69
  have Fl_72 := F2.other W69 (Or.inr (slot_ne (Or.inl (hw _ (List.mem_of_getElem? (i := 15) rfl))) (Or.inl (hw _ (List.mem_of_getElem? (i := 22) rfl))) (by decide) (t := (.array .long)) (t' := .int) (by decide) (by decide)))
  have Ar_73 := A.other W69 (Ne.symm ne_ho_arr)
  have K_74 := K0.wr W69 (Or.inl (List.mem_of_getElem? (i := 0) rfl)) g_ho
  have hm := dec32 hn (by omega)
  refine Go.back (f' := (mkF m 40 #[.val (.ref ho), .val (.long (vs.getD 0 0)), .second, .unset, .unset, .unset, .unset] [(.long (vs.getD n 0))])) (Ar_73.ldJ X69 hx hZ e69 (hb hby d7_39) (i := n) hm (own_get (by omega))) ?_
  refine Go.back (f' := (mkF m 41 #[.val (.ref ho), .val (.long (vs.getD 0 0)), .second, .val (.long (vs.getD n 0)), .second, .unset, .unset] [])) (fun _ k => XS.lstoreN X69.here hx rfl (hb hby d7_40) rfl (l' := #[.val (.ref ho), .val (.long (vs.getD 0 0)), .second, .val (.long (vs.getD n 0)), .second, .unset, .unset]) rfl k) ?_
  refine Go.back (f' := (mkF m 42 #[.val (.ref ho), .val (.long (vs.getD 0 0)), .second, .val (.long (vs.getD n 0)), .second, .unset, .unset] [(.int (0 : Int32))])) (fun _ k => XS.iconst X69.here hx rfl (hb hby d7_41) k) ?_
  refine Go.back (f' := (mkF m 44 #[.val (.ref ho), .val (.long (vs.getD 0 0)), .second, .val (.long (vs.getD n 0)), .second, .val (.int (0 : Int32)), .unset] [])) (fun _ k => XS.istore X69.here hx rfl (hb hby d7_42) rfl (l' := #[.val (.ref ho), .val (.long (vs.getD 0 0)), .second, .val (.long (vs.getD n 0)), .second, .val (.int (0 : Int32)), .unset]) rfl k) ?_
  have lp : ∀ (u j : Nat) (T : State) (h : Heap) (locs : List Loc) (ws : List Int64) (j32 : Int32) (s6 : Slot), Stand p l e ({ frames := 0, cells := 0, slots := 0, locals := 0 } : Room) s m #[(.ref ho)] below meth c T locs 0 0 → T.heap = h → Exa Z h ho "com/example/corymb/corymb/engine/LongHeap" → Fld Z h ho "com/example/corymb/corymb/engine/LongHeap" "size" "I" (.int (m32 - (1 : Int32))) → Fld Z h ho "com/example/corymb/corymb/engine/LongHeap" "values" "[J" (.ref arr) → VArr Z h arr .long (ws.map Value.long) → Chg n0 h0 h [ho, arr] locs → j32.toInt = j → n + 1 ≤ j + u → j < n + 1 → n < ws.length → ws.length = vs.length → HD (gl ws) n j (vs.getD n 0).toInt → (vs.getD 0 0 :: (ws.set j (vs.getD n 0)).take n).Perm (vs.take (n + 1)) → (s6 = .unset ∨ ∃ q, s6 = .val (.int q)) → Go p e below s (fun v h L => v = some (.long (vs.getD 0 0)) ∧ Chg n0 h0 h [ho, arr] L ∧ ∃ vs', HR Z h ho arr vs' n (m32 - 1) ∧ (vs.getD 0 0 :: vs'.take n).Perm (vs.take (n + 1)) ∧ (∀ y ∈ vs.take (n + 1), (vs.getD 0 0).toInt ≤ y.toInt)) ({ frames := 0, cells := 0, slots := 0, locals := 0 } : Room).cells ({ frames := 0, cells := 0, slots := 0, locals := 0 } : Room).slots T (mkF m 44 #[.val (.ref ho), .val (.long (vs.getD 0 0)), .second, .val (.long (vs.getD n 0)), .second, .val (.int j32), s6] []) := by
    intro u
    induction u with
    | zero => intro j T h locs ws j32 s6 X e Ex F1 F2 A K hj hu hjn; omega
    | succ u ih =>
      intro j T44 h44 locs44 ws j32 s6 X44 e44 Ex44 F144 F244 A44 K44 hj hu hjn hlt hwl hD hP hs6
      refine Go.back (f' := (mkF m 45 #[.val (.ref ho), .val (.long (vs.getD 0 0)), .second, .val (.long (vs.getD n 0)), .second, .val (.int j32), s6] [(.int (2 : Int32))])) (fun _ k => XS.iconst X44.here hx rfl (hb hby d7_44) k) ?_
      refine Go.back (f' := (mkF m 47 #[.val (.ref ho), .val (.long (vs.getD 0 0)), .second, .val (.long (vs.getD n 0)), .second, .val (.int j32), s6] [(.int j32), (.int (2 : Int32))])) (fun _ k => XS.iload X44.here hx rfl (hb hby d7_45) rfl k) ?_
      refine Go.back (f' := (mkF m 48 #[.val (.ref ho), .val (.long (vs.getD 0 0)), .second, .val (.long (vs.getD n 0)), .second, .val (.int j32), s6] [(.int ((2 : Int32) * j32))])) (fun _ k => XS.imul X44.here hx rfl (hb hby d7_47) rfl k) ?_
      refine Go.back (f' := (mkF m 49 #[.val (.ref ho), .val (.long (vs.getD 0 0)), .second, .val (.long (vs.getD n 0)), .second, .val (.int j32), s6] [(.int (1 : Int32)), (.int ((2 : Int32) * j32))])) (fun _ k => XS.iconst X44.here hx rfl (hb hby d7_48) k) ?_
      refine Go.back (f' := (mkF m 50 #[.val (.ref ho), .val (.long (vs.getD 0 0)), .second, .val (.long (vs.getD n 0)), .second, .val (.int j32), s6] [(.int (((2 : Int32) * j32) + (1 : Int32)))])) (fun _ k => XS.iadd X44.here hx rfl (hb hby d7_49) rfl k) ?_
      refine Go.back (f' := (mkF m 52 #[.val (.ref ho), .val (.long (vs.getD 0 0)), .second, .val (.long (vs.getD n 0)), .second, .val (.int j32), .val (.int (((2 : Int32) * j32) + (1 : Int32)))] [])) (fun _ k => XS.istore X44.here hx rfl (hb hby d7_50) rfl (l' := #[.val (.ref ho), .val (.long (vs.getD 0 0)), .second, .val (.long (vs.getD n 0)), .second, .val (.int j32), .val (.int (((2 : Int32) * j32) + (1 : Int32)))]) (by rcases hs6 with rfl | ⟨_, rfl⟩ <;> rfl) k) ?_
      generalize ec : (((2 : Int32) * j32) + (1 : Int32)) = c32
      have hc := chi32 hj (by omega)
      rw [ec] at hc
      refine Go.back (f' := (mkF m 54 #[.val (.ref ho), .val (.long (vs.getD 0 0)), .second, .val (.long (vs.getD n 0)), .second, .val (.int j32), .val (.int c32)] [(.int c32)])) (fun _ k => XS.iload X44.here hx rfl (hb hby d7_52) rfl k) ?_
      refine Go.back (f' := (mkF m 55 #[.val (.ref ho), .val (.long (vs.getD 0 0)), .second, .val (.long (vs.getD n 0)), .second, .val (.int j32), .val (.int c32)] [(.ref ho), (.int c32)])) (fun _ k => XS.aloadN X44.here hx rfl (hb hby d7_54) rfl rfl k) ?_
      obtain ⟨T75, X75, e75, st75⟩ := getF X44 hx hZ hown (host := "") (Or.inl (hw _ (List.mem_of_getElem? (i := 21) rfl))) Via.refl e44 F144 (g := (mkF m 55 #[.val (.ref ho), .val (.long (vs.getD 0 0)), .second, .val (.long (vs.getD n 0)), .second, .val (.int j32), .val (.int c32)] [(.ref ho), (.int c32)])) rfl rfl (hb hby d7_55)
      refine Go.back (f' := (mkF m 58 #[.val (.ref ho), .val (.long (vs.getD 0 0)), .second, .val (.long (vs.getD n 0)), .second, .val (.int j32), .val (.int c32)] [(.int (m32 - (1 : Int32))), (.int c32)])) st75 ?_
      by_cases h1 : c32 < (m32 - (1 : Int32))
      · refine Go.back (f' := (mkF m 64 #[.val (.ref ho), .val (.long (vs.getD 0 0)), .second, .val (.long (vs.getD n 0)), .second, .val (.int j32), .val (.int c32)] [])) (fun _ k => XS.icmpYes X75.here hx rfl (pc0 := 58) (pc' := 64) rfl (hb hby d7_58) rfl (tlt h1).1 (by decide) (by decide) k) ?_
        have k1 : 2 * j + 1 < n := (lt32 hc hm).mp h1
        refine Go.back (f' := (mkF m 66 #[.val (.ref ho), .val (.long (vs.getD 0 0)), .second, .val (.long (vs.getD n 0)), .second, .val (.int j32), .val (.int c32)] [(.int c32)])) (fun _ k => XS.iload X75.here hx rfl (hb hby d7_64) rfl k) ?_
        refine Go.back (f' := (mkF m 67 #[.val (.ref ho), .val (.long (vs.getD 0 0)), .second, .val (.long (vs.getD n 0)), .second, .val (.int j32), .val (.int c32)] [(.int (1 : Int32)), (.int c32)])) (fun _ k => XS.iconst X75.here hx rfl (hb hby d7_66) k) ?_
        refine Go.back (f' := (mkF m 68 #[.val (.ref ho), .val (.long (vs.getD 0 0)), .second, .val (.long (vs.getD n 0)), .second, .val (.int j32), .val (.int c32)] [(.int (c32 + (1 : Int32)))])) (fun _ k => XS.iadd X75.here hx rfl (hb hby d7_67) rfl k) ?_
        refine Go.back (f' := (mkF m 69 #[.val (.ref ho), .val (.long (vs.getD 0 0)), .second, .val (.long (vs.getD n 0)), .second, .val (.int j32), .val (.int c32)] [(.ref ho), (.int (c32 + (1 : Int32)))])) (fun _ k => XS.aloadN X75.here hx rfl (hb hby d7_68) rfl rfl k) ?_
        obtain ⟨T82, X82, e82, st82⟩ := getF X75 hx hZ hown (host := "") (Or.inl (hw _ (List.mem_of_getElem? (i := 21) rfl))) Via.refl e75 F144 (g := (mkF m 69 #[.val (.ref ho), .val (.long (vs.getD 0 0)), .second, .val (.long (vs.getD n 0)), .second, .val (.int j32), .val (.int c32)] [(.ref ho), (.int (c32 + (1 : Int32)))])) rfl rfl (hb hby d7_69)
        refine Go.back (f' := (mkF m 72 #[.val (.ref ho), .val (.long (vs.getD 0 0)), .second, .val (.long (vs.getD n 0)), .second, .val (.int j32), .val (.int c32)] [(.int (m32 - (1 : Int32))), (.int (c32 + (1 : Int32)))])) st82 ?_
        by_cases h2 : (c32 + (1 : Int32)) < (m32 - (1 : Int32))
        · refine Go.back (f' := (mkF m 75 #[.val (.ref ho), .val (.long (vs.getD 0 0)), .second, .val (.long (vs.getD n 0)), .second, .val (.int j32), .val (.int c32)] [])) (fun _ k => XS.icmpNo X82.here hx rfl (hb hby d7_72) rfl (tlt h2).2.1 k) ?_
          have k2 : 2 * j + 2 < n := (lt32 (inc32 hc (by omega)) hm).mp h2
          refine Go.back (f' := (mkF m 76 #[.val (.ref ho), .val (.long (vs.getD 0 0)), .second, .val (.long (vs.getD n 0)), .second, .val (.int j32), .val (.int c32)] [(.ref ho)])) (fun _ k => XS.aloadN X82.here hx rfl (hb hby d7_75) rfl rfl k) ?_
          obtain ⟨T83, X83, e83, st83⟩ := getF X82 hx hZ hown (host := "") (Or.inl (hw _ (List.mem_of_getElem? (i := 14) rfl))) Via.refl e82 F244 (g := (mkF m 76 #[.val (.ref ho), .val (.long (vs.getD 0 0)), .second, .val (.long (vs.getD n 0)), .second, .val (.int j32), .val (.int c32)] [(.ref ho)])) rfl rfl (hb hby d7_76)
          refine Go.back (f' := (mkF m 79 #[.val (.ref ho), .val (.long (vs.getD 0 0)), .second, .val (.long (vs.getD n 0)), .second, .val (.int j32), .val (.int c32)] [(.ref arr)])) st83 ?_
          refine Go.back (f' := (mkF m 81 #[.val (.ref ho), .val (.long (vs.getD 0 0)), .second, .val (.long (vs.getD n 0)), .second, .val (.int j32), .val (.int c32)] [(.int c32), (.ref arr)])) (fun _ k => XS.iload X83.here hx rfl (hb hby d7_79) rfl k) ?_
          refine Go.back (f' := (mkF m 82 #[.val (.ref ho), .val (.long (vs.getD 0 0)), .second, .val (.long (vs.getD n 0)), .second, .val (.int j32), .val (.int c32)] [(.int (1 : Int32)), (.int c32), (.ref arr)])) (fun _ k => XS.iconst X83.here hx rfl (hb hby d7_81) k) ?_
          refine Go.back (f' := (mkF m 83 #[.val (.ref ho), .val (.long (vs.getD 0 0)), .second, .val (.long (vs.getD n 0)), .second, .val (.int j32), .val (.int c32)] [(.int (c32 + (1 : Int32))), (.ref arr)])) (fun _ k => XS.iadd X83.here hx rfl (hb hby d7_82) rfl k) ?_
          refine Go.back (f' := (mkF m 84 #[.val (.ref ho), .val (.long (vs.getD 0 0)), .second, .val (.long (vs.getD n 0)), .second, .val (.int j32), .val (.int c32)] [(.long (ws.getD (2 * j + 1 + 1) 0))])) (A44.ldJ X83 hx hZ e83 (hb hby d7_83) (i := (2 * j + 1 + 1)) (inc32 hc (by omega)) (own_get (by omega))) ?_
          refine Go.back (f' := (mkF m 85 #[.val (.ref ho), .val (.long (vs.getD 0 0)), .second, .val (.long (vs.getD n 0)), .second, .val (.int j32), .val (.int c32)] [(.ref ho), (.long (ws.getD (2 * j + 1 + 1) 0))])) (fun _ k => XS.aloadN X83.here hx rfl (hb hby d7_84) rfl rfl k) ?_
          obtain ⟨T84, X84, e84, st84⟩ := getF X83 hx hZ hown (host := "") (Or.inl (hw _ (List.mem_of_getElem? (i := 14) rfl))) Via.refl e83 F244 (g := (mkF m 85 #[.val (.ref ho), .val (.long (vs.getD 0 0)), .second, .val (.long (vs.getD n 0)), .second, .val (.int j32), .val (.int c32)] [(.ref ho), (.long (ws.getD (2 * j + 1 + 1) 0))])) rfl rfl (hb hby d7_85)
          refine Go.back (f' := (mkF m 88 #[.val (.ref ho), .val (.long (vs.getD 0 0)), .second, .val (.long (vs.getD n 0)), .second, .val (.int j32), .val (.int c32)] [(.ref arr), (.long (ws.getD (2 * j + 1 + 1) 0))])) st84 ?_
          refine Go.back (f' := (mkF m 90 #[.val (.ref ho), .val (.long (vs.getD 0 0)), .second, .val (.long (vs.getD n 0)), .second, .val (.int j32), .val (.int c32)] [(.int c32), (.ref arr), (.long (ws.getD (2 * j + 1 + 1) 0))])) (fun _ k => XS.iload X84.here hx rfl (hb hby d7_88) rfl k) ?_
          refine Go.back (f' := (mkF m 91 #[.val (.ref ho), .val (.long (vs.getD 0 0)), .second, .val (.long (vs.getD n 0)), .second, .val (.int j32), .val (.int c32)] [(.long (ws.getD (2 * j + 1) 0)), (.long (ws.getD (2 * j + 1 + 1) 0))])) (A44.ldJ X84 hx hZ e84 (hb hby d7_90) (i := (2 * j + 1)) hc (own_get (by omega))) ?_
          refine Go.back (f' := (mkF m 92 #[.val (.ref ho), .val (.long (vs.getD 0 0)), .second, .val (.long (vs.getD n 0)), .second, .val (.int j32), .val (.int c32)] [(.int (lcmpW (ws.getD (2 * j + 1 + 1) 0) (ws.getD (2 * j + 1) 0)))])) (fun _ k => XS.lcmp X84.here hx rfl (hb hby d7_91) rfl k) ?_
          by_cases h3 : (ws.getD (2 * j + 1 + 1) 0) < (ws.getD (2 * j + 1) 0)
          · refine Go.back (f' := (mkF m 95 #[.val (.ref ho), .val (.long (vs.getD 0 0)), .second, .val (.long (vs.getD n 0)), .second, .val (.int j32), .val (.int c32)] [])) (fun _ k => XS.ifNo X84.here hx rfl (hb hby d7_92) rfl (l_ge_f h3) k) ?_
            refine Go.back (f' := (mkF m 98 #[.val (.ref ho), .val (.long (vs.getD 0 0)), .second, .val (.long (vs.getD n 0)), .second, .val (.int j32), .val (.int (c32 + (1 : Int32)))] [])) (fun _ k => XS.iinc X84.here hx rfl (hb hby d7_95) rfl (l' := #[.val (.ref ho), .val (.long (vs.getD 0 0)), .second, .val (.long (vs.getD n 0)), .second, .val (.int j32), .val (.int (c32 + (1 : Int32)))]) rfl k) ?_
            have mn : ∀ k, 0 < k → k < n → (k - 1) / 2 = j → gl ws (2 * j + 1 + 1) ≤ gl ws k := fun k a1 a2 a3 => by
              have q : k = 2 * j + 1 ∨ k = 2 * j + 1 + 1 := by omega
              rcases q with rfl | rfl
              · have := gl_lt.mp h3; unfold gl at this ⊢; omega
              · exact Int.le_refl _
            refine Go.back (f' := (mkF m 99 #[.val (.ref ho), .val (.long (vs.getD 0 0)), .second, .val (.long (vs.getD n 0)), .second, .val (.int j32), .val (.int (c32 + (1 : Int32)))] [(.long (vs.getD n 0))])) (fun _ k => XS.lloadN X84.here hx rfl (hb hby d7_98) rfl k) ?_
            refine Go.back (f' := (mkF m 100 #[.val (.ref ho), .val (.long (vs.getD 0 0)), .second, .val (.long (vs.getD n 0)), .second, .val (.int j32), .val (.int (c32 + (1 : Int32)))] [(.ref ho), (.long (vs.getD n 0))])) (fun _ k => XS.aloadN X84.here hx rfl (hb hby d7_99) rfl rfl k) ?_
            obtain ⟨T85, X85, e85, st85⟩ := getF X84 hx hZ hown (host := "") (Or.inl (hw _ (List.mem_of_getElem? (i := 14) rfl))) Via.refl e84 F244 (g := (mkF m 100 #[.val (.ref ho), .val (.long (vs.getD 0 0)), .second, .val (.long (vs.getD n 0)), .second, .val (.int j32), .val (.int (c32 + (1 : Int32)))] [(.ref ho), (.long (vs.getD n 0))])) rfl rfl (hb hby d7_100)
            refine Go.back (f' := (mkF m 103 #[.val (.ref ho), .val (.long (vs.getD 0 0)), .second, .val (.long (vs.getD n 0)), .second, .val (.int j32), .val (.int (c32 + (1 : Int32)))] [(.ref arr), (.long (vs.getD n 0))])) st85 ?_
            refine Go.back (f' := (mkF m 105 #[.val (.ref ho), .val (.long (vs.getD 0 0)), .second, .val (.long (vs.getD n 0)), .second, .val (.int j32), .val (.int (c32 + (1 : Int32)))] [(.int (c32 + (1 : Int32))), (.ref arr), (.long (vs.getD n 0))])) (fun _ k => XS.iload X85.here hx rfl (hb hby d7_103) rfl k) ?_
            refine Go.back (f' := (mkF m 106 #[.val (.ref ho), .val (.long (vs.getD 0 0)), .second, .val (.long (vs.getD n 0)), .second, .val (.int j32), .val (.int (c32 + (1 : Int32)))] [(.long (ws.getD (2 * j + 1 + 1) 0)), (.long (vs.getD n 0))])) (A44.ldJ X85 hx hZ e85 (hb hby d7_105) (i := (2 * j + 1 + 1)) (inc32 hc (by omega)) (own_get (by omega))) ?_
            refine Go.back (f' := (mkF m 107 #[.val (.ref ho), .val (.long (vs.getD 0 0)), .second, .val (.long (vs.getD n 0)), .second, .val (.int j32), .val (.int (c32 + (1 : Int32)))] [(.int (lcmpW (vs.getD n 0) (ws.getD (2 * j + 1 + 1) 0)))])) (fun _ k => XS.lcmp X85.here hx rfl (hb hby d7_106) rfl k) ?_
            by_cases h5 : (ws.getD (2 * j + 1 + 1) 0) < (vs.getD n 0)
            · refine Go.back (f' := (mkF m 113 #[.val (.ref ho), .val (.long (vs.getD 0 0)), .second, .val (.long (vs.getD n 0)), .second, .val (.int j32), .val (.int (c32 + (1 : Int32)))] [])) (fun _ k => XS.ifYes X85.here hx rfl (pc0 := 107) (pc' := 113) rfl (hb hby d7_107) rfl (l_gt_t h5) (by decide) (by decide) k) ?_
              refine Go.back (f' := (mkF m 114 #[.val (.ref ho), .val (.long (vs.getD 0 0)), .second, .val (.long (vs.getD n 0)), .second, .val (.int j32), .val (.int (c32 + (1 : Int32)))] [(.ref ho)])) (fun _ k => XS.aloadN X85.here hx rfl (hb hby d7_113) rfl rfl k) ?_
              obtain ⟨T86, X86, e86, st86⟩ := getF X85 hx hZ hown (host := "") (Or.inl (hw _ (List.mem_of_getElem? (i := 14) rfl))) Via.refl e85 F244 (g := (mkF m 114 #[.val (.ref ho), .val (.long (vs.getD 0 0)), .second, .val (.long (vs.getD n 0)), .second, .val (.int j32), .val (.int (c32 + (1 : Int32)))] [(.ref ho)])) rfl rfl (hb hby d7_114)
              refine Go.back (f' := (mkF m 117 #[.val (.ref ho), .val (.long (vs.getD 0 0)), .second, .val (.long (vs.getD n 0)), .second, .val (.int j32), .val (.int (c32 + (1 : Int32)))] [(.ref arr)])) st86 ?_
              refine Go.back (f' := (mkF m 119 #[.val (.ref ho), .val (.long (vs.getD 0 0)), .second, .val (.long (vs.getD n 0)), .second, .val (.int j32), .val (.int (c32 + (1 : Int32)))] [(.int j32), (.ref arr)])) (fun _ k => XS.iload X86.here hx rfl (hb hby d7_117) rfl k) ?_
              refine Go.back (f' := (mkF m 120 #[.val (.ref ho), .val (.long (vs.getD 0 0)), .second, .val (.long (vs.getD n 0)), .second, .val (.int j32), .val (.int (c32 + (1 : Int32)))] [(.ref ho), (.int j32), (.ref arr)])) (fun _ k => XS.aloadN X86.here hx rfl (hb hby d7_119) rfl rfl k) ?_
              obtain ⟨T87, X87, e87, st87⟩ := getF X86 hx hZ hown (host := "") (Or.inl (hw _ (List.mem_of_getElem? (i := 14) rfl))) Via.refl e86 F244 (g := (mkF m 120 #[.val (.ref ho), .val (.long (vs.getD 0 0)), .second, .val (.long (vs.getD n 0)), .second, .val (.int j32), .val (.int (c32 + (1 : Int32)))] [(.ref ho), (.int j32), (.ref arr)])) rfl rfl (hb hby d7_120)
              refine Go.back (f' := (mkF m 123 #[.val (.ref ho), .val (.long (vs.getD 0 0)), .second, .val (.long (vs.getD n 0)), .second, .val (.int j32), .val (.int (c32 + (1 : Int32)))] [(.ref arr), (.int j32), (.ref arr)])) st87 ?_
              refine Go.back (f' := (mkF m 125 #[.val (.ref ho), .val (.long (vs.getD 0 0)), .second, .val (.long (vs.getD n 0)), .second, .val (.int j32), .val (.int (c32 + (1 : Int32)))] [(.int (c32 + (1 : Int32))), (.ref arr), (.int j32), (.ref arr)])) (fun _ k => XS.iload X87.here hx rfl (hb hby d7_123) rfl k) ?_
              refine Go.back (f' := (mkF m 126 #[.val (.ref ho), .val (.long (vs.getD 0 0)), .second, .val (.long (vs.getD n 0)), .second, .val (.int j32), .val (.int (c32 + (1 : Int32)))] [(.long (ws.getD (2 * j + 1 + 1) 0)), (.int j32), (.ref arr)])) (A44.ldJ X87 hx hZ e87 (hb hby d7_125) (i := (2 * j + 1 + 1)) (inc32 hc (by omega)) (own_get (by omega))) ?_
              refine Go.stJ A44 X87 hx hZ e87 (hb hby d7_126) (i := j) hj (by rw [List.length_map]; omega) ?_
              intro T88 h88 X88 e88 W88 V88
              have Ex_89 := Ex44.wr W88
              have Fl_90 := F144.other W88 (Or.inl ne_ho_arr)
              have Fl_91 := F244.other W88 (Or.inl ne_ho_arr)
              have K_92 := K44.wr W88 (Or.inl (List.mem_of_getElem? (i := 1) rfl)) g_arr
              show GoG _ _ _ _ _ (mkF m 127 #[.val (.ref ho), .val (.long (vs.getD 0 0)), .second, .val (.long (vs.getD n 0)), .second, .val (.int j32), .val (.int (c32 + (1 : Int32)))] [])
              refine Go.back (f' := (mkF m 129 #[.val (.ref ho), .val (.long (vs.getD 0 0)), .second, .val (.long (vs.getD n 0)), .second, .val (.int j32), .val (.int (c32 + (1 : Int32)))] [(.int (c32 + (1 : Int32)))])) (fun _ k => XS.iload X88.here hx rfl (hb hby d7_127) rfl k) ?_
              refine Go.back (f' := (mkF m 131 #[.val (.ref ho), .val (.long (vs.getD 0 0)), .second, .val (.long (vs.getD n 0)), .second, .val (.int (c32 + (1 : Int32))), .val (.int (c32 + (1 : Int32)))] [])) (fun _ k => XS.istore X88.here hx rfl (hb hby d7_129) rfl (l' := #[.val (.ref ho), .val (.long (vs.getD 0 0)), .second, .val (.long (vs.getD n 0)), .second, .val (.int (c32 + (1 : Int32))), .val (.int (c32 + (1 : Int32)))]) rfl k) ?_
              refine Go.back (f' := (mkF m 44 #[.val (.ref ho), .val (.long (vs.getD 0 0)), .second, .val (.long (vs.getD n 0)), .second, .val (.int (c32 + (1 : Int32))), .val (.int (c32 + (1 : Int32)))] [])) (fun _ k => XS.goto X88.here hx rfl (pc0 := 131) (pc' := 44) rfl (hb hby d7_131) (by decide) (by decide) k) ?_
              exact ih (2 * j + 1 + 1) T88 _ _ (ws.set j (ws.getD (2 * j + 1 + 1) 0)) (c32 + (1 : Int32)) _ X88 e88 Ex_89 Fl_90 Fl_91 (V88.to (by rw [List.map_set])) K_92 (inc32 hc (by omega)) (by omega) (by omega) (by rw [List.length_set]; exact hlt) (by rw [List.length_set]; exact hwl) (by rw [gl_set _ (by omega)]; exact hD.step (by omega) (by omega) (by omega) (gl_gt.mp h5) mn) (((perm_swap (vs.getD n 0) (by omega) (by omega) (by omega) (by omega)).cons _).trans hP) (Or.inr ⟨_, rfl⟩)
            · refine Go.back (f' := (mkF m 110 #[.val (.ref ho), .val (.long (vs.getD 0 0)), .second, .val (.long (vs.getD n 0)), .second, .val (.int j32), .val (.int (c32 + (1 : Int32)))] [])) (fun _ k => XS.ifNo X85.here hx rfl (hb hby d7_107) rfl (l_gt_f h5) k) ?_
              refine Go.back (f' := (mkF m 134 #[.val (.ref ho), .val (.long (vs.getD 0 0)), .second, .val (.long (vs.getD n 0)), .second, .val (.int j32), .val (.int (c32 + (1 : Int32)))] [])) (fun _ k => XS.goto X85.here hx rfl (pc0 := 110) (pc' := 134) rfl (hb hby d7_110) (by decide) (by decide) k) ?_
              refine Go.back (f' := (mkF m 135 #[.val (.ref ho), .val (.long (vs.getD 0 0)), .second, .val (.long (vs.getD n 0)), .second, .val (.int j32), .val (.int (c32 + (1 : Int32)))] [(.ref ho)])) (fun _ k => XS.aloadN X85.here hx rfl (hb hby d7_134) rfl rfl k) ?_
              obtain ⟨T93, X93, e93, st93⟩ := getF X85 hx hZ hown (host := "") (Or.inl (hw _ (List.mem_of_getElem? (i := 14) rfl))) Via.refl e85 F244 (g := (mkF m 135 #[.val (.ref ho), .val (.long (vs.getD 0 0)), .second, .val (.long (vs.getD n 0)), .second, .val (.int j32), .val (.int (c32 + (1 : Int32)))] [(.ref ho)])) rfl rfl (hb hby d7_135)
              refine Go.back (f' := (mkF m 138 #[.val (.ref ho), .val (.long (vs.getD 0 0)), .second, .val (.long (vs.getD n 0)), .second, .val (.int j32), .val (.int (c32 + (1 : Int32)))] [(.ref arr)])) st93 ?_
              refine Go.back (f' := (mkF m 140 #[.val (.ref ho), .val (.long (vs.getD 0 0)), .second, .val (.long (vs.getD n 0)), .second, .val (.int j32), .val (.int (c32 + (1 : Int32)))] [(.int j32), (.ref arr)])) (fun _ k => XS.iload X93.here hx rfl (hb hby d7_138) rfl k) ?_
              refine Go.back (f' := (mkF m 141 #[.val (.ref ho), .val (.long (vs.getD 0 0)), .second, .val (.long (vs.getD n 0)), .second, .val (.int j32), .val (.int (c32 + (1 : Int32)))] [(.long (vs.getD n 0)), (.int j32), (.ref arr)])) (fun _ k => XS.lloadN X93.here hx rfl (hb hby d7_140) rfl k) ?_
              refine Go.stJ A44 X93 hx hZ e93 (hb hby d7_141) (i := j) hj (by rw [List.length_map]; omega) ?_
              intro T94 h94 X94 e94 W94 V94
              have Ex_95 := Ex44.wr W94
              have Fl_96 := F144.other W94 (Or.inl ne_ho_arr)
              have Fl_97 := F244.other W94 (Or.inl ne_ho_arr)
              have K_98 := K44.wr W94 (Or.inl (List.mem_of_getElem? (i := 1) rfl)) g_arr
              show GoG _ _ _ _ _ (mkF m 142 #[.val (.ref ho), .val (.long (vs.getD 0 0)), .second, .val (.long (vs.getD n 0)), .second, .val (.int j32), .val (.int (c32 + (1 : Int32)))] [])
              refine Go.back (f' := (mkF m 143 #[.val (.ref ho), .val (.long (vs.getD 0 0)), .second, .val (.long (vs.getD n 0)), .second, .val (.int j32), .val (.int (c32 + (1 : Int32)))] [(.long (vs.getD 0 0))])) (fun _ k => XS.lloadN X94.here hx rfl (hb hby d7_142) rfl k) ?_
              exact Go.retJ X94 hx hret hlk (hb hby d7_143) (by (try rw [e94]); exact ⟨rfl, K_98, (ws.set j (vs.getD n 0)), ⟨Ex_95, Fl_96, Fl_97, V94.to (by rw [List.map_set]), hm, (by rw [List.length_set]; omega), (by rw [List.length_set]; omega), (by rw [List.length_set]; omega), (by rw [gl_set _ (by omega)]; exact hD.done (fun k a1 a2 a3 => by have := mn k a1 a2 a3; have := mt gl_gt.mpr h5; omega))⟩, hP, hmin⟩) (Nat.zero_le _) (Nat.zero_le _)
          · refine Go.back (f' := (mkF m 98 #[.val (.ref ho), .val (.long (vs.getD 0 0)), .second, .val (.long (vs.getD n 0)), .second, .val (.int j32), .val (.int c32)] [])) (fun _ k => XS.ifYes X84.here hx rfl (pc0 := 92) (pc' := 98) rfl (hb hby d7_92) rfl (l_ge_t h3) (by decide) (by decide) k) ?_
            have mn : ∀ k, 0 < k → k < n → (k - 1) / 2 = j → gl ws (2 * j + 1) ≤ gl ws k := fun k a1 a2 a3 => by
              have q : k = 2 * j + 1 ∨ k = 2 * j + 1 + 1 := by omega
              rcases q with rfl | rfl
              · exact Int.le_refl _
              · have := mt gl_lt.mpr h3; unfold gl at this ⊢; omega
            refine Go.back (f' := (mkF m 99 #[.val (.ref ho), .val (.long (vs.getD 0 0)), .second, .val (.long (vs.getD n 0)), .second, .val (.int j32), .val (.int c32)] [(.long (vs.getD n 0))])) (fun _ k => XS.lloadN X84.here hx rfl (hb hby d7_98) rfl k) ?_
            refine Go.back (f' := (mkF m 100 #[.val (.ref ho), .val (.long (vs.getD 0 0)), .second, .val (.long (vs.getD n 0)), .second, .val (.int j32), .val (.int c32)] [(.ref ho), (.long (vs.getD n 0))])) (fun _ k => XS.aloadN X84.here hx rfl (hb hby d7_99) rfl rfl k) ?_
            obtain ⟨T99, X99, e99, st99⟩ := getF X84 hx hZ hown (host := "") (Or.inl (hw _ (List.mem_of_getElem? (i := 14) rfl))) Via.refl e84 F244 (g := (mkF m 100 #[.val (.ref ho), .val (.long (vs.getD 0 0)), .second, .val (.long (vs.getD n 0)), .second, .val (.int j32), .val (.int c32)] [(.ref ho), (.long (vs.getD n 0))])) rfl rfl (hb hby d7_100)
            refine Go.back (f' := (mkF m 103 #[.val (.ref ho), .val (.long (vs.getD 0 0)), .second, .val (.long (vs.getD n 0)), .second, .val (.int j32), .val (.int c32)] [(.ref arr), (.long (vs.getD n 0))])) st99 ?_
            refine Go.back (f' := (mkF m 105 #[.val (.ref ho), .val (.long (vs.getD 0 0)), .second, .val (.long (vs.getD n 0)), .second, .val (.int j32), .val (.int c32)] [(.int c32), (.ref arr), (.long (vs.getD n 0))])) (fun _ k => XS.iload X99.here hx rfl (hb hby d7_103) rfl k) ?_
            refine Go.back (f' := (mkF m 106 #[.val (.ref ho), .val (.long (vs.getD 0 0)), .second, .val (.long (vs.getD n 0)), .second, .val (.int j32), .val (.int c32)] [(.long (ws.getD (2 * j + 1) 0)), (.long (vs.getD n 0))])) (A44.ldJ X99 hx hZ e99 (hb hby d7_105) (i := (2 * j + 1)) hc (own_get (by omega))) ?_
            refine Go.back (f' := (mkF m 107 #[.val (.ref ho), .val (.long (vs.getD 0 0)), .second, .val (.long (vs.getD n 0)), .second, .val (.int j32), .val (.int c32)] [(.int (lcmpW (vs.getD n 0) (ws.getD (2 * j + 1) 0)))])) (fun _ k => XS.lcmp X99.here hx rfl (hb hby d7_106) rfl k) ?_
            by_cases h5 : (ws.getD (2 * j + 1) 0) < (vs.getD n 0)
            · refine Go.back (f' := (mkF m 113 #[.val (.ref ho), .val (.long (vs.getD 0 0)), .second, .val (.long (vs.getD n 0)), .second, .val (.int j32), .val (.int c32)] [])) (fun _ k => XS.ifYes X99.here hx rfl (pc0 := 107) (pc' := 113) rfl (hb hby d7_107) rfl (l_gt_t h5) (by decide) (by decide) k) ?_
              refine Go.back (f' := (mkF m 114 #[.val (.ref ho), .val (.long (vs.getD 0 0)), .second, .val (.long (vs.getD n 0)), .second, .val (.int j32), .val (.int c32)] [(.ref ho)])) (fun _ k => XS.aloadN X99.here hx rfl (hb hby d7_113) rfl rfl k) ?_
              obtain ⟨T100, X100, e100, st100⟩ := getF X99 hx hZ hown (host := "") (Or.inl (hw _ (List.mem_of_getElem? (i := 14) rfl))) Via.refl e99 F244 (g := (mkF m 114 #[.val (.ref ho), .val (.long (vs.getD 0 0)), .second, .val (.long (vs.getD n 0)), .second, .val (.int j32), .val (.int c32)] [(.ref ho)])) rfl rfl (hb hby d7_114)
              refine Go.back (f' := (mkF m 117 #[.val (.ref ho), .val (.long (vs.getD 0 0)), .second, .val (.long (vs.getD n 0)), .second, .val (.int j32), .val (.int c32)] [(.ref arr)])) st100 ?_
              refine Go.back (f' := (mkF m 119 #[.val (.ref ho), .val (.long (vs.getD 0 0)), .second, .val (.long (vs.getD n 0)), .second, .val (.int j32), .val (.int c32)] [(.int j32), (.ref arr)])) (fun _ k => XS.iload X100.here hx rfl (hb hby d7_117) rfl k) ?_
              refine Go.back (f' := (mkF m 120 #[.val (.ref ho), .val (.long (vs.getD 0 0)), .second, .val (.long (vs.getD n 0)), .second, .val (.int j32), .val (.int c32)] [(.ref ho), (.int j32), (.ref arr)])) (fun _ k => XS.aloadN X100.here hx rfl (hb hby d7_119) rfl rfl k) ?_
              obtain ⟨T101, X101, e101, st101⟩ := getF X100 hx hZ hown (host := "") (Or.inl (hw _ (List.mem_of_getElem? (i := 14) rfl))) Via.refl e100 F244 (g := (mkF m 120 #[.val (.ref ho), .val (.long (vs.getD 0 0)), .second, .val (.long (vs.getD n 0)), .second, .val (.int j32), .val (.int c32)] [(.ref ho), (.int j32), (.ref arr)])) rfl rfl (hb hby d7_120)
              refine Go.back (f' := (mkF m 123 #[.val (.ref ho), .val (.long (vs.getD 0 0)), .second, .val (.long (vs.getD n 0)), .second, .val (.int j32), .val (.int c32)] [(.ref arr), (.int j32), (.ref arr)])) st101 ?_
              refine Go.back (f' := (mkF m 125 #[.val (.ref ho), .val (.long (vs.getD 0 0)), .second, .val (.long (vs.getD n 0)), .second, .val (.int j32), .val (.int c32)] [(.int c32), (.ref arr), (.int j32), (.ref arr)])) (fun _ k => XS.iload X101.here hx rfl (hb hby d7_123) rfl k) ?_
              refine Go.back (f' := (mkF m 126 #[.val (.ref ho), .val (.long (vs.getD 0 0)), .second, .val (.long (vs.getD n 0)), .second, .val (.int j32), .val (.int c32)] [(.long (ws.getD (2 * j + 1) 0)), (.int j32), (.ref arr)])) (A44.ldJ X101 hx hZ e101 (hb hby d7_125) (i := (2 * j + 1)) hc (own_get (by omega))) ?_
              refine Go.stJ A44 X101 hx hZ e101 (hb hby d7_126) (i := j) hj (by rw [List.length_map]; omega) ?_
              intro T102 h102 X102 e102 W102 V102
              have Ex_103 := Ex44.wr W102
              have Fl_104 := F144.other W102 (Or.inl ne_ho_arr)
              have Fl_105 := F244.other W102 (Or.inl ne_ho_arr)
              have K_106 := K44.wr W102 (Or.inl (List.mem_of_getElem? (i := 1) rfl)) g_arr
              show GoG _ _ _ _ _ (mkF m 127 #[.val (.ref ho), .val (.long (vs.getD 0 0)), .second, .val (.long (vs.getD n 0)), .second, .val (.int j32), .val (.int c32)] [])
              refine Go.back (f' := (mkF m 129 #[.val (.ref ho), .val (.long (vs.getD 0 0)), .second, .val (.long (vs.getD n 0)), .second, .val (.int j32), .val (.int c32)] [(.int c32)])) (fun _ k => XS.iload X102.here hx rfl (hb hby d7_127) rfl k) ?_
              refine Go.back (f' := (mkF m 131 #[.val (.ref ho), .val (.long (vs.getD 0 0)), .second, .val (.long (vs.getD n 0)), .second, .val (.int c32), .val (.int c32)] [])) (fun _ k => XS.istore X102.here hx rfl (hb hby d7_129) rfl (l' := #[.val (.ref ho), .val (.long (vs.getD 0 0)), .second, .val (.long (vs.getD n 0)), .second, .val (.int c32), .val (.int c32)]) rfl k) ?_
              refine Go.back (f' := (mkF m 44 #[.val (.ref ho), .val (.long (vs.getD 0 0)), .second, .val (.long (vs.getD n 0)), .second, .val (.int c32), .val (.int c32)] [])) (fun _ k => XS.goto X102.here hx rfl (pc0 := 131) (pc' := 44) rfl (hb hby d7_131) (by decide) (by decide) k) ?_
              exact ih (2 * j + 1) T102 _ _ (ws.set j (ws.getD (2 * j + 1) 0)) c32 _ X102 e102 Ex_103 Fl_104 Fl_105 (V102.to (by rw [List.map_set])) K_106 hc (by omega) (by omega) (by rw [List.length_set]; exact hlt) (by rw [List.length_set]; exact hwl) (by rw [gl_set _ (by omega)]; exact hD.step (by omega) (by omega) (by omega) (gl_gt.mp h5) mn) (((perm_swap (vs.getD n 0) (by omega) (by omega) (by omega) (by omega)).cons _).trans hP) (Or.inr ⟨_, rfl⟩)
            · refine Go.back (f' := (mkF m 110 #[.val (.ref ho), .val (.long (vs.getD 0 0)), .second, .val (.long (vs.getD n 0)), .second, .val (.int j32), .val (.int c32)] [])) (fun _ k => XS.ifNo X99.here hx rfl (hb hby d7_107) rfl (l_gt_f h5) k) ?_
              refine Go.back (f' := (mkF m 134 #[.val (.ref ho), .val (.long (vs.getD 0 0)), .second, .val (.long (vs.getD n 0)), .second, .val (.int j32), .val (.int c32)] [])) (fun _ k => XS.goto X99.here hx rfl (pc0 := 110) (pc' := 134) rfl (hb hby d7_110) (by decide) (by decide) k) ?_
              refine Go.back (f' := (mkF m 135 #[.val (.ref ho), .val (.long (vs.getD 0 0)), .second, .val (.long (vs.getD n 0)), .second, .val (.int j32), .val (.int c32)] [(.ref ho)])) (fun _ k => XS.aloadN X99.here hx rfl (hb hby d7_134) rfl rfl k) ?_
              obtain ⟨T107, X107, e107, st107⟩ := getF X99 hx hZ hown (host := "") (Or.inl (hw _ (List.mem_of_getElem? (i := 14) rfl))) Via.refl e99 F244 (g := (mkF m 135 #[.val (.ref ho), .val (.long (vs.getD 0 0)), .second, .val (.long (vs.getD n 0)), .second, .val (.int j32), .val (.int c32)] [(.ref ho)])) rfl rfl (hb hby d7_135)
              refine Go.back (f' := (mkF m 138 #[.val (.ref ho), .val (.long (vs.getD 0 0)), .second, .val (.long (vs.getD n 0)), .second, .val (.int j32), .val (.int c32)] [(.ref arr)])) st107 ?_
              refine Go.back (f' := (mkF m 140 #[.val (.ref ho), .val (.long (vs.getD 0 0)), .second, .val (.long (vs.getD n 0)), .second, .val (.int j32), .val (.int c32)] [(.int j32), (.ref arr)])) (fun _ k => XS.iload X107.here hx rfl (hb hby d7_138) rfl k) ?_
              refine Go.back (f' := (mkF m 141 #[.val (.ref ho), .val (.long (vs.getD 0 0)), .second, .val (.long (vs.getD n 0)), .second, .val (.int j32), .val (.int c32)] [(.long (vs.getD n 0)), (.int j32), (.ref arr)])) (fun _ k => XS.lloadN X107.here hx rfl (hb hby d7_140) rfl k) ?_
              refine Go.stJ A44 X107 hx hZ e107 (hb hby d7_141) (i := j) hj (by rw [List.length_map]; omega) ?_
              intro T108 h108 X108 e108 W108 V108
              have Ex_109 := Ex44.wr W108
              have Fl_110 := F144.other W108 (Or.inl ne_ho_arr)
              have Fl_111 := F244.other W108 (Or.inl ne_ho_arr)
              have K_112 := K44.wr W108 (Or.inl (List.mem_of_getElem? (i := 1) rfl)) g_arr
              show GoG _ _ _ _ _ (mkF m 142 #[.val (.ref ho), .val (.long (vs.getD 0 0)), .second, .val (.long (vs.getD n 0)), .second, .val (.int j32), .val (.int c32)] [])
              refine Go.back (f' := (mkF m 143 #[.val (.ref ho), .val (.long (vs.getD 0 0)), .second, .val (.long (vs.getD n 0)), .second, .val (.int j32), .val (.int c32)] [(.long (vs.getD 0 0))])) (fun _ k => XS.lloadN X108.here hx rfl (hb hby d7_142) rfl k) ?_
              exact Go.retJ X108 hx hret hlk (hb hby d7_143) (by (try rw [e108]); exact ⟨rfl, K_112, (ws.set j (vs.getD n 0)), ⟨Ex_109, Fl_110, Fl_111, V108.to (by rw [List.map_set]), hm, (by rw [List.length_set]; omega), (by rw [List.length_set]; omega), (by rw [List.length_set]; omega), (by rw [gl_set _ (by omega)]; exact hD.done (fun k a1 a2 a3 => by have := mn k a1 a2 a3; have := mt gl_gt.mpr h5; omega))⟩, hP, hmin⟩) (Nat.zero_le _) (Nat.zero_le _)
        · refine Go.back (f' := (mkF m 98 #[.val (.ref ho), .val (.long (vs.getD 0 0)), .second, .val (.long (vs.getD n 0)), .second, .val (.int j32), .val (.int c32)] [])) (fun _ k => XS.icmpYes X82.here hx rfl (pc0 := 72) (pc' := 98) rfl (hb hby d7_72) rfl (flt h2).2.1 (by decide) (by decide) k) ?_
          have k2 : ¬ 2 * j + 2 < n := fun q => h2 ((lt32 (inc32 hc (by omega)) hm).mpr q)
          have mn : ∀ k, 0 < k → k < n → (k - 1) / 2 = j → gl ws (2 * j + 1) ≤ gl ws k := fun k a1 a2 a3 => by
            have q : k = 2 * j + 1 := by omega
            rw [q]; exact Int.le_refl _
          refine Go.back (f' := (mkF m 99 #[.val (.ref ho), .val (.long (vs.getD 0 0)), .second, .val (.long (vs.getD n 0)), .second, .val (.int j32), .val (.int c32)] [(.long (vs.getD n 0))])) (fun _ k => XS.lloadN X82.here hx rfl (hb hby d7_98) rfl k) ?_
          refine Go.back (f' := (mkF m 100 #[.val (.ref ho), .val (.long (vs.getD 0 0)), .second, .val (.long (vs.getD n 0)), .second, .val (.int j32), .val (.int c32)] [(.ref ho), (.long (vs.getD n 0))])) (fun _ k => XS.aloadN X82.here hx rfl (hb hby d7_99) rfl rfl k) ?_
          obtain ⟨T113, X113, e113, st113⟩ := getF X82 hx hZ hown (host := "") (Or.inl (hw _ (List.mem_of_getElem? (i := 14) rfl))) Via.refl e82 F244 (g := (mkF m 100 #[.val (.ref ho), .val (.long (vs.getD 0 0)), .second, .val (.long (vs.getD n 0)), .second, .val (.int j32), .val (.int c32)] [(.ref ho), (.long (vs.getD n 0))])) rfl rfl (hb hby d7_100)
          refine Go.back (f' := (mkF m 103 #[.val (.ref ho), .val (.long (vs.getD 0 0)), .second, .val (.long (vs.getD n 0)), .second, .val (.int j32), .val (.int c32)] [(.ref arr), (.long (vs.getD n 0))])) st113 ?_
          refine Go.back (f' := (mkF m 105 #[.val (.ref ho), .val (.long (vs.getD 0 0)), .second, .val (.long (vs.getD n 0)), .second, .val (.int j32), .val (.int c32)] [(.int c32), (.ref arr), (.long (vs.getD n 0))])) (fun _ k => XS.iload X113.here hx rfl (hb hby d7_103) rfl k) ?_
          refine Go.back (f' := (mkF m 106 #[.val (.ref ho), .val (.long (vs.getD 0 0)), .second, .val (.long (vs.getD n 0)), .second, .val (.int j32), .val (.int c32)] [(.long (ws.getD (2 * j + 1) 0)), (.long (vs.getD n 0))])) (A44.ldJ X113 hx hZ e113 (hb hby d7_105) (i := (2 * j + 1)) hc (own_get (by omega))) ?_
          refine Go.back (f' := (mkF m 107 #[.val (.ref ho), .val (.long (vs.getD 0 0)), .second, .val (.long (vs.getD n 0)), .second, .val (.int j32), .val (.int c32)] [(.int (lcmpW (vs.getD n 0) (ws.getD (2 * j + 1) 0)))])) (fun _ k => XS.lcmp X113.here hx rfl (hb hby d7_106) rfl k) ?_
          by_cases h5 : (ws.getD (2 * j + 1) 0) < (vs.getD n 0)
          · refine Go.back (f' := (mkF m 113 #[.val (.ref ho), .val (.long (vs.getD 0 0)), .second, .val (.long (vs.getD n 0)), .second, .val (.int j32), .val (.int c32)] [])) (fun _ k => XS.ifYes X113.here hx rfl (pc0 := 107) (pc' := 113) rfl (hb hby d7_107) rfl (l_gt_t h5) (by decide) (by decide) k) ?_
            refine Go.back (f' := (mkF m 114 #[.val (.ref ho), .val (.long (vs.getD 0 0)), .second, .val (.long (vs.getD n 0)), .second, .val (.int j32), .val (.int c32)] [(.ref ho)])) (fun _ k => XS.aloadN X113.here hx rfl (hb hby d7_113) rfl rfl k) ?_
            obtain ⟨T114, X114, e114, st114⟩ := getF X113 hx hZ hown (host := "") (Or.inl (hw _ (List.mem_of_getElem? (i := 14) rfl))) Via.refl e113 F244 (g := (mkF m 114 #[.val (.ref ho), .val (.long (vs.getD 0 0)), .second, .val (.long (vs.getD n 0)), .second, .val (.int j32), .val (.int c32)] [(.ref ho)])) rfl rfl (hb hby d7_114)
            refine Go.back (f' := (mkF m 117 #[.val (.ref ho), .val (.long (vs.getD 0 0)), .second, .val (.long (vs.getD n 0)), .second, .val (.int j32), .val (.int c32)] [(.ref arr)])) st114 ?_
            refine Go.back (f' := (mkF m 119 #[.val (.ref ho), .val (.long (vs.getD 0 0)), .second, .val (.long (vs.getD n 0)), .second, .val (.int j32), .val (.int c32)] [(.int j32), (.ref arr)])) (fun _ k => XS.iload X114.here hx rfl (hb hby d7_117) rfl k) ?_
            refine Go.back (f' := (mkF m 120 #[.val (.ref ho), .val (.long (vs.getD 0 0)), .second, .val (.long (vs.getD n 0)), .second, .val (.int j32), .val (.int c32)] [(.ref ho), (.int j32), (.ref arr)])) (fun _ k => XS.aloadN X114.here hx rfl (hb hby d7_119) rfl rfl k) ?_
            obtain ⟨T115, X115, e115, st115⟩ := getF X114 hx hZ hown (host := "") (Or.inl (hw _ (List.mem_of_getElem? (i := 14) rfl))) Via.refl e114 F244 (g := (mkF m 120 #[.val (.ref ho), .val (.long (vs.getD 0 0)), .second, .val (.long (vs.getD n 0)), .second, .val (.int j32), .val (.int c32)] [(.ref ho), (.int j32), (.ref arr)])) rfl rfl (hb hby d7_120)
            refine Go.back (f' := (mkF m 123 #[.val (.ref ho), .val (.long (vs.getD 0 0)), .second, .val (.long (vs.getD n 0)), .second, .val (.int j32), .val (.int c32)] [(.ref arr), (.int j32), (.ref arr)])) st115 ?_
            refine Go.back (f' := (mkF m 125 #[.val (.ref ho), .val (.long (vs.getD 0 0)), .second, .val (.long (vs.getD n 0)), .second, .val (.int j32), .val (.int c32)] [(.int c32), (.ref arr), (.int j32), (.ref arr)])) (fun _ k => XS.iload X115.here hx rfl (hb hby d7_123) rfl k) ?_
            refine Go.back (f' := (mkF m 126 #[.val (.ref ho), .val (.long (vs.getD 0 0)), .second, .val (.long (vs.getD n 0)), .second, .val (.int j32), .val (.int c32)] [(.long (ws.getD (2 * j + 1) 0)), (.int j32), (.ref arr)])) (A44.ldJ X115 hx hZ e115 (hb hby d7_125) (i := (2 * j + 1)) hc (own_get (by omega))) ?_
            refine Go.stJ A44 X115 hx hZ e115 (hb hby d7_126) (i := j) hj (by rw [List.length_map]; omega) ?_
            intro T116 h116 X116 e116 W116 V116
            have Ex_117 := Ex44.wr W116
            have Fl_118 := F144.other W116 (Or.inl ne_ho_arr)
            have Fl_119 := F244.other W116 (Or.inl ne_ho_arr)
            have K_120 := K44.wr W116 (Or.inl (List.mem_of_getElem? (i := 1) rfl)) g_arr
            show GoG _ _ _ _ _ (mkF m 127 #[.val (.ref ho), .val (.long (vs.getD 0 0)), .second, .val (.long (vs.getD n 0)), .second, .val (.int j32), .val (.int c32)] [])
            refine Go.back (f' := (mkF m 129 #[.val (.ref ho), .val (.long (vs.getD 0 0)), .second, .val (.long (vs.getD n 0)), .second, .val (.int j32), .val (.int c32)] [(.int c32)])) (fun _ k => XS.iload X116.here hx rfl (hb hby d7_127) rfl k) ?_
            refine Go.back (f' := (mkF m 131 #[.val (.ref ho), .val (.long (vs.getD 0 0)), .second, .val (.long (vs.getD n 0)), .second, .val (.int c32), .val (.int c32)] [])) (fun _ k => XS.istore X116.here hx rfl (hb hby d7_129) rfl (l' := #[.val (.ref ho), .val (.long (vs.getD 0 0)), .second, .val (.long (vs.getD n 0)), .second, .val (.int c32), .val (.int c32)]) rfl k) ?_
            refine Go.back (f' := (mkF m 44 #[.val (.ref ho), .val (.long (vs.getD 0 0)), .second, .val (.long (vs.getD n 0)), .second, .val (.int c32), .val (.int c32)] [])) (fun _ k => XS.goto X116.here hx rfl (pc0 := 131) (pc' := 44) rfl (hb hby d7_131) (by decide) (by decide) k) ?_
            exact ih (2 * j + 1) T116 _ _ (ws.set j (ws.getD (2 * j + 1) 0)) c32 _ X116 e116 Ex_117 Fl_118 Fl_119 (V116.to (by rw [List.map_set])) K_120 hc (by omega) (by omega) (by rw [List.length_set]; exact hlt) (by rw [List.length_set]; exact hwl) (by rw [gl_set _ (by omega)]; exact hD.step (by omega) (by omega) (by omega) (gl_gt.mp h5) mn) (((perm_swap (vs.getD n 0) (by omega) (by omega) (by omega) (by omega)).cons _).trans hP) (Or.inr ⟨_, rfl⟩)
          · refine Go.back (f' := (mkF m 110 #[.val (.ref ho), .val (.long (vs.getD 0 0)), .second, .val (.long (vs.getD n 0)), .second, .val (.int j32), .val (.int c32)] [])) (fun _ k => XS.ifNo X113.here hx rfl (hb hby d7_107) rfl (l_gt_f h5) k) ?_
            refine Go.back (f' := (mkF m 134 #[.val (.ref ho), .val (.long (vs.getD 0 0)), .second, .val (.long (vs.getD n 0)), .second, .val (.int j32), .val (.int c32)] [])) (fun _ k => XS.goto X113.here hx rfl (pc0 := 110) (pc' := 134) rfl (hb hby d7_110) (by decide) (by decide) k) ?_
            refine Go.back (f' := (mkF m 135 #[.val (.ref ho), .val (.long (vs.getD 0 0)), .second, .val (.long (vs.getD n 0)), .second, .val (.int j32), .val (.int c32)] [(.ref ho)])) (fun _ k => XS.aloadN X113.here hx rfl (hb hby d7_134) rfl rfl k) ?_
            obtain ⟨T121, X121, e121, st121⟩ := getF X113 hx hZ hown (host := "") (Or.inl (hw _ (List.mem_of_getElem? (i := 14) rfl))) Via.refl e113 F244 (g := (mkF m 135 #[.val (.ref ho), .val (.long (vs.getD 0 0)), .second, .val (.long (vs.getD n 0)), .second, .val (.int j32), .val (.int c32)] [(.ref ho)])) rfl rfl (hb hby d7_135)
            refine Go.back (f' := (mkF m 138 #[.val (.ref ho), .val (.long (vs.getD 0 0)), .second, .val (.long (vs.getD n 0)), .second, .val (.int j32), .val (.int c32)] [(.ref arr)])) st121 ?_
            refine Go.back (f' := (mkF m 140 #[.val (.ref ho), .val (.long (vs.getD 0 0)), .second, .val (.long (vs.getD n 0)), .second, .val (.int j32), .val (.int c32)] [(.int j32), (.ref arr)])) (fun _ k => XS.iload X121.here hx rfl (hb hby d7_138) rfl k) ?_
            refine Go.back (f' := (mkF m 141 #[.val (.ref ho), .val (.long (vs.getD 0 0)), .second, .val (.long (vs.getD n 0)), .second, .val (.int j32), .val (.int c32)] [(.long (vs.getD n 0)), (.int j32), (.ref arr)])) (fun _ k => XS.lloadN X121.here hx rfl (hb hby d7_140) rfl k) ?_
            refine Go.stJ A44 X121 hx hZ e121 (hb hby d7_141) (i := j) hj (by rw [List.length_map]; omega) ?_
            intro T122 h122 X122 e122 W122 V122
            have Ex_123 := Ex44.wr W122
            have Fl_124 := F144.other W122 (Or.inl ne_ho_arr)
            have Fl_125 := F244.other W122 (Or.inl ne_ho_arr)
            have K_126 := K44.wr W122 (Or.inl (List.mem_of_getElem? (i := 1) rfl)) g_arr
            show GoG _ _ _ _ _ (mkF m 142 #[.val (.ref ho), .val (.long (vs.getD 0 0)), .second, .val (.long (vs.getD n 0)), .second, .val (.int j32), .val (.int c32)] [])
            refine Go.back (f' := (mkF m 143 #[.val (.ref ho), .val (.long (vs.getD 0 0)), .second, .val (.long (vs.getD n 0)), .second, .val (.int j32), .val (.int c32)] [(.long (vs.getD 0 0))])) (fun _ k => XS.lloadN X122.here hx rfl (hb hby d7_142) rfl k) ?_
            exact Go.retJ X122 hx hret hlk (hb hby d7_143) (by (try rw [e122]); exact ⟨rfl, K_126, (ws.set j (vs.getD n 0)), ⟨Ex_123, Fl_124, Fl_125, V122.to (by rw [List.map_set]), hm, (by rw [List.length_set]; omega), (by rw [List.length_set]; omega), (by rw [List.length_set]; omega), (by rw [gl_set _ (by omega)]; exact hD.done (fun k a1 a2 a3 => by have := mn k a1 a2 a3; have := mt gl_gt.mpr h5; omega))⟩, hP, hmin⟩) (Nat.zero_le _) (Nat.zero_le _)
      · refine Go.back (f' := (mkF m 61 #[.val (.ref ho), .val (.long (vs.getD 0 0)), .second, .val (.long (vs.getD n 0)), .second, .val (.int j32), .val (.int c32)] [])) (fun _ k => XS.icmpNo X75.here hx rfl (hb hby d7_58) rfl (flt h1).1 k) ?_
        have k1 : ¬ 2 * j + 1 < n := fun q => h1 ((lt32 hc hm).mpr q)
        refine Go.back (f' := (mkF m 134 #[.val (.ref ho), .val (.long (vs.getD 0 0)), .second, .val (.long (vs.getD n 0)), .second, .val (.int j32), .val (.int c32)] [])) (fun _ k => XS.goto X75.here hx rfl (pc0 := 61) (pc' := 134) rfl (hb hby d7_61) (by decide) (by decide) k) ?_
        refine Go.back (f' := (mkF m 135 #[.val (.ref ho), .val (.long (vs.getD 0 0)), .second, .val (.long (vs.getD n 0)), .second, .val (.int j32), .val (.int c32)] [(.ref ho)])) (fun _ k => XS.aloadN X75.here hx rfl (hb hby d7_134) rfl rfl k) ?_
        obtain ⟨T76, X76, e76, st76⟩ := getF X75 hx hZ hown (host := "") (Or.inl (hw _ (List.mem_of_getElem? (i := 14) rfl))) Via.refl e75 F244 (g := (mkF m 135 #[.val (.ref ho), .val (.long (vs.getD 0 0)), .second, .val (.long (vs.getD n 0)), .second, .val (.int j32), .val (.int c32)] [(.ref ho)])) rfl rfl (hb hby d7_135)
        refine Go.back (f' := (mkF m 138 #[.val (.ref ho), .val (.long (vs.getD 0 0)), .second, .val (.long (vs.getD n 0)), .second, .val (.int j32), .val (.int c32)] [(.ref arr)])) st76 ?_
        refine Go.back (f' := (mkF m 140 #[.val (.ref ho), .val (.long (vs.getD 0 0)), .second, .val (.long (vs.getD n 0)), .second, .val (.int j32), .val (.int c32)] [(.int j32), (.ref arr)])) (fun _ k => XS.iload X76.here hx rfl (hb hby d7_138) rfl k) ?_
        refine Go.back (f' := (mkF m 141 #[.val (.ref ho), .val (.long (vs.getD 0 0)), .second, .val (.long (vs.getD n 0)), .second, .val (.int j32), .val (.int c32)] [(.long (vs.getD n 0)), (.int j32), (.ref arr)])) (fun _ k => XS.lloadN X76.here hx rfl (hb hby d7_140) rfl k) ?_
        refine Go.stJ A44 X76 hx hZ e76 (hb hby d7_141) (i := j) hj (by rw [List.length_map]; omega) ?_
        intro T77 h77 X77 e77 W77 V77
        have Ex_78 := Ex44.wr W77
        have Fl_79 := F144.other W77 (Or.inl ne_ho_arr)
        have Fl_80 := F244.other W77 (Or.inl ne_ho_arr)
        have K_81 := K44.wr W77 (Or.inl (List.mem_of_getElem? (i := 1) rfl)) g_arr
        show GoG _ _ _ _ _ (mkF m 142 #[.val (.ref ho), .val (.long (vs.getD 0 0)), .second, .val (.long (vs.getD n 0)), .second, .val (.int j32), .val (.int c32)] [])
        refine Go.back (f' := (mkF m 143 #[.val (.ref ho), .val (.long (vs.getD 0 0)), .second, .val (.long (vs.getD n 0)), .second, .val (.int j32), .val (.int c32)] [(.long (vs.getD 0 0))])) (fun _ k => XS.lloadN X77.here hx rfl (hb hby d7_142) rfl k) ?_
        exact Go.retJ X77 hx hret hlk (hb hby d7_143) (by (try rw [e77]); exact ⟨rfl, K_81, (ws.set j (vs.getD n 0)), ⟨Ex_78, Fl_79, Fl_80, V77.to (by rw [List.map_set]), hm, (by rw [List.length_set]; omega), (by rw [List.length_set]; omega), (by rw [List.length_set]; omega), (by rw [gl_set _ (by omega)]; exact hD.done (fun k a1 a2 a3 => by omega))⟩, hP, hmin⟩) (Nat.zero_le _) (Nat.zero_le _)
  exact lp (n + 1) 0 T69 _ _ vs (0 : Int32) _ X69 e69 Ex_70 Fl_71 Fl_72 Ar_73 K_74 rfl (by omega) (by omega) (by omega) rfl (HD.start _ hp) (perm_first (by omega)) (Or.inl rfl)

def cxL (js : List Int64) (i j : Nat) : List Int64 := if js.getD j 0 < js.getD i 0 then (js.set i (js.getD j 0)).set j (js.getD i 0) else js
theorem cx_perm {js : List Int64} {i j : Nat} (hi : i < js.length) (hj : j < js.length) : (cxL js i j).Perm js := by
  unfold cxL; split
  · have q := List.set_set_perm hi hj
    have e1 : js[i] = js.getD i 0 := by rw [List.getD_eq_getElem?_getD, List.getElem?_eq_getElem hi]; rfl
    have e2 : js[j] = js.getD j 0 := by rw [List.getD_eq_getElem?_getD, List.getElem?_eq_getElem hj]; rfl
    rw [e1, e2] at q; exact q
  · exact List.Perm.refl _
/-- the lesser one at i, the greater at j -/
theorem cx_spec (js : List Int64) (i j : Nat) (ne : i ≠ j) (hi : i < js.length) (hj : j < js.length) : ∃ p q : Int64, cxL js i j = (js.set i p).set j q ∧ p.toInt ≤ q.toInt ∧ p.toInt ≤ (js.getD i 0).toInt ∧ p.toInt ≤ (js.getD j 0).toInt ∧ (js.getD i 0).toInt ≤ q.toInt ∧ (js.getD j 0).toInt ≤ q.toInt ∧ (p = js.getD i 0 ∨ p = js.getD j 0) ∧ (q = js.getD i 0 ∨ q = js.getD j 0) := by
  unfold cxL; split
  · rename_i h; rw [Int64.lt_iff_toInt_lt] at h
    exact ⟨_, _, rfl, by omega, by omega, by omega, by omega, by omega, Or.inr rfl, Or.inl rfl⟩
  · rename_i h; rw [Int64.lt_iff_toInt_lt] at h
    refine ⟨js.getD i 0, js.getD j 0, ?_, by omega, by omega, by omega, by omega, by omega, Or.inl rfl, Or.inr rfl⟩
    apply List.ext_getElem?
    intro k
    by_cases e1 : k = j
    · subst e1; rw [List.getElem?_set_self (by simpa using hj)]; exact getD_lt hj
    · rw [List.getElem?_set_ne (fun w => e1 w.symm)]
      by_cases e2 : k = i
      · subst e2; rw [List.getElem?_set_self hi]; exact getD_lt hi
      · rw [List.getElem?_set_ne (fun w => e2 w.symm)]
def le64 (a b : Int64) : Prop := a.toInt ≤ b.toInt
theorem chain_step {p : Int64} {L' L ps : List Int64} (h1 : (p :: L').Perm L) (hm : ∀ y ∈ L, p.toInt ≤ y.toInt) (h2 : ps.Perm L') (h3 : ps.Pairwise le64) : (p :: ps).Perm L ∧ (p :: ps).Pairwise le64 :=
  ⟨(h2.cons p).trans h1, List.pairwise_cons.mpr ⟨fun a ha => hm a (h1.subset (List.mem_cons_of_mem _ (h2.subset ha))), h3⟩⟩
theorem sorted_eq {a b : List Int64} (h : a.Perm b) (s1 : a.Pairwise le64) (s2 : b.Pairwise le64) : a = b :=
  List.Perm.eq_of_pairwise (fun x y _ _ h1 h2 => Int64.toInt_inj.mp (Int.le_antisymm h1 h2)) s1 s2 h
theorem own_ne {sa arr arr' : Addr} {n : Nat} (h : sa ≠ arr) (lt : sa < n) (q : arr' = arr ∨ n ≤ arr') : sa ≠ arr' := by
  rcases q with rfl | q
  · exact h
  · exact Nat.ne_of_lt (Nat.lt_of_lt_of_le lt q)
theorem own_sz {arr arr' : Addr} {n m : Nat} (h : n ≤ arr) (lt : n ≤ m) (q : arr' = arr ∨ m ≤ arr') : n ≤ arr' := by
  rcases q with rfl | q
  · exact h
  · exact Nat.le_trans lt q
theorem own_cap (k : Nat) (hk : k ≤ 3) (a m : Int32) (hm : m.toBitVec.toNat = 2 ^ k - 1) : ∃ i : Nat, (a &&& m).toInt = i ∧ i ≤ 7 := by
  have q := c_mask a m k (by omega) hm
  have : (2 ^ k : Nat) ≤ 2 ^ 3 := Nat.pow_le_pow_right (by omega) hk
  refine ⟨(a &&& m).toInt.toNat, ?_, ?_⟩
  · have := Int.emod_nonneg a.toInt (b := ((2 ^ k : Nat) : Int)) (by have := Nat.pow_pos (n := k) (show 0 < 2 by omega); omega); omega
  · have := Int.emod_lt_of_pos a.toInt (b := ((2 ^ k : Nat) : Int)) (by have := Nat.pow_pos (n := k) (show 0 < 2 by omega); omega); omega

theorem ef_rmCx (m : MethodId) (x0 : Addr) (x1 : Int32) (x2 : Int32) : entryFrame m #[(.ref x0), (.int x1), (.int x2)] 5 = mkF m 0 #[.val (.ref x0), .val (.int x1), .val (.int x2), .unset, .unset] [] := by first | (simp [entryFrame, mkF, argsToLocals, Value.category]; done) | rfl
set_option maxRecDepth 65536 in
set_option maxHeartbeats 40000000 in
theorem rmCx (l : Launch) (Z : State) (a0 : Array Value) (hw : ∀ d ∈ tables_1, d.before a0 Z = true) (sa : Addr) (i32 j32 : Int32) (js : List Int64) (i j n0 : Nat) (h0 : Heap) (Z0 : n0 ≤ h0.size) (A : VArr Z h0 sa .long (js.map Value.long)) (hi : i32.toInt = i) (hj : j32.toInt = j) (li : i < js.length) (lj : j < js.length) (g_sa : n0 ≤ sa) :
    Met l Z (⟨"com/example/corymb/corymb/engine/LongHeapPollPinLaw", "cs", "([JII)V"⟩ : MethodName) method_2_code 5 none ({ frames := 0, cells := 0, slots := 0, locals := 0 } : Room) #[(.ref sa), (.int i32), (.int j32)] h0 (fun v h L => v = none ∧ Chg n0 h0 h [sa] L ∧ VArr Z h sa .long ((cxL js i j).map Value.long)) := by
  refine Met.intro (plainFor_of_name (by first | (simp [plainName, overriddenIn]; done) | decide +kernel)) ?_
  intro p e s m below meth c T0 hx hby hml hown hnm hret hlk hZ X0 e0
  refine Go.cast (ef_rmCx m sa i32 j32) ?_
  have K0 : Chg n0 h0 h0 [sa] [] := Chg.refl Z0
  refine Go.back (f' := (mkF m 1 #[.val (.ref sa), .val (.int i32), .val (.int j32), .unset, .unset] [(.ref sa)])) (fun _ k => XS.aloadN X0.here hx rfl (hb hby d8_0) rfl rfl k) ?_
  refine Go.back (f' := (mkF m 2 #[.val (.ref sa), .val (.int i32), .val (.int j32), .unset, .unset] [(.int j32), (.ref sa)])) (fun _ k => XS.iloadN X0.here hx rfl (hb hby d8_1) rfl k) ?_
  refine Go.back (f' := (mkF m 3 #[.val (.ref sa), .val (.int i32), .val (.int j32), .unset, .unset] [(.long (js.getD j 0))])) (A.ldJ X0 hx hZ e0 (hb hby d8_2) (i := j) hj (own_get lj)) ?_
  refine Go.back (f' := (mkF m 4 #[.val (.ref sa), .val (.int i32), .val (.int j32), .unset, .unset] [(.ref sa), (.long (js.getD j 0))])) (fun _ k => XS.aloadN X0.here hx rfl (hb hby d8_3) rfl rfl k) ?_
  refine Go.back (f' := (mkF m 5 #[.val (.ref sa), .val (.int i32), .val (.int j32), .unset, .unset] [(.int i32), (.ref sa), (.long (js.getD j 0))])) (fun _ k => XS.iloadN X0.here hx rfl (hb hby d8_4) rfl k) ?_
  refine Go.back (f' := (mkF m 6 #[.val (.ref sa), .val (.int i32), .val (.int j32), .unset, .unset] [(.long (js.getD i 0)), (.long (js.getD j 0))])) (A.ldJ X0 hx hZ e0 (hb hby d8_5) (i := i) hi (own_get li)) ?_
  refine Go.back (f' := (mkF m 7 #[.val (.ref sa), .val (.int i32), .val (.int j32), .unset, .unset] [(.int (lcmpW (js.getD j 0) (js.getD i 0)))])) (fun _ k => XS.lcmp X0.here hx rfl (hb hby d8_6) rfl k) ?_
  by_cases hc : (js.getD j 0) < (js.getD i 0)
  · refine Go.back (f' := (mkF m 10 #[.val (.ref sa), .val (.int i32), .val (.int j32), .unset, .unset] [])) (fun _ k => XS.ifNo X0.here hx rfl (hb hby d8_7) rfl (l_ge_f hc) k) ?_
    refine Go.back (f' := (mkF m 11 #[.val (.ref sa), .val (.int i32), .val (.int j32), .unset, .unset] [(.ref sa)])) (fun _ k => XS.aloadN X0.here hx rfl (hb hby d8_10) rfl rfl k) ?_
    refine Go.back (f' := (mkF m 12 #[.val (.ref sa), .val (.int i32), .val (.int j32), .unset, .unset] [(.int i32), (.ref sa)])) (fun _ k => XS.iloadN X0.here hx rfl (hb hby d8_11) rfl k) ?_
    refine Go.back (f' := (mkF m 13 #[.val (.ref sa), .val (.int i32), .val (.int j32), .unset, .unset] [(.long (js.getD i 0))])) (A.ldJ X0 hx hZ e0 (hb hby d8_12) (i := i) hi (own_get li)) ?_
    refine Go.back (f' := (mkF m 14 #[.val (.ref sa), .val (.int i32), .val (.int j32), .val (.long (js.getD i 0)), .second] [])) (fun _ k => XS.lstoreN X0.here hx rfl (hb hby d8_13) rfl (l' := #[.val (.ref sa), .val (.int i32), .val (.int j32), .val (.long (js.getD i 0)), .second]) rfl k) ?_
    refine Go.back (f' := (mkF m 15 #[.val (.ref sa), .val (.int i32), .val (.int j32), .val (.long (js.getD i 0)), .second] [(.ref sa)])) (fun _ k => XS.aloadN X0.here hx rfl (hb hby d8_14) rfl rfl k) ?_
    refine Go.back (f' := (mkF m 16 #[.val (.ref sa), .val (.int i32), .val (.int j32), .val (.long (js.getD i 0)), .second] [(.int i32), (.ref sa)])) (fun _ k => XS.iloadN X0.here hx rfl (hb hby d8_15) rfl k) ?_
    refine Go.back (f' := (mkF m 17 #[.val (.ref sa), .val (.int i32), .val (.int j32), .val (.long (js.getD i 0)), .second] [(.ref sa), (.int i32), (.ref sa)])) (fun _ k => XS.aloadN X0.here hx rfl (hb hby d8_16) rfl rfl k) ?_
    refine Go.back (f' := (mkF m 18 #[.val (.ref sa), .val (.int i32), .val (.int j32), .val (.long (js.getD i 0)), .second] [(.int j32), (.ref sa), (.int i32), (.ref sa)])) (fun _ k => XS.iloadN X0.here hx rfl (hb hby d8_17) rfl k) ?_
    refine Go.back (f' := (mkF m 19 #[.val (.ref sa), .val (.int i32), .val (.int j32), .val (.long (js.getD i 0)), .second] [(.long (js.getD j 0)), (.int i32), (.ref sa)])) (A.ldJ X0 hx hZ e0 (hb hby d8_18) (i := j) hj (own_get lj)) ?_
    refine Go.stJ A X0 hx hZ e0 (hb hby d8_19) (i := i) hi (by rw [List.length_map]; exact li) ?_
    intro T127 h127 X127 e127 W127 V127
    have K_128 := K0.wr W127 (Or.inl (List.mem_of_getElem? (i := 0) rfl)) g_sa
    show GoG _ _ _ _ _ (mkF m 20 #[.val (.ref sa), .val (.int i32), .val (.int j32), .val (.long (js.getD i 0)), .second] [])
    refine Go.back (f' := (mkF m 21 #[.val (.ref sa), .val (.int i32), .val (.int j32), .val (.long (js.getD i 0)), .second] [(.ref sa)])) (fun _ k => XS.aloadN X127.here hx rfl (hb hby d8_20) rfl rfl k) ?_
    refine Go.back (f' := (mkF m 22 #[.val (.ref sa), .val (.int i32), .val (.int j32), .val (.long (js.getD i 0)), .second] [(.int j32), (.ref sa)])) (fun _ k => XS.iloadN X127.here hx rfl (hb hby d8_21) rfl k) ?_
    refine Go.back (f' := (mkF m 23 #[.val (.ref sa), .val (.int i32), .val (.int j32), .val (.long (js.getD i 0)), .second] [(.long (js.getD i 0)), (.int j32), (.ref sa)])) (fun _ k => XS.lloadN X127.here hx rfl (hb hby d8_22) rfl k) ?_
    refine Go.stJ V127 X127 hx hZ e127 (hb hby d8_23) (i := j) hj (by rw [List.length_set, List.length_map]; exact lj) ?_
    intro T129 h129 X129 e129 W129 V129
    have K_130 := K_128.wr W129 (Or.inl (List.mem_of_getElem? (i := 0) rfl)) g_sa
    show GoG _ _ _ _ _ (mkF m 24 #[.val (.ref sa), .val (.int i32), .val (.int j32), .val (.long (js.getD i 0)), .second] [])
    exact Go.ret0 X129 hx hret hlk (hb hby d8_24) (by (try rw [e129]); exact ⟨rfl, K_130, V129.to (by rw [cxL, if_pos hc, List.map_set, List.map_set])⟩) (Nat.zero_le _) (Nat.zero_le _)
  · refine Go.back (f' := (mkF m 24 #[.val (.ref sa), .val (.int i32), .val (.int j32), .unset, .unset] [])) (fun _ k => XS.ifYes X0.here hx rfl (pc0 := 7) (pc' := 24) rfl (hb hby d8_7) rfl (l_ge_t hc) (by decide) (by decide) k) ?_
    exact Go.ret0 X0 hx hret hlk (hb hby d8_24) (by (try rw [e0]); exact ⟨rfl, K0, A.to (by rw [cxL, if_neg hc])⟩) (Nat.zero_le _) (Nat.zero_le _)
theorem ef_rm0 (m : MethodId) (x0 : Int32) (x1 : Int64) (x2 : Int64) (x3 : Int64) (x4 : Int64) (x5 : Int64) : entryFrame m #[(.int x0), (.long x1), (.long x2), (.long x3), (.long x4), (.long x5)] maxLocals = mkF m 0 #[.val (.int x0), .val (.long x1), .second, .val (.long x2), .second, .val (.long x3), .second, .val (.long x4), .second, .val (.long x5), .second, .unset, .unset, .unset, .unset, .unset, .unset, .unset, .unset, .unset, .unset, .unset, .unset] [] := by first | (simp [entryFrame, mkF, argsToLocals, Value.category, maxLocals]; done) | rfl
set_option maxRecDepth 65536 in
set_option maxHeartbeats 40000000 in
theorem rm0 (l : Launch) (Z : State) (a0 : Array Value) (hw : ∀ d ∈ tables_1, d.before a0 Z = true) (cc : Int32) (va vb vc vd ve : Int64) (h0 : Heap)  :
    Met l Z x code maxLocals ret room_1 #[(.int cc), (.long va), (.long vb), (.long vc), (.long vd), (.long ve)] h0 (fun v h L => v = some (.int 1) ∧ Fr h0.size L) := by
  refine Met.intro (plainFor_of_name (by first | (simp [plainName, overriddenIn]; done) | decide +kernel)) ?_
  intro p e s m below meth c T0 hx hby hml hown hnm hret hlk hZ X0 e0
  refine Go.cast (ef_rm0 m cc va vb vc vd ve) ?_
  have hml : c.maxLocals = 23 := hml
  have K0 : Chg h0.size h0 h0 [] [] := Chg.refl (Nat.le_refl _)
  refine Go.back (f' := (mkF m 1 #[.val (.int cc), .val (.long va), .second, .val (.long vb), .second, .val (.long vc), .second, .val (.long vd), .second, .val (.long ve), .second, .unset, .unset, .unset, .unset, .unset, .unset, .unset, .unset, .unset, .unset, .unset, .unset] [(.int (5 : Int32))])) (fun _ k => XS.iconst X0.here hx rfl (hb hby at_0) k) ?_
  refine Go.newA X0 hx hZ (hw _ (List.mem_of_getElem? (i := 0) rfl)) e0 (hb hby at_1) (i := 5) rfl (cap := 5) (by decide) (by decide) (by decide) (by decide) ?_
  intro T131 h131 sa q131 X131 e131 E131 V131
  have V131 : VArr Z h131 sa .long (List.replicate 5 (.long 0)) := V131
  have sz_sa := K0.at q131
  have g_sa := K0.ge sz_sa
  have K_132 := K0.ext E131
  show GoG _ _ _ _ _ (mkF m 3 #[.val (.int cc), .val (.long va), .second, .val (.long vb), .second, .val (.long vc), .second, .val (.long vd), .second, .val (.long ve), .second, .unset, .unset, .unset, .unset, .unset, .unset, .unset, .unset, .unset, .unset, .unset, .unset] [(.ref sa)])
  refine Go.back (f' := (mkF m 4 #[.val (.int cc), .val (.long va), .second, .val (.long vb), .second, .val (.long vc), .second, .val (.long vd), .second, .val (.long ve), .second, .unset, .unset, .unset, .unset, .unset, .unset, .unset, .unset, .unset, .unset, .unset, .unset] [(.ref sa), (.ref sa)])) (fun _ k => XS.dup X131.here hx rfl (hb hby at_3) rfl rfl k) ?_
  refine Go.back (f' := (mkF m 5 #[.val (.int cc), .val (.long va), .second, .val (.long vb), .second, .val (.long vc), .second, .val (.long vd), .second, .val (.long ve), .second, .unset, .unset, .unset, .unset, .unset, .unset, .unset, .unset, .unset, .unset, .unset, .unset] [(.int (0 : Int32)), (.ref sa), (.ref sa)])) (fun _ k => XS.iconst X131.here hx rfl (hb hby at_4) k) ?_
  refine Go.back (f' := (mkF m 6 #[.val (.int cc), .val (.long va), .second, .val (.long vb), .second, .val (.long vc), .second, .val (.long vd), .second, .val (.long ve), .second, .unset, .unset, .unset, .unset, .unset, .unset, .unset, .unset, .unset, .unset, .unset, .unset] [(.long va), (.int (0 : Int32)), (.ref sa), (.ref sa)])) (fun _ k => XS.lloadN X131.here hx rfl (hb hby at_5) rfl k) ?_
  refine Go.stJ V131 X131 hx hZ e131 (hb hby at_6) (i := 0) rfl (by simp) ?_
  intro T133 h133 X133 e133 W133 V133
  have K_134 := K_132.wr W133 (Or.inr sz_sa) g_sa
  show GoG _ _ _ _ _ (mkF m 7 #[.val (.int cc), .val (.long va), .second, .val (.long vb), .second, .val (.long vc), .second, .val (.long vd), .second, .val (.long ve), .second, .unset, .unset, .unset, .unset, .unset, .unset, .unset, .unset, .unset, .unset, .unset, .unset] [(.ref sa)])
  refine Go.back (f' := (mkF m 8 #[.val (.int cc), .val (.long va), .second, .val (.long vb), .second, .val (.long vc), .second, .val (.long vd), .second, .val (.long ve), .second, .unset, .unset, .unset, .unset, .unset, .unset, .unset, .unset, .unset, .unset, .unset, .unset] [(.ref sa), (.ref sa)])) (fun _ k => XS.dup X133.here hx rfl (hb hby at_7) rfl rfl k) ?_
  refine Go.back (f' := (mkF m 9 #[.val (.int cc), .val (.long va), .second, .val (.long vb), .second, .val (.long vc), .second, .val (.long vd), .second, .val (.long ve), .second, .unset, .unset, .unset, .unset, .unset, .unset, .unset, .unset, .unset, .unset, .unset, .unset] [(.int (1 : Int32)), (.ref sa), (.ref sa)])) (fun _ k => XS.iconst X133.here hx rfl (hb hby at_8) k) ?_
  refine Go.back (f' := (mkF m 10 #[.val (.int cc), .val (.long va), .second, .val (.long vb), .second, .val (.long vc), .second, .val (.long vd), .second, .val (.long ve), .second, .unset, .unset, .unset, .unset, .unset, .unset, .unset, .unset, .unset, .unset, .unset, .unset] [(.long vb), (.int (1 : Int32)), (.ref sa), (.ref sa)])) (fun _ k => XS.lloadN X133.here hx rfl (hb hby at_9) rfl k) ?_
  refine Go.stJ V133 X133 hx hZ e133 (hb hby at_10) (i := 1) rfl (by simp) ?_
  intro T135 h135 X135 e135 W135 V135
  have K_136 := K_134.wr W135 (Or.inr sz_sa) g_sa
  show GoG _ _ _ _ _ (mkF m 11 #[.val (.int cc), .val (.long va), .second, .val (.long vb), .second, .val (.long vc), .second, .val (.long vd), .second, .val (.long ve), .second, .unset, .unset, .unset, .unset, .unset, .unset, .unset, .unset, .unset, .unset, .unset, .unset] [(.ref sa)])
  refine Go.back (f' := (mkF m 12 #[.val (.int cc), .val (.long va), .second, .val (.long vb), .second, .val (.long vc), .second, .val (.long vd), .second, .val (.long ve), .second, .unset, .unset, .unset, .unset, .unset, .unset, .unset, .unset, .unset, .unset, .unset, .unset] [(.ref sa), (.ref sa)])) (fun _ k => XS.dup X135.here hx rfl (hb hby at_11) rfl rfl k) ?_
  refine Go.back (f' := (mkF m 13 #[.val (.int cc), .val (.long va), .second, .val (.long vb), .second, .val (.long vc), .second, .val (.long vd), .second, .val (.long ve), .second, .unset, .unset, .unset, .unset, .unset, .unset, .unset, .unset, .unset, .unset, .unset, .unset] [(.int (2 : Int32)), (.ref sa), (.ref sa)])) (fun _ k => XS.iconst X135.here hx rfl (hb hby at_12) k) ?_
  refine Go.back (f' := (mkF m 15 #[.val (.int cc), .val (.long va), .second, .val (.long vb), .second, .val (.long vc), .second, .val (.long vd), .second, .val (.long ve), .second, .unset, .unset, .unset, .unset, .unset, .unset, .unset, .unset, .unset, .unset, .unset, .unset] [(.long vc), (.int (2 : Int32)), (.ref sa), (.ref sa)])) (fun _ k => XS.lload X135.here hx rfl (hb hby at_13) rfl k) ?_
  refine Go.stJ V135 X135 hx hZ e135 (hb hby at_15) (i := 2) rfl (by simp) ?_
  intro T137 h137 X137 e137 W137 V137
  have K_138 := K_136.wr W137 (Or.inr sz_sa) g_sa
  show GoG _ _ _ _ _ (mkF m 16 #[.val (.int cc), .val (.long va), .second, .val (.long vb), .second, .val (.long vc), .second, .val (.long vd), .second, .val (.long ve), .second, .unset, .unset, .unset, .unset, .unset, .unset, .unset, .unset, .unset, .unset, .unset, .unset] [(.ref sa)])
  refine Go.back (f' := (mkF m 17 #[.val (.int cc), .val (.long va), .second, .val (.long vb), .second, .val (.long vc), .second, .val (.long vd), .second, .val (.long ve), .second, .unset, .unset, .unset, .unset, .unset, .unset, .unset, .unset, .unset, .unset, .unset, .unset] [(.ref sa), (.ref sa)])) (fun _ k => XS.dup X137.here hx rfl (hb hby at_16) rfl rfl k) ?_
  refine Go.back (f' := (mkF m 18 #[.val (.int cc), .val (.long va), .second, .val (.long vb), .second, .val (.long vc), .second, .val (.long vd), .second, .val (.long ve), .second, .unset, .unset, .unset, .unset, .unset, .unset, .unset, .unset, .unset, .unset, .unset, .unset] [(.int (3 : Int32)), (.ref sa), (.ref sa)])) (fun _ k => XS.iconst X137.here hx rfl (hb hby at_17) k) ?_
  refine Go.back (f' := (mkF m 20 #[.val (.int cc), .val (.long va), .second, .val (.long vb), .second, .val (.long vc), .second, .val (.long vd), .second, .val (.long ve), .second, .unset, .unset, .unset, .unset, .unset, .unset, .unset, .unset, .unset, .unset, .unset, .unset] [(.long vd), (.int (3 : Int32)), (.ref sa), (.ref sa)])) (fun _ k => XS.lload X137.here hx rfl (hb hby at_18) rfl k) ?_
  refine Go.stJ V137 X137 hx hZ e137 (hb hby at_20) (i := 3) rfl (by simp) ?_
  intro T139 h139 X139 e139 W139 V139
  have K_140 := K_138.wr W139 (Or.inr sz_sa) g_sa
  show GoG _ _ _ _ _ (mkF m 21 #[.val (.int cc), .val (.long va), .second, .val (.long vb), .second, .val (.long vc), .second, .val (.long vd), .second, .val (.long ve), .second, .unset, .unset, .unset, .unset, .unset, .unset, .unset, .unset, .unset, .unset, .unset, .unset] [(.ref sa)])
  refine Go.back (f' := (mkF m 22 #[.val (.int cc), .val (.long va), .second, .val (.long vb), .second, .val (.long vc), .second, .val (.long vd), .second, .val (.long ve), .second, .unset, .unset, .unset, .unset, .unset, .unset, .unset, .unset, .unset, .unset, .unset, .unset] [(.ref sa), (.ref sa)])) (fun _ k => XS.dup X139.here hx rfl (hb hby at_21) rfl rfl k) ?_
  refine Go.back (f' := (mkF m 23 #[.val (.int cc), .val (.long va), .second, .val (.long vb), .second, .val (.long vc), .second, .val (.long vd), .second, .val (.long ve), .second, .unset, .unset, .unset, .unset, .unset, .unset, .unset, .unset, .unset, .unset, .unset, .unset] [(.int (4 : Int32)), (.ref sa), (.ref sa)])) (fun _ k => XS.iconst X139.here hx rfl (hb hby at_22) k) ?_
  refine Go.back (f' := (mkF m 25 #[.val (.int cc), .val (.long va), .second, .val (.long vb), .second, .val (.long vc), .second, .val (.long vd), .second, .val (.long ve), .second, .unset, .unset, .unset, .unset, .unset, .unset, .unset, .unset, .unset, .unset, .unset, .unset] [(.long ve), (.int (4 : Int32)), (.ref sa), (.ref sa)])) (fun _ k => XS.lload X139.here hx rfl (hb hby at_23) rfl k) ?_
  refine Go.stJ V139 X139 hx hZ e139 (hb hby at_25) (i := 4) rfl (by simp) ?_
  intro T141 h141 X141 e141 W141 V141
  have K_142 := K_140.wr W141 (Or.inr sz_sa) g_sa
  show GoG _ _ _ _ _ (mkF m 26 #[.val (.int cc), .val (.long va), .second, .val (.long vb), .second, .val (.long vc), .second, .val (.long vd), .second, .val (.long ve), .second, .unset, .unset, .unset, .unset, .unset, .unset, .unset, .unset, .unset, .unset, .unset, .unset] [(.ref sa)])
  have As : VArr Z h141 sa .long ([va, vb, vc, vd, ve].map Value.long) := V141.to rfl
  refine Go.back (f' := (mkF m 28 #[.val (.int cc), .val (.long va), .second, .val (.long vb), .second, .val (.long vc), .second, .val (.long vd), .second, .val (.long ve), .second, .val (.ref sa), .unset, .unset, .unset, .unset, .unset, .unset, .unset, .unset, .unset, .unset, .unset] [])) (fun _ k => XS.astore X141.here hx rfl (hb hby at_26) rfl rfl (l' := #[.val (.int cc), .val (.long va), .second, .val (.long vb), .second, .val (.long vc), .second, .val (.long vd), .second, .val (.long ve), .second, .val (.ref sa), .unset, .unset, .unset, .unset, .unset, .unset, .unset, .unset, .unset, .unset, .unset]) rfl k) ?_
  obtain ⟨T143, h143, X143, e143, E143, A143, D143, -, st143⟩ := newO X141 hx hZ hown (hw _ (List.mem_of_getElem? (i := 1) rfl)) (hw _ (List.mem_of_getElem? (i := 2) rfl)) (hw _ (List.mem_of_getElem? (i := 3) rfl)) e141 (g := (mkF m 28 #[.val (.int cc), .val (.long va), .second, .val (.long vb), .second, .val (.long vc), .second, .val (.long vd), .second, .val (.long ve), .second, .val (.ref sa), .unset, .unset, .unset, .unset, .unset, .unset, .unset, .unset, .unset, .unset, .unset] [])) rfl (hb hby at_28) (by decide) (by decide)
  obtain ⟨ho, q143⟩ : ∃ z, z = h141.size := ⟨_, rfl⟩
  rw [← q143] at A143 D143 st143
  have ne_sa_ho : sa ≠ ho := lt_ne q143 As.lt
  have sz_ho := K_142.at q143
  have g_ho := K_142.ge sz_ho
  have Ar_144 := As.ext E143
  have K_145 := K_142.ext E143
  have Fl_146 : Fld Z h143 ho "com/example/corymb/corymb/engine/LongHeap" "values" "[J" .null := D143 (Or.inl (hw _ (List.mem_of_getElem? (i := 15) rfl))) (ty := (.array .long)) (by decide)
  have Fl_147 : Fld Z h143 ho "com/example/corymb/corymb/engine/LongHeap" "size" "I" (.int (0 : Int32)) := D143 (Or.inl (hw _ (List.mem_of_getElem? (i := 22) rfl))) (ty := .int) (by decide)
  refine Go.back (f' := (mkF m 31 #[.val (.int cc), .val (.long va), .second, .val (.long vb), .second, .val (.long vc), .second, .val (.long vd), .second, .val (.long ve), .second, .val (.ref sa), .unset, .unset, .unset, .unset, .unset, .unset, .unset, .unset, .unset, .unset, .unset] [(.ref ho)])) st143 ?_
  refine Go.back (f' := (mkF m 32 #[.val (.int cc), .val (.long va), .second, .val (.long vb), .second, .val (.long vc), .second, .val (.long vd), .second, .val (.long ve), .second, .val (.ref sa), .unset, .unset, .unset, .unset, .unset, .unset, .unset, .unset, .unset, .unset, .unset] [(.ref ho), (.ref ho)])) (fun _ k => XS.dup X143.here hx rfl (hb hby at_31) rfl rfl k) ?_
  refine Go.back (f' := (mkF m 33 #[.val (.int cc), .val (.long va), .second, .val (.long vb), .second, .val (.long vc), .second, .val (.long vd), .second, .val (.long ve), .second, .val (.ref sa), .unset, .unset, .unset, .unset, .unset, .unset, .unset, .unset, .unset, .unset, .unset] [(.int cc), (.ref ho), (.ref ho)])) (fun _ k => XS.iloadN X143.here hx rfl (hb hby at_32) rfl k) ?_
  refine Go.back (f' := (mkF m 35 #[.val (.int cc), .val (.long va), .second, .val (.long vb), .second, .val (.long vc), .second, .val (.long vd), .second, .val (.long ve), .second, .val (.ref sa), .unset, .unset, .unset, .unset, .unset, .unset, .unset, .unset, .unset, .unset, .unset] [(.int (7 : Int32)), (.int cc), (.ref ho), (.ref ho)])) (fun _ k => XS.bipush X143.here hx rfl (hb hby at_33) k) ?_
  refine Go.back (f' := (mkF m 36 #[.val (.int cc), .val (.long va), .second, .val (.long vb), .second, .val (.long vc), .second, .val (.long vd), .second, .val (.long ve), .second, .val (.ref sa), .unset, .unset, .unset, .unset, .unset, .unset, .unset, .unset, .unset, .unset, .unset] [(.int (cc &&& (7 : Int32))), (.ref ho), (.ref ho)])) (fun _ k => XS.iand X143.here hx rfl (hb hby at_35) rfl k) ?_
  obtain ⟨ci, hci, c7⟩ := own_cap 3 (by decide) cc (7 : Int32) (by decide)
  refine Go.callI X143 hx hZ rfl hown (hw _ (List.mem_of_getElem? (i := 4) rfl)) (hw _ (List.mem_of_getElem? (i := 5) rfl)) (hw _ (List.mem_of_getElem? (i := 3) rfl)) (hw _ (List.mem_of_getElem? (i := 6) rfl)) (by decide) e143 (a := ho) (argsL := [(.int (cc &&& (7 : Int32)))]) (rest := [(.ref ho)]) (rmIni l Z a0 hw ho (cc &&& (7 : Int32)) ci h0.size h143 K_145.size A143 Fl_147 Fl_146 hci c7 g_ho) (lenOf pd_2 rfl) rfl (by rw [hml]; rfl) (W := 1) (Nat.le_of_eq rfl) (hb hby at_36) (by decide) (by decide) (by decide) (by decide) ?_
  intro v148 T148 L148 X148 hQ148
  obtain ⟨rfl, C148, ar0, za148, R0⟩ := hQ148
  have sz_ar0 := Nat.le_trans K_145.grow za148
  have g_ar0 : h0.size ≤ ar0 := sz_ar0
  have ne_sa_ar0 : sa ≠ ar0 := Nat.ne_of_lt (Nat.lt_of_lt_of_le Ar_144.lt za148)
  have Ar_149 := Ar_144.keep C148.keep (ninS ne_sa_ho nin0)
  have K_150 := K_145.call C148 (allS (Or.inr sz_ho) all0)
  show GoG _ _ _ _ _ (mkF m 39 #[.val (.int cc), .val (.long va), .second, .val (.long vb), .second, .val (.long vc), .second, .val (.long vd), .second, .val (.long ve), .second, .val (.ref sa), .unset, .unset, .unset, .unset, .unset, .unset, .unset, .unset, .unset, .unset, .unset] [(.ref ho)])
  refine Go.back (f' := (mkF m 41 #[.val (.int cc), .val (.long va), .second, .val (.long vb), .second, .val (.long vc), .second, .val (.long vd), .second, .val (.long ve), .second, .val (.ref sa), .val (.ref ho), .unset, .unset, .unset, .unset, .unset, .unset, .unset, .unset, .unset, .unset] [])) (fun _ k => XS.astore X148.here hx rfl (hb hby at_39) rfl rfl (l' := #[.val (.int cc), .val (.long va), .second, .val (.long vb), .second, .val (.long vc), .second, .val (.long vd), .second, .val (.long ve), .second, .val (.ref sa), .val (.ref ho), .unset, .unset, .unset, .unset, .unset, .unset, .unset, .unset, .unset, .unset]) rfl k) ?_
  refine Go.back (f' := (mkF m 43 #[.val (.int cc), .val (.long va), .second, .val (.long vb), .second, .val (.long vc), .second, .val (.long vd), .second, .val (.long ve), .second, .val (.ref sa), .val (.ref ho), .unset, .unset, .unset, .unset, .unset, .unset, .unset, .unset, .unset, .unset] [(.ref ho)])) (fun _ k => XS.aload X148.here hx rfl (hb hby at_41) rfl rfl k) ?_
  refine Go.back (f' := (mkF m 44 #[.val (.int cc), .val (.long va), .second, .val (.long vb), .second, .val (.long vc), .second, .val (.long vd), .second, .val (.long ve), .second, .val (.ref sa), .val (.ref ho), .unset, .unset, .unset, .unset, .unset, .unset, .unset, .unset, .unset, .unset] [(.long va), (.ref ho)])) (fun _ k => XS.lloadN X148.here hx rfl (hb hby at_43) rfl k) ?_
  refine Go.callV X148 hx hZ hown (hw _ (List.mem_of_getElem? (i := 16) rfl)) (hw _ (List.mem_of_getElem? (i := 17) rfl)) (hw _ (List.mem_of_getElem? (i := 19) rfl)) (hw _ (List.mem_of_getElem? (i := 18) rfl)) (hw _ (List.mem_of_getElem? (i := 3) rfl)) (hw _ (List.mem_of_getElem? (i := 20) rfl)) (by decide) rfl R0.1 (argsL := [(.long va)]) (rest := []) (rmAdd l Z a0 hw ho ar0 va (0 : Int32) (List.replicate (max 1 ci) 0) 0 h0.size T148.heap K_150.size R0 (by omega) g_ho g_ar0) (lenOf pd_3 rfl) rfl (by rw [hml]; rfl) (W := 0) (Nat.le_of_eq rfl) (hb hby at_44) (by decide) (by decide) (by decide) (by decide) ?_
  intro v151 T151 L151 X151 hQ151
  obtain ⟨rfl, C151, ar151, vs151, q151, R151, P151⟩ := hQ151
  have sz_ar151 := own_sz sz_ar0 K_150.grow q151
  have g_ar151 : h0.size ≤ ar151 := sz_ar151
  have ne_sa_ar151 := own_ne ne_sa_ar0 Ar_149.lt q151
  have Ar_152 := Ar_149.keep C151.keep (ninS ne_sa_ho (ninS ne_sa_ar0 nin0))
  have K_153 := K_150.call C151 (allS (Or.inr sz_ho) (allS (Or.inr sz_ar0) all0))
  show GoG _ _ _ _ _ (mkF m 47 #[.val (.int cc), .val (.long va), .second, .val (.long vb), .second, .val (.long vc), .second, .val (.long vd), .second, .val (.long ve), .second, .val (.ref sa), .val (.ref ho), .unset, .unset, .unset, .unset, .unset, .unset, .unset, .unset, .unset, .unset] [])
  refine Go.back (f' := (mkF m 49 #[.val (.int cc), .val (.long va), .second, .val (.long vb), .second, .val (.long vc), .second, .val (.long vd), .second, .val (.long ve), .second, .val (.ref sa), .val (.ref ho), .unset, .unset, .unset, .unset, .unset, .unset, .unset, .unset, .unset, .unset] [(.ref ho)])) (fun _ k => XS.aload X151.here hx rfl (hb hby at_47) rfl rfl k) ?_
  refine Go.back (f' := (mkF m 50 #[.val (.int cc), .val (.long va), .second, .val (.long vb), .second, .val (.long vc), .second, .val (.long vd), .second, .val (.long ve), .second, .val (.ref sa), .val (.ref ho), .unset, .unset, .unset, .unset, .unset, .unset, .unset, .unset, .unset, .unset] [(.long vb), (.ref ho)])) (fun _ k => XS.lloadN X151.here hx rfl (hb hby at_49) rfl k) ?_
  refine Go.callV X151 hx hZ hown (hw _ (List.mem_of_getElem? (i := 16) rfl)) (hw _ (List.mem_of_getElem? (i := 17) rfl)) (hw _ (List.mem_of_getElem? (i := 19) rfl)) (hw _ (List.mem_of_getElem? (i := 18) rfl)) (hw _ (List.mem_of_getElem? (i := 3) rfl)) (hw _ (List.mem_of_getElem? (i := 20) rfl)) (by decide) rfl R151.1 (argsL := [(.long vb)]) (rest := []) (rmAdd l Z a0 hw ho ar151 vb ((0 : Int32) + 1) vs151 1 h0.size T151.heap K_153.size R151 (by omega) g_ho g_ar151) (lenOf pd_3 rfl) rfl (by rw [hml]; rfl) (W := 0) (Nat.le_of_eq rfl) (hb hby at_50) (by decide) (by decide) (by decide) (by decide) ?_
  intro v154 T154 L154 X154 hQ154
  obtain ⟨rfl, C154, ar154, vs154, q154, R154, P154⟩ := hQ154
  have sz_ar154 := own_sz sz_ar151 K_153.grow q154
  have g_ar154 : h0.size ≤ ar154 := sz_ar154
  have ne_sa_ar154 := own_ne ne_sa_ar151 Ar_152.lt q154
  have Ar_155 := Ar_152.keep C154.keep (ninS ne_sa_ho (ninS ne_sa_ar151 nin0))
  have K_156 := K_153.call C154 (allS (Or.inr sz_ho) (allS (Or.inr sz_ar151) all0))
  show GoG _ _ _ _ _ (mkF m 53 #[.val (.int cc), .val (.long va), .second, .val (.long vb), .second, .val (.long vc), .second, .val (.long vd), .second, .val (.long ve), .second, .val (.ref sa), .val (.ref ho), .unset, .unset, .unset, .unset, .unset, .unset, .unset, .unset, .unset, .unset] [])
  refine Go.back (f' := (mkF m 55 #[.val (.int cc), .val (.long va), .second, .val (.long vb), .second, .val (.long vc), .second, .val (.long vd), .second, .val (.long ve), .second, .val (.ref sa), .val (.ref ho), .unset, .unset, .unset, .unset, .unset, .unset, .unset, .unset, .unset, .unset] [(.ref ho)])) (fun _ k => XS.aload X154.here hx rfl (hb hby at_53) rfl rfl k) ?_
  refine Go.back (f' := (mkF m 57 #[.val (.int cc), .val (.long va), .second, .val (.long vb), .second, .val (.long vc), .second, .val (.long vd), .second, .val (.long ve), .second, .val (.ref sa), .val (.ref ho), .unset, .unset, .unset, .unset, .unset, .unset, .unset, .unset, .unset, .unset] [(.long vc), (.ref ho)])) (fun _ k => XS.lload X154.here hx rfl (hb hby at_55) rfl k) ?_
  refine Go.callV X154 hx hZ hown (hw _ (List.mem_of_getElem? (i := 16) rfl)) (hw _ (List.mem_of_getElem? (i := 17) rfl)) (hw _ (List.mem_of_getElem? (i := 19) rfl)) (hw _ (List.mem_of_getElem? (i := 18) rfl)) (hw _ (List.mem_of_getElem? (i := 3) rfl)) (hw _ (List.mem_of_getElem? (i := 20) rfl)) (by decide) rfl R154.1 (argsL := [(.long vc)]) (rest := []) (rmAdd l Z a0 hw ho ar154 vc (((0 : Int32) + 1) + 1) vs154 2 h0.size T154.heap K_156.size R154 (by omega) g_ho g_ar154) (lenOf pd_3 rfl) rfl (by rw [hml]; rfl) (W := 0) (Nat.le_of_eq rfl) (hb hby at_57) (by decide) (by decide) (by decide) (by decide) ?_
  intro v157 T157 L157 X157 hQ157
  obtain ⟨rfl, C157, ar157, vs157, q157, R157, P157⟩ := hQ157
  have sz_ar157 := own_sz sz_ar154 K_156.grow q157
  have g_ar157 : h0.size ≤ ar157 := sz_ar157
  have ne_sa_ar157 := own_ne ne_sa_ar154 Ar_155.lt q157
  have Ar_158 := Ar_155.keep C157.keep (ninS ne_sa_ho (ninS ne_sa_ar154 nin0))
  have K_159 := K_156.call C157 (allS (Or.inr sz_ho) (allS (Or.inr sz_ar154) all0))
  show GoG _ _ _ _ _ (mkF m 60 #[.val (.int cc), .val (.long va), .second, .val (.long vb), .second, .val (.long vc), .second, .val (.long vd), .second, .val (.long ve), .second, .val (.ref sa), .val (.ref ho), .unset, .unset, .unset, .unset, .unset, .unset, .unset, .unset, .unset, .unset] [])
  refine Go.back (f' := (mkF m 62 #[.val (.int cc), .val (.long va), .second, .val (.long vb), .second, .val (.long vc), .second, .val (.long vd), .second, .val (.long ve), .second, .val (.ref sa), .val (.ref ho), .unset, .unset, .unset, .unset, .unset, .unset, .unset, .unset, .unset, .unset] [(.ref ho)])) (fun _ k => XS.aload X157.here hx rfl (hb hby at_60) rfl rfl k) ?_
  refine Go.back (f' := (mkF m 64 #[.val (.int cc), .val (.long va), .second, .val (.long vb), .second, .val (.long vc), .second, .val (.long vd), .second, .val (.long ve), .second, .val (.ref sa), .val (.ref ho), .unset, .unset, .unset, .unset, .unset, .unset, .unset, .unset, .unset, .unset] [(.long vd), (.ref ho)])) (fun _ k => XS.lload X157.here hx rfl (hb hby at_62) rfl k) ?_
  refine Go.callV X157 hx hZ hown (hw _ (List.mem_of_getElem? (i := 16) rfl)) (hw _ (List.mem_of_getElem? (i := 17) rfl)) (hw _ (List.mem_of_getElem? (i := 19) rfl)) (hw _ (List.mem_of_getElem? (i := 18) rfl)) (hw _ (List.mem_of_getElem? (i := 3) rfl)) (hw _ (List.mem_of_getElem? (i := 20) rfl)) (by decide) rfl R157.1 (argsL := [(.long vd)]) (rest := []) (rmAdd l Z a0 hw ho ar157 vd ((((0 : Int32) + 1) + 1) + 1) vs157 3 h0.size T157.heap K_159.size R157 (by omega) g_ho g_ar157) (lenOf pd_3 rfl) rfl (by rw [hml]; rfl) (W := 0) (Nat.le_of_eq rfl) (hb hby at_64) (by decide) (by decide) (by decide) (by decide) ?_
  intro v160 T160 L160 X160 hQ160
  obtain ⟨rfl, C160, ar160, vs160, q160, R160, P160⟩ := hQ160
  have sz_ar160 := own_sz sz_ar157 K_159.grow q160
  have g_ar160 : h0.size ≤ ar160 := sz_ar160
  have ne_sa_ar160 := own_ne ne_sa_ar157 Ar_158.lt q160
  have Ar_161 := Ar_158.keep C160.keep (ninS ne_sa_ho (ninS ne_sa_ar157 nin0))
  have K_162 := K_159.call C160 (allS (Or.inr sz_ho) (allS (Or.inr sz_ar157) all0))
  show GoG _ _ _ _ _ (mkF m 67 #[.val (.int cc), .val (.long va), .second, .val (.long vb), .second, .val (.long vc), .second, .val (.long vd), .second, .val (.long ve), .second, .val (.ref sa), .val (.ref ho), .unset, .unset, .unset, .unset, .unset, .unset, .unset, .unset, .unset, .unset] [])
  refine Go.back (f' := (mkF m 69 #[.val (.int cc), .val (.long va), .second, .val (.long vb), .second, .val (.long vc), .second, .val (.long vd), .second, .val (.long ve), .second, .val (.ref sa), .val (.ref ho), .unset, .unset, .unset, .unset, .unset, .unset, .unset, .unset, .unset, .unset] [(.ref ho)])) (fun _ k => XS.aload X160.here hx rfl (hb hby at_67) rfl rfl k) ?_
  refine Go.back (f' := (mkF m 71 #[.val (.int cc), .val (.long va), .second, .val (.long vb), .second, .val (.long vc), .second, .val (.long vd), .second, .val (.long ve), .second, .val (.ref sa), .val (.ref ho), .unset, .unset, .unset, .unset, .unset, .unset, .unset, .unset, .unset, .unset] [(.long ve), (.ref ho)])) (fun _ k => XS.lload X160.here hx rfl (hb hby at_69) rfl k) ?_
  refine Go.callV X160 hx hZ hown (hw _ (List.mem_of_getElem? (i := 16) rfl)) (hw _ (List.mem_of_getElem? (i := 17) rfl)) (hw _ (List.mem_of_getElem? (i := 19) rfl)) (hw _ (List.mem_of_getElem? (i := 18) rfl)) (hw _ (List.mem_of_getElem? (i := 3) rfl)) (hw _ (List.mem_of_getElem? (i := 20) rfl)) (by decide) rfl R160.1 (argsL := [(.long ve)]) (rest := []) (rmAdd l Z a0 hw ho ar160 ve (((((0 : Int32) + 1) + 1) + 1) + 1) vs160 4 h0.size T160.heap K_162.size R160 (by omega) g_ho g_ar160) (lenOf pd_3 rfl) rfl (by rw [hml]; rfl) (W := 0) (Nat.le_of_eq rfl) (hb hby at_71) (by decide) (by decide) (by decide) (by decide) ?_
  intro v163 T163 L163 X163 hQ163
  obtain ⟨rfl, C163, ar163, vs163, q163, R163, P163⟩ := hQ163
  have sz_ar163 := own_sz sz_ar160 K_162.grow q163
  have g_ar163 : h0.size ≤ ar163 := sz_ar163
  have ne_sa_ar163 := own_ne ne_sa_ar160 Ar_161.lt q163
  have Ar_164 := Ar_161.keep C163.keep (ninS ne_sa_ho (ninS ne_sa_ar160 nin0))
  have K_165 := K_162.call C163 (allS (Or.inr sz_ho) (allS (Or.inr sz_ar160) all0))
  show GoG _ _ _ _ _ (mkF m 74 #[.val (.int cc), .val (.long va), .second, .val (.long vb), .second, .val (.long vc), .second, .val (.long vd), .second, .val (.long ve), .second, .val (.ref sa), .val (.ref ho), .unset, .unset, .unset, .unset, .unset, .unset, .unset, .unset, .unset, .unset] [])
  refine Go.back (f' := (mkF m 76 #[.val (.int cc), .val (.long va), .second, .val (.long vb), .second, .val (.long vc), .second, .val (.long vd), .second, .val (.long ve), .second, .val (.ref sa), .val (.ref ho), .unset, .unset, .unset, .unset, .unset, .unset, .unset, .unset, .unset, .unset] [(.ref ho)])) (fun _ k => XS.aload X163.here hx rfl (hb hby at_74) rfl rfl k) ?_
  refine Go.callV X163 hx hZ hown (hw _ (List.mem_of_getElem? (i := 34) rfl)) (hw _ (List.mem_of_getElem? (i := 35) rfl)) (hw _ (List.mem_of_getElem? (i := 37) rfl)) (hw _ (List.mem_of_getElem? (i := 36) rfl)) (hw _ (List.mem_of_getElem? (i := 3) rfl)) (hw _ (List.mem_of_getElem? (i := 38) rfl)) (by decide) rfl R163.1 (argsL := []) (rest := []) (rmPoll l Z a0 hw ho ar163 ((((((0 : Int32) + 1) + 1) + 1) + 1) + 1) vs163 4 h0.size T163.heap K_165.size R163 g_ho g_ar163) (lenOf pd_4 rfl) rfl (by rw [hml]; rfl) (W := 0) (Nat.le_of_eq rfl) (hb hby at_76) (by decide) (by decide) (by decide) (by decide) ?_
  intro v166 T166 L166 X166 hQ166
  obtain ⟨rfl, C166, vs166, R166, P166, M166⟩ := hQ166
  have Ar_167 := Ar_164.keep C166.keep (ninS ne_sa_ho (ninS ne_sa_ar163 nin0))
  have K_168 := K_165.call C166 (allS (Or.inr sz_ho) (allS (Or.inr sz_ar163) all0))
  show GoG _ _ _ _ _ (mkF m 79 #[.val (.int cc), .val (.long va), .second, .val (.long vb), .second, .val (.long vc), .second, .val (.long vd), .second, .val (.long ve), .second, .val (.ref sa), .val (.ref ho), .unset, .unset, .unset, .unset, .unset, .unset, .unset, .unset, .unset, .unset] [(.long (vs163.getD 0 0))])
  refine Go.back (f' := (mkF m 81 #[.val (.int cc), .val (.long va), .second, .val (.long vb), .second, .val (.long vc), .second, .val (.long vd), .second, .val (.long ve), .second, .val (.ref sa), .val (.ref ho), .val (.long (vs163.getD 0 0)), .second, .unset, .unset, .unset, .unset, .unset, .unset, .unset, .unset] [])) (fun _ k => XS.lstore X166.here hx rfl (hb hby at_79) rfl (l' := #[.val (.int cc), .val (.long va), .second, .val (.long vb), .second, .val (.long vc), .second, .val (.long vd), .second, .val (.long ve), .second, .val (.ref sa), .val (.ref ho), .val (.long (vs163.getD 0 0)), .second, .unset, .unset, .unset, .unset, .unset, .unset, .unset, .unset]) rfl k) ?_
  refine Go.back (f' := (mkF m 83 #[.val (.int cc), .val (.long va), .second, .val (.long vb), .second, .val (.long vc), .second, .val (.long vd), .second, .val (.long ve), .second, .val (.ref sa), .val (.ref ho), .val (.long (vs163.getD 0 0)), .second, .unset, .unset, .unset, .unset, .unset, .unset, .unset, .unset] [(.ref ho)])) (fun _ k => XS.aload X166.here hx rfl (hb hby at_81) rfl rfl k) ?_
  refine Go.callV X166 hx hZ hown (hw _ (List.mem_of_getElem? (i := 34) rfl)) (hw _ (List.mem_of_getElem? (i := 35) rfl)) (hw _ (List.mem_of_getElem? (i := 37) rfl)) (hw _ (List.mem_of_getElem? (i := 36) rfl)) (hw _ (List.mem_of_getElem? (i := 3) rfl)) (hw _ (List.mem_of_getElem? (i := 38) rfl)) (by decide) rfl R166.1 (argsL := []) (rest := []) (rmPoll l Z a0 hw ho ar163 (((((((0 : Int32) + 1) + 1) + 1) + 1) + 1) - 1) vs166 3 h0.size T166.heap K_168.size R166 g_ho g_ar163) (lenOf pd_4 rfl) rfl (by rw [hml]; rfl) (W := 0) (Nat.le_of_eq rfl) (hb hby at_83) (by decide) (by decide) (by decide) (by decide) ?_
  intro v169 T169 L169 X169 hQ169
  obtain ⟨rfl, C169, vs169, R169, P169, M169⟩ := hQ169
  have Ar_170 := Ar_167.keep C169.keep (ninS ne_sa_ho (ninS ne_sa_ar163 nin0))
  have K_171 := K_168.call C169 (allS (Or.inr sz_ho) (allS (Or.inr sz_ar163) all0))
  show GoG _ _ _ _ _ (mkF m 86 #[.val (.int cc), .val (.long va), .second, .val (.long vb), .second, .val (.long vc), .second, .val (.long vd), .second, .val (.long ve), .second, .val (.ref sa), .val (.ref ho), .val (.long (vs163.getD 0 0)), .second, .unset, .unset, .unset, .unset, .unset, .unset, .unset, .unset] [(.long (vs166.getD 0 0))])
  refine Go.back (f' := (mkF m 88 #[.val (.int cc), .val (.long va), .second, .val (.long vb), .second, .val (.long vc), .second, .val (.long vd), .second, .val (.long ve), .second, .val (.ref sa), .val (.ref ho), .val (.long (vs163.getD 0 0)), .second, .val (.long (vs166.getD 0 0)), .second, .unset, .unset, .unset, .unset, .unset, .unset] [])) (fun _ k => XS.lstore X169.here hx rfl (hb hby at_86) rfl (l' := #[.val (.int cc), .val (.long va), .second, .val (.long vb), .second, .val (.long vc), .second, .val (.long vd), .second, .val (.long ve), .second, .val (.ref sa), .val (.ref ho), .val (.long (vs163.getD 0 0)), .second, .val (.long (vs166.getD 0 0)), .second, .unset, .unset, .unset, .unset, .unset, .unset]) rfl k) ?_
  refine Go.back (f' := (mkF m 90 #[.val (.int cc), .val (.long va), .second, .val (.long vb), .second, .val (.long vc), .second, .val (.long vd), .second, .val (.long ve), .second, .val (.ref sa), .val (.ref ho), .val (.long (vs163.getD 0 0)), .second, .val (.long (vs166.getD 0 0)), .second, .unset, .unset, .unset, .unset, .unset, .unset] [(.ref ho)])) (fun _ k => XS.aload X169.here hx rfl (hb hby at_88) rfl rfl k) ?_
  refine Go.callV X169 hx hZ hown (hw _ (List.mem_of_getElem? (i := 34) rfl)) (hw _ (List.mem_of_getElem? (i := 35) rfl)) (hw _ (List.mem_of_getElem? (i := 37) rfl)) (hw _ (List.mem_of_getElem? (i := 36) rfl)) (hw _ (List.mem_of_getElem? (i := 3) rfl)) (hw _ (List.mem_of_getElem? (i := 38) rfl)) (by decide) rfl R169.1 (argsL := []) (rest := []) (rmPoll l Z a0 hw ho ar163 ((((((((0 : Int32) + 1) + 1) + 1) + 1) + 1) - 1) - 1) vs169 2 h0.size T169.heap K_171.size R169 g_ho g_ar163) (lenOf pd_4 rfl) rfl (by rw [hml]; rfl) (W := 0) (Nat.le_of_eq rfl) (hb hby at_90) (by decide) (by decide) (by decide) (by decide) ?_
  intro v172 T172 L172 X172 hQ172
  obtain ⟨rfl, C172, vs172, R172, P172, M172⟩ := hQ172
  have Ar_173 := Ar_170.keep C172.keep (ninS ne_sa_ho (ninS ne_sa_ar163 nin0))
  have K_174 := K_171.call C172 (allS (Or.inr sz_ho) (allS (Or.inr sz_ar163) all0))
  show GoG _ _ _ _ _ (mkF m 93 #[.val (.int cc), .val (.long va), .second, .val (.long vb), .second, .val (.long vc), .second, .val (.long vd), .second, .val (.long ve), .second, .val (.ref sa), .val (.ref ho), .val (.long (vs163.getD 0 0)), .second, .val (.long (vs166.getD 0 0)), .second, .unset, .unset, .unset, .unset, .unset, .unset] [(.long (vs169.getD 0 0))])
  refine Go.back (f' := (mkF m 95 #[.val (.int cc), .val (.long va), .second, .val (.long vb), .second, .val (.long vc), .second, .val (.long vd), .second, .val (.long ve), .second, .val (.ref sa), .val (.ref ho), .val (.long (vs163.getD 0 0)), .second, .val (.long (vs166.getD 0 0)), .second, .val (.long (vs169.getD 0 0)), .second, .unset, .unset, .unset, .unset] [])) (fun _ k => XS.lstore X172.here hx rfl (hb hby at_93) rfl (l' := #[.val (.int cc), .val (.long va), .second, .val (.long vb), .second, .val (.long vc), .second, .val (.long vd), .second, .val (.long ve), .second, .val (.ref sa), .val (.ref ho), .val (.long (vs163.getD 0 0)), .second, .val (.long (vs166.getD 0 0)), .second, .val (.long (vs169.getD 0 0)), .second, .unset, .unset, .unset, .unset]) rfl k) ?_
  refine Go.back (f' := (mkF m 97 #[.val (.int cc), .val (.long va), .second, .val (.long vb), .second, .val (.long vc), .second, .val (.long vd), .second, .val (.long ve), .second, .val (.ref sa), .val (.ref ho), .val (.long (vs163.getD 0 0)), .second, .val (.long (vs166.getD 0 0)), .second, .val (.long (vs169.getD 0 0)), .second, .unset, .unset, .unset, .unset] [(.ref ho)])) (fun _ k => XS.aload X172.here hx rfl (hb hby at_95) rfl rfl k) ?_
  refine Go.callV X172 hx hZ hown (hw _ (List.mem_of_getElem? (i := 34) rfl)) (hw _ (List.mem_of_getElem? (i := 35) rfl)) (hw _ (List.mem_of_getElem? (i := 37) rfl)) (hw _ (List.mem_of_getElem? (i := 36) rfl)) (hw _ (List.mem_of_getElem? (i := 3) rfl)) (hw _ (List.mem_of_getElem? (i := 38) rfl)) (by decide) rfl R172.1 (argsL := []) (rest := []) (rmPoll l Z a0 hw ho ar163 (((((((((0 : Int32) + 1) + 1) + 1) + 1) + 1) - 1) - 1) - 1) vs172 1 h0.size T172.heap K_174.size R172 g_ho g_ar163) (lenOf pd_4 rfl) rfl (by rw [hml]; rfl) (W := 0) (Nat.le_of_eq rfl) (hb hby at_97) (by decide) (by decide) (by decide) (by decide) ?_
  intro v175 T175 L175 X175 hQ175
  obtain ⟨rfl, C175, vs175, R175, P175, M175⟩ := hQ175
  have Ar_176 := Ar_173.keep C175.keep (ninS ne_sa_ho (ninS ne_sa_ar163 nin0))
  have K_177 := K_174.call C175 (allS (Or.inr sz_ho) (allS (Or.inr sz_ar163) all0))
  show GoG _ _ _ _ _ (mkF m 100 #[.val (.int cc), .val (.long va), .second, .val (.long vb), .second, .val (.long vc), .second, .val (.long vd), .second, .val (.long ve), .second, .val (.ref sa), .val (.ref ho), .val (.long (vs163.getD 0 0)), .second, .val (.long (vs166.getD 0 0)), .second, .val (.long (vs169.getD 0 0)), .second, .unset, .unset, .unset, .unset] [(.long (vs172.getD 0 0))])
  refine Go.back (f' := (mkF m 102 #[.val (.int cc), .val (.long va), .second, .val (.long vb), .second, .val (.long vc), .second, .val (.long vd), .second, .val (.long ve), .second, .val (.ref sa), .val (.ref ho), .val (.long (vs163.getD 0 0)), .second, .val (.long (vs166.getD 0 0)), .second, .val (.long (vs169.getD 0 0)), .second, .val (.long (vs172.getD 0 0)), .second, .unset, .unset] [])) (fun _ k => XS.lstore X175.here hx rfl (hb hby at_100) rfl (l' := #[.val (.int cc), .val (.long va), .second, .val (.long vb), .second, .val (.long vc), .second, .val (.long vd), .second, .val (.long ve), .second, .val (.ref sa), .val (.ref ho), .val (.long (vs163.getD 0 0)), .second, .val (.long (vs166.getD 0 0)), .second, .val (.long (vs169.getD 0 0)), .second, .val (.long (vs172.getD 0 0)), .second, .unset, .unset]) rfl k) ?_
  refine Go.back (f' := (mkF m 104 #[.val (.int cc), .val (.long va), .second, .val (.long vb), .second, .val (.long vc), .second, .val (.long vd), .second, .val (.long ve), .second, .val (.ref sa), .val (.ref ho), .val (.long (vs163.getD 0 0)), .second, .val (.long (vs166.getD 0 0)), .second, .val (.long (vs169.getD 0 0)), .second, .val (.long (vs172.getD 0 0)), .second, .unset, .unset] [(.ref ho)])) (fun _ k => XS.aload X175.here hx rfl (hb hby at_102) rfl rfl k) ?_
  refine Go.callV X175 hx hZ hown (hw _ (List.mem_of_getElem? (i := 34) rfl)) (hw _ (List.mem_of_getElem? (i := 35) rfl)) (hw _ (List.mem_of_getElem? (i := 37) rfl)) (hw _ (List.mem_of_getElem? (i := 36) rfl)) (hw _ (List.mem_of_getElem? (i := 3) rfl)) (hw _ (List.mem_of_getElem? (i := 38) rfl)) (by decide) rfl R175.1 (argsL := []) (rest := []) (rmPoll l Z a0 hw ho ar163 ((((((((((0 : Int32) + 1) + 1) + 1) + 1) + 1) - 1) - 1) - 1) - 1) vs175 0 h0.size T175.heap K_177.size R175 g_ho g_ar163) (lenOf pd_4 rfl) rfl (by rw [hml]; rfl) (W := 0) (Nat.le_of_eq rfl) (hb hby at_104) (by decide) (by decide) (by decide) (by decide) ?_
  intro v178 T178 L178 X178 hQ178
  obtain ⟨rfl, C178, vs178, R178, P178, M178⟩ := hQ178
  have Ar_179 := Ar_176.keep C178.keep (ninS ne_sa_ho (ninS ne_sa_ar163 nin0))
  have K_180 := K_177.call C178 (allS (Or.inr sz_ho) (allS (Or.inr sz_ar163) all0))
  show GoG _ _ _ _ _ (mkF m 107 #[.val (.int cc), .val (.long va), .second, .val (.long vb), .second, .val (.long vc), .second, .val (.long vd), .second, .val (.long ve), .second, .val (.ref sa), .val (.ref ho), .val (.long (vs163.getD 0 0)), .second, .val (.long (vs166.getD 0 0)), .second, .val (.long (vs169.getD 0 0)), .second, .val (.long (vs172.getD 0 0)), .second, .unset, .unset] [(.long (vs175.getD 0 0))])
  refine Go.back (f' := (mkF m 109 #[.val (.int cc), .val (.long va), .second, .val (.long vb), .second, .val (.long vc), .second, .val (.long vd), .second, .val (.long ve), .second, .val (.ref sa), .val (.ref ho), .val (.long (vs163.getD 0 0)), .second, .val (.long (vs166.getD 0 0)), .second, .val (.long (vs169.getD 0 0)), .second, .val (.long (vs172.getD 0 0)), .second, .val (.long (vs175.getD 0 0)), .second] [])) (fun _ k => XS.lstore X178.here hx rfl (hb hby at_107) rfl (l' := #[.val (.int cc), .val (.long va), .second, .val (.long vb), .second, .val (.long vc), .second, .val (.long vd), .second, .val (.long ve), .second, .val (.ref sa), .val (.ref ho), .val (.long (vs163.getD 0 0)), .second, .val (.long (vs166.getD 0 0)), .second, .val (.long (vs169.getD 0 0)), .second, .val (.long (vs172.getD 0 0)), .second, .val (.long (vs175.getD 0 0)), .second]) rfl k) ?_
  refine Go.back (f' := (mkF m 111 #[.val (.int cc), .val (.long va), .second, .val (.long vb), .second, .val (.long vc), .second, .val (.long vd), .second, .val (.long ve), .second, .val (.ref sa), .val (.ref ho), .val (.long (vs163.getD 0 0)), .second, .val (.long (vs166.getD 0 0)), .second, .val (.long (vs169.getD 0 0)), .second, .val (.long (vs172.getD 0 0)), .second, .val (.long (vs175.getD 0 0)), .second] [(.ref sa)])) (fun _ k => XS.aload X178.here hx rfl (hb hby at_109) rfl rfl k) ?_
  refine Go.back (f' := (mkF m 112 #[.val (.int cc), .val (.long va), .second, .val (.long vb), .second, .val (.long vc), .second, .val (.long vd), .second, .val (.long ve), .second, .val (.ref sa), .val (.ref ho), .val (.long (vs163.getD 0 0)), .second, .val (.long (vs166.getD 0 0)), .second, .val (.long (vs169.getD 0 0)), .second, .val (.long (vs172.getD 0 0)), .second, .val (.long (vs175.getD 0 0)), .second] [(.int (0 : Int32)), (.ref sa)])) (fun _ k => XS.iconst X178.here hx rfl (hb hby at_111) k) ?_
  refine Go.back (f' := (mkF m 113 #[.val (.int cc), .val (.long va), .second, .val (.long vb), .second, .val (.long vc), .second, .val (.long vd), .second, .val (.long ve), .second, .val (.ref sa), .val (.ref ho), .val (.long (vs163.getD 0 0)), .second, .val (.long (vs166.getD 0 0)), .second, .val (.long (vs169.getD 0 0)), .second, .val (.long (vs172.getD 0 0)), .second, .val (.long (vs175.getD 0 0)), .second] [(.int (1 : Int32)), (.int (0 : Int32)), (.ref sa)])) (fun _ k => XS.iconst X178.here hx rfl (hb hby at_112) k) ?_
  refine Go.callS X178 hx hZ hown (hw _ (List.mem_of_getElem? (i := 39) rfl)) (hw _ (List.mem_of_getElem? (i := 40) rfl)) (hw _ (List.mem_of_getElem? (i := 41) rfl)) (hw _ (List.mem_of_getElem? (i := 42) rfl)) (by decide) rfl (argsL := [(.ref sa), (.int (0 : Int32)), (.int (1 : Int32))]) (rest := []) (rmCx l Z a0 hw sa (0 : Int32) (1 : Int32) [va, vb, vc, vd, ve] 0 1 h0.size T178.heap K_180.size Ar_179 rfl rfl (by simp) (by simp) g_sa) (lenOf pd_5 rfl) rfl (by rw [hml]; rfl) (W := 0) (Nat.le_of_eq rfl) (hb hby at_113) (by decide) (by decide) (by decide) (by decide) ?_
  intro v181 T181 L181 X181 hQ181
  obtain ⟨rfl, C181, V181⟩ := hQ181
  obtain ⟨a181, b181, e181, o181, l1181, l2181, l3181, l4181, d1181, d2181⟩ := cx_spec [va, vb, vc, vd, ve] 0 1 (by decide) (by simp) (by simp)
  have e181 : cxL [va, vb, vc, vd, ve] 0 1 = [a181, b181, vc, vd, ve] := e181
  have pm181 : ([a181, b181, vc, vd, ve] : List Int64).Perm [va, vb, vc, vd, ve] := e181 ▸ cx_perm (by simp) (by simp)
  rw [e181] at V181
  have l1181 : a181.toInt ≤ va.toInt := l1181
  have l2181 : a181.toInt ≤ vb.toInt := l2181
  have l3181 : va.toInt ≤ b181.toInt := l3181
  have l4181 : vb.toInt ≤ b181.toInt := l4181
  have d1181 : a181.toInt = va.toInt ∨ a181.toInt = vb.toInt := d1181.imp (fun q => congrArg Int64.toInt q) (fun q => congrArg Int64.toInt q)
  have d2181 : b181.toInt = va.toInt ∨ b181.toInt = vb.toInt := d2181.imp (fun q => congrArg Int64.toInt q) (fun q => congrArg Int64.toInt q)
  clear e181
  have K_182 := K_180.call C181 (allS (Or.inr sz_sa) all0)
  show GoG _ _ _ _ _ (mkF m 116 #[.val (.int cc), .val (.long va), .second, .val (.long vb), .second, .val (.long vc), .second, .val (.long vd), .second, .val (.long ve), .second, .val (.ref sa), .val (.ref ho), .val (.long (vs163.getD 0 0)), .second, .val (.long (vs166.getD 0 0)), .second, .val (.long (vs169.getD 0 0)), .second, .val (.long (vs172.getD 0 0)), .second, .val (.long (vs175.getD 0 0)), .second] [])
  have so183 : a181.toInt ≤ b181.toInt := by omega
  clear o181 l1181 l2181 l3181 l4181 d1181 d2181
  refine Go.back (f' := (mkF m 118 #[.val (.int cc), .val (.long va), .second, .val (.long vb), .second, .val (.long vc), .second, .val (.long vd), .second, .val (.long ve), .second, .val (.ref sa), .val (.ref ho), .val (.long (vs163.getD 0 0)), .second, .val (.long (vs166.getD 0 0)), .second, .val (.long (vs169.getD 0 0)), .second, .val (.long (vs172.getD 0 0)), .second, .val (.long (vs175.getD 0 0)), .second] [(.ref sa)])) (fun _ k => XS.aload X181.here hx rfl (hb hby at_116) rfl rfl k) ?_
  refine Go.back (f' := (mkF m 119 #[.val (.int cc), .val (.long va), .second, .val (.long vb), .second, .val (.long vc), .second, .val (.long vd), .second, .val (.long ve), .second, .val (.ref sa), .val (.ref ho), .val (.long (vs163.getD 0 0)), .second, .val (.long (vs166.getD 0 0)), .second, .val (.long (vs169.getD 0 0)), .second, .val (.long (vs172.getD 0 0)), .second, .val (.long (vs175.getD 0 0)), .second] [(.int (1 : Int32)), (.ref sa)])) (fun _ k => XS.iconst X181.here hx rfl (hb hby at_118) k) ?_
  refine Go.back (f' := (mkF m 120 #[.val (.int cc), .val (.long va), .second, .val (.long vb), .second, .val (.long vc), .second, .val (.long vd), .second, .val (.long ve), .second, .val (.ref sa), .val (.ref ho), .val (.long (vs163.getD 0 0)), .second, .val (.long (vs166.getD 0 0)), .second, .val (.long (vs169.getD 0 0)), .second, .val (.long (vs172.getD 0 0)), .second, .val (.long (vs175.getD 0 0)), .second] [(.int (2 : Int32)), (.int (1 : Int32)), (.ref sa)])) (fun _ k => XS.iconst X181.here hx rfl (hb hby at_119) k) ?_
  refine Go.callS X181 hx hZ hown (hw _ (List.mem_of_getElem? (i := 39) rfl)) (hw _ (List.mem_of_getElem? (i := 40) rfl)) (hw _ (List.mem_of_getElem? (i := 41) rfl)) (hw _ (List.mem_of_getElem? (i := 42) rfl)) (by decide) rfl (argsL := [(.ref sa), (.int (1 : Int32)), (.int (2 : Int32))]) (rest := []) (rmCx l Z a0 hw sa (1 : Int32) (2 : Int32) [a181, b181, vc, vd, ve] 1 2 h0.size T181.heap K_182.size V181 rfl rfl (by simp) (by simp) g_sa) (lenOf pd_5 rfl) rfl (by rw [hml]; rfl) (W := 0) (Nat.le_of_eq rfl) (hb hby at_120) (by decide) (by decide) (by decide) (by decide) ?_
  intro v184 T184 L184 X184 hQ184
  obtain ⟨rfl, C184, V184⟩ := hQ184
  obtain ⟨a184, b184, e184, o184, l1184, l2184, l3184, l4184, d1184, d2184⟩ := cx_spec [a181, b181, vc, vd, ve] 1 2 (by decide) (by simp) (by simp)
  have e184 : cxL [a181, b181, vc, vd, ve] 1 2 = [a181, a184, b184, vd, ve] := e184
  have pm184 : ([a181, a184, b184, vd, ve] : List Int64).Perm [a181, b181, vc, vd, ve] := e184 ▸ cx_perm (by simp) (by simp)
  rw [e184] at V184
  have l1184 : a184.toInt ≤ b181.toInt := l1184
  have l2184 : a184.toInt ≤ vc.toInt := l2184
  have l3184 : b181.toInt ≤ b184.toInt := l3184
  have l4184 : vc.toInt ≤ b184.toInt := l4184
  have d1184 : a184.toInt = b181.toInt ∨ a184.toInt = vc.toInt := d1184.imp (fun q => congrArg Int64.toInt q) (fun q => congrArg Int64.toInt q)
  have d2184 : b184.toInt = b181.toInt ∨ b184.toInt = vc.toInt := d2184.imp (fun q => congrArg Int64.toInt q) (fun q => congrArg Int64.toInt q)
  clear e184
  have K_185 := K_182.call C184 (allS (Or.inr sz_sa) all0)
  show GoG _ _ _ _ _ (mkF m 123 #[.val (.int cc), .val (.long va), .second, .val (.long vb), .second, .val (.long vc), .second, .val (.long vd), .second, .val (.long ve), .second, .val (.ref sa), .val (.ref ho), .val (.long (vs163.getD 0 0)), .second, .val (.long (vs166.getD 0 0)), .second, .val (.long (vs169.getD 0 0)), .second, .val (.long (vs172.getD 0 0)), .second, .val (.long (vs175.getD 0 0)), .second] [])
  refine Go.back (f' := (mkF m 125 #[.val (.int cc), .val (.long va), .second, .val (.long vb), .second, .val (.long vc), .second, .val (.long vd), .second, .val (.long ve), .second, .val (.ref sa), .val (.ref ho), .val (.long (vs163.getD 0 0)), .second, .val (.long (vs166.getD 0 0)), .second, .val (.long (vs169.getD 0 0)), .second, .val (.long (vs172.getD 0 0)), .second, .val (.long (vs175.getD 0 0)), .second] [(.ref sa)])) (fun _ k => XS.aload X184.here hx rfl (hb hby at_123) rfl rfl k) ?_
  refine Go.back (f' := (mkF m 126 #[.val (.int cc), .val (.long va), .second, .val (.long vb), .second, .val (.long vc), .second, .val (.long vd), .second, .val (.long ve), .second, .val (.ref sa), .val (.ref ho), .val (.long (vs163.getD 0 0)), .second, .val (.long (vs166.getD 0 0)), .second, .val (.long (vs169.getD 0 0)), .second, .val (.long (vs172.getD 0 0)), .second, .val (.long (vs175.getD 0 0)), .second] [(.int (0 : Int32)), (.ref sa)])) (fun _ k => XS.iconst X184.here hx rfl (hb hby at_125) k) ?_
  refine Go.back (f' := (mkF m 127 #[.val (.int cc), .val (.long va), .second, .val (.long vb), .second, .val (.long vc), .second, .val (.long vd), .second, .val (.long ve), .second, .val (.ref sa), .val (.ref ho), .val (.long (vs163.getD 0 0)), .second, .val (.long (vs166.getD 0 0)), .second, .val (.long (vs169.getD 0 0)), .second, .val (.long (vs172.getD 0 0)), .second, .val (.long (vs175.getD 0 0)), .second] [(.int (1 : Int32)), (.int (0 : Int32)), (.ref sa)])) (fun _ k => XS.iconst X184.here hx rfl (hb hby at_126) k) ?_
  refine Go.callS X184 hx hZ hown (hw _ (List.mem_of_getElem? (i := 39) rfl)) (hw _ (List.mem_of_getElem? (i := 40) rfl)) (hw _ (List.mem_of_getElem? (i := 41) rfl)) (hw _ (List.mem_of_getElem? (i := 42) rfl)) (by decide) rfl (argsL := [(.ref sa), (.int (0 : Int32)), (.int (1 : Int32))]) (rest := []) (rmCx l Z a0 hw sa (0 : Int32) (1 : Int32) [a181, a184, b184, vd, ve] 0 1 h0.size T184.heap K_185.size V184 rfl rfl (by simp) (by simp) g_sa) (lenOf pd_5 rfl) rfl (by rw [hml]; rfl) (W := 0) (Nat.le_of_eq rfl) (hb hby at_127) (by decide) (by decide) (by decide) (by decide) ?_
  intro v186 T186 L186 X186 hQ186
  obtain ⟨rfl, C186, V186⟩ := hQ186
  obtain ⟨a186, b186, e186, o186, l1186, l2186, l3186, l4186, d1186, d2186⟩ := cx_spec [a181, a184, b184, vd, ve] 0 1 (by decide) (by simp) (by simp)
  have e186 : cxL [a181, a184, b184, vd, ve] 0 1 = [a186, b186, b184, vd, ve] := e186
  have pm186 : ([a186, b186, b184, vd, ve] : List Int64).Perm [a181, a184, b184, vd, ve] := e186 ▸ cx_perm (by simp) (by simp)
  rw [e186] at V186
  have l1186 : a186.toInt ≤ a181.toInt := l1186
  have l2186 : a186.toInt ≤ a184.toInt := l2186
  have l3186 : a181.toInt ≤ b186.toInt := l3186
  have l4186 : a184.toInt ≤ b186.toInt := l4186
  have d1186 : a186.toInt = a181.toInt ∨ a186.toInt = a184.toInt := d1186.imp (fun q => congrArg Int64.toInt q) (fun q => congrArg Int64.toInt q)
  have d2186 : b186.toInt = a181.toInt ∨ b186.toInt = a184.toInt := d2186.imp (fun q => congrArg Int64.toInt q) (fun q => congrArg Int64.toInt q)
  clear e186
  have K_187 := K_185.call C186 (allS (Or.inr sz_sa) all0)
  show GoG _ _ _ _ _ (mkF m 130 #[.val (.int cc), .val (.long va), .second, .val (.long vb), .second, .val (.long vc), .second, .val (.long vd), .second, .val (.long ve), .second, .val (.ref sa), .val (.ref ho), .val (.long (vs163.getD 0 0)), .second, .val (.long (vs166.getD 0 0)), .second, .val (.long (vs169.getD 0 0)), .second, .val (.long (vs172.getD 0 0)), .second, .val (.long (vs175.getD 0 0)), .second] [])
  have so188 : a186.toInt ≤ b186.toInt := by omega
  have so189 : b186.toInt ≤ b184.toInt := by omega
  clear so183 o184 l1184 l2184 l3184 l4184 d1184 d2184 o186 l1186 l2186 l3186 l4186 d1186 d2186
  refine Go.back (f' := (mkF m 132 #[.val (.int cc), .val (.long va), .second, .val (.long vb), .second, .val (.long vc), .second, .val (.long vd), .second, .val (.long ve), .second, .val (.ref sa), .val (.ref ho), .val (.long (vs163.getD 0 0)), .second, .val (.long (vs166.getD 0 0)), .second, .val (.long (vs169.getD 0 0)), .second, .val (.long (vs172.getD 0 0)), .second, .val (.long (vs175.getD 0 0)), .second] [(.ref sa)])) (fun _ k => XS.aload X186.here hx rfl (hb hby at_130) rfl rfl k) ?_
  refine Go.back (f' := (mkF m 133 #[.val (.int cc), .val (.long va), .second, .val (.long vb), .second, .val (.long vc), .second, .val (.long vd), .second, .val (.long ve), .second, .val (.ref sa), .val (.ref ho), .val (.long (vs163.getD 0 0)), .second, .val (.long (vs166.getD 0 0)), .second, .val (.long (vs169.getD 0 0)), .second, .val (.long (vs172.getD 0 0)), .second, .val (.long (vs175.getD 0 0)), .second] [(.int (2 : Int32)), (.ref sa)])) (fun _ k => XS.iconst X186.here hx rfl (hb hby at_132) k) ?_
  refine Go.back (f' := (mkF m 134 #[.val (.int cc), .val (.long va), .second, .val (.long vb), .second, .val (.long vc), .second, .val (.long vd), .second, .val (.long ve), .second, .val (.ref sa), .val (.ref ho), .val (.long (vs163.getD 0 0)), .second, .val (.long (vs166.getD 0 0)), .second, .val (.long (vs169.getD 0 0)), .second, .val (.long (vs172.getD 0 0)), .second, .val (.long (vs175.getD 0 0)), .second] [(.int (3 : Int32)), (.int (2 : Int32)), (.ref sa)])) (fun _ k => XS.iconst X186.here hx rfl (hb hby at_133) k) ?_
  refine Go.callS X186 hx hZ hown (hw _ (List.mem_of_getElem? (i := 39) rfl)) (hw _ (List.mem_of_getElem? (i := 40) rfl)) (hw _ (List.mem_of_getElem? (i := 41) rfl)) (hw _ (List.mem_of_getElem? (i := 42) rfl)) (by decide) rfl (argsL := [(.ref sa), (.int (2 : Int32)), (.int (3 : Int32))]) (rest := []) (rmCx l Z a0 hw sa (2 : Int32) (3 : Int32) [a186, b186, b184, vd, ve] 2 3 h0.size T186.heap K_187.size V186 rfl rfl (by simp) (by simp) g_sa) (lenOf pd_5 rfl) rfl (by rw [hml]; rfl) (W := 0) (Nat.le_of_eq rfl) (hb hby at_134) (by decide) (by decide) (by decide) (by decide) ?_
  intro v190 T190 L190 X190 hQ190
  obtain ⟨rfl, C190, V190⟩ := hQ190
  obtain ⟨a190, b190, e190, o190, l1190, l2190, l3190, l4190, d1190, d2190⟩ := cx_spec [a186, b186, b184, vd, ve] 2 3 (by decide) (by simp) (by simp)
  have e190 : cxL [a186, b186, b184, vd, ve] 2 3 = [a186, b186, a190, b190, ve] := e190
  have pm190 : ([a186, b186, a190, b190, ve] : List Int64).Perm [a186, b186, b184, vd, ve] := e190 ▸ cx_perm (by simp) (by simp)
  rw [e190] at V190
  have l1190 : a190.toInt ≤ b184.toInt := l1190
  have l2190 : a190.toInt ≤ vd.toInt := l2190
  have l3190 : b184.toInt ≤ b190.toInt := l3190
  have l4190 : vd.toInt ≤ b190.toInt := l4190
  have d1190 : a190.toInt = b184.toInt ∨ a190.toInt = vd.toInt := d1190.imp (fun q => congrArg Int64.toInt q) (fun q => congrArg Int64.toInt q)
  have d2190 : b190.toInt = b184.toInt ∨ b190.toInt = vd.toInt := d2190.imp (fun q => congrArg Int64.toInt q) (fun q => congrArg Int64.toInt q)
  clear e190
  have K_191 := K_187.call C190 (allS (Or.inr sz_sa) all0)
  show GoG _ _ _ _ _ (mkF m 137 #[.val (.int cc), .val (.long va), .second, .val (.long vb), .second, .val (.long vc), .second, .val (.long vd), .second, .val (.long ve), .second, .val (.ref sa), .val (.ref ho), .val (.long (vs163.getD 0 0)), .second, .val (.long (vs166.getD 0 0)), .second, .val (.long (vs169.getD 0 0)), .second, .val (.long (vs172.getD 0 0)), .second, .val (.long (vs175.getD 0 0)), .second] [])
  refine Go.back (f' := (mkF m 139 #[.val (.int cc), .val (.long va), .second, .val (.long vb), .second, .val (.long vc), .second, .val (.long vd), .second, .val (.long ve), .second, .val (.ref sa), .val (.ref ho), .val (.long (vs163.getD 0 0)), .second, .val (.long (vs166.getD 0 0)), .second, .val (.long (vs169.getD 0 0)), .second, .val (.long (vs172.getD 0 0)), .second, .val (.long (vs175.getD 0 0)), .second] [(.ref sa)])) (fun _ k => XS.aload X190.here hx rfl (hb hby at_137) rfl rfl k) ?_
  refine Go.back (f' := (mkF m 140 #[.val (.int cc), .val (.long va), .second, .val (.long vb), .second, .val (.long vc), .second, .val (.long vd), .second, .val (.long ve), .second, .val (.ref sa), .val (.ref ho), .val (.long (vs163.getD 0 0)), .second, .val (.long (vs166.getD 0 0)), .second, .val (.long (vs169.getD 0 0)), .second, .val (.long (vs172.getD 0 0)), .second, .val (.long (vs175.getD 0 0)), .second] [(.int (1 : Int32)), (.ref sa)])) (fun _ k => XS.iconst X190.here hx rfl (hb hby at_139) k) ?_
  refine Go.back (f' := (mkF m 141 #[.val (.int cc), .val (.long va), .second, .val (.long vb), .second, .val (.long vc), .second, .val (.long vd), .second, .val (.long ve), .second, .val (.ref sa), .val (.ref ho), .val (.long (vs163.getD 0 0)), .second, .val (.long (vs166.getD 0 0)), .second, .val (.long (vs169.getD 0 0)), .second, .val (.long (vs172.getD 0 0)), .second, .val (.long (vs175.getD 0 0)), .second] [(.int (2 : Int32)), (.int (1 : Int32)), (.ref sa)])) (fun _ k => XS.iconst X190.here hx rfl (hb hby at_140) k) ?_
  refine Go.callS X190 hx hZ hown (hw _ (List.mem_of_getElem? (i := 39) rfl)) (hw _ (List.mem_of_getElem? (i := 40) rfl)) (hw _ (List.mem_of_getElem? (i := 41) rfl)) (hw _ (List.mem_of_getElem? (i := 42) rfl)) (by decide) rfl (argsL := [(.ref sa), (.int (1 : Int32)), (.int (2 : Int32))]) (rest := []) (rmCx l Z a0 hw sa (1 : Int32) (2 : Int32) [a186, b186, a190, b190, ve] 1 2 h0.size T190.heap K_191.size V190 rfl rfl (by simp) (by simp) g_sa) (lenOf pd_5 rfl) rfl (by rw [hml]; rfl) (W := 0) (Nat.le_of_eq rfl) (hb hby at_141) (by decide) (by decide) (by decide) (by decide) ?_
  intro v192 T192 L192 X192 hQ192
  obtain ⟨rfl, C192, V192⟩ := hQ192
  obtain ⟨a192, b192, e192, o192, l1192, l2192, l3192, l4192, d1192, d2192⟩ := cx_spec [a186, b186, a190, b190, ve] 1 2 (by decide) (by simp) (by simp)
  have e192 : cxL [a186, b186, a190, b190, ve] 1 2 = [a186, a192, b192, b190, ve] := e192
  have pm192 : ([a186, a192, b192, b190, ve] : List Int64).Perm [a186, b186, a190, b190, ve] := e192 ▸ cx_perm (by simp) (by simp)
  rw [e192] at V192
  have l1192 : a192.toInt ≤ b186.toInt := l1192
  have l2192 : a192.toInt ≤ a190.toInt := l2192
  have l3192 : b186.toInt ≤ b192.toInt := l3192
  have l4192 : a190.toInt ≤ b192.toInt := l4192
  have d1192 : a192.toInt = b186.toInt ∨ a192.toInt = a190.toInt := d1192.imp (fun q => congrArg Int64.toInt q) (fun q => congrArg Int64.toInt q)
  have d2192 : b192.toInt = b186.toInt ∨ b192.toInt = a190.toInt := d2192.imp (fun q => congrArg Int64.toInt q) (fun q => congrArg Int64.toInt q)
  clear e192
  have K_193 := K_191.call C192 (allS (Or.inr sz_sa) all0)
  show GoG _ _ _ _ _ (mkF m 144 #[.val (.int cc), .val (.long va), .second, .val (.long vb), .second, .val (.long vc), .second, .val (.long vd), .second, .val (.long ve), .second, .val (.ref sa), .val (.ref ho), .val (.long (vs163.getD 0 0)), .second, .val (.long (vs166.getD 0 0)), .second, .val (.long (vs169.getD 0 0)), .second, .val (.long (vs172.getD 0 0)), .second, .val (.long (vs175.getD 0 0)), .second] [])
  refine Go.back (f' := (mkF m 146 #[.val (.int cc), .val (.long va), .second, .val (.long vb), .second, .val (.long vc), .second, .val (.long vd), .second, .val (.long ve), .second, .val (.ref sa), .val (.ref ho), .val (.long (vs163.getD 0 0)), .second, .val (.long (vs166.getD 0 0)), .second, .val (.long (vs169.getD 0 0)), .second, .val (.long (vs172.getD 0 0)), .second, .val (.long (vs175.getD 0 0)), .second] [(.ref sa)])) (fun _ k => XS.aload X192.here hx rfl (hb hby at_144) rfl rfl k) ?_
  refine Go.back (f' := (mkF m 147 #[.val (.int cc), .val (.long va), .second, .val (.long vb), .second, .val (.long vc), .second, .val (.long vd), .second, .val (.long ve), .second, .val (.ref sa), .val (.ref ho), .val (.long (vs163.getD 0 0)), .second, .val (.long (vs166.getD 0 0)), .second, .val (.long (vs169.getD 0 0)), .second, .val (.long (vs172.getD 0 0)), .second, .val (.long (vs175.getD 0 0)), .second] [(.int (0 : Int32)), (.ref sa)])) (fun _ k => XS.iconst X192.here hx rfl (hb hby at_146) k) ?_
  refine Go.back (f' := (mkF m 148 #[.val (.int cc), .val (.long va), .second, .val (.long vb), .second, .val (.long vc), .second, .val (.long vd), .second, .val (.long ve), .second, .val (.ref sa), .val (.ref ho), .val (.long (vs163.getD 0 0)), .second, .val (.long (vs166.getD 0 0)), .second, .val (.long (vs169.getD 0 0)), .second, .val (.long (vs172.getD 0 0)), .second, .val (.long (vs175.getD 0 0)), .second] [(.int (1 : Int32)), (.int (0 : Int32)), (.ref sa)])) (fun _ k => XS.iconst X192.here hx rfl (hb hby at_147) k) ?_
  refine Go.callS X192 hx hZ hown (hw _ (List.mem_of_getElem? (i := 39) rfl)) (hw _ (List.mem_of_getElem? (i := 40) rfl)) (hw _ (List.mem_of_getElem? (i := 41) rfl)) (hw _ (List.mem_of_getElem? (i := 42) rfl)) (by decide) rfl (argsL := [(.ref sa), (.int (0 : Int32)), (.int (1 : Int32))]) (rest := []) (rmCx l Z a0 hw sa (0 : Int32) (1 : Int32) [a186, a192, b192, b190, ve] 0 1 h0.size T192.heap K_193.size V192 rfl rfl (by simp) (by simp) g_sa) (lenOf pd_5 rfl) rfl (by rw [hml]; rfl) (W := 0) (Nat.le_of_eq rfl) (hb hby at_148) (by decide) (by decide) (by decide) (by decide) ?_
  intro v194 T194 L194 X194 hQ194
  obtain ⟨rfl, C194, V194⟩ := hQ194
  obtain ⟨a194, b194, e194, o194, l1194, l2194, l3194, l4194, d1194, d2194⟩ := cx_spec [a186, a192, b192, b190, ve] 0 1 (by decide) (by simp) (by simp)
  have e194 : cxL [a186, a192, b192, b190, ve] 0 1 = [a194, b194, b192, b190, ve] := e194
  have pm194 : ([a194, b194, b192, b190, ve] : List Int64).Perm [a186, a192, b192, b190, ve] := e194 ▸ cx_perm (by simp) (by simp)
  rw [e194] at V194
  have l1194 : a194.toInt ≤ a186.toInt := l1194
  have l2194 : a194.toInt ≤ a192.toInt := l2194
  have l3194 : a186.toInt ≤ b194.toInt := l3194
  have l4194 : a192.toInt ≤ b194.toInt := l4194
  have d1194 : a194.toInt = a186.toInt ∨ a194.toInt = a192.toInt := d1194.imp (fun q => congrArg Int64.toInt q) (fun q => congrArg Int64.toInt q)
  have d2194 : b194.toInt = a186.toInt ∨ b194.toInt = a192.toInt := d2194.imp (fun q => congrArg Int64.toInt q) (fun q => congrArg Int64.toInt q)
  clear e194
  have K_195 := K_193.call C194 (allS (Or.inr sz_sa) all0)
  show GoG _ _ _ _ _ (mkF m 151 #[.val (.int cc), .val (.long va), .second, .val (.long vb), .second, .val (.long vc), .second, .val (.long vd), .second, .val (.long ve), .second, .val (.ref sa), .val (.ref ho), .val (.long (vs163.getD 0 0)), .second, .val (.long (vs166.getD 0 0)), .second, .val (.long (vs169.getD 0 0)), .second, .val (.long (vs172.getD 0 0)), .second, .val (.long (vs175.getD 0 0)), .second] [])
  have so196 : a194.toInt ≤ b194.toInt := by omega
  have so197 : b194.toInt ≤ b192.toInt := by omega
  have so198 : b192.toInt ≤ b190.toInt := by omega
  clear so188 so189 o190 l1190 l2190 l3190 l4190 d1190 d2190 o192 l1192 l2192 l3192 l4192 d1192 d2192 o194 l1194 l2194 l3194 l4194 d1194 d2194
  refine Go.back (f' := (mkF m 153 #[.val (.int cc), .val (.long va), .second, .val (.long vb), .second, .val (.long vc), .second, .val (.long vd), .second, .val (.long ve), .second, .val (.ref sa), .val (.ref ho), .val (.long (vs163.getD 0 0)), .second, .val (.long (vs166.getD 0 0)), .second, .val (.long (vs169.getD 0 0)), .second, .val (.long (vs172.getD 0 0)), .second, .val (.long (vs175.getD 0 0)), .second] [(.ref sa)])) (fun _ k => XS.aload X194.here hx rfl (hb hby at_151) rfl rfl k) ?_
  refine Go.back (f' := (mkF m 154 #[.val (.int cc), .val (.long va), .second, .val (.long vb), .second, .val (.long vc), .second, .val (.long vd), .second, .val (.long ve), .second, .val (.ref sa), .val (.ref ho), .val (.long (vs163.getD 0 0)), .second, .val (.long (vs166.getD 0 0)), .second, .val (.long (vs169.getD 0 0)), .second, .val (.long (vs172.getD 0 0)), .second, .val (.long (vs175.getD 0 0)), .second] [(.int (3 : Int32)), (.ref sa)])) (fun _ k => XS.iconst X194.here hx rfl (hb hby at_153) k) ?_
  refine Go.back (f' := (mkF m 155 #[.val (.int cc), .val (.long va), .second, .val (.long vb), .second, .val (.long vc), .second, .val (.long vd), .second, .val (.long ve), .second, .val (.ref sa), .val (.ref ho), .val (.long (vs163.getD 0 0)), .second, .val (.long (vs166.getD 0 0)), .second, .val (.long (vs169.getD 0 0)), .second, .val (.long (vs172.getD 0 0)), .second, .val (.long (vs175.getD 0 0)), .second] [(.int (4 : Int32)), (.int (3 : Int32)), (.ref sa)])) (fun _ k => XS.iconst X194.here hx rfl (hb hby at_154) k) ?_
  refine Go.callS X194 hx hZ hown (hw _ (List.mem_of_getElem? (i := 39) rfl)) (hw _ (List.mem_of_getElem? (i := 40) rfl)) (hw _ (List.mem_of_getElem? (i := 41) rfl)) (hw _ (List.mem_of_getElem? (i := 42) rfl)) (by decide) rfl (argsL := [(.ref sa), (.int (3 : Int32)), (.int (4 : Int32))]) (rest := []) (rmCx l Z a0 hw sa (3 : Int32) (4 : Int32) [a194, b194, b192, b190, ve] 3 4 h0.size T194.heap K_195.size V194 rfl rfl (by simp) (by simp) g_sa) (lenOf pd_5 rfl) rfl (by rw [hml]; rfl) (W := 0) (Nat.le_of_eq rfl) (hb hby at_155) (by decide) (by decide) (by decide) (by decide) ?_
  intro v199 T199 L199 X199 hQ199
  obtain ⟨rfl, C199, V199⟩ := hQ199
  obtain ⟨a199, b199, e199, o199, l1199, l2199, l3199, l4199, d1199, d2199⟩ := cx_spec [a194, b194, b192, b190, ve] 3 4 (by decide) (by simp) (by simp)
  have e199 : cxL [a194, b194, b192, b190, ve] 3 4 = [a194, b194, b192, a199, b199] := e199
  have pm199 : ([a194, b194, b192, a199, b199] : List Int64).Perm [a194, b194, b192, b190, ve] := e199 ▸ cx_perm (by simp) (by simp)
  rw [e199] at V199
  have l1199 : a199.toInt ≤ b190.toInt := l1199
  have l2199 : a199.toInt ≤ ve.toInt := l2199
  have l3199 : b190.toInt ≤ b199.toInt := l3199
  have l4199 : ve.toInt ≤ b199.toInt := l4199
  have d1199 : a199.toInt = b190.toInt ∨ a199.toInt = ve.toInt := d1199.imp (fun q => congrArg Int64.toInt q) (fun q => congrArg Int64.toInt q)
  have d2199 : b199.toInt = b190.toInt ∨ b199.toInt = ve.toInt := d2199.imp (fun q => congrArg Int64.toInt q) (fun q => congrArg Int64.toInt q)
  clear e199
  have K_200 := K_195.call C199 (allS (Or.inr sz_sa) all0)
  show GoG _ _ _ _ _ (mkF m 158 #[.val (.int cc), .val (.long va), .second, .val (.long vb), .second, .val (.long vc), .second, .val (.long vd), .second, .val (.long ve), .second, .val (.ref sa), .val (.ref ho), .val (.long (vs163.getD 0 0)), .second, .val (.long (vs166.getD 0 0)), .second, .val (.long (vs169.getD 0 0)), .second, .val (.long (vs172.getD 0 0)), .second, .val (.long (vs175.getD 0 0)), .second] [])
  refine Go.back (f' := (mkF m 160 #[.val (.int cc), .val (.long va), .second, .val (.long vb), .second, .val (.long vc), .second, .val (.long vd), .second, .val (.long ve), .second, .val (.ref sa), .val (.ref ho), .val (.long (vs163.getD 0 0)), .second, .val (.long (vs166.getD 0 0)), .second, .val (.long (vs169.getD 0 0)), .second, .val (.long (vs172.getD 0 0)), .second, .val (.long (vs175.getD 0 0)), .second] [(.ref sa)])) (fun _ k => XS.aload X199.here hx rfl (hb hby at_158) rfl rfl k) ?_
  refine Go.back (f' := (mkF m 161 #[.val (.int cc), .val (.long va), .second, .val (.long vb), .second, .val (.long vc), .second, .val (.long vd), .second, .val (.long ve), .second, .val (.ref sa), .val (.ref ho), .val (.long (vs163.getD 0 0)), .second, .val (.long (vs166.getD 0 0)), .second, .val (.long (vs169.getD 0 0)), .second, .val (.long (vs172.getD 0 0)), .second, .val (.long (vs175.getD 0 0)), .second] [(.int (2 : Int32)), (.ref sa)])) (fun _ k => XS.iconst X199.here hx rfl (hb hby at_160) k) ?_
  refine Go.back (f' := (mkF m 162 #[.val (.int cc), .val (.long va), .second, .val (.long vb), .second, .val (.long vc), .second, .val (.long vd), .second, .val (.long ve), .second, .val (.ref sa), .val (.ref ho), .val (.long (vs163.getD 0 0)), .second, .val (.long (vs166.getD 0 0)), .second, .val (.long (vs169.getD 0 0)), .second, .val (.long (vs172.getD 0 0)), .second, .val (.long (vs175.getD 0 0)), .second] [(.int (3 : Int32)), (.int (2 : Int32)), (.ref sa)])) (fun _ k => XS.iconst X199.here hx rfl (hb hby at_161) k) ?_
  refine Go.callS X199 hx hZ hown (hw _ (List.mem_of_getElem? (i := 39) rfl)) (hw _ (List.mem_of_getElem? (i := 40) rfl)) (hw _ (List.mem_of_getElem? (i := 41) rfl)) (hw _ (List.mem_of_getElem? (i := 42) rfl)) (by decide) rfl (argsL := [(.ref sa), (.int (2 : Int32)), (.int (3 : Int32))]) (rest := []) (rmCx l Z a0 hw sa (2 : Int32) (3 : Int32) [a194, b194, b192, a199, b199] 2 3 h0.size T199.heap K_200.size V199 rfl rfl (by simp) (by simp) g_sa) (lenOf pd_5 rfl) rfl (by rw [hml]; rfl) (W := 0) (Nat.le_of_eq rfl) (hb hby at_162) (by decide) (by decide) (by decide) (by decide) ?_
  intro v201 T201 L201 X201 hQ201
  obtain ⟨rfl, C201, V201⟩ := hQ201
  obtain ⟨a201, b201, e201, o201, l1201, l2201, l3201, l4201, d1201, d2201⟩ := cx_spec [a194, b194, b192, a199, b199] 2 3 (by decide) (by simp) (by simp)
  have e201 : cxL [a194, b194, b192, a199, b199] 2 3 = [a194, b194, a201, b201, b199] := e201
  have pm201 : ([a194, b194, a201, b201, b199] : List Int64).Perm [a194, b194, b192, a199, b199] := e201 ▸ cx_perm (by simp) (by simp)
  rw [e201] at V201
  have l1201 : a201.toInt ≤ b192.toInt := l1201
  have l2201 : a201.toInt ≤ a199.toInt := l2201
  have l3201 : b192.toInt ≤ b201.toInt := l3201
  have l4201 : a199.toInt ≤ b201.toInt := l4201
  have d1201 : a201.toInt = b192.toInt ∨ a201.toInt = a199.toInt := d1201.imp (fun q => congrArg Int64.toInt q) (fun q => congrArg Int64.toInt q)
  have d2201 : b201.toInt = b192.toInt ∨ b201.toInt = a199.toInt := d2201.imp (fun q => congrArg Int64.toInt q) (fun q => congrArg Int64.toInt q)
  clear e201
  have K_202 := K_200.call C201 (allS (Or.inr sz_sa) all0)
  show GoG _ _ _ _ _ (mkF m 165 #[.val (.int cc), .val (.long va), .second, .val (.long vb), .second, .val (.long vc), .second, .val (.long vd), .second, .val (.long ve), .second, .val (.ref sa), .val (.ref ho), .val (.long (vs163.getD 0 0)), .second, .val (.long (vs166.getD 0 0)), .second, .val (.long (vs169.getD 0 0)), .second, .val (.long (vs172.getD 0 0)), .second, .val (.long (vs175.getD 0 0)), .second] [])
  refine Go.back (f' := (mkF m 167 #[.val (.int cc), .val (.long va), .second, .val (.long vb), .second, .val (.long vc), .second, .val (.long vd), .second, .val (.long ve), .second, .val (.ref sa), .val (.ref ho), .val (.long (vs163.getD 0 0)), .second, .val (.long (vs166.getD 0 0)), .second, .val (.long (vs169.getD 0 0)), .second, .val (.long (vs172.getD 0 0)), .second, .val (.long (vs175.getD 0 0)), .second] [(.ref sa)])) (fun _ k => XS.aload X201.here hx rfl (hb hby at_165) rfl rfl k) ?_
  refine Go.back (f' := (mkF m 168 #[.val (.int cc), .val (.long va), .second, .val (.long vb), .second, .val (.long vc), .second, .val (.long vd), .second, .val (.long ve), .second, .val (.ref sa), .val (.ref ho), .val (.long (vs163.getD 0 0)), .second, .val (.long (vs166.getD 0 0)), .second, .val (.long (vs169.getD 0 0)), .second, .val (.long (vs172.getD 0 0)), .second, .val (.long (vs175.getD 0 0)), .second] [(.int (1 : Int32)), (.ref sa)])) (fun _ k => XS.iconst X201.here hx rfl (hb hby at_167) k) ?_
  refine Go.back (f' := (mkF m 169 #[.val (.int cc), .val (.long va), .second, .val (.long vb), .second, .val (.long vc), .second, .val (.long vd), .second, .val (.long ve), .second, .val (.ref sa), .val (.ref ho), .val (.long (vs163.getD 0 0)), .second, .val (.long (vs166.getD 0 0)), .second, .val (.long (vs169.getD 0 0)), .second, .val (.long (vs172.getD 0 0)), .second, .val (.long (vs175.getD 0 0)), .second] [(.int (2 : Int32)), (.int (1 : Int32)), (.ref sa)])) (fun _ k => XS.iconst X201.here hx rfl (hb hby at_168) k) ?_
  refine Go.callS X201 hx hZ hown (hw _ (List.mem_of_getElem? (i := 39) rfl)) (hw _ (List.mem_of_getElem? (i := 40) rfl)) (hw _ (List.mem_of_getElem? (i := 41) rfl)) (hw _ (List.mem_of_getElem? (i := 42) rfl)) (by decide) rfl (argsL := [(.ref sa), (.int (1 : Int32)), (.int (2 : Int32))]) (rest := []) (rmCx l Z a0 hw sa (1 : Int32) (2 : Int32) [a194, b194, a201, b201, b199] 1 2 h0.size T201.heap K_202.size V201 rfl rfl (by simp) (by simp) g_sa) (lenOf pd_5 rfl) rfl (by rw [hml]; rfl) (W := 0) (Nat.le_of_eq rfl) (hb hby at_169) (by decide) (by decide) (by decide) (by decide) ?_
  intro v203 T203 L203 X203 hQ203
  obtain ⟨rfl, C203, V203⟩ := hQ203
  obtain ⟨a203, b203, e203, o203, l1203, l2203, l3203, l4203, d1203, d2203⟩ := cx_spec [a194, b194, a201, b201, b199] 1 2 (by decide) (by simp) (by simp)
  have e203 : cxL [a194, b194, a201, b201, b199] 1 2 = [a194, a203, b203, b201, b199] := e203
  have pm203 : ([a194, a203, b203, b201, b199] : List Int64).Perm [a194, b194, a201, b201, b199] := e203 ▸ cx_perm (by simp) (by simp)
  rw [e203] at V203
  have l1203 : a203.toInt ≤ b194.toInt := l1203
  have l2203 : a203.toInt ≤ a201.toInt := l2203
  have l3203 : b194.toInt ≤ b203.toInt := l3203
  have l4203 : a201.toInt ≤ b203.toInt := l4203
  have d1203 : a203.toInt = b194.toInt ∨ a203.toInt = a201.toInt := d1203.imp (fun q => congrArg Int64.toInt q) (fun q => congrArg Int64.toInt q)
  have d2203 : b203.toInt = b194.toInt ∨ b203.toInt = a201.toInt := d2203.imp (fun q => congrArg Int64.toInt q) (fun q => congrArg Int64.toInt q)
  clear e203
  have K_204 := K_202.call C203 (allS (Or.inr sz_sa) all0)
  show GoG _ _ _ _ _ (mkF m 172 #[.val (.int cc), .val (.long va), .second, .val (.long vb), .second, .val (.long vc), .second, .val (.long vd), .second, .val (.long ve), .second, .val (.ref sa), .val (.ref ho), .val (.long (vs163.getD 0 0)), .second, .val (.long (vs166.getD 0 0)), .second, .val (.long (vs169.getD 0 0)), .second, .val (.long (vs172.getD 0 0)), .second, .val (.long (vs175.getD 0 0)), .second] [])
  refine Go.back (f' := (mkF m 174 #[.val (.int cc), .val (.long va), .second, .val (.long vb), .second, .val (.long vc), .second, .val (.long vd), .second, .val (.long ve), .second, .val (.ref sa), .val (.ref ho), .val (.long (vs163.getD 0 0)), .second, .val (.long (vs166.getD 0 0)), .second, .val (.long (vs169.getD 0 0)), .second, .val (.long (vs172.getD 0 0)), .second, .val (.long (vs175.getD 0 0)), .second] [(.ref sa)])) (fun _ k => XS.aload X203.here hx rfl (hb hby at_172) rfl rfl k) ?_
  refine Go.back (f' := (mkF m 175 #[.val (.int cc), .val (.long va), .second, .val (.long vb), .second, .val (.long vc), .second, .val (.long vd), .second, .val (.long ve), .second, .val (.ref sa), .val (.ref ho), .val (.long (vs163.getD 0 0)), .second, .val (.long (vs166.getD 0 0)), .second, .val (.long (vs169.getD 0 0)), .second, .val (.long (vs172.getD 0 0)), .second, .val (.long (vs175.getD 0 0)), .second] [(.int (0 : Int32)), (.ref sa)])) (fun _ k => XS.iconst X203.here hx rfl (hb hby at_174) k) ?_
  refine Go.back (f' := (mkF m 176 #[.val (.int cc), .val (.long va), .second, .val (.long vb), .second, .val (.long vc), .second, .val (.long vd), .second, .val (.long ve), .second, .val (.ref sa), .val (.ref ho), .val (.long (vs163.getD 0 0)), .second, .val (.long (vs166.getD 0 0)), .second, .val (.long (vs169.getD 0 0)), .second, .val (.long (vs172.getD 0 0)), .second, .val (.long (vs175.getD 0 0)), .second] [(.int (1 : Int32)), (.int (0 : Int32)), (.ref sa)])) (fun _ k => XS.iconst X203.here hx rfl (hb hby at_175) k) ?_
  refine Go.callS X203 hx hZ hown (hw _ (List.mem_of_getElem? (i := 39) rfl)) (hw _ (List.mem_of_getElem? (i := 40) rfl)) (hw _ (List.mem_of_getElem? (i := 41) rfl)) (hw _ (List.mem_of_getElem? (i := 42) rfl)) (by decide) rfl (argsL := [(.ref sa), (.int (0 : Int32)), (.int (1 : Int32))]) (rest := []) (rmCx l Z a0 hw sa (0 : Int32) (1 : Int32) [a194, a203, b203, b201, b199] 0 1 h0.size T203.heap K_204.size V203 rfl rfl (by simp) (by simp) g_sa) (lenOf pd_5 rfl) rfl (by rw [hml]; rfl) (W := 0) (Nat.le_of_eq rfl) (hb hby at_176) (by decide) (by decide) (by decide) (by decide) ?_
  intro v205 T205 L205 X205 hQ205
  obtain ⟨rfl, C205, V205⟩ := hQ205
  obtain ⟨a205, b205, e205, o205, l1205, l2205, l3205, l4205, d1205, d2205⟩ := cx_spec [a194, a203, b203, b201, b199] 0 1 (by decide) (by simp) (by simp)
  have e205 : cxL [a194, a203, b203, b201, b199] 0 1 = [a205, b205, b203, b201, b199] := e205
  have pm205 : ([a205, b205, b203, b201, b199] : List Int64).Perm [a194, a203, b203, b201, b199] := e205 ▸ cx_perm (by simp) (by simp)
  rw [e205] at V205
  have l1205 : a205.toInt ≤ a194.toInt := l1205
  have l2205 : a205.toInt ≤ a203.toInt := l2205
  have l3205 : a194.toInt ≤ b205.toInt := l3205
  have l4205 : a203.toInt ≤ b205.toInt := l4205
  have d1205 : a205.toInt = a194.toInt ∨ a205.toInt = a203.toInt := d1205.imp (fun q => congrArg Int64.toInt q) (fun q => congrArg Int64.toInt q)
  have d2205 : b205.toInt = a194.toInt ∨ b205.toInt = a203.toInt := d2205.imp (fun q => congrArg Int64.toInt q) (fun q => congrArg Int64.toInt q)
  clear e205
  have K_206 := K_204.call C205 (allS (Or.inr sz_sa) all0)
  show GoG _ _ _ _ _ (mkF m 179 #[.val (.int cc), .val (.long va), .second, .val (.long vb), .second, .val (.long vc), .second, .val (.long vd), .second, .val (.long ve), .second, .val (.ref sa), .val (.ref ho), .val (.long (vs163.getD 0 0)), .second, .val (.long (vs166.getD 0 0)), .second, .val (.long (vs169.getD 0 0)), .second, .val (.long (vs172.getD 0 0)), .second, .val (.long (vs175.getD 0 0)), .second] [])
  have so207 : a205.toInt ≤ b205.toInt := by omega
  have so208 : b205.toInt ≤ b203.toInt := by omega
  have so209 : b203.toInt ≤ b201.toInt := by omega
  have so210 : b201.toInt ≤ b199.toInt := by omega
  clear so196 so197 so198 o199 l1199 l2199 l3199 l4199 d1199 d2199 o201 l1201 l2201 l3201 l4201 d1201 d2201 o203 l1203 l2203 l3203 l4203 d1203 d2203 o205 l1205 l2205 l3205 l4205 d1205 d2205
  have srt : ([a205, b205, b203, b201, b199] : List Int64).Pairwise le64 := by
    simp only [List.pairwise_cons, List.mem_cons, List.not_mem_nil, or_false, forall_eq_or_imp, forall_eq, le64, false_imp_iff, implies_true, List.Pairwise.nil, and_true]
    omega
  have ch4 := chain_step P178 M178 (List.Perm.refl []) List.Pairwise.nil
  have ch3 := chain_step P175 M175 ch4.1 ch4.2
  have ch2 := chain_step P172 M172 ch3.1 ch3.2
  have ch1 := chain_step P169 M169 ch2.1 ch2.2
  have ch0 := chain_step P166 M166 ch1.1 ch1.2
  have pa0 := P151
  have pa1 := P154.trans (pa0.cons _)
  have pa2 := P157.trans (pa1.cons _)
  have pa3 := P160.trans (pa2.cons _)
  have pa4 := P163.trans (pa3.cons _)
  have pn : ([a205, b205, b203, b201, b199] : List Int64).Perm [va, vb, vc, vd, ve] := (pm205.trans (pm203.trans (pm201.trans (pm199.trans (pm194.trans (pm192.trans (pm190.trans (pm186.trans (pm184.trans pm181)))))))))
  have rv : ([ve, vd, vc, vb, va] : List Int64).Perm [va, vb, vc, vd, ve] := List.reverse_perm [va, vb, vc, vd, ve]
  have fe : ([(vs163.getD 0 0), (vs166.getD 0 0), (vs169.getD 0 0), (vs172.getD 0 0), (vs175.getD 0 0)] : List Int64) = [a205, b205, b203, b201, b199] := sorted_eq ((ch0.1.trans (pa4.trans rv)).trans pn.symm) ch0.2 srt
  have fe := fe
  simp only [List.cons.injEq, and_true] at fe
  obtain ⟨f0, f1, f2, f3, f4⟩ := fe
  refine Go.back (f' := (mkF m 181 #[.val (.int cc), .val (.long va), .second, .val (.long vb), .second, .val (.long vc), .second, .val (.long vd), .second, .val (.long ve), .second, .val (.ref sa), .val (.ref ho), .val (.long (vs163.getD 0 0)), .second, .val (.long (vs166.getD 0 0)), .second, .val (.long (vs169.getD 0 0)), .second, .val (.long (vs172.getD 0 0)), .second, .val (.long (vs175.getD 0 0)), .second] [(.long (vs163.getD 0 0))])) (fun _ k => XS.lload X205.here hx rfl (hb hby at_179) rfl k) ?_
  refine Go.back (f' := (mkF m 183 #[.val (.int cc), .val (.long va), .second, .val (.long vb), .second, .val (.long vc), .second, .val (.long vd), .second, .val (.long ve), .second, .val (.ref sa), .val (.ref ho), .val (.long (vs163.getD 0 0)), .second, .val (.long (vs166.getD 0 0)), .second, .val (.long (vs169.getD 0 0)), .second, .val (.long (vs172.getD 0 0)), .second, .val (.long (vs175.getD 0 0)), .second] [(.ref sa), (.long (vs163.getD 0 0))])) (fun _ k => XS.aload X205.here hx rfl (hb hby at_181) rfl rfl k) ?_
  refine Go.back (f' := (mkF m 184 #[.val (.int cc), .val (.long va), .second, .val (.long vb), .second, .val (.long vc), .second, .val (.long vd), .second, .val (.long ve), .second, .val (.ref sa), .val (.ref ho), .val (.long (vs163.getD 0 0)), .second, .val (.long (vs166.getD 0 0)), .second, .val (.long (vs169.getD 0 0)), .second, .val (.long (vs172.getD 0 0)), .second, .val (.long (vs175.getD 0 0)), .second] [(.int (0 : Int32)), (.ref sa), (.long (vs163.getD 0 0))])) (fun _ k => XS.iconst X205.here hx rfl (hb hby at_183) k) ?_
  refine Go.back (f' := (mkF m 185 #[.val (.int cc), .val (.long va), .second, .val (.long vb), .second, .val (.long vc), .second, .val (.long vd), .second, .val (.long ve), .second, .val (.ref sa), .val (.ref ho), .val (.long (vs163.getD 0 0)), .second, .val (.long (vs166.getD 0 0)), .second, .val (.long (vs169.getD 0 0)), .second, .val (.long (vs172.getD 0 0)), .second, .val (.long (vs175.getD 0 0)), .second] [(.long a205), (.long (vs163.getD 0 0))])) (V205.ldJ X205 hx hZ rfl (hb hby at_184) (i := 0) rfl rfl) ?_
  refine Go.back (f' := (mkF m 186 #[.val (.int cc), .val (.long va), .second, .val (.long vb), .second, .val (.long vc), .second, .val (.long vd), .second, .val (.long ve), .second, .val (.ref sa), .val (.ref ho), .val (.long (vs163.getD 0 0)), .second, .val (.long (vs166.getD 0 0)), .second, .val (.long (vs169.getD 0 0)), .second, .val (.long (vs172.getD 0 0)), .second, .val (.long (vs175.getD 0 0)), .second] [(.int (lcmpW (vs163.getD 0 0) a205))])) (fun _ k => XS.lcmp X205.here hx rfl (hb hby at_185) rfl k) ?_
  refine Go.back (f' := (mkF m 189 #[.val (.int cc), .val (.long va), .second, .val (.long vb), .second, .val (.long vc), .second, .val (.long vd), .second, .val (.long ve), .second, .val (.ref sa), .val (.ref ho), .val (.long (vs163.getD 0 0)), .second, .val (.long (vs166.getD 0 0)), .second, .val (.long (vs169.getD 0 0)), .second, .val (.long (vs172.getD 0 0)), .second, .val (.long (vs175.getD 0 0)), .second] [])) (fun _ k => XS.ifNo X205.here hx rfl (hb hby at_186) rfl (l_ne_f f0) k) ?_
  refine Go.back (f' := (mkF m 191 #[.val (.int cc), .val (.long va), .second, .val (.long vb), .second, .val (.long vc), .second, .val (.long vd), .second, .val (.long ve), .second, .val (.ref sa), .val (.ref ho), .val (.long (vs163.getD 0 0)), .second, .val (.long (vs166.getD 0 0)), .second, .val (.long (vs169.getD 0 0)), .second, .val (.long (vs172.getD 0 0)), .second, .val (.long (vs175.getD 0 0)), .second] [(.long (vs166.getD 0 0))])) (fun _ k => XS.lload X205.here hx rfl (hb hby at_189) rfl k) ?_
  refine Go.back (f' := (mkF m 193 #[.val (.int cc), .val (.long va), .second, .val (.long vb), .second, .val (.long vc), .second, .val (.long vd), .second, .val (.long ve), .second, .val (.ref sa), .val (.ref ho), .val (.long (vs163.getD 0 0)), .second, .val (.long (vs166.getD 0 0)), .second, .val (.long (vs169.getD 0 0)), .second, .val (.long (vs172.getD 0 0)), .second, .val (.long (vs175.getD 0 0)), .second] [(.ref sa), (.long (vs166.getD 0 0))])) (fun _ k => XS.aload X205.here hx rfl (hb hby at_191) rfl rfl k) ?_
  refine Go.back (f' := (mkF m 194 #[.val (.int cc), .val (.long va), .second, .val (.long vb), .second, .val (.long vc), .second, .val (.long vd), .second, .val (.long ve), .second, .val (.ref sa), .val (.ref ho), .val (.long (vs163.getD 0 0)), .second, .val (.long (vs166.getD 0 0)), .second, .val (.long (vs169.getD 0 0)), .second, .val (.long (vs172.getD 0 0)), .second, .val (.long (vs175.getD 0 0)), .second] [(.int (1 : Int32)), (.ref sa), (.long (vs166.getD 0 0))])) (fun _ k => XS.iconst X205.here hx rfl (hb hby at_193) k) ?_
  refine Go.back (f' := (mkF m 195 #[.val (.int cc), .val (.long va), .second, .val (.long vb), .second, .val (.long vc), .second, .val (.long vd), .second, .val (.long ve), .second, .val (.ref sa), .val (.ref ho), .val (.long (vs163.getD 0 0)), .second, .val (.long (vs166.getD 0 0)), .second, .val (.long (vs169.getD 0 0)), .second, .val (.long (vs172.getD 0 0)), .second, .val (.long (vs175.getD 0 0)), .second] [(.long b205), (.long (vs166.getD 0 0))])) (V205.ldJ X205 hx hZ rfl (hb hby at_194) (i := 1) rfl rfl) ?_
  refine Go.back (f' := (mkF m 196 #[.val (.int cc), .val (.long va), .second, .val (.long vb), .second, .val (.long vc), .second, .val (.long vd), .second, .val (.long ve), .second, .val (.ref sa), .val (.ref ho), .val (.long (vs163.getD 0 0)), .second, .val (.long (vs166.getD 0 0)), .second, .val (.long (vs169.getD 0 0)), .second, .val (.long (vs172.getD 0 0)), .second, .val (.long (vs175.getD 0 0)), .second] [(.int (lcmpW (vs166.getD 0 0) b205))])) (fun _ k => XS.lcmp X205.here hx rfl (hb hby at_195) rfl k) ?_
  refine Go.back (f' := (mkF m 199 #[.val (.int cc), .val (.long va), .second, .val (.long vb), .second, .val (.long vc), .second, .val (.long vd), .second, .val (.long ve), .second, .val (.ref sa), .val (.ref ho), .val (.long (vs163.getD 0 0)), .second, .val (.long (vs166.getD 0 0)), .second, .val (.long (vs169.getD 0 0)), .second, .val (.long (vs172.getD 0 0)), .second, .val (.long (vs175.getD 0 0)), .second] [])) (fun _ k => XS.ifNo X205.here hx rfl (hb hby at_196) rfl (l_ne_f f1) k) ?_
  refine Go.back (f' := (mkF m 201 #[.val (.int cc), .val (.long va), .second, .val (.long vb), .second, .val (.long vc), .second, .val (.long vd), .second, .val (.long ve), .second, .val (.ref sa), .val (.ref ho), .val (.long (vs163.getD 0 0)), .second, .val (.long (vs166.getD 0 0)), .second, .val (.long (vs169.getD 0 0)), .second, .val (.long (vs172.getD 0 0)), .second, .val (.long (vs175.getD 0 0)), .second] [(.long (vs169.getD 0 0))])) (fun _ k => XS.lload X205.here hx rfl (hb hby at_199) rfl k) ?_
  refine Go.back (f' := (mkF m 203 #[.val (.int cc), .val (.long va), .second, .val (.long vb), .second, .val (.long vc), .second, .val (.long vd), .second, .val (.long ve), .second, .val (.ref sa), .val (.ref ho), .val (.long (vs163.getD 0 0)), .second, .val (.long (vs166.getD 0 0)), .second, .val (.long (vs169.getD 0 0)), .second, .val (.long (vs172.getD 0 0)), .second, .val (.long (vs175.getD 0 0)), .second] [(.ref sa), (.long (vs169.getD 0 0))])) (fun _ k => XS.aload X205.here hx rfl (hb hby at_201) rfl rfl k) ?_
  refine Go.back (f' := (mkF m 204 #[.val (.int cc), .val (.long va), .second, .val (.long vb), .second, .val (.long vc), .second, .val (.long vd), .second, .val (.long ve), .second, .val (.ref sa), .val (.ref ho), .val (.long (vs163.getD 0 0)), .second, .val (.long (vs166.getD 0 0)), .second, .val (.long (vs169.getD 0 0)), .second, .val (.long (vs172.getD 0 0)), .second, .val (.long (vs175.getD 0 0)), .second] [(.int (2 : Int32)), (.ref sa), (.long (vs169.getD 0 0))])) (fun _ k => XS.iconst X205.here hx rfl (hb hby at_203) k) ?_
  refine Go.back (f' := (mkF m 205 #[.val (.int cc), .val (.long va), .second, .val (.long vb), .second, .val (.long vc), .second, .val (.long vd), .second, .val (.long ve), .second, .val (.ref sa), .val (.ref ho), .val (.long (vs163.getD 0 0)), .second, .val (.long (vs166.getD 0 0)), .second, .val (.long (vs169.getD 0 0)), .second, .val (.long (vs172.getD 0 0)), .second, .val (.long (vs175.getD 0 0)), .second] [(.long b203), (.long (vs169.getD 0 0))])) (V205.ldJ X205 hx hZ rfl (hb hby at_204) (i := 2) rfl rfl) ?_
  refine Go.back (f' := (mkF m 206 #[.val (.int cc), .val (.long va), .second, .val (.long vb), .second, .val (.long vc), .second, .val (.long vd), .second, .val (.long ve), .second, .val (.ref sa), .val (.ref ho), .val (.long (vs163.getD 0 0)), .second, .val (.long (vs166.getD 0 0)), .second, .val (.long (vs169.getD 0 0)), .second, .val (.long (vs172.getD 0 0)), .second, .val (.long (vs175.getD 0 0)), .second] [(.int (lcmpW (vs169.getD 0 0) b203))])) (fun _ k => XS.lcmp X205.here hx rfl (hb hby at_205) rfl k) ?_
  refine Go.back (f' := (mkF m 209 #[.val (.int cc), .val (.long va), .second, .val (.long vb), .second, .val (.long vc), .second, .val (.long vd), .second, .val (.long ve), .second, .val (.ref sa), .val (.ref ho), .val (.long (vs163.getD 0 0)), .second, .val (.long (vs166.getD 0 0)), .second, .val (.long (vs169.getD 0 0)), .second, .val (.long (vs172.getD 0 0)), .second, .val (.long (vs175.getD 0 0)), .second] [])) (fun _ k => XS.ifNo X205.here hx rfl (hb hby at_206) rfl (l_ne_f f2) k) ?_
  refine Go.back (f' := (mkF m 211 #[.val (.int cc), .val (.long va), .second, .val (.long vb), .second, .val (.long vc), .second, .val (.long vd), .second, .val (.long ve), .second, .val (.ref sa), .val (.ref ho), .val (.long (vs163.getD 0 0)), .second, .val (.long (vs166.getD 0 0)), .second, .val (.long (vs169.getD 0 0)), .second, .val (.long (vs172.getD 0 0)), .second, .val (.long (vs175.getD 0 0)), .second] [(.long (vs172.getD 0 0))])) (fun _ k => XS.lload X205.here hx rfl (hb hby at_209) rfl k) ?_
  refine Go.back (f' := (mkF m 213 #[.val (.int cc), .val (.long va), .second, .val (.long vb), .second, .val (.long vc), .second, .val (.long vd), .second, .val (.long ve), .second, .val (.ref sa), .val (.ref ho), .val (.long (vs163.getD 0 0)), .second, .val (.long (vs166.getD 0 0)), .second, .val (.long (vs169.getD 0 0)), .second, .val (.long (vs172.getD 0 0)), .second, .val (.long (vs175.getD 0 0)), .second] [(.ref sa), (.long (vs172.getD 0 0))])) (fun _ k => XS.aload X205.here hx rfl (hb hby at_211) rfl rfl k) ?_
  refine Go.back (f' := (mkF m 214 #[.val (.int cc), .val (.long va), .second, .val (.long vb), .second, .val (.long vc), .second, .val (.long vd), .second, .val (.long ve), .second, .val (.ref sa), .val (.ref ho), .val (.long (vs163.getD 0 0)), .second, .val (.long (vs166.getD 0 0)), .second, .val (.long (vs169.getD 0 0)), .second, .val (.long (vs172.getD 0 0)), .second, .val (.long (vs175.getD 0 0)), .second] [(.int (3 : Int32)), (.ref sa), (.long (vs172.getD 0 0))])) (fun _ k => XS.iconst X205.here hx rfl (hb hby at_213) k) ?_
  refine Go.back (f' := (mkF m 215 #[.val (.int cc), .val (.long va), .second, .val (.long vb), .second, .val (.long vc), .second, .val (.long vd), .second, .val (.long ve), .second, .val (.ref sa), .val (.ref ho), .val (.long (vs163.getD 0 0)), .second, .val (.long (vs166.getD 0 0)), .second, .val (.long (vs169.getD 0 0)), .second, .val (.long (vs172.getD 0 0)), .second, .val (.long (vs175.getD 0 0)), .second] [(.long b201), (.long (vs172.getD 0 0))])) (V205.ldJ X205 hx hZ rfl (hb hby at_214) (i := 3) rfl rfl) ?_
  refine Go.back (f' := (mkF m 216 #[.val (.int cc), .val (.long va), .second, .val (.long vb), .second, .val (.long vc), .second, .val (.long vd), .second, .val (.long ve), .second, .val (.ref sa), .val (.ref ho), .val (.long (vs163.getD 0 0)), .second, .val (.long (vs166.getD 0 0)), .second, .val (.long (vs169.getD 0 0)), .second, .val (.long (vs172.getD 0 0)), .second, .val (.long (vs175.getD 0 0)), .second] [(.int (lcmpW (vs172.getD 0 0) b201))])) (fun _ k => XS.lcmp X205.here hx rfl (hb hby at_215) rfl k) ?_
  refine Go.back (f' := (mkF m 219 #[.val (.int cc), .val (.long va), .second, .val (.long vb), .second, .val (.long vc), .second, .val (.long vd), .second, .val (.long ve), .second, .val (.ref sa), .val (.ref ho), .val (.long (vs163.getD 0 0)), .second, .val (.long (vs166.getD 0 0)), .second, .val (.long (vs169.getD 0 0)), .second, .val (.long (vs172.getD 0 0)), .second, .val (.long (vs175.getD 0 0)), .second] [])) (fun _ k => XS.ifNo X205.here hx rfl (hb hby at_216) rfl (l_ne_f f3) k) ?_
  refine Go.back (f' := (mkF m 221 #[.val (.int cc), .val (.long va), .second, .val (.long vb), .second, .val (.long vc), .second, .val (.long vd), .second, .val (.long ve), .second, .val (.ref sa), .val (.ref ho), .val (.long (vs163.getD 0 0)), .second, .val (.long (vs166.getD 0 0)), .second, .val (.long (vs169.getD 0 0)), .second, .val (.long (vs172.getD 0 0)), .second, .val (.long (vs175.getD 0 0)), .second] [(.long (vs175.getD 0 0))])) (fun _ k => XS.lload X205.here hx rfl (hb hby at_219) rfl k) ?_
  refine Go.back (f' := (mkF m 223 #[.val (.int cc), .val (.long va), .second, .val (.long vb), .second, .val (.long vc), .second, .val (.long vd), .second, .val (.long ve), .second, .val (.ref sa), .val (.ref ho), .val (.long (vs163.getD 0 0)), .second, .val (.long (vs166.getD 0 0)), .second, .val (.long (vs169.getD 0 0)), .second, .val (.long (vs172.getD 0 0)), .second, .val (.long (vs175.getD 0 0)), .second] [(.ref sa), (.long (vs175.getD 0 0))])) (fun _ k => XS.aload X205.here hx rfl (hb hby at_221) rfl rfl k) ?_
  refine Go.back (f' := (mkF m 224 #[.val (.int cc), .val (.long va), .second, .val (.long vb), .second, .val (.long vc), .second, .val (.long vd), .second, .val (.long ve), .second, .val (.ref sa), .val (.ref ho), .val (.long (vs163.getD 0 0)), .second, .val (.long (vs166.getD 0 0)), .second, .val (.long (vs169.getD 0 0)), .second, .val (.long (vs172.getD 0 0)), .second, .val (.long (vs175.getD 0 0)), .second] [(.int (4 : Int32)), (.ref sa), (.long (vs175.getD 0 0))])) (fun _ k => XS.iconst X205.here hx rfl (hb hby at_223) k) ?_
  refine Go.back (f' := (mkF m 225 #[.val (.int cc), .val (.long va), .second, .val (.long vb), .second, .val (.long vc), .second, .val (.long vd), .second, .val (.long ve), .second, .val (.ref sa), .val (.ref ho), .val (.long (vs163.getD 0 0)), .second, .val (.long (vs166.getD 0 0)), .second, .val (.long (vs169.getD 0 0)), .second, .val (.long (vs172.getD 0 0)), .second, .val (.long (vs175.getD 0 0)), .second] [(.long b199), (.long (vs175.getD 0 0))])) (V205.ldJ X205 hx hZ rfl (hb hby at_224) (i := 4) rfl rfl) ?_
  refine Go.back (f' := (mkF m 226 #[.val (.int cc), .val (.long va), .second, .val (.long vb), .second, .val (.long vc), .second, .val (.long vd), .second, .val (.long ve), .second, .val (.ref sa), .val (.ref ho), .val (.long (vs163.getD 0 0)), .second, .val (.long (vs166.getD 0 0)), .second, .val (.long (vs169.getD 0 0)), .second, .val (.long (vs172.getD 0 0)), .second, .val (.long (vs175.getD 0 0)), .second] [(.int (lcmpW (vs175.getD 0 0) b199))])) (fun _ k => XS.lcmp X205.here hx rfl (hb hby at_225) rfl k) ?_
  refine Go.back (f' := (mkF m 229 #[.val (.int cc), .val (.long va), .second, .val (.long vb), .second, .val (.long vc), .second, .val (.long vd), .second, .val (.long ve), .second, .val (.ref sa), .val (.ref ho), .val (.long (vs163.getD 0 0)), .second, .val (.long (vs166.getD 0 0)), .second, .val (.long (vs169.getD 0 0)), .second, .val (.long (vs172.getD 0 0)), .second, .val (.long (vs175.getD 0 0)), .second] [])) (fun _ k => XS.ifNo X205.here hx rfl (hb hby at_226) rfl (l_ne_f f4) k) ?_
  refine Go.back (f' := (mkF m 230 #[.val (.int cc), .val (.long va), .second, .val (.long vb), .second, .val (.long vc), .second, .val (.long vd), .second, .val (.long ve), .second, .val (.ref sa), .val (.ref ho), .val (.long (vs163.getD 0 0)), .second, .val (.long (vs166.getD 0 0)), .second, .val (.long (vs169.getD 0 0)), .second, .val (.long (vs172.getD 0 0)), .second, .val (.long (vs175.getD 0 0)), .second] [(.int (1 : Int32))])) (fun _ k => XS.iconst X205.here hx rfl (hb hby at_229) k) ?_
  refine Go.back (f' := (mkF m 234 #[.val (.int cc), .val (.long va), .second, .val (.long vb), .second, .val (.long vc), .second, .val (.long vd), .second, .val (.long ve), .second, .val (.ref sa), .val (.ref ho), .val (.long (vs163.getD 0 0)), .second, .val (.long (vs166.getD 0 0)), .second, .val (.long (vs169.getD 0 0)), .second, .val (.long (vs172.getD 0 0)), .second, .val (.long (vs175.getD 0 0)), .second] [(.int (1 : Int32))])) (fun _ k => XS.goto X205.here hx rfl (pc0 := 230) (pc' := 234) rfl (hb hby at_230) (by decide) (by decide) k) ?_
  exact Go.retN X205 hx (t := .boolean) hret (by simp) (w := (1 : Int32)) rfl hlk (hb hby at_234) ⟨rfl, K_206.fr⟩ (by decide) (by decide)
set_option maxRecDepth 65536 in
set_option maxHeartbeats 40000000 in
theorem comes_1 {Post : Tables → Env → Array Value → State → Outcome → State → Prop} (hpost : ∀ tb e args s v u, (limb_1_1.after args s (.returned v) u = true ∧ limb_1_2.after args s (.returned v) u = true ∧ True) → FrameEnd s (.returned v) u (Jvm.fieldLocs frame_1_writes args s ++ Jvm.arrayLocs frame_1_arrays args s ++ Jvm.staticLocs frame_1_statics s) 24 128 → Post tb e args s (.returned v) u) :
    ArmFor flags0 classFile x code maxLocals ret World_1 tables_1 room_1 Calls_1 rest_1 Pre_1 Post := by
  intro l hfl _ _ p e ha hc hk s m args below hf hA hF happ hP
  obtain ⟨hcalls, hrest, hpre⟩ := hP
  obtain ⟨-, -, -, hnamed, -, -, -, hat⟩ := (Spec.applies_iff hf).mp happ
  obtain ⟨hg, hn⟩ := and_e (Cond.before_iff.mp (show (Jvm.Cond.and given_1 narrow_1).before args s = true from hpre))
  obtain ⟨hcnt, hg0⟩ := and_e hg
  obtain ⟨ht0, hg1⟩ := and_e hg0
  obtain ⟨ht1, hg2⟩ := and_e hg1
  obtain ⟨ht2, hg3⟩ := and_e hg2
  obtain ⟨ht3, hg4⟩ := and_e hg3
  obtain ⟨ht4, hg5⟩ := and_e hg4
  have ht5 := hg5
  obtain ⟨w0, w1, w2, w3, w4, w5, rfl⟩ : ∃ w0 w1 w2 w3 w4 w5 : Value, args = #[w0, w1, w2, w3, w4, w5] := by
    have hs : args.size = 6 := by simpa [Cond.value, given_1] using hcnt
    obtain ⟨L⟩ := args
    match L, hs with
    | [w0, w1, w2, w3, w4, w5], _ => exact ⟨w0, w1, w2, w3, w4, w5, rfl⟩
  have hw := fun d (hd : d ∈ tables_1) => atoms_spec (ws := Jvm.Cond.code x code maxLocals ret :: tables_1) hat d (List.mem_cons_of_mem _ hd)
  have hfit : Fit s := fun {y c} hc i hi => by
    obtain ⟨ha, rfl⟩ := Array.getElem?_eq_some_iff.mp hc
    have q := List.all_eq_true.mp ((Array.all_eq_true_iff_forall_mem.mp hF) _ (Array.getElem_mem ha)) i (List.mem_range.mpr hi)
    simpa [Array.getElem?_eq_getElem hi] using q
  obtain ⟨i0, ei0⟩ := is_v ht0
  obtain rfl : w0 = (.int i0) := Option.some.inj ei0
  obtain ⟨i1, ei1⟩ := isL_v ht1
  obtain rfl : w1 = (.long i1) := Option.some.inj ei1
  obtain ⟨i2, ei2⟩ := isL_v ht2
  obtain rfl : w2 = (.long i2) := Option.some.inj ei2
  obtain ⟨i3, ei3⟩ := isL_v ht3
  obtain rfl : w3 = (.long i3) := Option.some.inj ei3
  obtain ⟨i4, ei4⟩ := isL_v ht4
  obtain rfl : w4 = (.long i4) := Option.some.inj ei4
  obtain ⟨i5, ei5⟩ := isL_v ht5
  obtain rfl : w5 = (.long i5) := Option.some.inj ei5
  obtain ⟨n, o, h1, h2, h3, _, L, rfl, ⟨rfl, N⟩, hq⟩ := (rm0 l s _ hw i0 i1 i2 i3 i4 i5 s.heap) tables_1 p e ha hc hk s m _ below hf ((Spec.applies_iff_loose hf).mp happ).1 ⟨rfl, State.Warmed39.refl s, rfl⟩ trivial
  refine ⟨n, _, h1, h2, h3, hpost _ _ _ _ _ _ ⟨Cond.after_iff.mpr rfl, Cond.after_iff.mpr (eq_i res_at (Term.int_eval (1)) rfl), trivial⟩ ⟨hq.1, hq.2.1, (hq.2.2.sift fun y hy => Or.inr (N y hy)).mono (by decide) (by decide)⟩⟩
theorem main_1_1 : Claimed_1_1 := comes_1 fun _ _ _ _ _ _ h hF => ⟨h.1, hF⟩
theorem main_1_2 : Claimed_1_2 := comes_1 fun _ _ _ _ _ _ h hF => ⟨h.2.1, hF⟩
end Jvm.Pilot.@@N@@
namespace Jvm.Pilot.@@N@@
open Jvm Jvm.ClassFile Sem Op Lib Jvm.Free Jvm.Stand Jvm.Pilot.@@N@@.Jvm.D
/-! MADE BY PROGRAM (witnessworld.py) out of the Statement's table words and the real class files: 12 classes; the members and pool entries that the words name. The judged class is class 1, her method 2. -/
namespace start1
open Jvm.ClassFile
def u (s : String) : CpInfo := .utf8 (stringToUtf16 s)
/-- a pool by its gaps: so many unusable entries, then the entry; so many at the end -/
def gap : Nat → List CpInfo → List CpInfo
  | 0, r => r
  | n + 1, r => .unusable :: gap n r
def poolList (es : List (Nat × CpInfo)) (last : Nat) : List CpInfo := es.foldr (fun e r => gap e.1 (e.2 :: r)) (gap last [])
def pool (es : List (Nat × CpInfo)) (last : Nat) : Array CpInfo := ⟨poolList es last⟩
def fileOf (pool : Array CpInfo) (this : Nat) (attrs : Array Attribute := #[]) (ms : Array MethodInfo := #[]) (fl : Nat := 33) (sup : Nat := 0) (ifs : Array Nat := #[]) (fds : Array FieldInfo := #[]) : ClassFile where
  minorVersion := 0
  majorVersion := 65
  constantPool := pool
  accessFlags := fl
  thisClass := this
  superClass := sup
  interfaces := ifs
  fields := fds
  methods := ms
  attributes := attrs
def plain (name : String) (sup : Option ClassId) : Class where
  name := name
  kind := .ordinary
  loader := none
  accessFlags := 33
  super := sup
  interfaces := #[]
  cf := none
  fields := #[]
  methods := #[]
  instanceTypes := #[]
  staticTypes := #[]
  resolved := #[]
  callSites := []
  init := .initialized
  statics := none
  mirror := none

def pool0 : Array CpInfo := pool [(5, u "<init>"), (0, u "()V"), (1, .class_ 10), (1, u "java/lang/Object")] 113

def k0c0 : Code := { maxStack := 0, maxLocals := 1, code := object_method_1_code, exceptionTable := #[], attributes := #[] }
def k0m0 : Method := { name := "<init>", desc := "()V", sig := { parameters := [], returnType := none }, accessFlags := 1, code := some k0c0 }
/-- java/lang/Object -/
def k0 : Class := { plain "java/lang/Object" none with
  accessFlags := 33
  interfaces := #[]
  cf := some (fileOf pool0 8 #[] #[{ accessFlags := 1, nameIndex := 5, descriptorIndex := 6, attributes := #[] }] 33 0 #[] #[])
  fields := #[]
  methods := #[k0m0]
  instanceTypes := #[]
  staticTypes := #[]
  resolved := Array.replicate 124 none
  statics := none }

def pool1 : Array CpInfo := pool [(2, .class_ 4), (1, u "java/lang/Object"), (0, u "<init>"), (0, u "()V"), (0, .class_ 8), (0, u "com/example/corymb/corymb/engine/LongHeap"), (0, .methodref 7 10), (0, .nameAndType 5 11), (0, u "(I)V"), (0, .methodref 7 13), (0, .nameAndType 14 15), (0, u "add"), (0, u "(J)V"), (0, .methodref 7 17), (0, .nameAndType 18 19), (0, u "poll"), (0, u "()J"), (0, .methodref 21 22), (0, .class_ 23), (0, .nameAndType 24 25), (0, u "com/example/corymb/corymb/engine/LongHeapPollPinLaw"), (0, u "cs"), (0, u "([JII)V"), (3, u "law"), (0, u "(IJJJJJ)Z")] 4

def k1m0 : Method := { name := "<init>", desc := "()V", sig := { parameters := [], returnType := none }, accessFlags := 1, code := none }
def k1c1 : Code := { maxStack := 4, maxLocals := 5, code := method_2_code, exceptionTable := #[], attributes := #[] }
def k1m1 : Method := { name := "cs", desc := "([JII)V", sig := { parameters := [(.array .long), .int, .int], returnType := none }, accessFlags := 10, code := some k1c1 }
def k1c2 : Code := { maxStack := 5, maxLocals := 23, code := code, exceptionTable := #[], attributes := #[] }
def k1m2 : Method := { name := "law", desc := "(IJJJJJ)Z", sig := { parameters := [.int, .long, .long, .long, .long, .long], returnType := some .boolean }, accessFlags := 9, code := some k1c2 }
/-- com/example/corymb/corymb/engine/LongHeapPollPinLaw -/
def k1 : Class := { plain "com/example/corymb/corymb/engine/LongHeapPollPinLaw" (some 0) with
  accessFlags := 49
  interfaces := #[]
  cf := some (fileOf pool1 21 #[] #[{ accessFlags := 1, nameIndex := 5, descriptorIndex := 6, attributes := #[] }, { accessFlags := 10, nameIndex := 24, descriptorIndex := 25, attributes := #[] }, { accessFlags := 9, nameIndex := 29, descriptorIndex := 30, attributes := #[] }] 49 2 #[] #[])
  fields := #[]
  methods := #[k1m0, k1m1, k1m2]
  instanceTypes := #[]
  staticTypes := #[]
  resolved := Array.replicate 35 none
  statics := none }

def pool2 : Array CpInfo := pool [(1, .methodref 2 3), (0, .class_ 4), (0, .nameAndType 5 6), (0, u "java/lang/Object"), (0, u "<init>"), (0, u "()V"), (0, .methodref 8 9), (0, .class_ 10), (0, .nameAndType 11 12), (0, u "java/lang/Math"), (0, u "max"), (0, u "(II)I"), (0, .fieldref 14 15), (0, .class_ 16), (0, .nameAndType 17 18), (0, u "com/example/corymb/corymb/engine/LongHeap"), (0, u "values"), (0, u "[J"), (0, .fieldref 14 20), (0, .nameAndType 21 22), (0, u "size"), (0, u "I"), (0, .methodref 24 25), (0, .class_ 26), (0, .nameAndType 27 28), (0, u "java/util/Arrays"), (0, u "copyOf"), (0, u "([JI)[J"), (7, u "(I)V"), (2, u "add"), (0, u "(J)V"), (1, u "poll"), (0, u "()J")] 2

def k2c0 : Code := { maxStack := 3, maxLocals := 2, code := prog_11_method_1_code, exceptionTable := #[], attributes := #[] }
def k2m0 : Method := { name := "<init>", desc := "(I)V", sig := { parameters := [.int], returnType := none }, accessFlags := 0, code := some k2c0 }
def k2c1 : Code := { maxStack := 4, maxLocals := 5, code := prog_11_method_2_code, exceptionTable := #[], attributes := #[] }
def k2m1 : Method := { name := "add", desc := "(J)V", sig := { parameters := [.long], returnType := none }, accessFlags := 0, code := some k2c1 }
def k2c2 : Code := { maxStack := 4, maxLocals := 7, code := prog_11_method_3_code, exceptionTable := #[], attributes := #[] }
def k2m2 : Method := { name := "poll", desc := "()J", sig := { parameters := [], returnType := some .long }, accessFlags := 0, code := some k2c2 }
/-- com/example/corymb/corymb/engine/LongHeap -/
def k2 : Class := { plain "com/example/corymb/corymb/engine/LongHeap" (some 0) with
  accessFlags := 48
  interfaces := #[]
  cf := some (fileOf pool2 14 #[] #[{ accessFlags := 0, nameIndex := 5, descriptorIndex := 36, attributes := #[] }, { accessFlags := 0, nameIndex := 39, descriptorIndex := 40, attributes := #[] }, { accessFlags := 0, nameIndex := 42, descriptorIndex := 43, attributes := #[] }] 48 2 #[] #[{ accessFlags := 2, nameIndex := 17, descriptorIndex := 18, attributes := #[] }, { accessFlags := 2, nameIndex := 21, descriptorIndex := 22, attributes := #[] }])
  fields := #[{ name := "values", type := (.array .long), accessFlags := 2, slot := 0, constantValue := 0 }, { name := "size", type := .int, accessFlags := 2, slot := 1, constantValue := 0 }]
  methods := #[k2m0, k2m1, k2m2]
  instanceTypes := #[(.array .long), .int]
  staticTypes := #[]
  resolved := Array.replicate 46 none
  statics := none }

def pool3 : Array CpInfo := pool [(1, .class_ 2), (0, u "java/lang/Math"), (1, .class_ 6), (1, u "java/lang/Object"), (0, u "<init>"), (0, u "()V"), (89, .class_ 100), (1, u "java/lang/Math$RandomNumberGeneratorHolder"), (71, u "negativeZeroFloatBits"), (0, u "J"), (2, u "negativeZeroDoubleBits"), (21, u "max"), (2, u "min"), (43, u "$assertionsDisabled"), (0, u "Z"), (88, u "(II)I"), (2, u "twoToTheDoubleScaleDown"), (0, u "D"), (4, u "twoToTheDoubleScaleUp"), (9, u "E"), (3, u "PI"), (2, u "TAU"), (2, u "DEGREES_TO_RADIANS"), (0, u "RADIANS_TO_DEGREES")] 94

def k3m0 : Method := { name := "<init>", desc := "()V", sig := { parameters := [], returnType := none }, accessFlags := 2, code := none }
def k3c1 : Code := { maxStack := 2, maxLocals := 2, code := jdk_29_method_65_code, exceptionTable := #[], attributes := #[] }
def k3m1 : Method := { name := "max", desc := "(II)I", sig := { parameters := [.int, .int], returnType := some .int }, accessFlags := 9, code := some k3c1 }
def k3c2 : Code := { maxStack := 2, maxLocals := 2, code := jdk_29_method_69_code, exceptionTable := #[], attributes := #[] }
def k3m2 : Method := { name := "min", desc := "(II)I", sig := { parameters := [.int, .int], returnType := some .int }, accessFlags := 9, code := some k3c2 }
/-- java/lang/Math -/
def k3 : Class := { plain "java/lang/Math" (some 0) with
  accessFlags := 49
  interfaces := #[]
  cf := some (fileOf pool3 1 #[.nestMembers #[98]] #[{ accessFlags := 2, nameIndex := 7, descriptorIndex := 8, attributes := #[] }, { accessFlags := 9, nameIndex := 198, descriptorIndex := 335, attributes := #[] }, { accessFlags := 9, nameIndex := 201, descriptorIndex := 335, attributes := #[] }] 49 4 #[] #[{ accessFlags := 25, nameIndex := 354, descriptorIndex := 339, attributes := #[] }, { accessFlags := 25, nameIndex := 358, descriptorIndex := 339, attributes := #[] }, { accessFlags := 25, nameIndex := 361, descriptorIndex := 339, attributes := #[] }, { accessFlags := 26, nameIndex := 364, descriptorIndex := 339, attributes := #[] }, { accessFlags := 26, nameIndex := 365, descriptorIndex := 339, attributes := #[] }, { accessFlags := 26, nameIndex := 172, descriptorIndex := 173, attributes := #[] }, { accessFlags := 26, nameIndex := 176, descriptorIndex := 173, attributes := #[] }, { accessFlags := 8, nameIndex := 344, descriptorIndex := 339, attributes := #[] }, { accessFlags := 8, nameIndex := 338, descriptorIndex := 339, attributes := #[] }, { accessFlags := 4120, nameIndex := 245, descriptorIndex := 246, attributes := #[] }])
  fields := #[{ name := "E", type := .double, accessFlags := 25, slot := 0, constantValue := 0 }, { name := "PI", type := .double, accessFlags := 25, slot := 1, constantValue := 0 }, { name := "TAU", type := .double, accessFlags := 25, slot := 2, constantValue := 0 }, { name := "DEGREES_TO_RADIANS", type := .double, accessFlags := 26, slot := 3, constantValue := 0 }, { name := "RADIANS_TO_DEGREES", type := .double, accessFlags := 26, slot := 4, constantValue := 0 }, { name := "negativeZeroFloatBits", type := .long, accessFlags := 26, slot := 5, constantValue := 0 }, { name := "negativeZeroDoubleBits", type := .long, accessFlags := 26, slot := 6, constantValue := 0 }, { name := "twoToTheDoubleScaleUp", type := .double, accessFlags := 8, slot := 7, constantValue := 0 }, { name := "twoToTheDoubleScaleDown", type := .double, accessFlags := 8, slot := 8, constantValue := 0 }, { name := "$assertionsDisabled", type := .boolean, accessFlags := 4120, slot := 9, constantValue := 0 }]
  methods := #[k3m0, k3m1, k3m2]
  instanceTypes := #[]
  staticTypes := #[.double, .double, .double, .double, .double, .long, .long, .double, .double, .boolean]
  resolved := Array.replicate 460 none
  statics := none }

def pool4 : Array CpInfo := pool [(2, .class_ 4), (1, u "java/lang/Object"), (0, u "<init>"), (0, u "()V"), (7, .class_ 16), (1, u "java/util/Arrays"), (57, .class_ 76), (1, u "java/util/Arrays$NaturalOrder"), (36, .class_ 115), (1, u "java/util/Arrays$LegacyMergeSort"), (1, u "Z"), (32, .methodref 151 152), (0, .class_ 153), (0, .nameAndType 154 155), (0, u "java/lang/System"), (0, u "arraycopy"), (0, u "(Ljava/lang/Object;ILjava/lang/Object;II)V"), (146, u "copyOf"), (1, .methodref 305 306), (0, .class_ 307), (0, .nameAndType 308 309), (0, u "java/lang/Math"), (0, u "min"), (0, u "(II)I"), (65, .class_ 376), (0, u "java/util/Arrays$ArrayList"), (68, u "$assertionsDisabled"), (269, u "MIN_ARRAY_SORT_GRAN"), (0, u "I"), (2, u "INSERTIONSORT_THRESHOLD"), (152, u "([JI)[J"), (102, .class_ 976), (0, u "java/util/Arrays$ArrayItr")] 52

def k4m0 : Method := { name := "<init>", desc := "()V", sig := { parameters := [], returnType := none }, accessFlags := 2, code := none }
def k4c1 : Code := { maxStack := 6, maxLocals := 3, code := jdk_65_method_124_code, exceptionTable := #[], attributes := #[] }
def k4m1 : Method := { name := "copyOf", desc := "([JI)[J", sig := { parameters := [(.array .long), .int], returnType := some (.array .long) }, accessFlags := 9, code := some k4c1 }
/-- java/util/Arrays -/
def k4 : Class := { plain "java/util/Arrays" (some 0) with
  accessFlags := 49
  interfaces := #[]
  cf := some (fileOf pool4 14 #[.nestMembers #[975, 375, 113, 74]] #[{ accessFlags := 2, nameIndex := 5, descriptorIndex := 6, attributes := #[] }, { accessFlags := 9, nameIndex := 302, descriptorIndex := 872, attributes := #[] }] 49 2 #[] #[{ accessFlags := 26, nameIndex := 715, descriptorIndex := 716, attributes := #[] }, { accessFlags := 26, nameIndex := 719, descriptorIndex := 716, attributes := #[] }, { accessFlags := 4120, nameIndex := 445, descriptorIndex := 117, attributes := #[] }])
  fields := #[{ name := "MIN_ARRAY_SORT_GRAN", type := .int, accessFlags := 26, slot := 0, constantValue := 0 }, { name := "INSERTIONSORT_THRESHOLD", type := .int, accessFlags := 26, slot := 1, constantValue := 0 }, { name := "$assertionsDisabled", type := .boolean, accessFlags := 4120, slot := 2, constantValue := 0 }]
  methods := #[k4m0, k4m1]
  instanceTypes := #[]
  staticTypes := #[.int, .int, .boolean]
  resolved := Array.replicate 1029 none
  statics := none }

def pool5 : Array CpInfo := pool [(2, .class_ 4), (1, u "java/lang/Object"), (0, u "<init>"), (0, u "()V"), (1, .class_ 10), (1, u "java/lang/System"), (0, u "allowSecurityManager"), (0, u "I"), (16, u "cons"), (0, u "Ljava/io/Console;"), (77, .class_ 110), (1, u "java/lang/System$CallersHolder"), (43, u "initialErrStream"), (0, u "Ljava/io/PrintStream;"), (19, u "security"), (0, u "Ljava/lang/SecurityManager;"), (31, .class_ 209), (0, u "java/lang/System$1"), (7, u "props"), (0, u "Ljava/util/Properties;"), (2, u "lineSeparator"), (0, u "Ljava/lang/String;"), (96, .class_ 321), (1, u "java/lang/System$LoggerFinder"), (5, .class_ 328), (0, u "java/lang/System$Logger"), (67, u "err"), (2, u "out"), (91, u "notSupportedJnuEncoding"), (15, u "in"), (17, u "initialIn"), (0, u "Ljava/io/InputStream;"), (35, u "bootLayer"), (0, u "Ljava/lang/ModuleLayer;"), (99, .class_ 664), (0, u "java/lang/System$2"), (9, u "NEVER"), (2, u "MAYBE"), (49, u "arraycopy"), (0, u "(Ljava/lang/Object;ILjava/lang/Object;II)V"), (72, .class_ 802), (0, u "java/lang/System$Logger$Level")] 31

def k5m0 : Method := { name := "<init>", desc := "()V", sig := { parameters := [], returnType := none }, accessFlags := 2, code := none }
def k5m1 : Method := { name := "arraycopy", desc := "(Ljava/lang/Object;ILjava/lang/Object;II)V", sig := { parameters := [(.object "java/lang/Object"), .int, (.object "java/lang/Object"), .int, .int], returnType := none }, accessFlags := 265, code := none }
/-- java/lang/System -/
def k5 : Class := { plain "java/lang/System" (some 0) with
  accessFlags := 49
  interfaces := #[]
  cf := some (fileOf pool5 8 #[.nestMembers #[319, 327, 801, 108, 663, 208]] #[{ accessFlags := 2, nameIndex := 5, descriptorIndex := 6, attributes := #[] }, { accessFlags := 265, nameIndex := 727, descriptorIndex := 728, attributes := #[] }] 49 2 #[] #[{ accessFlags := 25, nameIndex := 507, descriptorIndex := 526, attributes := #[] }, { accessFlags := 25, nameIndex := 399, descriptorIndex := 155, attributes := #[] }, { accessFlags := 25, nameIndex := 396, descriptorIndex := 155, attributes := #[] }, { accessFlags := 10, nameIndex := 525, descriptorIndex := 526, attributes := #[] }, { accessFlags := 26, nameIndex := 674, descriptorIndex := 12, attributes := #[] }, { accessFlags := 26, nameIndex := 677, descriptorIndex := 12, attributes := #[] }, { accessFlags := 10, nameIndex := 11, descriptorIndex := 12, attributes := #[] }, { accessFlags := 74, nameIndex := 175, descriptorIndex := 176, attributes := #[] }, { accessFlags := 10, nameIndex := 491, descriptorIndex := 222, attributes := #[] }, { accessFlags := 74, nameIndex := 29, descriptorIndex := 30, attributes := #[] }, { accessFlags := 74, nameIndex := 154, descriptorIndex := 155, attributes := #[] }, { accessFlags := 10, nameIndex := 217, descriptorIndex := 218, attributes := #[] }, { accessFlags := 10, nameIndex := 221, descriptorIndex := 222, attributes := #[] }, { accessFlags := 8, nameIndex := 562, descriptorIndex := 563, attributes := #[] }])
  fields := #[{ name := "in", type := (.object "java/io/InputStream"), accessFlags := 25, slot := 0, constantValue := 0 }, { name := "out", type := (.object "java/io/PrintStream"), accessFlags := 25, slot := 1, constantValue := 0 }, { name := "err", type := (.object "java/io/PrintStream"), accessFlags := 25, slot := 2, constantValue := 0 }, { name := "initialIn", type := (.object "java/io/InputStream"), accessFlags := 10, slot := 3, constantValue := 0 }, { name := "NEVER", type := .int, accessFlags := 26, slot := 4, constantValue := 0 }, { name := "MAYBE", type := .int, accessFlags := 26, slot := 5, constantValue := 0 }, { name := "allowSecurityManager", type := .int, accessFlags := 10, slot := 6, constantValue := 0 }, { name := "security", type := (.object "java/lang/SecurityManager"), accessFlags := 74, slot := 7, constantValue := 0 }, { name := "notSupportedJnuEncoding", type := (.object "java/lang/String"), accessFlags := 10, slot := 8, constantValue := 0 }, { name := "cons", type := (.object "java/io/Console"), accessFlags := 74, slot := 9, constantValue := 0 }, { name := "initialErrStream", type := (.object "java/io/PrintStream"), accessFlags := 74, slot := 10, constantValue := 0 }, { name := "props", type := (.object "java/util/Properties"), accessFlags := 10, slot := 11, constantValue := 0 }, { name := "lineSeparator", type := (.object "java/lang/String"), accessFlags := 10, slot := 12, constantValue := 0 }, { name := "bootLayer", type := (.object "java/lang/ModuleLayer"), accessFlags := 8, slot := 13, constantValue := 0 }]
  methods := #[k5m0, k5m1]
  instanceTypes := #[]
  staticTypes := #[(.object "java/io/InputStream"), (.object "java/io/PrintStream"), (.object "java/io/PrintStream"), (.object "java/io/InputStream"), .int, .int, .int, (.object "java/lang/SecurityManager"), (.object "java/lang/String"), (.object "java/io/Console"), (.object "java/io/PrintStream"), (.object "java/util/Properties"), (.object "java/lang/String"), (.object "java/lang/ModuleLayer")]
  resolved := Array.replicate 834 none
  statics := none }

def pool6 : Array CpInfo := pool [(1, u "java/lang/Cloneable"), (0, .class_ 1), (0, u "java/lang/Object"), (0, .class_ 3)] 3

/-- java/lang/Cloneable -/
def k6 : Class := { plain "java/lang/Cloneable" (some 0) with
  accessFlags := 1537
  interfaces := #[]
  cf := some (fileOf pool6 2 #[] #[] 1537 4 #[] #[])
  fields := #[]
  methods := #[]
  instanceTypes := #[]
  staticTypes := #[]
  resolved := Array.replicate 8 none
  statics := none }

def pool7 : Array CpInfo := pool [(1, u "java/io/Serializable"), (0, .class_ 1), (0, u "java/lang/Object"), (0, .class_ 3)] 3

/-- java/io/Serializable -/
def k7 : Class := { plain "java/io/Serializable" (some 0) with
  accessFlags := 1537
  interfaces := #[]
  cf := some (fileOf pool7 2 #[] #[] 1537 4 #[] #[])
  fields := #[]
  methods := #[]
  instanceTypes := #[]
  staticTypes := #[]
  resolved := Array.replicate 8 none
  statics := none }

/-- the primitive byte -/
def k8 : Class := { plain "byte" none with kind := .primitive 'B', accessFlags := 0x411 }
/-- [B -/
def k9 : Class := { plain "[B" (some 0) with kind := .array 8 .byte, interfaces := #[6, 7], accessFlags := 1041 }

/-- the primitive long -/
def k10 : Class := { plain "long" none with kind := .primitive 'J', accessFlags := 0x411 }
/-- [J -/
def k11 : Class := { plain "[J" (some 0) with kind := .array 10 .long, interfaces := #[6, 7], accessFlags := 1041 }

def heap : Heap := #[]
def classes : Array Class := #[k0, k1, k2, k3, k4, k5, k6, k7, k8, k9, k10, k11]
def interned : List (Array UInt16 × Addr) := []
def slotsUsed : Nat := 0
def theMethod : MethodId := ⟨1, 2⟩
def args0 : Array Value := #[.int 1, .long 5, .long 3, .long 4, .long 2, .long 1]
def aboutOver (below : List Frame) : State where
  vm := { classes := classes, interned := interned.toArray }
  heap := heap
  slotsUsed := slotsUsed
  threads := #[{ frames := .invoking theMethod args0 :: below }]
def below0 : List Frame := [.native { method := ⟨0, 0⟩, args := #[] }]
def about1 : State := aboutOver below0
def p0 : Program := .bare "" "" ""
def e0 : Env := launch0.env 0 0 0
theorem w_frames : about1.frames = Frame.invoking theMethod args0 :: below0 := rfl
set_option maxRecDepth 65536 in
theorem w_args : argsFit about1.vm theMethod args0 = true := by decide +kernel
set_option maxRecDepth 65536 in
theorem w_heap : heapFits about1 = true := by decide +kernel
set_option maxRecDepth 65536 in
theorem w_runnable : about1.curStatus? = some .runnable := by decide +kernel
set_option maxRecDepth 65536 in
theorem w_alone : about1.alone = true := by decide +kernel
set_option maxRecDepth 65536 in
theorem w_named : about1.methodNamed? x = some theMethod := by decide +kernel
set_option maxRecDepth 65536 in
theorem w_hears : about1.hears theMethod below0 = true := by decide +kernel
set_option maxRecDepth 65536 in
theorem w_ripe : about1.ripe theMethod args0 below0 = true := by decide +kernel
theorem w_running : about1.status = .running := rfl
set_option maxRecDepth 65536 in
theorem w_room : about1.hasRoom e0.platform room_1 = true :=
  launch0.hasRoom_least _ room_1 (by decide +kernel) (by decide +kernel) (by decide +kernel) (by decide +kernel) (by decide +kernel) (by decide +kernel)
theorem allAtoms_all (ts : List Jvm.Cond) (a : Array Jvm.Value) (st : Jvm.State) : (allAtoms ts).before a st = ts.all (fun c => c.before a st) := by
  induction ts with
  | nil => rfl
  | cons c t ih =>
    show (Jvm.Cond.and c (allAtoms t)).before a st = _
    rw [Jvm.Cond.before_and, ih, List.all_cons]
def words1 : List Jvm.Cond := Jvm.Cond.code x code maxLocals ret :: tables_1
/-- a 'code' word, met by the world's own term for the bytes: nothing is compared byte by byte -/
theorem code_word {y : MethodName} {bytes : ByteArray} {mx : Nat} {rt : Option FieldType} {a : Array Value} {s : State} {m : MethodId} {meth : Method} {c : Code} (h1 : s.methodNamed? y = some m) (h2 : s.vm.method? m = some meth) (h3 : meth.code = some c) (h4 : c.code = bytes)
    (h5 : (c.maxLocals == mx && c.exceptionTable.isEmpty && decide (c.maxStack ≤ mostOperands) && decide (meth.sig.returnType = rt) && !meth.locks && decide (parseMethodDescriptor y.desc = some meth.sig)) = true) : (Jvm.Cond.code y bytes mx rt).before a s = true := by
  simp only [Bool.and_eq_true, beq_iff_eq, Bool.not_eq_true', decide_eq_true_eq] at h5
  obtain ⟨⟨⟨⟨⟨g1, g2⟩, g3⟩, g4⟩, g5⟩, g6⟩ := h5
  simp [Cond.before, Cond.holds, Cond.value, h1, h2, h3, h4, g1, g2, g3, g4, g5, g6]
def isCode : Jvm.Cond → Bool
  | .code _ _ _ _ => true
  | _ => false
theorem all_split {L : List Jvm.Cond} {P : Jvm.Cond → Bool} (h1 : L.all (fun c => isCode c || P c) = true) (h2 : ∀ c ∈ L.filter isCode, P c = true) : L.all P = true := by
  refine List.all_eq_true.mpr fun c hc => ?_
  have h := List.all_eq_true.mp h1 c hc
  rcases Bool.eq_false_or_eq_true (isCode c) with hi | hi
  · exact h2 c (List.mem_filter.mpr ⟨hc, hi⟩)
  · simpa [hi] using h
set_option maxRecDepth 65536 in
theorem w_c0 : (Jvm.Cond.code x code maxLocals ret).before args0 about1 = true := code_word (m := ⟨1, 2⟩) (meth := k1m2) (c := k1c2) (by decide +kernel) rfl rfl rfl (by decide +kernel)
set_option maxRecDepth 65536 in
theorem w_c1 : (Jvm.Cond.code ({ cls := "com/example/corymb/corymb/engine/LongHeap", name := "<init>", desc := "(I)V" } : Jvm.MethodName) prog_11_method_1_code (2 : Nat) (Option.none : Option Jvm.ClassFile.FieldType)).before args0 about1 = true := code_word (m := ⟨2, 0⟩) (meth := k2m0) (c := k2c0) (by decide +kernel) rfl rfl rfl (by decide +kernel)
set_option maxRecDepth 65536 in
theorem w_c2 : (Jvm.Cond.code ({ cls := "java/lang/Object", name := "<init>", desc := "()V" } : Jvm.MethodName) object_method_1_code (1 : Nat) (Option.none : Option Jvm.ClassFile.FieldType)).before args0 about1 = true := code_word (m := ⟨0, 0⟩) (meth := k0m0) (c := k0c0) (by decide +kernel) rfl rfl rfl (by decide +kernel)
set_option maxRecDepth 65536 in
theorem w_c3 : (Jvm.Cond.code ({ cls := "java/lang/Math", name := "max", desc := "(II)I" } : Jvm.MethodName) jdk_29_method_65_code (2 : Nat) (Option.some Jvm.ClassFile.FieldType.int)).before args0 about1 = true := code_word (m := ⟨3, 1⟩) (meth := k3m1) (c := k3c1) (by decide +kernel) rfl rfl rfl (by decide +kernel)
set_option maxRecDepth 65536 in
theorem w_c4 : (Jvm.Cond.code ({ cls := "com/example/corymb/corymb/engine/LongHeap", name := "add", desc := "(J)V" } : Jvm.MethodName) prog_11_method_2_code (5 : Nat) (Option.none : Option Jvm.ClassFile.FieldType)).before args0 about1 = true := code_word (m := ⟨2, 1⟩) (meth := k2m1) (c := k2c1) (by decide +kernel) rfl rfl rfl (by decide +kernel)
set_option maxRecDepth 65536 in
theorem w_c5 : (Jvm.Cond.code ({ cls := "java/util/Arrays", name := "copyOf", desc := "([JI)[J" } : Jvm.MethodName) jdk_65_method_124_code (3 : Nat) (Option.some (Jvm.ClassFile.FieldType.array Jvm.ClassFile.FieldType.long))).before args0 about1 = true := code_word (m := ⟨4, 1⟩) (meth := k4m1) (c := k4c1) (by decide +kernel) rfl rfl rfl (by decide +kernel)
set_option maxRecDepth 65536 in
theorem w_c6 : (Jvm.Cond.code ({ cls := "java/lang/Math", name := "min", desc := "(II)I" } : Jvm.MethodName) jdk_29_method_69_code (2 : Nat) (Option.some Jvm.ClassFile.FieldType.int)).before args0 about1 = true := code_word (m := ⟨3, 2⟩) (meth := k3m2) (c := k3c2) (by decide +kernel) rfl rfl rfl (by decide +kernel)
set_option maxRecDepth 65536 in
theorem w_c7 : (Jvm.Cond.code ({ cls := "com/example/corymb/corymb/engine/LongHeap", name := "poll", desc := "()J" } : Jvm.MethodName) prog_11_method_3_code (7 : Nat) (Option.some Jvm.ClassFile.FieldType.long)).before args0 about1 = true := code_word (m := ⟨2, 2⟩) (meth := k2m2) (c := k2c2) (by decide +kernel) rfl rfl rfl (by decide +kernel)
set_option maxRecDepth 65536 in
theorem w_c8 : (Jvm.Cond.code ({ cls := "com/example/corymb/corymb/engine/LongHeapPollPinLaw", name := "cs", desc := "([JII)V" } : Jvm.MethodName) method_2_code (5 : Nat) (Option.none : Option Jvm.ClassFile.FieldType)).before args0 about1 = true := code_word (m := ⟨1, 1⟩) (meth := k1m1) (c := k1c1) (by decide +kernel) rfl rfl rfl (by decide +kernel)
def codes1 : List Jvm.Cond := [Jvm.Cond.code x code maxLocals ret, Jvm.Cond.code ({ cls := "com/example/corymb/corymb/engine/LongHeap", name := "<init>", desc := "(I)V" } : Jvm.MethodName) prog_11_method_1_code (2 : Nat) (Option.none : Option Jvm.ClassFile.FieldType), Jvm.Cond.code ({ cls := "java/lang/Object", name := "<init>", desc := "()V" } : Jvm.MethodName) object_method_1_code (1 : Nat) (Option.none : Option Jvm.ClassFile.FieldType), Jvm.Cond.code ({ cls := "java/lang/Math", name := "max", desc := "(II)I" } : Jvm.MethodName) jdk_29_method_65_code (2 : Nat) (Option.some Jvm.ClassFile.FieldType.int), Jvm.Cond.code ({ cls := "com/example/corymb/corymb/engine/LongHeap", name := "add", desc := "(J)V" } : Jvm.MethodName) prog_11_method_2_code (5 : Nat) (Option.none : Option Jvm.ClassFile.FieldType), Jvm.Cond.code ({ cls := "java/util/Arrays", name := "copyOf", desc := "([JI)[J" } : Jvm.MethodName) jdk_65_method_124_code (3 : Nat) (Option.some (Jvm.ClassFile.FieldType.array Jvm.ClassFile.FieldType.long)), Jvm.Cond.code ({ cls := "java/lang/Math", name := "min", desc := "(II)I" } : Jvm.MethodName) jdk_29_method_69_code (2 : Nat) (Option.some Jvm.ClassFile.FieldType.int), Jvm.Cond.code ({ cls := "com/example/corymb/corymb/engine/LongHeap", name := "poll", desc := "()J" } : Jvm.MethodName) prog_11_method_3_code (7 : Nat) (Option.some Jvm.ClassFile.FieldType.long), Jvm.Cond.code ({ cls := "com/example/corymb/corymb/engine/LongHeapPollPinLaw", name := "cs", desc := "([JII)V" } : Jvm.MethodName) method_2_code (5 : Nat) (Option.none : Option Jvm.ClassFile.FieldType)]
set_option maxRecDepth 65536 in
theorem codes_eq : words1.filter isCode = codes1 := rfl
theorem w_codes : ∀ c ∈ words1.filter isCode, c.before args0 about1 = true := by
  rw [codes_eq]
  intro c hc
  simp only [codes1, List.mem_cons, List.not_mem_nil, or_false] at hc
  rcases hc with rfl | rfl | rfl | rfl | rfl | rfl | rfl | rfl | rfl
  · exact w_c0
  · exact w_c1
  · exact w_c2
  · exact w_c3
  · exact w_c4
  · exact w_c5
  · exact w_c6
  · exact w_c7
  · exact w_c8
set_option maxRecDepth 65536 in
theorem w_t1 : (words1.take 24).all (fun c => isCode c || c.before args0 about1) = true := by decide +kernel
set_option maxRecDepth 65536 in
theorem w_t2 : (words1.drop 24).all (fun c => isCode c || c.before args0 about1) = true := by decide +kernel
theorem w_tables : (allAtoms (Jvm.Cond.code x code maxLocals ret :: tables_1)).before args0 about1 = true := by
  rw [allAtoms_all]
  show words1.all (fun c => c.before args0 about1) = true
  refine all_split ?_ w_codes
  rw [← List.take_append_drop 24 words1, List.all_append, w_t1, w_t2]
  rfl
set_option maxRecDepth 65536 in
theorem w_case : (Jvm.Cond.and given_1 narrow_1).before args0 about1 = true := by decide +kernel
theorem w_applies : (headSpec (Jvm.Cond.code x code maxLocals ret :: tables_1) room_1).applies x e0.platform about1 = true :=
  (Spec.applies_iff w_frames).mpr ⟨w_running, w_runnable, w_alone, w_named, w_hears, w_ripe, w_room, w_tables⟩
theorem atStart : AtStart classFile x code maxLocals ret World_1 tables_1 room_1 Calls_1 rest_1 Pre_1 launch0 p0 e0 about1 theMethod args0 below0 :=
  ⟨lists_1, trivial, launch0.admits_env _ _ _, launch0.least_env, fairChoices_fair.cas, fairChoices_fair.clock, w_frames, w_args, w_heap, w_applies, trivial, trivial, w_case⟩
end start1
theorem witness_1 : WitnessClaimed_1 := ⟨start1.p0, start1.e0, start1.about1, start1.theMethod, start1.args0, start1.below0, start1.atStart⟩
end Jvm.Pilot.@@N@@
