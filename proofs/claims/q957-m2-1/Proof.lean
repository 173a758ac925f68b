import JvmDerived
import JvmDerived.Pilot.@@N@@Statement
import JvmDerived.Pilot.@@N@@Code
set_option linter.unusedVariables false
set_option linter.unusedSimpArgs false
namespace Jvm.OwnKit
open Sem ClassFile Op Lib Jvm.Stand Jvm.Free Jvm.LawKit Jvm.RoadKit
section Core
variable {p : Program} {l : Launch} {e : Env} {R : Room} {s : State} {m : MethodId} {args : Array Value} {below : List Frame} {meth : Method} {c : Code} {T T' : State} {locs : List Loc} {cells slots : Nat} {Z : State} {a0 : Array Value} {h : Heap}
  {Q Q' : Option Value → Heap → List Loc → Prop} {kc ks : Nat} {F : Outcome → State → Prop}
/-- from the frame f over T the body comes to its end, and F holds there -/
def GoG (p : Program) (e : Env) (below : List Frame) (F : Outcome → State → Prop) (T : State) (f : JFrame) : Prop :=
  ∃ t o, Steps p.tables e below (T.setTop f) t ∧ t.status = .running ∧ Ended t below o ∧ F o t
/-- .. Q holds there, and the frame is kept -/
def Fin (s : State) (Q : Option Value → Heap → List Loc → Prop) (kc ks : Nat) : Outcome → State → Prop := fun o t => ∃ v L, o = .returned v ∧ Q v t.heap L ∧ FrameEnd s o t L kc ks
abbrev Go (p : Program) (e : Env) (below : List Frame) (s : State) (Q : Option Value → Heap → List Loc → Prop) (kc ks : Nat) (T : State) (f : JFrame) : Prop := GoG p e below (Fin s Q kc ks) T f
theorem Go.back {f f' : JFrame} (st : ∀ t, Steps p.tables e below (T'.setTop f') t → Steps p.tables e below (T.setTop f) t) (k : GoG p e below F T' f') : GoG p e below F T f := by
  obtain ⟨t, o, h1, h2⟩ := k; exact ⟨t, o, st _ h1, h2⟩
theorem Go.cast {f f' : JFrame} (q : f = f') (k : GoG p e below F T f') : GoG p e below F T f := q ▸ k
theorem Go.imp {f : JFrame} (q : ∀ v h L, Q' v h L → Q v h L) (k : Go p e below s Q' kc ks T f) : Go p e below s Q kc ks T f := by
  obtain ⟨t, o, h1, h2, h3, v, L, h4, h5, h6⟩ := k; exact ⟨t, o, h1, h2, h3, v, L, h4, q _ _ _ h5, h6⟩
theorem Go.done (X : Stand p l e R s m args below meth c T locs cells slots) {v : Option Value} {f0 : JFrame} (hv : meth.sig.returnType = none → v = none) (hlk : meth.locks = false)
    (st : ∀ fs, (∀ (f : JFrame) (acts : List Action), f.method = m → f.locked = none → f.entered = [] → (doReturn e (T.setTop f) acts v).1 = T.setFrames fs) → Steps p.tables e below (T.setTop f0) (T.setFrames fs))
    (hQ : Q v T.heap locs) (hc : cells ≤ kc) (hs : slots ≤ ks) : Go p e below s Q kc ks T f0 := by
  obtain ⟨fs, hr, hrun, hended, hW, hsame⟩ := X.leave (v := v) hv hlk
  exact ⟨_, _, st fs hr, hrun, hended, v, locs, rfl, hQ, ⟨_, rfl⟩, hW, hsame.mono hc hs⟩
theorem Go.retI (X : Stand p l e R s m args below meth c T locs cells slots) (hx : p.tables.exec = Jvm.exec) {pc : Nat} {Ls : Array Slot} {z : Int32} {rest : List Value} (hret : meth.sig.returnType = some .int) (hlk : meth.locks = false) (hd : decode c.code pc = .ok (.ireturn, 1))
    (hQ : Q (some (.int z)) T.heap locs) (hc : cells ≤ kc) (hs : slots ≤ ks) : Go p e below s Q kc ks T (mkF m pc Ls (.int z :: rest)) :=
  Go.done X (fun q => by rw [hret] at q; cases q) hlk (fun _ hl => retOut X hx hret rfl (Or.inl ⟨rfl, Or.inl rfl, z, rfl⟩) hd hl) hQ hc hs
theorem Go.retJ (X : Stand p l e R s m args below meth c T locs cells slots) (hx : p.tables.exec = Jvm.exec) {pc : Nat} {Ls : Array Slot} {z : Int64} {rest : List Value} (hret : meth.sig.returnType = some .long) (hlk : meth.locks = false) (hd : decode c.code pc = .ok (.lreturn, 1))
    (hQ : Q (some (.long z)) T.heap locs) (hc : cells ≤ kc) (hs : slots ≤ ks) : Go p e below s Q kc ks T (mkF m pc Ls (.long z :: rest)) :=
  Go.done X (fun q => by rw [hret] at q; cases q) hlk (fun _ hl => retOut X hx hret rfl (Or.inr (Or.inl ⟨rfl, rfl, z, rfl⟩)) hd hl) hQ hc hs
theorem narrow_ref {t : FieldType} {w : Value} (hw : w.isRef = true) : narrow t w = w := by
  cases w <;> simp [Value.isRef] at hw <;> cases t <;> rfl
theorem Go.retA (X : Stand p l e R s m args below meth c T locs cells slots) (hx : p.tables.exec = Jvm.exec) {pc : Nat} {Ls : Array Slot} {w : Value} {t : FieldType} {rest : List Value} (hret : meth.sig.returnType = some t) (hlk : meth.locks = false) (hd : decode c.code pc = .ok (.areturn, 1)) (ht : t.isReference = true) (hw : w.isRef = true)
    (hQ : Q (some w) T.heap locs) (hc : cells ≤ kc) (hs : slots ≤ ks) : Go p e below s Q kc ks T (mkF m pc Ls (w :: rest)) :=
  Go.done X (fun q => by rw [hret] at q; cases q) hlk (fun _ hl => retOut X hx hret (narrow_ref hw) (Or.inr (Or.inr (Or.inr (Or.inr ⟨rfl, ht, hw⟩)))) hd hl) hQ hc hs
theorem Go.ret0 (X : Stand p l e R s m args below meth c T locs cells slots) (hx : p.tables.exec = Jvm.exec) {pc : Nat} {Ls : Array Slot} (hret : meth.sig.returnType = none) (hlk : meth.locks = false) (hd : decode c.code pc = .ok (.return_, 1))
    (hQ : Q none T.heap locs) (hc : cells ≤ kc) (hs : slots ≤ ks) : Go p e below s Q kc ks T (mkF m pc Ls []) :=
  Go.done X (fun _ => rfl) hlk (fun _ hl => X.returnOut hx hret hd hl) hQ hc hs
theorem Go.retN (X : Stand p l e R s m args below meth c T locs cells slots) (hx : p.tables.exec = Jvm.exec) {pc : Nat} {Ls : Array Slot} {z w : Int32} {t : FieldType} {rest : List Value} (hret : meth.sig.returnType = some t) (ht : t = .boolean ∨ t = .byte ∨ t = .char ∨ t = .short) (hw : nar t z = w) (hlk : meth.locks = false) (hd : decode c.code pc = .ok (.ireturn, 1))
    (hQ : Q (some (.int w)) T.heap locs) (hc : cells ≤ kc) (hs : slots ≤ ks) : Go p e below s Q kc ks T (mkF m pc Ls (.int z :: rest)) :=
  Go.done X (fun q => by rw [hret] at q; cases q) hlk (fun _ hl => Jvm.RoadKit.retN X hx hret ht hd (by rw [hw]; exact hl)) hQ hc hs
theorem nar_bool {z : Int32} (hz : z = 0 ∨ z = 1) : nar .boolean z = z := by rcases hz with rfl | rfl <;> rfl
/-- a body's contract, said of one heap and one array of arguments -/
def Met (l : Launch) (Z : State) (y : MethodName) (bytes : ByteArray) (maxL : Nat) (ret : Option FieldType) (rm : Room) (as' : Array Value) (h : Heap) (Q : Option Value → Heap → List Loc → Prop) : Prop :=
  ∀ ws : List Jvm.Cond, MetFree l y (head1 (Jvm.Cond.code y bytes maxL ret :: ws) rm) (fun a U => a = as' ∧ Z.Warmed39 U.vm ∧ U.heap = h) (fun _ _ _ _ _ => True) (fun _ U o U' => ∃ v L, o = .returned v ∧ Q v U'.heap L ∧ FrameEnd U o U' L rm.cells rm.slots)
variable {y z : MethodName} {bytes : ByteArray} {maxL : Nat} {ret : Option FieldType} {rm : Room} {as' : Array Value}
theorem Met.intro (hp : plainFor y = true) (body : ∀ (p : Program) (e : Env) (s : State) (m : MethodId) (below : List Frame) (meth : Method) (c : Code) (T : State),
      p.tables.exec = Jvm.exec → c.code = bytes → c.maxLocals = maxL → s.vm.findClass y.cls = some m.cls → meth.name = y.name → meth.sig.returnType = ret → meth.locks = false → Z.Warmed39 s.vm →
      Stand p l e rm s m as' below meth c T [] 0 0 → T.heap = h → Go p e below s Q rm.cells rm.slots T (entryFrame m as' maxL)) : Met l Z y bytes maxL ret rm as' h Q := by
  intro ws
  refine MetFree.of_bodySF hp hisR ?_
  intro p e s m args below meth c s₁ Bd hml0 hP hK
  obtain ⟨rfl, hZ, hh⟩ := hP
  exact body p e s m below meth c s₁ Bd.exec Bd.bytes hml0 (findClass_of_methodNamed Bd.named) (name_of_methodNamed Bd.named Bd.method).1 Bd.returns Bd.notSynchronized hZ (Stand.of_body Bd) (by rw [← hh, Bd.state]; rfl)
theorem Met.imp (q : ∀ v h L, Q' v h L → Q v h L) (k : Met l Z y bytes maxL ret rm as' h Q') : Met l Z y bytes maxL ret rm as' h Q := fun ws p e ha hc hk s m args below hf happ hP hK => by
  obtain ⟨n, o, h1, h2, h3, v, L, h4, h5, h6⟩ := k ws p e ha hc hk s m args below hf happ hP hK
  exact ⟨n, o, h1, h2, h3, v, L, h4, q _ _ _ h5, h6⟩
theorem Go.callS (X : Stand p l e R s m args below meth c T locs cells slots) (hx : p.tables.exec = Jvm.exec) (hZ : Z.Warmed39 s.vm) {own : String} {index : Nat} (hown : s.vm.findClass own = some m.cls)
    (w1 : (Jvm.Cond.methodLink own index y).before a0 Z = true) (w2 : (Jvm.Cond.static y).before a0 Z = true) (w3 : (Jvm.Cond.initialized y.cls).before a0 Z = true) (w4 : (Jvm.Cond.code y bytes maxL ret).before a0 Z = true)
    (hy : y.cls ≠ "java/lang/invoke/MethodHandle" ∧ y.cls ≠ "java/lang/invoke/VarHandle") (eT : T.heap = h) {argsL rest st : List Value} (hM : Met l Z y bytes maxL ret rm argsL.toArray h Q')
    (hlen : ∀ sig, parseMethodDescriptor y.desc = some sig → argsL.length = sig.parameters.length) {pc : Nat} {Ls : Array Slot} (hst : st = argsL.reverse ++ rest) (hsz : Ls.size = c.maxLocals) {W : Nat} (hW : 2 * 0 + (rest.map fun v => v.category).sum ≤ W)
    (hd : decode c.code pc = .ok (.invokestatic index, 3)) (hf : rm.frames + 1 ≤ R.frames) (hl : W + (maxL + 11) + rm.locals ≤ R.locals) (hc : cells + rm.cells ≤ R.cells) (hs : slots + rm.slots ≤ R.slots)
    (k : ∀ v T' L, Stand p l e R s m args below meth c T' (locs ++ L) (cells + rm.cells) (slots + rm.slots) → Q' v T'.heap L → GoG p e below F T' (mkF m (pc + 3) Ls (v.toList ++ rest))) :
    GoG p e below F T (mkF m pc Ls st) := by
  subst hst
  obtain ⟨v, _, ⟨T1, L1, k1, n1⟩, -, X1, ⟨Lc, hQ, l1, y1, z1⟩, st1⟩ := Jvm.LawKit.callS X hx (y := y) hown (mvT hZ w1) (mvT hZ w2) (mvT hZ w3) (mvT hZ w4) hy (backOf (W := W) (hM []) hZ w4 w3 hf hl) (g := mkF m pc Ls (argsL.reverse ++ rest)) rfl hsz (argsL := argsL) (rest := rest) hlen rfl hW hd (fun _ _ => ⟨rfl, eT, hc, hs⟩)
  dsimp only [Pt.U, Pt.locs, Pt.cells, Pt.slots] at X1 l1 y1 z1 st1 hQ
  subst l1 y1 z1
  exact Go.back st1 (k v T1 Lc X1 hQ)
theorem Go.callI (X : Stand p l e R s m args below meth c T locs cells slots) (hx : p.tables.exec = Jvm.exec) (hZ : Z.Warmed39 s.vm) {own : String} {index : Nat} (hy1 : y.name = "<init>") (hown : s.vm.findClass own = some m.cls)
    (w1 : (Jvm.Cond.methodLink own index y).before a0 Z = true) (w2 : (Jvm.Cond.instanceMethod y).before a0 Z = true) (w3 : (Jvm.Cond.initialized y.cls).before a0 Z = true) (w4 : (Jvm.Cond.code y bytes maxL none).before a0 Z = true)
    (hy : y.cls ≠ "java/lang/invoke/MethodHandle" ∧ y.cls ≠ "java/lang/invoke/VarHandle") (eT : T.heap = h) {a : Addr} {argsL rest st : List Value} (hM : Met l Z y bytes maxL none rm (.ref a :: argsL).toArray h Q')
    (hlen : ∀ sig, parseMethodDescriptor y.desc = some sig → argsL.length = sig.parameters.length) {pc : Nat} {Ls : Array Slot} (hst : st = argsL.reverse ++ .ref a :: rest) (hsz : Ls.size = c.maxLocals) {W : Nat} (hW : 2 * 0 + (rest.map fun v => v.category).sum ≤ W)
    (hd : decode c.code pc = .ok (.invokespecial index, 3)) (hf : rm.frames + 1 ≤ R.frames) (hl : W + (maxL + 11) + rm.locals ≤ R.locals) (hc : cells + rm.cells ≤ R.cells) (hs : slots + rm.slots ≤ R.slots)
    (k : ∀ v T' L, Stand p l e R s m args below meth c T' (locs ++ L) (cells + rm.cells) (slots + rm.slots) → Q' v T'.heap L → GoG p e below F T' (mkF m (pc + 3) Ls (v.toList ++ rest))) :
    GoG p e below F T (mkF m pc Ls st) := by
  subst hst
  obtain ⟨v, _, ⟨T1, L1, k1, n1⟩, -, X1, ⟨Lc, hQ, l1, y1, z1⟩, st1⟩ := X.specialBack hx (y := y) hy1 hown (mvT hZ w1) (mvT hZ w2) (mvT hZ w4) hy (backOf (W := W) (hM []) hZ w4 w3 hf hl) (g := mkF m pc Ls (argsL.reverse ++ .ref a :: rest)) rfl hsz (Steps.refl _) (a := a) (argsL := argsL) (rest := rest) hlen rfl hW hd (fun _ _ => ⟨rfl, eT, hc, hs⟩)
  dsimp only [Pt.U, Pt.locs, Pt.cells, Pt.slots] at X1 l1 y1 z1 st1 hQ
  subst l1 y1 z1
  exact Go.back (fun _ q => st1.trans q) (k v T1 Lc X1 hQ)
theorem Go.callV (X : Stand p l e R s m args below meth c T locs cells slots) (hx : p.tables.exec = Jvm.exec) (hZ : Z.Warmed39 s.vm) {own C : String} {index : Nat} (hown : s.vm.findClass own = some m.cls)
    (w1 : (Jvm.Cond.methodLink own index y).before a0 Z = true) (w2 : (Jvm.Cond.declares y).before a0 Z = true) (w3 : (Jvm.Cond.selects C y y).before a0 Z = true) (w4 : (Jvm.Cond.instanceMethod y).before a0 Z = true)
    (w5 : (Jvm.Cond.initialized y.cls).before a0 Z = true) (w6 : (Jvm.Cond.code y bytes maxL ret).before a0 Z = true)
    (hy : y.cls ≠ "java/lang/invoke/MethodHandle" ∧ y.cls ≠ "java/lang/invoke/VarHandle") (eT : T.heap = h) {a : Addr} (E : Exa Z h a C) {argsL rest st : List Value} (hM : Met l Z y bytes maxL ret rm (.ref a :: argsL).toArray h Q')
    (hlen : ∀ sig, parseMethodDescriptor y.desc = some sig → argsL.length = sig.parameters.length) {pc : Nat} {Ls : Array Slot} (hst : st = argsL.reverse ++ .ref a :: rest) (hsz : Ls.size = c.maxLocals) {W : Nat} (hW : 2 * 0 + (rest.map fun v => v.category).sum ≤ W)
    (hd : decode c.code pc = .ok (.invokevirtual index, 3)) (hf : rm.frames + 1 ≤ R.frames) (hl : W + (maxL + 11) + rm.locals ≤ R.locals) (hc : cells + rm.cells ≤ R.cells) (hs : slots + rm.slots ≤ R.slots)
    (k : ∀ v T' L, Stand p l e R s m args below meth c T' (locs ++ L) (cells + rm.cells) (slots + rm.slots) → Q' v T'.heap L → GoG p e below F T' (mkF m (pc + 3) Ls (v.toList ++ rest))) :
    GoG p e below F T (mkF m pc Ls st) := by
  subst hst
  obtain ⟨cq, kq, qa, qb, qc⟩ := isOf hZ eT E
  obtain ⟨v, _, ⟨T1, L1, k1, n1⟩, -, X1, ⟨Lc, hQ, l1, y1, z1⟩, st1⟩ := X.virtualBack hx (y := y) (z := y) hown (mvT hZ w1) (mvT hZ w2) (notFace_of_selects (args := #[]) (mvT hZ w3)) (mvT hZ w3) (mvT hZ w4) hy (backOf (W := W) (hM []) hZ w6 w5 hf hl) qa qc (g := mkF m pc Ls (argsL.reverse ++ .ref a :: rest)) rfl hsz (Steps.refl _) (argsL := argsL) (rest := rest) hlen rfl hW hd (fun _ _ => ⟨rfl, eT, hc, hs⟩)
  dsimp only [Pt.U, Pt.locs, Pt.cells, Pt.slots] at X1 l1 y1 z1 st1 hQ
  subst l1 y1 z1
  exact Go.back (fun _ q => st1.trans q) (k v T1 Lc X1 hQ)
end Core
section Cmp
theorem l_lt_t {x y : Int64} (h : x < y) : ifCond.holds .lt (lcmpW x y) = true := (if0 _ _).trans (tlt ((lw_lt x y).mpr h)).1
theorem l_lt_f {x y : Int64} (h : ¬ x < y) : ifCond.holds .lt (lcmpW x y) = false := (if0 _ _).trans (flt (fun q => h ((lw_lt x y).mp q))).1
theorem l_ge_t {x y : Int64} (h : ¬ x < y) : ifCond.holds .ge (lcmpW x y) = true := (if0 _ _).trans (flt (fun q => h ((lw_lt x y).mp q))).2.1
theorem l_ge_f {x y : Int64} (h : x < y) : ifCond.holds .ge (lcmpW x y) = false := (if0 _ _).trans (tlt ((lw_lt x y).mpr h)).2.1
theorem l_gt_t {x y : Int64} (h : y < x) : ifCond.holds .gt (lcmpW x y) = true := (if0 _ _).trans (tlt ((lw_gt x y).mpr h)).2.2.1
theorem l_gt_f {x y : Int64} (h : ¬ y < x) : ifCond.holds .gt (lcmpW x y) = false := (if0 _ _).trans (flt (fun q => h ((lw_gt x y).mp q))).2.2.1
theorem l_le_t {x y : Int64} (h : ¬ y < x) : ifCond.holds .le (lcmpW x y) = true := (if0 _ _).trans (flt (fun q => h ((lw_gt x y).mp q))).2.2.2
theorem l_le_f {x y : Int64} (h : y < x) : ifCond.holds .le (lcmpW x y) = false := (if0 _ _).trans (tlt ((lw_gt x y).mpr h)).2.2.2
theorem l_eq_t {x y : Int64} (h : x = y) : ifCond.holds .eq (lcmpW x y) = true := (if0 _ _).trans (teq ((lw_eq x y).mpr h)).1
theorem l_eq_f {x y : Int64} (h : ¬ x = y) : ifCond.holds .eq (lcmpW x y) = false := (if0 _ _).trans (feq (fun q => h ((lw_eq x y).mp q))).1
theorem l_ne_t {x y : Int64} (h : ¬ x = y) : ifCond.holds .ne (lcmpW x y) = true := (if0 _ _).trans (feq (fun q => h ((lw_eq x y).mp q))).2
theorem l_ne_f {x y : Int64} (h : x = y) : ifCond.holds .ne (lcmpW x y) = false := (if0 _ _).trans (teq ((lw_eq x y).mpr h)).2
end Cmp
end Jvm.OwnKit
namespace Jvm.OwnKit
open Sem ClassFile Op Lib Jvm.Stand Jvm.Free Jvm.LawKit Jvm.RoadKit
section Arrays
variable {p : Program} {l : Launch} {e : Env} {R : Room} {s : State} {m : MethodId} {args : Array Value} {below : List Frame} {meth : Method} {c : Code} {T T' : State} {locs : List Loc} {cells slots : Nat} {Z : State} {a0 : Array Value} {h h' : Heap}
  {F : Outcome → State → Prop} {a b : Addr} {ty : FieldType} {vs vd : List Value} {j x : Int32} {i : Nat} {v : Value} {pc : Nat} {Ls : Array Slot} {rest : List Value}
/-- an array, all of its components told -/
def VArr (Z : State) (h : Heap) (a : Addr) (ty : FieldType) (vs : List Value) : Prop := vs.length < 2147483648 ∧ ∃ k, Arv Z h a k ty vs.length.toInt32 vs (defaultValue ty)
theorem n32 {n : Nat} (q : n < 2147483648) : n.toInt32.toInt = n := len_toInt q
theorem n32c {n : Nat} (q : n < 2147483648) : n.toInt32.toNatClampNeg = n := by simp only [Int32.toNatClampNeg, n32 q]; rfl
theorem idx0 (hi : j.toInt = i) : ¬ j < 0 := by rw [Int32.lt_iff_toInt_lt, hi]; show ¬ (i : Int) < 0; omega
theorem idxN (hi : j.toInt = i) : j.toNatClampNeg = i := by simp only [Int32.toNatClampNeg, hi]; rfl
theorem VArr.lt (A : VArr Z h a ty vs) : a < h.size := by obtain ⟨-, k, A⟩ := A; exact A.lt
theorem VArr.len (A : VArr Z h a ty vs) : vs.length < 2147483648 := A.1
theorem VArr.ext (A : VArr Z h a ty vs) (E : Ext h h') : VArr Z h' a ty vs := by obtain ⟨q, k, A⟩ := A; exact ⟨q, k, A.ext E⟩
theorem VArr.other {sl : Nat} (A : VArr Z h b ty vs) (W : Wr h h' a sl v) (q : b ≠ a) : VArr Z h' b ty vs := by obtain ⟨r, k, A⟩ := A; exact ⟨r, k, A.other W q⟩
theorem VArr.keep {ws : List Addr} (A : VArr Z h a ty vs) (K : Keep h h' ws) (q : a ∉ ws) : VArr Z h' a ty vs := by obtain ⟨r, k, A⟩ := A; exact ⟨r, k, A.keep K q⟩
theorem VArr.to (A : VArr Z h a ty vs) (e : vs = vd) : VArr Z h a ty vd := e ▸ A
theorem VArr.cell (A : VArr Z h a ty vs) : ∃ cl, Arr Z h a cl ty ∧ cl.slots.size = vs.length ∧ Has cl vs (defaultValue ty) := by
  obtain ⟨q, k, cl, A, -, S, N, H, -⟩ := A
  exact ⟨cl, A, by rw [S, n32c q], H⟩
theorem VArr.at (A : VArr Z h a ty vs) (hi : j.toInt = i) (hv : vs[i]? = some v) : ∃ cl, Arr Z h a cl ty ∧ ¬ (j < 0 ∨ cl.slots.size ≤ j.toNatClampNeg) ∧ cl.slots[j.toNatClampNeg]? = some v := by
  obtain ⟨cl, A, S, H⟩ := A.cell
  obtain ⟨hl, e⟩ := List.getElem?_eq_some_iff.mp hv
  refine ⟨cl, A, fun q => ?_, ?_⟩
  · rw [idxN hi, S] at q; exact q.elim (idx0 hi) (by omega)
  · rw [idxN hi, H i (by omega), List.getD_eq_getElem?_getD, hv]; rfl
theorem VArr.exa_ne {C : String} {kk : Nat} (A : VArr Z h a ty vs) (E : Exa Z h b C) (wi : (Jvm.Cond.instantiable C kk).before a0 Z = true) : b ≠ a := by
  obtain ⟨cl, A, -, -⟩ := A.cell; exact ne_arr E wi A
theorem VArr.lenS (A : VArr Z h a ty vs) (X : Stand p l e R s m args below meth c T locs cells slots) (hx : p.tables.exec = Jvm.exec) (hZ : Z.Warmed39 s.vm) (eT : T.heap = h) (hd : decode c.code pc = .ok (.arraylength, 1)) :
    ∀ t, Steps p.tables e below (T.setTop (mkF m (pc + 1) Ls (.int vs.length.toInt32 :: rest))) t → Steps p.tables e below (T.setTop (mkF m pc Ls (.ref a :: rest))) t := by
  obtain ⟨cl, Ar, S, -⟩ := A.cell
  intro t k
  refine X.arraylength hx (by rw [eT]; exact Ar.1) (State.isArrayOf_alike hZ.alike Ar.2.1) (g := mkF m pc Ls (.ref a :: rest)) rfl rfl hd _ ?_
  rw [S]; exact k
theorem VArr.ldI (A : VArr Z h a .int vs) (X : Stand p l e R s m args below meth c T locs cells slots) (hx : p.tables.exec = Jvm.exec) (hZ : Z.Warmed39 s.vm) (eT : T.heap = h) (hd : decode c.code pc = .ok (.iaload, 1)) (hi : j.toInt = i) (hv : vs[i]? = some v) :
    ∀ t, Steps p.tables e below (T.setTop (mkF m (pc + 1) Ls (v :: rest))) t → Steps p.tables e below (T.setTop (mkF m pc Ls (.int j :: .ref a :: rest))) t := by
  obtain ⟨cl, Ar, q, r⟩ := A.at hi hv
  exact fun t k => X.iaload hx (j := j) (v := v) (by rw [eT]; exact Ar.1) (State.isArrayOf_alike hZ.alike Ar.2.1) Ar.2.2 q r (g := mkF m pc Ls (.int j :: .ref a :: rest)) rfl rfl hd _ k
theorem VArr.ldJ (A : VArr Z h a .long vs) (X : Stand p l e R s m args below meth c T locs cells slots) (hx : p.tables.exec = Jvm.exec) (hZ : Z.Warmed39 s.vm) (eT : T.heap = h) (hd : decode c.code pc = .ok (.laload, 1)) (hi : j.toInt = i) (hv : vs[i]? = some v) :
    ∀ t, Steps p.tables e below (T.setTop (mkF m (pc + 1) Ls (v :: rest))) t → Steps p.tables e below (T.setTop (mkF m pc Ls (.int j :: .ref a :: rest))) t := by
  obtain ⟨cl, Ar, q, r⟩ := A.at hi hv
  exact fun t k => X.laload hx (j := j) (v := v) (by rw [eT]; exact Ar.1) (State.isArrayOf_alike hZ.alike Ar.2.1) Ar.2.2 q r (g := mkF m pc Ls (.int j :: .ref a :: rest)) rfl rfl hd _ k
theorem VArr.ldB (A : VArr Z h a .byte vs) (X : Stand p l e R s m args below meth c T locs cells slots) (hx : p.tables.exec = Jvm.exec) (hZ : Z.Warmed39 s.vm) (eT : T.heap = h) (hd : decode c.code pc = .ok (.baload, 1)) (hi : j.toInt = i) (hv : vs[i]? = some v) :
    ∀ t, Steps p.tables e below (T.setTop (mkF m (pc + 1) Ls (v :: rest))) t → Steps p.tables e below (T.setTop (mkF m pc Ls (.int j :: .ref a :: rest))) t := by
  obtain ⟨cl, Ar, q, r⟩ := A.at hi hv
  exact fun t k => X.baloadBytes hx (j := j) (v := v) (by rw [eT]; exact Ar.1) (State.isArrayOf_alike hZ.alike Ar.2.1) Ar.2.2 q r (g := mkF m pc Ls (.int j :: .ref a :: rest)) rfl rfl hd _ k
theorem VArr.fit (A : VArr Z h a ty vs) (hv : vs[i]? = some v) : fits ty v = true := by
  obtain ⟨q, k, cl, A, -, S, N, H, G⟩ := A
  obtain ⟨hl, e⟩ := List.getElem?_eq_some_iff.mp hv
  have := G i (by rw [S, n32c q]; exact hl)
  rw [List.getD_eq_getElem?_getD, hv] at this; exact this
theorem VArr.set (A : VArr Z h a ty vs) (hv : fits ty v = true) (W : Wr h h' a i v) (hl : i < vs.length) : VArr Z h' a ty (vs.set i v) := by
  obtain ⟨q, k, cl, A, q1, S, N, H, G⟩ := A
  have q' : (vs.set i v).length < 2147483648 := by rw [List.length_set]; exact q
  refine ⟨q', k, ?_⟩
  rw [List.length_set]
  exact Arv.set (j := i.toInt32) A q1 S N H G hv (by rw [n32c (by omega)]; exact W) i (n32c (by omega)) hl
theorem VArr.in_ (A : VArr Z h a ty vs) (hi : j.toInt = i) (hl : i < vs.length) : ∃ cl, Arr Z h a cl ty ∧ ¬ (j < 0 ∨ cl.slots.size ≤ j.toNatClampNeg) := by
  obtain ⟨cl, A, S, H⟩ := A.cell
  refine ⟨cl, A, fun q => ?_⟩
  rw [idxN hi, S] at q; exact q.elim (idx0 hi) (by omega)
theorem Go.stI (A : VArr Z h a .int vs) (X : Stand p l e R s m args below meth c T locs cells slots) (hx : p.tables.exec = Jvm.exec) (hZ : Z.Warmed39 s.vm) (eT : T.heap = h) (hd : decode c.code pc = .ok (.iastore, 1)) (hi : j.toInt = i) (hl : i < vs.length)
    (k : ∀ T' h', Stand p l e R s m args below meth c T' (locs ++ [⟨a, i⟩]) cells slots → T'.heap = h' → Wr h h' a i (.int x) → VArr Z h' a .int (vs.set i (.int x)) → GoG p e below F T' (mkF m (pc + 1) Ls rest)) :
    GoG p e below F T (mkF m pc Ls (.int x :: .int j :: .ref a :: rest)) := by
  obtain ⟨cl, Ar, q⟩ := A.in_ hi hl
  obtain ⟨T', h', X', e', W, st⟩ := Jvm.RoadKit.stI X hx hZ eT Ar (j := j) (x := x) q (g := mkF m pc Ls (.int x :: .int j :: .ref a :: rest)) rfl rfl hd
  rw [idxN hi] at X' W
  exact Go.back st (k T' h' X' e' W (A.set rfl W hl))
theorem Go.stJ {x : Int64} (A : VArr Z h a .long vs) (X : Stand p l e R s m args below meth c T locs cells slots) (hx : p.tables.exec = Jvm.exec) (hZ : Z.Warmed39 s.vm) (eT : T.heap = h) (hd : decode c.code pc = .ok (.lastore, 1)) (hi : j.toInt = i) (hl : i < vs.length)
    (k : ∀ T' h', Stand p l e R s m args below meth c T' (locs ++ [⟨a, i⟩]) cells slots → T'.heap = h' → Wr h h' a i (.long x) → VArr Z h' a .long (vs.set i (.long x)) → GoG p e below F T' (mkF m (pc + 1) Ls rest)) :
    GoG p e below F T (mkF m pc Ls (.long x :: .int j :: .ref a :: rest)) := by
  obtain ⟨cl, Ar, q⟩ := A.in_ hi hl
  obtain ⟨T', h', X', e', W, st⟩ := Jvm.RoadKit.stJ X hx hZ eT Ar (j := j) (x := x) q (g := mkF m pc Ls (.long x :: .int j :: .ref a :: rest)) rfl rfl hd
  rw [idxN hi] at X' W
  exact Go.back st (k T' h' X' e' W (A.set rfl W hl))
theorem Go.stB (A : VArr Z h a .byte vs) (X : Stand p l e R s m args below meth c T locs cells slots) (hx : p.tables.exec = Jvm.exec) (hZ : Z.Warmed39 s.vm) (eT : T.heap = h) (hd : decode c.code pc = .ok (.bastore, 1)) (hi : j.toInt = i) (hl : i < vs.length)
    (k : ∀ T' h', Stand p l e R s m args below meth c T' (locs ++ [⟨a, i⟩]) cells slots → T'.heap = h' → Wr h h' a i (.int (nar .byte x)) → VArr Z h' a .byte (vs.set i (.int (nar .byte x))) → GoG p e below F T' (mkF m (pc + 1) Ls rest)) :
    GoG p e below F T (mkF m pc Ls (.int x :: .int j :: .ref a :: rest)) := by
  obtain ⟨cl, Ar, q⟩ := A.in_ hi hl
  obtain ⟨T', h', X', e', W, st⟩ := Jvm.RoadKit.stB X hx hZ eT Ar (j := j) (x := x) q (g := mkF m pc Ls (.int x :: .int j :: .ref a :: rest)) rfl rfl hd
  rw [idxN hi] at X' W
  exact Go.back st (k T' h' X' e' W (A.set (fits_nar_byte x) W hl))
theorem VArr.new {k : ClassId} {n : Int32} (A : Arr Z h a (newA k ty n) ty) (hi : n.toInt = i) : VArr Z h a ty (List.replicate i (defaultValue ty)) := by
  have hl : i < 2147483648 := by have := n.toInt_lt; omega
  have e : i.toInt32 = n := Int32.toInt_inj.mp (by rw [n32 hl, hi])
  refine ⟨by simpa using hl, k, ?_⟩
  rw [List.length_replicate, e]
  exact (Arv.new A (idx0 hi)).pad fun q => by have := pad_rep [] (defaultValue ty) i q; simpa using this
theorem Go.newA {aty : ArrayType} {n : Int32} {cap : Nat} (X : Stand p l e R s m args below meth c T locs cells slots) (hx : p.tables.exec = Jvm.exec) (hZ : Z.Warmed39 s.vm) (w : (Jvm.Cond.arrayClass (newarray.typeOf aty)).before a0 Z = true) (eT : T.heap = h) (hd : decode c.code pc = .ok (.newarray aty, 2))
    (hi : n.toInt = i) (hcap : i ≤ cap) (hb : cap * 8 ≤ 536870912) (hc : cells + 1 ≤ R.cells) (hl : slots + cap ≤ R.slots)
    (k : ∀ T' h' a, a = h.size → Stand p l e R s m args below meth c T' locs (cells + 1) (slots + cap) → T'.heap = h' → Ext h h' → VArr Z h' a (newarray.typeOf aty) (List.replicate i (defaultValue (newarray.typeOf aty))) → GoG p e below F T' (mkF m (pc + 2) Ls (.ref a :: rest))) :
    GoG p e below F T (mkF m pc Ls (.int n :: rest)) := by
  obtain ⟨T', h', cA, X', e', E, A, st⟩ := newP X hx hZ w eT (g := mkF m pc Ls (.int n :: rest)) rfl hd rfl (idx0 hi) (cap := cap) (by rw [idxN hi]; exact hcap) hb hc hl
  exact Go.back st (k T' h' _ rfl X' e' E (VArr.new A hi))
theorem Go.newAE {aty : ArrayType} {n : Int32} {cap : Nat} {ad : String} (had : "[" ++ (newarray.typeOf aty).toString = ad) (X : Stand p l e R s m args below meth c T locs cells slots) (hx : p.tables.exec = Jvm.exec) (hZ : Z.Warmed39 s.vm) (w : (Jvm.Cond.arrayClass (newarray.typeOf aty)).before a0 Z = true) (eT : T.heap = h) (hd : decode c.code pc = .ok (.newarray aty, 2))
    (hi : n.toInt = i) (hcap : i ≤ cap) (hb : cap * 8 ≤ 536870912) (hc : cells + 1 ≤ R.cells) (hl : slots + cap ≤ R.slots)
    (k : ∀ T' h' a, a = h.size → Stand p l e R s m args below meth c T' locs (cells + 1) (slots + cap) → T'.heap = h' → Ext h h' → VArr Z h' a (newarray.typeOf aty) (List.replicate i (defaultValue (newarray.typeOf aty))) → Exa Z h' a ad → GoG p e below F T' (mkF m (pc + 2) Ls (.ref a :: rest))) :
    GoG p e below F T (mkF m pc Ls (.int n :: rest)) := by
  obtain ⟨T', h', cA, X', e', E, A, B, st⟩ := newPE X hx hZ w eT (g := mkF m pc Ls (.int n :: rest)) rfl hd rfl (idx0 hi) (cap := cap) (by rw [idxN hi]; exact hcap) hb hc hl had
  exact Go.back st (k T' h' _ rfl X' e' E (VArr.new A hi) B)
theorem stretch (vs : List Value) (dv : Value) (i n : Nat) (q : i + n ≤ vs.length) : (vs.drop i).take n = (List.range n).map fun z => vs.getD (i + z) dv := by
  apply List.ext_getElem
  · simp; omega
  · intro k h1 h2
    simp at h1 h2 ⊢
    rw [List.getElem?_eq_getElem (by omega)]; rfl
theorem Go.cpy {own : String} {index n0 n : Nat} {sp dp nn : Int32} {j' : Nat} (X : Stand p l e R s m args below meth c T locs cells slots) (hx : p.tables.exec = Jvm.exec) (hZ : Z.Warmed39 s.vm) (hown : s.vm.findClass own = some m.cls)
    (w1 : (Jvm.Cond.methodLink own index Jvm.Stand.acN).before a0 Z = true) (w2 : (Jvm.Cond.native Jvm.Stand.acN).before a0 Z = true) (w3 : (Jvm.Cond.static Jvm.Stand.acN).before a0 Z = true) (w4 : (Jvm.Cond.initialized "java/lang/System").before a0 Z = true) (eT : T.heap = h)
    (A : VArr Z h a ty vs) (B : VArr Z h b ty vd) (hty : refKind ty = false) (hi : sp.toInt = i) (hj : dp.toInt = j') (hn : nn.toInt = n) (b1 : i + n ≤ vs.length) (b2 : j' + n ≤ vd.length) (N : Fr n0 locs) (ge : n0 ≤ b)
    (hsz : Ls.size = c.maxLocals) (hd : decode c.code pc = .ok (.invokestatic index, 3)) (hf : 1 ≤ R.frames) {W : Nat} (hW : 2 * 0 + (rest.map fun v => v.category).sum ≤ W) (hlo : W + (nativeFrameWords "java/lang/System" "arraycopy" 5 + 11) ≤ R.locals)
    (k : ∀ T' h' L, Stand p l e R s m args below meth c T' L cells slots → T'.heap = h' → Fr n0 L → Keep h h' [b] → VArr Z h' b ty (vd.take j' ++ (vs.drop i).take n ++ vd.drop (j' + n)) → GoG p e below F T' (mkF m (pc + 3) Ls rest)) :
    GoG p e below F T (mkF m pc Ls (.int nn :: .int dp :: .ref b :: .int sp :: .ref a :: rest)) := by
  obtain ⟨q1, k1, A1⟩ := A
  obtain ⟨q2, k2, B1⟩ := B
  obtain ⟨T', h', L, X', e', N', K, V, st⟩ := cpA X hx hZ hown w1 w2 w3 w4 eT A1 B1 (us := (vs.drop i).take n) (Or.inl ⟨rfl, hty⟩) (sp := sp) (dp := dp) (nn := nn) (idx0 hi) (idx0 hj) (idx0 hn) (by rw [idxN hi, idxN hn, n32c q1]; exact b1) (by rw [idxN hj, idxN hn, n32c q2]; exact b2) (by rw [idxN hi, idxN hn]; exact stretch vs _ i n b1) (by rw [idxN hj, idxN hn]; exact b2) N ge (g := mkF m pc Ls (.int nn :: .int dp :: .ref b :: .int sp :: .ref a :: rest)) rfl hsz rfl hd hf (W := W) hW hlo
  rw [idxN hj, idxN hn] at V
  refine Go.back st (k T' h' L X' e' N' K ?_)
  have el : (vd.take j' ++ (vs.drop i).take n ++ vd.drop (j' + n)).length = vd.length := by simp; omega
  exact ⟨by rw [el]; exact q2, k2, by rw [el]; exact V⟩
end Arrays
end Jvm.OwnKit
namespace Jvm.OwnKit
open Sem ClassFile Op Lib Jvm.Stand Jvm.Free Jvm.LawKit Jvm.RoadKit
theorem VArr.ofArv {Z : State} {h : Heap} {a : Addr} {k : ClassId} {z : Int32} {vs : List Value} (A : Arv Z h a k .byte z vs (.int 0)) (hl : z.toNatClampNeg = vs.length) : VArr Z h a .byte vs := by
  have hz : ¬ z < 0 := by obtain ⟨c, -, -, -, q, -⟩ := A; exact q
  have q := back32 hz
  rw [hl] at q
  exact ⟨q.2, k, by rw [q.1]; exact A⟩
end Jvm.OwnKit
namespace Jvm.OwnKit
open Sem ClassFile Op Lib Jvm.Stand Jvm.Free Jvm.LawKit Jvm.RoadKit
section Change
variable {Z : State} {n0 : Nat} {h0 h h' : Heap} {ws ws' : List Addr} {L L' : List Loc} {a b : Addr} {sl : Nat} {v : Value}
/-- what a walk has changed since h0: cells at ws, and new ones; no place below n0 -/
def Chg (n0 : Nat) (h0 h : Heap) (ws : List Addr) (L : List Loc) : Prop := n0 ≤ h0.size ∧ Keep h0 h ws ∧ Fr n0 L
theorem Chg.refl (q : n0 ≤ h0.size) : Chg n0 h0 h0 ws [] := ⟨q, Keep.refl _ _, Fr.nil _⟩
theorem Chg.keep (C : Chg n0 h0 h ws L) : Keep h0 h ws := C.2.1
theorem Chg.fr (C : Chg n0 h0 h ws L) : Fr n0 L := C.2.2
theorem Chg.size (C : Chg n0 h0 h ws L) : n0 ≤ h.size := Nat.le_trans C.1 C.2.1.1
theorem Chg.grow (C : Chg n0 h0 h ws L) : h0.size ≤ h.size := C.2.1.1
theorem Chg.at (C : Chg n0 h0 h ws L) (q : a = h.size) : h0.size ≤ a := q ▸ C.grow
theorem Chg.ge (C : Chg n0 h0 h ws L) (q : h0.size ≤ a) : n0 ≤ a := Nat.le_trans C.1 q
theorem Chg.ext (C : Chg n0 h0 h ws L) (E : Ext h h') : Chg n0 h0 h' ws L := ⟨C.1, C.2.1.ext E, C.2.2⟩
theorem Chg.wr (C : Chg n0 h0 h ws L) (W : Wr h h' a sl v) (q : a ∈ ws ∨ h0.size ≤ a) (g : n0 ≤ a) : Chg n0 h0 h' ws (L ++ [⟨a, sl⟩]) := ⟨C.1, C.2.1.wr W q, C.2.2.app fun y hy => by cases List.mem_singleton.mp hy; exact g⟩
theorem Chg.wrN (C : Chg n0 h0 h ws L) (W : Wr h h' a sl v) (q : a ∈ ws ∨ h0.size ≤ a) (N : Fr n0 L') : Chg n0 h0 h' ws (L ++ L') := ⟨C.1, C.2.1.wr W q, C.2.2.app N⟩
theorem Chg.call (C : Chg n0 h0 h ws L) (C' : Chg n0 h h' ws' L') (q : ∀ x ∈ ws', x ∈ ws ∨ h0.size ≤ x) : Chg n0 h0 h' ws (L ++ L') := ⟨C.1, C.2.1.trans C'.2.1 q, C.2.2.app C'.2.2⟩
theorem Chg.cpy (C : Chg n0 h0 h ws L) (K : Keep h h' [b]) (N : Fr n0 L') (q : b ∈ ws ∨ h0.size ≤ b) : Chg n0 h0 h' ws L' := ⟨C.1, C.2.1.trans K (allS q all0), N⟩
theorem Chg.pure (C : Chg n0 h0 h ws L) (N : Fr n0 L') (e : h' = h) : Chg n0 h0 h' ws (L ++ L') := by subst e; exact ⟨C.1, C.2.1, C.2.2.app N⟩
theorem Chg.sub (C : Chg n0 h0 h ws L) (q : ∀ x ∈ ws, x ∈ ws') : Chg n0 h0 h ws' L := ⟨C.1, (Keep.refl h0 ws').trans C.2.1 (fun x hx => Or.inl (q x hx)), C.2.2⟩
theorem lt_ne {F : Nat} (q : b = F) (r : a < F) : a ≠ b := Nat.ne_of_lt (q ▸ r)
theorem Chg.base (C : Chg n0 h0 h ws L) : Chg n0 h h ws' L := ⟨C.size, Keep.refl _ _, C.fr⟩
/-- no class's statics lie at x -/
def NS (h : Heap) (x : Addr) : Prop := ∀ cl : Cell, h[x]? = some cl → cl.vm.isStatics = false
theorem own_exaNS {K : String} (E : Exa Z h a K) : NS h a := fun cl q => by obtain ⟨c, k, h1, -, -, h4, -⟩ := E; cases h1.symm.trans q; exact h4
theorem own_ns0 : ∀ x ∈ ([] : List Addr), NS h x := fun _ q => by cases q
theorem own_nsS (q : NS h a) (r : ∀ x ∈ ws, NS h x) : ∀ x ∈ a :: ws, NS h x := fun x hx => by
  rcases List.mem_cons.mp hx with rfl | q'
  · exact q
  · exact r x q'
theorem staKeep {K n d : String} (S : Sta Z h K n d v) (k : Keep h h' ws) (q : ∀ x ∈ ws, NS h x) : Sta Z h' K n d v := by
  obtain ⟨cf, i, kk, f, st, cell, h1, h2, h3, h4, h5, h6, h7⟩ := S
  exact ⟨cf, i, kk, f, st, cell, h1, h2, h3, h4, k.2.1 _ _ h5 (fun hm => by have := q _ hm _ h5; rw [h6] at this; cases this), h6, h7⟩
end Change
end Jvm.OwnKit
namespace Jvm.Pilot.@@N@@
open Jvm Jvm.ClassFile Sem Op Lib Jvm.Free Jvm.Stand Jvm.LawKit Jvm.RoadKit Bundle Jvm.OwnKit Jvm.Pilot.@@N@@.Jvm.D
theorem d1_0 : decode method_2_code 0 = .ok (.bipush 8, 2) := by decide +kernel
theorem d1_2 : decode method_2_code 2 = .ok (.newarray .byte, 2) := by decide +kernel
theorem d1_4 : decode method_2_code 4 = .ok (.astore_n 2, 1) := by decide +kernel
theorem d1_5 : decode method_2_code 5 = .ok (.aload_n 2, 1) := by decide +kernel
theorem d1_6 : decode method_2_code 6 = .ok (.iconst 0, 1) := by decide +kernel
theorem d1_7 : decode method_2_code 7 = .ok (.lload_n 0, 1) := by decide +kernel
theorem d1_8 : decode method_2_code 8 = .ok (.l2i, 1) := by decide +kernel
theorem d1_9 : decode method_2_code 9 = .ok (.i2b, 1) := by decide +kernel
theorem d1_10 : decode method_2_code 10 = .ok (.bastore, 1) := by decide +kernel
theorem d1_11 : decode method_2_code 11 = .ok (.aload_n 2, 1) := by decide +kernel
theorem d1_12 : decode method_2_code 12 = .ok (.iconst 1, 1) := by decide +kernel
theorem d1_13 : decode method_2_code 13 = .ok (.lload_n 0, 1) := by decide +kernel
theorem d1_14 : decode method_2_code 14 = .ok (.bipush 8, 2) := by decide +kernel
theorem d1_16 : decode method_2_code 16 = .ok (.lushr, 1) := by decide +kernel
theorem d1_17 : decode method_2_code 17 = .ok (.l2i, 1) := by decide +kernel
theorem d1_18 : decode method_2_code 18 = .ok (.i2b, 1) := by decide +kernel
theorem d1_19 : decode method_2_code 19 = .ok (.bastore, 1) := by decide +kernel
theorem d1_20 : decode method_2_code 20 = .ok (.aload_n 2, 1) := by decide +kernel
theorem d1_21 : decode method_2_code 21 = .ok (.iconst 2, 1) := by decide +kernel
theorem d1_22 : decode method_2_code 22 = .ok (.lload_n 0, 1) := by decide +kernel
theorem d1_23 : decode method_2_code 23 = .ok (.bipush 16, 2) := by decide +kernel
theorem d1_25 : decode method_2_code 25 = .ok (.lushr, 1) := by decide +kernel
theorem d1_26 : decode method_2_code 26 = .ok (.l2i, 1) := by decide +kernel
theorem d1_27 : decode method_2_code 27 = .ok (.i2b, 1) := by decide +kernel
theorem d1_28 : decode method_2_code 28 = .ok (.bastore, 1) := by decide +kernel
theorem d1_29 : decode method_2_code 29 = .ok (.aload_n 2, 1) := by decide +kernel
theorem d1_30 : decode method_2_code 30 = .ok (.iconst 3, 1) := by decide +kernel
theorem d1_31 : decode method_2_code 31 = .ok (.lload_n 0, 1) := by decide +kernel
theorem d1_32 : decode method_2_code 32 = .ok (.bipush 24, 2) := by decide +kernel
theorem d1_34 : decode method_2_code 34 = .ok (.lushr, 1) := by decide +kernel
theorem d1_35 : decode method_2_code 35 = .ok (.l2i, 1) := by decide +kernel
theorem d1_36 : decode method_2_code 36 = .ok (.i2b, 1) := by decide +kernel
theorem d1_37 : decode method_2_code 37 = .ok (.bastore, 1) := by decide +kernel
theorem d1_38 : decode method_2_code 38 = .ok (.aload_n 2, 1) := by decide +kernel
theorem d1_39 : decode method_2_code 39 = .ok (.iconst 4, 1) := by decide +kernel
theorem d1_40 : decode method_2_code 40 = .ok (.lload_n 0, 1) := by decide +kernel
theorem d1_41 : decode method_2_code 41 = .ok (.bipush 32, 2) := by decide +kernel
theorem d1_43 : decode method_2_code 43 = .ok (.lushr, 1) := by decide +kernel
theorem d1_44 : decode method_2_code 44 = .ok (.l2i, 1) := by decide +kernel
theorem d1_45 : decode method_2_code 45 = .ok (.i2b, 1) := by decide +kernel
theorem d1_46 : decode method_2_code 46 = .ok (.bastore, 1) := by decide +kernel
theorem d1_47 : decode method_2_code 47 = .ok (.aload_n 2, 1) := by decide +kernel
theorem d1_48 : decode method_2_code 48 = .ok (.iconst 5, 1) := by decide +kernel
theorem d1_49 : decode method_2_code 49 = .ok (.lload_n 0, 1) := by decide +kernel
theorem d1_50 : decode method_2_code 50 = .ok (.bipush 40, 2) := by decide +kernel
theorem d1_52 : decode method_2_code 52 = .ok (.lushr, 1) := by decide +kernel
theorem d1_53 : decode method_2_code 53 = .ok (.l2i, 1) := by decide +kernel
theorem d1_54 : decode method_2_code 54 = .ok (.i2b, 1) := by decide +kernel
theorem d1_55 : decode method_2_code 55 = .ok (.bastore, 1) := by decide +kernel
theorem d1_56 : decode method_2_code 56 = .ok (.aload_n 2, 1) := by decide +kernel
theorem d1_57 : decode method_2_code 57 = .ok (.bipush 6, 2) := by decide +kernel
theorem d1_59 : decode method_2_code 59 = .ok (.lload_n 0, 1) := by decide +kernel
theorem d1_60 : decode method_2_code 60 = .ok (.bipush 48, 2) := by decide +kernel
theorem d1_62 : decode method_2_code 62 = .ok (.lushr, 1) := by decide +kernel
theorem d1_63 : decode method_2_code 63 = .ok (.l2i, 1) := by decide +kernel
theorem d1_64 : decode method_2_code 64 = .ok (.i2b, 1) := by decide +kernel
theorem d1_65 : decode method_2_code 65 = .ok (.bastore, 1) := by decide +kernel
theorem d1_66 : decode method_2_code 66 = .ok (.aload_n 2, 1) := by decide +kernel
theorem d1_67 : decode method_2_code 67 = .ok (.bipush 7, 2) := by decide +kernel
theorem d1_69 : decode method_2_code 69 = .ok (.lload_n 0, 1) := by decide +kernel
theorem d1_70 : decode method_2_code 70 = .ok (.bipush 56, 2) := by decide +kernel
theorem d1_72 : decode method_2_code 72 = .ok (.lushr, 1) := by decide +kernel
theorem d1_73 : decode method_2_code 73 = .ok (.l2i, 1) := by decide +kernel
theorem d1_74 : decode method_2_code 74 = .ok (.i2b, 1) := by decide +kernel
theorem d1_75 : decode method_2_code 75 = .ok (.bastore, 1) := by decide +kernel
theorem d1_76 : decode method_2_code 76 = .ok (.aload_n 2, 1) := by decide +kernel
theorem d1_77 : decode method_2_code 77 = .ok (.areturn, 1) := by decide +kernel
theorem d2_0 : decode prog_3_method_1_code 0 = .ok (.aload_n 0, 1) := by decide +kernel
theorem d2_1 : decode prog_3_method_1_code 1 = .ok (.invokespecial 1, 3) := by decide +kernel
theorem d2_4 : decode prog_3_method_1_code 4 = .ok (.aload_n 0, 1) := by decide +kernel
theorem d2_5 : decode prog_3_method_1_code 5 = .ok (.iload_n 1, 1) := by decide +kernel
theorem d2_6 : decode prog_3_method_1_code 6 = .ok (.newarray .byte, 2) := by decide +kernel
theorem d2_8 : decode prog_3_method_1_code 8 = .ok (.putfield 7, 3) := by decide +kernel
theorem d2_11 : decode prog_3_method_1_code 11 = .ok (.return_, 1) := by decide +kernel
theorem d4_0 : decode prog_3_method_2_code 0 = .ok (.aload_n 0, 1) := by decide +kernel
theorem d4_1 : decode prog_3_method_2_code 1 = .ok (.getfield 13, 3) := by decide +kernel
theorem d4_4 : decode prog_3_method_2_code 4 = .ok (.aload_n 0, 1) := by decide +kernel
theorem d4_5 : decode prog_3_method_2_code 5 = .ok (.getfield 7, 3) := by decide +kernel
theorem d4_8 : decode prog_3_method_2_code 8 = .ok (.arraylength, 1) := by decide +kernel
theorem d4_9 : decode prog_3_method_2_code 9 = .ok (.i2l, 1) := by decide +kernel
theorem d4_10 : decode prog_3_method_2_code 10 = .ok (.lrem, 1) := by decide +kernel
theorem d4_11 : decode prog_3_method_2_code 11 = .ok (.l2i, 1) := by decide +kernel
theorem d4_12 : decode prog_3_method_2_code 12 = .ok (.istore 4, 2) := by decide +kernel
theorem d4_14 : decode prog_3_method_2_code 14 = .ok (.iload_n 3, 1) := by decide +kernel
theorem d4_15 : decode prog_3_method_2_code 15 = .ok (.istore 5, 2) := by decide +kernel
theorem d4_17 : decode prog_3_method_2_code 17 = .ok (.iload_n 2, 1) := by decide +kernel
theorem d4_18 : decode prog_3_method_2_code 18 = .ok (.istore 6, 2) := by decide +kernel
theorem d4_20 : decode prog_3_method_2_code 20 = .ok (.iload 5, 2) := by decide +kernel
theorem d4_22 : decode prog_3_method_2_code 22 = .ok (.ifCond .le 62, 3) := by decide +kernel
theorem d4_25 : decode prog_3_method_2_code 25 = .ok (.iload 5, 2) := by decide +kernel
theorem d4_27 : decode prog_3_method_2_code 27 = .ok (.aload_n 0, 1) := by decide +kernel
theorem d4_28 : decode prog_3_method_2_code 28 = .ok (.getfield 7, 3) := by decide +kernel
theorem d4_31 : decode prog_3_method_2_code 31 = .ok (.arraylength, 1) := by decide +kernel
theorem d4_32 : decode prog_3_method_2_code 32 = .ok (.iload 4, 2) := by decide +kernel
theorem d4_34 : decode prog_3_method_2_code 34 = .ok (.isub, 1) := by decide +kernel
theorem d4_35 : decode prog_3_method_2_code 35 = .ok (.invokestatic 17, 3) := by decide +kernel
theorem d4_38 : decode prog_3_method_2_code 38 = .ok (.istore 7, 2) := by decide +kernel
theorem d4_40 : decode prog_3_method_2_code 40 = .ok (.aload_n 1, 1) := by decide +kernel
theorem d4_41 : decode prog_3_method_2_code 41 = .ok (.iload 6, 2) := by decide +kernel
theorem d4_43 : decode prog_3_method_2_code 43 = .ok (.aload_n 0, 1) := by decide +kernel
theorem d4_44 : decode prog_3_method_2_code 44 = .ok (.getfield 7, 3) := by decide +kernel
theorem d4_47 : decode prog_3_method_2_code 47 = .ok (.iload 4, 2) := by decide +kernel
theorem d4_49 : decode prog_3_method_2_code 49 = .ok (.iload 7, 2) := by decide +kernel
theorem d4_51 : decode prog_3_method_2_code 51 = .ok (.invokestatic 23, 3) := by decide +kernel
theorem d4_54 : decode prog_3_method_2_code 54 = .ok (.iload 6, 2) := by decide +kernel
theorem d4_56 : decode prog_3_method_2_code 56 = .ok (.iload 7, 2) := by decide +kernel
theorem d4_58 : decode prog_3_method_2_code 58 = .ok (.iadd, 1) := by decide +kernel
theorem d4_59 : decode prog_3_method_2_code 59 = .ok (.istore 6, 2) := by decide +kernel
theorem d4_61 : decode prog_3_method_2_code 61 = .ok (.iload 5, 2) := by decide +kernel
theorem d4_63 : decode prog_3_method_2_code 63 = .ok (.iload 7, 2) := by decide +kernel
theorem d4_65 : decode prog_3_method_2_code 65 = .ok (.isub, 1) := by decide +kernel
theorem d4_66 : decode prog_3_method_2_code 66 = .ok (.istore 5, 2) := by decide +kernel
theorem d4_68 : decode prog_3_method_2_code 68 = .ok (.iload 4, 2) := by decide +kernel
theorem d4_70 : decode prog_3_method_2_code 70 = .ok (.iload 7, 2) := by decide +kernel
theorem d4_72 : decode prog_3_method_2_code 72 = .ok (.iadd, 1) := by decide +kernel
theorem d4_73 : decode prog_3_method_2_code 73 = .ok (.aload_n 0, 1) := by decide +kernel
theorem d4_74 : decode prog_3_method_2_code 74 = .ok (.getfield 7, 3) := by decide +kernel
theorem d4_77 : decode prog_3_method_2_code 77 = .ok (.arraylength, 1) := by decide +kernel
theorem d4_78 : decode prog_3_method_2_code 78 = .ok (.irem, 1) := by decide +kernel
theorem d4_79 : decode prog_3_method_2_code 79 = .ok (.istore 4, 2) := by decide +kernel
theorem d4_81 : decode prog_3_method_2_code 81 = .ok (.goto (-61), 3) := by decide +kernel
theorem d4_84 : decode prog_3_method_2_code 84 = .ok (.aload_n 0, 1) := by decide +kernel
theorem d4_85 : decode prog_3_method_2_code 85 = .ok (.dup, 1) := by decide +kernel
theorem d4_86 : decode prog_3_method_2_code 86 = .ok (.getfield 13, 3) := by decide +kernel
theorem d4_89 : decode prog_3_method_2_code 89 = .ok (.iload_n 3, 1) := by decide +kernel
theorem d4_90 : decode prog_3_method_2_code 90 = .ok (.i2l, 1) := by decide +kernel
theorem d4_91 : decode prog_3_method_2_code 91 = .ok (.ladd, 1) := by decide +kernel
theorem d4_92 : decode prog_3_method_2_code 92 = .ok (.putfield 13, 3) := by decide +kernel
theorem d4_95 : decode prog_3_method_2_code 95 = .ok (.return_, 1) := by decide +kernel
theorem d5_0 : decode prog_3_method_3_code 0 = .ok (.aload_n 0, 1) := by decide +kernel
theorem d5_1 : decode prog_3_method_3_code 1 = .ok (.getfield 13, 3) := by decide +kernel
theorem d5_4 : decode prog_3_method_3_code 4 = .ok (.aload_n 0, 1) := by decide +kernel
theorem d5_5 : decode prog_3_method_3_code 5 = .ok (.getfield 7, 3) := by decide +kernel
theorem d5_8 : decode prog_3_method_3_code 8 = .ok (.arraylength, 1) := by decide +kernel
theorem d5_9 : decode prog_3_method_3_code 9 = .ok (.i2l, 1) := by decide +kernel
theorem d5_10 : decode prog_3_method_3_code 10 = .ok (.invokestatic 29, 3) := by decide +kernel
theorem d5_13 : decode prog_3_method_3_code 13 = .ok (.l2i, 1) := by decide +kernel
theorem d5_14 : decode prog_3_method_3_code 14 = .ok (.istore_n 1, 1) := by decide +kernel
theorem d5_15 : decode prog_3_method_3_code 15 = .ok (.aload_n 0, 1) := by decide +kernel
theorem d5_16 : decode prog_3_method_3_code 16 = .ok (.getfield 13, 3) := by decide +kernel
theorem d5_19 : decode prog_3_method_3_code 19 = .ok (.iload_n 1, 1) := by decide +kernel
theorem d5_20 : decode prog_3_method_3_code 20 = .ok (.i2l, 1) := by decide +kernel
theorem d5_21 : decode prog_3_method_3_code 21 = .ok (.lsub, 1) := by decide +kernel
theorem d5_22 : decode prog_3_method_3_code 22 = .ok (.aload_n 0, 1) := by decide +kernel
theorem d5_23 : decode prog_3_method_3_code 23 = .ok (.getfield 7, 3) := by decide +kernel
theorem d5_26 : decode prog_3_method_3_code 26 = .ok (.arraylength, 1) := by decide +kernel
theorem d5_27 : decode prog_3_method_3_code 27 = .ok (.i2l, 1) := by decide +kernel
theorem d5_28 : decode prog_3_method_3_code 28 = .ok (.lrem, 1) := by decide +kernel
theorem d5_29 : decode prog_3_method_3_code 29 = .ok (.l2i, 1) := by decide +kernel
theorem d5_30 : decode prog_3_method_3_code 30 = .ok (.istore_n 2, 1) := by decide +kernel
theorem d5_31 : decode prog_3_method_3_code 31 = .ok (.iload_n 1, 1) := by decide +kernel
theorem d5_32 : decode prog_3_method_3_code 32 = .ok (.newarray .byte, 2) := by decide +kernel
theorem d5_34 : decode prog_3_method_3_code 34 = .ok (.astore_n 3, 1) := by decide +kernel
theorem d5_35 : decode prog_3_method_3_code 35 = .ok (.iload_n 1, 1) := by decide +kernel
theorem d5_36 : decode prog_3_method_3_code 36 = .ok (.aload_n 0, 1) := by decide +kernel
theorem d5_37 : decode prog_3_method_3_code 37 = .ok (.getfield 7, 3) := by decide +kernel
theorem d5_40 : decode prog_3_method_3_code 40 = .ok (.arraylength, 1) := by decide +kernel
theorem d5_41 : decode prog_3_method_3_code 41 = .ok (.iload_n 2, 1) := by decide +kernel
theorem d5_42 : decode prog_3_method_3_code 42 = .ok (.isub, 1) := by decide +kernel
theorem d5_43 : decode prog_3_method_3_code 43 = .ok (.invokestatic 17, 3) := by decide +kernel
theorem d5_46 : decode prog_3_method_3_code 46 = .ok (.istore 4, 2) := by decide +kernel
theorem d5_48 : decode prog_3_method_3_code 48 = .ok (.aload_n 0, 1) := by decide +kernel
theorem d5_49 : decode prog_3_method_3_code 49 = .ok (.getfield 7, 3) := by decide +kernel
theorem d5_52 : decode prog_3_method_3_code 52 = .ok (.iload_n 2, 1) := by decide +kernel
theorem d5_53 : decode prog_3_method_3_code 53 = .ok (.aload_n 3, 1) := by decide +kernel
theorem d5_54 : decode prog_3_method_3_code 54 = .ok (.iconst 0, 1) := by decide +kernel
theorem d5_55 : decode prog_3_method_3_code 55 = .ok (.iload 4, 2) := by decide +kernel
theorem d5_57 : decode prog_3_method_3_code 57 = .ok (.invokestatic 23, 3) := by decide +kernel
theorem d5_60 : decode prog_3_method_3_code 60 = .ok (.aload_n 0, 1) := by decide +kernel
theorem d5_61 : decode prog_3_method_3_code 61 = .ok (.getfield 7, 3) := by decide +kernel
theorem d5_64 : decode prog_3_method_3_code 64 = .ok (.iconst 0, 1) := by decide +kernel
theorem d5_65 : decode prog_3_method_3_code 65 = .ok (.aload_n 3, 1) := by decide +kernel
theorem d5_66 : decode prog_3_method_3_code 66 = .ok (.iload 4, 2) := by decide +kernel
theorem d5_68 : decode prog_3_method_3_code 68 = .ok (.iload_n 1, 1) := by decide +kernel
theorem d5_69 : decode prog_3_method_3_code 69 = .ok (.iload 4, 2) := by decide +kernel
theorem d5_71 : decode prog_3_method_3_code 71 = .ok (.isub, 1) := by decide +kernel
theorem d5_72 : decode prog_3_method_3_code 72 = .ok (.invokestatic 23, 3) := by decide +kernel
theorem d5_75 : decode prog_3_method_3_code 75 = .ok (.aload_n 3, 1) := by decide +kernel
theorem d5_76 : decode prog_3_method_3_code 76 = .ok (.areturn, 1) := by decide +kernel
theorem d6_0 : decode jdk_29_method_70_code 0 = .ok (.lload_n 0, 1) := by decide +kernel
theorem d6_1 : decode jdk_29_method_70_code 1 = .ok (.lload_n 2, 1) := by decide +kernel
theorem d6_2 : decode jdk_29_method_70_code 2 = .ok (.lcmp, 1) := by decide +kernel
theorem d6_3 : decode jdk_29_method_70_code 3 = .ok (.ifCond .gt 7, 3) := by decide +kernel
theorem d6_6 : decode jdk_29_method_70_code 6 = .ok (.lload_n 0, 1) := by decide +kernel
theorem d6_7 : decode jdk_29_method_70_code 7 = .ok (.goto 4, 3) := by decide +kernel
theorem d6_10 : decode jdk_29_method_70_code 10 = .ok (.lload_n 2, 1) := by decide +kernel
theorem d6_11 : decode jdk_29_method_70_code 11 = .ok (.lreturn, 1) := by decide +kernel
theorem d7_0 : decode jdk_29_method_69_code 0 = .ok (.iload_n 0, 1) := by decide +kernel
theorem d7_1 : decode jdk_29_method_69_code 1 = .ok (.iload_n 1, 1) := by decide +kernel
theorem d7_2 : decode jdk_29_method_69_code 2 = .ok (.if_icmp .gt 7, 3) := by decide +kernel
theorem d7_5 : decode jdk_29_method_69_code 5 = .ok (.iload_n 0, 1) := by decide +kernel
theorem d7_6 : decode jdk_29_method_69_code 6 = .ok (.goto 4, 3) := by decide +kernel
theorem d7_9 : decode jdk_29_method_69_code 9 = .ok (.iload_n 1, 1) := by decide +kernel
theorem d7_10 : decode jdk_29_method_69_code 10 = .ok (.ireturn, 1) := by decide +kernel
theorem d8_0 : decode method_4_code 0 = .ok (.aload_n 0, 1) := by decide +kernel
theorem d8_1 : decode method_4_code 1 = .ok (.arraylength, 1) := by decide +kernel
theorem d8_2 : decode method_4_code 2 = .ok (.iload_n 2, 1) := by decide +kernel
theorem d8_3 : decode method_4_code 3 = .ok (.iload_n 1, 1) := by decide +kernel
theorem d8_4 : decode method_4_code 4 = .ok (.invokestatic 7, 3) := by decide +kernel
theorem d8_7 : decode method_4_code 7 = .ok (.if_icmp .eq 5, 3) := by decide +kernel
theorem d8_10 : decode method_4_code 10 = .ok (.iconst 0, 1) := by decide +kernel
theorem d8_11 : decode method_4_code 11 = .ok (.ireturn, 1) := by decide +kernel
theorem d8_12 : decode method_4_code 12 = .ok (.aload_n 0, 1) := by decide +kernel
theorem d8_13 : decode method_4_code 13 = .ok (.iconst 0, 1) := by decide +kernel
theorem d8_14 : decode method_4_code 14 = .ok (.iload_n 2, 1) := by decide +kernel
theorem d8_15 : decode method_4_code 15 = .ok (.aload_n 3, 1) := by decide +kernel
theorem d8_16 : decode method_4_code 16 = .ok (.iload 4, 2) := by decide +kernel
theorem d8_18 : decode method_4_code 18 = .ok (.iload 5, 2) := by decide +kernel
theorem d8_20 : decode method_4_code 20 = .ok (.aload 6, 2) := by decide +kernel
theorem d8_22 : decode method_4_code 22 = .ok (.iload 7, 2) := by decide +kernel
theorem d8_24 : decode method_4_code 24 = .ok (.invokestatic 13, 3) := by decide +kernel
theorem d8_27 : decode method_4_code 27 = .ok (.ifCond .eq 135, 3) := by decide +kernel
theorem d8_30 : decode method_4_code 30 = .ok (.aload_n 0, 1) := by decide +kernel
theorem d8_31 : decode method_4_code 31 = .ok (.iconst 1, 1) := by decide +kernel
theorem d8_32 : decode method_4_code 32 = .ok (.iload_n 2, 1) := by decide +kernel
theorem d8_33 : decode method_4_code 33 = .ok (.aload_n 3, 1) := by decide +kernel
theorem d8_34 : decode method_4_code 34 = .ok (.iload 4, 2) := by decide +kernel
theorem d8_36 : decode method_4_code 36 = .ok (.iload 5, 2) := by decide +kernel
theorem d8_38 : decode method_4_code 38 = .ok (.aload 6, 2) := by decide +kernel
theorem d8_40 : decode method_4_code 40 = .ok (.iload 7, 2) := by decide +kernel
theorem d8_42 : decode method_4_code 42 = .ok (.invokestatic 13, 3) := by decide +kernel
theorem d8_45 : decode method_4_code 45 = .ok (.ifCond .eq 117, 3) := by decide +kernel
theorem d8_48 : decode method_4_code 48 = .ok (.aload_n 0, 1) := by decide +kernel
theorem d8_49 : decode method_4_code 49 = .ok (.iconst 2, 1) := by decide +kernel
theorem d8_50 : decode method_4_code 50 = .ok (.iload_n 2, 1) := by decide +kernel
theorem d8_51 : decode method_4_code 51 = .ok (.aload_n 3, 1) := by decide +kernel
theorem d8_52 : decode method_4_code 52 = .ok (.iload 4, 2) := by decide +kernel
theorem d8_54 : decode method_4_code 54 = .ok (.iload 5, 2) := by decide +kernel
theorem d8_56 : decode method_4_code 56 = .ok (.aload 6, 2) := by decide +kernel
theorem d8_58 : decode method_4_code 58 = .ok (.iload 7, 2) := by decide +kernel
theorem d8_60 : decode method_4_code 60 = .ok (.invokestatic 13, 3) := by decide +kernel
theorem d8_63 : decode method_4_code 63 = .ok (.ifCond .eq 99, 3) := by decide +kernel
theorem d8_66 : decode method_4_code 66 = .ok (.aload_n 0, 1) := by decide +kernel
theorem d8_67 : decode method_4_code 67 = .ok (.iconst 3, 1) := by decide +kernel
theorem d8_68 : decode method_4_code 68 = .ok (.iload_n 2, 1) := by decide +kernel
theorem d8_69 : decode method_4_code 69 = .ok (.aload_n 3, 1) := by decide +kernel
theorem d8_70 : decode method_4_code 70 = .ok (.iload 4, 2) := by decide +kernel
theorem d8_72 : decode method_4_code 72 = .ok (.iload 5, 2) := by decide +kernel
theorem d8_74 : decode method_4_code 74 = .ok (.aload 6, 2) := by decide +kernel
theorem d8_76 : decode method_4_code 76 = .ok (.iload 7, 2) := by decide +kernel
theorem d8_78 : decode method_4_code 78 = .ok (.invokestatic 13, 3) := by decide +kernel
theorem d8_81 : decode method_4_code 81 = .ok (.ifCond .eq 81, 3) := by decide +kernel
theorem d8_84 : decode method_4_code 84 = .ok (.aload_n 0, 1) := by decide +kernel
theorem d8_85 : decode method_4_code 85 = .ok (.iconst 4, 1) := by decide +kernel
theorem d8_86 : decode method_4_code 86 = .ok (.iload_n 2, 1) := by decide +kernel
theorem d8_87 : decode method_4_code 87 = .ok (.aload_n 3, 1) := by decide +kernel
theorem d8_88 : decode method_4_code 88 = .ok (.iload 4, 2) := by decide +kernel
theorem d8_90 : decode method_4_code 90 = .ok (.iload 5, 2) := by decide +kernel
theorem d8_92 : decode method_4_code 92 = .ok (.aload 6, 2) := by decide +kernel
theorem d8_94 : decode method_4_code 94 = .ok (.iload 7, 2) := by decide +kernel
theorem d8_96 : decode method_4_code 96 = .ok (.invokestatic 13, 3) := by decide +kernel
theorem d8_99 : decode method_4_code 99 = .ok (.ifCond .eq 63, 3) := by decide +kernel
theorem d8_102 : decode method_4_code 102 = .ok (.aload_n 0, 1) := by decide +kernel
theorem d8_103 : decode method_4_code 103 = .ok (.iconst 5, 1) := by decide +kernel
theorem d8_104 : decode method_4_code 104 = .ok (.iload_n 2, 1) := by decide +kernel
theorem d8_105 : decode method_4_code 105 = .ok (.aload_n 3, 1) := by decide +kernel
theorem d8_106 : decode method_4_code 106 = .ok (.iload 4, 2) := by decide +kernel
theorem d8_108 : decode method_4_code 108 = .ok (.iload 5, 2) := by decide +kernel
theorem d8_110 : decode method_4_code 110 = .ok (.aload 6, 2) := by decide +kernel
theorem d8_112 : decode method_4_code 112 = .ok (.iload 7, 2) := by decide +kernel
theorem d8_114 : decode method_4_code 114 = .ok (.invokestatic 13, 3) := by decide +kernel
theorem d8_117 : decode method_4_code 117 = .ok (.ifCond .eq 45, 3) := by decide +kernel
theorem d8_120 : decode method_4_code 120 = .ok (.aload_n 0, 1) := by decide +kernel
theorem d8_121 : decode method_4_code 121 = .ok (.bipush 6, 2) := by decide +kernel
theorem d8_123 : decode method_4_code 123 = .ok (.iload_n 2, 1) := by decide +kernel
theorem d8_124 : decode method_4_code 124 = .ok (.aload_n 3, 1) := by decide +kernel
theorem d8_125 : decode method_4_code 125 = .ok (.iload 4, 2) := by decide +kernel
theorem d8_127 : decode method_4_code 127 = .ok (.iload 5, 2) := by decide +kernel
theorem d8_129 : decode method_4_code 129 = .ok (.aload 6, 2) := by decide +kernel
theorem d8_131 : decode method_4_code 131 = .ok (.iload 7, 2) := by decide +kernel
theorem d8_133 : decode method_4_code 133 = .ok (.invokestatic 13, 3) := by decide +kernel
theorem d8_136 : decode method_4_code 136 = .ok (.ifCond .eq 26, 3) := by decide +kernel
theorem d8_139 : decode method_4_code 139 = .ok (.aload_n 0, 1) := by decide +kernel
theorem d8_140 : decode method_4_code 140 = .ok (.bipush 7, 2) := by decide +kernel
theorem d8_142 : decode method_4_code 142 = .ok (.iload_n 2, 1) := by decide +kernel
theorem d8_143 : decode method_4_code 143 = .ok (.aload_n 3, 1) := by decide +kernel
theorem d8_144 : decode method_4_code 144 = .ok (.iload 4, 2) := by decide +kernel
theorem d8_146 : decode method_4_code 146 = .ok (.iload 5, 2) := by decide +kernel
theorem d8_148 : decode method_4_code 148 = .ok (.aload 6, 2) := by decide +kernel
theorem d8_150 : decode method_4_code 150 = .ok (.iload 7, 2) := by decide +kernel
theorem d8_152 : decode method_4_code 152 = .ok (.invokestatic 13, 3) := by decide +kernel
theorem d8_155 : decode method_4_code 155 = .ok (.ifCond .eq 7, 3) := by decide +kernel
theorem d8_158 : decode method_4_code 158 = .ok (.iconst 1, 1) := by decide +kernel
theorem d8_159 : decode method_4_code 159 = .ok (.goto 4, 3) := by decide +kernel
theorem d8_162 : decode method_4_code 162 = .ok (.iconst 0, 1) := by decide +kernel
theorem d8_163 : decode method_4_code 163 = .ok (.ireturn, 1) := by decide +kernel
theorem d9_0 : decode method_3_code 0 = .ok (.iload_n 1, 1) := by decide +kernel
theorem d9_1 : decode method_3_code 1 = .ok (.aload_n 0, 1) := by decide +kernel
theorem d9_2 : decode method_3_code 2 = .ok (.arraylength, 1) := by decide +kernel
theorem d9_3 : decode method_3_code 3 = .ok (.if_icmp .lt 5, 3) := by decide +kernel
theorem d9_6 : decode method_3_code 6 = .ok (.iconst 1, 1) := by decide +kernel
theorem d9_7 : decode method_3_code 7 = .ok (.ireturn, 1) := by decide +kernel
theorem d9_8 : decode method_3_code 8 = .ok (.iload_n 2, 1) := by decide +kernel
theorem d9_9 : decode method_3_code 9 = .ok (.aload_n 0, 1) := by decide +kernel
theorem d9_10 : decode method_3_code 10 = .ok (.arraylength, 1) := by decide +kernel
theorem d9_11 : decode method_3_code 11 = .ok (.isub, 1) := by decide +kernel
theorem d9_12 : decode method_3_code 12 = .ok (.iload_n 1, 1) := by decide +kernel
theorem d9_13 : decode method_3_code 13 = .ok (.iadd, 1) := by decide +kernel
theorem d9_14 : decode method_3_code 14 = .ok (.istore 8, 2) := by decide +kernel
theorem d9_16 : decode method_3_code 16 = .ok (.iload 8, 2) := by decide +kernel
theorem d9_18 : decode method_3_code 18 = .ok (.iload 5, 2) := by decide +kernel
theorem d9_20 : decode method_3_code 20 = .ok (.if_icmp .ge 15, 3) := by decide +kernel
theorem d9_23 : decode method_3_code 23 = .ok (.aload_n 3, 1) := by decide +kernel
theorem d9_24 : decode method_3_code 24 = .ok (.iload 4, 2) := by decide +kernel
theorem d9_26 : decode method_3_code 26 = .ok (.iload 8, 2) := by decide +kernel
theorem d9_28 : decode method_3_code 28 = .ok (.iadd, 1) := by decide +kernel
theorem d9_29 : decode method_3_code 29 = .ok (.baload, 1) := by decide +kernel
theorem d9_30 : decode method_3_code 30 = .ok (.istore 9, 2) := by decide +kernel
theorem d9_32 : decode method_3_code 32 = .ok (.goto 16, 3) := by decide +kernel
theorem d9_35 : decode method_3_code 35 = .ok (.aload 6, 2) := by decide +kernel
theorem d9_37 : decode method_3_code 37 = .ok (.iload 7, 2) := by decide +kernel
theorem d9_39 : decode method_3_code 39 = .ok (.iload 8, 2) := by decide +kernel
theorem d9_41 : decode method_3_code 41 = .ok (.iadd, 1) := by decide +kernel
theorem d9_42 : decode method_3_code 42 = .ok (.iload 5, 2) := by decide +kernel
theorem d9_44 : decode method_3_code 44 = .ok (.isub, 1) := by decide +kernel
theorem d9_45 : decode method_3_code 45 = .ok (.baload, 1) := by decide +kernel
theorem d9_46 : decode method_3_code 46 = .ok (.istore 9, 2) := by decide +kernel
theorem d9_48 : decode method_3_code 48 = .ok (.aload_n 0, 1) := by decide +kernel
theorem d9_49 : decode method_3_code 49 = .ok (.iload_n 1, 1) := by decide +kernel
theorem d9_50 : decode method_3_code 50 = .ok (.baload, 1) := by decide +kernel
theorem d9_51 : decode method_3_code 51 = .ok (.iload 9, 2) := by decide +kernel
theorem d9_53 : decode method_3_code 53 = .ok (.if_icmp .ne 7, 3) := by decide +kernel
theorem d9_56 : decode method_3_code 56 = .ok (.iconst 1, 1) := by decide +kernel
theorem d9_57 : decode method_3_code 57 = .ok (.goto 4, 3) := by decide +kernel
theorem d9_60 : decode method_3_code 60 = .ok (.iconst 0, 1) := by decide +kernel
theorem d9_61 : decode method_3_code 61 = .ok (.ireturn, 1) := by decide +kernel
theorem pd_0 : parseMethodDescriptor "(II)I" = some ⟨[.int, .int], some .int⟩ := by decide +kernel
theorem pd_1 : parseMethodDescriptor "(JJ)J" = some ⟨[.long, .long], some .long⟩ := by decide +kernel
theorem pd_2 : parseMethodDescriptor "([BII[BII[BI)Z" = some ⟨[(.array .byte), .int, .int, (.array .byte), .int, .int, (.array .byte), .int], some .boolean⟩ := by decide +kernel
theorem pd_3 : parseMethodDescriptor "(J)[B" = some ⟨[.long], some (.array .byte)⟩ := by decide +kernel
theorem pd_4 : parseMethodDescriptor "(I)V" = some ⟨[.int], none⟩ := by decide +kernel
theorem pd_5 : parseMethodDescriptor "([BII)V" = some ⟨[(.array .byte), .int, .int], none⟩ := by decide +kernel
theorem pd_6 : parseMethodDescriptor "()[B" = some ⟨[], some (.array .byte)⟩ := by decide +kernel

/-- the ring holds the last bytes of the stream -/
def RI (rs ss : List Int32) : Prop := ∀ k, k < ss.length → ss.length ≤ k + rs.length → rs[k % rs.length]? = ss[k]?
theorem mod_off {W c e : Nat} (h : W % c + e < c) : (W + e) % c = W % c + e := by
  rw [← Nat.mod_add_mod]; exact Nat.mod_eq_of_lt h
theorem mod_ne {W c k e : Nat} (h1 : k < W + e) (h2 : W + e < k + c) (h3 : W % c + e < c) : k % c ≠ W % c + e := fun q => by
  have a := Nat.div_add_mod W c
  have b := Nat.div_add_mod k c
  by_cases r : W / c ≤ k / c
  · have := Nat.mul_le_mul_left c r; omega
  · have : c * (k / c + 1) ≤ c * (W / c) := Nat.mul_le_mul_left c (by omega)
    rw [Nat.mul_add, Nat.mul_one] at this; omega
theorem RI.step {rs ss ch : List Int32} (H : RI rs ss) (c1 : 0 < rs.length) {p : Nat} (hp : p = ss.length % rs.length) (hl : p + ch.length ≤ rs.length) : RI (rs.take p ++ ch ++ rs.drop (p + ch.length)) (ss ++ ch) := by
  have el : (rs.take p ++ ch ++ rs.drop (p + ch.length)).length = rs.length := by simp; omega
  have tl : (rs.take p).length = p := by simp; omega
  intro k h1 h2
  rw [el] at h2 ⊢
  rw [List.length_append] at h1 h2
  by_cases hk : k < ss.length
  · rw [List.getElem?_append_left hk, ← H k hk (by omega)]
    have hq := Nat.mod_lt k c1
    by_cases h3 : k % rs.length < p
    · rw [List.append_assoc, List.getElem?_append_left (by omega), List.getElem?_take_of_lt h3]
    · by_cases h4 : k % rs.length < p + ch.length
      · exfalso
        have := mod_ne (W := ss.length) (c := rs.length) (k := k) (e := k % rs.length - p) (by omega) (by omega) (by omega)
        omega
      · rw [List.getElem?_append_right (by rw [List.length_append]; omega), List.length_append, tl, List.getElem?_drop]
        congr 1; omega
  · obtain ⟨e, rfl⟩ : ∃ e, k = ss.length + e := ⟨k - ss.length, by omega⟩
    rw [mod_off (by omega), List.getElem?_append_left (by rw [List.length_append]; omega), List.getElem?_append_right (by omega), List.getElem?_append_right (by omega), tl]
    congr 1; omega
theorem RI.out {rs ss : List Int32} (H : RI rs ss) (c1 : 0 < rs.length) {z st fi : Nat} (hz : z = min ss.length rs.length) (hs : st = (ss.length - z) % rs.length) (hf : fi = min z (rs.length - st)) : (rs.drop st).take fi ++ rs.take (z - fi) = ss.drop (ss.length - z) := by
  have hst : st < rs.length := by rw [hs]; exact Nat.mod_lt _ c1
  apply List.ext_getElem?
  intro j
  have l1 : ((rs.drop st).take fi).length = fi := by simp; omega
  by_cases hj : j < z
  · rw [List.getElem?_drop]
    have q := H (ss.length - z + j) (by omega) (by omega)
    by_cases h1 : j < fi
    · rw [List.getElem?_append_left (by omega), List.getElem?_take_of_lt h1, List.getElem?_drop, ← q, mod_off (by omega), hs]
    · rw [List.getElem?_append_right (by omega), l1, List.getElem?_take_of_lt (by omega), ← q]
      have e : (ss.length - z + j) % rs.length = j - fi := by
        have a := Nat.div_add_mod (ss.length - z) rs.length
        have b : ss.length - z + j = (j - fi) + rs.length * ((ss.length - z) / rs.length + 1) := by rw [Nat.mul_add, Nat.mul_one]; omega
        rw [b, Nat.add_mul_mod_self_left]; exact Nat.mod_eq_of_lt (by omega)
      rw [e]
  · rw [List.getElem?_eq_none (by simp; omega), List.getElem?_eq_none (by simp; omega)]
theorem nat_of {a : Int64} {n : Nat} (h : a.toInt = n) (q : n < 2147483648) : a.toInt32.toInt = n := by
  have a1 := c_l2i a; have a2 := rng32 a.toInt32; omega
theorem lrem_nat {a b : Int64} {i j : Nat} (ha : a.toInt = i) (hb : b.toInt = j) : (a - (a / b) * b).toInt = ((i % j : Nat) : Int) := by
  rw [(c_lrem a b j hb).1 (by omega), ha]; rfl
theorem irem_nat {a b : Int32} {i j : Nat} (ha : a.toInt = i) (hb : b.toInt = j) : (a % b).toInt = ((i % j : Nat) : Int) := by
  rw [(c_irem a b j hb).1 (by omega), ha]; rfl
theorem l_of {n : Nat} (q : n < 2147483648) : n.toInt32.toInt64.toInt = n := by rw [c_i2l, n32 q]
theorem nz32 {n : Nat} (q : n < 2147483648) (p : 0 < n) : ¬ n.toInt32 = 0 := fun e => by have := n32 q; rw [e] at this; have e0 : (0 : Int32).toInt = 0 := rfl; omega
theorem nz64 {n : Nat} (q : n < 2147483648) (p : 0 < n) : ¬ n.toInt32.toInt64 = 0 := fun e => by have := l_of q; rw [e] at this; have e0 : (0 : Int64).toInt = 0 := rfl; omega
theorem sub_nat {a b : Int32} {i j : Nat} (ha : a.toInt = i) (hb : b.toInt = j) (q : j ≤ i) : (a - b).toInt = ((i - j : Nat) : Int) := by
  have c := c_isub a b; have d := rng32 (a - b); have e := rng32 a; omega
theorem add_nat {a b : Int32} {i j : Nat} (ha : a.toInt = i) (hb : b.toInt = j) (q : i + j < 2147483648) : (a + b).toInt = ((i + j : Nat) : Int) := by
  have c := c_iadd a b; have d := rng32 (a + b); omega
theorem ladd_nat {a b : Int64} {i j : Nat} (ha : a.toInt = i) (hb : b.toInt = j) (q : i + j < 2147483648) : (a + b).toInt = ((i + j : Nat) : Int) := by
  have c := c_ladd a b; have d := rng64 (a + b); omega
theorem lsub_nat {a b : Int64} {i j : Nat} (ha : a.toInt = i) (hb : b.toInt = j) (q : j ≤ i) : (a - b).toInt = ((i - j : Nat) : Int) := by
  have c := c_lsub a b; have d := rng64 (a - b); have e := rng64 a; omega
theorem min_nat {a b : Int32} {i j : Nat} (ha : a.toInt = i) (hb : b.toInt = j) : (if b < a then b else a).toInt = ((min i j : Nat) : Int) := by
  split
  · rename_i q; rw [Int32.lt_iff_toInt_lt] at q; omega
  · rename_i q; rw [Int32.lt_iff_toInt_lt] at q; omega
theorem minJ_nat {a b : Int64} {i j : Nat} (ha : a.toInt = i) (hb : b.toInt = j) : (if b < a then b else a).toInt = ((min i j : Nat) : Int) := by
  split
  · rename_i q; rw [Int64.lt_iff_toInt_lt] at q; omega
  · rename_i q; rw [Int64.lt_iff_toInt_lt] at q; omega
theorem lt_nat {a b : Int32} {i j : Nat} (ha : a.toInt = i) (hb : b.toInt = j) : a < b ↔ i < j := by rw [Int32.lt_iff_toInt_lt, ha, hb]; omega
theorem eq_nat {a b : Int32} {i j : Nat} (ha : a.toInt = i) (hb : b.toInt = j) : a = b ↔ i = j := by rw [← Int32.toInt_inj, ha, hb]; omega
theorem pos_nat {a : Int32} {i : Nat} (ha : a.toInt = i) : 0 < a ↔ 0 < i := by
  rw [Int32.lt_iff_toInt_lt, ha]; have e0 : (0 : Int32).toInt = 0 := rfl; omega
/-- an OutputTail: its ring, the stream's length -/
def OR (Z : State) (h : Heap) (to ring : Addr) (w64 : Int64) (rs ss : List Int32) : Prop := Exa Z h to "com/example/chore_scheduler/chorescheduler/exec/OutputTail" ∧ Fld Z h to "com/example/chore_scheduler/chorescheduler/exec/OutputTail" "written" "J" (.long w64) ∧ Fld Z h to "com/example/chore_scheduler/chorescheduler/exec/OutputTail" "ring" "[B" (.ref ring) ∧ VArr Z h ring .byte (rs.map Value.int) ∧ w64.toInt = (ss.length : Int) ∧ 0 < rs.length ∧ rs.length ≤ 8 ∧ RI rs ss

theorem ef_rmMin (m : MethodId) (x0 : Int32) (x1 : Int32) : entryFrame m #[(.int x0), (.int x1)] 2 = mkF m 0 #[.val (.int x0), .val (.int x1)] [] := by first | (simp [entryFrame, mkF, argsToLocals, Value.category]; done) | rfl
set_option maxRecDepth 65536 in
set_option maxHeartbeats 40000000 in
theorem rmMin (l : Launch) (Z : State) (a0 : Array Value) (hw : ∀ d ∈ tables_1, d.before a0 Z = true) (p1 p2 : Int32) (h0 : Heap)  :
    Met l Z (⟨"java/lang/Math", "min", "(II)I"⟩ : MethodName) jdk_29_method_69_code 2 (some .int) ({ frames := 0, cells := 0, slots := 0, locals := 0 } : Room) #[(.int p1), (.int p2)] h0 (fun v h L => v = some (.int (if p2 < p1 then p2 else p1)) ∧ L = [] ∧ h = h0) := by
  refine Met.intro (Jvm.Free.JP.mathPlain rfl (by decide +kernel)) ?_
  intro p e s m below meth c T0 hx hby hml hown hnm hret hlk hZ X0 e0
  refine Go.cast (ef_rmMin m p1 p2) ?_
  refine Go.back (f' := (mkF m 1 #[.val (.int p1), .val (.int p2)] [(.int p1)])) (fun _ k => XS.iloadN X0.here hx rfl (hb hby d7_0) rfl k) ?_
  refine Go.back (f' := (mkF m 2 #[.val (.int p1), .val (.int p2)] [(.int p2), (.int p1)])) (fun _ k => XS.iloadN X0.here hx rfl (hb hby d7_1) rfl k) ?_
  by_cases hc : p2 < p1
  · refine Go.back (f' := (mkF m 9 #[.val (.int p1), .val (.int p2)] [])) (fun _ k => XS.icmpYes X0.here hx rfl (pc0 := 2) (pc' := 9) rfl (hb hby d7_2) rfl (tlt hc).2.2.1 (by decide) (by decide) k) ?_
    refine Go.back (f' := (mkF m 10 #[.val (.int p1), .val (.int p2)] [(.int p2)])) (fun _ k => XS.iloadN X0.here hx rfl (hb hby d7_9) rfl k) ?_
    exact Go.retI X0 hx hret hlk (hb hby d7_10) (by (try rw [e0]); exact ⟨by rw [if_pos hc], rfl, rfl⟩) (Nat.zero_le _) (Nat.zero_le _)
  · refine Go.back (f' := (mkF m 5 #[.val (.int p1), .val (.int p2)] [])) (fun _ k => XS.icmpNo X0.here hx rfl (hb hby d7_2) rfl (flt hc).2.2.1 k) ?_
    refine Go.back (f' := (mkF m 6 #[.val (.int p1), .val (.int p2)] [(.int p1)])) (fun _ k => XS.iloadN X0.here hx rfl (hb hby d7_5) rfl k) ?_
    refine Go.back (f' := (mkF m 10 #[.val (.int p1), .val (.int p2)] [(.int p1)])) (fun _ k => XS.goto X0.here hx rfl (pc0 := 6) (pc' := 10) rfl (hb hby d7_6) (by decide) (by decide) k) ?_
    exact Go.retI X0 hx hret hlk (hb hby d7_10) (by (try rw [e0]); exact ⟨by rw [if_neg hc], rfl, rfl⟩) (Nat.zero_le _) (Nat.zero_le _)
theorem ef_rmMinJ (m : MethodId) (x0 : Int64) (x1 : Int64) : entryFrame m #[(.long x0), (.long x1)] 4 = mkF m 0 #[.val (.long x0), .second, .val (.long x1), .second] [] := by first | (simp [entryFrame, mkF, argsToLocals, Value.category]; done) | rfl
set_option maxRecDepth 65536 in
set_option maxHeartbeats 40000000 in
theorem rmMinJ (l : Launch) (Z : State) (a0 : Array Value) (hw : ∀ d ∈ tables_1, d.before a0 Z = true) (p1 p2 : Int64) (h0 : Heap)  :
    Met l Z (⟨"java/lang/Math", "min", "(JJ)J"⟩ : MethodName) jdk_29_method_70_code 4 (some .long) ({ frames := 0, cells := 0, slots := 0, locals := 0 } : Room) #[(.long p1), (.long p2)] h0 (fun v h L => v = some (.long (if p2 < p1 then p2 else p1)) ∧ L = [] ∧ h = h0) := by
  refine Met.intro (Jvm.Free.JP.mathPlain rfl (by decide +kernel)) ?_
  intro p e s m below meth c T0 hx hby hml hown hnm hret hlk hZ X0 e0
  refine Go.cast (ef_rmMinJ m p1 p2) ?_
  refine Go.back (f' := (mkF m 1 #[.val (.long p1), .second, .val (.long p2), .second] [(.long p1)])) (fun _ k => XS.lloadN X0.here hx rfl (hb hby d6_0) rfl k) ?_
  refine Go.back (f' := (mkF m 2 #[.val (.long p1), .second, .val (.long p2), .second] [(.long p2), (.long p1)])) (fun _ k => XS.lloadN X0.here hx rfl (hb hby d6_1) rfl k) ?_
  refine Go.back (f' := (mkF m 3 #[.val (.long p1), .second, .val (.long p2), .second] [(.int (lcmpW p1 p2))])) (fun _ k => XS.lcmp X0.here hx rfl (hb hby d6_2) rfl k) ?_
  by_cases hc : p2 < p1
  · refine Go.back (f' := (mkF m 10 #[.val (.long p1), .second, .val (.long p2), .second] [])) (fun _ k => XS.ifYes X0.here hx rfl (pc0 := 3) (pc' := 10) rfl (hb hby d6_3) rfl (l_gt_t hc) (by decide) (by decide) k) ?_
    refine Go.back (f' := (mkF m 11 #[.val (.long p1), .second, .val (.long p2), .second] [(.long p2)])) (fun _ k => XS.lloadN X0.here hx rfl (hb hby d6_10) rfl k) ?_
    exact Go.retJ X0 hx hret hlk (hb hby d6_11) (by (try rw [e0]); exact ⟨by rw [if_pos hc], rfl, rfl⟩) (Nat.zero_le _) (Nat.zero_le _)
  · refine Go.back (f' := (mkF m 6 #[.val (.long p1), .second, .val (.long p2), .second] [])) (fun _ k => XS.ifNo X0.here hx rfl (hb hby d6_3) rfl (l_gt_f hc) k) ?_
    refine Go.back (f' := (mkF m 7 #[.val (.long p1), .second, .val (.long p2), .second] [(.long p1)])) (fun _ k => XS.lloadN X0.here hx rfl (hb hby d6_6) rfl k) ?_
    refine Go.back (f' := (mkF m 11 #[.val (.long p1), .second, .val (.long p2), .second] [(.long p1)])) (fun _ k => XS.goto X0.here hx rfl (pc0 := 7) (pc' := 11) rfl (hb hby d6_7) (by decide) (by decide) k) ?_
    exact Go.retJ X0 hx hret hlk (hb hby d6_11) (by (try rw [e0]); exact ⟨by rw [if_neg hc], rfl, rfl⟩) (Nat.zero_le _) (Nat.zero_le _)
theorem ef_rmIni (m : MethodId) (x0 : Addr) (x1 : Int32) : entryFrame m #[(.ref x0), (.int x1)] 2 = mkF m 0 #[.val (.ref x0), .val (.int x1)] [] := by first | (simp [entryFrame, mkF, argsToLocals, Value.category]; done) | rfl
set_option maxRecDepth 65536 in
set_option maxHeartbeats 40000000 in
theorem rmIni (l : Launch) (Z : State) (a0 : Array Value) (hw : ∀ d ∈ tables_1, d.before a0 Z = true) (to : Addr) (cc : Int32) (i n0 : Nat) (h0 : Heap) (Z0 : n0 ≤ h0.size) (Ex : Exa Z h0 to "com/example/chore_scheduler/chorescheduler/exec/OutputTail") (F1 : Fld Z h0 to "com/example/chore_scheduler/chorescheduler/exec/OutputTail" "written" "J" (.long (0 : Int64))) (F2 : Fld Z h0 to "com/example/chore_scheduler/chorescheduler/exec/OutputTail" "ring" "[B" .null) (hc : cc.toInt = i) (i1 : 1 ≤ i) (i8 : i ≤ 8) (g_to : n0 ≤ to) :
    Met l Z (⟨"com/example/chore_scheduler/chorescheduler/exec/OutputTail", "<init>", "(I)V"⟩ : MethodName) prog_3_method_1_code 2 none ({ frames := 1, cells := 1, slots := 8, locals := 12 } : Room) #[(.ref to), (.int cc)] h0 (fun v h L => v = none ∧ Chg n0 h0 h [to] L ∧ ∃ ring rs, h0.size ≤ ring ∧ rs.length = i ∧ OR Z h to ring 0 rs []) := by
  refine Met.intro (plainFor_of_name (by first | (simp [plainName, overriddenIn]; done) | decide +kernel)) ?_
  intro p e s m below meth c T0 hx hby hml hown hnm hret hlk hZ X0 e0
  refine Go.cast (ef_rmIni m to cc) ?_
  have K0 : Chg n0 h0 h0 [to] [] := Chg.refl Z0
  refine Go.back (f' := (mkF m 1 #[.val (.ref to), .val (.int cc)] [(.ref to)])) (fun _ k => XS.aloadN X0.here hx rfl (hb hby d2_0) rfl rfl k) ?_
  obtain ⟨T1, X1, e1, st1⟩ := initO X0 hx hZ hown (hw _ (List.mem_of_getElem? (i := 12) rfl)) (hw _ (List.mem_of_getElem? (i := 13) rfl)) (hw _ (List.mem_of_getElem? (i := 14) rfl)) e0 (g := (mkF m 1 #[.val (.ref to), .val (.int cc)] [(.ref to)])) rfl (by rw [hml]; rfl) rfl (hb hby d2_1) (by decide) (W := 0) (by show 2 * 0 + _ ≤ _; exact Nat.le_of_eq rfl) (by decide)
  refine Go.back (f' := (mkF m 4 #[.val (.ref to), .val (.int cc)] [])) st1 ?_
  refine Go.back (f' := (mkF m 5 #[.val (.ref to), .val (.int cc)] [(.ref to)])) (fun _ k => XS.aloadN X1.here hx rfl (hb hby d2_4) rfl rfl k) ?_
  refine Go.back (f' := (mkF m 6 #[.val (.ref to), .val (.int cc)] [(.int cc), (.ref to)])) (fun _ k => XS.iloadN X1.here hx rfl (hb hby d2_5) rfl k) ?_
  refine Go.newA X1 hx hZ (hw _ (List.mem_of_getElem? (i := 4) rfl)) e1 (hb hby d2_6) (i := i) hc (cap := 8) i8 (by decide) (by decide) (by decide) ?_
  intro T2 h2 ring q2 X2 e2 E2 V2
  have V2 : VArr Z h2 ring .byte (List.replicate i (.int 0)) := V2
  have ne_to_ring : to ≠ ring := lt_ne q2 Ex.lt
  have sz_ring := K0.at q2
  have g_ring := K0.ge sz_ring
  have Ex_3 := Ex.ext E2
  have Fl_4 := F1.ext E2
  have Fl_5 := F2.ext E2
  have K_6 := K0.ext E2
  show GoG _ _ _ _ _ (mkF m 8 #[.val (.ref to), .val (.int cc)] [(.ref ring), (.ref to)])
  obtain ⟨T7, h7, X7, e7, W7, st7⟩ := putF X2 hx hZ hown (host := "") (Or.inl (hw _ (List.mem_of_getElem? (i := 15) rfl))) Via.refl e2 Fl_5 Ex_3 (Or.inr ⟨(hw _ (List.mem_of_getElem? (i := 16) rfl)), rfl, hnm⟩) (hw _ (List.mem_of_getElem? (i := 7) rfl)) (ty := (.array .byte)) (by decide) rfl rfl (g := (mkF m 8 #[.val (.ref to), .val (.int cc)] [(.ref ring), (.ref to)])) rfl rfl (hb hby d2_8)
  refine Go.back (f' := (mkF m 11 #[.val (.ref to), .val (.int cc)] [])) st7 ?_
  have Ex_8 := Ex_3.wr W7
  have Fl_9 := Fl_4.other W7 (Or.inr (slot_ne (Or.inl (hw _ (List.mem_of_getElem? (i := 23) rfl))) (Or.inr (hw _ (List.mem_of_getElem? (i := 16) rfl))) (by decide) (t := .long) (t' := (.array .byte)) (by decide) (by decide)))
  have Fl_10 := Fl_5.same W7
  have Ar_11 := V2.other W7 (Ne.symm ne_to_ring)
  have K_12 := K_6.wr W7 (Or.inl (List.mem_of_getElem? (i := 0) rfl)) g_to
  exact Go.ret0 X7 hx hret hlk (hb hby d2_11) (by (try rw [e7]); exact ⟨rfl, K_12, ring, List.replicate i 0, sz_ring, List.length_replicate, Ex_8, Fl_9, Fl_10, Ar_11.to (by simp), rfl, (by simp; omega), (by simp; omega), fun k q => absurd q (by simp)⟩) (by decide) (by decide)
theorem ef_rmWr (m : MethodId) (x0 : Addr) (x1 : Addr) (x2 : Int32) (x3 : Int32) : entryFrame m #[(.ref x0), (.ref x1), (.int x2), (.int x3)] 8 = mkF m 0 #[.val (.ref x0), .val (.ref x1), .val (.int x2), .val (.int x3), .unset, .unset, .unset, .unset] [] := by first | (simp [entryFrame, mkF, argsToLocals, Value.category]; done) | rfl
set_option maxRecDepth 65536 in
set_option maxHeartbeats 40000000 in
theorem rmWr (l : Launch) (Z : State) (a0 : Array Value) (hw : ∀ d ∈ tables_1, d.before a0 Z = true) (to ring bf : Addr) (w64 : Int64) (of ln : Int32) (rs ss bs : List Int32) (o n n0 : Nat) (h0 : Heap) (Z0 : n0 ≤ h0.size) (R0 : OR Z h0 to ring w64 rs ss) (B : VArr Z h0 bf .byte (bs.map Value.int)) (ne_ring_bf : ring ≠ bf) (ho : of.toInt = o) (hn : ln.toInt = n) (hon : o + n ≤ bs.length) (hbl : bs.length ≤ 8) (hs : ss.length ≤ 1000) (g_to : n0 ≤ to) (g_ring : n0 ≤ ring) :
    Met l Z (⟨"com/example/chore_scheduler/chorescheduler/exec/OutputTail", "write", "([BII)V"⟩ : MethodName) prog_3_method_2_code 8 none ({ frames := 1, cells := 0, slots := 0, locals := 24 } : Room) #[(.ref to), (.ref bf), (.int of), (.int ln)] h0 (fun v h L => v = none ∧ Chg n0 h0 h [to, ring] L ∧ ∃ qs, qs.length = rs.length ∧ OR Z h to ring (w64 + ln.toInt64) qs (ss ++ (bs.drop o).take n)) := by
  refine Met.intro (plainFor_of_name (by first | (simp [plainName, overriddenIn]; done) | decide +kernel)) ?_
  intro p e s m below meth c T0 hx hby hml hown hnm hret hlk hZ X0 e0
  refine Go.cast (ef_rmWr m to bf of ln) ?_
  obtain ⟨Ex, F1, F2, A, hW, c1, c8, hR⟩ := R0
  have ne_to_ring : to ≠ ring := A.exa_ne Ex (hw _ (List.mem_of_getElem? (i := 7) rfl))
  have K0 : Chg n0 h0 h0 [to, ring] [] := Chg.refl Z0
  have hcl : rs.length < 2147483648 := by omega
  have ne_to_bf : to ≠ bf := B.exa_ne Ex (hw _ (List.mem_of_getElem? (i := 7) rfl))
  refine Go.back (f' := (mkF m 1 #[.val (.ref to), .val (.ref bf), .val (.int of), .val (.int ln), .unset, .unset, .unset, .unset] [(.ref to)])) (fun _ k => XS.aloadN X0.here hx rfl (hb hby d4_0) rfl rfl k) ?_
  obtain ⟨T13, X13, e13, st13⟩ := getF X0 hx hZ hown (host := "") (Or.inl (hw _ (List.mem_of_getElem? (i := 22) rfl))) Via.refl e0 F1 (g := (mkF m 1 #[.val (.ref to), .val (.ref bf), .val (.int of), .val (.int ln), .unset, .unset, .unset, .unset] [(.ref to)])) rfl rfl (hb hby d4_1)
  refine Go.back (f' := (mkF m 4 #[.val (.ref to), .val (.ref bf), .val (.int of), .val (.int ln), .unset, .unset, .unset, .unset] [(.long w64)])) st13 ?_
  refine Go.back (f' := (mkF m 5 #[.val (.ref to), .val (.ref bf), .val (.int of), .val (.int ln), .unset, .unset, .unset, .unset] [(.ref to), (.long w64)])) (fun _ k => XS.aloadN X13.here hx rfl (hb hby d4_4) rfl rfl k) ?_
  obtain ⟨T14, X14, e14, st14⟩ := getF X13 hx hZ hown (host := "") (Or.inl (hw _ (List.mem_of_getElem? (i := 15) rfl))) Via.refl e13 F2 (g := (mkF m 5 #[.val (.ref to), .val (.ref bf), .val (.int of), .val (.int ln), .unset, .unset, .unset, .unset] [(.ref to), (.long w64)])) rfl rfl (hb hby d4_5)
  refine Go.back (f' := (mkF m 8 #[.val (.ref to), .val (.ref bf), .val (.int of), .val (.int ln), .unset, .unset, .unset, .unset] [(.ref ring), (.long w64)])) st14 ?_
  refine Go.back (f' := (mkF m 9 #[.val (.ref to), .val (.ref bf), .val (.int of), .val (.int ln), .unset, .unset, .unset, .unset] [(.int ((rs.map Value.int)).length.toInt32), (.long w64)])) (A.lenS X14 hx hZ e14 (hb hby d4_8)) ?_
  rw [List.length_map]
  show GoG _ _ _ _ _ (mkF m 9 #[.val (.ref to), .val (.ref bf), .val (.int of), .val (.int ln), .unset, .unset, .unset, .unset] [(.int rs.length.toInt32), (.long w64)])
  refine Go.back (f' := (mkF m 10 #[.val (.ref to), .val (.ref bf), .val (.int of), .val (.int ln), .unset, .unset, .unset, .unset] [(.long (rs.length.toInt32.toInt64)), (.long w64)])) (fun _ k => XS.i2l X14.here hx rfl (hb hby d4_9) rfl k) ?_
  refine Go.back (f' := (mkF m 11 #[.val (.ref to), .val (.ref bf), .val (.int of), .val (.int ln), .unset, .unset, .unset, .unset] [(.long (w64 - (w64 / (rs.length.toInt32.toInt64)) * (rs.length.toInt32.toInt64)))])) (fun _ k => XS.lrem X14.here hx rfl (hb hby d4_10) rfl (nz64 hcl c1) k) ?_
  refine Go.back (f' := (mkF m 12 #[.val (.ref to), .val (.ref bf), .val (.int of), .val (.int ln), .unset, .unset, .unset, .unset] [(.int ((w64 - (w64 / (rs.length.toInt32.toInt64)) * (rs.length.toInt32.toInt64)).toInt32))])) (fun _ k => XS.l2i X14.here hx rfl (hb hby d4_11) rfl k) ?_
  have ha := nat_of (lrem_nat hW (l_of hcl)) (by have := Nat.mod_lt ss.length c1; omega)
  generalize ea : ((w64 - (w64 / (rs.length.toInt32.toInt64)) * (rs.length.toInt32.toInt64)).toInt32) = a32
  rw [ea] at ha
  refine Go.back (f' := (mkF m 14 #[.val (.ref to), .val (.ref bf), .val (.int of), .val (.int ln), .val (.int a32), .unset, .unset, .unset] [])) (fun _ k => XS.istore X14.here hx rfl (hb hby d4_12) rfl (l' := #[.val (.ref to), .val (.ref bf), .val (.int of), .val (.int ln), .val (.int a32), .unset, .unset, .unset]) rfl k) ?_
  refine Go.back (f' := (mkF m 15 #[.val (.ref to), .val (.ref bf), .val (.int of), .val (.int ln), .val (.int a32), .unset, .unset, .unset] [(.int ln)])) (fun _ k => XS.iloadN X14.here hx rfl (hb hby d4_14) rfl k) ?_
  refine Go.back (f' := (mkF m 17 #[.val (.ref to), .val (.ref bf), .val (.int of), .val (.int ln), .val (.int a32), .val (.int ln), .unset, .unset] [])) (fun _ k => XS.istore X14.here hx rfl (hb hby d4_15) rfl (l' := #[.val (.ref to), .val (.ref bf), .val (.int of), .val (.int ln), .val (.int a32), .val (.int ln), .unset, .unset]) rfl k) ?_
  refine Go.back (f' := (mkF m 18 #[.val (.ref to), .val (.ref bf), .val (.int of), .val (.int ln), .val (.int a32), .val (.int ln), .unset, .unset] [(.int of)])) (fun _ k => XS.iloadN X14.here hx rfl (hb hby d4_17) rfl k) ?_
  refine Go.back (f' := (mkF m 20 #[.val (.ref to), .val (.ref bf), .val (.int of), .val (.int ln), .val (.int a32), .val (.int ln), .val (.int of), .unset] [])) (fun _ k => XS.istore X14.here hx rfl (hb hby d4_18) rfl (l' := #[.val (.ref to), .val (.ref bf), .val (.int of), .val (.int ln), .val (.int a32), .val (.int ln), .val (.int of), .unset]) rfl k) ?_
  have lp : ∀ (u : Nat) (d : Nat) (T : State) (h : Heap) (locs : List Loc) (qs : List Int32) (a32 l32 f32 : Int32) (s7 : Slot), Stand p l e ({ frames := 1, cells := 0, slots := 0, locals := 24 } : Room) s m #[(.ref to), (.ref bf), (.int of), (.int ln)] below meth c T locs 0 0 → T.heap = h → Exa Z h to "com/example/chore_scheduler/chorescheduler/exec/OutputTail" → Fld Z h to "com/example/chore_scheduler/chorescheduler/exec/OutputTail" "written" "J" (.long w64) → Fld Z h to "com/example/chore_scheduler/chorescheduler/exec/OutputTail" "ring" "[B" (.ref ring) → VArr Z h ring .byte (qs.map Value.int) → VArr Z h bf .byte (bs.map Value.int) → Chg n0 h0 h [to, ring] locs → a32.toInt = (((ss.length + d) % qs.length : Nat) : Int) → l32.toInt = (u : Int) → f32.toInt = ((o + d : Nat) : Int) → d + u = n → qs.length = rs.length → RI qs (ss ++ (bs.drop o).take d) → (s7 = .unset ∨ ∃ q, s7 = .val (.int q)) → Go p e below s (fun v h L => v = none ∧ Chg n0 h0 h [to, ring] L ∧ ∃ qs, qs.length = rs.length ∧ OR Z h to ring (w64 + ln.toInt64) qs (ss ++ (bs.drop o).take n)) ({ frames := 1, cells := 0, slots := 0, locals := 24 } : Room).cells ({ frames := 1, cells := 0, slots := 0, locals := 24 } : Room).slots T (mkF m 20 #[.val (.ref to), .val (.ref bf), .val (.int of), .val (.int ln), .val (.int a32), .val (.int l32), .val (.int f32), s7] []) := by
    intro u
    induction u using Nat.strongRecOn with
    | ind u ih =>
      intro d T20 h20 locs20 qs a32 l32 f32 s7 X20 e20 Ex20 F120 F220 A20 B20 K20 ha hl hf hd hql hR hs7
      have hqc : qs.length < 2147483648 := by omega
      have hat := Nat.mod_lt (ss.length + d) (show 0 < qs.length by omega)
      generalize hp : (ss.length + d) % qs.length = p at *
      refine Go.back (f' := (mkF m 22 #[.val (.ref to), .val (.ref bf), .val (.int of), .val (.int ln), .val (.int a32), .val (.int l32), .val (.int f32), s7] [(.int l32)])) (fun _ k => XS.iload X20.here hx rfl (hb hby d4_20) rfl k) ?_
      by_cases h0 : 0 < l32
      · refine Go.back (f' := (mkF m 25 #[.val (.ref to), .val (.ref bf), .val (.int of), .val (.int ln), .val (.int a32), .val (.int l32), .val (.int f32), s7] [])) (fun _ k => XS.ifNo X20.here hx rfl (hb hby d4_22) rfl ((if0 _ _).trans (tlt h0).2.2.2) k) ?_
        have u0 := (pos_nat hl).mp h0
        refine Go.back (f' := (mkF m 27 #[.val (.ref to), .val (.ref bf), .val (.int of), .val (.int ln), .val (.int a32), .val (.int l32), .val (.int f32), s7] [(.int l32)])) (fun _ k => XS.iload X20.here hx rfl (hb hby d4_25) rfl k) ?_
        refine Go.back (f' := (mkF m 28 #[.val (.ref to), .val (.ref bf), .val (.int of), .val (.int ln), .val (.int a32), .val (.int l32), .val (.int f32), s7] [(.ref to), (.int l32)])) (fun _ k => XS.aloadN X20.here hx rfl (hb hby d4_27) rfl rfl k) ?_
        obtain ⟨T15, X15, e15, st15⟩ := getF X20 hx hZ hown (host := "") (Or.inl (hw _ (List.mem_of_getElem? (i := 15) rfl))) Via.refl e20 F220 (g := (mkF m 28 #[.val (.ref to), .val (.ref bf), .val (.int of), .val (.int ln), .val (.int a32), .val (.int l32), .val (.int f32), s7] [(.ref to), (.int l32)])) rfl rfl (hb hby d4_28)
        refine Go.back (f' := (mkF m 31 #[.val (.ref to), .val (.ref bf), .val (.int of), .val (.int ln), .val (.int a32), .val (.int l32), .val (.int f32), s7] [(.ref ring), (.int l32)])) st15 ?_
        refine Go.back (f' := (mkF m 32 #[.val (.ref to), .val (.ref bf), .val (.int of), .val (.int ln), .val (.int a32), .val (.int l32), .val (.int f32), s7] [(.int ((qs.map Value.int)).length.toInt32), (.int l32)])) (A20.lenS X15 hx hZ e15 (hb hby d4_31)) ?_
        rw [List.length_map]
        show GoG _ _ _ _ _ (mkF m 32 #[.val (.ref to), .val (.ref bf), .val (.int of), .val (.int ln), .val (.int a32), .val (.int l32), .val (.int f32), s7] [(.int qs.length.toInt32), (.int l32)])
        refine Go.back (f' := (mkF m 34 #[.val (.ref to), .val (.ref bf), .val (.int of), .val (.int ln), .val (.int a32), .val (.int l32), .val (.int f32), s7] [(.int a32), (.int qs.length.toInt32), (.int l32)])) (fun _ k => XS.iload X15.here hx rfl (hb hby d4_32) rfl k) ?_
        refine Go.back (f' := (mkF m 35 #[.val (.ref to), .val (.ref bf), .val (.int of), .val (.int ln), .val (.int a32), .val (.int l32), .val (.int f32), s7] [(.int (qs.length.toInt32 - a32)), (.int l32)])) (fun _ k => XS.isub X15.here hx rfl (hb hby d4_34) rfl k) ?_
        refine Go.callS X15 hx hZ hown (hw _ (List.mem_of_getElem? (i := 33) rfl)) (hw _ (List.mem_of_getElem? (i := 34) rfl)) (hw _ (List.mem_of_getElem? (i := 31) rfl)) (hw _ (List.mem_of_getElem? (i := 35) rfl)) (by decide) e15 (argsL := [(.int l32), (.int (qs.length.toInt32 - a32))]) (rest := []) (rmMin l Z a0 hw l32 (qs.length.toInt32 - a32) h20) (lenOf pd_0 rfl) rfl (by rw [hml]; rfl) (W := 0) (Nat.le_of_eq rfl) (hb hby d4_35) (by decide) (by decide) (by decide) (by decide) ?_
        intro v16 T16 L16 X16 hQ16
        obtain ⟨rfl, rfl, hh16⟩ := hQ16
        rw [List.append_nil] at X16
        have ht := min_nat hl (sub_nat (n32 hqc) ha (by omega))
        generalize (if (qs.length.toInt32 - a32) < l32 then (qs.length.toInt32 - a32) else l32) = t32 at ht ⊢
        obtain ⟨t, et⟩ : ∃ t, t = min u (qs.length - p) := ⟨_, rfl⟩
        rw [← et] at ht
        show GoG _ _ _ _ _ (mkF m 38 #[.val (.ref to), .val (.ref bf), .val (.int of), .val (.int ln), .val (.int a32), .val (.int l32), .val (.int f32), s7] [(.int t32)])
        refine Go.back (f' := (mkF m 40 #[.val (.ref to), .val (.ref bf), .val (.int of), .val (.int ln), .val (.int a32), .val (.int l32), .val (.int f32), .val (.int t32)] [])) (fun _ k => XS.istore X16.here hx rfl (hb hby d4_38) rfl (l' := #[.val (.ref to), .val (.ref bf), .val (.int of), .val (.int ln), .val (.int a32), .val (.int l32), .val (.int f32), .val (.int t32)]) (by rcases hs7 with rfl | ⟨_, rfl⟩ <;> rfl) k) ?_
        refine Go.back (f' := (mkF m 41 #[.val (.ref to), .val (.ref bf), .val (.int of), .val (.int ln), .val (.int a32), .val (.int l32), .val (.int f32), .val (.int t32)] [(.ref bf)])) (fun _ k => XS.aloadN X16.here hx rfl (hb hby d4_40) rfl rfl k) ?_
        refine Go.back (f' := (mkF m 43 #[.val (.ref to), .val (.ref bf), .val (.int of), .val (.int ln), .val (.int a32), .val (.int l32), .val (.int f32), .val (.int t32)] [(.int f32), (.ref bf)])) (fun _ k => XS.iload X16.here hx rfl (hb hby d4_41) rfl k) ?_
        refine Go.back (f' := (mkF m 44 #[.val (.ref to), .val (.ref bf), .val (.int of), .val (.int ln), .val (.int a32), .val (.int l32), .val (.int f32), .val (.int t32)] [(.ref to), (.int f32), (.ref bf)])) (fun _ k => XS.aloadN X16.here hx rfl (hb hby d4_43) rfl rfl k) ?_
        obtain ⟨T17, X17, e17, st17⟩ := getF X16 hx hZ hown (host := "") (Or.inl (hw _ (List.mem_of_getElem? (i := 15) rfl))) Via.refl hh16 F220 (g := (mkF m 44 #[.val (.ref to), .val (.ref bf), .val (.int of), .val (.int ln), .val (.int a32), .val (.int l32), .val (.int f32), .val (.int t32)] [(.ref to), (.int f32), (.ref bf)])) rfl rfl (hb hby d4_44)
        refine Go.back (f' := (mkF m 47 #[.val (.ref to), .val (.ref bf), .val (.int of), .val (.int ln), .val (.int a32), .val (.int l32), .val (.int f32), .val (.int t32)] [(.ref ring), (.int f32), (.ref bf)])) st17 ?_
        refine Go.back (f' := (mkF m 49 #[.val (.ref to), .val (.ref bf), .val (.int of), .val (.int ln), .val (.int a32), .val (.int l32), .val (.int f32), .val (.int t32)] [(.int a32), (.ref ring), (.int f32), (.ref bf)])) (fun _ k => XS.iload X17.here hx rfl (hb hby d4_47) rfl k) ?_
        refine Go.back (f' := (mkF m 51 #[.val (.ref to), .val (.ref bf), .val (.int of), .val (.int ln), .val (.int a32), .val (.int l32), .val (.int f32), .val (.int t32)] [(.int t32), (.int a32), (.ref ring), (.int f32), (.ref bf)])) (fun _ k => XS.iload X17.here hx rfl (hb hby d4_49) rfl k) ?_
        refine Go.cpy X17 hx hZ hown (hw _ (List.mem_of_getElem? (i := 36) rfl)) (hw _ (List.mem_of_getElem? (i := 39) rfl)) (hw _ (List.mem_of_getElem? (i := 37) rfl)) (hw _ (List.mem_of_getElem? (i := 38) rfl)) e17 B20 A20 rfl (i := (o + d)) hf (j' := p) ha (n := t) ht (by rw [List.length_map]; omega) (by rw [List.length_map]; omega) K20.fr g_ring (by rw [hml]; rfl) (hb hby d4_51) (by decide) (W := 0) (Nat.le_of_eq rfl) (by decide) ?_
        intro T18 h18 L18 X18 e18 N18 Kc18 V18
        have Ex_19 := Ex20.keep Kc18
        have Fl_20 := F120.keep Kc18 (ninS ne_to_ring nin0)
        have Fl_21 := F220.keep Kc18 (ninS ne_to_ring nin0)
        have Ar_22 := B20.keep Kc18 (ninS (Ne.symm ne_ring_bf) nin0)
        have K_23 := K20.cpy Kc18 N18 (Or.inl (List.mem_of_getElem? (i := 1) rfl))
        show GoG _ _ _ _ _ (mkF m 54 #[.val (.ref to), .val (.ref bf), .val (.int of), .val (.int ln), .val (.int a32), .val (.int l32), .val (.int f32), .val (.int t32)] [])
        refine Go.back (f' := (mkF m 56 #[.val (.ref to), .val (.ref bf), .val (.int of), .val (.int ln), .val (.int a32), .val (.int l32), .val (.int f32), .val (.int t32)] [(.int f32)])) (fun _ k => XS.iload X18.here hx rfl (hb hby d4_54) rfl k) ?_
        refine Go.back (f' := (mkF m 58 #[.val (.ref to), .val (.ref bf), .val (.int of), .val (.int ln), .val (.int a32), .val (.int l32), .val (.int f32), .val (.int t32)] [(.int t32), (.int f32)])) (fun _ k => XS.iload X18.here hx rfl (hb hby d4_56) rfl k) ?_
        refine Go.back (f' := (mkF m 59 #[.val (.ref to), .val (.ref bf), .val (.int of), .val (.int ln), .val (.int a32), .val (.int l32), .val (.int f32), .val (.int t32)] [(.int (f32 + t32))])) (fun _ k => XS.iadd X18.here hx rfl (hb hby d4_58) rfl k) ?_
        refine Go.back (f' := (mkF m 61 #[.val (.ref to), .val (.ref bf), .val (.int of), .val (.int ln), .val (.int a32), .val (.int l32), .val (.int (f32 + t32)), .val (.int t32)] [])) (fun _ k => XS.istore X18.here hx rfl (hb hby d4_59) rfl (l' := #[.val (.ref to), .val (.ref bf), .val (.int of), .val (.int ln), .val (.int a32), .val (.int l32), .val (.int (f32 + t32)), .val (.int t32)]) rfl k) ?_
        refine Go.back (f' := (mkF m 63 #[.val (.ref to), .val (.ref bf), .val (.int of), .val (.int ln), .val (.int a32), .val (.int l32), .val (.int (f32 + t32)), .val (.int t32)] [(.int l32)])) (fun _ k => XS.iload X18.here hx rfl (hb hby d4_61) rfl k) ?_
        refine Go.back (f' := (mkF m 65 #[.val (.ref to), .val (.ref bf), .val (.int of), .val (.int ln), .val (.int a32), .val (.int l32), .val (.int (f32 + t32)), .val (.int t32)] [(.int t32), (.int l32)])) (fun _ k => XS.iload X18.here hx rfl (hb hby d4_63) rfl k) ?_
        refine Go.back (f' := (mkF m 66 #[.val (.ref to), .val (.ref bf), .val (.int of), .val (.int ln), .val (.int a32), .val (.int l32), .val (.int (f32 + t32)), .val (.int t32)] [(.int (l32 - t32))])) (fun _ k => XS.isub X18.here hx rfl (hb hby d4_65) rfl k) ?_
        refine Go.back (f' := (mkF m 68 #[.val (.ref to), .val (.ref bf), .val (.int of), .val (.int ln), .val (.int a32), .val (.int (l32 - t32)), .val (.int (f32 + t32)), .val (.int t32)] [])) (fun _ k => XS.istore X18.here hx rfl (hb hby d4_66) rfl (l' := #[.val (.ref to), .val (.ref bf), .val (.int of), .val (.int ln), .val (.int a32), .val (.int (l32 - t32)), .val (.int (f32 + t32)), .val (.int t32)]) rfl k) ?_
        refine Go.back (f' := (mkF m 70 #[.val (.ref to), .val (.ref bf), .val (.int of), .val (.int ln), .val (.int a32), .val (.int (l32 - t32)), .val (.int (f32 + t32)), .val (.int t32)] [(.int a32)])) (fun _ k => XS.iload X18.here hx rfl (hb hby d4_68) rfl k) ?_
        refine Go.back (f' := (mkF m 72 #[.val (.ref to), .val (.ref bf), .val (.int of), .val (.int ln), .val (.int a32), .val (.int (l32 - t32)), .val (.int (f32 + t32)), .val (.int t32)] [(.int t32), (.int a32)])) (fun _ k => XS.iload X18.here hx rfl (hb hby d4_70) rfl k) ?_
        refine Go.back (f' := (mkF m 73 #[.val (.ref to), .val (.ref bf), .val (.int of), .val (.int ln), .val (.int a32), .val (.int (l32 - t32)), .val (.int (f32 + t32)), .val (.int t32)] [(.int (a32 + t32))])) (fun _ k => XS.iadd X18.here hx rfl (hb hby d4_72) rfl k) ?_
        refine Go.back (f' := (mkF m 74 #[.val (.ref to), .val (.ref bf), .val (.int of), .val (.int ln), .val (.int a32), .val (.int (l32 - t32)), .val (.int (f32 + t32)), .val (.int t32)] [(.ref to), (.int (a32 + t32))])) (fun _ k => XS.aloadN X18.here hx rfl (hb hby d4_73) rfl rfl k) ?_
        obtain ⟨T24, X24, e24, st24⟩ := getF X18 hx hZ hown (host := "") (Or.inl (hw _ (List.mem_of_getElem? (i := 15) rfl))) Via.refl e18 Fl_21 (g := (mkF m 74 #[.val (.ref to), .val (.ref bf), .val (.int of), .val (.int ln), .val (.int a32), .val (.int (l32 - t32)), .val (.int (f32 + t32)), .val (.int t32)] [(.ref to), (.int (a32 + t32))])) rfl rfl (hb hby d4_74)
        refine Go.back (f' := (mkF m 77 #[.val (.ref to), .val (.ref bf), .val (.int of), .val (.int ln), .val (.int a32), .val (.int (l32 - t32)), .val (.int (f32 + t32)), .val (.int t32)] [(.ref ring), (.int (a32 + t32))])) st24 ?_
        have lch : ((bs.drop (o + d)).take t).length = t := by simp; omega
        have Vn : VArr Z h18 ring .byte ((qs.take p ++ (bs.drop (o + d)).take t ++ qs.drop (p + ((bs.drop (o + d)).take t).length)).map Value.int) := V18.to (by rw [lch]; simp [List.map_take, List.map_drop])
        obtain ⟨ns, ens⟩ : ∃ ns, ns = qs.take p ++ (bs.drop (o + d)).take t ++ qs.drop (p + ((bs.drop (o + d)).take t).length) := ⟨_, rfl⟩
        have lns : ns.length = qs.length := by rw [ens]; simp; omega
        rw [← ens] at Vn
        refine Go.back (f' := (mkF m 78 #[.val (.ref to), .val (.ref bf), .val (.int of), .val (.int ln), .val (.int a32), .val (.int (l32 - t32)), .val (.int (f32 + t32)), .val (.int t32)] [(.int ((ns.map Value.int)).length.toInt32), (.int (a32 + t32))])) (Vn.lenS X24 hx hZ e24 (hb hby d4_77)) ?_
        rw [List.length_map, lns]
        show GoG _ _ _ _ _ (mkF m 78 #[.val (.ref to), .val (.ref bf), .val (.int of), .val (.int ln), .val (.int a32), .val (.int (l32 - t32)), .val (.int (f32 + t32)), .val (.int t32)] [(.int qs.length.toInt32), (.int (a32 + t32))])
        refine Go.back (f' := (mkF m 79 #[.val (.ref to), .val (.ref bf), .val (.int of), .val (.int ln), .val (.int a32), .val (.int (l32 - t32)), .val (.int (f32 + t32)), .val (.int t32)] [(.int ((a32 + t32) % qs.length.toInt32))])) (fun _ k => iremM X24 hx rfl (hb hby d4_78) rfl (nz32 hqc (by omega)) k) ?_
        refine Go.back (f' := (mkF m 81 #[.val (.ref to), .val (.ref bf), .val (.int of), .val (.int ln), .val (.int ((a32 + t32) % qs.length.toInt32)), .val (.int (l32 - t32)), .val (.int (f32 + t32)), .val (.int t32)] [])) (fun _ k => XS.istore X24.here hx rfl (hb hby d4_79) rfl (l' := #[.val (.ref to), .val (.ref bf), .val (.int of), .val (.int ln), .val (.int ((a32 + t32) % qs.length.toInt32)), .val (.int (l32 - t32)), .val (.int (f32 + t32)), .val (.int t32)]) rfl k) ?_
        refine Go.back (f' := (mkF m 20 #[.val (.ref to), .val (.ref bf), .val (.int of), .val (.int ln), .val (.int ((a32 + t32) % qs.length.toInt32)), .val (.int (l32 - t32)), .val (.int (f32 + t32)), .val (.int t32)] [])) (fun _ k => XS.goto X24.here hx rfl (pc0 := 81) (pc' := 20) rfl (hb hby d4_81) (by decide) (by decide) k) ?_
        exact ih (u - t) (by omega) (d + t) T24 _ _ ns ((a32 + t32) % qs.length.toInt32) (l32 - t32) (f32 + t32) _ X24 e24 Ex_19 Fl_20 Fl_21 Vn Ar_22 K_23 (by rw [lns, irem_nat (add_nat ha ht (by omega)) (n32 hqc), ← hp, Nat.mod_add_mod, Nat.add_assoc]) (sub_nat hl ht (by omega)) (by rw [add_nat hf ht (by omega), Nat.add_assoc]) (by omega) (by omega) (by rw [ens]; have q := hR.step (ch := (bs.drop (o + d)).take t) (by omega) (p := p) (by rw [← hp]; simp; congr 1; omega) (by rw [lch]; omega); rw [List.take_add, List.drop_drop]; simpa only [List.append_assoc] using q) (Or.inr ⟨_, rfl⟩)
      · refine Go.back (f' := (mkF m 84 #[.val (.ref to), .val (.ref bf), .val (.int of), .val (.int ln), .val (.int a32), .val (.int l32), .val (.int f32), s7] [])) (fun _ k => XS.ifYes X20.here hx rfl (pc0 := 22) (pc' := 84) rfl (hb hby d4_22) rfl ((if0 _ _).trans (flt h0).2.2.2) (by decide) (by decide) k) ?_
        have u0 : u = 0 := by have := mt (pos_nat hl).mpr h0; omega
        refine Go.back (f' := (mkF m 85 #[.val (.ref to), .val (.ref bf), .val (.int of), .val (.int ln), .val (.int a32), .val (.int l32), .val (.int f32), s7] [(.ref to)])) (fun _ k => XS.aloadN X20.here hx rfl (hb hby d4_84) rfl rfl k) ?_
        refine Go.back (f' := (mkF m 86 #[.val (.ref to), .val (.ref bf), .val (.int of), .val (.int ln), .val (.int a32), .val (.int l32), .val (.int f32), s7] [(.ref to), (.ref to)])) (fun _ k => XS.dup X20.here hx rfl (hb hby d4_85) rfl rfl k) ?_
        obtain ⟨T25, X25, e25, st25⟩ := getF X20 hx hZ hown (host := "") (Or.inl (hw _ (List.mem_of_getElem? (i := 22) rfl))) Via.refl e20 F120 (g := (mkF m 86 #[.val (.ref to), .val (.ref bf), .val (.int of), .val (.int ln), .val (.int a32), .val (.int l32), .val (.int f32), s7] [(.ref to), (.ref to)])) rfl rfl (hb hby d4_86)
        refine Go.back (f' := (mkF m 89 #[.val (.ref to), .val (.ref bf), .val (.int of), .val (.int ln), .val (.int a32), .val (.int l32), .val (.int f32), s7] [(.long w64), (.ref to)])) st25 ?_
        refine Go.back (f' := (mkF m 90 #[.val (.ref to), .val (.ref bf), .val (.int of), .val (.int ln), .val (.int a32), .val (.int l32), .val (.int f32), s7] [(.int ln), (.long w64), (.ref to)])) (fun _ k => XS.iloadN X25.here hx rfl (hb hby d4_89) rfl k) ?_
        refine Go.back (f' := (mkF m 91 #[.val (.ref to), .val (.ref bf), .val (.int of), .val (.int ln), .val (.int a32), .val (.int l32), .val (.int f32), s7] [(.long (ln.toInt64)), (.long w64), (.ref to)])) (fun _ k => XS.i2l X25.here hx rfl (hb hby d4_90) rfl k) ?_
        refine Go.back (f' := (mkF m 92 #[.val (.ref to), .val (.ref bf), .val (.int of), .val (.int ln), .val (.int a32), .val (.int l32), .val (.int f32), s7] [(.long (w64 + (ln.toInt64))), (.ref to)])) (fun _ k => XS.ladd X25.here hx rfl (hb hby d4_91) rfl k) ?_
        obtain ⟨T26, h26, X26, e26, W26, st26⟩ := putF X25 hx hZ hown (host := "") (Or.inl (hw _ (List.mem_of_getElem? (i := 22) rfl))) Via.refl e25 F120 Ex20 (Or.inl (hw _ (List.mem_of_getElem? (i := 23) rfl))) (hw _ (List.mem_of_getElem? (i := 7) rfl)) (ty := .long) (by decide) rfl rfl (g := (mkF m 92 #[.val (.ref to), .val (.ref bf), .val (.int of), .val (.int ln), .val (.int a32), .val (.int l32), .val (.int f32), s7] [(.long (w64 + (ln.toInt64))), (.ref to)])) rfl rfl (hb hby d4_92)
        refine Go.back (f' := (mkF m 95 #[.val (.ref to), .val (.ref bf), .val (.int of), .val (.int ln), .val (.int a32), .val (.int l32), .val (.int f32), s7] [])) st26 ?_
        have Ex_27 := Ex20.wr W26
        have Fl_28 := F120.same W26
        have Fl_29 := F220.other W26 (Or.inr (slot_ne (Or.inr (hw _ (List.mem_of_getElem? (i := 16) rfl))) (Or.inl (hw _ (List.mem_of_getElem? (i := 23) rfl))) (by decide) (t := (.array .byte)) (t' := .long) (by decide) (by decide)))
        have Ar_30 := A20.other W26 (Ne.symm ne_to_ring)
        have Ar_31 := B20.other W26 (Ne.symm ne_to_bf)
        have K_32 := K20.wr W26 (Or.inl (List.mem_of_getElem? (i := 0) rfl)) g_to
        exact Go.ret0 X26 hx hret hlk (hb hby d4_95) (by (try rw [e26]); exact ⟨rfl, K_32, qs, hql, Ex_27, Fl_28, Fl_29, Ar_30, (by rw [ladd_nat hW (by rw [c_i2l]; exact hn) (by omega)]; simp; omega), (by omega), (by omega), (by have : d = n := (by omega); rw [← this]; exact hR)⟩) (Nat.zero_le _) (Nat.zero_le _)
  exact lp n 0 T14 _ _ rs a32 ln of _ X14 e14 Ex F1 F2 A B K0 ha hn ho (by omega) rfl (by simpa using hR) (Or.inl rfl)

theorem own_out (rs : List Int32) (st fi z : Nat) (h1 : st + fi ≤ rs.length) (h2 : fi ≤ z) (h3 : z - fi ≤ rs.length := by omega) : ((((List.replicate z (Value.int 0)).take 0 ++ ((rs.map Value.int).drop st).take fi ++ (List.replicate z (Value.int 0)).drop (0 + fi)).take fi ++ ((rs.map Value.int).drop 0).take (z - fi) ++ ((List.replicate z (Value.int 0)).take 0 ++ ((rs.map Value.int).drop st).take fi ++ (List.replicate z (Value.int 0)).drop (0 + fi)).drop (fi + (z - fi)))) = ((rs.drop st).take fi ++ rs.take (z - fi)).map Value.int := by
  have l1 : (((rs.map Value.int).drop st).take fi).length = fi := by simp; omega
  rw [List.take_zero, List.nil_append, Nat.zero_add, List.drop_zero]
  have l2 : ((List.replicate z (Value.int 0)).drop fi).length = z - fi := by simp
  rw [List.map_append, List.map_take, List.map_drop, List.map_take]
  generalize ((rs.map Value.int).drop st).take fi = A at l1 ⊢
  generalize (List.replicate z (Value.int 0)).drop fi = R at l2 ⊢
  rw [List.take_left' l1, (List.drop_eq_nil_of_le (by rw [List.length_append, l1, l2]; omega) : (A ++ R).drop (fi + (z - fi)) = []), List.append_nil]

theorem ef_rmTb (m : MethodId) (x0 : Addr) : entryFrame m #[(.ref x0)] 5 = mkF m 0 #[.val (.ref x0), .unset, .unset, .unset, .unset] [] := by first | (simp [entryFrame, mkF, argsToLocals, Value.category]; done) | rfl
set_option maxRecDepth 65536 in
set_option maxHeartbeats 40000000 in
theorem rmTb (l : Launch) (Z : State) (a0 : Array Value) (hw : ∀ d ∈ tables_1, d.before a0 Z = true) (to ring : Addr) (w64 : Int64) (rs ss : List Int32) (n0 : Nat) (h0 : Heap) (Z0 : n0 ≤ h0.size) (R0 : OR Z h0 to ring w64 rs ss) (hs : ss.length ≤ 1000) :
    Met l Z (⟨"com/example/chore_scheduler/chorescheduler/exec/OutputTail", "toByteArray", "()[B"⟩ : MethodName) prog_3_method_3_code 5 (some (.array .byte)) ({ frames := 1, cells := 1, slots := 8, locals := 24 } : Room) #[(.ref to)] h0 (fun v h L => ∃ ob, v = some (.ref ob) ∧ Chg n0 h0 h [] L ∧ h0.size ≤ ob ∧ VArr Z h ob .byte ((ss.drop (ss.length - min ss.length rs.length)).map Value.int)) := by
  refine Met.intro (plainFor_of_name (by first | (simp [plainName, overriddenIn]; done) | decide +kernel)) ?_
  intro p e s m below meth c T0 hx hby hml hown hnm hret hlk hZ X0 e0
  refine Go.cast (ef_rmTb m to) ?_
  obtain ⟨Ex, F1, F2, A, hW, c1, c8, hR⟩ := R0
  have ne_to_ring : to ≠ ring := A.exa_ne Ex (hw _ (List.mem_of_getElem? (i := 7) rfl))
  have K0 : Chg n0 h0 h0 [] [] := Chg.refl Z0
  have hcl : rs.length < 2147483648 := by omega
  refine Go.back (f' := (mkF m 1 #[.val (.ref to), .unset, .unset, .unset, .unset] [(.ref to)])) (fun _ k => XS.aloadN X0.here hx rfl (hb hby d5_0) rfl rfl k) ?_
  obtain ⟨T33, X33, e33, st33⟩ := getF X0 hx hZ hown (host := "") (Or.inl (hw _ (List.mem_of_getElem? (i := 22) rfl))) Via.refl e0 F1 (g := (mkF m 1 #[.val (.ref to), .unset, .unset, .unset, .unset] [(.ref to)])) rfl rfl (hb hby d5_1)
  refine Go.back (f' := (mkF m 4 #[.val (.ref to), .unset, .unset, .unset, .unset] [(.long w64)])) st33 ?_
  refine Go.back (f' := (mkF m 5 #[.val (.ref to), .unset, .unset, .unset, .unset] [(.ref to), (.long w64)])) (fun _ k => XS.aloadN X33.here hx rfl (hb hby d5_4) rfl rfl k) ?_
  obtain ⟨T34, X34, e34, st34⟩ := getF X33 hx hZ hown (host := "") (Or.inl (hw _ (List.mem_of_getElem? (i := 15) rfl))) Via.refl e33 F2 (g := (mkF m 5 #[.val (.ref to), .unset, .unset, .unset, .unset] [(.ref to), (.long w64)])) rfl rfl (hb hby d5_5)
  refine Go.back (f' := (mkF m 8 #[.val (.ref to), .unset, .unset, .unset, .unset] [(.ref ring), (.long w64)])) st34 ?_
  refine Go.back (f' := (mkF m 9 #[.val (.ref to), .unset, .unset, .unset, .unset] [(.int ((rs.map Value.int)).length.toInt32), (.long w64)])) (A.lenS X34 hx hZ e34 (hb hby d5_8)) ?_
  rw [List.length_map]
  show GoG _ _ _ _ _ (mkF m 9 #[.val (.ref to), .unset, .unset, .unset, .unset] [(.int rs.length.toInt32), (.long w64)])
  refine Go.back (f' := (mkF m 10 #[.val (.ref to), .unset, .unset, .unset, .unset] [(.long (rs.length.toInt32.toInt64)), (.long w64)])) (fun _ k => XS.i2l X34.here hx rfl (hb hby d5_9) rfl k) ?_
  refine Go.callS X34 hx hZ hown (hw _ (List.mem_of_getElem? (i := 29) rfl)) (hw _ (List.mem_of_getElem? (i := 30) rfl)) (hw _ (List.mem_of_getElem? (i := 31) rfl)) (hw _ (List.mem_of_getElem? (i := 32) rfl)) (by decide) e34 (argsL := [(.long w64), (.long (rs.length.toInt32.toInt64))]) (rest := []) (rmMinJ l Z a0 hw w64 (rs.length.toInt32.toInt64) h0) (lenOf pd_1 rfl) rfl (by rw [hml]; rfl) (W := 0) (Nat.le_of_eq rfl) (hb hby d5_10) (by decide) (by decide) (by decide) (by decide) ?_
  intro v35 T35 L35 X35 hQ35
  obtain ⟨rfl, rfl, hh35⟩ := hQ35
  rw [List.append_nil] at X35
  have hz := nat_of (minJ_nat hW (l_of hcl)) (by omega)
  show GoG _ _ _ _ _ (mkF m 13 #[.val (.ref to), .unset, .unset, .unset, .unset] [(.long (if (rs.length.toInt32.toInt64) < w64 then (rs.length.toInt32.toInt64) else w64))])
  refine Go.back (f' := (mkF m 14 #[.val (.ref to), .unset, .unset, .unset, .unset] [(.int ((if (rs.length.toInt32.toInt64) < w64 then (rs.length.toInt32.toInt64) else w64).toInt32))])) (fun _ k => XS.l2i X35.here hx rfl (hb hby d5_13) rfl k) ?_
  generalize ez : ((if (rs.length.toInt32.toInt64) < w64 then (rs.length.toInt32.toInt64) else w64).toInt32) = z32
  rw [ez] at hz
  obtain ⟨z, ezz⟩ : ∃ z, z = min ss.length rs.length := ⟨_, rfl⟩
  rw [← ezz] at hz
  refine Go.back (f' := (mkF m 15 #[.val (.ref to), .val (.int z32), .unset, .unset, .unset] [])) (fun _ k => XS.istoreN X35.here hx rfl (hb hby d5_14) rfl (l' := #[.val (.ref to), .val (.int z32), .unset, .unset, .unset]) rfl k) ?_
  refine Go.back (f' := (mkF m 16 #[.val (.ref to), .val (.int z32), .unset, .unset, .unset] [(.ref to)])) (fun _ k => XS.aloadN X35.here hx rfl (hb hby d5_15) rfl rfl k) ?_
  obtain ⟨T36, X36, e36, st36⟩ := getF X35 hx hZ hown (host := "") (Or.inl (hw _ (List.mem_of_getElem? (i := 22) rfl))) Via.refl hh35 F1 (g := (mkF m 16 #[.val (.ref to), .val (.int z32), .unset, .unset, .unset] [(.ref to)])) rfl rfl (hb hby d5_16)
  refine Go.back (f' := (mkF m 19 #[.val (.ref to), .val (.int z32), .unset, .unset, .unset] [(.long w64)])) st36 ?_
  refine Go.back (f' := (mkF m 20 #[.val (.ref to), .val (.int z32), .unset, .unset, .unset] [(.int z32), (.long w64)])) (fun _ k => XS.iloadN X36.here hx rfl (hb hby d5_19) rfl k) ?_
  refine Go.back (f' := (mkF m 21 #[.val (.ref to), .val (.int z32), .unset, .unset, .unset] [(.long (z32.toInt64)), (.long w64)])) (fun _ k => XS.i2l X36.here hx rfl (hb hby d5_20) rfl k) ?_
  refine Go.back (f' := (mkF m 22 #[.val (.ref to), .val (.int z32), .unset, .unset, .unset] [(.long (w64 - (z32.toInt64)))])) (fun _ k => XS.lsub X36.here hx rfl (hb hby d5_21) rfl k) ?_
  refine Go.back (f' := (mkF m 23 #[.val (.ref to), .val (.int z32), .unset, .unset, .unset] [(.ref to), (.long (w64 - (z32.toInt64)))])) (fun _ k => XS.aloadN X36.here hx rfl (hb hby d5_22) rfl rfl k) ?_
  obtain ⟨T37, X37, e37, st37⟩ := getF X36 hx hZ hown (host := "") (Or.inl (hw _ (List.mem_of_getElem? (i := 15) rfl))) Via.refl e36 F2 (g := (mkF m 23 #[.val (.ref to), .val (.int z32), .unset, .unset, .unset] [(.ref to), (.long (w64 - (z32.toInt64)))])) rfl rfl (hb hby d5_23)
  refine Go.back (f' := (mkF m 26 #[.val (.ref to), .val (.int z32), .unset, .unset, .unset] [(.ref ring), (.long (w64 - (z32.toInt64)))])) st37 ?_
  refine Go.back (f' := (mkF m 27 #[.val (.ref to), .val (.int z32), .unset, .unset, .unset] [(.int ((rs.map Value.int)).length.toInt32), (.long (w64 - (z32.toInt64)))])) (A.lenS X37 hx hZ e37 (hb hby d5_26)) ?_
  rw [List.length_map]
  show GoG _ _ _ _ _ (mkF m 27 #[.val (.ref to), .val (.int z32), .unset, .unset, .unset] [(.int rs.length.toInt32), (.long (w64 - (z32.toInt64)))])
  refine Go.back (f' := (mkF m 28 #[.val (.ref to), .val (.int z32), .unset, .unset, .unset] [(.long (rs.length.toInt32.toInt64)), (.long (w64 - (z32.toInt64)))])) (fun _ k => XS.i2l X37.here hx rfl (hb hby d5_27) rfl k) ?_
  refine Go.back (f' := (mkF m 29 #[.val (.ref to), .val (.int z32), .unset, .unset, .unset] [(.long ((w64 - (z32.toInt64)) - ((w64 - (z32.toInt64)) / (rs.length.toInt32.toInt64)) * (rs.length.toInt32.toInt64)))])) (fun _ k => XS.lrem X37.here hx rfl (hb hby d5_28) rfl (nz64 hcl c1) k) ?_
  refine Go.back (f' := (mkF m 30 #[.val (.ref to), .val (.int z32), .unset, .unset, .unset] [(.int (((w64 - (z32.toInt64)) - ((w64 - (z32.toInt64)) / (rs.length.toInt32.toInt64)) * (rs.length.toInt32.toInt64)).toInt32))])) (fun _ k => XS.l2i X37.here hx rfl (hb hby d5_29) rfl k) ?_
  have hst := nat_of (lrem_nat (lsub_nat hW (show z32.toInt64.toInt = (z : Int) by rw [c_i2l]; exact hz) (by omega)) (l_of hcl)) (by have := Nat.mod_lt (ss.length - z) c1; omega)
  generalize et : (((w64 - (z32.toInt64)) - ((w64 - (z32.toInt64)) / (rs.length.toInt32.toInt64)) * (rs.length.toInt32.toInt64)).toInt32) = t32
  rw [et] at hst
  obtain ⟨st, est⟩ : ∃ st, st = (ss.length - z) % rs.length := ⟨_, rfl⟩
  have hsl : st < rs.length := by rw [est]; exact Nat.mod_lt _ c1
  rw [← est] at hst
  refine Go.back (f' := (mkF m 31 #[.val (.ref to), .val (.int z32), .val (.int t32), .unset, .unset] [])) (fun _ k => XS.istoreN X37.here hx rfl (hb hby d5_30) rfl (l' := #[.val (.ref to), .val (.int z32), .val (.int t32), .unset, .unset]) rfl k) ?_
  refine Go.back (f' := (mkF m 32 #[.val (.ref to), .val (.int z32), .val (.int t32), .unset, .unset] [(.int z32)])) (fun _ k => XS.iloadN X37.here hx rfl (hb hby d5_31) rfl k) ?_
  refine Go.newA X37 hx hZ (hw _ (List.mem_of_getElem? (i := 4) rfl)) e37 (hb hby d5_32) (i := z) hz (cap := 8) (by omega) (by decide) (by decide) (by decide) ?_
  intro T38 h38 ob q38 X38 e38 E38 V38
  have V38 : VArr Z h38 ob .byte (List.replicate z (.int 0)) := V38
  have ne_ring_ob : ring ≠ ob := lt_ne q38 A.lt
  have ne_to_ob : to ≠ ob := lt_ne q38 Ex.lt
  have sz_ob := K0.at q38
  have g_ob := K0.ge sz_ob
  have Ex_39 := Ex.ext E38
  have Fl_40 := F1.ext E38
  have Fl_41 := F2.ext E38
  have Ar_42 := A.ext E38
  have K_43 := K0.ext E38
  show GoG _ _ _ _ _ (mkF m 34 #[.val (.ref to), .val (.int z32), .val (.int t32), .unset, .unset] [(.ref ob)])
  refine Go.back (f' := (mkF m 35 #[.val (.ref to), .val (.int z32), .val (.int t32), .val (.ref ob), .unset] [])) (fun _ k => XS.astoreN X38.here hx rfl (hb hby d5_34) rfl rfl (l' := #[.val (.ref to), .val (.int z32), .val (.int t32), .val (.ref ob), .unset]) rfl k) ?_
  refine Go.back (f' := (mkF m 36 #[.val (.ref to), .val (.int z32), .val (.int t32), .val (.ref ob), .unset] [(.int z32)])) (fun _ k => XS.iloadN X38.here hx rfl (hb hby d5_35) rfl k) ?_
  refine Go.back (f' := (mkF m 37 #[.val (.ref to), .val (.int z32), .val (.int t32), .val (.ref ob), .unset] [(.ref to), (.int z32)])) (fun _ k => XS.aloadN X38.here hx rfl (hb hby d5_36) rfl rfl k) ?_
  obtain ⟨T44, X44, e44, st44⟩ := getF X38 hx hZ hown (host := "") (Or.inl (hw _ (List.mem_of_getElem? (i := 15) rfl))) Via.refl e38 Fl_41 (g := (mkF m 37 #[.val (.ref to), .val (.int z32), .val (.int t32), .val (.ref ob), .unset] [(.ref to), (.int z32)])) rfl rfl (hb hby d5_37)
  refine Go.back (f' := (mkF m 40 #[.val (.ref to), .val (.int z32), .val (.int t32), .val (.ref ob), .unset] [(.ref ring), (.int z32)])) st44 ?_
  refine Go.back (f' := (mkF m 41 #[.val (.ref to), .val (.int z32), .val (.int t32), .val (.ref ob), .unset] [(.int ((rs.map Value.int)).length.toInt32), (.int z32)])) (Ar_42.lenS X44 hx hZ e44 (hb hby d5_40)) ?_
  rw [List.length_map]
  show GoG _ _ _ _ _ (mkF m 41 #[.val (.ref to), .val (.int z32), .val (.int t32), .val (.ref ob), .unset] [(.int rs.length.toInt32), (.int z32)])
  refine Go.back (f' := (mkF m 42 #[.val (.ref to), .val (.int z32), .val (.int t32), .val (.ref ob), .unset] [(.int t32), (.int rs.length.toInt32), (.int z32)])) (fun _ k => XS.iloadN X44.here hx rfl (hb hby d5_41) rfl k) ?_
  refine Go.back (f' := (mkF m 43 #[.val (.ref to), .val (.int z32), .val (.int t32), .val (.ref ob), .unset] [(.int (rs.length.toInt32 - t32)), (.int z32)])) (fun _ k => XS.isub X44.here hx rfl (hb hby d5_42) rfl k) ?_
  refine Go.callS X44 hx hZ hown (hw _ (List.mem_of_getElem? (i := 33) rfl)) (hw _ (List.mem_of_getElem? (i := 34) rfl)) (hw _ (List.mem_of_getElem? (i := 31) rfl)) (hw _ (List.mem_of_getElem? (i := 35) rfl)) (by decide) e44 (argsL := [(.int z32), (.int (rs.length.toInt32 - t32))]) (rest := []) (rmMin l Z a0 hw z32 (rs.length.toInt32 - t32) h38) (lenOf pd_0 rfl) rfl (by rw [hml]; rfl) (W := 0) (Nat.le_of_eq rfl) (hb hby d5_43) (by decide) (by decide) (by decide) (by decide) ?_
  intro v45 T45 L45 X45 hQ45
  obtain ⟨rfl, rfl, hh45⟩ := hQ45
  rw [List.append_nil] at X45
  have hfi := min_nat hz (sub_nat (n32 hcl) hst (by omega))
  generalize (if (rs.length.toInt32 - t32) < z32 then (rs.length.toInt32 - t32) else z32) = f32 at hfi ⊢
  obtain ⟨fi, efi⟩ : ∃ fi, fi = min z (rs.length - st) := ⟨_, rfl⟩
  rw [← efi] at hfi
  show GoG _ _ _ _ _ (mkF m 46 #[.val (.ref to), .val (.int z32), .val (.int t32), .val (.ref ob), .unset] [(.int f32)])
  refine Go.back (f' := (mkF m 48 #[.val (.ref to), .val (.int z32), .val (.int t32), .val (.ref ob), .val (.int f32)] [])) (fun _ k => XS.istore X45.here hx rfl (hb hby d5_46) rfl (l' := #[.val (.ref to), .val (.int z32), .val (.int t32), .val (.ref ob), .val (.int f32)]) rfl k) ?_
  refine Go.back (f' := (mkF m 49 #[.val (.ref to), .val (.int z32), .val (.int t32), .val (.ref ob), .val (.int f32)] [(.ref to)])) (fun _ k => XS.aloadN X45.here hx rfl (hb hby d5_48) rfl rfl k) ?_
  obtain ⟨T46, X46, e46, st46⟩ := getF X45 hx hZ hown (host := "") (Or.inl (hw _ (List.mem_of_getElem? (i := 15) rfl))) Via.refl hh45 Fl_41 (g := (mkF m 49 #[.val (.ref to), .val (.int z32), .val (.int t32), .val (.ref ob), .val (.int f32)] [(.ref to)])) rfl rfl (hb hby d5_49)
  refine Go.back (f' := (mkF m 52 #[.val (.ref to), .val (.int z32), .val (.int t32), .val (.ref ob), .val (.int f32)] [(.ref ring)])) st46 ?_
  refine Go.back (f' := (mkF m 53 #[.val (.ref to), .val (.int z32), .val (.int t32), .val (.ref ob), .val (.int f32)] [(.int t32), (.ref ring)])) (fun _ k => XS.iloadN X46.here hx rfl (hb hby d5_52) rfl k) ?_
  refine Go.back (f' := (mkF m 54 #[.val (.ref to), .val (.int z32), .val (.int t32), .val (.ref ob), .val (.int f32)] [(.ref ob), (.int t32), (.ref ring)])) (fun _ k => XS.aloadN X46.here hx rfl (hb hby d5_53) rfl rfl k) ?_
  refine Go.back (f' := (mkF m 55 #[.val (.ref to), .val (.int z32), .val (.int t32), .val (.ref ob), .val (.int f32)] [(.int (0 : Int32)), (.ref ob), (.int t32), (.ref ring)])) (fun _ k => XS.iconst X46.here hx rfl (hb hby d5_54) k) ?_
  refine Go.back (f' := (mkF m 57 #[.val (.ref to), .val (.int z32), .val (.int t32), .val (.ref ob), .val (.int f32)] [(.int f32), (.int (0 : Int32)), (.ref ob), (.int t32), (.ref ring)])) (fun _ k => XS.iload X46.here hx rfl (hb hby d5_55) rfl k) ?_
  refine Go.cpy X46 hx hZ hown (hw _ (List.mem_of_getElem? (i := 36) rfl)) (hw _ (List.mem_of_getElem? (i := 39) rfl)) (hw _ (List.mem_of_getElem? (i := 37) rfl)) (hw _ (List.mem_of_getElem? (i := 38) rfl)) e46 Ar_42 V38 rfl (i := st) hst (j' := 0) rfl (n := fi) hfi (by rw [List.length_map]; omega) (by simp; omega) K_43.fr g_ob (by rw [hml]; rfl) (hb hby d5_57) (by decide) (W := 0) (Nat.le_of_eq rfl) (by decide) ?_
  intro T47 h47 L47 X47 e47 N47 Kc47 V47
  have Ex_48 := Ex_39.keep Kc47
  have Fl_49 := Fl_40.keep Kc47 (ninS ne_to_ob nin0)
  have Fl_50 := Fl_41.keep Kc47 (ninS ne_to_ob nin0)
  have Ar_51 := Ar_42.keep Kc47 (ninS ne_ring_ob nin0)
  have K_52 := K_43.cpy Kc47 N47 (Or.inr sz_ob)
  show GoG _ _ _ _ _ (mkF m 60 #[.val (.ref to), .val (.int z32), .val (.int t32), .val (.ref ob), .val (.int f32)] [])
  refine Go.back (f' := (mkF m 61 #[.val (.ref to), .val (.int z32), .val (.int t32), .val (.ref ob), .val (.int f32)] [(.ref to)])) (fun _ k => XS.aloadN X47.here hx rfl (hb hby d5_60) rfl rfl k) ?_
  obtain ⟨T53, X53, e53, st53⟩ := getF X47 hx hZ hown (host := "") (Or.inl (hw _ (List.mem_of_getElem? (i := 15) rfl))) Via.refl e47 Fl_50 (g := (mkF m 61 #[.val (.ref to), .val (.int z32), .val (.int t32), .val (.ref ob), .val (.int f32)] [(.ref to)])) rfl rfl (hb hby d5_61)
  refine Go.back (f' := (mkF m 64 #[.val (.ref to), .val (.int z32), .val (.int t32), .val (.ref ob), .val (.int f32)] [(.ref ring)])) st53 ?_
  refine Go.back (f' := (mkF m 65 #[.val (.ref to), .val (.int z32), .val (.int t32), .val (.ref ob), .val (.int f32)] [(.int (0 : Int32)), (.ref ring)])) (fun _ k => XS.iconst X53.here hx rfl (hb hby d5_64) k) ?_
  refine Go.back (f' := (mkF m 66 #[.val (.ref to), .val (.int z32), .val (.int t32), .val (.ref ob), .val (.int f32)] [(.ref ob), (.int (0 : Int32)), (.ref ring)])) (fun _ k => XS.aloadN X53.here hx rfl (hb hby d5_65) rfl rfl k) ?_
  refine Go.back (f' := (mkF m 68 #[.val (.ref to), .val (.int z32), .val (.int t32), .val (.ref ob), .val (.int f32)] [(.int f32), (.ref ob), (.int (0 : Int32)), (.ref ring)])) (fun _ k => XS.iload X53.here hx rfl (hb hby d5_66) rfl k) ?_
  refine Go.back (f' := (mkF m 69 #[.val (.ref to), .val (.int z32), .val (.int t32), .val (.ref ob), .val (.int f32)] [(.int z32), (.int f32), (.ref ob), (.int (0 : Int32)), (.ref ring)])) (fun _ k => XS.iloadN X53.here hx rfl (hb hby d5_68) rfl k) ?_
  refine Go.back (f' := (mkF m 71 #[.val (.ref to), .val (.int z32), .val (.int t32), .val (.ref ob), .val (.int f32)] [(.int f32), (.int z32), (.int f32), (.ref ob), (.int (0 : Int32)), (.ref ring)])) (fun _ k => XS.iload X53.here hx rfl (hb hby d5_69) rfl k) ?_
  refine Go.back (f' := (mkF m 72 #[.val (.ref to), .val (.int z32), .val (.int t32), .val (.ref ob), .val (.int f32)] [(.int (z32 - f32)), (.int f32), (.ref ob), (.int (0 : Int32)), (.ref ring)])) (fun _ k => XS.isub X53.here hx rfl (hb hby d5_71) rfl k) ?_
  refine Go.cpy X53 hx hZ hown (hw _ (List.mem_of_getElem? (i := 36) rfl)) (hw _ (List.mem_of_getElem? (i := 39) rfl)) (hw _ (List.mem_of_getElem? (i := 37) rfl)) (hw _ (List.mem_of_getElem? (i := 38) rfl)) e53 Ar_51 V47 rfl (i := 0) rfl (j' := fi) hfi (n := (z - fi)) (sub_nat hz hfi (by omega)) (by rw [List.length_map]; omega) (by simp; omega) K_52.fr g_ob (by rw [hml]; rfl) (hb hby d5_72) (by decide) (W := 0) (Nat.le_of_eq rfl) (by decide) ?_
  intro T54 h54 L54 X54 e54 N54 Kc54 V54
  have Ex_55 := Ex_48.keep Kc54
  have Fl_56 := Fl_49.keep Kc54 (ninS ne_to_ob nin0)
  have Fl_57 := Fl_50.keep Kc54 (ninS ne_to_ob nin0)
  have Ar_58 := Ar_51.keep Kc54 (ninS ne_ring_ob nin0)
  have K_59 := K_52.cpy Kc54 N54 (Or.inr sz_ob)
  show GoG _ _ _ _ _ (mkF m 75 #[.val (.ref to), .val (.int z32), .val (.int t32), .val (.ref ob), .val (.int f32)] [])
  refine Go.back (f' := (mkF m 76 #[.val (.ref to), .val (.int z32), .val (.int t32), .val (.ref ob), .val (.int f32)] [(.ref ob)])) (fun _ k => XS.aloadN X54.here hx rfl (hb hby d5_75) rfl rfl k) ?_
  exact Go.retA X54 hx hret hlk (hb hby d5_76) rfl rfl (by (try rw [e54]); exact ⟨ob, rfl, K_59, sz_ob, V54.to (by rw [ezz] at *; rw [← hR.out c1 rfl est (by rw [← efi])]; exact own_out rs st fi _ (by omega) (by omega))⟩) (by decide) (by decide)

theorem OR.keep0 {Z : State} {h h' : Heap} {to ring : Addr} {w64 : Int64} {rs ss : List Int32} (R : OR Z h to ring w64 rs ss) (K : Keep h h' []) : OR Z h' to ring w64 rs ss := by
  obtain ⟨a1, a2, a3, a4, r⟩ := R; exact ⟨a1.keep K, a2.keep K nin0, a3.keep K nin0, a4.keep K nin0, r⟩
theorem own_at {vs : List Int32} {k : Nat} (q : k < vs.length) : (vs.map Value.int)[k]? = some (.int (vs.getD k 0)) := by
  rw [List.getElem?_map, List.getElem?_eq_getElem q, List.getD_eq_getElem?_getD, List.getElem?_eq_getElem q]; rfl
theorem own_eqD {a b : List Int32} {i j : Nat} (q : i < a.length) (e : a[i]? = b[j]?) : j < b.length ∧ a.getD i 0 = b.getD j 0 := by
  have h : j < b.length := by
    apply Decidable.byContradiction; intro r
    rw [List.getElem?_eq_getElem q, List.getElem?_eq_none (by omega)] at e; cases e
  exact ⟨h, by rw [List.getD_eq_getElem?_getD, List.getD_eq_getElem?_getD, e]⟩
theorem own_ushr (x : Int32) (m k : Nat) (q : Int32) (hk : q.toBitVec.toNat % 32 = k) : ∃ i : Nat, (((x.toUInt32 >>> (q &&& 31).toUInt32).toInt32) &&& (2147483647 : Int32)).toInt = i := by
  have h : ((((x.toUInt32 >>> (q &&& 31).toUInt32).toInt32)) &&& (2147483647 : Int32)).toInt = ((x.toUInt32 >>> (q &&& 31).toUInt32).toInt32).toInt % (2 ^ 31 : Nat) := c_mask _ 2147483647 31 (by decide) (by decide)
  exact ⟨_, by rw [h]; exact (Int.toNat_of_nonneg (Int.emod_nonneg _ (by decide))).symm⟩
theorem own_m (a m : Int32) (k : Nat) (hk : k ≤ 31) (hm : m.toBitVec.toNat = 2 ^ k - 1) : ∃ i : Nat, (a &&& m).toInt = i ∧ i < 2 ^ k := by
  have q := c_mask a m k hk hm
  have p : (0 : Int) < ((2 ^ k : Nat) : Int) := by have := Nat.pow_pos (n := k) (show 0 < 2 by omega); omega
  have a1 := Int.emod_nonneg a.toInt (Int.ne_of_gt p)
  have a2 := Int.emod_lt_of_pos a.toInt p
  exact ⟨(a &&& m).toInt.toNat, by omega, by omega⟩

theorem own_hs {al bl : List Int32} {f1 n1 f2 n2 c : Nat} (h1 : f1 + n1 ≤ al.length) {ss gs : List Int32} (hs : ss = (al.drop f1).take n1 ++ (bl.drop f2).take n2) (hg : gs = ss.drop (ss.length - min ss.length c)) : gs.length = min ss.length c ∧ ∀ k, k < gs.length →
    (ss.length - gs.length + k < n1 → gs[k]? = al[f1 + (ss.length - gs.length + k)]?) ∧ (¬ ss.length - gs.length + k < n1 → gs[k]? = bl[f2 + (ss.length - gs.length + k) - n1]?) := by
  have gl : gs.length = min ss.length c := by rw [hg]; simp; omega
  have l1 : ((al.drop f1).take n1).length = n1 := by simp; omega
  refine ⟨gl, fun k hk => ?_⟩
  have e : gs[k]? = ss[ss.length - gs.length + k]? := by rw [gl, hg, List.getElem?_drop]
  have lt : ss.length - gs.length + k < ss.length := by omega
  rw [e]
  generalize ss.length - gs.length + k = i at lt ⊢
  rw [hs] at lt ⊢
  constructor
  · intro q; rw [List.getElem?_append_left (by omega), List.getElem?_take_of_lt q, List.getElem?_drop]
  · intro q
    rw [List.length_append, l1] at lt
    have : i - n1 < n2 := by have : ((bl.drop f2).take n2).length ≤ n2 := by simp; omega
                             omega
    rw [List.getElem?_append_right (by omega), l1, List.getElem?_take_of_lt this, List.getElem?_drop]
    congr 1; omega

theorem ef_rmBo (m : MethodId) (x0 : Int64) : entryFrame m #[(.long x0)] 3 = mkF m 0 #[.val (.long x0), .second, .unset] [] := by first | (simp [entryFrame, mkF, argsToLocals, Value.category]; done) | rfl
set_option maxRecDepth 65536 in
set_option maxHeartbeats 40000000 in
theorem rmBo (l : Launch) (Z : State) (a0 : Array Value) (hw : ∀ d ∈ tables_1, d.before a0 Z = true) (pp : Int64) (n0 : Nat) (h0 : Heap) (Z0 : n0 ≤ h0.size) :
    Met l Z (⟨"com/example/chore_scheduler/chorescheduler/exec/OutputTailWritePinLaw", "bytesOf", "(J)[B"⟩ : MethodName) method_2_code 3 (some (.array .byte)) ({ frames := 0, cells := 1, slots := 8, locals := 0 } : Room) #[(.long pp)] h0 (fun v h L => ∃ (ob : Addr) (bl : List Int32), v = some (.ref ob) ∧ Chg n0 h0 h [] L ∧ h0.size ≤ ob ∧ VArr Z h ob .byte (bl.map Value.int) ∧ bl.length = 8) := by
  refine Met.intro (plainFor_of_name (by first | (simp [plainName, overriddenIn]; done) | decide +kernel)) ?_
  intro p e s m below meth c T0 hx hby hml hown hnm hret hlk hZ X0 e0
  refine Go.cast (ef_rmBo m pp) ?_
  have K0 : Chg n0 h0 h0 [] [] := Chg.refl Z0
  refine Go.back (f' := (mkF m 2 #[.val (.long pp), .second, .unset] [(.int (8 : Int32))])) (fun _ k => XS.bipush X0.here hx rfl (hb hby d1_0) k) ?_
  refine Go.newA X0 hx hZ (hw _ (List.mem_of_getElem? (i := 4) rfl)) e0 (hb hby d1_2) (i := 8) rfl (cap := 8) (by decide) (by decide) (by decide) (by decide) ?_
  intro T60 h60 ob q60 X60 e60 E60 V60
  have V60 : VArr Z h60 ob .byte (List.replicate 8 (.int 0)) := V60
  have sz_ob := K0.at q60
  have g_ob := K0.ge sz_ob
  have K_61 := K0.ext E60
  show GoG _ _ _ _ _ (mkF m 4 #[.val (.long pp), .second, .unset] [(.ref ob)])
  refine Go.back (f' := (mkF m 5 #[.val (.long pp), .second, .val (.ref ob)] [])) (fun _ k => XS.astoreN X60.here hx rfl (hb hby d1_4) rfl rfl (l' := #[.val (.long pp), .second, .val (.ref ob)]) rfl k) ?_
  refine Go.back (f' := (mkF m 6 #[.val (.long pp), .second, .val (.ref ob)] [(.ref ob)])) (fun _ k => XS.aloadN X60.here hx rfl (hb hby d1_5) rfl rfl k) ?_
  refine Go.back (f' := (mkF m 7 #[.val (.long pp), .second, .val (.ref ob)] [(.int (0 : Int32)), (.ref ob)])) (fun _ k => XS.iconst X60.here hx rfl (hb hby d1_6) k) ?_
  refine Go.back (f' := (mkF m 8 #[.val (.long pp), .second, .val (.ref ob)] [(.long pp), (.int (0 : Int32)), (.ref ob)])) (fun _ k => XS.lloadN X60.here hx rfl (hb hby d1_7) rfl k) ?_
  refine Go.back (f' := (mkF m 9 #[.val (.long pp), .second, .val (.ref ob)] [(.int (pp.toInt32)), (.int (0 : Int32)), (.ref ob)])) (fun _ k => XS.l2i X60.here hx rfl (hb hby d1_8) rfl k) ?_
  refine Go.back (f' := (mkF m 10 #[.val (.long pp), .second, .val (.ref ob)] [(.int ((pp.toInt32).toInt8.toInt32)), (.int (0 : Int32)), (.ref ob)])) (fun _ k => XS.i2b X60.here hx rfl (hb hby d1_9) rfl k) ?_
  refine Go.stB V60 X60 hx hZ e60 (hb hby d1_10) (i := 0) rfl (by simp) ?_
  intro T62 h62 X62 e62 W62 V62
  have K_63 := K_61.wr W62 (Or.inr sz_ob) g_ob
  show GoG _ _ _ _ _ (mkF m 11 #[.val (.long pp), .second, .val (.ref ob)] [])
  refine Go.back (f' := (mkF m 12 #[.val (.long pp), .second, .val (.ref ob)] [(.ref ob)])) (fun _ k => XS.aloadN X62.here hx rfl (hb hby d1_11) rfl rfl k) ?_
  refine Go.back (f' := (mkF m 13 #[.val (.long pp), .second, .val (.ref ob)] [(.int (1 : Int32)), (.ref ob)])) (fun _ k => XS.iconst X62.here hx rfl (hb hby d1_12) k) ?_
  refine Go.back (f' := (mkF m 14 #[.val (.long pp), .second, .val (.ref ob)] [(.long pp), (.int (1 : Int32)), (.ref ob)])) (fun _ k => XS.lloadN X62.here hx rfl (hb hby d1_13) rfl k) ?_
  refine Go.back (f' := (mkF m 16 #[.val (.long pp), .second, .val (.ref ob)] [(.int (8 : Int32)), (.long pp), (.int (1 : Int32)), (.ref ob)])) (fun _ k => XS.bipush X62.here hx rfl (hb hby d1_14) k) ?_
  refine Go.back (f' := (mkF m 17 #[.val (.long pp), .second, .val (.ref ob)] [(.long ((pp.toUInt64 >>> ((8 : Int32) &&& 0x3f).toInt64.toUInt64).toInt64)), (.int (1 : Int32)), (.ref ob)])) (fun _ k => XS.lushr X62.here hx rfl (hb hby d1_16) rfl k) ?_
  refine Go.back (f' := (mkF m 18 #[.val (.long pp), .second, .val (.ref ob)] [(.int (((pp.toUInt64 >>> ((8 : Int32) &&& 0x3f).toInt64.toUInt64).toInt64).toInt32)), (.int (1 : Int32)), (.ref ob)])) (fun _ k => XS.l2i X62.here hx rfl (hb hby d1_17) rfl k) ?_
  refine Go.back (f' := (mkF m 19 #[.val (.long pp), .second, .val (.ref ob)] [(.int ((((pp.toUInt64 >>> ((8 : Int32) &&& 0x3f).toInt64.toUInt64).toInt64).toInt32).toInt8.toInt32)), (.int (1 : Int32)), (.ref ob)])) (fun _ k => XS.i2b X62.here hx rfl (hb hby d1_18) rfl k) ?_
  refine Go.stB V62 X62 hx hZ e62 (hb hby d1_19) (i := 1) rfl (by simp) ?_
  intro T64 h64 X64 e64 W64 V64
  have K_65 := K_63.wr W64 (Or.inr sz_ob) g_ob
  show GoG _ _ _ _ _ (mkF m 20 #[.val (.long pp), .second, .val (.ref ob)] [])
  refine Go.back (f' := (mkF m 21 #[.val (.long pp), .second, .val (.ref ob)] [(.ref ob)])) (fun _ k => XS.aloadN X64.here hx rfl (hb hby d1_20) rfl rfl k) ?_
  refine Go.back (f' := (mkF m 22 #[.val (.long pp), .second, .val (.ref ob)] [(.int (2 : Int32)), (.ref ob)])) (fun _ k => XS.iconst X64.here hx rfl (hb hby d1_21) k) ?_
  refine Go.back (f' := (mkF m 23 #[.val (.long pp), .second, .val (.ref ob)] [(.long pp), (.int (2 : Int32)), (.ref ob)])) (fun _ k => XS.lloadN X64.here hx rfl (hb hby d1_22) rfl k) ?_
  refine Go.back (f' := (mkF m 25 #[.val (.long pp), .second, .val (.ref ob)] [(.int (16 : Int32)), (.long pp), (.int (2 : Int32)), (.ref ob)])) (fun _ k => XS.bipush X64.here hx rfl (hb hby d1_23) k) ?_
  refine Go.back (f' := (mkF m 26 #[.val (.long pp), .second, .val (.ref ob)] [(.long ((pp.toUInt64 >>> ((16 : Int32) &&& 0x3f).toInt64.toUInt64).toInt64)), (.int (2 : Int32)), (.ref ob)])) (fun _ k => XS.lushr X64.here hx rfl (hb hby d1_25) rfl k) ?_
  refine Go.back (f' := (mkF m 27 #[.val (.long pp), .second, .val (.ref ob)] [(.int (((pp.toUInt64 >>> ((16 : Int32) &&& 0x3f).toInt64.toUInt64).toInt64).toInt32)), (.int (2 : Int32)), (.ref ob)])) (fun _ k => XS.l2i X64.here hx rfl (hb hby d1_26) rfl k) ?_
  refine Go.back (f' := (mkF m 28 #[.val (.long pp), .second, .val (.ref ob)] [(.int ((((pp.toUInt64 >>> ((16 : Int32) &&& 0x3f).toInt64.toUInt64).toInt64).toInt32).toInt8.toInt32)), (.int (2 : Int32)), (.ref ob)])) (fun _ k => XS.i2b X64.here hx rfl (hb hby d1_27) rfl k) ?_
  refine Go.stB V64 X64 hx hZ e64 (hb hby d1_28) (i := 2) rfl (by simp) ?_
  intro T66 h66 X66 e66 W66 V66
  have K_67 := K_65.wr W66 (Or.inr sz_ob) g_ob
  show GoG _ _ _ _ _ (mkF m 29 #[.val (.long pp), .second, .val (.ref ob)] [])
  refine Go.back (f' := (mkF m 30 #[.val (.long pp), .second, .val (.ref ob)] [(.ref ob)])) (fun _ k => XS.aloadN X66.here hx rfl (hb hby d1_29) rfl rfl k) ?_
  refine Go.back (f' := (mkF m 31 #[.val (.long pp), .second, .val (.ref ob)] [(.int (3 : Int32)), (.ref ob)])) (fun _ k => XS.iconst X66.here hx rfl (hb hby d1_30) k) ?_
  refine Go.back (f' := (mkF m 32 #[.val (.long pp), .second, .val (.ref ob)] [(.long pp), (.int (3 : Int32)), (.ref ob)])) (fun _ k => XS.lloadN X66.here hx rfl (hb hby d1_31) rfl k) ?_
  refine Go.back (f' := (mkF m 34 #[.val (.long pp), .second, .val (.ref ob)] [(.int (24 : Int32)), (.long pp), (.int (3 : Int32)), (.ref ob)])) (fun _ k => XS.bipush X66.here hx rfl (hb hby d1_32) k) ?_
  refine Go.back (f' := (mkF m 35 #[.val (.long pp), .second, .val (.ref ob)] [(.long ((pp.toUInt64 >>> ((24 : Int32) &&& 0x3f).toInt64.toUInt64).toInt64)), (.int (3 : Int32)), (.ref ob)])) (fun _ k => XS.lushr X66.here hx rfl (hb hby d1_34) rfl k) ?_
  refine Go.back (f' := (mkF m 36 #[.val (.long pp), .second, .val (.ref ob)] [(.int (((pp.toUInt64 >>> ((24 : Int32) &&& 0x3f).toInt64.toUInt64).toInt64).toInt32)), (.int (3 : Int32)), (.ref ob)])) (fun _ k => XS.l2i X66.here hx rfl (hb hby d1_35) rfl k) ?_
  refine Go.back (f' := (mkF m 37 #[.val (.long pp), .second, .val (.ref ob)] [(.int ((((pp.toUInt64 >>> ((24 : Int32) &&& 0x3f).toInt64.toUInt64).toInt64).toInt32).toInt8.toInt32)), (.int (3 : Int32)), (.ref ob)])) (fun _ k => XS.i2b X66.here hx rfl (hb hby d1_36) rfl k) ?_
  refine Go.stB V66 X66 hx hZ e66 (hb hby d1_37) (i := 3) rfl (by simp) ?_
  intro T68 h68 X68 e68 W68 V68
  have K_69 := K_67.wr W68 (Or.inr sz_ob) g_ob
  show GoG _ _ _ _ _ (mkF m 38 #[.val (.long pp), .second, .val (.ref ob)] [])
  refine Go.back (f' := (mkF m 39 #[.val (.long pp), .second, .val (.ref ob)] [(.ref ob)])) (fun _ k => XS.aloadN X68.here hx rfl (hb hby d1_38) rfl rfl k) ?_
  refine Go.back (f' := (mkF m 40 #[.val (.long pp), .second, .val (.ref ob)] [(.int (4 : Int32)), (.ref ob)])) (fun _ k => XS.iconst X68.here hx rfl (hb hby d1_39) k) ?_
  refine Go.back (f' := (mkF m 41 #[.val (.long pp), .second, .val (.ref ob)] [(.long pp), (.int (4 : Int32)), (.ref ob)])) (fun _ k => XS.lloadN X68.here hx rfl (hb hby d1_40) rfl k) ?_
  refine Go.back (f' := (mkF m 43 #[.val (.long pp), .second, .val (.ref ob)] [(.int (32 : Int32)), (.long pp), (.int (4 : Int32)), (.ref ob)])) (fun _ k => XS.bipush X68.here hx rfl (hb hby d1_41) k) ?_
  refine Go.back (f' := (mkF m 44 #[.val (.long pp), .second, .val (.ref ob)] [(.long ((pp.toUInt64 >>> ((32 : Int32) &&& 0x3f).toInt64.toUInt64).toInt64)), (.int (4 : Int32)), (.ref ob)])) (fun _ k => XS.lushr X68.here hx rfl (hb hby d1_43) rfl k) ?_
  refine Go.back (f' := (mkF m 45 #[.val (.long pp), .second, .val (.ref ob)] [(.int (((pp.toUInt64 >>> ((32 : Int32) &&& 0x3f).toInt64.toUInt64).toInt64).toInt32)), (.int (4 : Int32)), (.ref ob)])) (fun _ k => XS.l2i X68.here hx rfl (hb hby d1_44) rfl k) ?_
  refine Go.back (f' := (mkF m 46 #[.val (.long pp), .second, .val (.ref ob)] [(.int ((((pp.toUInt64 >>> ((32 : Int32) &&& 0x3f).toInt64.toUInt64).toInt64).toInt32).toInt8.toInt32)), (.int (4 : Int32)), (.ref ob)])) (fun _ k => XS.i2b X68.here hx rfl (hb hby d1_45) rfl k) ?_
  refine Go.stB V68 X68 hx hZ e68 (hb hby d1_46) (i := 4) rfl (by simp) ?_
  intro T70 h70 X70 e70 W70 V70
  have K_71 := K_69.wr W70 (Or.inr sz_ob) g_ob
  show GoG _ _ _ _ _ (mkF m 47 #[.val (.long pp), .second, .val (.ref ob)] [])
  refine Go.back (f' := (mkF m 48 #[.val (.long pp), .second, .val (.ref ob)] [(.ref ob)])) (fun _ k => XS.aloadN X70.here hx rfl (hb hby d1_47) rfl rfl k) ?_
  refine Go.back (f' := (mkF m 49 #[.val (.long pp), .second, .val (.ref ob)] [(.int (5 : Int32)), (.ref ob)])) (fun _ k => XS.iconst X70.here hx rfl (hb hby d1_48) k) ?_
  refine Go.back (f' := (mkF m 50 #[.val (.long pp), .second, .val (.ref ob)] [(.long pp), (.int (5 : Int32)), (.ref ob)])) (fun _ k => XS.lloadN X70.here hx rfl (hb hby d1_49) rfl k) ?_
  refine Go.back (f' := (mkF m 52 #[.val (.long pp), .second, .val (.ref ob)] [(.int (40 : Int32)), (.long pp), (.int (5 : Int32)), (.ref ob)])) (fun _ k => XS.bipush X70.here hx rfl (hb hby d1_50) k) ?_
  refine Go.back (f' := (mkF m 53 #[.val (.long pp), .second, .val (.ref ob)] [(.long ((pp.toUInt64 >>> ((40 : Int32) &&& 0x3f).toInt64.toUInt64).toInt64)), (.int (5 : Int32)), (.ref ob)])) (fun _ k => XS.lushr X70.here hx rfl (hb hby d1_52) rfl k) ?_
  refine Go.back (f' := (mkF m 54 #[.val (.long pp), .second, .val (.ref ob)] [(.int (((pp.toUInt64 >>> ((40 : Int32) &&& 0x3f).toInt64.toUInt64).toInt64).toInt32)), (.int (5 : Int32)), (.ref ob)])) (fun _ k => XS.l2i X70.here hx rfl (hb hby d1_53) rfl k) ?_
  refine Go.back (f' := (mkF m 55 #[.val (.long pp), .second, .val (.ref ob)] [(.int ((((pp.toUInt64 >>> ((40 : Int32) &&& 0x3f).toInt64.toUInt64).toInt64).toInt32).toInt8.toInt32)), (.int (5 : Int32)), (.ref ob)])) (fun _ k => XS.i2b X70.here hx rfl (hb hby d1_54) rfl k) ?_
  refine Go.stB V70 X70 hx hZ e70 (hb hby d1_55) (i := 5) rfl (by simp) ?_
  intro T72 h72 X72 e72 W72 V72
  have K_73 := K_71.wr W72 (Or.inr sz_ob) g_ob
  show GoG _ _ _ _ _ (mkF m 56 #[.val (.long pp), .second, .val (.ref ob)] [])
  refine Go.back (f' := (mkF m 57 #[.val (.long pp), .second, .val (.ref ob)] [(.ref ob)])) (fun _ k => XS.aloadN X72.here hx rfl (hb hby d1_56) rfl rfl k) ?_
  refine Go.back (f' := (mkF m 59 #[.val (.long pp), .second, .val (.ref ob)] [(.int (6 : Int32)), (.ref ob)])) (fun _ k => XS.bipush X72.here hx rfl (hb hby d1_57) k) ?_
  refine Go.back (f' := (mkF m 60 #[.val (.long pp), .second, .val (.ref ob)] [(.long pp), (.int (6 : Int32)), (.ref ob)])) (fun _ k => XS.lloadN X72.here hx rfl (hb hby d1_59) rfl k) ?_
  refine Go.back (f' := (mkF m 62 #[.val (.long pp), .second, .val (.ref ob)] [(.int (48 : Int32)), (.long pp), (.int (6 : Int32)), (.ref ob)])) (fun _ k => XS.bipush X72.here hx rfl (hb hby d1_60) k) ?_
  refine Go.back (f' := (mkF m 63 #[.val (.long pp), .second, .val (.ref ob)] [(.long ((pp.toUInt64 >>> ((48 : Int32) &&& 0x3f).toInt64.toUInt64).toInt64)), (.int (6 : Int32)), (.ref ob)])) (fun _ k => XS.lushr X72.here hx rfl (hb hby d1_62) rfl k) ?_
  refine Go.back (f' := (mkF m 64 #[.val (.long pp), .second, .val (.ref ob)] [(.int (((pp.toUInt64 >>> ((48 : Int32) &&& 0x3f).toInt64.toUInt64).toInt64).toInt32)), (.int (6 : Int32)), (.ref ob)])) (fun _ k => XS.l2i X72.here hx rfl (hb hby d1_63) rfl k) ?_
  refine Go.back (f' := (mkF m 65 #[.val (.long pp), .second, .val (.ref ob)] [(.int ((((pp.toUInt64 >>> ((48 : Int32) &&& 0x3f).toInt64.toUInt64).toInt64).toInt32).toInt8.toInt32)), (.int (6 : Int32)), (.ref ob)])) (fun _ k => XS.i2b X72.here hx rfl (hb hby d1_64) rfl k) ?_
  refine Go.stB V72 X72 hx hZ e72 (hb hby d1_65) (i := 6) rfl (by simp) ?_
  intro T74 h74 X74 e74 W74 V74
  have K_75 := K_73.wr W74 (Or.inr sz_ob) g_ob
  show GoG _ _ _ _ _ (mkF m 66 #[.val (.long pp), .second, .val (.ref ob)] [])
  refine Go.back (f' := (mkF m 67 #[.val (.long pp), .second, .val (.ref ob)] [(.ref ob)])) (fun _ k => XS.aloadN X74.here hx rfl (hb hby d1_66) rfl rfl k) ?_
  refine Go.back (f' := (mkF m 69 #[.val (.long pp), .second, .val (.ref ob)] [(.int (7 : Int32)), (.ref ob)])) (fun _ k => XS.bipush X74.here hx rfl (hb hby d1_67) k) ?_
  refine Go.back (f' := (mkF m 70 #[.val (.long pp), .second, .val (.ref ob)] [(.long pp), (.int (7 : Int32)), (.ref ob)])) (fun _ k => XS.lloadN X74.here hx rfl (hb hby d1_69) rfl k) ?_
  refine Go.back (f' := (mkF m 72 #[.val (.long pp), .second, .val (.ref ob)] [(.int (56 : Int32)), (.long pp), (.int (7 : Int32)), (.ref ob)])) (fun _ k => XS.bipush X74.here hx rfl (hb hby d1_70) k) ?_
  refine Go.back (f' := (mkF m 73 #[.val (.long pp), .second, .val (.ref ob)] [(.long ((pp.toUInt64 >>> ((56 : Int32) &&& 0x3f).toInt64.toUInt64).toInt64)), (.int (7 : Int32)), (.ref ob)])) (fun _ k => XS.lushr X74.here hx rfl (hb hby d1_72) rfl k) ?_
  refine Go.back (f' := (mkF m 74 #[.val (.long pp), .second, .val (.ref ob)] [(.int (((pp.toUInt64 >>> ((56 : Int32) &&& 0x3f).toInt64.toUInt64).toInt64).toInt32)), (.int (7 : Int32)), (.ref ob)])) (fun _ k => XS.l2i X74.here hx rfl (hb hby d1_73) rfl k) ?_
  refine Go.back (f' := (mkF m 75 #[.val (.long pp), .second, .val (.ref ob)] [(.int ((((pp.toUInt64 >>> ((56 : Int32) &&& 0x3f).toInt64.toUInt64).toInt64).toInt32).toInt8.toInt32)), (.int (7 : Int32)), (.ref ob)])) (fun _ k => XS.i2b X74.here hx rfl (hb hby d1_74) rfl k) ?_
  refine Go.stB V74 X74 hx hZ e74 (hb hby d1_75) (i := 7) rfl (by simp) ?_
  intro T76 h76 X76 e76 W76 V76
  have K_77 := K_75.wr W76 (Or.inr sz_ob) g_ob
  show GoG _ _ _ _ _ (mkF m 76 #[.val (.long pp), .second, .val (.ref ob)] [])
  refine Go.back (f' := (mkF m 77 #[.val (.long pp), .second, .val (.ref ob)] [(.ref ob)])) (fun _ k => XS.aloadN X76.here hx rfl (hb hby d1_76) rfl rfl k) ?_
  exact Go.retA X76 hx hret hlk (hb hby d1_77) rfl rfl (by (try rw [e76]); exact ⟨ob, [(nar .byte ((pp.toInt32).toInt8.toInt32)), (nar .byte ((((pp.toUInt64 >>> ((8 : Int32) &&& 0x3f).toInt64.toUInt64).toInt64).toInt32).toInt8.toInt32)), (nar .byte ((((pp.toUInt64 >>> ((16 : Int32) &&& 0x3f).toInt64.toUInt64).toInt64).toInt32).toInt8.toInt32)), (nar .byte ((((pp.toUInt64 >>> ((24 : Int32) &&& 0x3f).toInt64.toUInt64).toInt64).toInt32).toInt8.toInt32)), (nar .byte ((((pp.toUInt64 >>> ((32 : Int32) &&& 0x3f).toInt64.toUInt64).toInt64).toInt32).toInt8.toInt32)), (nar .byte ((((pp.toUInt64 >>> ((40 : Int32) &&& 0x3f).toInt64.toUInt64).toInt64).toInt32).toInt8.toInt32)), (nar .byte ((((pp.toUInt64 >>> ((48 : Int32) &&& 0x3f).toInt64.toUInt64).toInt64).toInt32).toInt8.toInt32)), (nar .byte ((((pp.toUInt64 >>> ((56 : Int32) &&& 0x3f).toInt64.toUInt64).toInt64).toInt32).toInt8.toInt32))], rfl, K_77, sz_ob, V76.to rfl, rfl⟩) (by decide) (by decide)
theorem ef_rmAt (m : MethodId) (x0 : Addr) (x1 : Int32) (x2 : Int32) (x3 : Addr) (x4 : Int32) (x5 : Int32) (x6 : Addr) (x7 : Int32) : entryFrame m #[(.ref x0), (.int x1), (.int x2), (.ref x3), (.int x4), (.int x5), (.ref x6), (.int x7)] 10 = mkF m 0 #[.val (.ref x0), .val (.int x1), .val (.int x2), .val (.ref x3), .val (.int x4), .val (.int x5), .val (.ref x6), .val (.int x7), .unset, .unset] [] := by first | (simp [entryFrame, mkF, argsToLocals, Value.category]; done) | rfl
set_option maxRecDepth 65536 in
set_option maxHeartbeats 40000000 in
theorem rmAt (l : Launch) (Z : State) (a0 : Array Value) (hw : ∀ d ∈ tables_1, d.before a0 Z = true) (go ao bo : Addr) (k32 t32 o1 l1 o2 : Int32) (gs al bl : List Int32) (k W f1 n1 f2 : Nat) (h0 : Heap) (G : VArr Z h0 go .byte (gs.map Value.int)) (A : VArr Z h0 ao .byte (al.map Value.int)) (B : VArr Z h0 bo .byte (bl.map Value.int)) (hk : k32.toInt = k) (k8 : k ≤ 8) (ht : t32.toInt = W) (ho1 : o1.toInt = f1) (hl1 : l1.toInt = n1) (ho2 : o2.toInt = f2) (hW : W ≤ 1000) (hf1 : f1 ≤ 8) (hf2 : f2 ≤ 8) (gW : gs.length ≤ W) (HS : ∀ k, k < gs.length → (W - gs.length + k < n1 → gs[k]? = al[f1 + (W - gs.length + k)]?) ∧ (¬ W - gs.length + k < n1 → gs[k]? = bl[f2 + (W - gs.length + k) - n1]?)) :
    Met l Z (⟨"com/example/chore_scheduler/chorescheduler/exec/OutputTailWritePinLaw", "at", "([BII[BII[BI)Z"⟩ : MethodName) method_3_code 10 (some .boolean) ({ frames := 0, cells := 0, slots := 0, locals := 0 } : Room) #[(.ref go), (.int k32), (.int t32), (.ref ao), (.int o1), (.int l1), (.ref bo), (.int o2)] h0 (fun v h L => v = some (.int 1) ∧ L = [] ∧ h = h0) := by
  refine Met.intro (plainFor_of_name (by first | (simp [plainName, overriddenIn]; done) | decide +kernel)) ?_
  intro p e s m below meth c T0 hx hby hml hown hnm hret hlk hZ X0 e0
  refine Go.cast (ef_rmAt m go k32 t32 ao o1 l1 bo o2) ?_
  have gc : gs.length < 2147483648 := by omega
  refine Go.back (f' := (mkF m 1 #[.val (.ref go), .val (.int k32), .val (.int t32), .val (.ref ao), .val (.int o1), .val (.int l1), .val (.ref bo), .val (.int o2), .unset, .unset] [(.int k32)])) (fun _ k => XS.iloadN X0.here hx rfl (hb hby d9_0) rfl k) ?_
  refine Go.back (f' := (mkF m 2 #[.val (.ref go), .val (.int k32), .val (.int t32), .val (.ref ao), .val (.int o1), .val (.int l1), .val (.ref bo), .val (.int o2), .unset, .unset] [(.ref go), (.int k32)])) (fun _ k => XS.aloadN X0.here hx rfl (hb hby d9_1) rfl rfl k) ?_
  refine Go.back (f' := (mkF m 3 #[.val (.ref go), .val (.int k32), .val (.int t32), .val (.ref ao), .val (.int o1), .val (.int l1), .val (.ref bo), .val (.int o2), .unset, .unset] [(.int ((gs.map Value.int)).length.toInt32), (.int k32)])) (G.lenS X0 hx hZ e0 (hb hby d9_2)) ?_
  rw [List.length_map]
  show GoG _ _ _ _ _ (mkF m 3 #[.val (.ref go), .val (.int k32), .val (.int t32), .val (.ref ao), .val (.int o1), .val (.int l1), .val (.ref bo), .val (.int o2), .unset, .unset] [(.int gs.length.toInt32), (.int k32)])
  by_cases h1 : k32 < gs.length.toInt32
  · refine Go.back (f' := (mkF m 8 #[.val (.ref go), .val (.int k32), .val (.int t32), .val (.ref ao), .val (.int o1), .val (.int l1), .val (.ref bo), .val (.int o2), .unset, .unset] [])) (fun _ k => XS.icmpYes X0.here hx rfl (pc0 := 3) (pc' := 8) rfl (hb hby d9_3) rfl (tlt h1).1 (by decide) (by decide) k) ?_
    have k1 := (lt_nat hk (n32 gc)).mp h1
    obtain ⟨H1, H2⟩ := HS k k1
    refine Go.back (f' := (mkF m 9 #[.val (.ref go), .val (.int k32), .val (.int t32), .val (.ref ao), .val (.int o1), .val (.int l1), .val (.ref bo), .val (.int o2), .unset, .unset] [(.int t32)])) (fun _ k => XS.iloadN X0.here hx rfl (hb hby d9_8) rfl k) ?_
    refine Go.back (f' := (mkF m 10 #[.val (.ref go), .val (.int k32), .val (.int t32), .val (.ref ao), .val (.int o1), .val (.int l1), .val (.ref bo), .val (.int o2), .unset, .unset] [(.ref go), (.int t32)])) (fun _ k => XS.aloadN X0.here hx rfl (hb hby d9_9) rfl rfl k) ?_
    refine Go.back (f' := (mkF m 11 #[.val (.ref go), .val (.int k32), .val (.int t32), .val (.ref ao), .val (.int o1), .val (.int l1), .val (.ref bo), .val (.int o2), .unset, .unset] [(.int ((gs.map Value.int)).length.toInt32), (.int t32)])) (G.lenS X0 hx hZ e0 (hb hby d9_10)) ?_
    rw [List.length_map]
    show GoG _ _ _ _ _ (mkF m 11 #[.val (.ref go), .val (.int k32), .val (.int t32), .val (.ref ao), .val (.int o1), .val (.int l1), .val (.ref bo), .val (.int o2), .unset, .unset] [(.int gs.length.toInt32), (.int t32)])
    refine Go.back (f' := (mkF m 12 #[.val (.ref go), .val (.int k32), .val (.int t32), .val (.ref ao), .val (.int o1), .val (.int l1), .val (.ref bo), .val (.int o2), .unset, .unset] [(.int (t32 - gs.length.toInt32))])) (fun _ k => XS.isub X0.here hx rfl (hb hby d9_11) rfl k) ?_
    refine Go.back (f' := (mkF m 13 #[.val (.ref go), .val (.int k32), .val (.int t32), .val (.ref ao), .val (.int o1), .val (.int l1), .val (.ref bo), .val (.int o2), .unset, .unset] [(.int k32), (.int (t32 - gs.length.toInt32))])) (fun _ k => XS.iloadN X0.here hx rfl (hb hby d9_12) rfl k) ?_
    refine Go.back (f' := (mkF m 14 #[.val (.ref go), .val (.int k32), .val (.int t32), .val (.ref ao), .val (.int o1), .val (.int l1), .val (.ref bo), .val (.int o2), .unset, .unset] [(.int ((t32 - gs.length.toInt32) + k32))])) (fun _ k => XS.iadd X0.here hx rfl (hb hby d9_13) rfl k) ?_
    have hi := add_nat (sub_nat ht (n32 gc) gW) hk (by omega)
    generalize ei : ((t32 - gs.length.toInt32) + k32) = i32
    rw [ei] at hi
    have i8 : W - gs.length + k ≤ 1000 := by omega
    generalize W - gs.length + k = i at hi H1 H2 i8
    refine Go.back (f' := (mkF m 16 #[.val (.ref go), .val (.int k32), .val (.int t32), .val (.ref ao), .val (.int o1), .val (.int l1), .val (.ref bo), .val (.int o2), .val (.int i32), .unset] [])) (fun _ k => XS.istore X0.here hx rfl (hb hby d9_14) rfl (l' := #[.val (.ref go), .val (.int k32), .val (.int t32), .val (.ref ao), .val (.int o1), .val (.int l1), .val (.ref bo), .val (.int o2), .val (.int i32), .unset]) rfl k) ?_
    refine Go.back (f' := (mkF m 18 #[.val (.ref go), .val (.int k32), .val (.int t32), .val (.ref ao), .val (.int o1), .val (.int l1), .val (.ref bo), .val (.int o2), .val (.int i32), .unset] [(.int i32)])) (fun _ k => XS.iload X0.here hx rfl (hb hby d9_16) rfl k) ?_
    refine Go.back (f' := (mkF m 20 #[.val (.ref go), .val (.int k32), .val (.int t32), .val (.ref ao), .val (.int o1), .val (.int l1), .val (.ref bo), .val (.int o2), .val (.int i32), .unset] [(.int l1), (.int i32)])) (fun _ k => XS.iload X0.here hx rfl (hb hby d9_18) rfl k) ?_
    by_cases h2 : i32 < l1
    · refine Go.back (f' := (mkF m 23 #[.val (.ref go), .val (.int k32), .val (.int t32), .val (.ref ao), .val (.int o1), .val (.int l1), .val (.ref bo), .val (.int o2), .val (.int i32), .unset] [])) (fun _ k => XS.icmpNo X0.here hx rfl (hb hby d9_20) rfl (tlt h2).2.1 k) ?_
      obtain ⟨q1, q2⟩ := own_eqD k1 (H1 ((lt_nat hi hl1).mp h2))
      have i9 : i ≤ 1000 := by omega
      refine Go.back (f' := (mkF m 24 #[.val (.ref go), .val (.int k32), .val (.int t32), .val (.ref ao), .val (.int o1), .val (.int l1), .val (.ref bo), .val (.int o2), .val (.int i32), .unset] [(.ref ao)])) (fun _ k => XS.aloadN X0.here hx rfl (hb hby d9_23) rfl rfl k) ?_
      refine Go.back (f' := (mkF m 26 #[.val (.ref go), .val (.int k32), .val (.int t32), .val (.ref ao), .val (.int o1), .val (.int l1), .val (.ref bo), .val (.int o2), .val (.int i32), .unset] [(.int o1), (.ref ao)])) (fun _ k => XS.iload X0.here hx rfl (hb hby d9_24) rfl k) ?_
      refine Go.back (f' := (mkF m 28 #[.val (.ref go), .val (.int k32), .val (.int t32), .val (.ref ao), .val (.int o1), .val (.int l1), .val (.ref bo), .val (.int o2), .val (.int i32), .unset] [(.int i32), (.int o1), (.ref ao)])) (fun _ k => XS.iload X0.here hx rfl (hb hby d9_26) rfl k) ?_
      refine Go.back (f' := (mkF m 29 #[.val (.ref go), .val (.int k32), .val (.int t32), .val (.ref ao), .val (.int o1), .val (.int l1), .val (.ref bo), .val (.int o2), .val (.int i32), .unset] [(.int (o1 + i32)), (.ref ao)])) (fun _ k => XS.iadd X0.here hx rfl (hb hby d9_28) rfl k) ?_
      refine Go.back (f' := (mkF m 30 #[.val (.ref go), .val (.int k32), .val (.int t32), .val (.ref ao), .val (.int o1), .val (.int l1), .val (.ref bo), .val (.int o2), .val (.int i32), .unset] [(.int (al.getD (f1 + i) 0))])) (A.ldB X0 hx hZ e0 (hb hby d9_29) (i := (f1 + i)) (add_nat ho1 hi (by omega)) (own_at q1)) ?_
      refine Go.back (f' := (mkF m 32 #[.val (.ref go), .val (.int k32), .val (.int t32), .val (.ref ao), .val (.int o1), .val (.int l1), .val (.ref bo), .val (.int o2), .val (.int i32), .val (.int (al.getD (f1 + i) 0))] [])) (fun _ k => XS.istore X0.here hx rfl (hb hby d9_30) rfl (l' := #[.val (.ref go), .val (.int k32), .val (.int t32), .val (.ref ao), .val (.int o1), .val (.int l1), .val (.ref bo), .val (.int o2), .val (.int i32), .val (.int (al.getD (f1 + i) 0))]) rfl k) ?_
      refine Go.back (f' := (mkF m 48 #[.val (.ref go), .val (.int k32), .val (.int t32), .val (.ref ao), .val (.int o1), .val (.int l1), .val (.ref bo), .val (.int o2), .val (.int i32), .val (.int (al.getD (f1 + i) 0))] [])) (fun _ k => XS.goto X0.here hx rfl (pc0 := 32) (pc' := 48) rfl (hb hby d9_32) (by decide) (by decide) k) ?_
      refine Go.back (f' := (mkF m 49 #[.val (.ref go), .val (.int k32), .val (.int t32), .val (.ref ao), .val (.int o1), .val (.int l1), .val (.ref bo), .val (.int o2), .val (.int i32), .val (.int (al.getD (f1 + i) 0))] [(.ref go)])) (fun _ k => XS.aloadN X0.here hx rfl (hb hby d9_48) rfl rfl k) ?_
      refine Go.back (f' := (mkF m 50 #[.val (.ref go), .val (.int k32), .val (.int t32), .val (.ref ao), .val (.int o1), .val (.int l1), .val (.ref bo), .val (.int o2), .val (.int i32), .val (.int (al.getD (f1 + i) 0))] [(.int k32), (.ref go)])) (fun _ k => XS.iloadN X0.here hx rfl (hb hby d9_49) rfl k) ?_
      refine Go.back (f' := (mkF m 51 #[.val (.ref go), .val (.int k32), .val (.int t32), .val (.ref ao), .val (.int o1), .val (.int l1), .val (.ref bo), .val (.int o2), .val (.int i32), .val (.int (al.getD (f1 + i) 0))] [(.int (gs.getD k 0))])) (G.ldB X0 hx hZ e0 (hb hby d9_50) (i := k) hk (own_at k1)) ?_
      refine Go.back (f' := (mkF m 53 #[.val (.ref go), .val (.int k32), .val (.int t32), .val (.ref ao), .val (.int o1), .val (.int l1), .val (.ref bo), .val (.int o2), .val (.int i32), .val (.int (al.getD (f1 + i) 0))] [(.int (al.getD (f1 + i) 0)), (.int (gs.getD k 0))])) (fun _ k => XS.iload X0.here hx rfl (hb hby d9_51) rfl k) ?_
      refine Go.back (f' := (mkF m 56 #[.val (.ref go), .val (.int k32), .val (.int t32), .val (.ref ao), .val (.int o1), .val (.int l1), .val (.ref bo), .val (.int o2), .val (.int i32), .val (.int (al.getD (f1 + i) 0))] [])) (fun _ k => XS.icmpNo X0.here hx rfl (hb hby d9_53) rfl (teq q2).2 k) ?_
      refine Go.back (f' := (mkF m 57 #[.val (.ref go), .val (.int k32), .val (.int t32), .val (.ref ao), .val (.int o1), .val (.int l1), .val (.ref bo), .val (.int o2), .val (.int i32), .val (.int (al.getD (f1 + i) 0))] [(.int (1 : Int32))])) (fun _ k => XS.iconst X0.here hx rfl (hb hby d9_56) k) ?_
      refine Go.back (f' := (mkF m 61 #[.val (.ref go), .val (.int k32), .val (.int t32), .val (.ref ao), .val (.int o1), .val (.int l1), .val (.ref bo), .val (.int o2), .val (.int i32), .val (.int (al.getD (f1 + i) 0))] [(.int (1 : Int32))])) (fun _ k => XS.goto X0.here hx rfl (pc0 := 57) (pc' := 61) rfl (hb hby d9_57) (by decide) (by decide) k) ?_
      exact Go.retN X0 hx (t := .boolean) hret (by simp) (w := (1 : Int32)) rfl hlk (hb hby d9_61) (by (try rw [e0]); exact ⟨rfl, rfl, rfl⟩) (Nat.zero_le _) (Nat.zero_le _)
    · refine Go.back (f' := (mkF m 35 #[.val (.ref go), .val (.int k32), .val (.int t32), .val (.ref ao), .val (.int o1), .val (.int l1), .val (.ref bo), .val (.int o2), .val (.int i32), .unset] [])) (fun _ k => XS.icmpYes X0.here hx rfl (pc0 := 20) (pc' := 35) rfl (hb hby d9_20) rfl (flt h2).2.1 (by decide) (by decide) k) ?_
      have j1 : ¬ i < n1 := fun q => h2 ((lt_nat hi hl1).mpr q)
      obtain ⟨q1, q2⟩ := own_eqD k1 (H2 j1)
      have i9 : i ≤ 1000 := by omega
      refine Go.back (f' := (mkF m 37 #[.val (.ref go), .val (.int k32), .val (.int t32), .val (.ref ao), .val (.int o1), .val (.int l1), .val (.ref bo), .val (.int o2), .val (.int i32), .unset] [(.ref bo)])) (fun _ k => XS.aload X0.here hx rfl (hb hby d9_35) rfl rfl k) ?_
      refine Go.back (f' := (mkF m 39 #[.val (.ref go), .val (.int k32), .val (.int t32), .val (.ref ao), .val (.int o1), .val (.int l1), .val (.ref bo), .val (.int o2), .val (.int i32), .unset] [(.int o2), (.ref bo)])) (fun _ k => XS.iload X0.here hx rfl (hb hby d9_37) rfl k) ?_
      refine Go.back (f' := (mkF m 41 #[.val (.ref go), .val (.int k32), .val (.int t32), .val (.ref ao), .val (.int o1), .val (.int l1), .val (.ref bo), .val (.int o2), .val (.int i32), .unset] [(.int i32), (.int o2), (.ref bo)])) (fun _ k => XS.iload X0.here hx rfl (hb hby d9_39) rfl k) ?_
      refine Go.back (f' := (mkF m 42 #[.val (.ref go), .val (.int k32), .val (.int t32), .val (.ref ao), .val (.int o1), .val (.int l1), .val (.ref bo), .val (.int o2), .val (.int i32), .unset] [(.int (o2 + i32)), (.ref bo)])) (fun _ k => XS.iadd X0.here hx rfl (hb hby d9_41) rfl k) ?_
      refine Go.back (f' := (mkF m 44 #[.val (.ref go), .val (.int k32), .val (.int t32), .val (.ref ao), .val (.int o1), .val (.int l1), .val (.ref bo), .val (.int o2), .val (.int i32), .unset] [(.int l1), (.int (o2 + i32)), (.ref bo)])) (fun _ k => XS.iload X0.here hx rfl (hb hby d9_42) rfl k) ?_
      refine Go.back (f' := (mkF m 45 #[.val (.ref go), .val (.int k32), .val (.int t32), .val (.ref ao), .val (.int o1), .val (.int l1), .val (.ref bo), .val (.int o2), .val (.int i32), .unset] [(.int ((o2 + i32) - l1)), (.ref bo)])) (fun _ k => XS.isub X0.here hx rfl (hb hby d9_44) rfl k) ?_
      refine Go.back (f' := (mkF m 46 #[.val (.ref go), .val (.int k32), .val (.int t32), .val (.ref ao), .val (.int o1), .val (.int l1), .val (.ref bo), .val (.int o2), .val (.int i32), .unset] [(.int (bl.getD (f2 + i - n1) 0))])) (B.ldB X0 hx hZ e0 (hb hby d9_45) (i := (f2 + i - n1)) (sub_nat (add_nat ho2 hi (by omega)) hl1 (by omega)) (own_at q1)) ?_
      refine Go.back (f' := (mkF m 48 #[.val (.ref go), .val (.int k32), .val (.int t32), .val (.ref ao), .val (.int o1), .val (.int l1), .val (.ref bo), .val (.int o2), .val (.int i32), .val (.int (bl.getD (f2 + i - n1) 0))] [])) (fun _ k => XS.istore X0.here hx rfl (hb hby d9_46) rfl (l' := #[.val (.ref go), .val (.int k32), .val (.int t32), .val (.ref ao), .val (.int o1), .val (.int l1), .val (.ref bo), .val (.int o2), .val (.int i32), .val (.int (bl.getD (f2 + i - n1) 0))]) rfl k) ?_
      refine Go.back (f' := (mkF m 49 #[.val (.ref go), .val (.int k32), .val (.int t32), .val (.ref ao), .val (.int o1), .val (.int l1), .val (.ref bo), .val (.int o2), .val (.int i32), .val (.int (bl.getD (f2 + i - n1) 0))] [(.ref go)])) (fun _ k => XS.aloadN X0.here hx rfl (hb hby d9_48) rfl rfl k) ?_
      refine Go.back (f' := (mkF m 50 #[.val (.ref go), .val (.int k32), .val (.int t32), .val (.ref ao), .val (.int o1), .val (.int l1), .val (.ref bo), .val (.int o2), .val (.int i32), .val (.int (bl.getD (f2 + i - n1) 0))] [(.int k32), (.ref go)])) (fun _ k => XS.iloadN X0.here hx rfl (hb hby d9_49) rfl k) ?_
      refine Go.back (f' := (mkF m 51 #[.val (.ref go), .val (.int k32), .val (.int t32), .val (.ref ao), .val (.int o1), .val (.int l1), .val (.ref bo), .val (.int o2), .val (.int i32), .val (.int (bl.getD (f2 + i - n1) 0))] [(.int (gs.getD k 0))])) (G.ldB X0 hx hZ e0 (hb hby d9_50) (i := k) hk (own_at k1)) ?_
      refine Go.back (f' := (mkF m 53 #[.val (.ref go), .val (.int k32), .val (.int t32), .val (.ref ao), .val (.int o1), .val (.int l1), .val (.ref bo), .val (.int o2), .val (.int i32), .val (.int (bl.getD (f2 + i - n1) 0))] [(.int (bl.getD (f2 + i - n1) 0)), (.int (gs.getD k 0))])) (fun _ k => XS.iload X0.here hx rfl (hb hby d9_51) rfl k) ?_
      refine Go.back (f' := (mkF m 56 #[.val (.ref go), .val (.int k32), .val (.int t32), .val (.ref ao), .val (.int o1), .val (.int l1), .val (.ref bo), .val (.int o2), .val (.int i32), .val (.int (bl.getD (f2 + i - n1) 0))] [])) (fun _ k => XS.icmpNo X0.here hx rfl (hb hby d9_53) rfl (teq q2).2 k) ?_
      refine Go.back (f' := (mkF m 57 #[.val (.ref go), .val (.int k32), .val (.int t32), .val (.ref ao), .val (.int o1), .val (.int l1), .val (.ref bo), .val (.int o2), .val (.int i32), .val (.int (bl.getD (f2 + i - n1) 0))] [(.int (1 : Int32))])) (fun _ k => XS.iconst X0.here hx rfl (hb hby d9_56) k) ?_
      refine Go.back (f' := (mkF m 61 #[.val (.ref go), .val (.int k32), .val (.int t32), .val (.ref ao), .val (.int o1), .val (.int l1), .val (.ref bo), .val (.int o2), .val (.int i32), .val (.int (bl.getD (f2 + i - n1) 0))] [(.int (1 : Int32))])) (fun _ k => XS.goto X0.here hx rfl (pc0 := 57) (pc' := 61) rfl (hb hby d9_57) (by decide) (by decide) k) ?_
      exact Go.retN X0 hx (t := .boolean) hret (by simp) (w := (1 : Int32)) rfl hlk (hb hby d9_61) (by (try rw [e0]); exact ⟨rfl, rfl, rfl⟩) (Nat.zero_le _) (Nat.zero_le _)
  · refine Go.back (f' := (mkF m 6 #[.val (.ref go), .val (.int k32), .val (.int t32), .val (.ref ao), .val (.int o1), .val (.int l1), .val (.ref bo), .val (.int o2), .unset, .unset] [])) (fun _ k => XS.icmpNo X0.here hx rfl (hb hby d9_3) rfl (flt h1).1 k) ?_
    refine Go.back (f' := (mkF m 7 #[.val (.ref go), .val (.int k32), .val (.int t32), .val (.ref ao), .val (.int o1), .val (.int l1), .val (.ref bo), .val (.int o2), .unset, .unset] [(.int (1 : Int32))])) (fun _ k => XS.iconst X0.here hx rfl (hb hby d9_6) k) ?_
    exact Go.retN X0 hx (t := .boolean) hret (by simp) (w := (1 : Int32)) rfl hlk (hb hby d9_7) (by (try rw [e0]); exact ⟨rfl, rfl, rfl⟩) (Nat.zero_le _) (Nat.zero_le _)
theorem ef_rmSame (m : MethodId) (x0 : Addr) (x1 : Int32) (x2 : Int32) (x3 : Addr) (x4 : Int32) (x5 : Int32) (x6 : Addr) (x7 : Int32) : entryFrame m #[(.ref x0), (.int x1), (.int x2), (.ref x3), (.int x4), (.int x5), (.ref x6), (.int x7)] 8 = mkF m 0 #[.val (.ref x0), .val (.int x1), .val (.int x2), .val (.ref x3), .val (.int x4), .val (.int x5), .val (.ref x6), .val (.int x7)] [] := by first | (simp [entryFrame, mkF, argsToLocals, Value.category]; done) | rfl
set_option maxRecDepth 65536 in
set_option maxHeartbeats 40000000 in
theorem rmSame (l : Launch) (Z : State) (a0 : Array Value) (hw : ∀ d ∈ tables_1, d.before a0 Z = true) (go ao bo : Addr) (c32 t32 o1 l1 o2 : Int32) (gs al bl : List Int32) (c W f1 n1 f2 : Nat) (h0 : Heap) (G : VArr Z h0 go .byte (gs.map Value.int)) (A : VArr Z h0 ao .byte (al.map Value.int)) (B : VArr Z h0 bo .byte (bl.map Value.int)) (hc : c32.toInt = c) (gm : gs.length = min W c) (ht : t32.toInt = W) (ho1 : o1.toInt = f1) (hl1 : l1.toInt = n1) (ho2 : o2.toInt = f2) (hW : W ≤ 1000) (hf1 : f1 ≤ 8) (hf2 : f2 ≤ 8) (gW : gs.length ≤ W) (HS : ∀ k, k < gs.length → (W - gs.length + k < n1 → gs[k]? = al[f1 + (W - gs.length + k)]?) ∧ (¬ W - gs.length + k < n1 → gs[k]? = bl[f2 + (W - gs.length + k) - n1]?)) :
    Met l Z (⟨"com/example/chore_scheduler/chorescheduler/exec/OutputTailWritePinLaw", "same", "([BII[BII[BI)Z"⟩ : MethodName) method_4_code 8 (some .boolean) ({ frames := 1, cells := 0, slots := 0, locals := 24 } : Room) #[(.ref go), (.int c32), (.int t32), (.ref ao), (.int o1), (.int l1), (.ref bo), (.int o2)] h0 (fun v h L => v = some (.int 1) ∧ L = [] ∧ h = h0) := by
  refine Met.intro (plainFor_of_name (by first | (simp [plainName, overriddenIn]; done) | decide +kernel)) ?_
  intro p e s m below meth c T0 hx hby hml hown hnm hret hlk hZ X0 e0
  refine Go.cast (ef_rmSame m go c32 t32 ao o1 l1 bo o2) ?_
  have gc : gs.length < 2147483648 := by omega
  refine Go.back (f' := (mkF m 1 #[.val (.ref go), .val (.int c32), .val (.int t32), .val (.ref ao), .val (.int o1), .val (.int l1), .val (.ref bo), .val (.int o2)] [(.ref go)])) (fun _ k => XS.aloadN X0.here hx rfl (hb hby d8_0) rfl rfl k) ?_
  refine Go.back (f' := (mkF m 2 #[.val (.ref go), .val (.int c32), .val (.int t32), .val (.ref ao), .val (.int o1), .val (.int l1), .val (.ref bo), .val (.int o2)] [(.int ((gs.map Value.int)).length.toInt32)])) (G.lenS X0 hx hZ e0 (hb hby d8_1)) ?_
  rw [List.length_map]
  show GoG _ _ _ _ _ (mkF m 2 #[.val (.ref go), .val (.int c32), .val (.int t32), .val (.ref ao), .val (.int o1), .val (.int l1), .val (.ref bo), .val (.int o2)] [(.int gs.length.toInt32)])
  refine Go.back (f' := (mkF m 3 #[.val (.ref go), .val (.int c32), .val (.int t32), .val (.ref ao), .val (.int o1), .val (.int l1), .val (.ref bo), .val (.int o2)] [(.int t32), (.int gs.length.toInt32)])) (fun _ k => XS.iloadN X0.here hx rfl (hb hby d8_2) rfl k) ?_
  refine Go.back (f' := (mkF m 4 #[.val (.ref go), .val (.int c32), .val (.int t32), .val (.ref ao), .val (.int o1), .val (.int l1), .val (.ref bo), .val (.int o2)] [(.int c32), (.int t32), (.int gs.length.toInt32)])) (fun _ k => XS.iloadN X0.here hx rfl (hb hby d8_3) rfl k) ?_
  refine Go.callS X0 hx hZ hown (hw _ (List.mem_of_getElem? (i := 43) rfl)) (hw _ (List.mem_of_getElem? (i := 34) rfl)) (hw _ (List.mem_of_getElem? (i := 31) rfl)) (hw _ (List.mem_of_getElem? (i := 35) rfl)) (by decide) e0 (argsL := [(.int t32), (.int c32)]) (rest := [(.int gs.length.toInt32)]) (rmMin l Z a0 hw t32 c32 h0) (lenOf pd_0 rfl) rfl (by rw [hml]; rfl) (W := 1) (Nat.le_of_eq rfl) (hb hby d8_4) (by decide) (by decide) (by decide) (by decide) ?_
  intro v78 T78 L78 X78 hQ78
  obtain ⟨rfl, rfl, hh78⟩ := hQ78
  rw [List.append_nil] at X78
  show GoG _ _ _ _ _ (mkF m 7 #[.val (.ref go), .val (.int c32), .val (.int t32), .val (.ref ao), .val (.int o1), .val (.int l1), .val (.ref bo), .val (.int o2)] [(.int (if c32 < t32 then c32 else t32)), (.int gs.length.toInt32)])
  refine Go.back (f' := (mkF m 12 #[.val (.ref go), .val (.int c32), .val (.int t32), .val (.ref ao), .val (.int o1), .val (.int l1), .val (.ref bo), .val (.int o2)] [])) (fun _ k => XS.icmpYes X78.here hx rfl (pc0 := 7) (pc' := 12) rfl (hb hby d8_7) rfl (teq ((eq_nat (n32 gc) (min_nat ht hc)).mpr gm)).1 (by decide) (by decide) k) ?_
  refine Go.back (f' := (mkF m 13 #[.val (.ref go), .val (.int c32), .val (.int t32), .val (.ref ao), .val (.int o1), .val (.int l1), .val (.ref bo), .val (.int o2)] [(.ref go)])) (fun _ k => XS.aloadN X78.here hx rfl (hb hby d8_12) rfl rfl k) ?_
  refine Go.back (f' := (mkF m 14 #[.val (.ref go), .val (.int c32), .val (.int t32), .val (.ref ao), .val (.int o1), .val (.int l1), .val (.ref bo), .val (.int o2)] [(.int (0 : Int32)), (.ref go)])) (fun _ k => XS.iconst X78.here hx rfl (hb hby d8_13) k) ?_
  refine Go.back (f' := (mkF m 15 #[.val (.ref go), .val (.int c32), .val (.int t32), .val (.ref ao), .val (.int o1), .val (.int l1), .val (.ref bo), .val (.int o2)] [(.int t32), (.int (0 : Int32)), (.ref go)])) (fun _ k => XS.iloadN X78.here hx rfl (hb hby d8_14) rfl k) ?_
  refine Go.back (f' := (mkF m 16 #[.val (.ref go), .val (.int c32), .val (.int t32), .val (.ref ao), .val (.int o1), .val (.int l1), .val (.ref bo), .val (.int o2)] [(.ref ao), (.int t32), (.int (0 : Int32)), (.ref go)])) (fun _ k => XS.aloadN X78.here hx rfl (hb hby d8_15) rfl rfl k) ?_
  refine Go.back (f' := (mkF m 18 #[.val (.ref go), .val (.int c32), .val (.int t32), .val (.ref ao), .val (.int o1), .val (.int l1), .val (.ref bo), .val (.int o2)] [(.int o1), (.ref ao), (.int t32), (.int (0 : Int32)), (.ref go)])) (fun _ k => XS.iload X78.here hx rfl (hb hby d8_16) rfl k) ?_
  refine Go.back (f' := (mkF m 20 #[.val (.ref go), .val (.int c32), .val (.int t32), .val (.ref ao), .val (.int o1), .val (.int l1), .val (.ref bo), .val (.int o2)] [(.int l1), (.int o1), (.ref ao), (.int t32), (.int (0 : Int32)), (.ref go)])) (fun _ k => XS.iload X78.here hx rfl (hb hby d8_18) rfl k) ?_
  refine Go.back (f' := (mkF m 22 #[.val (.ref go), .val (.int c32), .val (.int t32), .val (.ref ao), .val (.int o1), .val (.int l1), .val (.ref bo), .val (.int o2)] [(.ref bo), (.int l1), (.int o1), (.ref ao), (.int t32), (.int (0 : Int32)), (.ref go)])) (fun _ k => XS.aload X78.here hx rfl (hb hby d8_20) rfl rfl k) ?_
  refine Go.back (f' := (mkF m 24 #[.val (.ref go), .val (.int c32), .val (.int t32), .val (.ref ao), .val (.int o1), .val (.int l1), .val (.ref bo), .val (.int o2)] [(.int o2), (.ref bo), (.int l1), (.int o1), (.ref ao), (.int t32), (.int (0 : Int32)), (.ref go)])) (fun _ k => XS.iload X78.here hx rfl (hb hby d8_22) rfl k) ?_
  refine Go.callS X78 hx hZ hown (hw _ (List.mem_of_getElem? (i := 44) rfl)) (hw _ (List.mem_of_getElem? (i := 45) rfl)) (hw _ (List.mem_of_getElem? (i := 2) rfl)) (hw _ (List.mem_of_getElem? (i := 46) rfl)) (by decide) hh78 (argsL := [(.ref go), (.int (0 : Int32)), (.int t32), (.ref ao), (.int o1), (.int l1), (.ref bo), (.int o2)]) (rest := []) (rmAt l Z a0 hw go ao bo (0 : Int32) t32 o1 l1 o2 gs al bl 0 W f1 n1 f2 h0 G A B rfl (by decide) ht ho1 hl1 ho2 hW hf1 hf2 gW HS) (lenOf pd_2 rfl) rfl (by rw [hml]; rfl) (W := 0) (Nat.le_of_eq rfl) (hb hby d8_24) (by decide) (by decide) (by decide) (by decide) ?_
  intro v79 T79 L79 X79 hQ79
  obtain ⟨rfl, rfl, hh79⟩ := hQ79
  rw [List.append_nil] at X79
  show GoG _ _ _ _ _ (mkF m 27 #[.val (.ref go), .val (.int c32), .val (.int t32), .val (.ref ao), .val (.int o1), .val (.int l1), .val (.ref bo), .val (.int o2)] [(.int (1 : Int32))])
  refine Go.back (f' := (mkF m 30 #[.val (.ref go), .val (.int c32), .val (.int t32), .val (.ref ao), .val (.int o1), .val (.int l1), .val (.ref bo), .val (.int o2)] [])) (fun _ k => XS.ifNo X79.here hx rfl (hb hby d8_27) rfl ((if0 _ _).trans (feq (by decide)).1) k) ?_
  refine Go.back (f' := (mkF m 31 #[.val (.ref go), .val (.int c32), .val (.int t32), .val (.ref ao), .val (.int o1), .val (.int l1), .val (.ref bo), .val (.int o2)] [(.ref go)])) (fun _ k => XS.aloadN X79.here hx rfl (hb hby d8_30) rfl rfl k) ?_
  refine Go.back (f' := (mkF m 32 #[.val (.ref go), .val (.int c32), .val (.int t32), .val (.ref ao), .val (.int o1), .val (.int l1), .val (.ref bo), .val (.int o2)] [(.int (1 : Int32)), (.ref go)])) (fun _ k => XS.iconst X79.here hx rfl (hb hby d8_31) k) ?_
  refine Go.back (f' := (mkF m 33 #[.val (.ref go), .val (.int c32), .val (.int t32), .val (.ref ao), .val (.int o1), .val (.int l1), .val (.ref bo), .val (.int o2)] [(.int t32), (.int (1 : Int32)), (.ref go)])) (fun _ k => XS.iloadN X79.here hx rfl (hb hby d8_32) rfl k) ?_
  refine Go.back (f' := (mkF m 34 #[.val (.ref go), .val (.int c32), .val (.int t32), .val (.ref ao), .val (.int o1), .val (.int l1), .val (.ref bo), .val (.int o2)] [(.ref ao), (.int t32), (.int (1 : Int32)), (.ref go)])) (fun _ k => XS.aloadN X79.here hx rfl (hb hby d8_33) rfl rfl k) ?_
  refine Go.back (f' := (mkF m 36 #[.val (.ref go), .val (.int c32), .val (.int t32), .val (.ref ao), .val (.int o1), .val (.int l1), .val (.ref bo), .val (.int o2)] [(.int o1), (.ref ao), (.int t32), (.int (1 : Int32)), (.ref go)])) (fun _ k => XS.iload X79.here hx rfl (hb hby d8_34) rfl k) ?_
  refine Go.back (f' := (mkF m 38 #[.val (.ref go), .val (.int c32), .val (.int t32), .val (.ref ao), .val (.int o1), .val (.int l1), .val (.ref bo), .val (.int o2)] [(.int l1), (.int o1), (.ref ao), (.int t32), (.int (1 : Int32)), (.ref go)])) (fun _ k => XS.iload X79.here hx rfl (hb hby d8_36) rfl k) ?_
  refine Go.back (f' := (mkF m 40 #[.val (.ref go), .val (.int c32), .val (.int t32), .val (.ref ao), .val (.int o1), .val (.int l1), .val (.ref bo), .val (.int o2)] [(.ref bo), (.int l1), (.int o1), (.ref ao), (.int t32), (.int (1 : Int32)), (.ref go)])) (fun _ k => XS.aload X79.here hx rfl (hb hby d8_38) rfl rfl k) ?_
  refine Go.back (f' := (mkF m 42 #[.val (.ref go), .val (.int c32), .val (.int t32), .val (.ref ao), .val (.int o1), .val (.int l1), .val (.ref bo), .val (.int o2)] [(.int o2), (.ref bo), (.int l1), (.int o1), (.ref ao), (.int t32), (.int (1 : Int32)), (.ref go)])) (fun _ k => XS.iload X79.here hx rfl (hb hby d8_40) rfl k) ?_
  refine Go.callS X79 hx hZ hown (hw _ (List.mem_of_getElem? (i := 44) rfl)) (hw _ (List.mem_of_getElem? (i := 45) rfl)) (hw _ (List.mem_of_getElem? (i := 2) rfl)) (hw _ (List.mem_of_getElem? (i := 46) rfl)) (by decide) hh79 (argsL := [(.ref go), (.int (1 : Int32)), (.int t32), (.ref ao), (.int o1), (.int l1), (.ref bo), (.int o2)]) (rest := []) (rmAt l Z a0 hw go ao bo (1 : Int32) t32 o1 l1 o2 gs al bl 1 W f1 n1 f2 h0 G A B rfl (by decide) ht ho1 hl1 ho2 hW hf1 hf2 gW HS) (lenOf pd_2 rfl) rfl (by rw [hml]; rfl) (W := 0) (Nat.le_of_eq rfl) (hb hby d8_42) (by decide) (by decide) (by decide) (by decide) ?_
  intro v80 T80 L80 X80 hQ80
  obtain ⟨rfl, rfl, hh80⟩ := hQ80
  rw [List.append_nil] at X80
  show GoG _ _ _ _ _ (mkF m 45 #[.val (.ref go), .val (.int c32), .val (.int t32), .val (.ref ao), .val (.int o1), .val (.int l1), .val (.ref bo), .val (.int o2)] [(.int (1 : Int32))])
  refine Go.back (f' := (mkF m 48 #[.val (.ref go), .val (.int c32), .val (.int t32), .val (.ref ao), .val (.int o1), .val (.int l1), .val (.ref bo), .val (.int o2)] [])) (fun _ k => XS.ifNo X80.here hx rfl (hb hby d8_45) rfl ((if0 _ _).trans (feq (by decide)).1) k) ?_
  refine Go.back (f' := (mkF m 49 #[.val (.ref go), .val (.int c32), .val (.int t32), .val (.ref ao), .val (.int o1), .val (.int l1), .val (.ref bo), .val (.int o2)] [(.ref go)])) (fun _ k => XS.aloadN X80.here hx rfl (hb hby d8_48) rfl rfl k) ?_
  refine Go.back (f' := (mkF m 50 #[.val (.ref go), .val (.int c32), .val (.int t32), .val (.ref ao), .val (.int o1), .val (.int l1), .val (.ref bo), .val (.int o2)] [(.int (2 : Int32)), (.ref go)])) (fun _ k => XS.iconst X80.here hx rfl (hb hby d8_49) k) ?_
  refine Go.back (f' := (mkF m 51 #[.val (.ref go), .val (.int c32), .val (.int t32), .val (.ref ao), .val (.int o1), .val (.int l1), .val (.ref bo), .val (.int o2)] [(.int t32), (.int (2 : Int32)), (.ref go)])) (fun _ k => XS.iloadN X80.here hx rfl (hb hby d8_50) rfl k) ?_
  refine Go.back (f' := (mkF m 52 #[.val (.ref go), .val (.int c32), .val (.int t32), .val (.ref ao), .val (.int o1), .val (.int l1), .val (.ref bo), .val (.int o2)] [(.ref ao), (.int t32), (.int (2 : Int32)), (.ref go)])) (fun _ k => XS.aloadN X80.here hx rfl (hb hby d8_51) rfl rfl k) ?_
  refine Go.back (f' := (mkF m 54 #[.val (.ref go), .val (.int c32), .val (.int t32), .val (.ref ao), .val (.int o1), .val (.int l1), .val (.ref bo), .val (.int o2)] [(.int o1), (.ref ao), (.int t32), (.int (2 : Int32)), (.ref go)])) (fun _ k => XS.iload X80.here hx rfl (hb hby d8_52) rfl k) ?_
  refine Go.back (f' := (mkF m 56 #[.val (.ref go), .val (.int c32), .val (.int t32), .val (.ref ao), .val (.int o1), .val (.int l1), .val (.ref bo), .val (.int o2)] [(.int l1), (.int o1), (.ref ao), (.int t32), (.int (2 : Int32)), (.ref go)])) (fun _ k => XS.iload X80.here hx rfl (hb hby d8_54) rfl k) ?_
  refine Go.back (f' := (mkF m 58 #[.val (.ref go), .val (.int c32), .val (.int t32), .val (.ref ao), .val (.int o1), .val (.int l1), .val (.ref bo), .val (.int o2)] [(.ref bo), (.int l1), (.int o1), (.ref ao), (.int t32), (.int (2 : Int32)), (.ref go)])) (fun _ k => XS.aload X80.here hx rfl (hb hby d8_56) rfl rfl k) ?_
  refine Go.back (f' := (mkF m 60 #[.val (.ref go), .val (.int c32), .val (.int t32), .val (.ref ao), .val (.int o1), .val (.int l1), .val (.ref bo), .val (.int o2)] [(.int o2), (.ref bo), (.int l1), (.int o1), (.ref ao), (.int t32), (.int (2 : Int32)), (.ref go)])) (fun _ k => XS.iload X80.here hx rfl (hb hby d8_58) rfl k) ?_
  refine Go.callS X80 hx hZ hown (hw _ (List.mem_of_getElem? (i := 44) rfl)) (hw _ (List.mem_of_getElem? (i := 45) rfl)) (hw _ (List.mem_of_getElem? (i := 2) rfl)) (hw _ (List.mem_of_getElem? (i := 46) rfl)) (by decide) hh80 (argsL := [(.ref go), (.int (2 : Int32)), (.int t32), (.ref ao), (.int o1), (.int l1), (.ref bo), (.int o2)]) (rest := []) (rmAt l Z a0 hw go ao bo (2 : Int32) t32 o1 l1 o2 gs al bl 2 W f1 n1 f2 h0 G A B rfl (by decide) ht ho1 hl1 ho2 hW hf1 hf2 gW HS) (lenOf pd_2 rfl) rfl (by rw [hml]; rfl) (W := 0) (Nat.le_of_eq rfl) (hb hby d8_60) (by decide) (by decide) (by decide) (by decide) ?_
  intro v81 T81 L81 X81 hQ81
  obtain ⟨rfl, rfl, hh81⟩ := hQ81
  rw [List.append_nil] at X81
  show GoG _ _ _ _ _ (mkF m 63 #[.val (.ref go), .val (.int c32), .val (.int t32), .val (.ref ao), .val (.int o1), .val (.int l1), .val (.ref bo), .val (.int o2)] [(.int (1 : Int32))])
  refine Go.back (f' := (mkF m 66 #[.val (.ref go), .val (.int c32), .val (.int t32), .val (.ref ao), .val (.int o1), .val (.int l1), .val (.ref bo), .val (.int o2)] [])) (fun _ k => XS.ifNo X81.here hx rfl (hb hby d8_63) rfl ((if0 _ _).trans (feq (by decide)).1) k) ?_
  refine Go.back (f' := (mkF m 67 #[.val (.ref go), .val (.int c32), .val (.int t32), .val (.ref ao), .val (.int o1), .val (.int l1), .val (.ref bo), .val (.int o2)] [(.ref go)])) (fun _ k => XS.aloadN X81.here hx rfl (hb hby d8_66) rfl rfl k) ?_
  refine Go.back (f' := (mkF m 68 #[.val (.ref go), .val (.int c32), .val (.int t32), .val (.ref ao), .val (.int o1), .val (.int l1), .val (.ref bo), .val (.int o2)] [(.int (3 : Int32)), (.ref go)])) (fun _ k => XS.iconst X81.here hx rfl (hb hby d8_67) k) ?_
  refine Go.back (f' := (mkF m 69 #[.val (.ref go), .val (.int c32), .val (.int t32), .val (.ref ao), .val (.int o1), .val (.int l1), .val (.ref bo), .val (.int o2)] [(.int t32), (.int (3 : Int32)), (.ref go)])) (fun _ k => XS.iloadN X81.here hx rfl (hb hby d8_68) rfl k) ?_
  refine Go.back (f' := (mkF m 70 #[.val (.ref go), .val (.int c32), .val (.int t32), .val (.ref ao), .val (.int o1), .val (.int l1), .val (.ref bo), .val (.int o2)] [(.ref ao), (.int t32), (.int (3 : Int32)), (.ref go)])) (fun _ k => XS.aloadN X81.here hx rfl (hb hby d8_69) rfl rfl k) ?_
  refine Go.back (f' := (mkF m 72 #[.val (.ref go), .val (.int c32), .val (.int t32), .val (.ref ao), .val (.int o1), .val (.int l1), .val (.ref bo), .val (.int o2)] [(.int o1), (.ref ao), (.int t32), (.int (3 : Int32)), (.ref go)])) (fun _ k => XS.iload X81.here hx rfl (hb hby d8_70) rfl k) ?_
  refine Go.back (f' := (mkF m 74 #[.val (.ref go), .val (.int c32), .val (.int t32), .val (.ref ao), .val (.int o1), .val (.int l1), .val (.ref bo), .val (.int o2)] [(.int l1), (.int o1), (.ref ao), (.int t32), (.int (3 : Int32)), (.ref go)])) (fun _ k => XS.iload X81.here hx rfl (hb hby d8_72) rfl k) ?_
  refine Go.back (f' := (mkF m 76 #[.val (.ref go), .val (.int c32), .val (.int t32), .val (.ref ao), .val (.int o1), .val (.int l1), .val (.ref bo), .val (.int o2)] [(.ref bo), (.int l1), (.int o1), (.ref ao), (.int t32), (.int (3 : Int32)), (.ref go)])) (fun _ k => XS.aload X81.here hx rfl (hb hby d8_74) rfl rfl k) ?_
  refine Go.back (f' := (mkF m 78 #[.val (.ref go), .val (.int c32), .val (.int t32), .val (.ref ao), .val (.int o1), .val (.int l1), .val (.ref bo), .val (.int o2)] [(.int o2), (.ref bo), (.int l1), (.int o1), (.ref ao), (.int t32), (.int (3 : Int32)), (.ref go)])) (fun _ k => XS.iload X81.here hx rfl (hb hby d8_76) rfl k) ?_
  refine Go.callS X81 hx hZ hown (hw _ (List.mem_of_getElem? (i := 44) rfl)) (hw _ (List.mem_of_getElem? (i := 45) rfl)) (hw _ (List.mem_of_getElem? (i := 2) rfl)) (hw _ (List.mem_of_getElem? (i := 46) rfl)) (by decide) hh81 (argsL := [(.ref go), (.int (3 : Int32)), (.int t32), (.ref ao), (.int o1), (.int l1), (.ref bo), (.int o2)]) (rest := []) (rmAt l Z a0 hw go ao bo (3 : Int32) t32 o1 l1 o2 gs al bl 3 W f1 n1 f2 h0 G A B rfl (by decide) ht ho1 hl1 ho2 hW hf1 hf2 gW HS) (lenOf pd_2 rfl) rfl (by rw [hml]; rfl) (W := 0) (Nat.le_of_eq rfl) (hb hby d8_78) (by decide) (by decide) (by decide) (by decide) ?_
  intro v82 T82 L82 X82 hQ82
  obtain ⟨rfl, rfl, hh82⟩ := hQ82
  rw [List.append_nil] at X82
  show GoG _ _ _ _ _ (mkF m 81 #[.val (.ref go), .val (.int c32), .val (.int t32), .val (.ref ao), .val (.int o1), .val (.int l1), .val (.ref bo), .val (.int o2)] [(.int (1 : Int32))])
  refine Go.back (f' := (mkF m 84 #[.val (.ref go), .val (.int c32), .val (.int t32), .val (.ref ao), .val (.int o1), .val (.int l1), .val (.ref bo), .val (.int o2)] [])) (fun _ k => XS.ifNo X82.here hx rfl (hb hby d8_81) rfl ((if0 _ _).trans (feq (by decide)).1) k) ?_
  refine Go.back (f' := (mkF m 85 #[.val (.ref go), .val (.int c32), .val (.int t32), .val (.ref ao), .val (.int o1), .val (.int l1), .val (.ref bo), .val (.int o2)] [(.ref go)])) (fun _ k => XS.aloadN X82.here hx rfl (hb hby d8_84) rfl rfl k) ?_
  refine Go.back (f' := (mkF m 86 #[.val (.ref go), .val (.int c32), .val (.int t32), .val (.ref ao), .val (.int o1), .val (.int l1), .val (.ref bo), .val (.int o2)] [(.int (4 : Int32)), (.ref go)])) (fun _ k => XS.iconst X82.here hx rfl (hb hby d8_85) k) ?_
  refine Go.back (f' := (mkF m 87 #[.val (.ref go), .val (.int c32), .val (.int t32), .val (.ref ao), .val (.int o1), .val (.int l1), .val (.ref bo), .val (.int o2)] [(.int t32), (.int (4 : Int32)), (.ref go)])) (fun _ k => XS.iloadN X82.here hx rfl (hb hby d8_86) rfl k) ?_
  refine Go.back (f' := (mkF m 88 #[.val (.ref go), .val (.int c32), .val (.int t32), .val (.ref ao), .val (.int o1), .val (.int l1), .val (.ref bo), .val (.int o2)] [(.ref ao), (.int t32), (.int (4 : Int32)), (.ref go)])) (fun _ k => XS.aloadN X82.here hx rfl (hb hby d8_87) rfl rfl k) ?_
  refine Go.back (f' := (mkF m 90 #[.val (.ref go), .val (.int c32), .val (.int t32), .val (.ref ao), .val (.int o1), .val (.int l1), .val (.ref bo), .val (.int o2)] [(.int o1), (.ref ao), (.int t32), (.int (4 : Int32)), (.ref go)])) (fun _ k => XS.iload X82.here hx rfl (hb hby d8_88) rfl k) ?_
  refine Go.back (f' := (mkF m 92 #[.val (.ref go), .val (.int c32), .val (.int t32), .val (.ref ao), .val (.int o1), .val (.int l1), .val (.ref bo), .val (.int o2)] [(.int l1), (.int o1), (.ref ao), (.int t32), (.int (4 : Int32)), (.ref go)])) (fun _ k => XS.iload X82.here hx rfl (hb hby d8_90) rfl k) ?_
  refine Go.back (f' := (mkF m 94 #[.val (.ref go), .val (.int c32), .val (.int t32), .val (.ref ao), .val (.int o1), .val (.int l1), .val (.ref bo), .val (.int o2)] [(.ref bo), (.int l1), (.int o1), (.ref ao), (.int t32), (.int (4 : Int32)), (.ref go)])) (fun _ k => XS.aload X82.here hx rfl (hb hby d8_92) rfl rfl k) ?_
  refine Go.back (f' := (mkF m 96 #[.val (.ref go), .val (.int c32), .val (.int t32), .val (.ref ao), .val (.int o1), .val (.int l1), .val (.ref bo), .val (.int o2)] [(.int o2), (.ref bo), (.int l1), (.int o1), (.ref ao), (.int t32), (.int (4 : Int32)), (.ref go)])) (fun _ k => XS.iload X82.here hx rfl (hb hby d8_94) rfl k) ?_
  refine Go.callS X82 hx hZ hown (hw _ (List.mem_of_getElem? (i := 44) rfl)) (hw _ (List.mem_of_getElem? (i := 45) rfl)) (hw _ (List.mem_of_getElem? (i := 2) rfl)) (hw _ (List.mem_of_getElem? (i := 46) rfl)) (by decide) hh82 (argsL := [(.ref go), (.int (4 : Int32)), (.int t32), (.ref ao), (.int o1), (.int l1), (.ref bo), (.int o2)]) (rest := []) (rmAt l Z a0 hw go ao bo (4 : Int32) t32 o1 l1 o2 gs al bl 4 W f1 n1 f2 h0 G A B rfl (by decide) ht ho1 hl1 ho2 hW hf1 hf2 gW HS) (lenOf pd_2 rfl) rfl (by rw [hml]; rfl) (W := 0) (Nat.le_of_eq rfl) (hb hby d8_96) (by decide) (by decide) (by decide) (by decide) ?_
  intro v83 T83 L83 X83 hQ83
  obtain ⟨rfl, rfl, hh83⟩ := hQ83
  rw [List.append_nil] at X83
  show GoG _ _ _ _ _ (mkF m 99 #[.val (.ref go), .val (.int c32), .val (.int t32), .val (.ref ao), .val (.int o1), .val (.int l1), .val (.ref bo), .val (.int o2)] [(.int (1 : Int32))])
  refine Go.back (f' := (mkF m 102 #[.val (.ref go), .val (.int c32), .val (.int t32), .val (.ref ao), .val (.int o1), .val (.int l1), .val (.ref bo), .val (.int o2)] [])) (fun _ k => XS.ifNo X83.here hx rfl (hb hby d8_99) rfl ((if0 _ _).trans (feq (by decide)).1) k) ?_
  refine Go.back (f' := (mkF m 103 #[.val (.ref go), .val (.int c32), .val (.int t32), .val (.ref ao), .val (.int o1), .val (.int l1), .val (.ref bo), .val (.int o2)] [(.ref go)])) (fun _ k => XS.aloadN X83.here hx rfl (hb hby d8_102) rfl rfl k) ?_
  refine Go.back (f' := (mkF m 104 #[.val (.ref go), .val (.int c32), .val (.int t32), .val (.ref ao), .val (.int o1), .val (.int l1), .val (.ref bo), .val (.int o2)] [(.int (5 : Int32)), (.ref go)])) (fun _ k => XS.iconst X83.here hx rfl (hb hby d8_103) k) ?_
  refine Go.back (f' := (mkF m 105 #[.val (.ref go), .val (.int c32), .val (.int t32), .val (.ref ao), .val (.int o1), .val (.int l1), .val (.ref bo), .val (.int o2)] [(.int t32), (.int (5 : Int32)), (.ref go)])) (fun _ k => XS.iloadN X83.here hx rfl (hb hby d8_104) rfl k) ?_
  refine Go.back (f' := (mkF m 106 #[.val (.ref go), .val (.int c32), .val (.int t32), .val (.ref ao), .val (.int o1), .val (.int l1), .val (.ref bo), .val (.int o2)] [(.ref ao), (.int t32), (.int (5 : Int32)), (.ref go)])) (fun _ k => XS.aloadN X83.here hx rfl (hb hby d8_105) rfl rfl k) ?_
  refine Go.back (f' := (mkF m 108 #[.val (.ref go), .val (.int c32), .val (.int t32), .val (.ref ao), .val (.int o1), .val (.int l1), .val (.ref bo), .val (.int o2)] [(.int o1), (.ref ao), (.int t32), (.int (5 : Int32)), (.ref go)])) (fun _ k => XS.iload X83.here hx rfl (hb hby d8_106) rfl k) ?_
  refine Go.back (f' := (mkF m 110 #[.val (.ref go), .val (.int c32), .val (.int t32), .val (.ref ao), .val (.int o1), .val (.int l1), .val (.ref bo), .val (.int o2)] [(.int l1), (.int o1), (.ref ao), (.int t32), (.int (5 : Int32)), (.ref go)])) (fun _ k => XS.iload X83.here hx rfl (hb hby d8_108) rfl k) ?_
  refine Go.back (f' := (mkF m 112 #[.val (.ref go), .val (.int c32), .val (.int t32), .val (.ref ao), .val (.int o1), .val (.int l1), .val (.ref bo), .val (.int o2)] [(.ref bo), (.int l1), (.int o1), (.ref ao), (.int t32), (.int (5 : Int32)), (.ref go)])) (fun _ k => XS.aload X83.here hx rfl (hb hby d8_110) rfl rfl k) ?_
  refine Go.back (f' := (mkF m 114 #[.val (.ref go), .val (.int c32), .val (.int t32), .val (.ref ao), .val (.int o1), .val (.int l1), .val (.ref bo), .val (.int o2)] [(.int o2), (.ref bo), (.int l1), (.int o1), (.ref ao), (.int t32), (.int (5 : Int32)), (.ref go)])) (fun _ k => XS.iload X83.here hx rfl (hb hby d8_112) rfl k) ?_
  refine Go.callS X83 hx hZ hown (hw _ (List.mem_of_getElem? (i := 44) rfl)) (hw _ (List.mem_of_getElem? (i := 45) rfl)) (hw _ (List.mem_of_getElem? (i := 2) rfl)) (hw _ (List.mem_of_getElem? (i := 46) rfl)) (by decide) hh83 (argsL := [(.ref go), (.int (5 : Int32)), (.int t32), (.ref ao), (.int o1), (.int l1), (.ref bo), (.int o2)]) (rest := []) (rmAt l Z a0 hw go ao bo (5 : Int32) t32 o1 l1 o2 gs al bl 5 W f1 n1 f2 h0 G A B rfl (by decide) ht ho1 hl1 ho2 hW hf1 hf2 gW HS) (lenOf pd_2 rfl) rfl (by rw [hml]; rfl) (W := 0) (Nat.le_of_eq rfl) (hb hby d8_114) (by decide) (by decide) (by decide) (by decide) ?_
  intro v84 T84 L84 X84 hQ84
  obtain ⟨rfl, rfl, hh84⟩ := hQ84
  rw [List.append_nil] at X84
  show GoG _ _ _ _ _ (mkF m 117 #[.val (.ref go), .val (.int c32), .val (.int t32), .val (.ref ao), .val (.int o1), .val (.int l1), .val (.ref bo), .val (.int o2)] [(.int (1 : Int32))])
  refine Go.back (f' := (mkF m 120 #[.val (.ref go), .val (.int c32), .val (.int t32), .val (.ref ao), .val (.int o1), .val (.int l1), .val (.ref bo), .val (.int o2)] [])) (fun _ k => XS.ifNo X84.here hx rfl (hb hby d8_117) rfl ((if0 _ _).trans (feq (by decide)).1) k) ?_
  refine Go.back (f' := (mkF m 121 #[.val (.ref go), .val (.int c32), .val (.int t32), .val (.ref ao), .val (.int o1), .val (.int l1), .val (.ref bo), .val (.int o2)] [(.ref go)])) (fun _ k => XS.aloadN X84.here hx rfl (hb hby d8_120) rfl rfl k) ?_
  refine Go.back (f' := (mkF m 123 #[.val (.ref go), .val (.int c32), .val (.int t32), .val (.ref ao), .val (.int o1), .val (.int l1), .val (.ref bo), .val (.int o2)] [(.int (6 : Int32)), (.ref go)])) (fun _ k => XS.bipush X84.here hx rfl (hb hby d8_121) k) ?_
  refine Go.back (f' := (mkF m 124 #[.val (.ref go), .val (.int c32), .val (.int t32), .val (.ref ao), .val (.int o1), .val (.int l1), .val (.ref bo), .val (.int o2)] [(.int t32), (.int (6 : Int32)), (.ref go)])) (fun _ k => XS.iloadN X84.here hx rfl (hb hby d8_123) rfl k) ?_
  refine Go.back (f' := (mkF m 125 #[.val (.ref go), .val (.int c32), .val (.int t32), .val (.ref ao), .val (.int o1), .val (.int l1), .val (.ref bo), .val (.int o2)] [(.ref ao), (.int t32), (.int (6 : Int32)), (.ref go)])) (fun _ k => XS.aloadN X84.here hx rfl (hb hby d8_124) rfl rfl k) ?_
  refine Go.back (f' := (mkF m 127 #[.val (.ref go), .val (.int c32), .val (.int t32), .val (.ref ao), .val (.int o1), .val (.int l1), .val (.ref bo), .val (.int o2)] [(.int o1), (.ref ao), (.int t32), (.int (6 : Int32)), (.ref go)])) (fun _ k => XS.iload X84.here hx rfl (hb hby d8_125) rfl k) ?_
  refine Go.back (f' := (mkF m 129 #[.val (.ref go), .val (.int c32), .val (.int t32), .val (.ref ao), .val (.int o1), .val (.int l1), .val (.ref bo), .val (.int o2)] [(.int l1), (.int o1), (.ref ao), (.int t32), (.int (6 : Int32)), (.ref go)])) (fun _ k => XS.iload X84.here hx rfl (hb hby d8_127) rfl k) ?_
  refine Go.back (f' := (mkF m 131 #[.val (.ref go), .val (.int c32), .val (.int t32), .val (.ref ao), .val (.int o1), .val (.int l1), .val (.ref bo), .val (.int o2)] [(.ref bo), (.int l1), (.int o1), (.ref ao), (.int t32), (.int (6 : Int32)), (.ref go)])) (fun _ k => XS.aload X84.here hx rfl (hb hby d8_129) rfl rfl k) ?_
  refine Go.back (f' := (mkF m 133 #[.val (.ref go), .val (.int c32), .val (.int t32), .val (.ref ao), .val (.int o1), .val (.int l1), .val (.ref bo), .val (.int o2)] [(.int o2), (.ref bo), (.int l1), (.int o1), (.ref ao), (.int t32), (.int (6 : Int32)), (.ref go)])) (fun _ k => XS.iload X84.here hx rfl (hb hby d8_131) rfl k) ?_
  refine Go.callS X84 hx hZ hown (hw _ (List.mem_of_getElem? (i := 44) rfl)) (hw _ (List.mem_of_getElem? (i := 45) rfl)) (hw _ (List.mem_of_getElem? (i := 2) rfl)) (hw _ (List.mem_of_getElem? (i := 46) rfl)) (by decide) hh84 (argsL := [(.ref go), (.int (6 : Int32)), (.int t32), (.ref ao), (.int o1), (.int l1), (.ref bo), (.int o2)]) (rest := []) (rmAt l Z a0 hw go ao bo (6 : Int32) t32 o1 l1 o2 gs al bl 6 W f1 n1 f2 h0 G A B rfl (by decide) ht ho1 hl1 ho2 hW hf1 hf2 gW HS) (lenOf pd_2 rfl) rfl (by rw [hml]; rfl) (W := 0) (Nat.le_of_eq rfl) (hb hby d8_133) (by decide) (by decide) (by decide) (by decide) ?_
  intro v85 T85 L85 X85 hQ85
  obtain ⟨rfl, rfl, hh85⟩ := hQ85
  rw [List.append_nil] at X85
  show GoG _ _ _ _ _ (mkF m 136 #[.val (.ref go), .val (.int c32), .val (.int t32), .val (.ref ao), .val (.int o1), .val (.int l1), .val (.ref bo), .val (.int o2)] [(.int (1 : Int32))])
  refine Go.back (f' := (mkF m 139 #[.val (.ref go), .val (.int c32), .val (.int t32), .val (.ref ao), .val (.int o1), .val (.int l1), .val (.ref bo), .val (.int o2)] [])) (fun _ k => XS.ifNo X85.here hx rfl (hb hby d8_136) rfl ((if0 _ _).trans (feq (by decide)).1) k) ?_
  refine Go.back (f' := (mkF m 140 #[.val (.ref go), .val (.int c32), .val (.int t32), .val (.ref ao), .val (.int o1), .val (.int l1), .val (.ref bo), .val (.int o2)] [(.ref go)])) (fun _ k => XS.aloadN X85.here hx rfl (hb hby d8_139) rfl rfl k) ?_
  refine Go.back (f' := (mkF m 142 #[.val (.ref go), .val (.int c32), .val (.int t32), .val (.ref ao), .val (.int o1), .val (.int l1), .val (.ref bo), .val (.int o2)] [(.int (7 : Int32)), (.ref go)])) (fun _ k => XS.bipush X85.here hx rfl (hb hby d8_140) k) ?_
  refine Go.back (f' := (mkF m 143 #[.val (.ref go), .val (.int c32), .val (.int t32), .val (.ref ao), .val (.int o1), .val (.int l1), .val (.ref bo), .val (.int o2)] [(.int t32), (.int (7 : Int32)), (.ref go)])) (fun _ k => XS.iloadN X85.here hx rfl (hb hby d8_142) rfl k) ?_
  refine Go.back (f' := (mkF m 144 #[.val (.ref go), .val (.int c32), .val (.int t32), .val (.ref ao), .val (.int o1), .val (.int l1), .val (.ref bo), .val (.int o2)] [(.ref ao), (.int t32), (.int (7 : Int32)), (.ref go)])) (fun _ k => XS.aloadN X85.here hx rfl (hb hby d8_143) rfl rfl k) ?_
  refine Go.back (f' := (mkF m 146 #[.val (.ref go), .val (.int c32), .val (.int t32), .val (.ref ao), .val (.int o1), .val (.int l1), .val (.ref bo), .val (.int o2)] [(.int o1), (.ref ao), (.int t32), (.int (7 : Int32)), (.ref go)])) (fun _ k => XS.iload X85.here hx rfl (hb hby d8_144) rfl k) ?_
  refine Go.back (f' := (mkF m 148 #[.val (.ref go), .val (.int c32), .val (.int t32), .val (.ref ao), .val (.int o1), .val (.int l1), .val (.ref bo), .val (.int o2)] [(.int l1), (.int o1), (.ref ao), (.int t32), (.int (7 : Int32)), (.ref go)])) (fun _ k => XS.iload X85.here hx rfl (hb hby d8_146) rfl k) ?_
  refine Go.back (f' := (mkF m 150 #[.val (.ref go), .val (.int c32), .val (.int t32), .val (.ref ao), .val (.int o1), .val (.int l1), .val (.ref bo), .val (.int o2)] [(.ref bo), (.int l1), (.int o1), (.ref ao), (.int t32), (.int (7 : Int32)), (.ref go)])) (fun _ k => XS.aload X85.here hx rfl (hb hby d8_148) rfl rfl k) ?_
  refine Go.back (f' := (mkF m 152 #[.val (.ref go), .val (.int c32), .val (.int t32), .val (.ref ao), .val (.int o1), .val (.int l1), .val (.ref bo), .val (.int o2)] [(.int o2), (.ref bo), (.int l1), (.int o1), (.ref ao), (.int t32), (.int (7 : Int32)), (.ref go)])) (fun _ k => XS.iload X85.here hx rfl (hb hby d8_150) rfl k) ?_
  refine Go.callS X85 hx hZ hown (hw _ (List.mem_of_getElem? (i := 44) rfl)) (hw _ (List.mem_of_getElem? (i := 45) rfl)) (hw _ (List.mem_of_getElem? (i := 2) rfl)) (hw _ (List.mem_of_getElem? (i := 46) rfl)) (by decide) hh85 (argsL := [(.ref go), (.int (7 : Int32)), (.int t32), (.ref ao), (.int o1), (.int l1), (.ref bo), (.int o2)]) (rest := []) (rmAt l Z a0 hw go ao bo (7 : Int32) t32 o1 l1 o2 gs al bl 7 W f1 n1 f2 h0 G A B rfl (by decide) ht ho1 hl1 ho2 hW hf1 hf2 gW HS) (lenOf pd_2 rfl) rfl (by rw [hml]; rfl) (W := 0) (Nat.le_of_eq rfl) (hb hby d8_152) (by decide) (by decide) (by decide) (by decide) ?_
  intro v86 T86 L86 X86 hQ86
  obtain ⟨rfl, rfl, hh86⟩ := hQ86
  rw [List.append_nil] at X86
  show GoG _ _ _ _ _ (mkF m 155 #[.val (.ref go), .val (.int c32), .val (.int t32), .val (.ref ao), .val (.int o1), .val (.int l1), .val (.ref bo), .val (.int o2)] [(.int (1 : Int32))])
  refine Go.back (f' := (mkF m 158 #[.val (.ref go), .val (.int c32), .val (.int t32), .val (.ref ao), .val (.int o1), .val (.int l1), .val (.ref bo), .val (.int o2)] [])) (fun _ k => XS.ifNo X86.here hx rfl (hb hby d8_155) rfl ((if0 _ _).trans (feq (by decide)).1) k) ?_
  refine Go.back (f' := (mkF m 159 #[.val (.ref go), .val (.int c32), .val (.int t32), .val (.ref ao), .val (.int o1), .val (.int l1), .val (.ref bo), .val (.int o2)] [(.int (1 : Int32))])) (fun _ k => XS.iconst X86.here hx rfl (hb hby d8_158) k) ?_
  refine Go.back (f' := (mkF m 163 #[.val (.ref go), .val (.int c32), .val (.int t32), .val (.ref ao), .val (.int o1), .val (.int l1), .val (.ref bo), .val (.int o2)] [(.int (1 : Int32))])) (fun _ k => XS.goto X86.here hx rfl (pc0 := 159) (pc' := 163) rfl (hb hby d8_159) (by decide) (by decide) k) ?_
  exact Go.retN X86 hx (t := .boolean) hret (by simp) (w := (1 : Int32)) rfl hlk (hb hby d8_163) (by (try rw [hh86]); exact ⟨rfl, rfl, rfl⟩) (Nat.zero_le _) (Nat.zero_le _)
theorem ef_rm0 (m : MethodId) (x0 : Int64) (x1 : Int64) (x2 : Int32) (x3 : Int32) (x4 : Int32) : entryFrame m #[(.long x0), (.long x1), (.int x2), (.int x3), (.int x4)] maxLocals = mkF m 0 #[.val (.long x0), .second, .val (.long x1), .second, .val (.int x2), .val (.int x3), .val (.int x4), .unset, .unset, .unset, .unset, .unset, .unset, .unset, .unset, .unset, .unset, .unset, .unset] [] := by first | (simp [entryFrame, mkF, argsToLocals, Value.category, maxLocals]; done) | rfl
set_option maxRecDepth 65536 in
set_option maxHeartbeats 40000000 in
theorem rm0 (l : Launch) (Z : State) (a0 : Array Value) (hw : ∀ d ∈ tables_1, d.before a0 Z = true) (pp qq : Int64) (xx yy cc : Int32) (h0 : Heap)  :
    Met l Z x code maxLocals ret room_1 #[(.long pp), (.long qq), (.int xx), (.int yy), (.int cc)] h0 (fun v h L => v = some (.int 1) ∧ Fr h0.size L) := by
  refine Met.intro (plainFor_of_name (by first | (simp [plainName, overriddenIn]; done) | decide +kernel)) ?_
  intro p e s m below meth c T0 hx hby hml hown hnm hret hlk hZ X0 e0
  refine Go.cast (ef_rm0 m pp qq xx yy cc) ?_
  have hml : c.maxLocals = 19 := hml
  have K0 : Chg h0.size h0 h0 [] [] := Chg.refl (Nat.le_refl _)
  refine Go.back (f' := (mkF m 2 #[.val (.long pp), .second, .val (.long qq), .second, .val (.int xx), .val (.int yy), .val (.int cc), .unset, .unset, .unset, .unset, .unset, .unset, .unset, .unset, .unset, .unset, .unset, .unset] [(.int cc)])) (fun _ k => XS.iload X0.here hx rfl (hb hby at_0) rfl k) ?_
  refine Go.back (f' := (mkF m 4 #[.val (.long pp), .second, .val (.long qq), .second, .val (.int xx), .val (.int yy), .val (.int cc), .unset, .unset, .unset, .unset, .unset, .unset, .unset, .unset, .unset, .unset, .unset, .unset] [(.int (7 : Int32)), (.int cc)])) (fun _ k => XS.bipush X0.here hx rfl (hb hby at_2) k) ?_
  refine Go.back (f' := (mkF m 5 #[.val (.long pp), .second, .val (.long qq), .second, .val (.int xx), .val (.int yy), .val (.int cc), .unset, .unset, .unset, .unset, .unset, .unset, .unset, .unset, .unset, .unset, .unset, .unset] [(.int (cc &&& (7 : Int32)))])) (fun _ k => XS.iand X0.here hx rfl (hb hby at_4) rfl k) ?_
  refine Go.back (f' := (mkF m 6 #[.val (.long pp), .second, .val (.long qq), .second, .val (.int xx), .val (.int yy), .val (.int cc), .unset, .unset, .unset, .unset, .unset, .unset, .unset, .unset, .unset, .unset, .unset, .unset] [(.int (1 : Int32)), (.int (cc &&& (7 : Int32)))])) (fun _ k => XS.iconst X0.here hx rfl (hb hby at_5) k) ?_
  refine Go.back (f' := (mkF m 7 #[.val (.long pp), .second, .val (.long qq), .second, .val (.int xx), .val (.int yy), .val (.int cc), .unset, .unset, .unset, .unset, .unset, .unset, .unset, .unset, .unset, .unset, .unset, .unset] [(.int ((cc &&& (7 : Int32)) + (1 : Int32)))])) (fun _ k => XS.iadd X0.here hx rfl (hb hby at_6) rfl k) ?_
  obtain ⟨ci, hci, c8⟩ := own_m cc 7 3 (by decide) (by decide)
  have hc := add_nat hci (show (1 : Int32).toInt = ((1 : Nat) : Int) from rfl) (by omega)
  generalize ec : ((cc &&& (7 : Int32)) + (1 : Int32)) = c32
  rw [ec] at hc
  refine Go.back (f' := (mkF m 9 #[.val (.long pp), .second, .val (.long qq), .second, .val (.int xx), .val (.int yy), .val (.int cc), .val (.int c32), .unset, .unset, .unset, .unset, .unset, .unset, .unset, .unset, .unset, .unset, .unset] [])) (fun _ k => XS.istore X0.here hx rfl (hb hby at_7) rfl (l' := #[.val (.long pp), .second, .val (.long qq), .second, .val (.int xx), .val (.int yy), .val (.int cc), .val (.int c32), .unset, .unset, .unset, .unset, .unset, .unset, .unset, .unset, .unset, .unset, .unset]) rfl k) ?_
  refine Go.back (f' := (mkF m 10 #[.val (.long pp), .second, .val (.long qq), .second, .val (.int xx), .val (.int yy), .val (.int cc), .val (.int c32), .unset, .unset, .unset, .unset, .unset, .unset, .unset, .unset, .unset, .unset, .unset] [(.long pp)])) (fun _ k => XS.lloadN X0.here hx rfl (hb hby at_9) rfl k) ?_
  refine Go.callS X0 hx hZ hown (hw _ (List.mem_of_getElem? (i := 0) rfl)) (hw _ (List.mem_of_getElem? (i := 1) rfl)) (hw _ (List.mem_of_getElem? (i := 2) rfl)) (hw _ (List.mem_of_getElem? (i := 3) rfl)) (by decide) e0 (argsL := [(.long pp)]) (rest := []) (rmBo l Z a0 hw pp h0.size h0 K0.size) (lenOf pd_3 rfl) rfl (by rw [hml]; rfl) (W := 0) (Nat.le_of_eq rfl) (hb hby at_10) (by decide) (by decide) (by decide) (by decide) ?_
  intro v87 T87 L87 X87 hQ87
  obtain ⟨ao, al, rfl, C87, z87, V87, lal⟩ := hQ87
  have K_88 := K0.call C87 all0
  show GoG _ _ _ _ _ (mkF m 13 #[.val (.long pp), .second, .val (.long qq), .second, .val (.int xx), .val (.int yy), .val (.int cc), .val (.int c32), .unset, .unset, .unset, .unset, .unset, .unset, .unset, .unset, .unset, .unset, .unset] [(.ref ao)])
  refine Go.back (f' := (mkF m 15 #[.val (.long pp), .second, .val (.long qq), .second, .val (.int xx), .val (.int yy), .val (.int cc), .val (.int c32), .val (.ref ao), .unset, .unset, .unset, .unset, .unset, .unset, .unset, .unset, .unset, .unset] [])) (fun _ k => XS.astore X87.here hx rfl (hb hby at_13) rfl rfl (l' := #[.val (.long pp), .second, .val (.long qq), .second, .val (.int xx), .val (.int yy), .val (.int cc), .val (.int c32), .val (.ref ao), .unset, .unset, .unset, .unset, .unset, .unset, .unset, .unset, .unset, .unset]) rfl k) ?_
  refine Go.back (f' := (mkF m 16 #[.val (.long pp), .second, .val (.long qq), .second, .val (.int xx), .val (.int yy), .val (.int cc), .val (.int c32), .val (.ref ao), .unset, .unset, .unset, .unset, .unset, .unset, .unset, .unset, .unset, .unset] [(.long qq)])) (fun _ k => XS.lloadN X87.here hx rfl (hb hby at_15) rfl k) ?_
  refine Go.callS X87 hx hZ hown (hw _ (List.mem_of_getElem? (i := 0) rfl)) (hw _ (List.mem_of_getElem? (i := 1) rfl)) (hw _ (List.mem_of_getElem? (i := 2) rfl)) (hw _ (List.mem_of_getElem? (i := 3) rfl)) (by decide) rfl (argsL := [(.long qq)]) (rest := []) (rmBo l Z a0 hw qq h0.size T87.heap K_88.size) (lenOf pd_3 rfl) rfl (by rw [hml]; rfl) (W := 0) (Nat.le_of_eq rfl) (hb hby at_16) (by decide) (by decide) (by decide) (by decide) ?_
  intro v89 T89 L89 X89 hQ89
  obtain ⟨bo, bl, rfl, C89, z89, V89, lbl⟩ := hQ89
  have ne_ao_bo : ao ≠ bo := Nat.ne_of_lt (Nat.lt_of_lt_of_le V87.lt z89)
  have Ar_90 := V87.keep C89.keep nin0
  have K_91 := K_88.call C89 all0
  show GoG _ _ _ _ _ (mkF m 19 #[.val (.long pp), .second, .val (.long qq), .second, .val (.int xx), .val (.int yy), .val (.int cc), .val (.int c32), .val (.ref ao), .unset, .unset, .unset, .unset, .unset, .unset, .unset, .unset, .unset, .unset] [(.ref bo)])
  refine Go.back (f' := (mkF m 21 #[.val (.long pp), .second, .val (.long qq), .second, .val (.int xx), .val (.int yy), .val (.int cc), .val (.int c32), .val (.ref ao), .val (.ref bo), .unset, .unset, .unset, .unset, .unset, .unset, .unset, .unset, .unset] [])) (fun _ k => XS.astore X89.here hx rfl (hb hby at_19) rfl rfl (l' := #[.val (.long pp), .second, .val (.long qq), .second, .val (.int xx), .val (.int yy), .val (.int cc), .val (.int c32), .val (.ref ao), .val (.ref bo), .unset, .unset, .unset, .unset, .unset, .unset, .unset, .unset, .unset]) rfl k) ?_
  refine Go.back (f' := (mkF m 23 #[.val (.long pp), .second, .val (.long qq), .second, .val (.int xx), .val (.int yy), .val (.int cc), .val (.int c32), .val (.ref ao), .val (.ref bo), .unset, .unset, .unset, .unset, .unset, .unset, .unset, .unset, .unset] [(.int xx)])) (fun _ k => XS.iload X89.here hx rfl (hb hby at_21) rfl k) ?_
  refine Go.back (f' := (mkF m 25 #[.val (.long pp), .second, .val (.long qq), .second, .val (.int xx), .val (.int yy), .val (.int cc), .val (.int c32), .val (.ref ao), .val (.ref bo), .unset, .unset, .unset, .unset, .unset, .unset, .unset, .unset, .unset] [(.int (7 : Int32)), (.int xx)])) (fun _ k => XS.bipush X89.here hx rfl (hb hby at_23) k) ?_
  refine Go.back (f' := (mkF m 26 #[.val (.long pp), .second, .val (.long qq), .second, .val (.int xx), .val (.int yy), .val (.int cc), .val (.int c32), .val (.ref ao), .val (.ref bo), .unset, .unset, .unset, .unset, .unset, .unset, .unset, .unset, .unset] [(.int (xx &&& (7 : Int32)))])) (fun _ k => XS.iand X89.here hx rfl (hb hby at_25) rfl k) ?_
  refine Go.back (f' := (mkF m 28 #[.val (.long pp), .second, .val (.long qq), .second, .val (.int xx), .val (.int yy), .val (.int cc), .val (.int c32), .val (.ref ao), .val (.ref bo), .val (.int (xx &&& (7 : Int32))), .unset, .unset, .unset, .unset, .unset, .unset, .unset, .unset] [])) (fun _ k => XS.istore X89.here hx rfl (hb hby at_26) rfl (l' := #[.val (.long pp), .second, .val (.long qq), .second, .val (.int xx), .val (.int yy), .val (.int cc), .val (.int c32), .val (.ref ao), .val (.ref bo), .val (.int (xx &&& (7 : Int32))), .unset, .unset, .unset, .unset, .unset, .unset, .unset, .unset]) rfl k) ?_
  obtain ⟨f1, hf1, bf1⟩ := own_m xx 7 3 (by decide) (by decide)
  generalize eo1 : (xx &&& (7 : Int32)) = o1
  rw [eo1] at hf1
  have do1 := sub_nat (show (9 : Int32).toInt = ((9 : Nat) : Int) from rfl) hf1 (by omega)
  have zo1 : ¬ ((9 : Int32) - o1) = 0 := fun q => by rw [q] at do1; have e0 : (0 : Int32).toInt = 0 := rfl; omega
  refine Go.back (f' := (mkF m 30 #[.val (.long pp), .second, .val (.long qq), .second, .val (.int xx), .val (.int yy), .val (.int cc), .val (.int c32), .val (.ref ao), .val (.ref bo), .val (.int o1), .unset, .unset, .unset, .unset, .unset, .unset, .unset, .unset] [(.int xx)])) (fun _ k => XS.iload X89.here hx rfl (hb hby at_28) rfl k) ?_
  refine Go.back (f' := (mkF m 31 #[.val (.long pp), .second, .val (.long qq), .second, .val (.int xx), .val (.int yy), .val (.int cc), .val (.int c32), .val (.ref ao), .val (.ref bo), .val (.int o1), .unset, .unset, .unset, .unset, .unset, .unset, .unset, .unset] [(.int (3 : Int32)), (.int xx)])) (fun _ k => XS.iconst X89.here hx rfl (hb hby at_30) k) ?_
  refine Go.back (f' := (mkF m 32 #[.val (.long pp), .second, .val (.long qq), .second, .val (.int xx), .val (.int yy), .val (.int cc), .val (.int c32), .val (.ref ao), .val (.ref bo), .val (.int o1), .unset, .unset, .unset, .unset, .unset, .unset, .unset, .unset] [(.int ((xx.toUInt32 >>> ((3 : Int32) &&& 31).toUInt32).toInt32))])) (fun _ k => XS.iushr X89.here hx rfl (hb hby at_31) rfl k) ?_
  refine Go.back (f' := (mkF m 34 #[.val (.long pp), .second, .val (.long qq), .second, .val (.int xx), .val (.int yy), .val (.int cc), .val (.int c32), .val (.ref ao), .val (.ref bo), .val (.int o1), .unset, .unset, .unset, .unset, .unset, .unset, .unset, .unset] [(.int (2147483647 : Int32)), (.int ((xx.toUInt32 >>> ((3 : Int32) &&& 31).toUInt32).toInt32))])) (fun _ k => X89.ldcInt hx hown (mvT hZ (hw _ (List.mem_of_getElem? (i := 5) rfl))) (g := (mkF m 32 #[.val (.long pp), .second, .val (.long qq), .second, .val (.int xx), .val (.int yy), .val (.int cc), .val (.int c32), .val (.ref ao), .val (.ref bo), .val (.int o1), .unset, .unset, .unset, .unset, .unset, .unset, .unset, .unset] [(.int ((xx.toUInt32 >>> ((3 : Int32) &&& 31).toUInt32).toInt32))])) rfl (hb hby at_32) _ k) ?_
  refine Go.back (f' := (mkF m 35 #[.val (.long pp), .second, .val (.long qq), .second, .val (.int xx), .val (.int yy), .val (.int cc), .val (.int c32), .val (.ref ao), .val (.ref bo), .val (.int o1), .unset, .unset, .unset, .unset, .unset, .unset, .unset, .unset] [(.int (((xx.toUInt32 >>> ((3 : Int32) &&& 31).toUInt32).toInt32) &&& (2147483647 : Int32)))])) (fun _ k => XS.iand X89.here hx rfl (hb hby at_34) rfl k) ?_
  refine Go.back (f' := (mkF m 37 #[.val (.long pp), .second, .val (.long qq), .second, .val (.int xx), .val (.int yy), .val (.int cc), .val (.int c32), .val (.ref ao), .val (.ref bo), .val (.int o1), .unset, .unset, .unset, .unset, .unset, .unset, .unset, .unset] [(.int (9 : Int32)), (.int (((xx.toUInt32 >>> ((3 : Int32) &&& 31).toUInt32).toInt32) &&& (2147483647 : Int32)))])) (fun _ k => XS.bipush X89.here hx rfl (hb hby at_35) k) ?_
  refine Go.back (f' := (mkF m 39 #[.val (.long pp), .second, .val (.long qq), .second, .val (.int xx), .val (.int yy), .val (.int cc), .val (.int c32), .val (.ref ao), .val (.ref bo), .val (.int o1), .unset, .unset, .unset, .unset, .unset, .unset, .unset, .unset] [(.int o1), (.int (9 : Int32)), (.int (((xx.toUInt32 >>> ((3 : Int32) &&& 31).toUInt32).toInt32) &&& (2147483647 : Int32)))])) (fun _ k => XS.iload X89.here hx rfl (hb hby at_37) rfl k) ?_
  refine Go.back (f' := (mkF m 40 #[.val (.long pp), .second, .val (.long qq), .second, .val (.int xx), .val (.int yy), .val (.int cc), .val (.int c32), .val (.ref ao), .val (.ref bo), .val (.int o1), .unset, .unset, .unset, .unset, .unset, .unset, .unset, .unset] [(.int ((9 : Int32) - o1)), (.int (((xx.toUInt32 >>> ((3 : Int32) &&& 31).toUInt32).toInt32) &&& (2147483647 : Int32)))])) (fun _ k => XS.isub X89.here hx rfl (hb hby at_39) rfl k) ?_
  refine Go.back (f' := (mkF m 41 #[.val (.long pp), .second, .val (.long qq), .second, .val (.int xx), .val (.int yy), .val (.int cc), .val (.int c32), .val (.ref ao), .val (.ref bo), .val (.int o1), .unset, .unset, .unset, .unset, .unset, .unset, .unset, .unset] [(.int ((((xx.toUInt32 >>> ((3 : Int32) &&& 31).toUInt32).toInt32) &&& (2147483647 : Int32)) % ((9 : Int32) - o1)))])) (fun _ k => iremM X89 hx rfl (hb hby at_40) rfl zo1 k) ?_
  obtain ⟨mo1, hmo1⟩ := own_ushr xx 3 3 3 (by decide)
  have hn1 := irem_nat hmo1 do1
  have bn1 := Nat.mod_lt mo1 (show 0 < 9 - f1 by omega)
  generalize el1 : ((((xx.toUInt32 >>> ((3 : Int32) &&& 31).toUInt32).toInt32) &&& (2147483647 : Int32)) % ((9 : Int32) - o1)) = l1
  rw [el1] at hn1
  generalize mo1 % (9 - f1) = n1 at hn1 bn1
  refine Go.back (f' := (mkF m 43 #[.val (.long pp), .second, .val (.long qq), .second, .val (.int xx), .val (.int yy), .val (.int cc), .val (.int c32), .val (.ref ao), .val (.ref bo), .val (.int o1), .val (.int l1), .unset, .unset, .unset, .unset, .unset, .unset, .unset] [])) (fun _ k => XS.istore X89.here hx rfl (hb hby at_41) rfl (l' := #[.val (.long pp), .second, .val (.long qq), .second, .val (.int xx), .val (.int yy), .val (.int cc), .val (.int c32), .val (.ref ao), .val (.ref bo), .val (.int o1), .val (.int l1), .unset, .unset, .unset, .unset, .unset, .unset, .unset]) rfl k) ?_
  refine Go.back (f' := (mkF m 45 #[.val (.long pp), .second, .val (.long qq), .second, .val (.int xx), .val (.int yy), .val (.int cc), .val (.int c32), .val (.ref ao), .val (.ref bo), .val (.int o1), .val (.int l1), .unset, .unset, .unset, .unset, .unset, .unset, .unset] [(.int yy)])) (fun _ k => XS.iload X89.here hx rfl (hb hby at_43) rfl k) ?_
  refine Go.back (f' := (mkF m 47 #[.val (.long pp), .second, .val (.long qq), .second, .val (.int xx), .val (.int yy), .val (.int cc), .val (.int c32), .val (.ref ao), .val (.ref bo), .val (.int o1), .val (.int l1), .unset, .unset, .unset, .unset, .unset, .unset, .unset] [(.int (7 : Int32)), (.int yy)])) (fun _ k => XS.bipush X89.here hx rfl (hb hby at_45) k) ?_
  refine Go.back (f' := (mkF m 48 #[.val (.long pp), .second, .val (.long qq), .second, .val (.int xx), .val (.int yy), .val (.int cc), .val (.int c32), .val (.ref ao), .val (.ref bo), .val (.int o1), .val (.int l1), .unset, .unset, .unset, .unset, .unset, .unset, .unset] [(.int (yy &&& (7 : Int32)))])) (fun _ k => XS.iand X89.here hx rfl (hb hby at_47) rfl k) ?_
  refine Go.back (f' := (mkF m 50 #[.val (.long pp), .second, .val (.long qq), .second, .val (.int xx), .val (.int yy), .val (.int cc), .val (.int c32), .val (.ref ao), .val (.ref bo), .val (.int o1), .val (.int l1), .val (.int (yy &&& (7 : Int32))), .unset, .unset, .unset, .unset, .unset, .unset] [])) (fun _ k => XS.istore X89.here hx rfl (hb hby at_48) rfl (l' := #[.val (.long pp), .second, .val (.long qq), .second, .val (.int xx), .val (.int yy), .val (.int cc), .val (.int c32), .val (.ref ao), .val (.ref bo), .val (.int o1), .val (.int l1), .val (.int (yy &&& (7 : Int32))), .unset, .unset, .unset, .unset, .unset, .unset]) rfl k) ?_
  obtain ⟨f2, hf2, bf2⟩ := own_m yy 7 3 (by decide) (by decide)
  generalize eo2 : (yy &&& (7 : Int32)) = o2
  rw [eo2] at hf2
  have do2 := sub_nat (show (9 : Int32).toInt = ((9 : Nat) : Int) from rfl) hf2 (by omega)
  have zo2 : ¬ ((9 : Int32) - o2) = 0 := fun q => by rw [q] at do2; have e0 : (0 : Int32).toInt = 0 := rfl; omega
  refine Go.back (f' := (mkF m 52 #[.val (.long pp), .second, .val (.long qq), .second, .val (.int xx), .val (.int yy), .val (.int cc), .val (.int c32), .val (.ref ao), .val (.ref bo), .val (.int o1), .val (.int l1), .val (.int o2), .unset, .unset, .unset, .unset, .unset, .unset] [(.int yy)])) (fun _ k => XS.iload X89.here hx rfl (hb hby at_50) rfl k) ?_
  refine Go.back (f' := (mkF m 53 #[.val (.long pp), .second, .val (.long qq), .second, .val (.int xx), .val (.int yy), .val (.int cc), .val (.int c32), .val (.ref ao), .val (.ref bo), .val (.int o1), .val (.int l1), .val (.int o2), .unset, .unset, .unset, .unset, .unset, .unset] [(.int (3 : Int32)), (.int yy)])) (fun _ k => XS.iconst X89.here hx rfl (hb hby at_52) k) ?_
  refine Go.back (f' := (mkF m 54 #[.val (.long pp), .second, .val (.long qq), .second, .val (.int xx), .val (.int yy), .val (.int cc), .val (.int c32), .val (.ref ao), .val (.ref bo), .val (.int o1), .val (.int l1), .val (.int o2), .unset, .unset, .unset, .unset, .unset, .unset] [(.int ((yy.toUInt32 >>> ((3 : Int32) &&& 31).toUInt32).toInt32))])) (fun _ k => XS.iushr X89.here hx rfl (hb hby at_53) rfl k) ?_
  refine Go.back (f' := (mkF m 56 #[.val (.long pp), .second, .val (.long qq), .second, .val (.int xx), .val (.int yy), .val (.int cc), .val (.int c32), .val (.ref ao), .val (.ref bo), .val (.int o1), .val (.int l1), .val (.int o2), .unset, .unset, .unset, .unset, .unset, .unset] [(.int (2147483647 : Int32)), (.int ((yy.toUInt32 >>> ((3 : Int32) &&& 31).toUInt32).toInt32))])) (fun _ k => X89.ldcInt hx hown (mvT hZ (hw _ (List.mem_of_getElem? (i := 5) rfl))) (g := (mkF m 54 #[.val (.long pp), .second, .val (.long qq), .second, .val (.int xx), .val (.int yy), .val (.int cc), .val (.int c32), .val (.ref ao), .val (.ref bo), .val (.int o1), .val (.int l1), .val (.int o2), .unset, .unset, .unset, .unset, .unset, .unset] [(.int ((yy.toUInt32 >>> ((3 : Int32) &&& 31).toUInt32).toInt32))])) rfl (hb hby at_54) _ k) ?_
  refine Go.back (f' := (mkF m 57 #[.val (.long pp), .second, .val (.long qq), .second, .val (.int xx), .val (.int yy), .val (.int cc), .val (.int c32), .val (.ref ao), .val (.ref bo), .val (.int o1), .val (.int l1), .val (.int o2), .unset, .unset, .unset, .unset, .unset, .unset] [(.int (((yy.toUInt32 >>> ((3 : Int32) &&& 31).toUInt32).toInt32) &&& (2147483647 : Int32)))])) (fun _ k => XS.iand X89.here hx rfl (hb hby at_56) rfl k) ?_
  refine Go.back (f' := (mkF m 59 #[.val (.long pp), .second, .val (.long qq), .second, .val (.int xx), .val (.int yy), .val (.int cc), .val (.int c32), .val (.ref ao), .val (.ref bo), .val (.int o1), .val (.int l1), .val (.int o2), .unset, .unset, .unset, .unset, .unset, .unset] [(.int (9 : Int32)), (.int (((yy.toUInt32 >>> ((3 : Int32) &&& 31).toUInt32).toInt32) &&& (2147483647 : Int32)))])) (fun _ k => XS.bipush X89.here hx rfl (hb hby at_57) k) ?_
  refine Go.back (f' := (mkF m 61 #[.val (.long pp), .second, .val (.long qq), .second, .val (.int xx), .val (.int yy), .val (.int cc), .val (.int c32), .val (.ref ao), .val (.ref bo), .val (.int o1), .val (.int l1), .val (.int o2), .unset, .unset, .unset, .unset, .unset, .unset] [(.int o2), (.int (9 : Int32)), (.int (((yy.toUInt32 >>> ((3 : Int32) &&& 31).toUInt32).toInt32) &&& (2147483647 : Int32)))])) (fun _ k => XS.iload X89.here hx rfl (hb hby at_59) rfl k) ?_
  refine Go.back (f' := (mkF m 62 #[.val (.long pp), .second, .val (.long qq), .second, .val (.int xx), .val (.int yy), .val (.int cc), .val (.int c32), .val (.ref ao), .val (.ref bo), .val (.int o1), .val (.int l1), .val (.int o2), .unset, .unset, .unset, .unset, .unset, .unset] [(.int ((9 : Int32) - o2)), (.int (((yy.toUInt32 >>> ((3 : Int32) &&& 31).toUInt32).toInt32) &&& (2147483647 : Int32)))])) (fun _ k => XS.isub X89.here hx rfl (hb hby at_61) rfl k) ?_
  refine Go.back (f' := (mkF m 63 #[.val (.long pp), .second, .val (.long qq), .second, .val (.int xx), .val (.int yy), .val (.int cc), .val (.int c32), .val (.ref ao), .val (.ref bo), .val (.int o1), .val (.int l1), .val (.int o2), .unset, .unset, .unset, .unset, .unset, .unset] [(.int ((((yy.toUInt32 >>> ((3 : Int32) &&& 31).toUInt32).toInt32) &&& (2147483647 : Int32)) % ((9 : Int32) - o2)))])) (fun _ k => iremM X89 hx rfl (hb hby at_62) rfl zo2 k) ?_
  obtain ⟨mo2, hmo2⟩ := own_ushr yy 3 3 3 (by decide)
  have hn2 := irem_nat hmo2 do2
  have bn2 := Nat.mod_lt mo2 (show 0 < 9 - f2 by omega)
  generalize el2 : ((((yy.toUInt32 >>> ((3 : Int32) &&& 31).toUInt32).toInt32) &&& (2147483647 : Int32)) % ((9 : Int32) - o2)) = l2
  rw [el2] at hn2
  generalize mo2 % (9 - f2) = n2 at hn2 bn2
  refine Go.back (f' := (mkF m 65 #[.val (.long pp), .second, .val (.long qq), .second, .val (.int xx), .val (.int yy), .val (.int cc), .val (.int c32), .val (.ref ao), .val (.ref bo), .val (.int o1), .val (.int l1), .val (.int o2), .val (.int l2), .unset, .unset, .unset, .unset, .unset] [])) (fun _ k => XS.istore X89.here hx rfl (hb hby at_63) rfl (l' := #[.val (.long pp), .second, .val (.long qq), .second, .val (.int xx), .val (.int yy), .val (.int cc), .val (.int c32), .val (.ref ao), .val (.ref bo), .val (.int o1), .val (.int l1), .val (.int o2), .val (.int l2), .unset, .unset, .unset, .unset, .unset]) rfl k) ?_
  obtain ⟨T92, h92, X92, e92, E92, A92, D92, -, st92⟩ := newO X89 hx hZ hown (hw _ (List.mem_of_getElem? (i := 6) rfl)) (hw _ (List.mem_of_getElem? (i := 7) rfl)) (hw _ (List.mem_of_getElem? (i := 8) rfl)) rfl (g := (mkF m 65 #[.val (.long pp), .second, .val (.long qq), .second, .val (.int xx), .val (.int yy), .val (.int cc), .val (.int c32), .val (.ref ao), .val (.ref bo), .val (.int o1), .val (.int l1), .val (.int o2), .val (.int l2), .unset, .unset, .unset, .unset, .unset] [])) rfl (hb hby at_65) (by decide) (by decide)
  obtain ⟨to, q92⟩ : ∃ z, z = T89.heap.size := ⟨_, rfl⟩
  rw [← q92] at A92 D92 st92
  have ne_ao_to : ao ≠ to := lt_ne q92 Ar_90.lt
  have ne_bo_to : bo ≠ to := lt_ne q92 V89.lt
  have sz_to := K_91.at q92
  have g_to := K_91.ge sz_to
  have Ar_93 := Ar_90.ext E92
  have Ar_94 := V89.ext E92
  have K_95 := K_91.ext E92
  have Fl_96 : Fld Z h92 to "com/example/chore_scheduler/chorescheduler/exec/OutputTail" "ring" "[B" .null := D92 (Or.inr (hw _ (List.mem_of_getElem? (i := 16) rfl))) (ty := (.array .byte)) (by decide)
  have Fl_97 : Fld Z h92 to "com/example/chore_scheduler/chorescheduler/exec/OutputTail" "written" "J" (.long (0 : Int64)) := D92 (Or.inl (hw _ (List.mem_of_getElem? (i := 23) rfl))) (ty := .long) (by decide)
  refine Go.back (f' := (mkF m 68 #[.val (.long pp), .second, .val (.long qq), .second, .val (.int xx), .val (.int yy), .val (.int cc), .val (.int c32), .val (.ref ao), .val (.ref bo), .val (.int o1), .val (.int l1), .val (.int o2), .val (.int l2), .unset, .unset, .unset, .unset, .unset] [(.ref to)])) st92 ?_
  refine Go.back (f' := (mkF m 69 #[.val (.long pp), .second, .val (.long qq), .second, .val (.int xx), .val (.int yy), .val (.int cc), .val (.int c32), .val (.ref ao), .val (.ref bo), .val (.int o1), .val (.int l1), .val (.int o2), .val (.int l2), .unset, .unset, .unset, .unset, .unset] [(.ref to), (.ref to)])) (fun _ k => XS.dup X92.here hx rfl (hb hby at_68) rfl rfl k) ?_
  refine Go.back (f' := (mkF m 71 #[.val (.long pp), .second, .val (.long qq), .second, .val (.int xx), .val (.int yy), .val (.int cc), .val (.int c32), .val (.ref ao), .val (.ref bo), .val (.int o1), .val (.int l1), .val (.int o2), .val (.int l2), .unset, .unset, .unset, .unset, .unset] [(.int c32), (.ref to), (.ref to)])) (fun _ k => XS.iload X92.here hx rfl (hb hby at_69) rfl k) ?_
  refine Go.callI X92 hx hZ rfl hown (hw _ (List.mem_of_getElem? (i := 9) rfl)) (hw _ (List.mem_of_getElem? (i := 10) rfl)) (hw _ (List.mem_of_getElem? (i := 8) rfl)) (hw _ (List.mem_of_getElem? (i := 11) rfl)) (by decide) e92 (a := to) (argsL := [(.int c32)]) (rest := [(.ref to)]) (rmIni l Z a0 hw to c32 (ci + 1) h0.size h92 K_95.size A92 Fl_97 Fl_96 hc (by omega) (by omega) g_to) (lenOf pd_4 rfl) rfl (by rw [hml]; rfl) (W := 1) (Nat.le_of_eq rfl) (hb hby at_71) (by decide) (by decide) (by decide) (by decide) ?_
  intro v98 T98 L98 X98 hQ98
  obtain ⟨rfl, C98, ring, rs0, za98, hrl, R0⟩ := hQ98
  have sz_ring := Nat.le_trans K_95.grow za98
  have g_ring : h0.size ≤ ring := sz_ring
  have ne_ao_ring : ao ≠ ring := Nat.ne_of_lt (Nat.lt_of_lt_of_le Ar_93.lt za98)
  have ne_bo_ring : bo ≠ ring := Nat.ne_of_lt (Nat.lt_of_lt_of_le Ar_94.lt za98)
  have Ar_99 := Ar_93.keep C98.keep (ninS ne_ao_to nin0)
  have Ar_100 := Ar_94.keep C98.keep (ninS ne_bo_to nin0)
  have K_101 := K_95.call C98 (allS (Or.inr sz_to) all0)
  show GoG _ _ _ _ _ (mkF m 74 #[.val (.long pp), .second, .val (.long qq), .second, .val (.int xx), .val (.int yy), .val (.int cc), .val (.int c32), .val (.ref ao), .val (.ref bo), .val (.int o1), .val (.int l1), .val (.int o2), .val (.int l2), .unset, .unset, .unset, .unset, .unset] [(.ref to)])
  refine Go.back (f' := (mkF m 76 #[.val (.long pp), .second, .val (.long qq), .second, .val (.int xx), .val (.int yy), .val (.int cc), .val (.int c32), .val (.ref ao), .val (.ref bo), .val (.int o1), .val (.int l1), .val (.int o2), .val (.int l2), .val (.ref to), .unset, .unset, .unset, .unset] [])) (fun _ k => XS.astore X98.here hx rfl (hb hby at_74) rfl rfl (l' := #[.val (.long pp), .second, .val (.long qq), .second, .val (.int xx), .val (.int yy), .val (.int cc), .val (.int c32), .val (.ref ao), .val (.ref bo), .val (.int o1), .val (.int l1), .val (.int o2), .val (.int l2), .val (.ref to), .unset, .unset, .unset, .unset]) rfl k) ?_
  refine Go.back (f' := (mkF m 78 #[.val (.long pp), .second, .val (.long qq), .second, .val (.int xx), .val (.int yy), .val (.int cc), .val (.int c32), .val (.ref ao), .val (.ref bo), .val (.int o1), .val (.int l1), .val (.int o2), .val (.int l2), .val (.ref to), .unset, .unset, .unset, .unset] [(.ref to)])) (fun _ k => XS.aload X98.here hx rfl (hb hby at_76) rfl rfl k) ?_
  refine Go.back (f' := (mkF m 80 #[.val (.long pp), .second, .val (.long qq), .second, .val (.int xx), .val (.int yy), .val (.int cc), .val (.int c32), .val (.ref ao), .val (.ref bo), .val (.int o1), .val (.int l1), .val (.int o2), .val (.int l2), .val (.ref to), .unset, .unset, .unset, .unset] [(.ref ao), (.ref to)])) (fun _ k => XS.aload X98.here hx rfl (hb hby at_78) rfl rfl k) ?_
  refine Go.back (f' := (mkF m 82 #[.val (.long pp), .second, .val (.long qq), .second, .val (.int xx), .val (.int yy), .val (.int cc), .val (.int c32), .val (.ref ao), .val (.ref bo), .val (.int o1), .val (.int l1), .val (.int o2), .val (.int l2), .val (.ref to), .unset, .unset, .unset, .unset] [(.int o1), (.ref ao), (.ref to)])) (fun _ k => XS.iload X98.here hx rfl (hb hby at_80) rfl k) ?_
  refine Go.back (f' := (mkF m 84 #[.val (.long pp), .second, .val (.long qq), .second, .val (.int xx), .val (.int yy), .val (.int cc), .val (.int c32), .val (.ref ao), .val (.ref bo), .val (.int o1), .val (.int l1), .val (.int o2), .val (.int l2), .val (.ref to), .unset, .unset, .unset, .unset] [(.int l1), (.int o1), (.ref ao), (.ref to)])) (fun _ k => XS.iload X98.here hx rfl (hb hby at_82) rfl k) ?_
  refine Go.callV X98 hx hZ hown (hw _ (List.mem_of_getElem? (i := 17) rfl)) (hw _ (List.mem_of_getElem? (i := 18) rfl)) (hw _ (List.mem_of_getElem? (i := 20) rfl)) (hw _ (List.mem_of_getElem? (i := 19) rfl)) (hw _ (List.mem_of_getElem? (i := 8) rfl)) (hw _ (List.mem_of_getElem? (i := 21) rfl)) (by decide) rfl R0.1 (argsL := [(.ref ao), (.int o1), (.int l1)]) (rest := []) (rmWr l Z a0 hw to ring ao (0 : Int64) o1 l1 rs0 [] al f1 n1 h0.size T98.heap K_101.size R0 Ar_99 (Ne.symm ne_ao_ring) hf1 hn1 (by omega) (by omega) (by simp) g_to g_ring) (lenOf pd_5 rfl) rfl (by rw [hml]; rfl) (W := 0) (Nat.le_of_eq rfl) (hb hby at_84) (by decide) (by decide) (by decide) (by decide) ?_
  intro v102 T102 L102 X102 hQ102
  obtain ⟨rfl, C102, qs102, ql102, R102⟩ := hQ102
  have Ar_103 := Ar_99.keep C102.keep (ninS ne_ao_to (ninS ne_ao_ring nin0))
  have Ar_104 := Ar_100.keep C102.keep (ninS ne_bo_to (ninS ne_bo_ring nin0))
  have K_105 := K_101.call C102 (allS (Or.inr sz_to) (allS (Or.inr sz_ring) all0))
  show GoG _ _ _ _ _ (mkF m 87 #[.val (.long pp), .second, .val (.long qq), .second, .val (.int xx), .val (.int yy), .val (.int cc), .val (.int c32), .val (.ref ao), .val (.ref bo), .val (.int o1), .val (.int l1), .val (.int o2), .val (.int l2), .val (.ref to), .unset, .unset, .unset, .unset] [])
  refine Go.back (f' := (mkF m 89 #[.val (.long pp), .second, .val (.long qq), .second, .val (.int xx), .val (.int yy), .val (.int cc), .val (.int c32), .val (.ref ao), .val (.ref bo), .val (.int o1), .val (.int l1), .val (.int o2), .val (.int l2), .val (.ref to), .unset, .unset, .unset, .unset] [(.ref to)])) (fun _ k => XS.aload X102.here hx rfl (hb hby at_87) rfl rfl k) ?_
  refine Go.callV X102 hx hZ hown (hw _ (List.mem_of_getElem? (i := 24) rfl)) (hw _ (List.mem_of_getElem? (i := 25) rfl)) (hw _ (List.mem_of_getElem? (i := 27) rfl)) (hw _ (List.mem_of_getElem? (i := 26) rfl)) (hw _ (List.mem_of_getElem? (i := 8) rfl)) (hw _ (List.mem_of_getElem? (i := 28) rfl)) (by decide) rfl R102.1 (argsL := []) (rest := []) (rmTb l Z a0 hw to ring ((0 : Int64) + l1.toInt64) qs102 ([] ++ (al.drop f1).take n1) h0.size T102.heap K_105.size R102 (by simp; omega)) (lenOf pd_6 rfl) rfl (by rw [hml]; rfl) (W := 0) (Nat.le_of_eq rfl) (hb hby at_89) (by decide) (by decide) (by decide) (by decide) ?_
  intro v106 T106 L106 X106 hQ106
  obtain ⟨g1, rfl, C106, z106, V106⟩ := hQ106
  have ne_ao_g1 : ao ≠ g1 := Nat.ne_of_lt (Nat.lt_of_lt_of_le Ar_103.lt z106)
  have ne_bo_g1 : bo ≠ g1 := Nat.ne_of_lt (Nat.lt_of_lt_of_le Ar_104.lt z106)
  have ne_g1_to : g1 ≠ to := Ne.symm (Nat.ne_of_lt (Nat.lt_of_lt_of_le R102.1.lt z106))
  have ne_g1_ring : g1 ≠ ring := Ne.symm (Nat.ne_of_lt (Nat.lt_of_lt_of_le R102.2.2.2.1.lt z106))
  have Ar_107 := Ar_103.keep C106.keep nin0
  have Ar_108 := Ar_104.keep C106.keep nin0
  have K_109 := K_105.call C106 all0
  have R_110 := R102.keep0 C106.keep
  show GoG _ _ _ _ _ (mkF m 92 #[.val (.long pp), .second, .val (.long qq), .second, .val (.int xx), .val (.int yy), .val (.int cc), .val (.int c32), .val (.ref ao), .val (.ref bo), .val (.int o1), .val (.int l1), .val (.int o2), .val (.int l2), .val (.ref to), .unset, .unset, .unset, .unset] [(.ref g1)])
  refine Go.back (f' := (mkF m 94 #[.val (.long pp), .second, .val (.long qq), .second, .val (.int xx), .val (.int yy), .val (.int cc), .val (.int c32), .val (.ref ao), .val (.ref bo), .val (.int o1), .val (.int l1), .val (.int o2), .val (.int l2), .val (.ref to), .val (.ref g1), .unset, .unset, .unset] [])) (fun _ k => XS.astore X106.here hx rfl (hb hby at_92) rfl rfl (l' := #[.val (.long pp), .second, .val (.long qq), .second, .val (.int xx), .val (.int yy), .val (.int cc), .val (.int c32), .val (.ref ao), .val (.ref bo), .val (.int o1), .val (.int l1), .val (.int o2), .val (.int l2), .val (.ref to), .val (.ref g1), .unset, .unset, .unset]) rfl k) ?_
  refine Go.back (f' := (mkF m 96 #[.val (.long pp), .second, .val (.long qq), .second, .val (.int xx), .val (.int yy), .val (.int cc), .val (.int c32), .val (.ref ao), .val (.ref bo), .val (.int o1), .val (.int l1), .val (.int o2), .val (.int l2), .val (.ref to), .val (.ref g1), .unset, .unset, .unset] [(.ref g1)])) (fun _ k => XS.aload X106.here hx rfl (hb hby at_94) rfl rfl k) ?_
  refine Go.back (f' := (mkF m 98 #[.val (.long pp), .second, .val (.long qq), .second, .val (.int xx), .val (.int yy), .val (.int cc), .val (.int c32), .val (.ref ao), .val (.ref bo), .val (.int o1), .val (.int l1), .val (.int o2), .val (.int l2), .val (.ref to), .val (.ref g1), .unset, .unset, .unset] [(.int c32), (.ref g1)])) (fun _ k => XS.iload X106.here hx rfl (hb hby at_96) rfl k) ?_
  refine Go.back (f' := (mkF m 100 #[.val (.long pp), .second, .val (.long qq), .second, .val (.int xx), .val (.int yy), .val (.int cc), .val (.int c32), .val (.ref ao), .val (.ref bo), .val (.int o1), .val (.int l1), .val (.int o2), .val (.int l2), .val (.ref to), .val (.ref g1), .unset, .unset, .unset] [(.int l1), (.int c32), (.ref g1)])) (fun _ k => XS.iload X106.here hx rfl (hb hby at_98) rfl k) ?_
  refine Go.back (f' := (mkF m 102 #[.val (.long pp), .second, .val (.long qq), .second, .val (.int xx), .val (.int yy), .val (.int cc), .val (.int c32), .val (.ref ao), .val (.ref bo), .val (.int o1), .val (.int l1), .val (.int o2), .val (.int l2), .val (.ref to), .val (.ref g1), .unset, .unset, .unset] [(.ref ao), (.int l1), (.int c32), (.ref g1)])) (fun _ k => XS.aload X106.here hx rfl (hb hby at_100) rfl rfl k) ?_
  refine Go.back (f' := (mkF m 104 #[.val (.long pp), .second, .val (.long qq), .second, .val (.int xx), .val (.int yy), .val (.int cc), .val (.int c32), .val (.ref ao), .val (.ref bo), .val (.int o1), .val (.int l1), .val (.int o2), .val (.int l2), .val (.ref to), .val (.ref g1), .unset, .unset, .unset] [(.int o1), (.ref ao), (.int l1), (.int c32), (.ref g1)])) (fun _ k => XS.iload X106.here hx rfl (hb hby at_102) rfl k) ?_
  refine Go.back (f' := (mkF m 106 #[.val (.long pp), .second, .val (.long qq), .second, .val (.int xx), .val (.int yy), .val (.int cc), .val (.int c32), .val (.ref ao), .val (.ref bo), .val (.int o1), .val (.int l1), .val (.int o2), .val (.int l2), .val (.ref to), .val (.ref g1), .unset, .unset, .unset] [(.int l1), (.int o1), (.ref ao), (.int l1), (.int c32), (.ref g1)])) (fun _ k => XS.iload X106.here hx rfl (hb hby at_104) rfl k) ?_
  refine Go.back (f' := (mkF m 108 #[.val (.long pp), .second, .val (.long qq), .second, .val (.int xx), .val (.int yy), .val (.int cc), .val (.int c32), .val (.ref ao), .val (.ref bo), .val (.int o1), .val (.int l1), .val (.int o2), .val (.int l2), .val (.ref to), .val (.ref g1), .unset, .unset, .unset] [(.ref bo), (.int l1), (.int o1), (.ref ao), (.int l1), (.int c32), (.ref g1)])) (fun _ k => XS.aload X106.here hx rfl (hb hby at_106) rfl rfl k) ?_
  refine Go.back (f' := (mkF m 110 #[.val (.long pp), .second, .val (.long qq), .second, .val (.int xx), .val (.int yy), .val (.int cc), .val (.int c32), .val (.ref ao), .val (.ref bo), .val (.int o1), .val (.int l1), .val (.int o2), .val (.int l2), .val (.ref to), .val (.ref g1), .unset, .unset, .unset] [(.int o2), (.ref bo), (.int l1), (.int o1), (.ref ao), (.int l1), (.int c32), (.ref g1)])) (fun _ k => XS.iload X106.here hx rfl (hb hby at_108) rfl k) ?_
  have s1 : ([] ++ (al.drop f1).take n1) = (al.drop f1).take n1 ++ (bl.drop f2).take 0 := by simp
  have w1 : ([] ++ (al.drop f1).take n1).length = n1 := by simp; omega
  have rl1 : qs102.length = ci + 1 := (ql102.trans hrl)
  obtain ⟨gm1, HS1⟩ := own_hs (c := qs102.length) (f1 := f1) (by omega) s1 rfl
  have gm_ : (([] ++ (al.drop f1).take n1).drop (([] ++ (al.drop f1).take n1).length - min ([] ++ (al.drop f1).take n1).length qs102.length)).length = min (([] ++ (al.drop f1).take n1).length) (ci + 1) := by rw [gm1, rl1]
  refine Go.callS X106 hx hZ hown (hw _ (List.mem_of_getElem? (i := 40) rfl)) (hw _ (List.mem_of_getElem? (i := 41) rfl)) (hw _ (List.mem_of_getElem? (i := 2) rfl)) (hw _ (List.mem_of_getElem? (i := 42) rfl)) (by decide) rfl (argsL := [(.ref g1), (.int c32), (.int l1), (.ref ao), (.int o1), (.int l1), (.ref bo), (.int o2)]) (rest := []) (rmSame l Z a0 hw g1 ao bo c32 l1 o1 l1 o2 (([] ++ (al.drop f1).take n1).drop (([] ++ (al.drop f1).take n1).length - min ([] ++ (al.drop f1).take n1).length qs102.length)) al bl (ci + 1) (([] ++ (al.drop f1).take n1).length) f1 n1 f2 T106.heap V106 Ar_107 Ar_108 hc gm_ (by rw [w1]; exact hn1) hf1 hn1 hf2 (by omega) (by omega) (by omega) (by rw [gm_]; exact Nat.min_le_left _ _) HS1) (lenOf pd_2 rfl) rfl (by rw [hml]; rfl) (W := 0) (Nat.le_of_eq rfl) (hb hby at_110) (by decide) (by decide) (by decide) (by decide) ?_
  intro v111 T111 L111 X111 hQ111
  obtain ⟨rfl, rfl, hh111⟩ := hQ111
  rw [List.append_nil] at X111
  show GoG _ _ _ _ _ (mkF m 113 #[.val (.long pp), .second, .val (.long qq), .second, .val (.int xx), .val (.int yy), .val (.int cc), .val (.int c32), .val (.ref ao), .val (.ref bo), .val (.int o1), .val (.int l1), .val (.int o2), .val (.int l2), .val (.ref to), .val (.ref g1), .unset, .unset, .unset] [(.int (1 : Int32))])
  refine Go.back (f' := (mkF m 115 #[.val (.long pp), .second, .val (.long qq), .second, .val (.int xx), .val (.int yy), .val (.int cc), .val (.int c32), .val (.ref ao), .val (.ref bo), .val (.int o1), .val (.int l1), .val (.int o2), .val (.int l2), .val (.ref to), .val (.ref g1), .val (.int (1 : Int32)), .unset, .unset] [])) (fun _ k => XS.istore X111.here hx rfl (hb hby at_113) rfl (l' := #[.val (.long pp), .second, .val (.long qq), .second, .val (.int xx), .val (.int yy), .val (.int cc), .val (.int c32), .val (.ref ao), .val (.ref bo), .val (.int o1), .val (.int l1), .val (.int o2), .val (.int l2), .val (.ref to), .val (.ref g1), .val (.int (1 : Int32)), .unset, .unset]) rfl k) ?_
  refine Go.back (f' := (mkF m 117 #[.val (.long pp), .second, .val (.long qq), .second, .val (.int xx), .val (.int yy), .val (.int cc), .val (.int c32), .val (.ref ao), .val (.ref bo), .val (.int o1), .val (.int l1), .val (.int o2), .val (.int l2), .val (.ref to), .val (.ref g1), .val (.int (1 : Int32)), .unset, .unset] [(.ref to)])) (fun _ k => XS.aload X111.here hx rfl (hb hby at_115) rfl rfl k) ?_
  refine Go.back (f' := (mkF m 119 #[.val (.long pp), .second, .val (.long qq), .second, .val (.int xx), .val (.int yy), .val (.int cc), .val (.int c32), .val (.ref ao), .val (.ref bo), .val (.int o1), .val (.int l1), .val (.int o2), .val (.int l2), .val (.ref to), .val (.ref g1), .val (.int (1 : Int32)), .unset, .unset] [(.ref bo), (.ref to)])) (fun _ k => XS.aload X111.here hx rfl (hb hby at_117) rfl rfl k) ?_
  refine Go.back (f' := (mkF m 121 #[.val (.long pp), .second, .val (.long qq), .second, .val (.int xx), .val (.int yy), .val (.int cc), .val (.int c32), .val (.ref ao), .val (.ref bo), .val (.int o1), .val (.int l1), .val (.int o2), .val (.int l2), .val (.ref to), .val (.ref g1), .val (.int (1 : Int32)), .unset, .unset] [(.int o2), (.ref bo), (.ref to)])) (fun _ k => XS.iload X111.here hx rfl (hb hby at_119) rfl k) ?_
  refine Go.back (f' := (mkF m 123 #[.val (.long pp), .second, .val (.long qq), .second, .val (.int xx), .val (.int yy), .val (.int cc), .val (.int c32), .val (.ref ao), .val (.ref bo), .val (.int o1), .val (.int l1), .val (.int o2), .val (.int l2), .val (.ref to), .val (.ref g1), .val (.int (1 : Int32)), .unset, .unset] [(.int l2), (.int o2), (.ref bo), (.ref to)])) (fun _ k => XS.iload X111.here hx rfl (hb hby at_121) rfl k) ?_
  refine Go.callV X111 hx hZ hown (hw _ (List.mem_of_getElem? (i := 17) rfl)) (hw _ (List.mem_of_getElem? (i := 18) rfl)) (hw _ (List.mem_of_getElem? (i := 20) rfl)) (hw _ (List.mem_of_getElem? (i := 19) rfl)) (hw _ (List.mem_of_getElem? (i := 8) rfl)) (hw _ (List.mem_of_getElem? (i := 21) rfl)) (by decide) hh111 R_110.1 (argsL := [(.ref bo), (.int o2), (.int l2)]) (rest := []) (rmWr l Z a0 hw to ring bo ((0 : Int64) + l1.toInt64) o2 l2 qs102 ([] ++ (al.drop f1).take n1) bl f2 n2 h0.size T106.heap K_109.size R_110 Ar_108 (Ne.symm ne_bo_ring) hf2 hn2 (by omega) (by omega) (by rw [w1]; omega) g_to g_ring) (lenOf pd_5 rfl) rfl (by rw [hml]; rfl) (W := 0) (Nat.le_of_eq rfl) (hb hby at_123) (by decide) (by decide) (by decide) (by decide) ?_
  intro v112 T112 L112 X112 hQ112
  obtain ⟨rfl, C112, qs112, ql112, R112⟩ := hQ112
  have Ar_113 := Ar_107.keep C112.keep (ninS ne_ao_to (ninS ne_ao_ring nin0))
  have Ar_114 := Ar_108.keep C112.keep (ninS ne_bo_to (ninS ne_bo_ring nin0))
  have Ar_115 := V106.keep C112.keep (ninS ne_g1_to (ninS ne_g1_ring nin0))
  have K_116 := K_109.call C112 (allS (Or.inr sz_to) (allS (Or.inr sz_ring) all0))
  show GoG _ _ _ _ _ (mkF m 126 #[.val (.long pp), .second, .val (.long qq), .second, .val (.int xx), .val (.int yy), .val (.int cc), .val (.int c32), .val (.ref ao), .val (.ref bo), .val (.int o1), .val (.int l1), .val (.int o2), .val (.int l2), .val (.ref to), .val (.ref g1), .val (.int (1 : Int32)), .unset, .unset] [])
  refine Go.back (f' := (mkF m 128 #[.val (.long pp), .second, .val (.long qq), .second, .val (.int xx), .val (.int yy), .val (.int cc), .val (.int c32), .val (.ref ao), .val (.ref bo), .val (.int o1), .val (.int l1), .val (.int o2), .val (.int l2), .val (.ref to), .val (.ref g1), .val (.int (1 : Int32)), .unset, .unset] [(.ref to)])) (fun _ k => XS.aload X112.here hx rfl (hb hby at_126) rfl rfl k) ?_
  refine Go.callV X112 hx hZ hown (hw _ (List.mem_of_getElem? (i := 24) rfl)) (hw _ (List.mem_of_getElem? (i := 25) rfl)) (hw _ (List.mem_of_getElem? (i := 27) rfl)) (hw _ (List.mem_of_getElem? (i := 26) rfl)) (hw _ (List.mem_of_getElem? (i := 8) rfl)) (hw _ (List.mem_of_getElem? (i := 28) rfl)) (by decide) rfl R112.1 (argsL := []) (rest := []) (rmTb l Z a0 hw to ring (((0 : Int64) + l1.toInt64) + l2.toInt64) qs112 (([] ++ (al.drop f1).take n1) ++ (bl.drop f2).take n2) h0.size T112.heap K_116.size R112 (by simp; omega)) (lenOf pd_6 rfl) rfl (by rw [hml]; rfl) (W := 0) (Nat.le_of_eq rfl) (hb hby at_128) (by decide) (by decide) (by decide) (by decide) ?_
  intro v117 T117 L117 X117 hQ117
  obtain ⟨g2, rfl, C117, z117, V117⟩ := hQ117
  have ne_ao_g2 : ao ≠ g2 := Nat.ne_of_lt (Nat.lt_of_lt_of_le Ar_113.lt z117)
  have ne_bo_g2 : bo ≠ g2 := Nat.ne_of_lt (Nat.lt_of_lt_of_le Ar_114.lt z117)
  have ne_g1_g2 : g1 ≠ g2 := Nat.ne_of_lt (Nat.lt_of_lt_of_le Ar_115.lt z117)
  have ne_g2_to : g2 ≠ to := Ne.symm (Nat.ne_of_lt (Nat.lt_of_lt_of_le R112.1.lt z117))
  have ne_g2_ring : g2 ≠ ring := Ne.symm (Nat.ne_of_lt (Nat.lt_of_lt_of_le R112.2.2.2.1.lt z117))
  have Ar_118 := Ar_113.keep C117.keep nin0
  have Ar_119 := Ar_114.keep C117.keep nin0
  have Ar_120 := Ar_115.keep C117.keep nin0
  have K_121 := K_116.call C117 all0
  have R_122 := R112.keep0 C117.keep
  show GoG _ _ _ _ _ (mkF m 131 #[.val (.long pp), .second, .val (.long qq), .second, .val (.int xx), .val (.int yy), .val (.int cc), .val (.int c32), .val (.ref ao), .val (.ref bo), .val (.int o1), .val (.int l1), .val (.int o2), .val (.int l2), .val (.ref to), .val (.ref g1), .val (.int (1 : Int32)), .unset, .unset] [(.ref g2)])
  refine Go.back (f' := (mkF m 133 #[.val (.long pp), .second, .val (.long qq), .second, .val (.int xx), .val (.int yy), .val (.int cc), .val (.int c32), .val (.ref ao), .val (.ref bo), .val (.int o1), .val (.int l1), .val (.int o2), .val (.int l2), .val (.ref to), .val (.ref g1), .val (.int (1 : Int32)), .val (.ref g2), .unset] [])) (fun _ k => XS.astore X117.here hx rfl (hb hby at_131) rfl rfl (l' := #[.val (.long pp), .second, .val (.long qq), .second, .val (.int xx), .val (.int yy), .val (.int cc), .val (.int c32), .val (.ref ao), .val (.ref bo), .val (.int o1), .val (.int l1), .val (.int o2), .val (.int l2), .val (.ref to), .val (.ref g1), .val (.int (1 : Int32)), .val (.ref g2), .unset]) rfl k) ?_
  refine Go.back (f' := (mkF m 135 #[.val (.long pp), .second, .val (.long qq), .second, .val (.int xx), .val (.int yy), .val (.int cc), .val (.int c32), .val (.ref ao), .val (.ref bo), .val (.int o1), .val (.int l1), .val (.int o2), .val (.int l2), .val (.ref to), .val (.ref g1), .val (.int (1 : Int32)), .val (.ref g2), .unset] [(.ref g2)])) (fun _ k => XS.aload X117.here hx rfl (hb hby at_133) rfl rfl k) ?_
  refine Go.back (f' := (mkF m 137 #[.val (.long pp), .second, .val (.long qq), .second, .val (.int xx), .val (.int yy), .val (.int cc), .val (.int c32), .val (.ref ao), .val (.ref bo), .val (.int o1), .val (.int l1), .val (.int o2), .val (.int l2), .val (.ref to), .val (.ref g1), .val (.int (1 : Int32)), .val (.ref g2), .unset] [(.int c32), (.ref g2)])) (fun _ k => XS.iload X117.here hx rfl (hb hby at_135) rfl k) ?_
  refine Go.back (f' := (mkF m 139 #[.val (.long pp), .second, .val (.long qq), .second, .val (.int xx), .val (.int yy), .val (.int cc), .val (.int c32), .val (.ref ao), .val (.ref bo), .val (.int o1), .val (.int l1), .val (.int o2), .val (.int l2), .val (.ref to), .val (.ref g1), .val (.int (1 : Int32)), .val (.ref g2), .unset] [(.int l1), (.int c32), (.ref g2)])) (fun _ k => XS.iload X117.here hx rfl (hb hby at_137) rfl k) ?_
  refine Go.back (f' := (mkF m 141 #[.val (.long pp), .second, .val (.long qq), .second, .val (.int xx), .val (.int yy), .val (.int cc), .val (.int c32), .val (.ref ao), .val (.ref bo), .val (.int o1), .val (.int l1), .val (.int o2), .val (.int l2), .val (.ref to), .val (.ref g1), .val (.int (1 : Int32)), .val (.ref g2), .unset] [(.int l2), (.int l1), (.int c32), (.ref g2)])) (fun _ k => XS.iload X117.here hx rfl (hb hby at_139) rfl k) ?_
  refine Go.back (f' := (mkF m 142 #[.val (.long pp), .second, .val (.long qq), .second, .val (.int xx), .val (.int yy), .val (.int cc), .val (.int c32), .val (.ref ao), .val (.ref bo), .val (.int o1), .val (.int l1), .val (.int o2), .val (.int l2), .val (.ref to), .val (.ref g1), .val (.int (1 : Int32)), .val (.ref g2), .unset] [(.int (l1 + l2)), (.int c32), (.ref g2)])) (fun _ k => XS.iadd X117.here hx rfl (hb hby at_141) rfl k) ?_
  refine Go.back (f' := (mkF m 144 #[.val (.long pp), .second, .val (.long qq), .second, .val (.int xx), .val (.int yy), .val (.int cc), .val (.int c32), .val (.ref ao), .val (.ref bo), .val (.int o1), .val (.int l1), .val (.int o2), .val (.int l2), .val (.ref to), .val (.ref g1), .val (.int (1 : Int32)), .val (.ref g2), .unset] [(.ref ao), (.int (l1 + l2)), (.int c32), (.ref g2)])) (fun _ k => XS.aload X117.here hx rfl (hb hby at_142) rfl rfl k) ?_
  refine Go.back (f' := (mkF m 146 #[.val (.long pp), .second, .val (.long qq), .second, .val (.int xx), .val (.int yy), .val (.int cc), .val (.int c32), .val (.ref ao), .val (.ref bo), .val (.int o1), .val (.int l1), .val (.int o2), .val (.int l2), .val (.ref to), .val (.ref g1), .val (.int (1 : Int32)), .val (.ref g2), .unset] [(.int o1), (.ref ao), (.int (l1 + l2)), (.int c32), (.ref g2)])) (fun _ k => XS.iload X117.here hx rfl (hb hby at_144) rfl k) ?_
  refine Go.back (f' := (mkF m 148 #[.val (.long pp), .second, .val (.long qq), .second, .val (.int xx), .val (.int yy), .val (.int cc), .val (.int c32), .val (.ref ao), .val (.ref bo), .val (.int o1), .val (.int l1), .val (.int o2), .val (.int l2), .val (.ref to), .val (.ref g1), .val (.int (1 : Int32)), .val (.ref g2), .unset] [(.int l1), (.int o1), (.ref ao), (.int (l1 + l2)), (.int c32), (.ref g2)])) (fun _ k => XS.iload X117.here hx rfl (hb hby at_146) rfl k) ?_
  refine Go.back (f' := (mkF m 150 #[.val (.long pp), .second, .val (.long qq), .second, .val (.int xx), .val (.int yy), .val (.int cc), .val (.int c32), .val (.ref ao), .val (.ref bo), .val (.int o1), .val (.int l1), .val (.int o2), .val (.int l2), .val (.ref to), .val (.ref g1), .val (.int (1 : Int32)), .val (.ref g2), .unset] [(.ref bo), (.int l1), (.int o1), (.ref ao), (.int (l1 + l2)), (.int c32), (.ref g2)])) (fun _ k => XS.aload X117.here hx rfl (hb hby at_148) rfl rfl k) ?_
  refine Go.back (f' := (mkF m 152 #[.val (.long pp), .second, .val (.long qq), .second, .val (.int xx), .val (.int yy), .val (.int cc), .val (.int c32), .val (.ref ao), .val (.ref bo), .val (.int o1), .val (.int l1), .val (.int o2), .val (.int l2), .val (.ref to), .val (.ref g1), .val (.int (1 : Int32)), .val (.ref g2), .unset] [(.int o2), (.ref bo), (.int l1), (.int o1), (.ref ao), (.int (l1 + l2)), (.int c32), (.ref g2)])) (fun _ k => XS.iload X117.here hx rfl (hb hby at_150) rfl k) ?_
  have s2 : (([] ++ (al.drop f1).take n1) ++ (bl.drop f2).take n2) = (al.drop f1).take n1 ++ (bl.drop f2).take n2 := by simp
  have w2 : (([] ++ (al.drop f1).take n1) ++ (bl.drop f2).take n2).length = n1 + n2 := by simp; omega
  have rl2 : qs112.length = ci + 1 := (ql112.trans (ql102.trans hrl))
  obtain ⟨gm2, HS2⟩ := own_hs (c := qs112.length) (f1 := f1) (by omega) s2 rfl
  have gm_ : ((([] ++ (al.drop f1).take n1) ++ (bl.drop f2).take n2).drop ((([] ++ (al.drop f1).take n1) ++ (bl.drop f2).take n2).length - min (([] ++ (al.drop f1).take n1) ++ (bl.drop f2).take n2).length qs112.length)).length = min ((([] ++ (al.drop f1).take n1) ++ (bl.drop f2).take n2).length) (ci + 1) := by rw [gm2, rl2]
  refine Go.callS X117 hx hZ hown (hw _ (List.mem_of_getElem? (i := 40) rfl)) (hw _ (List.mem_of_getElem? (i := 41) rfl)) (hw _ (List.mem_of_getElem? (i := 2) rfl)) (hw _ (List.mem_of_getElem? (i := 42) rfl)) (by decide) rfl (argsL := [(.ref g2), (.int c32), (.int (l1 + l2)), (.ref ao), (.int o1), (.int l1), (.ref bo), (.int o2)]) (rest := []) (rmSame l Z a0 hw g2 ao bo c32 (l1 + l2) o1 l1 o2 ((([] ++ (al.drop f1).take n1) ++ (bl.drop f2).take n2).drop ((([] ++ (al.drop f1).take n1) ++ (bl.drop f2).take n2).length - min (([] ++ (al.drop f1).take n1) ++ (bl.drop f2).take n2).length qs112.length)) al bl (ci + 1) ((([] ++ (al.drop f1).take n1) ++ (bl.drop f2).take n2).length) f1 n1 f2 T117.heap V117 Ar_118 Ar_119 hc gm_ (by rw [w2]; exact (add_nat hn1 hn2 (by omega))) hf1 hn1 hf2 (by omega) (by omega) (by omega) (by rw [gm_]; exact Nat.min_le_left _ _) HS2) (lenOf pd_2 rfl) rfl (by rw [hml]; rfl) (W := 0) (Nat.le_of_eq rfl) (hb hby at_152) (by decide) (by decide) (by decide) (by decide) ?_
  intro v123 T123 L123 X123 hQ123
  obtain ⟨rfl, rfl, hh123⟩ := hQ123
  rw [List.append_nil] at X123
  show GoG _ _ _ _ _ (mkF m 155 #[.val (.long pp), .second, .val (.long qq), .second, .val (.int xx), .val (.int yy), .val (.int cc), .val (.int c32), .val (.ref ao), .val (.ref bo), .val (.int o1), .val (.int l1), .val (.int o2), .val (.int l2), .val (.ref to), .val (.ref g1), .val (.int (1 : Int32)), .val (.ref g2), .unset] [(.int (1 : Int32))])
  refine Go.back (f' := (mkF m 157 #[.val (.long pp), .second, .val (.long qq), .second, .val (.int xx), .val (.int yy), .val (.int cc), .val (.int c32), .val (.ref ao), .val (.ref bo), .val (.int o1), .val (.int l1), .val (.int o2), .val (.int l2), .val (.ref to), .val (.ref g1), .val (.int (1 : Int32)), .val (.ref g2), .val (.int (1 : Int32))] [])) (fun _ k => XS.istore X123.here hx rfl (hb hby at_155) rfl (l' := #[.val (.long pp), .second, .val (.long qq), .second, .val (.int xx), .val (.int yy), .val (.int cc), .val (.int c32), .val (.ref ao), .val (.ref bo), .val (.int o1), .val (.int l1), .val (.int o2), .val (.int l2), .val (.ref to), .val (.ref g1), .val (.int (1 : Int32)), .val (.ref g2), .val (.int (1 : Int32))]) rfl k) ?_
  refine Go.back (f' := (mkF m 159 #[.val (.long pp), .second, .val (.long qq), .second, .val (.int xx), .val (.int yy), .val (.int cc), .val (.int c32), .val (.ref ao), .val (.ref bo), .val (.int o1), .val (.int l1), .val (.int o2), .val (.int l2), .val (.ref to), .val (.ref g1), .val (.int (1 : Int32)), .val (.ref g2), .val (.int (1 : Int32))] [(.int (1 : Int32))])) (fun _ k => XS.iload X123.here hx rfl (hb hby at_157) rfl k) ?_
  refine Go.back (f' := (mkF m 162 #[.val (.long pp), .second, .val (.long qq), .second, .val (.int xx), .val (.int yy), .val (.int cc), .val (.int c32), .val (.ref ao), .val (.ref bo), .val (.int o1), .val (.int l1), .val (.int o2), .val (.int l2), .val (.ref to), .val (.ref g1), .val (.int (1 : Int32)), .val (.ref g2), .val (.int (1 : Int32))] [])) (fun _ k => XS.ifNo X123.here hx rfl (hb hby at_159) rfl ((if0 _ _).trans (feq (by decide)).1) k) ?_
  refine Go.back (f' := (mkF m 164 #[.val (.long pp), .second, .val (.long qq), .second, .val (.int xx), .val (.int yy), .val (.int cc), .val (.int c32), .val (.ref ao), .val (.ref bo), .val (.int o1), .val (.int l1), .val (.int o2), .val (.int l2), .val (.ref to), .val (.ref g1), .val (.int (1 : Int32)), .val (.ref g2), .val (.int (1 : Int32))] [(.int (1 : Int32))])) (fun _ k => XS.iload X123.here hx rfl (hb hby at_162) rfl k) ?_
  refine Go.back (f' := (mkF m 167 #[.val (.long pp), .second, .val (.long qq), .second, .val (.int xx), .val (.int yy), .val (.int cc), .val (.int c32), .val (.ref ao), .val (.ref bo), .val (.int o1), .val (.int l1), .val (.int o2), .val (.int l2), .val (.ref to), .val (.ref g1), .val (.int (1 : Int32)), .val (.ref g2), .val (.int (1 : Int32))] [])) (fun _ k => XS.ifNo X123.here hx rfl (hb hby at_164) rfl ((if0 _ _).trans (feq (by decide)).1) k) ?_
  refine Go.back (f' := (mkF m 168 #[.val (.long pp), .second, .val (.long qq), .second, .val (.int xx), .val (.int yy), .val (.int cc), .val (.int c32), .val (.ref ao), .val (.ref bo), .val (.int o1), .val (.int l1), .val (.int o2), .val (.int l2), .val (.ref to), .val (.ref g1), .val (.int (1 : Int32)), .val (.ref g2), .val (.int (1 : Int32))] [(.int (1 : Int32))])) (fun _ k => XS.iconst X123.here hx rfl (hb hby at_167) k) ?_
  refine Go.back (f' := (mkF m 172 #[.val (.long pp), .second, .val (.long qq), .second, .val (.int xx), .val (.int yy), .val (.int cc), .val (.int c32), .val (.ref ao), .val (.ref bo), .val (.int o1), .val (.int l1), .val (.int o2), .val (.int l2), .val (.ref to), .val (.ref g1), .val (.int (1 : Int32)), .val (.ref g2), .val (.int (1 : Int32))] [(.int (1 : Int32))])) (fun _ k => XS.goto X123.here hx rfl (pc0 := 168) (pc' := 172) rfl (hb hby at_168) (by decide) (by decide) k) ?_
  exact Go.retN X123 hx (t := .boolean) hret (by simp) (w := (1 : Int32)) rfl hlk (hb hby at_172) (by (try rw [hh123]); exact ⟨rfl, K_121.fr⟩) (by decide) (by decide)
set_option maxRecDepth 65536 in
set_option maxHeartbeats 40000000 in
theorem comes_1 {Post : Tables → Env → Array Value → State → Outcome → State → Prop} (hpost : ∀ tb e args s v u, (limb_1_1.after args s (.returned v) u = true ∧ limb_1_2.after args s (.returned v) u = true ∧ True) → FrameEnd s (.returned v) u (Jvm.fieldLocs frame_1_writes args s ++ Jvm.arrayLocs frame_1_arrays args s ++ Jvm.staticLocs frame_1_statics s) 24 192 → Post tb e args s (.returned v) u) :
    ArmFor flags0 classFile x code maxLocals ret World_1 tables_1 room_1 Calls_1 rest_1 Pre_1 Post := by
  intro l hfl _ _ p e ha hc hk s m args below hf hA hF happ hP
  obtain ⟨hcalls, hrest, hpre⟩ := hP
  obtain ⟨-, -, -, hnamed, -, -, -, hat⟩ := (Spec.applies_iff hf).mp happ
  obtain ⟨hg, hn⟩ := and_e (Cond.before_iff.mp (show (Jvm.Cond.and given_1 narrow_1).before args s = true from hpre))
  obtain ⟨hcnt, hg0⟩ := and_e hg
  obtain ⟨ht0, hg1⟩ := and_e hg0
  obtain ⟨ht1, hg2⟩ := and_e hg1
  obtain ⟨ht2, hg3⟩ := and_e hg2
  obtain ⟨ht3, hg4⟩ := and_e hg3
  have ht4 := hg4
  obtain ⟨w0, w1, w2, w3, w4, rfl⟩ : ∃ w0 w1 w2 w3 w4 : Value, args = #[w0, w1, w2, w3, w4] := by
    have hs : args.size = 5 := by simpa [Cond.value, given_1] using hcnt
    obtain ⟨L⟩ := args
    match L, hs with
    | [w0, w1, w2, w3, w4], _ => exact ⟨w0, w1, w2, w3, w4, rfl⟩
  have hw := fun d (hd : d ∈ tables_1) => atoms_spec (ws := Jvm.Cond.code x code maxLocals ret :: tables_1) hat d (List.mem_cons_of_mem _ hd)
  have hfit : Fit s := fun {y c} hc i hi => by
    obtain ⟨ha, rfl⟩ := Array.getElem?_eq_some_iff.mp hc
    have q := List.all_eq_true.mp ((Array.all_eq_true_iff_forall_mem.mp hF) _ (Array.getElem_mem ha)) i (List.mem_range.mpr hi)
    simpa [Array.getElem?_eq_getElem hi] using q
  obtain ⟨i0, ei0⟩ := isL_v ht0
  obtain rfl : w0 = (.long i0) := Option.some.inj ei0
  obtain ⟨i1, ei1⟩ := isL_v ht1
  obtain rfl : w1 = (.long i1) := Option.some.inj ei1
  obtain ⟨i2, ei2⟩ := is_v ht2
  obtain rfl : w2 = (.int i2) := Option.some.inj ei2
  obtain ⟨i3, ei3⟩ := is_v ht3
  obtain rfl : w3 = (.int i3) := Option.some.inj ei3
  obtain ⟨i4, ei4⟩ := is_v ht4
  obtain rfl : w4 = (.int i4) := Option.some.inj ei4
  obtain ⟨n, o, h1, h2, h3, _, L, rfl, ⟨rfl, N⟩, hq⟩ := (rm0 l s _ hw i0 i1 i2 i3 i4 s.heap) tables_1 p e ha hc hk s m _ below hf ((Spec.applies_iff_loose hf).mp happ).1 ⟨rfl, State.Warmed39.refl s, rfl⟩ trivial
  refine ⟨n, _, h1, h2, h3, hpost _ _ _ _ _ _ ⟨Cond.after_iff.mpr rfl, Cond.after_iff.mpr (eq_i res_at (Term.int_eval (1)) rfl), trivial⟩ ⟨hq.1, hq.2.1, (hq.2.2.sift fun y hy => Or.inr (N y hy)).mono (by decide) (by decide)⟩⟩
theorem main_1_1 : Claimed_1_1 := comes_1 fun _ _ _ _ _ _ h hF => ⟨h.1, hF⟩
theorem main_1_2 : Claimed_1_2 := comes_1 fun _ _ _ _ _ _ h hF => ⟨h.2.1, hF⟩
end Jvm.Pilot.@@N@@
namespace Jvm.Pilot.@@N@@
open Jvm Jvm.ClassFile Sem Op Lib Jvm.Free Jvm.Stand Jvm.Pilot.@@N@@.Jvm.D
/-! MADE BY PROGRAM (witnessworld.py) out of the Statement's table words and the real class files: 9 classes; the members and pool entries that the words name. The judged class is class 1, her method 4. -/
namespace start1
open Jvm.ClassFile
def u (s : String) : CpInfo := .utf8 (stringToUtf16 s)
/-- a pool by its gaps: so many unusable entries, then the entry; so many at the end -/
def gap : Nat → List CpInfo → List CpInfo
  | 0, r => r
  | n + 1, r => .unusable :: gap n r
def poolList (es : List (Nat × CpInfo)) (last : Nat) : List CpInfo := es.foldr (fun e r => gap e.1 (e.2 :: r)) (gap last [])
def pool (es : List (Nat × CpInfo)) (last : Nat) : Array CpInfo := ⟨poolList es last⟩
def fileOf (pool : Array CpInfo) (this : Nat) (attrs : Array Attribute := #[]) (ms : Array MethodInfo := #[]) (fl : Nat := 33) (sup : Nat := 0) (ifs : Array Nat := #[]) (fds : Array FieldInfo := #[]) : ClassFile where
  minorVersion := 0
  majorVersion := 65
  constantPool := pool
  accessFlags := fl
  thisClass := this
  superClass := sup
  interfaces := ifs
  fields := fds
  methods := ms
  attributes := attrs
def plain (name : String) (sup : Option ClassId) : Class where
  name := name
  kind := .ordinary
  loader := none
  accessFlags := 33
  super := sup
  interfaces := #[]
  cf := none
  fields := #[]
  methods := #[]
  instanceTypes := #[]
  staticTypes := #[]
  resolved := #[]
  callSites := []
  init := .initialized
  statics := none
  mirror := none

def pool0 : Array CpInfo := pool [(5, u "<init>"), (0, u "()V"), (1, .class_ 10), (1, u "java/lang/Object")] 113

def k0c0 : Code := { maxStack := 0, maxLocals := 1, code := object_method_1_code, exceptionTable := #[], attributes := #[] }
def k0m0 : Method := { name := "<init>", desc := "()V", sig := { parameters := [], returnType := none }, accessFlags := 1, code := some k0c0 }
/-- java/lang/Object -/
def k0 : Class := { plain "java/lang/Object" none with
  accessFlags := 33
  interfaces := #[]
  cf := some (fileOf pool0 8 #[] #[{ accessFlags := 1, nameIndex := 5, descriptorIndex := 6, attributes := #[] }] 33 0 #[] #[])
  fields := #[]
  methods := #[k0m0]
  instanceTypes := #[]
  staticTypes := #[]
  resolved := Array.replicate 124 none
  statics := none }

def pool1 : Array CpInfo := pool [(2, .class_ 4), (1, u "java/lang/Object"), (0, u "<init>"), (0, u "()V"), (0, .methodref 8 9), (0, .class_ 10), (0, .nameAndType 11 12), (0, u "java/lang/Math"), (0, u "min"), (0, u "(II)I"), (0, .methodref 14 15), (0, .class_ 16), (0, .nameAndType 17 18), (0, u "com/example/chore_scheduler/chorescheduler/exec/OutputTailWritePinLaw"), (0, u "at"), (0, u "([BII[BII[BI)Z"), (0, .methodref 14 20), (0, .nameAndType 21 22), (0, u "bytesOf"), (0, u "(J)[B"), (0, .integer 2147483647), (0, .class_ 25), (0, u "com/example/chore_scheduler/chorescheduler/exec/OutputTail"), (0, .methodref 24 27), (0, .nameAndType 5 28), (0, u "(I)V"), (0, .methodref 24 30), (0, .nameAndType 31 32), (0, u "write"), (0, u "([BII)V"), (0, .methodref 24 34), (0, .nameAndType 35 36), (0, u "toByteArray"), (0, u "()[B"), (0, .methodref 14 38), (0, .nameAndType 39 18), (0, u "same"), (3, u "law"), (0, u "(JJIII)Z")] 4

def k1m0 : Method := { name := "<init>", desc := "()V", sig := { parameters := [], returnType := none }, accessFlags := 1, code := none }
def k1c1 : Code := { maxStack := 5, maxLocals := 3, code := method_2_code, exceptionTable := #[], attributes := #[] }
def k1m1 : Method := { name := "bytesOf", desc := "(J)[B", sig := { parameters := [.long], returnType := some (.array .byte) }, accessFlags := 10, code := some k1c1 }
def k1c2 : Code := { maxStack := 3, maxLocals := 10, code := method_3_code, exceptionTable := #[], attributes := #[] }
def k1m2 : Method := { name := "at", desc := "([BII[BII[BI)Z", sig := { parameters := [(.array .byte), .int, .int, (.array .byte), .int, .int, (.array .byte), .int], returnType := some .boolean }, accessFlags := 10, code := some k1c2 }
def k1c3 : Code := { maxStack := 8, maxLocals := 8, code := method_4_code, exceptionTable := #[], attributes := #[] }
def k1m3 : Method := { name := "same", desc := "([BII[BII[BI)Z", sig := { parameters := [(.array .byte), .int, .int, (.array .byte), .int, .int, (.array .byte), .int], returnType := some .boolean }, accessFlags := 10, code := some k1c3 }
def k1c4 : Code := { maxStack := 8, maxLocals := 19, code := code, exceptionTable := #[], attributes := #[] }
def k1m4 : Method := { name := "law", desc := "(JJIII)Z", sig := { parameters := [.long, .long, .int, .int, .int], returnType := some .boolean }, accessFlags := 9, code := some k1c4 }
/-- com/example/chore_scheduler/chorescheduler/exec/OutputTailWritePinLaw -/
def k1 : Class := { plain "com/example/chore_scheduler/chorescheduler/exec/OutputTailWritePinLaw" (some 0) with
  accessFlags := 49
  interfaces := #[]
  cf := some (fileOf pool1 14 #[] #[{ accessFlags := 1, nameIndex := 5, descriptorIndex := 6, attributes := #[] }, { accessFlags := 10, nameIndex := 21, descriptorIndex := 22, attributes := #[] }, { accessFlags := 10, nameIndex := 17, descriptorIndex := 18, attributes := #[] }, { accessFlags := 10, nameIndex := 39, descriptorIndex := 18, attributes := #[] }, { accessFlags := 9, nameIndex := 43, descriptorIndex := 44, attributes := #[] }] 49 2 #[] #[])
  fields := #[]
  methods := #[k1m0, k1m1, k1m2, k1m3, k1m4]
  instanceTypes := #[]
  staticTypes := #[]
  resolved := Array.replicate 49 none
  statics := none }

def pool2 : Array CpInfo := pool [(1, .methodref 2 3), (0, .class_ 4), (0, .nameAndType 5 6), (0, u "java/lang/Object"), (0, u "<init>"), (0, u "()V"), (0, .fieldref 8 9), (0, .class_ 10), (0, .nameAndType 11 12), (0, u "com/example/chore_scheduler/chorescheduler/exec/OutputTail"), (0, u "ring"), (0, u "[B"), (0, .fieldref 8 14), (0, .nameAndType 15 16), (0, u "written"), (0, u "J"), (0, .methodref 18 19), (0, .class_ 20), (0, .nameAndType 21 22), (0, u "java/lang/Math"), (0, u "min"), (0, u "(II)I"), (0, .methodref 24 25), (0, .class_ 26), (0, .nameAndType 27 28), (0, u "java/lang/System"), (0, u "arraycopy"), (0, u "(Ljava/lang/Object;ILjava/lang/Object;II)V"), (0, .methodref 18 30), (0, .nameAndType 21 31), (0, u "(JJ)J"), (0, u "(I)V"), (2, u "write"), (0, u "([BII)V"), (1, u "toByteArray"), (0, u "()[B")] 2

def k2c0 : Code := { maxStack := 2, maxLocals := 2, code := prog_3_method_1_code, exceptionTable := #[], attributes := #[] }
def k2m0 : Method := { name := "<init>", desc := "(I)V", sig := { parameters := [.int], returnType := none }, accessFlags := 0, code := some k2c0 }
def k2c1 : Code := { maxStack := 5, maxLocals := 8, code := prog_3_method_2_code, exceptionTable := #[], attributes := #[] }
def k2m1 : Method := { name := "write", desc := "([BII)V", sig := { parameters := [(.array .byte), .int, .int], returnType := none }, accessFlags := 0, code := some k2c1 }
def k2c2 : Code := { maxStack := 6, maxLocals := 5, code := prog_3_method_3_code, exceptionTable := #[], attributes := #[] }
def k2m2 : Method := { name := "toByteArray", desc := "()[B", sig := { parameters := [], returnType := some (.array .byte) }, accessFlags := 0, code := some k2c2 }
/-- com/example/chore_scheduler/chorescheduler/exec/OutputTail -/
def k2 : Class := { plain "com/example/chore_scheduler/chorescheduler/exec/OutputTail" (some 0) with
  accessFlags := 32
  interfaces := #[]
  cf := some (fileOf pool2 8 #[] #[{ accessFlags := 0, nameIndex := 5, descriptorIndex := 32, attributes := #[] }, { accessFlags := 0, nameIndex := 35, descriptorIndex := 36, attributes := #[] }, { accessFlags := 0, nameIndex := 38, descriptorIndex := 39, attributes := #[] }] 32 2 #[] #[{ accessFlags := 18, nameIndex := 11, descriptorIndex := 12, attributes := #[] }, { accessFlags := 2, nameIndex := 15, descriptorIndex := 16, attributes := #[] }])
  fields := #[{ name := "ring", type := (.array .byte), accessFlags := 18, slot := 0, constantValue := 0 }, { name := "written", type := .long, accessFlags := 2, slot := 1, constantValue := 0 }]
  methods := #[k2m0, k2m1, k2m2]
  instanceTypes := #[(.array .byte), .long]
  staticTypes := #[]
  resolved := Array.replicate 42 none
  statics := none }

def pool3 : Array CpInfo := pool [(1, .class_ 2), (0, u "java/lang/Math"), (1, .class_ 6), (1, u "java/lang/Object"), (0, u "<init>"), (0, u "()V"), (89, .class_ 100), (1, u "java/lang/Math$RandomNumberGeneratorHolder"), (20, u "(JJ)J"), (50, u "negativeZeroFloatBits"), (0, u "J"), (2, u "negativeZeroDoubleBits"), (24, u "min"), (43, u "$assertionsDisabled"), (0, u "Z"), (88, u "(II)I"), (2, u "twoToTheDoubleScaleDown"), (0, u "D"), (4, u "twoToTheDoubleScaleUp"), (9, u "E"), (3, u "PI"), (2, u "TAU"), (2, u "DEGREES_TO_RADIANS"), (0, u "RADIANS_TO_DEGREES")] 94

def k3m0 : Method := { name := "<init>", desc := "()V", sig := { parameters := [], returnType := none }, accessFlags := 2, code := none }
def k3c1 : Code := { maxStack := 2, maxLocals := 2, code := jdk_29_method_69_code, exceptionTable := #[], attributes := #[] }
def k3m1 : Method := { name := "min", desc := "(II)I", sig := { parameters := [.int, .int], returnType := some .int }, accessFlags := 9, code := some k3c1 }
def k3c2 : Code := { maxStack := 4, maxLocals := 4, code := jdk_29_method_70_code, exceptionTable := #[], attributes := #[] }
def k3m2 : Method := { name := "min", desc := "(JJ)J", sig := { parameters := [.long, .long], returnType := some .long }, accessFlags := 9, code := some k3c2 }
/-- java/lang/Math -/
def k3 : Class := { plain "java/lang/Math" (some 0) with
  accessFlags := 49
  interfaces := #[]
  cf := some (fileOf pool3 1 #[.nestMembers #[98]] #[{ accessFlags := 2, nameIndex := 7, descriptorIndex := 8, attributes := #[] }, { accessFlags := 9, nameIndex := 201, descriptorIndex := 335, attributes := #[] }, { accessFlags := 9, nameIndex := 201, descriptorIndex := 121, attributes := #[] }] 49 4 #[] #[{ accessFlags := 25, nameIndex := 354, descriptorIndex := 339, attributes := #[] }, { accessFlags := 25, nameIndex := 358, descriptorIndex := 339, attributes := #[] }, { accessFlags := 25, nameIndex := 361, descriptorIndex := 339, attributes := #[] }, { accessFlags := 26, nameIndex := 364, descriptorIndex := 339, attributes := #[] }, { accessFlags := 26, nameIndex := 365, descriptorIndex := 339, attributes := #[] }, { accessFlags := 26, nameIndex := 172, descriptorIndex := 173, attributes := #[] }, { accessFlags := 26, nameIndex := 176, descriptorIndex := 173, attributes := #[] }, { accessFlags := 8, nameIndex := 344, descriptorIndex := 339, attributes := #[] }, { accessFlags := 8, nameIndex := 338, descriptorIndex := 339, attributes := #[] }, { accessFlags := 4120, nameIndex := 245, descriptorIndex := 246, attributes := #[] }])
  fields := #[{ name := "E", type := .double, accessFlags := 25, slot := 0, constantValue := 0 }, { name := "PI", type := .double, accessFlags := 25, slot := 1, constantValue := 0 }, { name := "TAU", type := .double, accessFlags := 25, slot := 2, constantValue := 0 }, { name := "DEGREES_TO_RADIANS", type := .double, accessFlags := 26, slot := 3, constantValue := 0 }, { name := "RADIANS_TO_DEGREES", type := .double, accessFlags := 26, slot := 4, constantValue := 0 }, { name := "negativeZeroFloatBits", type := .long, accessFlags := 26, slot := 5, constantValue := 0 }, { name := "negativeZeroDoubleBits", type := .long, accessFlags := 26, slot := 6, constantValue := 0 }, { name := "twoToTheDoubleScaleUp", type := .double, accessFlags := 8, slot := 7, constantValue := 0 }, { name := "twoToTheDoubleScaleDown", type := .double, accessFlags := 8, slot := 8, constantValue := 0 }, { name := "$assertionsDisabled", type := .boolean, accessFlags := 4120, slot := 9, constantValue := 0 }]
  methods := #[k3m0, k3m1, k3m2]
  instanceTypes := #[]
  staticTypes := #[.double, .double, .double, .double, .double, .long, .long, .double, .double, .boolean]
  resolved := Array.replicate 460 none
  statics := none }

def pool4 : Array CpInfo := pool [(2, .class_ 4), (1, u "java/lang/Object"), (0, u "<init>"), (0, u "()V"), (1, .class_ 10), (1, u "java/lang/System"), (0, u "allowSecurityManager"), (0, u "I"), (16, u "cons"), (0, u "Ljava/io/Console;"), (77, .class_ 110), (1, u "java/lang/System$CallersHolder"), (43, u "initialErrStream"), (0, u "Ljava/io/PrintStream;"), (19, u "security"), (0, u "Ljava/lang/SecurityManager;"), (31, .class_ 209), (0, u "java/lang/System$1"), (7, u "props"), (0, u "Ljava/util/Properties;"), (2, u "lineSeparator"), (0, u "Ljava/lang/String;"), (96, .class_ 321), (1, u "java/lang/System$LoggerFinder"), (5, .class_ 328), (0, u "java/lang/System$Logger"), (67, u "err"), (2, u "out"), (91, u "notSupportedJnuEncoding"), (15, u "in"), (17, u "initialIn"), (0, u "Ljava/io/InputStream;"), (35, u "bootLayer"), (0, u "Ljava/lang/ModuleLayer;"), (99, .class_ 664), (0, u "java/lang/System$2"), (9, u "NEVER"), (2, u "MAYBE"), (49, u "arraycopy"), (0, u "(Ljava/lang/Object;ILjava/lang/Object;II)V"), (72, .class_ 802), (0, u "java/lang/System$Logger$Level")] 31

def k4m0 : Method := { name := "<init>", desc := "()V", sig := { parameters := [], returnType := none }, accessFlags := 2, code := none }
def k4m1 : Method := { name := "arraycopy", desc := "(Ljava/lang/Object;ILjava/lang/Object;II)V", sig := { parameters := [(.object "java/lang/Object"), .int, (.object "java/lang/Object"), .int, .int], returnType := none }, accessFlags := 265, code := none }
/-- java/lang/System -/
def k4 : Class := { plain "java/lang/System" (some 0) with
  accessFlags := 49
  interfaces := #[]
  cf := some (fileOf pool4 8 #[.nestMembers #[319, 327, 801, 108, 663, 208]] #[{ accessFlags := 2, nameIndex := 5, descriptorIndex := 6, attributes := #[] }, { accessFlags := 265, nameIndex := 727, descriptorIndex := 728, attributes := #[] }] 49 2 #[] #[{ accessFlags := 25, nameIndex := 507, descriptorIndex := 526, attributes := #[] }, { accessFlags := 25, nameIndex := 399, descriptorIndex := 155, attributes := #[] }, { accessFlags := 25, nameIndex := 396, descriptorIndex := 155, attributes := #[] }, { accessFlags := 10, nameIndex := 525, descriptorIndex := 526, attributes := #[] }, { accessFlags := 26, nameIndex := 674, descriptorIndex := 12, attributes := #[] }, { accessFlags := 26, nameIndex := 677, descriptorIndex := 12, attributes := #[] }, { accessFlags := 10, nameIndex := 11, descriptorIndex := 12, attributes := #[] }, { accessFlags := 74, nameIndex := 175, descriptorIndex := 176, attributes := #[] }, { accessFlags := 10, nameIndex := 491, descriptorIndex := 222, attributes := #[] }, { accessFlags := 74, nameIndex := 29, descriptorIndex := 30, attributes := #[] }, { accessFlags := 74, nameIndex := 154, descriptorIndex := 155, attributes := #[] }, { accessFlags := 10, nameIndex := 217, descriptorIndex := 218, attributes := #[] }, { accessFlags := 10, nameIndex := 221, descriptorIndex := 222, attributes := #[] }, { accessFlags := 8, nameIndex := 562, descriptorIndex := 563, attributes := #[] }])
  fields := #[{ name := "in", type := (.object "java/io/InputStream"), accessFlags := 25, slot := 0, constantValue := 0 }, { name := "out", type := (.object "java/io/PrintStream"), accessFlags := 25, slot := 1, constantValue := 0 }, { name := "err", type := (.object "java/io/PrintStream"), accessFlags := 25, slot := 2, constantValue := 0 }, { name := "initialIn", type := (.object "java/io/InputStream"), accessFlags := 10, slot := 3, constantValue := 0 }, { name := "NEVER", type := .int, accessFlags := 26, slot := 4, constantValue := 0 }, { name := "MAYBE", type := .int, accessFlags := 26, slot := 5, constantValue := 0 }, { name := "allowSecurityManager", type := .int, accessFlags := 10, slot := 6, constantValue := 0 }, { name := "security", type := (.object "java/lang/SecurityManager"), accessFlags := 74, slot := 7, constantValue := 0 }, { name := "notSupportedJnuEncoding", type := (.object "java/lang/String"), accessFlags := 10, slot := 8, constantValue := 0 }, { name := "cons", type := (.object "java/io/Console"), accessFlags := 74, slot := 9, constantValue := 0 }, { name := "initialErrStream", type := (.object "java/io/PrintStream"), accessFlags := 74, slot := 10, constantValue := 0 }, { name := "props", type := (.object "java/util/Properties"), accessFlags := 10, slot := 11, constantValue := 0 }, { name := "lineSeparator", type := (.object "java/lang/String"), accessFlags := 10, slot := 12, constantValue := 0 }, { name := "bootLayer", type := (.object "java/lang/ModuleLayer"), accessFlags := 8, slot := 13, constantValue := 0 }]
  methods := #[k4m0, k4m1]
  instanceTypes := #[]
  staticTypes := #[(.object "java/io/InputStream"), (.object "java/io/PrintStream"), (.object "java/io/PrintStream"), (.object "java/io/InputStream"), .int, .int, .int, (.object "java/lang/SecurityManager"), (.object "java/lang/String"), (.object "java/io/Console"), (.object "java/io/PrintStream"), (.object "java/util/Properties"), (.object "java/lang/String"), (.object "java/lang/ModuleLayer")]
  resolved := Array.replicate 834 none
  statics := none }

def pool5 : Array CpInfo := pool [(1, u "java/lang/Cloneable"), (0, .class_ 1), (0, u "java/lang/Object"), (0, .class_ 3)] 3

/-- java/lang/Cloneable -/
def k5 : Class := { plain "java/lang/Cloneable" (some 0) with
  accessFlags := 1537
  interfaces := #[]
  cf := some (fileOf pool5 2 #[] #[] 1537 4 #[] #[])
  fields := #[]
  methods := #[]
  instanceTypes := #[]
  staticTypes := #[]
  resolved := Array.replicate 8 none
  statics := none }

def pool6 : Array CpInfo := pool [(1, u "java/io/Serializable"), (0, .class_ 1), (0, u "java/lang/Object"), (0, .class_ 3)] 3

/-- java/io/Serializable -/
def k6 : Class := { plain "java/io/Serializable" (some 0) with
  accessFlags := 1537
  interfaces := #[]
  cf := some (fileOf pool6 2 #[] #[] 1537 4 #[] #[])
  fields := #[]
  methods := #[]
  instanceTypes := #[]
  staticTypes := #[]
  resolved := Array.replicate 8 none
  statics := none }

/-- the primitive byte -/
def k7 : Class := { plain "byte" none with kind := .primitive 'B', accessFlags := 0x411 }
/-- [B -/
def k8 : Class := { plain "[B" (some 0) with kind := .array 7 .byte, interfaces := #[5, 6], accessFlags := 1041 }

def heap : Heap := #[]
def classes : Array Class := #[k0, k1, k2, k3, k4, k5, k6, k7, k8]
def interned : List (Array UInt16 × Addr) := []
def slotsUsed : Nat := 0
def theMethod : MethodId := ⟨1, 4⟩
def args0 : Array Value := #[.long 5, .long 6, .int 3, .int 2, .int 1]
def aboutOver (below : List Frame) : State where
  vm := { classes := classes, interned := interned.toArray }
  heap := heap
  slotsUsed := slotsUsed
  threads := #[{ frames := .invoking theMethod args0 :: below }]
def below0 : List Frame := [.native { method := ⟨0, 0⟩, args := #[] }]
def about1 : State := aboutOver below0
def p0 : Program := .bare "" "" ""
def e0 : Env := launch0.env 0 0 0
theorem w_frames : about1.frames = Frame.invoking theMethod args0 :: below0 := rfl
set_option maxRecDepth 65536 in
theorem w_args : argsFit about1.vm theMethod args0 = true := by decide +kernel
set_option maxRecDepth 65536 in
theorem w_heap : heapFits about1 = true := by decide +kernel
set_option maxRecDepth 65536 in
theorem w_runnable : about1.curStatus? = some .runnable := by decide +kernel
set_option maxRecDepth 65536 in
theorem w_alone : about1.alone = true := by decide +kernel
set_option maxRecDepth 65536 in
theorem w_named : about1.methodNamed? x = some theMethod := by decide +kernel
set_option maxRecDepth 65536 in
theorem w_hears : about1.hears theMethod below0 = true := by decide +kernel
set_option maxRecDepth 65536 in
theorem w_ripe : about1.ripe theMethod args0 below0 = true := by decide +kernel
theorem w_running : about1.status = .running := rfl
set_option maxRecDepth 65536 in
theorem w_room : about1.hasRoom e0.platform room_1 = true :=
  launch0.hasRoom_least _ room_1 (by decide +kernel) (by decide +kernel) (by decide +kernel) (by decide +kernel) (by decide +kernel) (by decide +kernel)
theorem allAtoms_all (ts : List Jvm.Cond) (a : Array Jvm.Value) (st : Jvm.State) : (allAtoms ts).before a st = ts.all (fun c => c.before a st) := by
  induction ts with
  | nil => rfl
  | cons c t ih =>
    show (Jvm.Cond.and c (allAtoms t)).before a st = _
    rw [Jvm.Cond.before_and, ih, List.all_cons]
def words1 : List Jvm.Cond := Jvm.Cond.code x code maxLocals ret :: tables_1
/-- a 'code' word, met by the world's own term for the bytes: nothing is compared byte by byte -/
theorem code_word {y : MethodName} {bytes : ByteArray} {mx : Nat} {rt : Option FieldType} {a : Array Value} {s : State} {m : MethodId} {meth : Method} {c : Code} (h1 : s.methodNamed? y = some m) (h2 : s.vm.method? m = some meth) (h3 : meth.code = some c) (h4 : c.code = bytes)
    (h5 : (c.maxLocals == mx && c.exceptionTable.isEmpty && decide (c.maxStack ≤ mostOperands) && decide (meth.sig.returnType = rt) && !meth.locks && decide (parseMethodDescriptor y.desc = some meth.sig)) = true) : (Jvm.Cond.code y bytes mx rt).before a s = true := by
  simp only [Bool.and_eq_true, beq_iff_eq, Bool.not_eq_true', decide_eq_true_eq] at h5
  obtain ⟨⟨⟨⟨⟨g1, g2⟩, g3⟩, g4⟩, g5⟩, g6⟩ := h5
  simp [Cond.before, Cond.holds, Cond.value, h1, h2, h3, h4, g1, g2, g3, g4, g5, g6]
def isCode : Jvm.Cond → Bool
  | .code _ _ _ _ => true
  | _ => false
theorem all_split {L : List Jvm.Cond} {P : Jvm.Cond → Bool} (h1 : L.all (fun c => isCode c || P c) = true) (h2 : ∀ c ∈ L.filter isCode, P c = true) : L.all P = true := by
  refine List.all_eq_true.mpr fun c hc => ?_
  have h := List.all_eq_true.mp h1 c hc
  rcases Bool.eq_false_or_eq_true (isCode c) with hi | hi
  · exact h2 c (List.mem_filter.mpr ⟨hc, hi⟩)
  · simpa [hi] using h
set_option maxRecDepth 65536 in
theorem w_c0 : (Jvm.Cond.code x code maxLocals ret).before args0 about1 = true := code_word (m := ⟨1, 4⟩) (meth := k1m4) (c := k1c4) (by decide +kernel) rfl rfl rfl (by decide +kernel)
set_option maxRecDepth 65536 in
theorem w_c1 : (Jvm.Cond.code ({ cls := "com/example/chore_scheduler/chorescheduler/exec/OutputTailWritePinLaw", name := "bytesOf", desc := "(J)[B" } : Jvm.MethodName) method_2_code (3 : Nat) (Option.some (Jvm.ClassFile.FieldType.array Jvm.ClassFile.FieldType.byte))).before args0 about1 = true := code_word (m := ⟨1, 1⟩) (meth := k1m1) (c := k1c1) (by decide +kernel) rfl rfl rfl (by decide +kernel)
set_option maxRecDepth 65536 in
theorem w_c2 : (Jvm.Cond.code ({ cls := "com/example/chore_scheduler/chorescheduler/exec/OutputTail", name := "<init>", desc := "(I)V" } : Jvm.MethodName) prog_3_method_1_code (2 : Nat) (Option.none : Option Jvm.ClassFile.FieldType)).before args0 about1 = true := code_word (m := ⟨2, 0⟩) (meth := k2m0) (c := k2c0) (by decide +kernel) rfl rfl rfl (by decide +kernel)
set_option maxRecDepth 65536 in
theorem w_c3 : (Jvm.Cond.code ({ cls := "java/lang/Object", name := "<init>", desc := "()V" } : Jvm.MethodName) object_method_1_code (1 : Nat) (Option.none : Option Jvm.ClassFile.FieldType)).before args0 about1 = true := code_word (m := ⟨0, 0⟩) (meth := k0m0) (c := k0c0) (by decide +kernel) rfl rfl rfl (by decide +kernel)
set_option maxRecDepth 65536 in
theorem w_c4 : (Jvm.Cond.code ({ cls := "com/example/chore_scheduler/chorescheduler/exec/OutputTail", name := "write", desc := "([BII)V" } : Jvm.MethodName) prog_3_method_2_code (8 : Nat) (Option.none : Option Jvm.ClassFile.FieldType)).before args0 about1 = true := code_word (m := ⟨2, 1⟩) (meth := k2m1) (c := k2c1) (by decide +kernel) rfl rfl rfl (by decide +kernel)
set_option maxRecDepth 65536 in
theorem w_c5 : (Jvm.Cond.code ({ cls := "com/example/chore_scheduler/chorescheduler/exec/OutputTail", name := "toByteArray", desc := "()[B" } : Jvm.MethodName) prog_3_method_3_code (5 : Nat) (Option.some (Jvm.ClassFile.FieldType.array Jvm.ClassFile.FieldType.byte))).before args0 about1 = true := code_word (m := ⟨2, 2⟩) (meth := k2m2) (c := k2c2) (by decide +kernel) rfl rfl rfl (by decide +kernel)
set_option maxRecDepth 65536 in
theorem w_c6 : (Jvm.Cond.code ({ cls := "java/lang/Math", name := "min", desc := "(JJ)J" } : Jvm.MethodName) jdk_29_method_70_code (4 : Nat) (Option.some Jvm.ClassFile.FieldType.long)).before args0 about1 = true := code_word (m := ⟨3, 2⟩) (meth := k3m2) (c := k3c2) (by decide +kernel) rfl rfl rfl (by decide +kernel)
set_option maxRecDepth 65536 in
theorem w_c7 : (Jvm.Cond.code ({ cls := "java/lang/Math", name := "min", desc := "(II)I" } : Jvm.MethodName) jdk_29_method_69_code (2 : Nat) (Option.some Jvm.ClassFile.FieldType.int)).before args0 about1 = true := code_word (m := ⟨3, 1⟩) (meth := k3m1) (c := k3c1) (by decide +kernel) rfl rfl rfl (by decide +kernel)
set_option maxRecDepth 65536 in
theorem w_c8 : (Jvm.Cond.code ({ cls := "com/example/chore_scheduler/chorescheduler/exec/OutputTailWritePinLaw", name := "same", desc := "([BII[BII[BI)Z" } : Jvm.MethodName) method_4_code (8 : Nat) (Option.some Jvm.ClassFile.FieldType.boolean)).before args0 about1 = true := code_word (m := ⟨1, 3⟩) (meth := k1m3) (c := k1c3) (by decide +kernel) rfl rfl rfl (by decide +kernel)
set_option maxRecDepth 65536 in
theorem w_c9 : (Jvm.Cond.code ({ cls := "com/example/chore_scheduler/chorescheduler/exec/OutputTailWritePinLaw", name := "at", desc := "([BII[BII[BI)Z" } : Jvm.MethodName) method_3_code (10 : Nat) (Option.some Jvm.ClassFile.FieldType.boolean)).before args0 about1 = true := code_word (m := ⟨1, 2⟩) (meth := k1m2) (c := k1c2) (by decide +kernel) rfl rfl rfl (by decide +kernel)
def codes1 : List Jvm.Cond := [Jvm.Cond.code x code maxLocals ret, Jvm.Cond.code ({ cls := "com/example/chore_scheduler/chorescheduler/exec/OutputTailWritePinLaw", name := "bytesOf", desc := "(J)[B" } : Jvm.MethodName) method_2_code (3 : Nat) (Option.some (Jvm.ClassFile.FieldType.array Jvm.ClassFile.FieldType.byte)), Jvm.Cond.code ({ cls := "com/example/chore_scheduler/chorescheduler/exec/OutputTail", name := "<init>", desc := "(I)V" } : Jvm.MethodName) prog_3_method_1_code (2 : Nat) (Option.none : Option Jvm.ClassFile.FieldType), Jvm.Cond.code ({ cls := "java/lang/Object", name := "<init>", desc := "()V" } : Jvm.MethodName) object_method_1_code (1 : Nat) (Option.none : Option Jvm.ClassFile.FieldType), Jvm.Cond.code ({ cls := "com/example/chore_scheduler/chorescheduler/exec/OutputTail", name := "write", desc := "([BII)V" } : Jvm.MethodName) prog_3_method_2_code (8 : Nat) (Option.none : Option Jvm.ClassFile.FieldType), Jvm.Cond.code ({ cls := "com/example/chore_scheduler/chorescheduler/exec/OutputTail", name := "toByteArray", desc := "()[B" } : Jvm.MethodName) prog_3_method_3_code (5 : Nat) (Option.some (Jvm.ClassFile.FieldType.array Jvm.ClassFile.FieldType.byte)), Jvm.Cond.code ({ cls := "java/lang/Math", name := "min", desc := "(JJ)J" } : Jvm.MethodName) jdk_29_method_70_code (4 : Nat) (Option.some Jvm.ClassFile.FieldType.long), Jvm.Cond.code ({ cls := "java/lang/Math", name := "min", desc := "(II)I" } : Jvm.MethodName) jdk_29_method_69_code (2 : Nat) (Option.some Jvm.ClassFile.FieldType.int), Jvm.Cond.code ({ cls := "com/example/chore_scheduler/chorescheduler/exec/OutputTailWritePinLaw", name := "same", desc := "([BII[BII[BI)Z" } : Jvm.MethodName) method_4_code (8 : Nat) (Option.some Jvm.ClassFile.FieldType.boolean), Jvm.Cond.code ({ cls := "com/example/chore_scheduler/chorescheduler/exec/OutputTailWritePinLaw", name := "at", desc := "([BII[BII[BI)Z" } : Jvm.MethodName) method_3_code (10 : Nat) (Option.some Jvm.ClassFile.FieldType.boolean)]
set_option maxRecDepth 65536 in
theorem codes_eq : words1.filter isCode = codes1 := rfl
theorem w_codes : ∀ c ∈ words1.filter isCode, c.before args0 about1 = true := by
  rw [codes_eq]
  intro c hc
  simp only [codes1, List.mem_cons, List.not_mem_nil, or_false] at hc
  rcases hc with rfl | rfl | rfl | rfl | rfl | rfl | rfl | rfl | rfl | rfl
  · exact w_c0
  · exact w_c1
  · exact w_c2
  · exact w_c3
  · exact w_c4
  · exact w_c5
  · exact w_c6
  · exact w_c7
  · exact w_c8
  · exact w_c9
set_option maxRecDepth 65536 in
theorem w_t1 : (words1.take 24).all (fun c => isCode c || c.before args0 about1) = true := by decide +kernel
set_option maxRecDepth 65536 in
theorem w_t2 : (words1.drop 24).all (fun c => isCode c || c.before args0 about1) = true := by decide +kernel
theorem w_tables : (allAtoms (Jvm.Cond.code x code maxLocals ret :: tables_1)).before args0 about1 = true := by
  rw [allAtoms_all]
  show words1.all (fun c => c.before args0 about1) = true
  refine all_split ?_ w_codes
  rw [← List.take_append_drop 24 words1, List.all_append, w_t1, w_t2]
  rfl
set_option maxRecDepth 65536 in
theorem w_case : (Jvm.Cond.and given_1 narrow_1).before args0 about1 = true := by decide +kernel
theorem w_applies : (headSpec (Jvm.Cond.code x code maxLocals ret :: tables_1) room_1).applies x e0.platform about1 = true :=
  (Spec.applies_iff w_frames).mpr ⟨w_running, w_runnable, w_alone, w_named, w_hears, w_ripe, w_room, w_tables⟩
theorem atStart : AtStart classFile x code maxLocals ret World_1 tables_1 room_1 Calls_1 rest_1 Pre_1 launch0 p0 e0 about1 theMethod args0 below0 :=
  ⟨lists_1, trivial, launch0.admits_env _ _ _, launch0.least_env, fairChoices_fair.cas, fairChoices_fair.clock, w_frames, w_args, w_heap, w_applies, trivial, trivial, w_case⟩
end start1
theorem witness_1 : WitnessClaimed_1 := ⟨start1.p0, start1.e0, start1.about1, start1.theMethod, start1.args0, start1.below0, start1.atStart⟩
end Jvm.Pilot.@@N@@
