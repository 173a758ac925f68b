import JvmDerived
import JvmDerived.Pilot.@@N@@Statement
import JvmDerived.Pilot.@@N@@Code
set_option linter.unusedVariables false
set_option linter.unusedSimpArgs false
namespace Jvm.OwnKit
open Sem ClassFile Op Lib Jvm.Stand Jvm.Free Jvm.LawKit Jvm.RoadKit
section Core
variable {p : Program} {l : Launch} {e : Env} {R : Room} {s : State} {m : MethodId} {args : Array Value} {below : List Frame} {meth : Method} {c : Code} {T T' : State} {locs : List Loc} {cells slots : Nat} {Z : State} {a0 : Array Value} {h : Heap}
  {Q Q' : Option Value → Heap → List Loc → Prop} {kc ks : Nat} {F : Outcome → State → Prop}
/-- from the frame f over T the body comes to its end, and F holds there -/
def GoG (p : Program) (e : Env) (below : List Frame) (F : Outcome → State → Prop) (T : State) (f : JFrame) : Prop :=
  ∃ t o, Steps p.tables e below (T.setTop f) t ∧ t.status = .running ∧ Ended t below o ∧ F o t
/-- .. Q holds there, and the frame is kept -/
def Fin (s : State) (Q : Option Value → Heap → List Loc → Prop) (kc ks : Nat) : Outcome → State → Prop := fun o t => ∃ v L, o = .returned v ∧ Q v t.heap L ∧ FrameEnd s o t L kc ks
abbrev Go (p : Program) (e : Env) (below : List Frame) (s : State) (Q : Option Value → Heap → List Loc → Prop) (kc ks : Nat) (T : State) (f : JFrame) : Prop := GoG p e below (Fin s Q kc ks) T f
theorem Go.back {f f' : JFrame} (st : ∀ t, Steps p.tables e below (T'.setTop f') t → Steps p.tables e below (T.setTop f) t) (k : GoG p e below F T' f') : GoG p e below F T f := by
  obtain ⟨t, o, h1, h2⟩ := k; exact ⟨t, o, st _ h1, h2⟩
theorem Go.cast {f f' : JFrame} (q : f = f') (k : GoG p e below F T f') : GoG p e below F T f := q ▸ k
theorem Go.imp {f : JFrame} (q : ∀ v h L, Q' v h L → Q v h L) (k : Go p e below s Q' kc ks T f) : Go p e below s Q kc ks T f := by
  obtain ⟨t, o, h1, h2, h3, v, L, h4, h5, h6⟩ := k; exact ⟨t, o, h1, h2, h3, v, L, h4, q _ _ _ h5, h6⟩
theorem Go.done (X : Stand p l e R s m args below meth c T locs cells slots) {v : Option Value} {f0 : JFrame} (hv : meth.sig.returnType = none → v = none) (hlk : meth.locks = false)
    (st : ∀ fs, (∀ (f : JFrame) (acts : List Action), f.method = m → f.locked = none → f.entered = [] → (doReturn e (T.setTop f) acts v).1 = T.setFrames fs) → Steps p.tables e below (T.setTop f0) (T.setFrames fs))
    (hQ : Q v T.heap locs) (hc : cells ≤ kc) (hs : slots ≤ ks) : Go p e below s Q kc ks T f0 := by
  obtain ⟨fs, hr, hrun, hended, hW, hsame⟩ := X.leave (v := v) hv hlk
  exact ⟨_, _, st fs hr, hrun, hended, v, locs, rfl, hQ, ⟨_, rfl⟩, hW, hsame.mono hc hs⟩
theorem Go.retI (X : Stand p l e R s m args below meth c T locs cells slots) (hx : p.tables.exec = Jvm.exec) {pc : Nat} {Ls : Array Slot} {z : Int32} {rest : List Value} (hret : meth.sig.returnType = some .int) (hlk : meth.locks = false) (hd : decode c.code pc = .ok (.ireturn, 1))
    (hQ : Q (some (.int z)) T.heap locs) (hc : cells ≤ kc) (hs : slots ≤ ks) : Go p e below s Q kc ks T (mkF m pc Ls (.int z :: rest)) :=
  Go.done X (fun q => by rw [hret] at q; cases q) hlk (fun _ hl => retOut X hx hret rfl (Or.inl ⟨rfl, Or.inl rfl, z, rfl⟩) hd hl) hQ hc hs
theorem Go.retJ (X : Stand p l e R s m args below meth c T locs cells slots) (hx : p.tables.exec = Jvm.exec) {pc : Nat} {Ls : Array Slot} {z : Int64} {rest : List Value} (hret : meth.sig.returnType = some .long) (hlk : meth.locks = false) (hd : decode c.code pc = .ok (.lreturn, 1))
    (hQ : Q (some (.long z)) T.heap locs) (hc : cells ≤ kc) (hs : slots ≤ ks) : Go p e below s Q kc ks T (mkF m pc Ls (.long z :: rest)) :=
  Go.done X (fun q => by rw [hret] at q; cases q) hlk (fun _ hl => retOut X hx hret rfl (Or.inr (Or.inl ⟨rfl, rfl, z, rfl⟩)) hd hl) hQ hc hs
theorem narrow_ref {t : FieldType} {w : Value} (hw : w.isRef = true) : narrow t w = w := by
  cases w <;> simp [Value.isRef] at hw <;> cases t <;> rfl
theorem Go.retA (X : Stand p l e R s m args below meth c T locs cells slots) (hx : p.tables.exec = Jvm.exec) {pc : Nat} {Ls : Array Slot} {w : Value} {t : FieldType} {rest : List Value} (hret : meth.sig.returnType = some t) (hlk : meth.locks = false) (hd : decode c.code pc = .ok (.areturn, 1)) (ht : t.isReference = true) (hw : w.isRef = true)
    (hQ : Q (some w) T.heap locs) (hc : cells ≤ kc) (hs : slots ≤ ks) : Go p e below s Q kc ks T (mkF m pc Ls (w :: rest)) :=
  Go.done X (fun q => by rw [hret] at q; cases q) hlk (fun _ hl => retOut X hx hret (narrow_ref hw) (Or.inr (Or.inr (Or.inr (Or.inr ⟨rfl, ht, hw⟩)))) hd hl) hQ hc hs
theorem Go.ret0 (X : Stand p l e R s m args below meth c T locs cells slots) (hx : p.tables.exec = Jvm.exec) {pc : Nat} {Ls : Array Slot} (hret : meth.sig.returnType = none) (hlk : meth.locks = false) (hd : decode c.code pc = .ok (.return_, 1))
    (hQ : Q none T.heap locs) (hc : cells ≤ kc) (hs : slots ≤ ks) : Go p e below s Q kc ks T (mkF m pc Ls []) :=
  Go.done X (fun _ => rfl) hlk (fun _ hl => X.returnOut hx hret hd hl) hQ hc hs
theorem Go.retN (X : Stand p l e R s m args below meth c T locs cells slots) (hx : p.tables.exec = Jvm.exec) {pc : Nat} {Ls : Array Slot} {z w : Int32} {t : FieldType} {rest : List Value} (hret : meth.sig.returnType = some t) (ht : t = .boolean ∨ t = .byte ∨ t = .char ∨ t = .short) (hw : nar t z = w) (hlk : meth.locks = false) (hd : decode c.code pc = .ok (.ireturn, 1))
    (hQ : Q (some (.int w)) T.heap locs) (hc : cells ≤ kc) (hs : slots ≤ ks) : Go p e below s Q kc ks T (mkF m pc Ls (.int z :: rest)) :=
  Go.done X (fun q => by rw [hret] at q; cases q) hlk (fun _ hl => Jvm.RoadKit.retN X hx hret ht hd (by rw [hw]; exact hl)) hQ hc hs
theorem nar_bool {z : Int32} (hz : z = 0 ∨ z = 1) : nar .boolean z = z := by rcases hz with rfl | rfl <;> rfl
/-- a body's contract, said of one heap and one array of arguments -/
def Met (l : Launch) (Z : State) (y : MethodName) (bytes : ByteArray) (maxL : Nat) (ret : Option FieldType) (rm : Room) (as' : Array Value) (h : Heap) (Q : Option Value → Heap → List Loc → Prop) : Prop :=
  ∀ ws : List Jvm.Cond, MetFree l y (head1 (Jvm.Cond.code y bytes maxL ret :: ws) rm) (fun a U => a = as' ∧ Z.Warmed39 U.vm ∧ U.heap = h) (fun _ _ _ _ _ => True) (fun _ U o U' => ∃ v L, o = .returned v ∧ Q v U'.heap L ∧ FrameEnd U o U' L rm.cells rm.slots)
variable {y z : MethodName} {bytes : ByteArray} {maxL : Nat} {ret : Option FieldType} {rm : Room} {as' : Array Value}
theorem Met.intro (hp : plainFor y = true) (body : ∀ (p : Program) (e : Env) (s : State) (m : MethodId) (below : List Frame) (meth : Method) (c : Code) (T : State),
      p.tables.exec = Jvm.exec → c.code = bytes → c.maxLocals = maxL → s.vm.findClass y.cls = some m.cls → meth.name = y.name → meth.sig.returnType = ret → meth.locks = false → Z.Warmed39 s.vm →
      Stand p l e rm s m as' below meth c T [] 0 0 → T.heap = h → Go p e below s Q rm.cells rm.slots T (entryFrame m as' maxL)) : Met l Z y bytes maxL ret rm as' h Q := by
  intro ws
  refine MetFree.of_bodySF hp hisR ?_
  intro p e s m args below meth c s₁ Bd hml0 hP hK
  obtain ⟨rfl, hZ, hh⟩ := hP
  exact body p e s m below meth c s₁ Bd.exec Bd.bytes hml0 (findClass_of_methodNamed Bd.named) (name_of_methodNamed Bd.named Bd.method).1 Bd.returns Bd.notSynchronized hZ (Stand.of_body Bd) (by rw [← hh, Bd.state]; rfl)
theorem Met.imp (q : ∀ v h L, Q' v h L → Q v h L) (k : Met l Z y bytes maxL ret rm as' h Q') : Met l Z y bytes maxL ret rm as' h Q := fun ws p e ha hc hk s m args below hf happ hP hK => by
  obtain ⟨n, o, h1, h2, h3, v, L, h4, h5, h6⟩ := k ws p e ha hc hk s m args below hf happ hP hK
  exact ⟨n, o, h1, h2, h3, v, L, h4, q _ _ _ h5, h6⟩
theorem Go.callS (X : Stand p l e R s m args below meth c T locs cells slots) (hx : p.tables.exec = Jvm.exec) (hZ : Z.Warmed39 s.vm) {own : String} {index : Nat} (hown : s.vm.findClass own = some m.cls)
    (w1 : (Jvm.Cond.methodLink own index y).before a0 Z = true) (w2 : (Jvm.Cond.static y).before a0 Z = true) (w3 : (Jvm.Cond.initialized y.cls).before a0 Z = true) (w4 : (Jvm.Cond.code y bytes maxL ret).before a0 Z = true)
    (hy : y.cls ≠ "java/lang/invoke/MethodHandle" ∧ y.cls ≠ "java/lang/invoke/VarHandle") (eT : T.heap = h) {argsL rest st : List Value} (hM : Met l Z y bytes maxL ret rm argsL.toArray h Q')
    (hlen : ∀ sig, parseMethodDescriptor y.desc = some sig → argsL.length = sig.parameters.length) {pc : Nat} {Ls : Array Slot} (hst : st = argsL.reverse ++ rest) (hsz : Ls.size = c.maxLocals) {W : Nat} (hW : 2 * 0 + (rest.map fun v => v.category).sum ≤ W)
    (hd : decode c.code pc = .ok (.invokestatic index, 3)) (hf : rm.frames + 1 ≤ R.frames) (hl : W + (maxL + 11) + rm.locals ≤ R.locals) (hc : cells + rm.cells ≤ R.cells) (hs : slots + rm.slots ≤ R.slots)
    (k : ∀ v T' L, Stand p l e R s m args below meth c T' (locs ++ L) (cells + rm.cells) (slots + rm.slots) → Q' v T'.heap L → GoG p e below F T' (mkF m (pc + 3) Ls (v.toList ++ rest))) :
    GoG p e below F T (mkF m pc Ls st) := by
  subst hst
  obtain ⟨v, _, ⟨T1, L1, k1, n1⟩, -, X1, ⟨Lc, hQ, l1, y1, z1⟩, st1⟩ := Jvm.LawKit.callS X hx (y := y) hown (mvT hZ w1) (mvT hZ w2) (mvT hZ w3) (mvT hZ w4) hy (backOf (W := W) (hM []) hZ w4 w3 hf hl) (g := mkF m pc Ls (argsL.reverse ++ rest)) rfl hsz (argsL := argsL) (rest := rest) hlen rfl hW hd (fun _ _ => ⟨rfl, eT, hc, hs⟩)
  dsimp only [Pt.U, Pt.locs, Pt.cells, Pt.slots] at X1 l1 y1 z1 st1 hQ
  subst l1 y1 z1
  exact Go.back st1 (k v T1 Lc X1 hQ)
theorem Go.callI (X : Stand p l e R s m args below meth c T locs cells slots) (hx : p.tables.exec = Jvm.exec) (hZ : Z.Warmed39 s.vm) {own : String} {index : Nat} (hy1 : y.name = "<init>") (hown : s.vm.findClass own = some m.cls)
    (w1 : (Jvm.Cond.methodLink own index y).before a0 Z = true) (w2 : (Jvm.Cond.instanceMethod y).before a0 Z = true) (w3 : (Jvm.Cond.initialized y.cls).before a0 Z = true) (w4 : (Jvm.Cond.code y bytes maxL none).before a0 Z = true)
    (hy : y.cls ≠ "java/lang/invoke/MethodHandle" ∧ y.cls ≠ "java/lang/invoke/VarHandle") (eT : T.heap = h) {a : Addr} {argsL rest st : List Value} (hM : Met l Z y bytes maxL none rm (.ref a :: argsL).toArray h Q')
    (hlen : ∀ sig, parseMethodDescriptor y.desc = some sig → argsL.length = sig.parameters.length) {pc : Nat} {Ls : Array Slot} (hst : st = argsL.reverse ++ .ref a :: rest) (hsz : Ls.size = c.maxLocals) {W : Nat} (hW : 2 * 0 + (rest.map fun v => v.category).sum ≤ W)
    (hd : decode c.code pc = .ok (.invokespecial index, 3)) (hf : rm.frames + 1 ≤ R.frames) (hl : W + (maxL + 11) + rm.locals ≤ R.locals) (hc : cells + rm.cells ≤ R.cells) (hs : slots + rm.slots ≤ R.slots)
    (k : ∀ v T' L, Stand p l e R s m args below meth c T' (locs ++ L) (cells + rm.cells) (slots + rm.slots) → Q' v T'.heap L → GoG p e below F T' (mkF m (pc + 3) Ls (v.toList ++ rest))) :
    GoG p e below F T (mkF m pc Ls st) := by
  subst hst
  obtain ⟨v, _, ⟨T1, L1, k1, n1⟩, -, X1, ⟨Lc, hQ, l1, y1, z1⟩, st1⟩ := X.specialBack hx (y := y) hy1 hown (mvT hZ w1) (mvT hZ w2) (mvT hZ w4) hy (backOf (W := W) (hM []) hZ w4 w3 hf hl) (g := mkF m pc Ls (argsL.reverse ++ .ref a :: rest)) rfl hsz (Steps.refl _) (a := a) (argsL := argsL) (rest := rest) hlen rfl hW hd (fun _ _ => ⟨rfl, eT, hc, hs⟩)
  dsimp only [Pt.U, Pt.locs, Pt.cells, Pt.slots] at X1 l1 y1 z1 st1 hQ
  subst l1 y1 z1
  exact Go.back (fun _ q => st1.trans q) (k v T1 Lc X1 hQ)
theorem Go.callV (X : Stand p l e R s m args below meth c T locs cells slots) (hx : p.tables.exec = Jvm.exec) (hZ : Z.Warmed39 s.vm) {own C : String} {index : Nat} (hown : s.vm.findClass own = some m.cls)
    (w1 : (Jvm.Cond.methodLink own index y).before a0 Z = true) (w2 : (Jvm.Cond.declares y).before a0 Z = true) (w3 : (Jvm.Cond.selects C y y).before a0 Z = true) (w4 : (Jvm.Cond.instanceMethod y).before a0 Z = true)
    (w5 : (Jvm.Cond.initialized y.cls).before a0 Z = true) (w6 : (Jvm.Cond.code y bytes maxL ret).before a0 Z = true)
    (hy : y.cls ≠ "java/lang/invoke/MethodHandle" ∧ y.cls ≠ "java/lang/invoke/VarHandle") (eT : T.heap = h) {a : Addr} (E : Exa Z h a C) {argsL rest st : List Value} (hM : Met l Z y bytes maxL ret rm (.ref a :: argsL).toArray h Q')
    (hlen : ∀ sig, parseMethodDescriptor y.desc = some sig → argsL.length = sig.parameters.length) {pc : Nat} {Ls : Array Slot} (hst : st = argsL.reverse ++ .ref a :: rest) (hsz : Ls.size = c.maxLocals) {W : Nat} (hW : 2 * 0 + (rest.map fun v => v.category).sum ≤ W)
    (hd : decode c.code pc = .ok (.invokevirtual index, 3)) (hf : rm.frames + 1 ≤ R.frames) (hl : W + (maxL + 11) + rm.locals ≤ R.locals) (hc : cells + rm.cells ≤ R.cells) (hs : slots + rm.slots ≤ R.slots)
    (k : ∀ v T' L, Stand p l e R s m args below meth c T' (locs ++ L) (cells + rm.cells) (slots + rm.slots) → Q' v T'.heap L → GoG p e below F T' (mkF m (pc + 3) Ls (v.toList ++ rest))) :
    GoG p e below F T (mkF m pc Ls st) := by
  subst hst
  obtain ⟨cq, kq, qa, qb, qc⟩ := isOf hZ eT E
  obtain ⟨v, _, ⟨T1, L1, k1, n1⟩, -, X1, ⟨Lc, hQ, l1, y1, z1⟩, st1⟩ := X.virtualBack hx (y := y) (z := y) hown (mvT hZ w1) (mvT hZ w2) (notFace_of_selects (args := #[]) (mvT hZ w3)) (mvT hZ w3) (mvT hZ w4) hy (backOf (W := W) (hM []) hZ w6 w5 hf hl) qa qc (g := mkF m pc Ls (argsL.reverse ++ .ref a :: rest)) rfl hsz (Steps.refl _) (argsL := argsL) (rest := rest) hlen rfl hW hd (fun _ _ => ⟨rfl, eT, hc, hs⟩)
  dsimp only [Pt.U, Pt.locs, Pt.cells, Pt.slots] at X1 l1 y1 z1 st1 hQ
  subst l1 y1 z1
  exact Go.back (fun _ q => st1.trans q) (k v T1 Lc X1 hQ)
end Core
section Cmp
theorem l_lt_t {x y : Int64} (h : x < y) : ifCond.holds .lt (lcmpW x y) = true := (if0 _ _).trans (tlt ((lw_lt x y).mpr h)).1
theorem l_lt_f {x y : Int64} (h : ¬ x < y) : ifCond.holds .lt (lcmpW x y) = false := (if0 _ _).trans (flt (fun q => h ((lw_lt x y).mp q))).1
theorem l_ge_t {x y : Int64} (h : ¬ x < y) : ifCond.holds .ge (lcmpW x y) = true := (if0 _ _).trans (flt (fun q => h ((lw_lt x y).mp q))).2.1
theorem l_ge_f {x y : Int64} (h : x < y) : ifCond.holds .ge (lcmpW x y) = false := (if0 _ _).trans (tlt ((lw_lt x y).mpr h)).2.1
theorem l_gt_t {x y : Int64} (h : y < x) : ifCond.holds .gt (lcmpW x y) = true := (if0 _ _).trans (tlt ((lw_gt x y).mpr h)).2.2.1
theorem l_gt_f {x y : Int64} (h : ¬ y < x) : ifCond.holds .gt (lcmpW x y) = false := (if0 _ _).trans (flt (fun q => h ((lw_gt x y).mp q))).2.2.1
theorem l_le_t {x y : Int64} (h : ¬ y < x) : ifCond.holds .le (lcmpW x y) = true := (if0 _ _).trans (flt (fun q => h ((lw_gt x y).mp q))).2.2.2
theorem l_le_f {x y : Int64} (h : y < x) : ifCond.holds .le (lcmpW x y) = false := (if0 _ _).trans (tlt ((lw_gt x y).mpr h)).2.2.2
theorem l_eq_t {x y : Int64} (h : x = y) : ifCond.holds .eq (lcmpW x y) = true := (if0 _ _).trans (teq ((lw_eq x y).mpr h)).1
theorem l_eq_f {x y : Int64} (h : ¬ x = y) : ifCond.holds .eq (lcmpW x y) = false := (if0 _ _).trans (feq (fun q => h ((lw_eq x y).mp q))).1
theorem l_ne_t {x y : Int64} (h : ¬ x = y) : ifCond.holds .ne (lcmpW x y) = true := (if0 _ _).trans (feq (fun q => h ((lw_eq x y).mp q))).2
theorem l_ne_f {x y : Int64} (h : x = y) : ifCond.holds .ne (lcmpW x y) = false := (if0 _ _).trans (teq ((lw_eq x y).mpr h)).2
end Cmp
end Jvm.OwnKit
namespace Jvm.OwnKit
open Sem ClassFile Op Lib Jvm.Stand Jvm.Free Jvm.LawKit Jvm.RoadKit
section Arrays
variable {p : Program} {l : Launch} {e : Env} {R : Room} {s : State} {m : MethodId} {args : Array Value} {below : List Frame} {meth : Method} {c : Code} {T T' : State} {locs : List Loc} {cells slots : Nat} {Z : State} {a0 : Array Value} {h h' : Heap}
  {F : Outcome → State → Prop} {a b : Addr} {ty : FieldType} {vs vd : List Value} {j x : Int32} {i : Nat} {v : Value} {pc : Nat} {Ls : Array Slot} {rest : List Value}
/-- an array, all of its components told -/
def VArr (Z : State) (h : Heap) (a : Addr) (ty : FieldType) (vs : List Value) : Prop := vs.length < 2147483648 ∧ ∃ k, Arv Z h a k ty vs.length.toInt32 vs (defaultValue ty)
theorem n32 {n : Nat} (q : n < 2147483648) : n.toInt32.toInt = n := len_toInt q
theorem n32c {n : Nat} (q : n < 2147483648) : n.toInt32.toNatClampNeg = n := by simp only [Int32.toNatClampNeg, n32 q]; rfl
theorem idx0 (hi : j.toInt = i) : ¬ j < 0 := by rw [Int32.lt_iff_toInt_lt, hi]; show ¬ (i : Int) < 0; omega
theorem idxN (hi : j.toInt = i) : j.toNatClampNeg = i := by simp only [Int32.toNatClampNeg, hi]; rfl
theorem VArr.lt (A : VArr Z h a ty vs) : a < h.size := by obtain ⟨-, k, A⟩ := A; exact A.lt
theorem VArr.len (A : VArr Z h a ty vs) : vs.length < 2147483648 := A.1
theorem VArr.ext (A : VArr Z h a ty vs) (E : Ext h h') : VArr Z h' a ty vs := by obtain ⟨q, k, A⟩ := A; exact ⟨q, k, A.ext E⟩
theorem VArr.other {sl : Nat} (A : VArr Z h b ty vs) (W : Wr h h' a sl v) (q : b ≠ a) : VArr Z h' b ty vs := by obtain ⟨r, k, A⟩ := A; exact ⟨r, k, A.other W q⟩
theorem VArr.keep {ws : List Addr} (A : VArr Z h a ty vs) (K : Keep h h' ws) (q : a ∉ ws) : VArr Z h' a ty vs := by obtain ⟨r, k, A⟩ := A; exact ⟨r, k, A.keep K q⟩
theorem VArr.to (A : VArr Z h a ty vs) (e : vs = vd) : VArr Z h a ty vd := e ▸ A
theorem VArr.cell (A : VArr Z h a ty vs) : ∃ cl, Arr Z h a cl ty ∧ cl.slots.size = vs.length ∧ Has cl vs (defaultValue ty) := by
  obtain ⟨q, k, cl, A, -, S, N, H, -⟩ := A
  exact ⟨cl, A, by rw [S, n32c q], H⟩
theorem VArr.at (A : VArr Z h a ty vs) (hi : j.toInt = i) (hv : vs[i]? = some v) : ∃ cl, Arr Z h a cl ty ∧ ¬ (j < 0 ∨ cl.slots.size ≤ j.toNatClampNeg) ∧ cl.slots[j.toNatClampNeg]? = some v := by
  obtain ⟨cl, A, S, H⟩ := A.cell
  obtain ⟨hl, e⟩ := List.getElem?_eq_some_iff.mp hv
  refine ⟨cl, A, fun q => ?_, ?_⟩
  · rw [idxN hi, S] at q; exact q.elim (idx0 hi) (by omega)
  · rw [idxN hi, H i (by omega), List.getD_eq_getElem?_getD, hv]; rfl
theorem VArr.exa_ne {C : String} {kk : Nat} (A : VArr Z h a ty vs) (E : Exa Z h b C) (wi : (Jvm.Cond.instantiable C kk).before a0 Z = true) : b ≠ a := by
  obtain ⟨cl, A, -, -⟩ := A.cell; exact ne_arr E wi A
theorem VArr.lenS (A : VArr Z h a ty vs) (X : Stand p l e R s m args below meth c T locs cells slots) (hx : p.tables.exec = Jvm.exec) (hZ : Z.Warmed39 s.vm) (eT : T.heap = h) (hd : decode c.code pc = .ok (.arraylength, 1)) :
    ∀ t, Steps p.tables e below (T.setTop (mkF m (pc + 1) Ls (.int vs.length.toInt32 :: rest))) t → Steps p.tables e below (T.setTop (mkF m pc Ls (.ref a :: rest))) t := by
  obtain ⟨cl, Ar, S, -⟩ := A.cell
  intro t k
  refine X.arraylength hx (by rw [eT]; exact Ar.1) (State.isArrayOf_alike hZ.alike Ar.2.1) (g := mkF m pc Ls (.ref a :: rest)) rfl rfl hd _ ?_
  rw [S]; exact k
theorem VArr.ldI (A : VArr Z h a .int vs) (X : Stand p l e R s m args below meth c T locs cells slots) (hx : p.tables.exec = Jvm.exec) (hZ : Z.Warmed39 s.vm) (eT : T.heap = h) (hd : decode c.code pc = .ok (.iaload, 1)) (hi : j.toInt = i) (hv : vs[i]? = some v) :
    ∀ t, Steps p.tables e below (T.setTop (mkF m (pc + 1) Ls (v :: rest))) t → Steps p.tables e below (T.setTop (mkF m pc Ls (.int j :: .ref a :: rest))) t := by
  obtain ⟨cl, Ar, q, r⟩ := A.at hi hv
  exact fun t k => X.iaload hx (j := j) (v := v) (by rw [eT]; exact Ar.1) (State.isArrayOf_alike hZ.alike Ar.2.1) Ar.2.2 q r (g := mkF m pc Ls (.int j :: .ref a :: rest)) rfl rfl hd _ k
theorem VArr.ldJ (A : VArr Z h a .long vs) (X : Stand p l e R s m args below meth c T locs cells slots) (hx : p.tables.exec = Jvm.exec) (hZ : Z.Warmed39 s.vm) (eT : T.heap = h) (hd : decode c.code pc = .ok (.laload, 1)) (hi : j.toInt = i) (hv : vs[i]? = some v) :
    ∀ t, Steps p.tables e below (T.setTop (mkF m (pc + 1) Ls (v :: rest))) t → Steps p.tables e below (T.setTop (mkF m pc Ls (.int j :: .ref a :: rest))) t := by
  obtain ⟨cl, Ar, q, r⟩ := A.at hi hv
  exact fun t k => X.laload hx (j := j) (v := v) (by rw [eT]; exact Ar.1) (State.isArrayOf_alike hZ.alike Ar.2.1) Ar.2.2 q r (g := mkF m pc Ls (.int j :: .ref a :: rest)) rfl rfl hd _ k
theorem VArr.ldB (A : VArr Z h a .byte vs) (X : Stand p l e R s m args below meth c T locs cells slots) (hx : p.tables.exec = Jvm.exec) (hZ : Z.Warmed39 s.vm) (eT : T.heap = h) (hd : decode c.code pc = .ok (.baload, 1)) (hi : j.toInt = i) (hv : vs[i]? = some v) :
    ∀ t, Steps p.tables e below (T.setTop (mkF m (pc + 1) Ls (v :: rest))) t → Steps p.tables e below (T.setTop (mkF m pc Ls (.int j :: .ref a :: rest))) t := by
  obtain ⟨cl, Ar, q, r⟩ := A.at hi hv
  exact fun t k => X.baloadBytes hx (j := j) (v := v) (by rw [eT]; exact Ar.1) (State.isArrayOf_alike hZ.alike Ar.2.1) Ar.2.2 q r (g := mkF m pc Ls (.int j :: .ref a :: rest)) rfl rfl hd _ k
theorem VArr.fit (A : VArr Z h a ty vs) (hv : vs[i]? = some v) : fits ty v = true := by
  obtain ⟨q, k, cl, A, -, S, N, H, G⟩ := A
  obtain ⟨hl, e⟩ := List.getElem?_eq_some_iff.mp hv
  have := G i (by rw [S, n32c q]; exact hl)
  rw [List.getD_eq_getElem?_getD, hv] at this; exact this
theorem VArr.set (A : VArr Z h a ty vs) (hv : fits ty v = true) (W : Wr h h' a i v) (hl : i < vs.length) : VArr Z h' a ty (vs.set i v) := by
  obtain ⟨q, k, cl, A, q1, S, N, H, G⟩ := A
  have q' : (vs.set i v).length < 2147483648 := by rw [List.length_set]; exact q
  refine ⟨q', k, ?_⟩
  rw [List.length_set]
  exact Arv.set (j := i.toInt32) A q1 S N H G hv (by rw [n32c (by omega)]; exact W) i (n32c (by omega)) hl
theorem VArr.in_ (A : VArr Z h a ty vs) (hi : j.toInt = i) (hl : i < vs.length) : ∃ cl, Arr Z h a cl ty ∧ ¬ (j < 0 ∨ cl.slots.size ≤ j.toNatClampNeg) := by
  obtain ⟨cl, A, S, H⟩ := A.cell
  refine ⟨cl, A, fun q => ?_⟩
  rw [idxN hi, S] at q; exact q.elim (idx0 hi) (by omega)
theorem Go.stI (A : VArr Z h a .int vs) (X : Stand p l e R s m args below meth c T locs cells slots) (hx : p.tables.exec = Jvm.exec) (hZ : Z.Warmed39 s.vm) (eT : T.heap = h) (hd : decode c.code pc = .ok (.iastore, 1)) (hi : j.toInt = i) (hl : i < vs.length)
    (k : ∀ T' h', Stand p l e R s m args below meth c T' (locs ++ [⟨a, i⟩]) cells slots → T'.heap = h' → Wr h h' a i (.int x) → VArr Z h' a .int (vs.set i (.int x)) → GoG p e below F T' (mkF m (pc + 1) Ls rest)) :
    GoG p e below F T (mkF m pc Ls (.int x :: .int j :: .ref a :: rest)) := by
  obtain ⟨cl, Ar, q⟩ := A.in_ hi hl
  obtain ⟨T', h', X', e', W, st⟩ := Jvm.RoadKit.stI X hx hZ eT Ar (j := j) (x := x) q (g := mkF m pc Ls (.int x :: .int j :: .ref a :: rest)) rfl rfl hd
  rw [idxN hi] at X' W
  exact Go.back st (k T' h' X' e' W (A.set rfl W hl))
theorem Go.stJ {x : Int64} (A : VArr Z h a .long vs) (X : Stand p l e R s m args below meth c T locs cells slots) (hx : p.tables.exec = Jvm.exec) (hZ : Z.Warmed39 s.vm) (eT : T.heap = h) (hd : decode c.code pc = .ok (.lastore, 1)) (hi : j.toInt = i) (hl : i < vs.length)
    (k : ∀ T' h', Stand p l e R s m args below meth c T' (locs ++ [⟨a, i⟩]) cells slots → T'.heap = h' → Wr h h' a i (.long x) → VArr Z h' a .long (vs.set i (.long x)) → GoG p e below F T' (mkF m (pc + 1) Ls rest)) :
    GoG p e below F T (mkF m pc Ls (.long x :: .int j :: .ref a :: rest)) := by
  obtain ⟨cl, Ar, q⟩ := A.in_ hi hl
  obtain ⟨T', h', X', e', W, st⟩ := Jvm.RoadKit.stJ X hx hZ eT Ar (j := j) (x := x) q (g := mkF m pc Ls (.long x :: .int j :: .ref a :: rest)) rfl rfl hd
  rw [idxN hi] at X' W
  exact Go.back st (k T' h' X' e' W (A.set rfl W hl))
theorem Go.stB (A : VArr Z h a .byte vs) (X : Stand p l e R s m args below meth c T locs cells slots) (hx : p.tables.exec = Jvm.exec) (hZ : Z.Warmed39 s.vm) (eT : T.heap = h) (hd : decode c.code pc = .ok (.bastore, 1)) (hi : j.toInt = i) (hl : i < vs.length)
    (k : ∀ T' h', Stand p l e R s m args below meth c T' (locs ++ [⟨a, i⟩]) cells slots → T'.heap = h' → Wr h h' a i (.int (nar .byte x)) → VArr Z h' a .byte (vs.set i (.int (nar .byte x))) → GoG p e below F T' (mkF m (pc + 1) Ls rest)) :
    GoG p e below F T (mkF m pc Ls (.int x :: .int j :: .ref a :: rest)) := by
  obtain ⟨cl, Ar, q⟩ := A.in_ hi hl
  obtain ⟨T', h', X', e', W, st⟩ := Jvm.RoadKit.stB X hx hZ eT Ar (j := j) (x := x) q (g := mkF m pc Ls (.int x :: .int j :: .ref a :: rest)) rfl rfl hd
  rw [idxN hi] at X' W
  exact Go.back st (k T' h' X' e' W (A.set (fits_nar_byte x) W hl))
theorem VArr.new {k : ClassId} {n : Int32} (A : Arr Z h a (newA k ty n) ty) (hi : n.toInt = i) : VArr Z h a ty (List.replicate i (defaultValue ty)) := by
  have hl : i < 2147483648 := by have := n.toInt_lt; omega
  have e : i.toInt32 = n := Int32.toInt_inj.mp (by rw [n32 hl, hi])
  refine ⟨by simpa using hl, k, ?_⟩
  rw [List.length_replicate, e]
  exact (Arv.new A (idx0 hi)).pad fun q => by have := pad_rep [] (defaultValue ty) i q; simpa using this
theorem Go.newA {aty : ArrayType} {n : Int32} {cap : Nat} (X : Stand p l e R s m args below meth c T locs cells slots) (hx : p.tables.exec = Jvm.exec) (hZ : Z.Warmed39 s.vm) (w : (Jvm.Cond.arrayClass (newarray.typeOf aty)).before a0 Z = true) (eT : T.heap = h) (hd : decode c.code pc = .ok (.newarray aty, 2))
    (hi : n.toInt = i) (hcap : i ≤ cap) (hb : cap * 8 ≤ 536870912) (hc : cells + 1 ≤ R.cells) (hl : slots + cap ≤ R.slots)
    (k : ∀ T' h' a, a = h.size → Stand p l e R s m args below meth c T' locs (cells + 1) (slots + cap) → T'.heap = h' → Ext h h' → VArr Z h' a (newarray.typeOf aty) (List.replicate i (defaultValue (newarray.typeOf aty))) → GoG p e below F T' (mkF m (pc + 2) Ls (.ref a :: rest))) :
    GoG p e below F T (mkF m pc Ls (.int n :: rest)) := by
  obtain ⟨T', h', cA, X', e', E, A, st⟩ := newP X hx hZ w eT (g := mkF m pc Ls (.int n :: rest)) rfl hd rfl (idx0 hi) (cap := cap) (by rw [idxN hi]; exact hcap) hb hc hl
  exact Go.back st (k T' h' _ rfl X' e' E (VArr.new A hi))
theorem Go.newAE {aty : ArrayType} {n : Int32} {cap : Nat} {ad : String} (had : "[" ++ (newarray.typeOf aty).toString = ad) (X : Stand p l e R s m args below meth c T locs cells slots) (hx : p.tables.exec = Jvm.exec) (hZ : Z.Warmed39 s.vm) (w : (Jvm.Cond.arrayClass (newarray.typeOf aty)).before a0 Z = true) (eT : T.heap = h) (hd : decode c.code pc = .ok (.newarray aty, 2))
    (hi : n.toInt = i) (hcap : i ≤ cap) (hb : cap * 8 ≤ 536870912) (hc : cells + 1 ≤ R.cells) (hl : slots + cap ≤ R.slots)
    (k : ∀ T' h' a, a = h.size → Stand p l e R s m args below meth c T' locs (cells + 1) (slots + cap) → T'.heap = h' → Ext h h' → VArr Z h' a (newarray.typeOf aty) (List.replicate i (defaultValue (newarray.typeOf aty))) → Exa Z h' a ad → GoG p e below F T' (mkF m (pc + 2) Ls (.ref a :: rest))) :
    GoG p e below F T (mkF m pc Ls (.int n :: rest)) := by
  obtain ⟨T', h', cA, X', e', E, A, B, st⟩ := newPE X hx hZ w eT (g := mkF m pc Ls (.int n :: rest)) rfl hd rfl (idx0 hi) (cap := cap) (by rw [idxN hi]; exact hcap) hb hc hl had
  exact Go.back st (k T' h' _ rfl X' e' E (VArr.new A hi) B)
theorem stretch (vs : List Value) (dv : Value) (i n : Nat) (q : i + n ≤ vs.length) : (vs.drop i).take n = (List.range n).map fun z => vs.getD (i + z) dv := by
  apply List.ext_getElem
  · simp; omega
  · intro k h1 h2
    simp at h1 h2 ⊢
    rw [List.getElem?_eq_getElem (by omega)]; rfl
theorem Go.cpy {own : String} {index n0 n : Nat} {sp dp nn : Int32} {j' : Nat} (X : Stand p l e R s m args below meth c T locs cells slots) (hx : p.tables.exec = Jvm.exec) (hZ : Z.Warmed39 s.vm) (hown : s.vm.findClass own = some m.cls)
    (w1 : (Jvm.Cond.methodLink own index Jvm.Stand.acN).before a0 Z = true) (w2 : (Jvm.Cond.native Jvm.Stand.acN).before a0 Z = true) (w3 : (Jvm.Cond.static Jvm.Stand.acN).before a0 Z = true) (w4 : (Jvm.Cond.initialized "java/lang/System").before a0 Z = true) (eT : T.heap = h)
    (A : VArr Z h a ty vs) (B : VArr Z h b ty vd) (hty : refKind ty = false) (hi : sp.toInt = i) (hj : dp.toInt = j') (hn : nn.toInt = n) (b1 : i + n ≤ vs.length) (b2 : j' + n ≤ vd.length) (N : Fr n0 locs) (ge : n0 ≤ b)
    (hsz : Ls.size = c.maxLocals) (hd : decode c.code pc = .ok (.invokestatic index, 3)) (hf : 1 ≤ R.frames) {W : Nat} (hW : 2 * 0 + (rest.map fun v => v.category).sum ≤ W) (hlo : W + (nativeFrameWords "java/lang/System" "arraycopy" 5 + 11) ≤ R.locals)
    (k : ∀ T' h' L, Stand p l e R s m args below meth c T' L cells slots → T'.heap = h' → Fr n0 L → Keep h h' [b] → VArr Z h' b ty (vd.take j' ++ (vs.drop i).take n ++ vd.drop (j' + n)) → GoG p e below F T' (mkF m (pc + 3) Ls rest)) :
    GoG p e below F T (mkF m pc Ls (.int nn :: .int dp :: .ref b :: .int sp :: .ref a :: rest)) := by
  obtain ⟨q1, k1, A1⟩ := A
  obtain ⟨q2, k2, B1⟩ := B
  obtain ⟨T', h', L, X', e', N', K, V, st⟩ := cpA X hx hZ hown w1 w2 w3 w4 eT A1 B1 (us := (vs.drop i).take n) (Or.inl ⟨rfl, hty⟩) (sp := sp) (dp := dp) (nn := nn) (idx0 hi) (idx0 hj) (idx0 hn) (by rw [idxN hi, idxN hn, n32c q1]; exact b1) (by rw [idxN hj, idxN hn, n32c q2]; exact b2) (by rw [idxN hi, idxN hn]; exact stretch vs _ i n b1) (by rw [idxN hj, idxN hn]; exact b2) N ge (g := mkF m pc Ls (.int nn :: .int dp :: .ref b :: .int sp :: .ref a :: rest)) rfl hsz rfl hd hf (W := W) hW hlo
  rw [idxN hj, idxN hn] at V
  refine Go.back st (k T' h' L X' e' N' K ?_)
  have el : (vd.take j' ++ (vs.drop i).take n ++ vd.drop (j' + n)).length = vd.length := by simp; omega
  exact ⟨by rw [el]; exact q2, k2, by rw [el]; exact V⟩
end Arrays
end Jvm.OwnKit
namespace Jvm.OwnKit
open Sem ClassFile Op Lib Jvm.Stand Jvm.Free Jvm.LawKit Jvm.RoadKit
theorem VArr.ofArv {Z : State} {h : Heap} {a : Addr} {k : ClassId} {z : Int32} {vs : List Value} (A : Arv Z h a k .byte z vs (.int 0)) (hl : z.toNatClampNeg = vs.length) : VArr Z h a .byte vs := by
  have hz : ¬ z < 0 := by obtain ⟨c, -, -, -, q, -⟩ := A; exact q
  have q := back32 hz
  rw [hl] at q
  exact ⟨q.2, k, by rw [q.1]; exact A⟩
end Jvm.OwnKit
namespace Jvm.OwnKit
open Sem ClassFile Op Lib Jvm.Stand Jvm.Free Jvm.LawKit Jvm.RoadKit
section Change
variable {Z : State} {n0 : Nat} {h0 h h' : Heap} {ws ws' : List Addr} {L L' : List Loc} {a b : Addr} {sl : Nat} {v : Value}
/-- what a walk has changed since h0: cells at ws, and new ones; no place below n0 -/
def Chg (n0 : Nat) (h0 h : Heap) (ws : List Addr) (L : List Loc) : Prop := n0 ≤ h0.size ∧ Keep h0 h ws ∧ Fr n0 L
theorem Chg.refl (q : n0 ≤ h0.size) : Chg n0 h0 h0 ws [] := ⟨q, Keep.refl _ _, Fr.nil _⟩
theorem Chg.keep (C : Chg n0 h0 h ws L) : Keep h0 h ws := C.2.1
theorem Chg.fr (C : Chg n0 h0 h ws L) : Fr n0 L := C.2.2
theorem Chg.size (C : Chg n0 h0 h ws L) : n0 ≤ h.size := Nat.le_trans C.1 C.2.1.1
theorem Chg.grow (C : Chg n0 h0 h ws L) : h0.size ≤ h.size := C.2.1.1
theorem Chg.at (C : Chg n0 h0 h ws L) (q : a = h.size) : h0.size ≤ a := q ▸ C.grow
theorem Chg.ge (C : Chg n0 h0 h ws L) (q : h0.size ≤ a) : n0 ≤ a := Nat.le_trans C.1 q
theorem Chg.ext (C : Chg n0 h0 h ws L) (E : Ext h h') : Chg n0 h0 h' ws L := ⟨C.1, C.2.1.ext E, C.2.2⟩
theorem Chg.wr (C : Chg n0 h0 h ws L) (W : Wr h h' a sl v) (q : a ∈ ws ∨ h0.size ≤ a) (g : n0 ≤ a) : Chg n0 h0 h' ws (L ++ [⟨a, sl⟩]) := ⟨C.1, C.2.1.wr W q, C.2.2.app fun y hy => by cases List.mem_singleton.mp hy; exact g⟩
theorem Chg.wrN (C : Chg n0 h0 h ws L) (W : Wr h h' a sl v) (q : a ∈ ws ∨ h0.size ≤ a) (N : Fr n0 L') : Chg n0 h0 h' ws (L ++ L') := ⟨C.1, C.2.1.wr W q, C.2.2.app N⟩
theorem Chg.call (C : Chg n0 h0 h ws L) (C' : Chg n0 h h' ws' L') (q : ∀ x ∈ ws', x ∈ ws ∨ h0.size ≤ x) : Chg n0 h0 h' ws (L ++ L') := ⟨C.1, C.2.1.trans C'.2.1 q, C.2.2.app C'.2.2⟩
theorem Chg.cpy (C : Chg n0 h0 h ws L) (K : Keep h h' [b]) (N : Fr n0 L') (q : b ∈ ws ∨ h0.size ≤ b) : Chg n0 h0 h' ws L' := ⟨C.1, C.2.1.trans K (allS q all0), N⟩
theorem Chg.pure (C : Chg n0 h0 h ws L) (N : Fr n0 L') (e : h' = h) : Chg n0 h0 h' ws (L ++ L') := by subst e; exact ⟨C.1, C.2.1, C.2.2.app N⟩
theorem Chg.sub (C : Chg n0 h0 h ws L) (q : ∀ x ∈ ws, x ∈ ws') : Chg n0 h0 h ws' L := ⟨C.1, (Keep.refl h0 ws').trans C.2.1 (fun x hx => Or.inl (q x hx)), C.2.2⟩
theorem lt_ne {F : Nat} (q : b = F) (r : a < F) : a ≠ b := Nat.ne_of_lt (q ▸ r)
theorem Chg.base (C : Chg n0 h0 h ws L) : Chg n0 h h ws' L := ⟨C.size, Keep.refl _ _, C.fr⟩
/-- no class's statics lie at x -/
def NS (h : Heap) (x : Addr) : Prop := ∀ cl : Cell, h[x]? = some cl → cl.vm.isStatics = false
theorem own_exaNS {K : String} (E : Exa Z h a K) : NS h a := fun cl q => by obtain ⟨c, k, h1, -, -, h4, -⟩ := E; cases h1.symm.trans q; exact h4
theorem own_ns0 : ∀ x ∈ ([] : List Addr), NS h x := fun _ q => by cases q
theorem own_nsS (q : NS h a) (r : ∀ x ∈ ws, NS h x) : ∀ x ∈ a :: ws, NS h x := fun x hx => by
  rcases List.mem_cons.mp hx with rfl | q'
  · exact q
  · exact r x q'
theorem staKeep {K n d : String} (S : Sta Z h K n d v) (k : Keep h h' ws) (q : ∀ x ∈ ws, NS h x) : Sta Z h' K n d v := by
  obtain ⟨cf, i, kk, f, st, cell, h1, h2, h3, h4, h5, h6, h7⟩ := S
  exact ⟨cf, i, kk, f, st, cell, h1, h2, h3, h4, k.2.1 _ _ h5 (fun hm => by have := q _ hm _ h5; rw [h6] at this; cases this), h6, h7⟩
end Change
end Jvm.OwnKit
namespace Jvm.OwnKit
open Sem ClassFile Op Lib Jvm.Stand Jvm.Free Jvm.LawKit Jvm.RoadKit
section Wide
variable {p : Program} {l : Launch} {e : Env} {R : Room} {s : State} {vm0 : Vm} {m : MethodId} {args : Array Value} {below : List Frame} {meth : Method} {c : Code} {T : State} {locs : List Loc} {cells slots : Nat} {Z : State} {a0 : Array Value} {h : Heap}
  {Q : Option Value → Heap → List Loc → Prop} {kc ks : Nat} {F : Outcome → State → Prop}
/-- the same, where String constants may have been resolved and interned -/
def FinW (s : State) (Q : Option Value → Heap → List Loc → Prop) (kc ks : Nat) : Outcome → State → Prop := fun o t => ∃ v L, o = .returned v ∧ Q v t.heap L ∧ ReturnedEndW s o t L kc ks
abbrev GoW (p : Program) (e : Env) (below : List Frame) (s : State) (Q : Option Value → Heap → List Loc → Prop) (kc ks : Nat) (T : State) (f : JFrame) : Prop := GoG p e below (FinW s Q kc ks) T f
theorem GoW.retN (X : Stand p l e R (s.setVm vm0) m args below meth c T locs cells slots) (hx : p.tables.exec = Jvm.exec) {n : Nat} (hS : s.Since vm0 n) (hn : n ≤ T.heap.size) {pc : Nat} {Ls : Array Slot} {z w : Int32} {t : FieldType} {rest : List Value} (hret : meth.sig.returnType = some t) (ht : t = .boolean ∨ t = .byte ∨ t = .char ∨ t = .short) (hw : nar t z = w) (hlk : meth.locks = false) (hd : decode c.code pc = .ok (.ireturn, 1))
    (hQ : Q (some (.int w)) T.heap locs) (hc : cells ≤ kc) (hs : slots ≤ ks) : GoW p e below s Q kc ks T (mkF m pc Ls (.int z :: rest)) := by
  obtain ⟨fs, hr, hrun, hended, hE⟩ := X.leaveW hS hn (v := some (.int w)) (fun q => by rw [hret] at q; cases q) hlk
  exact ⟨_, _, Jvm.RoadKit.retN X hx hret ht hd (by rw [hw]; exact hr), hrun, hended, _, locs, rfl, hQ, hE.1, hE.2.1, hE.2.2.1, hE.2.2.2.mono hc hs⟩
def MetW (l : Launch) (Z : State) (y : MethodName) (bytes : ByteArray) (maxL : Nat) (ret : Option FieldType) (rm : Room) (as' : Array Value) (h : Heap) (Q : Option Value → Heap → List Loc → Prop) : Prop :=
  ∀ ws : List Jvm.Cond, MetFree l y (head1 (Jvm.Cond.code y bytes maxL ret :: ws) rm) (fun a U => a = as' ∧ U = Z) (fun _ _ _ _ _ => True) (fun _ U o U' => ∃ v L, o = .returned v ∧ Q v U'.heap L ∧ ReturnedEndW U o U' L rm.cells rm.slots)
variable {y : MethodName} {bytes : ByteArray} {maxL : Nat} {ret : Option FieldType} {rm : Room} {as' : Array Value}
/-- the law's own walk, from its very start Z -/
theorem MetW.intro (hp : plainFor y = true) (body : ∀ (p : Program) (e : Env) (m : MethodId) (below : List Frame) (meth : Method) (c : Code) (T : State),
      p.tables.exec = Jvm.exec → c.code = bytes → c.maxLocals = maxL → Z.vm.findClass y.cls = some m.cls → meth.name = y.name → meth.sig.returnType = ret → meth.locks = false →
      Stand p l e rm (Z.setVm Z.vm) m as' below meth c T [] 0 0 → T.heap = Z.heap → GoW p e below Z Q rm.cells rm.slots T (entryFrame m as' maxL)) : MetW l Z y bytes maxL ret rm as' h Q := by
  intro ws
  refine MetFree.of_bodySF hp hisR ?_
  intro p e s m args below meth c s₁ Bd hml0 hP hK
  obtain ⟨rfl, rfl⟩ := hP
  exact body p e m below meth c s₁ Bd.exec Bd.bytes hml0 (findClass_of_methodNamed Bd.named) (name_of_methodNamed Bd.named Bd.method).1 Bd.returns Bd.notSynchronized (Stand.of_body Bd) (by rw [Bd.state]; rfl)
end Wide
end Jvm.OwnKit
namespace Jvm.Pilot.@@N@@
open Jvm Jvm.ClassFile Sem Op Lib Jvm.Free Jvm.Stand Jvm.LawKit Jvm.RoadKit Bundle Jvm.OwnKit Jvm.Pilot.@@N@@.Jvm.D
theorem d1_0 : decode prog_1_method_2_code 0 = .ok (.iconst (-1), 1) := by decide +kernel
theorem d1_1 : decode prog_1_method_2_code 1 = .ok (.istore_n 1, 1) := by decide +kernel
theorem d1_2 : decode prog_1_method_2_code 2 = .ok (.iload_n 0, 1) := by decide +kernel
theorem d1_3 : decode prog_1_method_2_code 3 = .ok (.bipush 48, 2) := by decide +kernel
theorem d1_5 : decode prog_1_method_2_code 5 = .ok (.if_icmp .lt 17, 3) := by decide +kernel
theorem d1_8 : decode prog_1_method_2_code 8 = .ok (.iload_n 0, 1) := by decide +kernel
theorem d1_9 : decode prog_1_method_2_code 9 = .ok (.bipush 57, 2) := by decide +kernel
theorem d1_11 : decode prog_1_method_2_code 11 = .ok (.if_icmp .gt 11, 3) := by decide +kernel
theorem d1_14 : decode prog_1_method_2_code 14 = .ok (.iload_n 0, 1) := by decide +kernel
theorem d1_15 : decode prog_1_method_2_code 15 = .ok (.bipush 48, 2) := by decide +kernel
theorem d1_17 : decode prog_1_method_2_code 17 = .ok (.isub, 1) := by decide +kernel
theorem d1_18 : decode prog_1_method_2_code 18 = .ok (.istore_n 1, 1) := by decide +kernel
theorem d1_19 : decode prog_1_method_2_code 19 = .ok (.goto 46, 3) := by decide +kernel
theorem d1_22 : decode prog_1_method_2_code 22 = .ok (.iload_n 0, 1) := by decide +kernel
theorem d1_23 : decode prog_1_method_2_code 23 = .ok (.bipush 97, 2) := by decide +kernel
theorem d1_25 : decode prog_1_method_2_code 25 = .ok (.if_icmp .lt 20, 3) := by decide +kernel
theorem d1_28 : decode prog_1_method_2_code 28 = .ok (.iload_n 0, 1) := by decide +kernel
theorem d1_29 : decode prog_1_method_2_code 29 = .ok (.bipush 102, 2) := by decide +kernel
theorem d1_31 : decode prog_1_method_2_code 31 = .ok (.if_icmp .gt 14, 3) := by decide +kernel
theorem d1_34 : decode prog_1_method_2_code 34 = .ok (.iload_n 0, 1) := by decide +kernel
theorem d1_35 : decode prog_1_method_2_code 35 = .ok (.bipush 97, 2) := by decide +kernel
theorem d1_37 : decode prog_1_method_2_code 37 = .ok (.isub, 1) := by decide +kernel
theorem d1_38 : decode prog_1_method_2_code 38 = .ok (.bipush 10, 2) := by decide +kernel
theorem d1_40 : decode prog_1_method_2_code 40 = .ok (.iadd, 1) := by decide +kernel
theorem d1_41 : decode prog_1_method_2_code 41 = .ok (.istore_n 1, 1) := by decide +kernel
theorem d1_42 : decode prog_1_method_2_code 42 = .ok (.goto 23, 3) := by decide +kernel
theorem d1_45 : decode prog_1_method_2_code 45 = .ok (.iload_n 0, 1) := by decide +kernel
theorem d1_46 : decode prog_1_method_2_code 46 = .ok (.bipush 65, 2) := by decide +kernel
theorem d1_48 : decode prog_1_method_2_code 48 = .ok (.if_icmp .lt 17, 3) := by decide +kernel
theorem d1_51 : decode prog_1_method_2_code 51 = .ok (.iload_n 0, 1) := by decide +kernel
theorem d1_52 : decode prog_1_method_2_code 52 = .ok (.bipush 70, 2) := by decide +kernel
theorem d1_54 : decode prog_1_method_2_code 54 = .ok (.if_icmp .gt 11, 3) := by decide +kernel
theorem d1_57 : decode prog_1_method_2_code 57 = .ok (.iload_n 0, 1) := by decide +kernel
theorem d1_58 : decode prog_1_method_2_code 58 = .ok (.bipush 65, 2) := by decide +kernel
theorem d1_60 : decode prog_1_method_2_code 60 = .ok (.isub, 1) := by decide +kernel
theorem d1_61 : decode prog_1_method_2_code 61 = .ok (.bipush 10, 2) := by decide +kernel
theorem d1_63 : decode prog_1_method_2_code 63 = .ok (.iadd, 1) := by decide +kernel
theorem d1_64 : decode prog_1_method_2_code 64 = .ok (.istore_n 1, 1) := by decide +kernel
theorem d1_65 : decode prog_1_method_2_code 65 = .ok (.iload_n 1, 1) := by decide +kernel
theorem d1_66 : decode prog_1_method_2_code 66 = .ok (.ireturn, 1) := by decide +kernel
theorem d2_0 : decode jdk_42_method_56_code 0 = .ok (.aload_n 0, 1) := by decide +kernel
theorem d2_1 : decode jdk_42_method_56_code 1 = .ok (.invokevirtual 492, 3) := by decide +kernel
theorem d2_4 : decode jdk_42_method_56_code 4 = .ok (.ifCond .eq 12, 3) := by decide +kernel
theorem d2_7 : decode jdk_42_method_56_code 7 = .ok (.aload_n 0, 1) := by decide +kernel
theorem d2_8 : decode jdk_42_method_56_code 8 = .ok (.getfield 9, 3) := by decide +kernel
theorem d2_11 : decode jdk_42_method_56_code 11 = .ok (.iload_n 1, 1) := by decide +kernel
theorem d2_12 : decode jdk_42_method_56_code 12 = .ok (.invokestatic 495, 3) := by decide +kernel
theorem d2_15 : decode jdk_42_method_56_code 15 = .ok (.ireturn, 1) := by decide +kernel
theorem d2_16 : decode jdk_42_method_56_code 16 = .ok (.aload_n 0, 1) := by decide +kernel
theorem d2_17 : decode jdk_42_method_56_code 17 = .ok (.getfield 9, 3) := by decide +kernel
theorem d2_20 : decode jdk_42_method_56_code 20 = .ok (.iload_n 1, 1) := by decide +kernel
theorem d2_21 : decode jdk_42_method_56_code 21 = .ok (.invokestatic 498, 3) := by decide +kernel
theorem d2_24 : decode jdk_42_method_56_code 24 = .ok (.ireturn, 1) := by decide +kernel
theorem d3_0 : decode jdk_42_method_154_code 0 = .ok (.getstatic 38, 3) := by decide +kernel
theorem d3_3 : decode jdk_42_method_154_code 3 = .ok (.ifCond .eq 14, 3) := by decide +kernel
theorem d3_6 : decode jdk_42_method_154_code 6 = .ok (.aload_n 0, 1) := by decide +kernel
theorem d3_7 : decode jdk_42_method_154_code 7 = .ok (.getfield 15, 3) := by decide +kernel
theorem d3_10 : decode jdk_42_method_154_code 10 = .ok (.ifCond .ne 7, 3) := by decide +kernel
theorem d3_13 : decode jdk_42_method_154_code 13 = .ok (.iconst 1, 1) := by decide +kernel
theorem d3_14 : decode jdk_42_method_154_code 14 = .ok (.goto 4, 3) := by decide +kernel
theorem d3_17 : decode jdk_42_method_154_code 17 = .ok (.iconst 0, 1) := by decide +kernel
theorem d3_18 : decode jdk_42_method_154_code 18 = .ok (.ireturn, 1) := by decide +kernel
theorem d4_0 : decode jdk_43_method_2_code 0 = .ok (.iload_n 1, 1) := by decide +kernel
theorem d4_1 : decode jdk_43_method_2_code 1 = .ok (.aload_n 0, 1) := by decide +kernel
theorem d4_2 : decode jdk_43_method_2_code 2 = .ok (.arraylength, 1) := by decide +kernel
theorem d4_3 : decode jdk_43_method_2_code 3 = .ok (.invokestatic 9, 3) := by decide +kernel
theorem d4_6 : decode jdk_43_method_2_code 6 = .ok (.aload_n 0, 1) := by decide +kernel
theorem d4_7 : decode jdk_43_method_2_code 7 = .ok (.iload_n 1, 1) := by decide +kernel
theorem d4_8 : decode jdk_43_method_2_code 8 = .ok (.baload, 1) := by decide +kernel
theorem d4_9 : decode jdk_43_method_2_code 9 = .ok (.sipush 255, 3) := by decide +kernel
theorem d4_12 : decode jdk_43_method_2_code 12 = .ok (.iand, 1) := by decide +kernel
theorem d4_13 : decode jdk_43_method_2_code 13 = .ok (.i2c, 1) := by decide +kernel
theorem d4_14 : decode jdk_43_method_2_code 14 = .ok (.ireturn, 1) := by decide +kernel
theorem d5_0 : decode jdk_42_method_155_code 0 = .ok (.iload_n 0, 1) := by decide +kernel
theorem d5_1 : decode jdk_42_method_155_code 1 = .ok (.iload_n 1, 1) := by decide +kernel
theorem d5_2 : decode jdk_42_method_155_code 2 = .ok (.getstatic 1053, 3) := by decide +kernel
theorem d5_5 : decode jdk_42_method_155_code 5 = .ok (.invokestatic 1059, 3) := by decide +kernel
theorem d5_8 : decode jdk_42_method_155_code 8 = .ok (.pop, 1) := by decide +kernel
theorem d5_9 : decode jdk_42_method_155_code 9 = .ok (.return_, 1) := by decide +kernel
theorem d6_0 : decode jdk_41_method_11_code 0 = .ok (.iload_n 0, 1) := by decide +kernel
theorem d6_1 : decode jdk_41_method_11_code 1 = .ok (.ifCond .lt 8, 3) := by decide +kernel
theorem d6_4 : decode jdk_41_method_11_code 4 = .ok (.iload_n 0, 1) := by decide +kernel
theorem d6_5 : decode jdk_41_method_11_code 5 = .ok (.iload_n 1, 1) := by decide +kernel
theorem d6_6 : decode jdk_41_method_11_code 6 = .ok (.if_icmp .lt 10, 3) := by decide +kernel
theorem d6_9 : decode jdk_41_method_11_code 9 = .ok (.aload_n 2, 1) := by decide +kernel
theorem d6_10 : decode jdk_41_method_11_code 10 = .ok (.iload_n 0, 1) := by decide +kernel
theorem d6_11 : decode jdk_41_method_11_code 11 = .ok (.iload_n 1, 1) := by decide +kernel
theorem d6_12 : decode jdk_41_method_11_code 12 = .ok (.invokestatic 95, 3) := by decide +kernel
theorem d6_15 : decode jdk_41_method_11_code 15 = .ok (.athrow, 1) := by decide +kernel
theorem d6_16 : decode jdk_41_method_11_code 16 = .ok (.iload_n 0, 1) := by decide +kernel
theorem d6_17 : decode jdk_41_method_11_code 17 = .ok (.ireturn, 1) := by decide +kernel
theorem pd_0 : parseMethodDescriptor "(IILjava/util/function/BiFunction;)I" = some ⟨[.int, .int, (.object "java/util/function/BiFunction")], some .int⟩ := by decide +kernel
theorem pd_1 : parseMethodDescriptor "(II)V" = some ⟨[.int, .int], none⟩ := by decide +kernel
theorem pd_2 : parseMethodDescriptor "()Z" = some ⟨[], some .boolean⟩ := by decide +kernel
theorem pd_3 : parseMethodDescriptor "([BI)C" = some ⟨[(.array .byte), .int], some .char⟩ := by decide +kernel
theorem pd_4 : parseMethodDescriptor "(C)I" = some ⟨[.char], some .int⟩ := by decide +kernel
theorem pd_5 : parseMethodDescriptor "(I)C" = some ⟨[.int], some .char⟩ := by decide +kernel

theorem nar_char255 (x : Int32) : nar .char (((x &&& (255 : Int32)).toUInt32.toUInt16.toUInt32.toInt32)) = x &&& (255 : Int32) := by
  rw [i2c_mask]; exact i2c_mask x
theorem own_lt32 {x : Int32} {i n : Nat} (hi : x.toInt = i) (hn : n < 2147483648) : x < n.toInt32 ↔ i < n := by rw [Int32.lt_iff_toInt_lt, n32 hn, hi]; omega
theorem own_at {vs : List Int32} {k : Nat} (q : k < vs.length) : (vs.map Value.int)[k]? = some (.int (vs.getD k 0)) := by
  rw [List.getElem?_map, List.getElem?_eq_getElem q, List.getD_eq_getElem?_getD, List.getElem?_eq_getElem q]; rfl

theorem ef_rmLat (m : MethodId) (x0 : Addr) : entryFrame m #[(.ref x0)] 1 = mkF m 0 #[.val (.ref x0)] [] := by first | (simp [entryFrame, mkF, argsToLocals, Value.category]; done) | rfl
set_option maxRecDepth 65536 in
set_option maxHeartbeats 40000000 in
theorem rmLat (l : Launch) (Z : State) (a0 : Array Value) (hw : ∀ d ∈ tables_1, d.before a0 Z = true) (sa : Addr) (cz : Int32) (h0 : Heap) (SC : Sta Z h0 "java/lang/String" "COMPACT_STRINGS" "Z" (.int cz)) (hcz : ¬ cz = 0) (Fc : Fld Z h0 sa "java/lang/String" "coder" "B" (.int (0 : Int32))) :
    Met l Z (⟨"java/lang/String", "isLatin1", "()Z"⟩ : MethodName) jdk_42_method_154_code 1 (some .boolean) ({ frames := 0, cells := 0, slots := 0, locals := 0 } : Room) #[(.ref sa)] h0 (fun v h L => v = some (.int 1) ∧ L = [] ∧ h = h0) := by
  refine Met.intro (by decide +kernel) ?_
  intro p e s m below meth c T0 hx hby hml hown hnm hret hlk hZ X0 e0
  refine Go.cast (ef_rmLat m sa) ?_
  obtain ⟨T1, X1, e1, st1⟩ := getS2 X0 hx hZ hown (host := "") (Or.inl (hw _ (List.mem_of_getElem? (i := 24) rfl))) Via.refl e0 SC (g := (mkF m 0 #[.val (.ref sa)] [])) rfl (hb hby d3_0)
  refine Go.back (f' := (mkF m 3 #[.val (.ref sa)] [(.int cz)])) st1 ?_
  refine Go.back (f' := (mkF m 6 #[.val (.ref sa)] [])) (fun _ k => XS.ifNo X1.here hx rfl (hb hby d3_3) rfl ((if0 _ _).trans (feq hcz).1) k) ?_
  refine Go.back (f' := (mkF m 7 #[.val (.ref sa)] [(.ref sa)])) (fun _ k => XS.aloadN X1.here hx rfl (hb hby d3_6) rfl rfl k) ?_
  obtain ⟨T2, X2, e2, st2⟩ := getF X1 hx hZ hown (host := "") (Or.inl (hw _ (List.mem_of_getElem? (i := 25) rfl))) Via.refl e1 Fc (g := (mkF m 7 #[.val (.ref sa)] [(.ref sa)])) rfl rfl (hb hby d3_7)
  refine Go.back (f' := (mkF m 10 #[.val (.ref sa)] [(.int (0 : Int32))])) st2 ?_
  refine Go.back (f' := (mkF m 13 #[.val (.ref sa)] [])) (fun _ k => XS.ifNo X2.here hx rfl (hb hby d3_10) rfl ((if0 _ _).trans (teq rfl).2) k) ?_
  refine Go.back (f' := (mkF m 14 #[.val (.ref sa)] [(.int (1 : Int32))])) (fun _ k => XS.iconst X2.here hx rfl (hb hby d3_13) k) ?_
  refine Go.back (f' := (mkF m 18 #[.val (.ref sa)] [(.int (1 : Int32))])) (fun _ k => XS.goto X2.here hx rfl (pc0 := 14) (pc' := 18) rfl (hb hby d3_14) (by decide) (by decide) k) ?_
  exact Go.retN X2 hx (t := .boolean) hret (by simp) (w := (1 : Int32)) rfl hlk (hb hby d3_18) (by (try rw [e2]); exact ⟨rfl, rfl, rfl⟩) (Nat.zero_le _) (Nat.zero_le _)
set_option maxHeartbeats 4000000 in
theorem ef_rmPre (m : MethodId) (x0 : Int32) (x1 : Int32) (x2 : Value) (q2 : x2.isRef = true) : entryFrame m #[(.int x0), (.int x1), x2] 3 = mkF m 0 #[.val (.int x0), .val (.int x1), .val x2] [] := by rcases ref_cases q2 with rfl | ⟨_, rfl⟩ <;> first | (simp [entryFrame, mkF, argsToLocals, Value.category]; done) | rfl
set_option maxRecDepth 65536 in
set_option maxHeartbeats 40000000 in
theorem rmPre (l : Launch) (Z : State) (a0 : Array Value) (hw : ∀ d ∈ tables_1, d.before a0 Z = true) (i32 m32 : Int32) (fv : Value) (h0 : Heap) (hfv : fv.isRef = true) (hfc : fv.category = 1) (h1 : ¬ i32 < 0) (h2 : i32 < m32) :
    Met l Z (⟨"jdk/internal/util/Preconditions", "checkIndex", "(IILjava/util/function/BiFunction;)I"⟩ : MethodName) jdk_41_method_11_code 3 (some .int) ({ frames := 0, cells := 0, slots := 0, locals := 0 } : Room) #[(.int i32), (.int m32), fv] h0 (fun v h L => v = some (.int i32) ∧ L = [] ∧ h = h0) := by
  refine Met.intro (plainFor_of_name (by first | (simp [plainName, overriddenIn]; done) | decide +kernel)) ?_
  intro p e s m below meth c T0 hx hby hml hown hnm hret hlk hZ X0 e0
  refine Go.cast (ef_rmPre m i32 m32 fv hfv) ?_
  refine Go.back (f' := (mkF m 1 #[.val (.int i32), .val (.int m32), .val fv] [(.int i32)])) (fun _ k => XS.iloadN X0.here hx rfl (hb hby d6_0) rfl k) ?_
  refine Go.back (f' := (mkF m 4 #[.val (.int i32), .val (.int m32), .val fv] [])) (fun _ k => XS.ifNo X0.here hx rfl (hb hby d6_1) rfl ((if0 _ _).trans (flt h1).1) k) ?_
  refine Go.back (f' := (mkF m 5 #[.val (.int i32), .val (.int m32), .val fv] [(.int i32)])) (fun _ k => XS.iloadN X0.here hx rfl (hb hby d6_4) rfl k) ?_
  refine Go.back (f' := (mkF m 6 #[.val (.int i32), .val (.int m32), .val fv] [(.int m32), (.int i32)])) (fun _ k => XS.iloadN X0.here hx rfl (hb hby d6_5) rfl k) ?_
  refine Go.back (f' := (mkF m 16 #[.val (.int i32), .val (.int m32), .val fv] [])) (fun _ k => XS.icmpYes X0.here hx rfl (pc0 := 6) (pc' := 16) rfl (hb hby d6_6) rfl (tlt h2).1 (by decide) (by decide) k) ?_
  refine Go.back (f' := (mkF m 17 #[.val (.int i32), .val (.int m32), .val fv] [(.int i32)])) (fun _ k => XS.iloadN X0.here hx rfl (hb hby d6_16) rfl k) ?_
  exact Go.retI X0 hx hret hlk (hb hby d6_17) (by (try rw [e0]); exact ⟨rfl, rfl, rfl⟩) (Nat.zero_le _) (Nat.zero_le _)
theorem ef_rmChk (m : MethodId) (x0 : Int32) (x1 : Int32) : entryFrame m #[(.int x0), (.int x1)] 2 = mkF m 0 #[.val (.int x0), .val (.int x1)] [] := by first | (simp [entryFrame, mkF, argsToLocals, Value.category]; done) | rfl
set_option maxRecDepth 65536 in
set_option maxHeartbeats 40000000 in
theorem rmChk (l : Launch) (Z : State) (a0 : Array Value) (hw : ∀ d ∈ tables_1, d.before a0 Z = true) (i32 m32 : Int32) (fv : Value) (h0 : Heap) (SF : Sta Z h0 "jdk/internal/util/Preconditions" "SIOOBE_FORMATTER" "Ljava/util/function/BiFunction;" fv) (hfv : fv.isRef = true) (hfc : fv.category = 1) (h1 : ¬ i32 < 0) (h2 : i32 < m32) :
    Met l Z (⟨"java/lang/String", "checkIndex", "(II)V"⟩ : MethodName) jdk_42_method_155_code 2 none ({ frames := 1, cells := 0, slots := 0, locals := 16 } : Room) #[(.int i32), (.int m32)] h0 (fun v h L => v = none ∧ L = [] ∧ h = h0) := by
  refine Met.intro (by decide +kernel) ?_
  intro p e s m below meth c T0 hx hby hml hown hnm hret hlk hZ X0 e0
  refine Go.cast (ef_rmChk m i32 m32) ?_
  refine Go.back (f' := (mkF m 1 #[.val (.int i32), .val (.int m32)] [(.int i32)])) (fun _ k => XS.iloadN X0.here hx rfl (hb hby d5_0) rfl k) ?_
  refine Go.back (f' := (mkF m 2 #[.val (.int i32), .val (.int m32)] [(.int m32), (.int i32)])) (fun _ k => XS.iloadN X0.here hx rfl (hb hby d5_1) rfl k) ?_
  obtain ⟨T3, X3, e3, st3⟩ := getS2 X0 hx hZ hown (host := "") (Or.inl (hw _ (List.mem_of_getElem? (i := 34) rfl))) Via.refl e0 SF (g := (mkF m 2 #[.val (.int i32), .val (.int m32)] [(.int m32), (.int i32)])) rfl (hb hby d5_2)
  refine Go.back (f' := (mkF m 5 #[.val (.int i32), .val (.int m32)] [fv, (.int m32), (.int i32)])) st3 ?_
  refine Go.callS X3 hx hZ hown (hw _ (List.mem_of_getElem? (i := 36) rfl)) (hw _ (List.mem_of_getElem? (i := 37) rfl)) (hw _ (List.mem_of_getElem? (i := 35) rfl)) (hw _ (List.mem_of_getElem? (i := 38) rfl)) (by decide) e3 (argsL := [(.int i32), (.int m32), fv]) (rest := []) (rmPre l Z a0 hw i32 m32 fv h0 hfv hfc h1 h2) (lenOf pd_0 rfl) rfl (by rw [hml]; rfl) (W := 0) (Nat.le_of_eq rfl) (hb hby d5_5) (by decide) (by decide) (by decide) (by decide) ?_
  intro v4 T4 L4 X4 hQ4
  obtain ⟨rfl, rfl, hh4⟩ := hQ4
  rw [List.append_nil] at X4
  show GoG _ _ _ _ _ (mkF m 8 #[.val (.int i32), .val (.int m32)] [(.int i32)])
  refine Go.back (f' := (mkF m 9 #[.val (.int i32), .val (.int m32)] [])) (fun _ k => XS.pop X4.here hx rfl (hb hby d5_8) rfl rfl k) ?_
  exact Go.ret0 X4 hx hret hlk (hb hby d5_9) (by (try rw [hh4]); exact ⟨rfl, rfl, rfl⟩) (Nat.zero_le _) (Nat.zero_le _)
theorem ef_rmL1 (m : MethodId) (x0 : Addr) (x1 : Int32) : entryFrame m #[(.ref x0), (.int x1)] 2 = mkF m 0 #[.val (.ref x0), .val (.int x1)] [] := by first | (simp [entryFrame, mkF, argsToLocals, Value.category]; done) | rfl
set_option maxRecDepth 65536 in
set_option maxHeartbeats 40000000 in
theorem rmL1 (l : Launch) (Z : State) (a0 : Array Value) (hw : ∀ d ∈ tables_1, d.before a0 Z = true) (ba : Addr) (i32 : Int32) (fv : Value) (bs : List Int32) (i : Nat) (h0 : Heap) (SF : Sta Z h0 "jdk/internal/util/Preconditions" "SIOOBE_FORMATTER" "Ljava/util/function/BiFunction;" fv) (hfv : fv.isRef = true) (hfc : fv.category = 1) (A : VArr Z h0 ba .byte (bs.map Value.int)) (hi : i32.toInt = i) (hlt : i < bs.length) :
    Met l Z (⟨"java/lang/StringLatin1", "charAt", "([BI)C"⟩ : MethodName) jdk_43_method_2_code 2 (some .char) ({ frames := 2, cells := 0, slots := 0, locals := 32 } : Room) #[(.ref ba), (.int i32)] h0 (fun v h L => v = some (.int ((bs.getD i 0) &&& (255 : Int32))) ∧ L = [] ∧ h = h0) := by
  refine Met.intro (by decide +kernel) ?_
  intro p e s m below meth c T0 hx hby hml hown hnm hret hlk hZ X0 e0
  refine Go.cast (ef_rmL1 m ba i32) ?_
  have hN : bs.length < 2147483648 := by have := A.len; rwa [List.length_map] at this
  refine Go.back (f' := (mkF m 1 #[.val (.ref ba), .val (.int i32)] [(.int i32)])) (fun _ k => XS.iloadN X0.here hx rfl (hb hby d4_0) rfl k) ?_
  refine Go.back (f' := (mkF m 2 #[.val (.ref ba), .val (.int i32)] [(.ref ba), (.int i32)])) (fun _ k => XS.aloadN X0.here hx rfl (hb hby d4_1) rfl rfl k) ?_
  refine Go.back (f' := (mkF m 3 #[.val (.ref ba), .val (.int i32)] [(.int ((bs.map Value.int)).length.toInt32), (.int i32)])) (A.lenS X0 hx hZ e0 (hb hby d4_2)) ?_
  rw [List.length_map]
  show GoG _ _ _ _ _ (mkF m 3 #[.val (.ref ba), .val (.int i32)] [(.int bs.length.toInt32), (.int i32)])
  refine Go.callS X0 hx hZ hown (hw _ (List.mem_of_getElem? (i := 31) rfl)) (hw _ (List.mem_of_getElem? (i := 32) rfl)) (hw _ (List.mem_of_getElem? (i := 1) rfl)) (hw _ (List.mem_of_getElem? (i := 33) rfl)) (by decide) e0 (argsL := [(.int i32), (.int bs.length.toInt32)]) (rest := []) (rmChk l Z a0 hw i32 bs.length.toInt32 fv h0 SF hfv hfc (idx0 hi) ((own_lt32 hi hN).mpr hlt)) (lenOf pd_1 rfl) rfl (by rw [hml]; rfl) (W := 0) (Nat.le_of_eq rfl) (hb hby d4_3) (by decide) (by decide) (by decide) (by decide) ?_
  intro v5 T5 L5 X5 hQ5
  obtain ⟨rfl, rfl, hh5⟩ := hQ5
  rw [List.append_nil] at X5
  show GoG _ _ _ _ _ (mkF m 6 #[.val (.ref ba), .val (.int i32)] [])
  refine Go.back (f' := (mkF m 7 #[.val (.ref ba), .val (.int i32)] [(.ref ba)])) (fun _ k => XS.aloadN X5.here hx rfl (hb hby d4_6) rfl rfl k) ?_
  refine Go.back (f' := (mkF m 8 #[.val (.ref ba), .val (.int i32)] [(.int i32), (.ref ba)])) (fun _ k => XS.iloadN X5.here hx rfl (hb hby d4_7) rfl k) ?_
  refine Go.back (f' := (mkF m 9 #[.val (.ref ba), .val (.int i32)] [(.int (bs.getD i 0))])) (A.ldB X5 hx hZ hh5 (hb hby d4_8) (i := i) hi (own_at hlt)) ?_
  refine Go.back (f' := (mkF m 12 #[.val (.ref ba), .val (.int i32)] [(.int (255 : Int32)), (.int (bs.getD i 0))])) (fun _ k => XS.sipush X5.here hx rfl (hb hby d4_9) k) ?_
  refine Go.back (f' := (mkF m 13 #[.val (.ref ba), .val (.int i32)] [(.int ((bs.getD i 0) &&& (255 : Int32)))])) (fun _ k => XS.iand X5.here hx rfl (hb hby d4_12) rfl k) ?_
  refine Go.back (f' := (mkF m 14 #[.val (.ref ba), .val (.int i32)] [(.int (((bs.getD i 0) &&& (255 : Int32)).toUInt32.toUInt16.toUInt32.toInt32))])) (fun _ k => XS.i2c X5.here hx rfl (hb hby d4_13) rfl k) ?_
  exact Go.retN X5 hx (t := .char) hret (by simp) (nar_char255 _) hlk (hb hby d4_14) (by (try rw [hh5]); exact ⟨rfl, rfl, rfl⟩) (Nat.zero_le _) (Nat.zero_le _)
theorem ef_rmCh (m : MethodId) (x0 : Addr) (x1 : Int32) : entryFrame m #[(.ref x0), (.int x1)] 2 = mkF m 0 #[.val (.ref x0), .val (.int x1)] [] := by first | (simp [entryFrame, mkF, argsToLocals, Value.category]; done) | rfl
set_option maxRecDepth 65536 in
set_option maxHeartbeats 40000000 in
theorem rmCh (l : Launch) (Z : State) (a0 : Array Value) (hw : ∀ d ∈ tables_1, d.before a0 Z = true) (sa ba : Addr) (i32 cz : Int32) (fv : Value) (bs : List Int32) (i : Nat) (h0 : Heap) (SC : Sta Z h0 "java/lang/String" "COMPACT_STRINGS" "Z" (.int cz)) (hcz : ¬ cz = 0) (SF : Sta Z h0 "jdk/internal/util/Preconditions" "SIOOBE_FORMATTER" "Ljava/util/function/BiFunction;" fv) (hfv : fv.isRef = true) (hfc : fv.category = 1) (Ex : Exa Z h0 sa "java/lang/String") (Fc : Fld Z h0 sa "java/lang/String" "coder" "B" (.int (0 : Int32))) (Fv : Fld Z h0 sa "java/lang/String" "value" "[B" (.ref ba)) (A : VArr Z h0 ba .byte (bs.map Value.int)) (hi : i32.toInt = i) (hlt : i < bs.length) :
    Met l Z (⟨"java/lang/String", "charAt", "(I)C"⟩ : MethodName) jdk_42_method_56_code 2 (some .char) ({ frames := 3, cells := 0, slots := 0, locals := 48 } : Room) #[(.ref sa), (.int i32)] h0 (fun v h L => v = some (.int ((bs.getD i 0) &&& (255 : Int32))) ∧ L = [] ∧ h = h0) := by
  refine Met.intro (by decide +kernel) ?_
  intro p e s m below meth c T0 hx hby hml hown hnm hret hlk hZ X0 e0
  refine Go.cast (ef_rmCh m sa i32) ?_
  refine Go.back (f' := (mkF m 1 #[.val (.ref sa), .val (.int i32)] [(.ref sa)])) (fun _ k => XS.aloadN X0.here hx rfl (hb hby d2_0) rfl rfl k) ?_
  refine Go.callV X0 hx hZ hown (hw _ (List.mem_of_getElem? (i := 19) rfl)) (hw _ (List.mem_of_getElem? (i := 20) rfl)) (hw _ (List.mem_of_getElem? (i := 22) rfl)) (hw _ (List.mem_of_getElem? (i := 21) rfl)) (hw _ (List.mem_of_getElem? (i := 1) rfl)) (hw _ (List.mem_of_getElem? (i := 23) rfl)) (by decide) e0 Ex (argsL := []) (rest := []) (rmLat l Z a0 hw sa cz h0 SC hcz Fc) (lenOf pd_2 rfl) rfl (by rw [hml]; rfl) (W := 0) (Nat.le_of_eq rfl) (hb hby d2_1) (by decide) (by decide) (by decide) (by decide) ?_
  intro v6 T6 L6 X6 hQ6
  obtain ⟨rfl, rfl, hh6⟩ := hQ6
  rw [List.append_nil] at X6
  show GoG _ _ _ _ _ (mkF m 4 #[.val (.ref sa), .val (.int i32)] [(.int (1 : Int32))])
  refine Go.back (f' := (mkF m 7 #[.val (.ref sa), .val (.int i32)] [])) (fun _ k => XS.ifNo X6.here hx rfl (hb hby d2_4) rfl ((if0 _ _).trans (feq (by decide)).1) k) ?_
  refine Go.back (f' := (mkF m 8 #[.val (.ref sa), .val (.int i32)] [(.ref sa)])) (fun _ k => XS.aloadN X6.here hx rfl (hb hby d2_7) rfl rfl k) ?_
  obtain ⟨T7, X7, e7, st7⟩ := getF X6 hx hZ hown (host := "") (Or.inl (hw _ (List.mem_of_getElem? (i := 26) rfl))) Via.refl hh6 Fv (g := (mkF m 8 #[.val (.ref sa), .val (.int i32)] [(.ref sa)])) rfl rfl (hb hby d2_8)
  refine Go.back (f' := (mkF m 11 #[.val (.ref sa), .val (.int i32)] [(.ref ba)])) st7 ?_
  refine Go.back (f' := (mkF m 12 #[.val (.ref sa), .val (.int i32)] [(.int i32), (.ref ba)])) (fun _ k => XS.iloadN X7.here hx rfl (hb hby d2_11) rfl k) ?_
  refine Go.callS X7 hx hZ hown (hw _ (List.mem_of_getElem? (i := 27) rfl)) (hw _ (List.mem_of_getElem? (i := 28) rfl)) (hw _ (List.mem_of_getElem? (i := 29) rfl)) (hw _ (List.mem_of_getElem? (i := 30) rfl)) (by decide) e7 (argsL := [(.ref ba), (.int i32)]) (rest := []) (rmL1 l Z a0 hw ba i32 fv bs i h0 SF hfv hfc A hi hlt) (lenOf pd_3 rfl) rfl (by rw [hml]; rfl) (W := 0) (Nat.le_of_eq rfl) (hb hby d2_12) (by decide) (by decide) (by decide) (by decide) ?_
  intro v8 T8 L8 X8 hQ8
  obtain ⟨rfl, rfl, hh8⟩ := hQ8
  rw [List.append_nil] at X8
  show GoG _ _ _ _ _ (mkF m 15 #[.val (.ref sa), .val (.int i32)] [(.int ((bs.getD i 0) &&& (255 : Int32)))])
  exact Go.retN X8 hx (t := .char) hret (by simp) (i2c_mask _) hlk (hb hby d2_15) (by (try rw [hh8]); exact ⟨rfl, rfl, rfl⟩) (Nat.zero_le _) (Nat.zero_le _)

def lowL : List Int32 := [48, 49, 50, 51, 52, 53, 54, 55, 56, 57, 97, 98, 99, 100, 101, 102]
def uppL : List Int32 := [48, 49, 50, 51, 52, 53, 54, 55, 56, 57, 65, 66, 67, 68, 69, 70]
def EL : List (String × Nat) := [("com/example/firethorn/firethorn/AsciiDigitsValuePinLaw", 7), ("com/example/firethorn/firethorn/AsciiDigitsValuePinLaw", 9)]
def valV (c : Int32) : Int32 := if ¬ c < 48 ∧ ¬ 57 < c then c - 48 else if ¬ c < 97 ∧ ¬ 102 < c then c - 97 + 10 else if ¬ c < 65 ∧ ¬ 70 < c then c - 65 + 10 else -1
theorem low_at : ∀ i : Fin 16, (lowL.getD i.1 0 &&& (255 : Int32)).toInt = (if i.1 < 10 then 48 + (i.1 : Int) else 87 + (i.1 : Int)) ∧ (valV (lowL.getD i.1 0 &&& (255 : Int32))).toInt = (i.1 : Int) := by decide +kernel
theorem upp_at : ∀ i : Fin 16, (uppL.getD i.1 0 &&& (255 : Int32)).toInt = (if i.1 < 10 then 48 + (i.1 : Int) else 55 + (i.1 : Int)) ∧ (valV (uppL.getD i.1 0 &&& (255 : Int32))).toInt = (i.1 : Int) := by decide +kernel
theorem own_sound {c : Int32} (h : ¬ valV c = -1) : ∃ i : Nat, (valV c).toInt = i ∧ i < 16 ∧ ((lowL.getD i 0 &&& (255 : Int32)) = c ∨ (uppL.getD i 0 &&& (255 : Int32)) = c) := by
  have e48 : (48 : Int32).toInt = 48 := rfl
  have e57 : (57 : Int32).toInt = 57 := rfl
  have e97 : (97 : Int32).toInt = 97 := rfl
  have e102 : (102 : Int32).toInt = 102 := rfl
  have e65 : (65 : Int32).toInt = 65 := rfl
  have e70 : (70 : Int32).toInt = 70 := rfl
  have e10 : (10 : Int32).toInt = 10 := rfl
  unfold valV at h ⊢
  split at h
  · rename_i q; rw [if_pos q]; rw [Int32.lt_iff_toInt_lt, Int32.lt_iff_toInt_lt] at q
    have a := c_isub c 48; have b := rng32 (c - 48)
    refine ⟨(c.toInt - 48).toNat, by omega, by omega, Or.inl (Int32.toInt_inj.mp ?_)⟩
    rw [(low_at ⟨(c.toInt - 48).toNat, by omega⟩).1, if_pos (by show (c.toInt - 48).toNat < 10; omega)]; show 48 + (((c.toInt - 48).toNat : Nat) : Int) = _; omega
  · rename_i q; rw [if_neg q]
    split at h
    · rename_i r; rw [if_pos r]; rw [Int32.lt_iff_toInt_lt, Int32.lt_iff_toInt_lt] at r
      have a := c_isub c 97; have b := rng32 (c - 97); have a' := c_iadd (c - 97) 10; have b' := rng32 (c - 97 + 10)
      refine ⟨(c.toInt - 87).toNat, by omega, by omega, Or.inl (Int32.toInt_inj.mp ?_)⟩
      rw [(low_at ⟨(c.toInt - 87).toNat, by omega⟩).1, if_neg (by show ¬ (c.toInt - 87).toNat < 10; omega)]; show 87 + (((c.toInt - 87).toNat : Nat) : Int) = _; omega
    · rename_i r; rw [if_neg r]
      split at h
      · rename_i t; rw [if_pos t]; rw [Int32.lt_iff_toInt_lt, Int32.lt_iff_toInt_lt] at t
        have a := c_isub c 65; have b := rng32 (c - 65); have a' := c_iadd (c - 65) 10; have b' := rng32 (c - 65 + 10)
        refine ⟨(c.toInt - 55).toNat, by omega, by omega, Or.inr (Int32.toInt_inj.mp ?_)⟩
        rw [(upp_at ⟨(c.toInt - 55).toNat, by omega⟩).1, if_neg (by show ¬ (c.toInt - 55).toNat < 10; omega)]; show 55 + (((c.toInt - 55).toNat : Nat) : Int) = _; omega
      · exact absurd rfl h
theorem own_m15 (a : Int32) : ∃ i : Nat, (a &&& (15 : Int32)).toInt = i ∧ i < 16 := by
  have q : (a &&& (15 : Int32)).toInt = a.toInt % (2 ^ 4 : Nat) := c_mask a 15 4 (by decide) (by decide)
  exact ⟨(a &&& (15 : Int32)).toInt.toNat, by omega, by omega⟩

theorem ef_rmVal (m : MethodId) (x0 : Int32) : entryFrame m #[(.int x0)] 2 = mkF m 0 #[.val (.int x0), .unset] [] := by first | (simp [entryFrame, mkF, argsToLocals, Value.category]; done) | rfl
set_option maxRecDepth 65536 in
set_option maxHeartbeats 40000000 in
theorem rmVal (l : Launch) (Z : State) (a0 : Array Value) (hw : ∀ d ∈ tables_1, d.before a0 Z = true) (q : Int32) (h0 : Heap)  :
    Met l Z (⟨"com/example/firethorn/firethorn/AsciiDigits", "value", "(C)I"⟩ : MethodName) prog_1_method_2_code 2 (some .int) ({ frames := 0, cells := 0, slots := 0, locals := 0 } : Room) #[(.int q)] h0 (fun v h L => v = some (.int (valV q)) ∧ L = [] ∧ h = h0) := by
  refine Met.intro (plainFor_of_name (by first | (simp [plainName, overriddenIn]; done) | decide +kernel)) ?_
  intro p e s m below meth c T0 hx hby hml hown hnm hret hlk hZ X0 e0
  refine Go.cast (ef_rmVal m q) ?_
  refine Go.back (f' := (mkF m 1 #[.val (.int q), .unset] [(.int (-1 : Int32))])) (fun _ k => XS.iconst X0.here hx rfl (hb hby d1_0) k) ?_
  refine Go.back (f' := (mkF m 2 #[.val (.int q), .val (.int (-1 : Int32))] [])) (fun _ k => XS.istoreN X0.here hx rfl (hb hby d1_1) rfl (l' := #[.val (.int q), .val (.int (-1 : Int32))]) rfl k) ?_
  refine Go.back (f' := (mkF m 3 #[.val (.int q), .val (.int (-1 : Int32))] [(.int q)])) (fun _ k => XS.iloadN X0.here hx rfl (hb hby d1_2) rfl k) ?_
  refine Go.back (f' := (mkF m 5 #[.val (.int q), .val (.int (-1 : Int32))] [(.int (48 : Int32)), (.int q)])) (fun _ k => XS.bipush X0.here hx rfl (hb hby d1_3) k) ?_
  by_cases k0 : q < (48 : Int32)
  · refine Go.back (f' := (mkF m 22 #[.val (.int q), .val (.int (-1 : Int32))] [])) (fun _ k => XS.icmpYes X0.here hx rfl (pc0 := 5) (pc' := 22) rfl (hb hby d1_5) rfl (tlt k0).1 (by decide) (by decide) k) ?_
    refine Go.back (f' := (mkF m 23 #[.val (.int q), .val (.int (-1 : Int32))] [(.int q)])) (fun _ k => XS.iloadN X0.here hx rfl (hb hby d1_22) rfl k) ?_
    refine Go.back (f' := (mkF m 25 #[.val (.int q), .val (.int (-1 : Int32))] [(.int (97 : Int32)), (.int q)])) (fun _ k => XS.bipush X0.here hx rfl (hb hby d1_23) k) ?_
    by_cases k1 : q < (97 : Int32)
    · refine Go.back (f' := (mkF m 45 #[.val (.int q), .val (.int (-1 : Int32))] [])) (fun _ k => XS.icmpYes X0.here hx rfl (pc0 := 25) (pc' := 45) rfl (hb hby d1_25) rfl (tlt k1).1 (by decide) (by decide) k) ?_
      refine Go.back (f' := (mkF m 46 #[.val (.int q), .val (.int (-1 : Int32))] [(.int q)])) (fun _ k => XS.iloadN X0.here hx rfl (hb hby d1_45) rfl k) ?_
      refine Go.back (f' := (mkF m 48 #[.val (.int q), .val (.int (-1 : Int32))] [(.int (65 : Int32)), (.int q)])) (fun _ k => XS.bipush X0.here hx rfl (hb hby d1_46) k) ?_
      by_cases k2 : q < (65 : Int32)
      · refine Go.back (f' := (mkF m 65 #[.val (.int q), .val (.int (-1 : Int32))] [])) (fun _ k => XS.icmpYes X0.here hx rfl (pc0 := 48) (pc' := 65) rfl (hb hby d1_48) rfl (tlt k2).1 (by decide) (by decide) k) ?_
        refine Go.back (f' := (mkF m 66 #[.val (.int q), .val (.int (-1 : Int32))] [(.int (-1 : Int32))])) (fun _ k => XS.iloadN X0.here hx rfl (hb hby d1_65) rfl k) ?_
        exact Go.retI X0 hx hret hlk (hb hby d1_66) (by (try rw [e0]); exact ⟨by simp [valV, k0, k1, k2], rfl, rfl⟩) (Nat.zero_le _) (Nat.zero_le _)
      · refine Go.back (f' := (mkF m 51 #[.val (.int q), .val (.int (-1 : Int32))] [])) (fun _ k => XS.icmpNo X0.here hx rfl (hb hby d1_48) rfl (flt k2).1 k) ?_
        refine Go.back (f' := (mkF m 52 #[.val (.int q), .val (.int (-1 : Int32))] [(.int q)])) (fun _ k => XS.iloadN X0.here hx rfl (hb hby d1_51) rfl k) ?_
        refine Go.back (f' := (mkF m 54 #[.val (.int q), .val (.int (-1 : Int32))] [(.int (70 : Int32)), (.int q)])) (fun _ k => XS.bipush X0.here hx rfl (hb hby d1_52) k) ?_
        by_cases k3 : (70 : Int32) < q
        · refine Go.back (f' := (mkF m 65 #[.val (.int q), .val (.int (-1 : Int32))] [])) (fun _ k => XS.icmpYes X0.here hx rfl (pc0 := 54) (pc' := 65) rfl (hb hby d1_54) rfl (tlt k3).2.2.1 (by decide) (by decide) k) ?_
          refine Go.back (f' := (mkF m 66 #[.val (.int q), .val (.int (-1 : Int32))] [(.int (-1 : Int32))])) (fun _ k => XS.iloadN X0.here hx rfl (hb hby d1_65) rfl k) ?_
          exact Go.retI X0 hx hret hlk (hb hby d1_66) (by (try rw [e0]); exact ⟨by simp [valV, k0, k1, k2, k3], rfl, rfl⟩) (Nat.zero_le _) (Nat.zero_le _)
        · refine Go.back (f' := (mkF m 57 #[.val (.int q), .val (.int (-1 : Int32))] [])) (fun _ k => XS.icmpNo X0.here hx rfl (hb hby d1_54) rfl (flt k3).2.2.1 k) ?_
          refine Go.back (f' := (mkF m 58 #[.val (.int q), .val (.int (-1 : Int32))] [(.int q)])) (fun _ k => XS.iloadN X0.here hx rfl (hb hby d1_57) rfl k) ?_
          refine Go.back (f' := (mkF m 60 #[.val (.int q), .val (.int (-1 : Int32))] [(.int (65 : Int32)), (.int q)])) (fun _ k => XS.bipush X0.here hx rfl (hb hby d1_58) k) ?_
          refine Go.back (f' := (mkF m 61 #[.val (.int q), .val (.int (-1 : Int32))] [(.int (q - (65 : Int32)))])) (fun _ k => XS.isub X0.here hx rfl (hb hby d1_60) rfl k) ?_
          refine Go.back (f' := (mkF m 63 #[.val (.int q), .val (.int (-1 : Int32))] [(.int (10 : Int32)), (.int (q - (65 : Int32)))])) (fun _ k => XS.bipush X0.here hx rfl (hb hby d1_61) k) ?_
          refine Go.back (f' := (mkF m 64 #[.val (.int q), .val (.int (-1 : Int32))] [(.int ((q - (65 : Int32)) + (10 : Int32)))])) (fun _ k => XS.iadd X0.here hx rfl (hb hby d1_63) rfl k) ?_
          refine Go.back (f' := (mkF m 65 #[.val (.int q), .val (.int ((q - (65 : Int32)) + (10 : Int32)))] [])) (fun _ k => XS.istoreN X0.here hx rfl (hb hby d1_64) rfl (l' := #[.val (.int q), .val (.int ((q - (65 : Int32)) + (10 : Int32)))]) rfl k) ?_
          refine Go.back (f' := (mkF m 66 #[.val (.int q), .val (.int ((q - (65 : Int32)) + (10 : Int32)))] [(.int ((q - (65 : Int32)) + (10 : Int32)))])) (fun _ k => XS.iloadN X0.here hx rfl (hb hby d1_65) rfl k) ?_
          exact Go.retI X0 hx hret hlk (hb hby d1_66) (by (try rw [e0]); exact ⟨by simp [valV, k0, k1, k2, k3], rfl, rfl⟩) (Nat.zero_le _) (Nat.zero_le _)
    · refine Go.back (f' := (mkF m 28 #[.val (.int q), .val (.int (-1 : Int32))] [])) (fun _ k => XS.icmpNo X0.here hx rfl (hb hby d1_25) rfl (flt k1).1 k) ?_
      refine Go.back (f' := (mkF m 29 #[.val (.int q), .val (.int (-1 : Int32))] [(.int q)])) (fun _ k => XS.iloadN X0.here hx rfl (hb hby d1_28) rfl k) ?_
      refine Go.back (f' := (mkF m 31 #[.val (.int q), .val (.int (-1 : Int32))] [(.int (102 : Int32)), (.int q)])) (fun _ k => XS.bipush X0.here hx rfl (hb hby d1_29) k) ?_
      by_cases k2 : (102 : Int32) < q
      · refine Go.back (f' := (mkF m 45 #[.val (.int q), .val (.int (-1 : Int32))] [])) (fun _ k => XS.icmpYes X0.here hx rfl (pc0 := 31) (pc' := 45) rfl (hb hby d1_31) rfl (tlt k2).2.2.1 (by decide) (by decide) k) ?_
        refine Go.back (f' := (mkF m 46 #[.val (.int q), .val (.int (-1 : Int32))] [(.int q)])) (fun _ k => XS.iloadN X0.here hx rfl (hb hby d1_45) rfl k) ?_
        refine Go.back (f' := (mkF m 48 #[.val (.int q), .val (.int (-1 : Int32))] [(.int (65 : Int32)), (.int q)])) (fun _ k => XS.bipush X0.here hx rfl (hb hby d1_46) k) ?_
        by_cases k3 : q < (65 : Int32)
        · refine Go.back (f' := (mkF m 65 #[.val (.int q), .val (.int (-1 : Int32))] [])) (fun _ k => XS.icmpYes X0.here hx rfl (pc0 := 48) (pc' := 65) rfl (hb hby d1_48) rfl (tlt k3).1 (by decide) (by decide) k) ?_
          refine Go.back (f' := (mkF m 66 #[.val (.int q), .val (.int (-1 : Int32))] [(.int (-1 : Int32))])) (fun _ k => XS.iloadN X0.here hx rfl (hb hby d1_65) rfl k) ?_
          exact Go.retI X0 hx hret hlk (hb hby d1_66) (by (try rw [e0]); exact ⟨by simp [valV, k0, k1, k2, k3], rfl, rfl⟩) (Nat.zero_le _) (Nat.zero_le _)
        · refine Go.back (f' := (mkF m 51 #[.val (.int q), .val (.int (-1 : Int32))] [])) (fun _ k => XS.icmpNo X0.here hx rfl (hb hby d1_48) rfl (flt k3).1 k) ?_
          refine Go.back (f' := (mkF m 52 #[.val (.int q), .val (.int (-1 : Int32))] [(.int q)])) (fun _ k => XS.iloadN X0.here hx rfl (hb hby d1_51) rfl k) ?_
          refine Go.back (f' := (mkF m 54 #[.val (.int q), .val (.int (-1 : Int32))] [(.int (70 : Int32)), (.int q)])) (fun _ k => XS.bipush X0.here hx rfl (hb hby d1_52) k) ?_
          by_cases k4 : (70 : Int32) < q
          · refine Go.back (f' := (mkF m 65 #[.val (.int q), .val (.int (-1 : Int32))] [])) (fun _ k => XS.icmpYes X0.here hx rfl (pc0 := 54) (pc' := 65) rfl (hb hby d1_54) rfl (tlt k4).2.2.1 (by decide) (by decide) k) ?_
            refine Go.back (f' := (mkF m 66 #[.val (.int q), .val (.int (-1 : Int32))] [(.int (-1 : Int32))])) (fun _ k => XS.iloadN X0.here hx rfl (hb hby d1_65) rfl k) ?_
            exact Go.retI X0 hx hret hlk (hb hby d1_66) (by (try rw [e0]); exact ⟨by simp [valV, k0, k1, k2, k3, k4], rfl, rfl⟩) (Nat.zero_le _) (Nat.zero_le _)
          · refine Go.back (f' := (mkF m 57 #[.val (.int q), .val (.int (-1 : Int32))] [])) (fun _ k => XS.icmpNo X0.here hx rfl (hb hby d1_54) rfl (flt k4).2.2.1 k) ?_
            refine Go.back (f' := (mkF m 58 #[.val (.int q), .val (.int (-1 : Int32))] [(.int q)])) (fun _ k => XS.iloadN X0.here hx rfl (hb hby d1_57) rfl k) ?_
            refine Go.back (f' := (mkF m 60 #[.val (.int q), .val (.int (-1 : Int32))] [(.int (65 : Int32)), (.int q)])) (fun _ k => XS.bipush X0.here hx rfl (hb hby d1_58) k) ?_
            refine Go.back (f' := (mkF m 61 #[.val (.int q), .val (.int (-1 : Int32))] [(.int (q - (65 : Int32)))])) (fun _ k => XS.isub X0.here hx rfl (hb hby d1_60) rfl k) ?_
            refine Go.back (f' := (mkF m 63 #[.val (.int q), .val (.int (-1 : Int32))] [(.int (10 : Int32)), (.int (q - (65 : Int32)))])) (fun _ k => XS.bipush X0.here hx rfl (hb hby d1_61) k) ?_
            refine Go.back (f' := (mkF m 64 #[.val (.int q), .val (.int (-1 : Int32))] [(.int ((q - (65 : Int32)) + (10 : Int32)))])) (fun _ k => XS.iadd X0.here hx rfl (hb hby d1_63) rfl k) ?_
            refine Go.back (f' := (mkF m 65 #[.val (.int q), .val (.int ((q - (65 : Int32)) + (10 : Int32)))] [])) (fun _ k => XS.istoreN X0.here hx rfl (hb hby d1_64) rfl (l' := #[.val (.int q), .val (.int ((q - (65 : Int32)) + (10 : Int32)))]) rfl k) ?_
            refine Go.back (f' := (mkF m 66 #[.val (.int q), .val (.int ((q - (65 : Int32)) + (10 : Int32)))] [(.int ((q - (65 : Int32)) + (10 : Int32)))])) (fun _ k => XS.iloadN X0.here hx rfl (hb hby d1_65) rfl k) ?_
            exact Go.retI X0 hx hret hlk (hb hby d1_66) (by (try rw [e0]); exact ⟨by simp [valV, k0, k1, k2, k3, k4], rfl, rfl⟩) (Nat.zero_le _) (Nat.zero_le _)
      · refine Go.back (f' := (mkF m 34 #[.val (.int q), .val (.int (-1 : Int32))] [])) (fun _ k => XS.icmpNo X0.here hx rfl (hb hby d1_31) rfl (flt k2).2.2.1 k) ?_
        refine Go.back (f' := (mkF m 35 #[.val (.int q), .val (.int (-1 : Int32))] [(.int q)])) (fun _ k => XS.iloadN X0.here hx rfl (hb hby d1_34) rfl k) ?_
        refine Go.back (f' := (mkF m 37 #[.val (.int q), .val (.int (-1 : Int32))] [(.int (97 : Int32)), (.int q)])) (fun _ k => XS.bipush X0.here hx rfl (hb hby d1_35) k) ?_
        refine Go.back (f' := (mkF m 38 #[.val (.int q), .val (.int (-1 : Int32))] [(.int (q - (97 : Int32)))])) (fun _ k => XS.isub X0.here hx rfl (hb hby d1_37) rfl k) ?_
        refine Go.back (f' := (mkF m 40 #[.val (.int q), .val (.int (-1 : Int32))] [(.int (10 : Int32)), (.int (q - (97 : Int32)))])) (fun _ k => XS.bipush X0.here hx rfl (hb hby d1_38) k) ?_
        refine Go.back (f' := (mkF m 41 #[.val (.int q), .val (.int (-1 : Int32))] [(.int ((q - (97 : Int32)) + (10 : Int32)))])) (fun _ k => XS.iadd X0.here hx rfl (hb hby d1_40) rfl k) ?_
        refine Go.back (f' := (mkF m 42 #[.val (.int q), .val (.int ((q - (97 : Int32)) + (10 : Int32)))] [])) (fun _ k => XS.istoreN X0.here hx rfl (hb hby d1_41) rfl (l' := #[.val (.int q), .val (.int ((q - (97 : Int32)) + (10 : Int32)))]) rfl k) ?_
        refine Go.back (f' := (mkF m 65 #[.val (.int q), .val (.int ((q - (97 : Int32)) + (10 : Int32)))] [])) (fun _ k => XS.goto X0.here hx rfl (pc0 := 42) (pc' := 65) rfl (hb hby d1_42) (by decide) (by decide) k) ?_
        refine Go.back (f' := (mkF m 66 #[.val (.int q), .val (.int ((q - (97 : Int32)) + (10 : Int32)))] [(.int ((q - (97 : Int32)) + (10 : Int32)))])) (fun _ k => XS.iloadN X0.here hx rfl (hb hby d1_65) rfl k) ?_
        exact Go.retI X0 hx hret hlk (hb hby d1_66) (by (try rw [e0]); exact ⟨by simp [valV, k0, k1, k2], rfl, rfl⟩) (Nat.zero_le _) (Nat.zero_le _)
  · refine Go.back (f' := (mkF m 8 #[.val (.int q), .val (.int (-1 : Int32))] [])) (fun _ k => XS.icmpNo X0.here hx rfl (hb hby d1_5) rfl (flt k0).1 k) ?_
    refine Go.back (f' := (mkF m 9 #[.val (.int q), .val (.int (-1 : Int32))] [(.int q)])) (fun _ k => XS.iloadN X0.here hx rfl (hb hby d1_8) rfl k) ?_
    refine Go.back (f' := (mkF m 11 #[.val (.int q), .val (.int (-1 : Int32))] [(.int (57 : Int32)), (.int q)])) (fun _ k => XS.bipush X0.here hx rfl (hb hby d1_9) k) ?_
    by_cases k1 : (57 : Int32) < q
    · refine Go.back (f' := (mkF m 22 #[.val (.int q), .val (.int (-1 : Int32))] [])) (fun _ k => XS.icmpYes X0.here hx rfl (pc0 := 11) (pc' := 22) rfl (hb hby d1_11) rfl (tlt k1).2.2.1 (by decide) (by decide) k) ?_
      refine Go.back (f' := (mkF m 23 #[.val (.int q), .val (.int (-1 : Int32))] [(.int q)])) (fun _ k => XS.iloadN X0.here hx rfl (hb hby d1_22) rfl k) ?_
      refine Go.back (f' := (mkF m 25 #[.val (.int q), .val (.int (-1 : Int32))] [(.int (97 : Int32)), (.int q)])) (fun _ k => XS.bipush X0.here hx rfl (hb hby d1_23) k) ?_
      by_cases k2 : q < (97 : Int32)
      · refine Go.back (f' := (mkF m 45 #[.val (.int q), .val (.int (-1 : Int32))] [])) (fun _ k => XS.icmpYes X0.here hx rfl (pc0 := 25) (pc' := 45) rfl (hb hby d1_25) rfl (tlt k2).1 (by decide) (by decide) k) ?_
        refine Go.back (f' := (mkF m 46 #[.val (.int q), .val (.int (-1 : Int32))] [(.int q)])) (fun _ k => XS.iloadN X0.here hx rfl (hb hby d1_45) rfl k) ?_
        refine Go.back (f' := (mkF m 48 #[.val (.int q), .val (.int (-1 : Int32))] [(.int (65 : Int32)), (.int q)])) (fun _ k => XS.bipush X0.here hx rfl (hb hby d1_46) k) ?_
        by_cases k3 : q < (65 : Int32)
        · refine Go.back (f' := (mkF m 65 #[.val (.int q), .val (.int (-1 : Int32))] [])) (fun _ k => XS.icmpYes X0.here hx rfl (pc0 := 48) (pc' := 65) rfl (hb hby d1_48) rfl (tlt k3).1 (by decide) (by decide) k) ?_
          refine Go.back (f' := (mkF m 66 #[.val (.int q), .val (.int (-1 : Int32))] [(.int (-1 : Int32))])) (fun _ k => XS.iloadN X0.here hx rfl (hb hby d1_65) rfl k) ?_
          exact Go.retI X0 hx hret hlk (hb hby d1_66) (by (try rw [e0]); exact ⟨by simp [valV, k0, k1, k2, k3], rfl, rfl⟩) (Nat.zero_le _) (Nat.zero_le _)
        · refine Go.back (f' := (mkF m 51 #[.val (.int q), .val (.int (-1 : Int32))] [])) (fun _ k => XS.icmpNo X0.here hx rfl (hb hby d1_48) rfl (flt k3).1 k) ?_
          refine Go.back (f' := (mkF m 52 #[.val (.int q), .val (.int (-1 : Int32))] [(.int q)])) (fun _ k => XS.iloadN X0.here hx rfl (hb hby d1_51) rfl k) ?_
          refine Go.back (f' := (mkF m 54 #[.val (.int q), .val (.int (-1 : Int32))] [(.int (70 : Int32)), (.int q)])) (fun _ k => XS.bipush X0.here hx rfl (hb hby d1_52) k) ?_
          by_cases k4 : (70 : Int32) < q
          · refine Go.back (f' := (mkF m 65 #[.val (.int q), .val (.int (-1 : Int32))] [])) (fun _ k => XS.icmpYes X0.here hx rfl (pc0 := 54) (pc' := 65) rfl (hb hby d1_54) rfl (tlt k4).2.2.1 (by decide) (by decide) k) ?_
            refine Go.back (f' := (mkF m 66 #[.val (.int q), .val (.int (-1 : Int32))] [(.int (-1 : Int32))])) (fun _ k => XS.iloadN X0.here hx rfl (hb hby d1_65) rfl k) ?_
            exact Go.retI X0 hx hret hlk (hb hby d1_66) (by (try rw [e0]); exact ⟨by simp [valV, k0, k1, k2, k3, k4], rfl, rfl⟩) (Nat.zero_le _) (Nat.zero_le _)
          · refine Go.back (f' := (mkF m 57 #[.val (.int q), .val (.int (-1 : Int32))] [])) (fun _ k => XS.icmpNo X0.here hx rfl (hb hby d1_54) rfl (flt k4).2.2.1 k) ?_
            refine Go.back (f' := (mkF m 58 #[.val (.int q), .val (.int (-1 : Int32))] [(.int q)])) (fun _ k => XS.iloadN X0.here hx rfl (hb hby d1_57) rfl k) ?_
            refine Go.back (f' := (mkF m 60 #[.val (.int q), .val (.int (-1 : Int32))] [(.int (65 : Int32)), (.int q)])) (fun _ k => XS.bipush X0.here hx rfl (hb hby d1_58) k) ?_
            refine Go.back (f' := (mkF m 61 #[.val (.int q), .val (.int (-1 : Int32))] [(.int (q - (65 : Int32)))])) (fun _ k => XS.isub X0.here hx rfl (hb hby d1_60) rfl k) ?_
            refine Go.back (f' := (mkF m 63 #[.val (.int q), .val (.int (-1 : Int32))] [(.int (10 : Int32)), (.int (q - (65 : Int32)))])) (fun _ k => XS.bipush X0.here hx rfl (hb hby d1_61) k) ?_
            refine Go.back (f' := (mkF m 64 #[.val (.int q), .val (.int (-1 : Int32))] [(.int ((q - (65 : Int32)) + (10 : Int32)))])) (fun _ k => XS.iadd X0.here hx rfl (hb hby d1_63) rfl k) ?_
            refine Go.back (f' := (mkF m 65 #[.val (.int q), .val (.int ((q - (65 : Int32)) + (10 : Int32)))] [])) (fun _ k => XS.istoreN X0.here hx rfl (hb hby d1_64) rfl (l' := #[.val (.int q), .val (.int ((q - (65 : Int32)) + (10 : Int32)))]) rfl k) ?_
            refine Go.back (f' := (mkF m 66 #[.val (.int q), .val (.int ((q - (65 : Int32)) + (10 : Int32)))] [(.int ((q - (65 : Int32)) + (10 : Int32)))])) (fun _ k => XS.iloadN X0.here hx rfl (hb hby d1_65) rfl k) ?_
            exact Go.retI X0 hx hret hlk (hb hby d1_66) (by (try rw [e0]); exact ⟨by simp [valV, k0, k1, k2, k3, k4], rfl, rfl⟩) (Nat.zero_le _) (Nat.zero_le _)
      · refine Go.back (f' := (mkF m 28 #[.val (.int q), .val (.int (-1 : Int32))] [])) (fun _ k => XS.icmpNo X0.here hx rfl (hb hby d1_25) rfl (flt k2).1 k) ?_
        refine Go.back (f' := (mkF m 29 #[.val (.int q), .val (.int (-1 : Int32))] [(.int q)])) (fun _ k => XS.iloadN X0.here hx rfl (hb hby d1_28) rfl k) ?_
        refine Go.back (f' := (mkF m 31 #[.val (.int q), .val (.int (-1 : Int32))] [(.int (102 : Int32)), (.int q)])) (fun _ k => XS.bipush X0.here hx rfl (hb hby d1_29) k) ?_
        by_cases k3 : (102 : Int32) < q
        · refine Go.back (f' := (mkF m 45 #[.val (.int q), .val (.int (-1 : Int32))] [])) (fun _ k => XS.icmpYes X0.here hx rfl (pc0 := 31) (pc' := 45) rfl (hb hby d1_31) rfl (tlt k3).2.2.1 (by decide) (by decide) k) ?_
          refine Go.back (f' := (mkF m 46 #[.val (.int q), .val (.int (-1 : Int32))] [(.int q)])) (fun _ k => XS.iloadN X0.here hx rfl (hb hby d1_45) rfl k) ?_
          refine Go.back (f' := (mkF m 48 #[.val (.int q), .val (.int (-1 : Int32))] [(.int (65 : Int32)), (.int q)])) (fun _ k => XS.bipush X0.here hx rfl (hb hby d1_46) k) ?_
          by_cases k4 : q < (65 : Int32)
          · refine Go.back (f' := (mkF m 65 #[.val (.int q), .val (.int (-1 : Int32))] [])) (fun _ k => XS.icmpYes X0.here hx rfl (pc0 := 48) (pc' := 65) rfl (hb hby d1_48) rfl (tlt k4).1 (by decide) (by decide) k) ?_
            refine Go.back (f' := (mkF m 66 #[.val (.int q), .val (.int (-1 : Int32))] [(.int (-1 : Int32))])) (fun _ k => XS.iloadN X0.here hx rfl (hb hby d1_65) rfl k) ?_
            exact Go.retI X0 hx hret hlk (hb hby d1_66) (by (try rw [e0]); exact ⟨by simp [valV, k0, k1, k2, k3, k4], rfl, rfl⟩) (Nat.zero_le _) (Nat.zero_le _)
          · refine Go.back (f' := (mkF m 51 #[.val (.int q), .val (.int (-1 : Int32))] [])) (fun _ k => XS.icmpNo X0.here hx rfl (hb hby d1_48) rfl (flt k4).1 k) ?_
            refine Go.back (f' := (mkF m 52 #[.val (.int q), .val (.int (-1 : Int32))] [(.int q)])) (fun _ k => XS.iloadN X0.here hx rfl (hb hby d1_51) rfl k) ?_
            refine Go.back (f' := (mkF m 54 #[.val (.int q), .val (.int (-1 : Int32))] [(.int (70 : Int32)), (.int q)])) (fun _ k => XS.bipush X0.here hx rfl (hb hby d1_52) k) ?_
            by_cases k5 : (70 : Int32) < q
            · refine Go.back (f' := (mkF m 65 #[.val (.int q), .val (.int (-1 : Int32))] [])) (fun _ k => XS.icmpYes X0.here hx rfl (pc0 := 54) (pc' := 65) rfl (hb hby d1_54) rfl (tlt k5).2.2.1 (by decide) (by decide) k) ?_
              refine Go.back (f' := (mkF m 66 #[.val (.int q), .val (.int (-1 : Int32))] [(.int (-1 : Int32))])) (fun _ k => XS.iloadN X0.here hx rfl (hb hby d1_65) rfl k) ?_
              exact Go.retI X0 hx hret hlk (hb hby d1_66) (by (try rw [e0]); exact ⟨by simp [valV, k0, k1, k2, k3, k4, k5], rfl, rfl⟩) (Nat.zero_le _) (Nat.zero_le _)
            · refine Go.back (f' := (mkF m 57 #[.val (.int q), .val (.int (-1 : Int32))] [])) (fun _ k => XS.icmpNo X0.here hx rfl (hb hby d1_54) rfl (flt k5).2.2.1 k) ?_
              refine Go.back (f' := (mkF m 58 #[.val (.int q), .val (.int (-1 : Int32))] [(.int q)])) (fun _ k => XS.iloadN X0.here hx rfl (hb hby d1_57) rfl k) ?_
              refine Go.back (f' := (mkF m 60 #[.val (.int q), .val (.int (-1 : Int32))] [(.int (65 : Int32)), (.int q)])) (fun _ k => XS.bipush X0.here hx rfl (hb hby d1_58) k) ?_
              refine Go.back (f' := (mkF m 61 #[.val (.int q), .val (.int (-1 : Int32))] [(.int (q - (65 : Int32)))])) (fun _ k => XS.isub X0.here hx rfl (hb hby d1_60) rfl k) ?_
              refine Go.back (f' := (mkF m 63 #[.val (.int q), .val (.int (-1 : Int32))] [(.int (10 : Int32)), (.int (q - (65 : Int32)))])) (fun _ k => XS.bipush X0.here hx rfl (hb hby d1_61) k) ?_
              refine Go.back (f' := (mkF m 64 #[.val (.int q), .val (.int (-1 : Int32))] [(.int ((q - (65 : Int32)) + (10 : Int32)))])) (fun _ k => XS.iadd X0.here hx rfl (hb hby d1_63) rfl k) ?_
              refine Go.back (f' := (mkF m 65 #[.val (.int q), .val (.int ((q - (65 : Int32)) + (10 : Int32)))] [])) (fun _ k => XS.istoreN X0.here hx rfl (hb hby d1_64) rfl (l' := #[.val (.int q), .val (.int ((q - (65 : Int32)) + (10 : Int32)))]) rfl k) ?_
              refine Go.back (f' := (mkF m 66 #[.val (.int q), .val (.int ((q - (65 : Int32)) + (10 : Int32)))] [(.int ((q - (65 : Int32)) + (10 : Int32)))])) (fun _ k => XS.iloadN X0.here hx rfl (hb hby d1_65) rfl k) ?_
              exact Go.retI X0 hx hret hlk (hb hby d1_66) (by (try rw [e0]); exact ⟨by simp [valV, k0, k1, k2, k3, k4, k5], rfl, rfl⟩) (Nat.zero_le _) (Nat.zero_le _)
        · refine Go.back (f' := (mkF m 34 #[.val (.int q), .val (.int (-1 : Int32))] [])) (fun _ k => XS.icmpNo X0.here hx rfl (hb hby d1_31) rfl (flt k3).2.2.1 k) ?_
          refine Go.back (f' := (mkF m 35 #[.val (.int q), .val (.int (-1 : Int32))] [(.int q)])) (fun _ k => XS.iloadN X0.here hx rfl (hb hby d1_34) rfl k) ?_
          refine Go.back (f' := (mkF m 37 #[.val (.int q), .val (.int (-1 : Int32))] [(.int (97 : Int32)), (.int q)])) (fun _ k => XS.bipush X0.here hx rfl (hb hby d1_35) k) ?_
          refine Go.back (f' := (mkF m 38 #[.val (.int q), .val (.int (-1 : Int32))] [(.int (q - (97 : Int32)))])) (fun _ k => XS.isub X0.here hx rfl (hb hby d1_37) rfl k) ?_
          refine Go.back (f' := (mkF m 40 #[.val (.int q), .val (.int (-1 : Int32))] [(.int (10 : Int32)), (.int (q - (97 : Int32)))])) (fun _ k => XS.bipush X0.here hx rfl (hb hby d1_38) k) ?_
          refine Go.back (f' := (mkF m 41 #[.val (.int q), .val (.int (-1 : Int32))] [(.int ((q - (97 : Int32)) + (10 : Int32)))])) (fun _ k => XS.iadd X0.here hx rfl (hb hby d1_40) rfl k) ?_
          refine Go.back (f' := (mkF m 42 #[.val (.int q), .val (.int ((q - (97 : Int32)) + (10 : Int32)))] [])) (fun _ k => XS.istoreN X0.here hx rfl (hb hby d1_41) rfl (l' := #[.val (.int q), .val (.int ((q - (97 : Int32)) + (10 : Int32)))]) rfl k) ?_
          refine Go.back (f' := (mkF m 65 #[.val (.int q), .val (.int ((q - (97 : Int32)) + (10 : Int32)))] [])) (fun _ k => XS.goto X0.here hx rfl (pc0 := 42) (pc' := 65) rfl (hb hby d1_42) (by decide) (by decide) k) ?_
          refine Go.back (f' := (mkF m 66 #[.val (.int q), .val (.int ((q - (97 : Int32)) + (10 : Int32)))] [(.int ((q - (97 : Int32)) + (10 : Int32)))])) (fun _ k => XS.iloadN X0.here hx rfl (hb hby d1_65) rfl k) ?_
          exact Go.retI X0 hx hret hlk (hb hby d1_66) (by (try rw [e0]); exact ⟨by simp [valV, k0, k1, k2, k3], rfl, rfl⟩) (Nat.zero_le _) (Nat.zero_le _)
    · refine Go.back (f' := (mkF m 14 #[.val (.int q), .val (.int (-1 : Int32))] [])) (fun _ k => XS.icmpNo X0.here hx rfl (hb hby d1_11) rfl (flt k1).2.2.1 k) ?_
      refine Go.back (f' := (mkF m 15 #[.val (.int q), .val (.int (-1 : Int32))] [(.int q)])) (fun _ k => XS.iloadN X0.here hx rfl (hb hby d1_14) rfl k) ?_
      refine Go.back (f' := (mkF m 17 #[.val (.int q), .val (.int (-1 : Int32))] [(.int (48 : Int32)), (.int q)])) (fun _ k => XS.bipush X0.here hx rfl (hb hby d1_15) k) ?_
      refine Go.back (f' := (mkF m 18 #[.val (.int q), .val (.int (-1 : Int32))] [(.int (q - (48 : Int32)))])) (fun _ k => XS.isub X0.here hx rfl (hb hby d1_17) rfl k) ?_
      refine Go.back (f' := (mkF m 19 #[.val (.int q), .val (.int (q - (48 : Int32)))] [])) (fun _ k => XS.istoreN X0.here hx rfl (hb hby d1_18) rfl (l' := #[.val (.int q), .val (.int (q - (48 : Int32)))]) rfl k) ?_
      refine Go.back (f' := (mkF m 65 #[.val (.int q), .val (.int (q - (48 : Int32)))] [])) (fun _ k => XS.goto X0.here hx rfl (pc0 := 19) (pc' := 65) rfl (hb hby d1_19) (by decide) (by decide) k) ?_
      refine Go.back (f' := (mkF m 66 #[.val (.int q), .val (.int (q - (48 : Int32)))] [(.int (q - (48 : Int32)))])) (fun _ k => XS.iloadN X0.here hx rfl (hb hby d1_65) rfl k) ?_
      exact Go.retI X0 hx hret hlk (hb hby d1_66) (by (try rw [e0]); exact ⟨by simp [valV, k0, k1], rfl, rfl⟩) (Nat.zero_le _) (Nat.zero_le _)
theorem ef_rm0 (m : MethodId) (x0 : Int32) (x1 : Int32) : entryFrame m #[(.int x0), (.int x1)] maxLocals = mkF m 0 #[.val (.int x0), .val (.int x1), .unset, .unset, .unset, .unset, .unset, .unset, .unset, .unset] [] := by first | (simp [entryFrame, mkF, argsToLocals, Value.category, maxLocals]; done) | rfl
set_option maxRecDepth 65536 in
set_option maxHeartbeats 40000000 in
theorem rm0 (l : Launch) (Z : State) (a0 : Array Value) (hw : ∀ d ∈ tables_1, d.before a0 Z = true) (xx yy cz : Int32) (fv : Value) (SC : Sta Z Z.heap "java/lang/String" "COMPACT_STRINGS" "Z" (.int cz)) (hcz : ¬ cz = 0) (SF : Sta Z Z.heap "jdk/internal/util/Preconditions" "SIOOBE_FORMATTER" "Ljava/util/function/BiFunction;" fv) (hfv : fv.isRef = true) (hfc : fv.category = 1) (hEL : EW Z a0 EL) (HC0 : CHv Z EL Z.vm Z.heap) :
    MetW l Z x code maxLocals ret room_1 #[(.int xx), (.int yy)] Z.heap (fun v h L => v = some (.int 1) ∧ Fr Z.heap.size L) := by
  refine MetW.intro (plainFor_of_name (by first | (simp [plainName, overriddenIn]; done) | decide +kernel)) ?_
  intro p e m below meth c T0 hx hby hml hown hnm hret hlk X0 e0
  refine Go.cast (ef_rm0 m xx yy) ?_
  have hml : c.maxLocals = 10 := hml
  have hZ : Z.Warmed39 (Z.setVm Z.vm).vm := State.Warmed39.refl Z
  obtain ⟨h0, hh0⟩ : ∃ h0, h0 = Z.heap := ⟨_, rfl⟩
  rw [← hh0] at e0
  have hS : Z.Since Z.vm 0 := (State.WarmedH.refl Z).since 0
  have hk : 0 ≤ h0.size := Nat.zero_le _
  have wS : ∀ a ∈ Bundle.stringAtoms, a.before a0 Z = true := by
    intro d hd
    simp only [Bundle.stringAtoms, List.mem_cons, List.not_mem_nil, or_false] at hd
    rcases hd with rfl | rfl | rfl | rfl | rfl | rfl | rfl
    · exact (hw _ (List.mem_of_getElem? (i := 1) rfl))
    · exact (hw _ (List.mem_of_getElem? (i := 2) rfl))
    · exact (hw _ (List.mem_of_getElem? (i := 3) rfl))
    · exact (hw _ (List.mem_of_getElem? (i := 4) rfl))
    · exact (hw _ (List.mem_of_getElem? (i := 5) rfl))
    · exact (hw _ (List.mem_of_getElem? (i := 6) rfl))
    · exact (hw _ (List.mem_of_getElem? (i := 7) rfl))
  have HC : CHv Z EL Z.vm h0 := by rw [hh0]; exact HC0
  have SC : Sta Z h0 "java/lang/String" "COMPACT_STRINGS" "Z" (.int cz) := by rw [hh0]; exact SC
  have SF : Sta Z h0 "jdk/internal/util/Preconditions" "SIOOBE_FORMATTER" "Ljava/util/function/BiFunction;" fv := by rw [hh0]; exact SF
  obtain ⟨sl, T9, h9, k9, bl, c9, X9, e9, E9, hS, hk, hZ, hown, Ex9, Fc9, Fv9, Av9, l19, l29, hC9, hL9, sf9, st9⟩ := ldcCH X0 hx hZ hown (hw _ (List.mem_of_getElem? (i := 0) rfl)) wS e0 hS hk hEL (by simp [EL, x]) HC (vs := (lowL).map Value.int) (z := (16 : Int32)) (by decide +kernel) (by decide) (by decide +kernel) (g := (mkF m 0 #[.val (.int xx), .val (.int yy), .unset, .unset, .unset, .unset, .unset, .unset, .unset, .unset] [])) rfl (hb hby at_0) (n := 64) (by decide +kernel) (by decide) (by decide) (by decide)
  have HC := hC9.1
  have V9 := VArr.ofArv Av9 (by decide +kernel)
  have St_10 := SC.ext E9
  have St_11 := SF.ext E9
  refine Go.back (f' := (mkF m 2 #[.val (.int xx), .val (.int yy), .unset, .unset, .unset, .unset, .unset, .unset, .unset, .unset] [(.ref sl)])) st9 ?_
  refine Go.back (f' := (mkF m 3 #[.val (.int xx), .val (.int yy), .val (.ref sl), .unset, .unset, .unset, .unset, .unset, .unset, .unset] [])) (fun _ k => XS.astoreN X9.here hx rfl (hb hby at_2) rfl rfl (l' := #[.val (.int xx), .val (.int yy), .val (.ref sl), .unset, .unset, .unset, .unset, .unset, .unset, .unset]) rfl k) ?_
  obtain ⟨su, T12, h12, k12, bu, c12, X12, e12, E12, hS, hk, hZ, hown, Ex12, Fc12, Fv12, Av12, l112, l212, hC12, hL12, sf12, st12⟩ := ldcCH X9 hx hZ hown (hw _ (List.mem_of_getElem? (i := 8) rfl)) wS e9 hS hk hEL (by simp [EL, x]) HC (vs := (uppL).map Value.int) (z := (16 : Int32)) (by decide +kernel) (by decide) (by decide +kernel) (g := (mkF m 3 #[.val (.int xx), .val (.int yy), .val (.ref sl), .unset, .unset, .unset, .unset, .unset, .unset, .unset] [])) rfl (hb hby at_3) (n := 64) (by decide +kernel) (by decide) (by decide) (by decide)
  have HC := hC12.1
  have V12 := VArr.ofArv Av12 (by decide +kernel)
  have St_13 := St_10.ext E12
  have St_14 := St_11.ext E12
  have Ex_15 := Ex9.ext E12
  have Fl_16 := Fc9.ext E12
  have Fl_17 := Fv9.ext E12
  have Ar_18 := V9.ext E12
  refine Go.back (f' := (mkF m 5 #[.val (.int xx), .val (.int yy), .val (.ref sl), .unset, .unset, .unset, .unset, .unset, .unset, .unset] [(.ref su)])) st12 ?_
  refine Go.back (f' := (mkF m 6 #[.val (.int xx), .val (.int yy), .val (.ref sl), .val (.ref su), .unset, .unset, .unset, .unset, .unset, .unset] [])) (fun _ k => XS.astoreN X12.here hx rfl (hb hby at_5) rfl rfl (l' := #[.val (.int xx), .val (.int yy), .val (.ref sl), .val (.ref su), .unset, .unset, .unset, .unset, .unset, .unset]) rfl k) ?_
  refine Go.back (f' := (mkF m 7 #[.val (.int xx), .val (.int yy), .val (.ref sl), .val (.ref su), .unset, .unset, .unset, .unset, .unset, .unset] [(.int xx)])) (fun _ k => XS.iloadN X12.here hx rfl (hb hby at_6) rfl k) ?_
  refine Go.back (f' := (mkF m 9 #[.val (.int xx), .val (.int yy), .val (.ref sl), .val (.ref su), .unset, .unset, .unset, .unset, .unset, .unset] [(.int (65535 : Int32)), (.int xx)])) (fun _ k => X12.ldcInt hx hown (mvT hZ (hw _ (List.mem_of_getElem? (i := 9) rfl))) (g := (mkF m 7 #[.val (.int xx), .val (.int yy), .val (.ref sl), .val (.ref su), .unset, .unset, .unset, .unset, .unset, .unset] [(.int xx)])) rfl (hb hby at_7) _ k) ?_
  refine Go.back (f' := (mkF m 10 #[.val (.int xx), .val (.int yy), .val (.ref sl), .val (.ref su), .unset, .unset, .unset, .unset, .unset, .unset] [(.int (xx &&& (65535 : Int32)))])) (fun _ k => XS.iand X12.here hx rfl (hb hby at_9) rfl k) ?_
  refine Go.back (f' := (mkF m 11 #[.val (.int xx), .val (.int yy), .val (.ref sl), .val (.ref su), .unset, .unset, .unset, .unset, .unset, .unset] [(.int ((xx &&& (65535 : Int32)).toUInt32.toUInt16.toUInt32.toInt32))])) (fun _ k => XS.i2c X12.here hx rfl (hb hby at_10) rfl k) ?_
  generalize ec : ((xx &&& (65535 : Int32)).toUInt32.toUInt16.toUInt32.toInt32) = c32
  refine Go.back (f' := (mkF m 13 #[.val (.int xx), .val (.int yy), .val (.ref sl), .val (.ref su), .val (.int c32), .unset, .unset, .unset, .unset, .unset] [])) (fun _ k => XS.istore X12.here hx rfl (hb hby at_11) rfl (l' := #[.val (.int xx), .val (.int yy), .val (.ref sl), .val (.ref su), .val (.int c32), .unset, .unset, .unset, .unset, .unset]) rfl k) ?_
  refine Go.back (f' := (mkF m 14 #[.val (.int xx), .val (.int yy), .val (.ref sl), .val (.ref su), .val (.int c32), .unset, .unset, .unset, .unset, .unset] [(.int yy)])) (fun _ k => XS.iloadN X12.here hx rfl (hb hby at_13) rfl k) ?_
  refine Go.back (f' := (mkF m 16 #[.val (.int xx), .val (.int yy), .val (.ref sl), .val (.ref su), .val (.int c32), .unset, .unset, .unset, .unset, .unset] [(.int (15 : Int32)), (.int yy)])) (fun _ k => XS.bipush X12.here hx rfl (hb hby at_14) k) ?_
  refine Go.back (f' := (mkF m 17 #[.val (.int xx), .val (.int yy), .val (.ref sl), .val (.ref su), .val (.int c32), .unset, .unset, .unset, .unset, .unset] [(.int (yy &&& (15 : Int32)))])) (fun _ k => XS.iand X12.here hx rfl (hb hby at_16) rfl k) ?_
  obtain ⟨di, hdi, d16⟩ := own_m15 yy
  generalize ed : (yy &&& (15 : Int32)) = d32
  rw [ed] at hdi
  refine Go.back (f' := (mkF m 19 #[.val (.int xx), .val (.int yy), .val (.ref sl), .val (.ref su), .val (.int c32), .val (.int d32), .unset, .unset, .unset, .unset] [])) (fun _ k => XS.istore X12.here hx rfl (hb hby at_17) rfl (l' := #[.val (.int xx), .val (.int yy), .val (.ref sl), .val (.ref su), .val (.int c32), .val (.int d32), .unset, .unset, .unset, .unset]) rfl k) ?_
  refine Go.back (f' := (mkF m 21 #[.val (.int xx), .val (.int yy), .val (.ref sl), .val (.ref su), .val (.int c32), .val (.int d32), .unset, .unset, .unset, .unset] [(.int c32)])) (fun _ k => XS.iload X12.here hx rfl (hb hby at_19) rfl k) ?_
  refine Go.callS X12 hx hZ hown (hw _ (List.mem_of_getElem? (i := 10) rfl)) (hw _ (List.mem_of_getElem? (i := 11) rfl)) (hw _ (List.mem_of_getElem? (i := 12) rfl)) (hw _ (List.mem_of_getElem? (i := 13) rfl)) (by decide) e12 (argsL := [(.int c32)]) (rest := []) (rmVal l Z a0 hw c32 h12) (lenOf pd_4 rfl) rfl (by rw [hml]; rfl) (W := 0) (Nat.le_of_eq rfl) (hb hby at_21) (by decide) (by decide) (by decide) (by decide) ?_
  intro v19 T19 L19 X19 hQ19
  obtain ⟨rfl, rfl, hh19⟩ := hQ19
  rw [List.append_nil] at X19
  show GoG _ _ _ _ _ (mkF m 24 #[.val (.int xx), .val (.int yy), .val (.ref sl), .val (.ref su), .val (.int c32), .val (.int d32), .unset, .unset, .unset, .unset] [(.int (valV c32))])
  refine Go.back (f' := (mkF m 26 #[.val (.int xx), .val (.int yy), .val (.ref sl), .val (.ref su), .val (.int c32), .val (.int d32), .val (.int (valV c32)), .unset, .unset, .unset] [])) (fun _ k => XS.istore X19.here hx rfl (hb hby at_24) rfl (l' := #[.val (.int xx), .val (.int yy), .val (.ref sl), .val (.ref su), .val (.int c32), .val (.int d32), .val (.int (valV c32)), .unset, .unset, .unset]) rfl k) ?_
  refine Go.back (f' := (mkF m 28 #[.val (.int xx), .val (.int yy), .val (.ref sl), .val (.ref su), .val (.int c32), .val (.int d32), .val (.int (valV c32)), .unset, .unset, .unset] [(.int (valV c32))])) (fun _ k => XS.iload X19.here hx rfl (hb hby at_26) rfl k) ?_
  refine Go.back (f' := (mkF m 29 #[.val (.int xx), .val (.int yy), .val (.ref sl), .val (.ref su), .val (.int c32), .val (.int d32), .val (.int (valV c32)), .unset, .unset, .unset] [(.int (-1 : Int32)), (.int (valV c32))])) (fun _ k => XS.iconst X19.here hx rfl (hb hby at_28) k) ?_
  by_cases h1 : (valV c32) = (-1 : Int32)
  · refine Go.back (f' := (mkF m 66 #[.val (.int xx), .val (.int yy), .val (.ref sl), .val (.ref su), .val (.int c32), .val (.int d32), .val (.int (valV c32)), .unset, .unset, .unset] [])) (fun _ k => XS.icmpYes X19.here hx rfl (pc0 := 29) (pc' := 66) rfl (hb hby at_29) rfl (teq h1).1 (by decide) (by decide) k) ?_
    refine Go.back (f' := (mkF m 67 #[.val (.int xx), .val (.int yy), .val (.ref sl), .val (.ref su), .val (.int c32), .val (.int d32), .val (.int (valV c32)), .unset, .unset, .unset] [(.int (1 : Int32))])) (fun _ k => XS.iconst X19.here hx rfl (hb hby at_66) k) ?_
    refine Go.back (f' := (mkF m 71 #[.val (.int xx), .val (.int yy), .val (.ref sl), .val (.ref su), .val (.int c32), .val (.int d32), .val (.int (valV c32)), .unset, .unset, .unset] [(.int (1 : Int32))])) (fun _ k => XS.goto X19.here hx rfl (pc0 := 67) (pc' := 71) rfl (hb hby at_67) (by decide) (by decide) k) ?_
    refine Go.back (f' := (mkF m 73 #[.val (.int xx), .val (.int yy), .val (.ref sl), .val (.ref su), .val (.int c32), .val (.int d32), .val (.int (valV c32)), .val (.int (1 : Int32)), .unset, .unset] [])) (fun _ k => XS.istore X19.here hx rfl (hb hby at_71) rfl (l' := #[.val (.int xx), .val (.int yy), .val (.ref sl), .val (.ref su), .val (.int c32), .val (.int d32), .val (.int (valV c32)), .val (.int (1 : Int32)), .unset, .unset]) rfl k) ?_
    refine Go.back (f' := (mkF m 74 #[.val (.int xx), .val (.int yy), .val (.ref sl), .val (.ref su), .val (.int c32), .val (.int d32), .val (.int (valV c32)), .val (.int (1 : Int32)), .unset, .unset] [(.ref sl)])) (fun _ k => XS.aloadN X19.here hx rfl (hb hby at_73) rfl rfl k) ?_
    refine Go.back (f' := (mkF m 76 #[.val (.int xx), .val (.int yy), .val (.ref sl), .val (.ref su), .val (.int c32), .val (.int d32), .val (.int (valV c32)), .val (.int (1 : Int32)), .unset, .unset] [(.int d32), (.ref sl)])) (fun _ k => XS.iload X19.here hx rfl (hb hby at_74) rfl k) ?_
    refine Go.callV X19 hx hZ hown (hw _ (List.mem_of_getElem? (i := 14) rfl)) (hw _ (List.mem_of_getElem? (i := 15) rfl)) (hw _ (List.mem_of_getElem? (i := 17) rfl)) (hw _ (List.mem_of_getElem? (i := 16) rfl)) (hw _ (List.mem_of_getElem? (i := 1) rfl)) (hw _ (List.mem_of_getElem? (i := 18) rfl)) (by decide) hh19 Ex_15 (argsL := [(.int d32)]) (rest := []) (rmCh l Z a0 hw sl bl d32 cz fv lowL di h12 St_13 hcz St_14 hfv hfc Ex_15 Fl_16 Fl_17 Ar_18 hdi d16) (lenOf pd_5 rfl) rfl (by rw [hml]; rfl) (W := 0) (Nat.le_of_eq rfl) (hb hby at_76) (by decide) (by decide) (by decide) (by decide) ?_
    intro v20 T20 L20 X20 hQ20
    obtain ⟨rfl, rfl, hh20⟩ := hQ20
    rw [List.append_nil] at X20
    show GoG _ _ _ _ _ (mkF m 79 #[.val (.int xx), .val (.int yy), .val (.ref sl), .val (.ref su), .val (.int c32), .val (.int d32), .val (.int (valV c32)), .val (.int (1 : Int32)), .unset, .unset] [(.int ((lowL.getD di 0) &&& (255 : Int32)))])
    refine Go.callS X20 hx hZ hown (hw _ (List.mem_of_getElem? (i := 10) rfl)) (hw _ (List.mem_of_getElem? (i := 11) rfl)) (hw _ (List.mem_of_getElem? (i := 12) rfl)) (hw _ (List.mem_of_getElem? (i := 13) rfl)) (by decide) hh20 (argsL := [(.int ((lowL.getD di 0) &&& (255 : Int32)))]) (rest := []) (rmVal l Z a0 hw ((lowL.getD di 0) &&& (255 : Int32)) h12) (lenOf pd_4 rfl) rfl (by rw [hml]; rfl) (W := 0) (Nat.le_of_eq rfl) (hb hby at_79) (by decide) (by decide) (by decide) (by decide) ?_
    intro v21 T21 L21 X21 hQ21
    obtain ⟨rfl, rfl, hh21⟩ := hQ21
    rw [List.append_nil] at X21
    show GoG _ _ _ _ _ (mkF m 82 #[.val (.int xx), .val (.int yy), .val (.ref sl), .val (.ref su), .val (.int c32), .val (.int d32), .val (.int (valV c32)), .val (.int (1 : Int32)), .unset, .unset] [(.int (valV ((lowL.getD di 0) &&& (255 : Int32))))])
    refine Go.back (f' := (mkF m 84 #[.val (.int xx), .val (.int yy), .val (.ref sl), .val (.ref su), .val (.int c32), .val (.int d32), .val (.int (valV c32)), .val (.int (1 : Int32)), .unset, .unset] [(.int d32), (.int (valV ((lowL.getD di 0) &&& (255 : Int32))))])) (fun _ k => XS.iload X21.here hx rfl (hb hby at_82) rfl k) ?_
    refine Go.back (f' := (mkF m 87 #[.val (.int xx), .val (.int yy), .val (.ref sl), .val (.ref su), .val (.int c32), .val (.int d32), .val (.int (valV c32)), .val (.int (1 : Int32)), .unset, .unset] [])) (fun _ k => XS.icmpNo X21.here hx rfl (hb hby at_84) rfl (teq (Int32.toInt_inj.mp ((low_at ⟨di, d16⟩).2.trans hdi.symm))).2 k) ?_
    refine Go.back (f' := (mkF m 88 #[.val (.int xx), .val (.int yy), .val (.ref sl), .val (.ref su), .val (.int c32), .val (.int d32), .val (.int (valV c32)), .val (.int (1 : Int32)), .unset, .unset] [(.int (1 : Int32))])) (fun _ k => XS.iconst X21.here hx rfl (hb hby at_87) k) ?_
    refine Go.back (f' := (mkF m 92 #[.val (.int xx), .val (.int yy), .val (.ref sl), .val (.ref su), .val (.int c32), .val (.int d32), .val (.int (valV c32)), .val (.int (1 : Int32)), .unset, .unset] [(.int (1 : Int32))])) (fun _ k => XS.goto X21.here hx rfl (pc0 := 88) (pc' := 92) rfl (hb hby at_88) (by decide) (by decide) k) ?_
    refine Go.back (f' := (mkF m 94 #[.val (.int xx), .val (.int yy), .val (.ref sl), .val (.ref su), .val (.int c32), .val (.int d32), .val (.int (valV c32)), .val (.int (1 : Int32)), .val (.int (1 : Int32)), .unset] [])) (fun _ k => XS.istore X21.here hx rfl (hb hby at_92) rfl (l' := #[.val (.int xx), .val (.int yy), .val (.ref sl), .val (.ref su), .val (.int c32), .val (.int d32), .val (.int (valV c32)), .val (.int (1 : Int32)), .val (.int (1 : Int32)), .unset]) rfl k) ?_
    refine Go.back (f' := (mkF m 95 #[.val (.int xx), .val (.int yy), .val (.ref sl), .val (.ref su), .val (.int c32), .val (.int d32), .val (.int (valV c32)), .val (.int (1 : Int32)), .val (.int (1 : Int32)), .unset] [(.ref su)])) (fun _ k => XS.aloadN X21.here hx rfl (hb hby at_94) rfl rfl k) ?_
    refine Go.back (f' := (mkF m 97 #[.val (.int xx), .val (.int yy), .val (.ref sl), .val (.ref su), .val (.int c32), .val (.int d32), .val (.int (valV c32)), .val (.int (1 : Int32)), .val (.int (1 : Int32)), .unset] [(.int d32), (.ref su)])) (fun _ k => XS.iload X21.here hx rfl (hb hby at_95) rfl k) ?_
    refine Go.callV X21 hx hZ hown (hw _ (List.mem_of_getElem? (i := 14) rfl)) (hw _ (List.mem_of_getElem? (i := 15) rfl)) (hw _ (List.mem_of_getElem? (i := 17) rfl)) (hw _ (List.mem_of_getElem? (i := 16) rfl)) (hw _ (List.mem_of_getElem? (i := 1) rfl)) (hw _ (List.mem_of_getElem? (i := 18) rfl)) (by decide) hh21 Ex12 (argsL := [(.int d32)]) (rest := []) (rmCh l Z a0 hw su bu d32 cz fv uppL di h12 St_13 hcz St_14 hfv hfc Ex12 Fc12 Fv12 V12 hdi d16) (lenOf pd_5 rfl) rfl (by rw [hml]; rfl) (W := 0) (Nat.le_of_eq rfl) (hb hby at_97) (by decide) (by decide) (by decide) (by decide) ?_
    intro v22 T22 L22 X22 hQ22
    obtain ⟨rfl, rfl, hh22⟩ := hQ22
    rw [List.append_nil] at X22
    show GoG _ _ _ _ _ (mkF m 100 #[.val (.int xx), .val (.int yy), .val (.ref sl), .val (.ref su), .val (.int c32), .val (.int d32), .val (.int (valV c32)), .val (.int (1 : Int32)), .val (.int (1 : Int32)), .unset] [(.int ((uppL.getD di 0) &&& (255 : Int32)))])
    refine Go.callS X22 hx hZ hown (hw _ (List.mem_of_getElem? (i := 10) rfl)) (hw _ (List.mem_of_getElem? (i := 11) rfl)) (hw _ (List.mem_of_getElem? (i := 12) rfl)) (hw _ (List.mem_of_getElem? (i := 13) rfl)) (by decide) hh22 (argsL := [(.int ((uppL.getD di 0) &&& (255 : Int32)))]) (rest := []) (rmVal l Z a0 hw ((uppL.getD di 0) &&& (255 : Int32)) h12) (lenOf pd_4 rfl) rfl (by rw [hml]; rfl) (W := 0) (Nat.le_of_eq rfl) (hb hby at_100) (by decide) (by decide) (by decide) (by decide) ?_
    intro v23 T23 L23 X23 hQ23
    obtain ⟨rfl, rfl, hh23⟩ := hQ23
    rw [List.append_nil] at X23
    show GoG _ _ _ _ _ (mkF m 103 #[.val (.int xx), .val (.int yy), .val (.ref sl), .val (.ref su), .val (.int c32), .val (.int d32), .val (.int (valV c32)), .val (.int (1 : Int32)), .val (.int (1 : Int32)), .unset] [(.int (valV ((uppL.getD di 0) &&& (255 : Int32))))])
    refine Go.back (f' := (mkF m 105 #[.val (.int xx), .val (.int yy), .val (.ref sl), .val (.ref su), .val (.int c32), .val (.int d32), .val (.int (valV c32)), .val (.int (1 : Int32)), .val (.int (1 : Int32)), .unset] [(.int d32), (.int (valV ((uppL.getD di 0) &&& (255 : Int32))))])) (fun _ k => XS.iload X23.here hx rfl (hb hby at_103) rfl k) ?_
    refine Go.back (f' := (mkF m 108 #[.val (.int xx), .val (.int yy), .val (.ref sl), .val (.ref su), .val (.int c32), .val (.int d32), .val (.int (valV c32)), .val (.int (1 : Int32)), .val (.int (1 : Int32)), .unset] [])) (fun _ k => XS.icmpNo X23.here hx rfl (hb hby at_105) rfl (teq (Int32.toInt_inj.mp ((upp_at ⟨di, d16⟩).2.trans hdi.symm))).2 k) ?_
    refine Go.back (f' := (mkF m 109 #[.val (.int xx), .val (.int yy), .val (.ref sl), .val (.ref su), .val (.int c32), .val (.int d32), .val (.int (valV c32)), .val (.int (1 : Int32)), .val (.int (1 : Int32)), .unset] [(.int (1 : Int32))])) (fun _ k => XS.iconst X23.here hx rfl (hb hby at_108) k) ?_
    refine Go.back (f' := (mkF m 113 #[.val (.int xx), .val (.int yy), .val (.ref sl), .val (.ref su), .val (.int c32), .val (.int d32), .val (.int (valV c32)), .val (.int (1 : Int32)), .val (.int (1 : Int32)), .unset] [(.int (1 : Int32))])) (fun _ k => XS.goto X23.here hx rfl (pc0 := 109) (pc' := 113) rfl (hb hby at_109) (by decide) (by decide) k) ?_
    refine Go.back (f' := (mkF m 115 #[.val (.int xx), .val (.int yy), .val (.ref sl), .val (.ref su), .val (.int c32), .val (.int d32), .val (.int (valV c32)), .val (.int (1 : Int32)), .val (.int (1 : Int32)), .val (.int (1 : Int32))] [])) (fun _ k => XS.istore X23.here hx rfl (hb hby at_113) rfl (l' := #[.val (.int xx), .val (.int yy), .val (.ref sl), .val (.ref su), .val (.int c32), .val (.int d32), .val (.int (valV c32)), .val (.int (1 : Int32)), .val (.int (1 : Int32)), .val (.int (1 : Int32))]) rfl k) ?_
    refine Go.back (f' := (mkF m 117 #[.val (.int xx), .val (.int yy), .val (.ref sl), .val (.ref su), .val (.int c32), .val (.int d32), .val (.int (valV c32)), .val (.int (1 : Int32)), .val (.int (1 : Int32)), .val (.int (1 : Int32))] [(.int (1 : Int32))])) (fun _ k => XS.iload X23.here hx rfl (hb hby at_115) rfl k) ?_
    refine Go.back (f' := (mkF m 120 #[.val (.int xx), .val (.int yy), .val (.ref sl), .val (.ref su), .val (.int c32), .val (.int d32), .val (.int (valV c32)), .val (.int (1 : Int32)), .val (.int (1 : Int32)), .val (.int (1 : Int32))] [])) (fun _ k => XS.ifNo X23.here hx rfl (hb hby at_117) rfl ((if0 _ _).trans (feq (by decide)).1) k) ?_
    refine Go.back (f' := (mkF m 122 #[.val (.int xx), .val (.int yy), .val (.ref sl), .val (.ref su), .val (.int c32), .val (.int d32), .val (.int (valV c32)), .val (.int (1 : Int32)), .val (.int (1 : Int32)), .val (.int (1 : Int32))] [(.int (1 : Int32))])) (fun _ k => XS.iload X23.here hx rfl (hb hby at_120) rfl k) ?_
    refine Go.back (f' := (mkF m 125 #[.val (.int xx), .val (.int yy), .val (.ref sl), .val (.ref su), .val (.int c32), .val (.int d32), .val (.int (valV c32)), .val (.int (1 : Int32)), .val (.int (1 : Int32)), .val (.int (1 : Int32))] [])) (fun _ k => XS.ifNo X23.here hx rfl (hb hby at_122) rfl ((if0 _ _).trans (feq (by decide)).1) k) ?_
    refine Go.back (f' := (mkF m 127 #[.val (.int xx), .val (.int yy), .val (.ref sl), .val (.ref su), .val (.int c32), .val (.int d32), .val (.int (valV c32)), .val (.int (1 : Int32)), .val (.int (1 : Int32)), .val (.int (1 : Int32))] [(.int (1 : Int32))])) (fun _ k => XS.iload X23.here hx rfl (hb hby at_125) rfl k) ?_
    refine Go.back (f' := (mkF m 130 #[.val (.int xx), .val (.int yy), .val (.ref sl), .val (.ref su), .val (.int c32), .val (.int d32), .val (.int (valV c32)), .val (.int (1 : Int32)), .val (.int (1 : Int32)), .val (.int (1 : Int32))] [])) (fun _ k => XS.ifNo X23.here hx rfl (hb hby at_127) rfl ((if0 _ _).trans (feq (by decide)).1) k) ?_
    refine Go.back (f' := (mkF m 131 #[.val (.int xx), .val (.int yy), .val (.ref sl), .val (.ref su), .val (.int c32), .val (.int d32), .val (.int (valV c32)), .val (.int (1 : Int32)), .val (.int (1 : Int32)), .val (.int (1 : Int32))] [(.int (1 : Int32))])) (fun _ k => XS.iconst X23.here hx rfl (hb hby at_130) k) ?_
    refine Go.back (f' := (mkF m 135 #[.val (.int xx), .val (.int yy), .val (.ref sl), .val (.ref su), .val (.int c32), .val (.int d32), .val (.int (valV c32)), .val (.int (1 : Int32)), .val (.int (1 : Int32)), .val (.int (1 : Int32))] [(.int (1 : Int32))])) (fun _ k => XS.goto X23.here hx rfl (pc0 := 131) (pc' := 135) rfl (hb hby at_131) (by decide) (by decide) k) ?_
    exact GoW.retN X23 hx hS (by rw [hh23]; exact hk) (t := .boolean) hret (by simp) (w := (1 : Int32)) rfl hlk (hb hby at_135) (by (try rw [hh23]); exact ⟨rfl, Fr.nil _⟩) (by decide) (by decide)
  · refine Go.back (f' := (mkF m 32 #[.val (.int xx), .val (.int yy), .val (.ref sl), .val (.ref su), .val (.int c32), .val (.int d32), .val (.int (valV c32)), .unset, .unset, .unset] [])) (fun _ k => XS.icmpNo X19.here hx rfl (hb hby at_29) rfl (feq h1).1 k) ?_
    obtain ⟨vi, hvi, v16, hor⟩ := own_sound h1
    refine Go.back (f' := (mkF m 34 #[.val (.int xx), .val (.int yy), .val (.ref sl), .val (.ref su), .val (.int c32), .val (.int d32), .val (.int (valV c32)), .unset, .unset, .unset] [(.int (valV c32))])) (fun _ k => XS.iload X19.here hx rfl (hb hby at_32) rfl k) ?_
    refine Go.back (f' := (mkF m 37 #[.val (.int xx), .val (.int yy), .val (.ref sl), .val (.ref su), .val (.int c32), .val (.int d32), .val (.int (valV c32)), .unset, .unset, .unset] [])) (fun _ k => XS.ifNo X19.here hx rfl (hb hby at_34) rfl ((if0 _ _).trans (flt (idx0 hvi)).1) k) ?_
    refine Go.back (f' := (mkF m 39 #[.val (.int xx), .val (.int yy), .val (.ref sl), .val (.ref su), .val (.int c32), .val (.int d32), .val (.int (valV c32)), .unset, .unset, .unset] [(.int (valV c32))])) (fun _ k => XS.iload X19.here hx rfl (hb hby at_37) rfl k) ?_
    refine Go.back (f' := (mkF m 41 #[.val (.int xx), .val (.int yy), .val (.ref sl), .val (.ref su), .val (.int c32), .val (.int d32), .val (.int (valV c32)), .unset, .unset, .unset] [(.int (15 : Int32)), (.int (valV c32))])) (fun _ k => XS.bipush X19.here hx rfl (hb hby at_39) k) ?_
    refine Go.back (f' := (mkF m 44 #[.val (.int xx), .val (.int yy), .val (.ref sl), .val (.ref su), .val (.int c32), .val (.int d32), .val (.int (valV c32)), .unset, .unset, .unset] [])) (fun _ k => XS.icmpNo X19.here hx rfl (hb hby at_41) rfl (flt (by rw [Int32.lt_iff_toInt_lt, hvi]; show ¬ (15 : Int) < _; omega)).2.2.1 k) ?_
    refine Go.back (f' := (mkF m 46 #[.val (.int xx), .val (.int yy), .val (.ref sl), .val (.ref su), .val (.int c32), .val (.int d32), .val (.int (valV c32)), .unset, .unset, .unset] [(.int c32)])) (fun _ k => XS.iload X19.here hx rfl (hb hby at_44) rfl k) ?_
    refine Go.back (f' := (mkF m 47 #[.val (.int xx), .val (.int yy), .val (.ref sl), .val (.ref su), .val (.int c32), .val (.int d32), .val (.int (valV c32)), .unset, .unset, .unset] [(.ref sl), (.int c32)])) (fun _ k => XS.aloadN X19.here hx rfl (hb hby at_46) rfl rfl k) ?_
    refine Go.back (f' := (mkF m 49 #[.val (.int xx), .val (.int yy), .val (.ref sl), .val (.ref su), .val (.int c32), .val (.int d32), .val (.int (valV c32)), .unset, .unset, .unset] [(.int (valV c32)), (.ref sl), (.int c32)])) (fun _ k => XS.iload X19.here hx rfl (hb hby at_47) rfl k) ?_
    refine Go.callV X19 hx hZ hown (hw _ (List.mem_of_getElem? (i := 14) rfl)) (hw _ (List.mem_of_getElem? (i := 15) rfl)) (hw _ (List.mem_of_getElem? (i := 17) rfl)) (hw _ (List.mem_of_getElem? (i := 16) rfl)) (hw _ (List.mem_of_getElem? (i := 1) rfl)) (hw _ (List.mem_of_getElem? (i := 18) rfl)) (by decide) hh19 Ex_15 (argsL := [(.int (valV c32))]) (rest := [(.int c32)]) (rmCh l Z a0 hw sl bl (valV c32) cz fv lowL vi h12 St_13 hcz St_14 hfv hfc Ex_15 Fl_16 Fl_17 Ar_18 hvi v16) (lenOf pd_5 rfl) rfl (by rw [hml]; rfl) (W := 1) (Nat.le_of_eq rfl) (hb hby at_49) (by decide) (by decide) (by decide) (by decide) ?_
    intro v24 T24 L24 X24 hQ24
    obtain ⟨rfl, rfl, hh24⟩ := hQ24
    rw [List.append_nil] at X24
    show GoG _ _ _ _ _ (mkF m 52 #[.val (.int xx), .val (.int yy), .val (.ref sl), .val (.ref su), .val (.int c32), .val (.int d32), .val (.int (valV c32)), .unset, .unset, .unset] [(.int ((lowL.getD vi 0) &&& (255 : Int32))), (.int c32)])
    by_cases h4 : c32 = ((lowL.getD vi 0) &&& (255 : Int32))
    · refine Go.back (f' := (mkF m 66 #[.val (.int xx), .val (.int yy), .val (.ref sl), .val (.ref su), .val (.int c32), .val (.int d32), .val (.int (valV c32)), .unset, .unset, .unset] [])) (fun _ k => XS.icmpYes X24.here hx rfl (pc0 := 52) (pc' := 66) rfl (hb hby at_52) rfl (teq h4).1 (by decide) (by decide) k) ?_
      refine Go.back (f' := (mkF m 67 #[.val (.int xx), .val (.int yy), .val (.ref sl), .val (.ref su), .val (.int c32), .val (.int d32), .val (.int (valV c32)), .unset, .unset, .unset] [(.int (1 : Int32))])) (fun _ k => XS.iconst X24.here hx rfl (hb hby at_66) k) ?_
      refine Go.back (f' := (mkF m 71 #[.val (.int xx), .val (.int yy), .val (.ref sl), .val (.ref su), .val (.int c32), .val (.int d32), .val (.int (valV c32)), .unset, .unset, .unset] [(.int (1 : Int32))])) (fun _ k => XS.goto X24.here hx rfl (pc0 := 67) (pc' := 71) rfl (hb hby at_67) (by decide) (by decide) k) ?_
      refine Go.back (f' := (mkF m 73 #[.val (.int xx), .val (.int yy), .val (.ref sl), .val (.ref su), .val (.int c32), .val (.int d32), .val (.int (valV c32)), .val (.int (1 : Int32)), .unset, .unset] [])) (fun _ k => XS.istore X24.here hx rfl (hb hby at_71) rfl (l' := #[.val (.int xx), .val (.int yy), .val (.ref sl), .val (.ref su), .val (.int c32), .val (.int d32), .val (.int (valV c32)), .val (.int (1 : Int32)), .unset, .unset]) rfl k) ?_
      refine Go.back (f' := (mkF m 74 #[.val (.int xx), .val (.int yy), .val (.ref sl), .val (.ref su), .val (.int c32), .val (.int d32), .val (.int (valV c32)), .val (.int (1 : Int32)), .unset, .unset] [(.ref sl)])) (fun _ k => XS.aloadN X24.here hx rfl (hb hby at_73) rfl rfl k) ?_
      refine Go.back (f' := (mkF m 76 #[.val (.int xx), .val (.int yy), .val (.ref sl), .val (.ref su), .val (.int c32), .val (.int d32), .val (.int (valV c32)), .val (.int (1 : Int32)), .unset, .unset] [(.int d32), (.ref sl)])) (fun _ k => XS.iload X24.here hx rfl (hb hby at_74) rfl k) ?_
      refine Go.callV X24 hx hZ hown (hw _ (List.mem_of_getElem? (i := 14) rfl)) (hw _ (List.mem_of_getElem? (i := 15) rfl)) (hw _ (List.mem_of_getElem? (i := 17) rfl)) (hw _ (List.mem_of_getElem? (i := 16) rfl)) (hw _ (List.mem_of_getElem? (i := 1) rfl)) (hw _ (List.mem_of_getElem? (i := 18) rfl)) (by decide) hh24 Ex_15 (argsL := [(.int d32)]) (rest := []) (rmCh l Z a0 hw sl bl d32 cz fv lowL di h12 St_13 hcz St_14 hfv hfc Ex_15 Fl_16 Fl_17 Ar_18 hdi d16) (lenOf pd_5 rfl) rfl (by rw [hml]; rfl) (W := 0) (Nat.le_of_eq rfl) (hb hby at_76) (by decide) (by decide) (by decide) (by decide) ?_
      intro v25 T25 L25 X25 hQ25
      obtain ⟨rfl, rfl, hh25⟩ := hQ25
      rw [List.append_nil] at X25
      show GoG _ _ _ _ _ (mkF m 79 #[.val (.int xx), .val (.int yy), .val (.ref sl), .val (.ref su), .val (.int c32), .val (.int d32), .val (.int (valV c32)), .val (.int (1 : Int32)), .unset, .unset] [(.int ((lowL.getD di 0) &&& (255 : Int32)))])
      refine Go.callS X25 hx hZ hown (hw _ (List.mem_of_getElem? (i := 10) rfl)) (hw _ (List.mem_of_getElem? (i := 11) rfl)) (hw _ (List.mem_of_getElem? (i := 12) rfl)) (hw _ (List.mem_of_getElem? (i := 13) rfl)) (by decide) hh25 (argsL := [(.int ((lowL.getD di 0) &&& (255 : Int32)))]) (rest := []) (rmVal l Z a0 hw ((lowL.getD di 0) &&& (255 : Int32)) h12) (lenOf pd_4 rfl) rfl (by rw [hml]; rfl) (W := 0) (Nat.le_of_eq rfl) (hb hby at_79) (by decide) (by decide) (by decide) (by decide) ?_
      intro v26 T26 L26 X26 hQ26
      obtain ⟨rfl, rfl, hh26⟩ := hQ26
      rw [List.append_nil] at X26
      show GoG _ _ _ _ _ (mkF m 82 #[.val (.int xx), .val (.int yy), .val (.ref sl), .val (.ref su), .val (.int c32), .val (.int d32), .val (.int (valV c32)), .val (.int (1 : Int32)), .unset, .unset] [(.int (valV ((lowL.getD di 0) &&& (255 : Int32))))])
      refine Go.back (f' := (mkF m 84 #[.val (.int xx), .val (.int yy), .val (.ref sl), .val (.ref su), .val (.int c32), .val (.int d32), .val (.int (valV c32)), .val (.int (1 : Int32)), .unset, .unset] [(.int d32), (.int (valV ((lowL.getD di 0) &&& (255 : Int32))))])) (fun _ k => XS.iload X26.here hx rfl (hb hby at_82) rfl k) ?_
      refine Go.back (f' := (mkF m 87 #[.val (.int xx), .val (.int yy), .val (.ref sl), .val (.ref su), .val (.int c32), .val (.int d32), .val (.int (valV c32)), .val (.int (1 : Int32)), .unset, .unset] [])) (fun _ k => XS.icmpNo X26.here hx rfl (hb hby at_84) rfl (teq (Int32.toInt_inj.mp ((low_at ⟨di, d16⟩).2.trans hdi.symm))).2 k) ?_
      refine Go.back (f' := (mkF m 88 #[.val (.int xx), .val (.int yy), .val (.ref sl), .val (.ref su), .val (.int c32), .val (.int d32), .val (.int (valV c32)), .val (.int (1 : Int32)), .unset, .unset] [(.int (1 : Int32))])) (fun _ k => XS.iconst X26.here hx rfl (hb hby at_87) k) ?_
      refine Go.back (f' := (mkF m 92 #[.val (.int xx), .val (.int yy), .val (.ref sl), .val (.ref su), .val (.int c32), .val (.int d32), .val (.int (valV c32)), .val (.int (1 : Int32)), .unset, .unset] [(.int (1 : Int32))])) (fun _ k => XS.goto X26.here hx rfl (pc0 := 88) (pc' := 92) rfl (hb hby at_88) (by decide) (by decide) k) ?_
      refine Go.back (f' := (mkF m 94 #[.val (.int xx), .val (.int yy), .val (.ref sl), .val (.ref su), .val (.int c32), .val (.int d32), .val (.int (valV c32)), .val (.int (1 : Int32)), .val (.int (1 : Int32)), .unset] [])) (fun _ k => XS.istore X26.here hx rfl (hb hby at_92) rfl (l' := #[.val (.int xx), .val (.int yy), .val (.ref sl), .val (.ref su), .val (.int c32), .val (.int d32), .val (.int (valV c32)), .val (.int (1 : Int32)), .val (.int (1 : Int32)), .unset]) rfl k) ?_
      refine Go.back (f' := (mkF m 95 #[.val (.int xx), .val (.int yy), .val (.ref sl), .val (.ref su), .val (.int c32), .val (.int d32), .val (.int (valV c32)), .val (.int (1 : Int32)), .val (.int (1 : Int32)), .unset] [(.ref su)])) (fun _ k => XS.aloadN X26.here hx rfl (hb hby at_94) rfl rfl k) ?_
      refine Go.back (f' := (mkF m 97 #[.val (.int xx), .val (.int yy), .val (.ref sl), .val (.ref su), .val (.int c32), .val (.int d32), .val (.int (valV c32)), .val (.int (1 : Int32)), .val (.int (1 : Int32)), .unset] [(.int d32), (.ref su)])) (fun _ k => XS.iload X26.here hx rfl (hb hby at_95) rfl k) ?_
      refine Go.callV X26 hx hZ hown (hw _ (List.mem_of_getElem? (i := 14) rfl)) (hw _ (List.mem_of_getElem? (i := 15) rfl)) (hw _ (List.mem_of_getElem? (i := 17) rfl)) (hw _ (List.mem_of_getElem? (i := 16) rfl)) (hw _ (List.mem_of_getElem? (i := 1) rfl)) (hw _ (List.mem_of_getElem? (i := 18) rfl)) (by decide) hh26 Ex12 (argsL := [(.int d32)]) (rest := []) (rmCh l Z a0 hw su bu d32 cz fv uppL di h12 St_13 hcz St_14 hfv hfc Ex12 Fc12 Fv12 V12 hdi d16) (lenOf pd_5 rfl) rfl (by rw [hml]; rfl) (W := 0) (Nat.le_of_eq rfl) (hb hby at_97) (by decide) (by decide) (by decide) (by decide) ?_
      intro v27 T27 L27 X27 hQ27
      obtain ⟨rfl, rfl, hh27⟩ := hQ27
      rw [List.append_nil] at X27
      show GoG _ _ _ _ _ (mkF m 100 #[.val (.int xx), .val (.int yy), .val (.ref sl), .val (.ref su), .val (.int c32), .val (.int d32), .val (.int (valV c32)), .val (.int (1 : Int32)), .val (.int (1 : Int32)), .unset] [(.int ((uppL.getD di 0) &&& (255 : Int32)))])
      refine Go.callS X27 hx hZ hown (hw _ (List.mem_of_getElem? (i := 10) rfl)) (hw _ (List.mem_of_getElem? (i := 11) rfl)) (hw _ (List.mem_of_getElem? (i := 12) rfl)) (hw _ (List.mem_of_getElem? (i := 13) rfl)) (by decide) hh27 (argsL := [(.int ((uppL.getD di 0) &&& (255 : Int32)))]) (rest := []) (rmVal l Z a0 hw ((uppL.getD di 0) &&& (255 : Int32)) h12) (lenOf pd_4 rfl) rfl (by rw [hml]; rfl) (W := 0) (Nat.le_of_eq rfl) (hb hby at_100) (by decide) (by decide) (by decide) (by decide) ?_
      intro v28 T28 L28 X28 hQ28
      obtain ⟨rfl, rfl, hh28⟩ := hQ28
      rw [List.append_nil] at X28
      show GoG _ _ _ _ _ (mkF m 103 #[.val (.int xx), .val (.int yy), .val (.ref sl), .val (.ref su), .val (.int c32), .val (.int d32), .val (.int (valV c32)), .val (.int (1 : Int32)), .val (.int (1 : Int32)), .unset] [(.int (valV ((uppL.getD di 0) &&& (255 : Int32))))])
      refine Go.back (f' := (mkF m 105 #[.val (.int xx), .val (.int yy), .val (.ref sl), .val (.ref su), .val (.int c32), .val (.int d32), .val (.int (valV c32)), .val (.int (1 : Int32)), .val (.int (1 : Int32)), .unset] [(.int d32), (.int (valV ((uppL.getD di 0) &&& (255 : Int32))))])) (fun _ k => XS.iload X28.here hx rfl (hb hby at_103) rfl k) ?_
      refine Go.back (f' := (mkF m 108 #[.val (.int xx), .val (.int yy), .val (.ref sl), .val (.ref su), .val (.int c32), .val (.int d32), .val (.int (valV c32)), .val (.int (1 : Int32)), .val (.int (1 : Int32)), .unset] [])) (fun _ k => XS.icmpNo X28.here hx rfl (hb hby at_105) rfl (teq (Int32.toInt_inj.mp ((upp_at ⟨di, d16⟩).2.trans hdi.symm))).2 k) ?_
      refine Go.back (f' := (mkF m 109 #[.val (.int xx), .val (.int yy), .val (.ref sl), .val (.ref su), .val (.int c32), .val (.int d32), .val (.int (valV c32)), .val (.int (1 : Int32)), .val (.int (1 : Int32)), .unset] [(.int (1 : Int32))])) (fun _ k => XS.iconst X28.here hx rfl (hb hby at_108) k) ?_
      refine Go.back (f' := (mkF m 113 #[.val (.int xx), .val (.int yy), .val (.ref sl), .val (.ref su), .val (.int c32), .val (.int d32), .val (.int (valV c32)), .val (.int (1 : Int32)), .val (.int (1 : Int32)), .unset] [(.int (1 : Int32))])) (fun _ k => XS.goto X28.here hx rfl (pc0 := 109) (pc' := 113) rfl (hb hby at_109) (by decide) (by decide) k) ?_
      refine Go.back (f' := (mkF m 115 #[.val (.int xx), .val (.int yy), .val (.ref sl), .val (.ref su), .val (.int c32), .val (.int d32), .val (.int (valV c32)), .val (.int (1 : Int32)), .val (.int (1 : Int32)), .val (.int (1 : Int32))] [])) (fun _ k => XS.istore X28.here hx rfl (hb hby at_113) rfl (l' := #[.val (.int xx), .val (.int yy), .val (.ref sl), .val (.ref su), .val (.int c32), .val (.int d32), .val (.int (valV c32)), .val (.int (1 : Int32)), .val (.int (1 : Int32)), .val (.int (1 : Int32))]) rfl k) ?_
      refine Go.back (f' := (mkF m 117 #[.val (.int xx), .val (.int yy), .val (.ref sl), .val (.ref su), .val (.int c32), .val (.int d32), .val (.int (valV c32)), .val (.int (1 : Int32)), .val (.int (1 : Int32)), .val (.int (1 : Int32))] [(.int (1 : Int32))])) (fun _ k => XS.iload X28.here hx rfl (hb hby at_115) rfl k) ?_
      refine Go.back (f' := (mkF m 120 #[.val (.int xx), .val (.int yy), .val (.ref sl), .val (.ref su), .val (.int c32), .val (.int d32), .val (.int (valV c32)), .val (.int (1 : Int32)), .val (.int (1 : Int32)), .val (.int (1 : Int32))] [])) (fun _ k => XS.ifNo X28.here hx rfl (hb hby at_117) rfl ((if0 _ _).trans (feq (by decide)).1) k) ?_
      refine Go.back (f' := (mkF m 122 #[.val (.int xx), .val (.int yy), .val (.ref sl), .val (.ref su), .val (.int c32), .val (.int d32), .val (.int (valV c32)), .val (.int (1 : Int32)), .val (.int (1 : Int32)), .val (.int (1 : Int32))] [(.int (1 : Int32))])) (fun _ k => XS.iload X28.here hx rfl (hb hby at_120) rfl k) ?_
      refine Go.back (f' := (mkF m 125 #[.val (.int xx), .val (.int yy), .val (.ref sl), .val (.ref su), .val (.int c32), .val (.int d32), .val (.int (valV c32)), .val (.int (1 : Int32)), .val (.int (1 : Int32)), .val (.int (1 : Int32))] [])) (fun _ k => XS.ifNo X28.here hx rfl (hb hby at_122) rfl ((if0 _ _).trans (feq (by decide)).1) k) ?_
      refine Go.back (f' := (mkF m 127 #[.val (.int xx), .val (.int yy), .val (.ref sl), .val (.ref su), .val (.int c32), .val (.int d32), .val (.int (valV c32)), .val (.int (1 : Int32)), .val (.int (1 : Int32)), .val (.int (1 : Int32))] [(.int (1 : Int32))])) (fun _ k => XS.iload X28.here hx rfl (hb hby at_125) rfl k) ?_
      refine Go.back (f' := (mkF m 130 #[.val (.int xx), .val (.int yy), .val (.ref sl), .val (.ref su), .val (.int c32), .val (.int d32), .val (.int (valV c32)), .val (.int (1 : Int32)), .val (.int (1 : Int32)), .val (.int (1 : Int32))] [])) (fun _ k => XS.ifNo X28.here hx rfl (hb hby at_127) rfl ((if0 _ _).trans (feq (by decide)).1) k) ?_
      refine Go.back (f' := (mkF m 131 #[.val (.int xx), .val (.int yy), .val (.ref sl), .val (.ref su), .val (.int c32), .val (.int d32), .val (.int (valV c32)), .val (.int (1 : Int32)), .val (.int (1 : Int32)), .val (.int (1 : Int32))] [(.int (1 : Int32))])) (fun _ k => XS.iconst X28.here hx rfl (hb hby at_130) k) ?_
      refine Go.back (f' := (mkF m 135 #[.val (.int xx), .val (.int yy), .val (.ref sl), .val (.ref su), .val (.int c32), .val (.int d32), .val (.int (valV c32)), .val (.int (1 : Int32)), .val (.int (1 : Int32)), .val (.int (1 : Int32))] [(.int (1 : Int32))])) (fun _ k => XS.goto X28.here hx rfl (pc0 := 131) (pc' := 135) rfl (hb hby at_131) (by decide) (by decide) k) ?_
      exact GoW.retN X28 hx hS (by rw [hh28]; exact hk) (t := .boolean) hret (by simp) (w := (1 : Int32)) rfl hlk (hb hby at_135) (by (try rw [hh28]); exact ⟨rfl, Fr.nil _⟩) (by decide) (by decide)
    · refine Go.back (f' := (mkF m 55 #[.val (.int xx), .val (.int yy), .val (.ref sl), .val (.ref su), .val (.int c32), .val (.int d32), .val (.int (valV c32)), .unset, .unset, .unset] [])) (fun _ k => XS.icmpNo X24.here hx rfl (hb hby at_52) rfl (feq h4).1 k) ?_
      refine Go.back (f' := (mkF m 57 #[.val (.int xx), .val (.int yy), .val (.ref sl), .val (.ref su), .val (.int c32), .val (.int d32), .val (.int (valV c32)), .unset, .unset, .unset] [(.int c32)])) (fun _ k => XS.iload X24.here hx rfl (hb hby at_55) rfl k) ?_
      refine Go.back (f' := (mkF m 58 #[.val (.int xx), .val (.int yy), .val (.ref sl), .val (.ref su), .val (.int c32), .val (.int d32), .val (.int (valV c32)), .unset, .unset, .unset] [(.ref su), (.int c32)])) (fun _ k => XS.aloadN X24.here hx rfl (hb hby at_57) rfl rfl k) ?_
      refine Go.back (f' := (mkF m 60 #[.val (.int xx), .val (.int yy), .val (.ref sl), .val (.ref su), .val (.int c32), .val (.int d32), .val (.int (valV c32)), .unset, .unset, .unset] [(.int (valV c32)), (.ref su), (.int c32)])) (fun _ k => XS.iload X24.here hx rfl (hb hby at_58) rfl k) ?_
      refine Go.callV X24 hx hZ hown (hw _ (List.mem_of_getElem? (i := 14) rfl)) (hw _ (List.mem_of_getElem? (i := 15) rfl)) (hw _ (List.mem_of_getElem? (i := 17) rfl)) (hw _ (List.mem_of_getElem? (i := 16) rfl)) (hw _ (List.mem_of_getElem? (i := 1) rfl)) (hw _ (List.mem_of_getElem? (i := 18) rfl)) (by decide) hh24 Ex12 (argsL := [(.int (valV c32))]) (rest := [(.int c32)]) (rmCh l Z a0 hw su bu (valV c32) cz fv uppL vi h12 St_13 hcz St_14 hfv hfc Ex12 Fc12 Fv12 V12 hvi v16) (lenOf pd_5 rfl) rfl (by rw [hml]; rfl) (W := 1) (Nat.le_of_eq rfl) (hb hby at_60) (by decide) (by decide) (by decide) (by decide) ?_
      intro v29 T29 L29 X29 hQ29
      obtain ⟨rfl, rfl, hh29⟩ := hQ29
      rw [List.append_nil] at X29
      show GoG _ _ _ _ _ (mkF m 63 #[.val (.int xx), .val (.int yy), .val (.ref sl), .val (.ref su), .val (.int c32), .val (.int d32), .val (.int (valV c32)), .unset, .unset, .unset] [(.int ((uppL.getD vi 0) &&& (255 : Int32))), (.int c32)])
      refine Go.back (f' := (mkF m 66 #[.val (.int xx), .val (.int yy), .val (.ref sl), .val (.ref su), .val (.int c32), .val (.int d32), .val (.int (valV c32)), .unset, .unset, .unset] [])) (fun _ k => XS.icmpNo X29.here hx rfl (hb hby at_63) rfl (teq ((hor.resolve_left (fun q => h4 q.symm)).symm)).2 k) ?_
      refine Go.back (f' := (mkF m 67 #[.val (.int xx), .val (.int yy), .val (.ref sl), .val (.ref su), .val (.int c32), .val (.int d32), .val (.int (valV c32)), .unset, .unset, .unset] [(.int (1 : Int32))])) (fun _ k => XS.iconst X29.here hx rfl (hb hby at_66) k) ?_
      refine Go.back (f' := (mkF m 71 #[.val (.int xx), .val (.int yy), .val (.ref sl), .val (.ref su), .val (.int c32), .val (.int d32), .val (.int (valV c32)), .unset, .unset, .unset] [(.int (1 : Int32))])) (fun _ k => XS.goto X29.here hx rfl (pc0 := 67) (pc' := 71) rfl (hb hby at_67) (by decide) (by decide) k) ?_
      refine Go.back (f' := (mkF m 73 #[.val (.int xx), .val (.int yy), .val (.ref sl), .val (.ref su), .val (.int c32), .val (.int d32), .val (.int (valV c32)), .val (.int (1 : Int32)), .unset, .unset] [])) (fun _ k => XS.istore X29.here hx rfl (hb hby at_71) rfl (l' := #[.val (.int xx), .val (.int yy), .val (.ref sl), .val (.ref su), .val (.int c32), .val (.int d32), .val (.int (valV c32)), .val (.int (1 : Int32)), .unset, .unset]) rfl k) ?_
      refine Go.back (f' := (mkF m 74 #[.val (.int xx), .val (.int yy), .val (.ref sl), .val (.ref su), .val (.int c32), .val (.int d32), .val (.int (valV c32)), .val (.int (1 : Int32)), .unset, .unset] [(.ref sl)])) (fun _ k => XS.aloadN X29.here hx rfl (hb hby at_73) rfl rfl k) ?_
      refine Go.back (f' := (mkF m 76 #[.val (.int xx), .val (.int yy), .val (.ref sl), .val (.ref su), .val (.int c32), .val (.int d32), .val (.int (valV c32)), .val (.int (1 : Int32)), .unset, .unset] [(.int d32), (.ref sl)])) (fun _ k => XS.iload X29.here hx rfl (hb hby at_74) rfl k) ?_
      refine Go.callV X29 hx hZ hown (hw _ (List.mem_of_getElem? (i := 14) rfl)) (hw _ (List.mem_of_getElem? (i := 15) rfl)) (hw _ (List.mem_of_getElem? (i := 17) rfl)) (hw _ (List.mem_of_getElem? (i := 16) rfl)) (hw _ (List.mem_of_getElem? (i := 1) rfl)) (hw _ (List.mem_of_getElem? (i := 18) rfl)) (by decide) hh29 Ex_15 (argsL := [(.int d32)]) (rest := []) (rmCh l Z a0 hw sl bl d32 cz fv lowL di h12 St_13 hcz St_14 hfv hfc Ex_15 Fl_16 Fl_17 Ar_18 hdi d16) (lenOf pd_5 rfl) rfl (by rw [hml]; rfl) (W := 0) (Nat.le_of_eq rfl) (hb hby at_76) (by decide) (by decide) (by decide) (by decide) ?_
      intro v30 T30 L30 X30 hQ30
      obtain ⟨rfl, rfl, hh30⟩ := hQ30
      rw [List.append_nil] at X30
      show GoG _ _ _ _ _ (mkF m 79 #[.val (.int xx), .val (.int yy), .val (.ref sl), .val (.ref su), .val (.int c32), .val (.int d32), .val (.int (valV c32)), .val (.int (1 : Int32)), .unset, .unset] [(.int ((lowL.getD di 0) &&& (255 : Int32)))])
      refine Go.callS X30 hx hZ hown (hw _ (List.mem_of_getElem? (i := 10) rfl)) (hw _ (List.mem_of_getElem? (i := 11) rfl)) (hw _ (List.mem_of_getElem? (i := 12) rfl)) (hw _ (List.mem_of_getElem? (i := 13) rfl)) (by decide) hh30 (argsL := [(.int ((lowL.getD di 0) &&& (255 : Int32)))]) (rest := []) (rmVal l Z a0 hw ((lowL.getD di 0) &&& (255 : Int32)) h12) (lenOf pd_4 rfl) rfl (by rw [hml]; rfl) (W := 0) (Nat.le_of_eq rfl) (hb hby at_79) (by decide) (by decide) (by decide) (by decide) ?_
      intro v31 T31 L31 X31 hQ31
      obtain ⟨rfl, rfl, hh31⟩ := hQ31
      rw [List.append_nil] at X31
      show GoG _ _ _ _ _ (mkF m 82 #[.val (.int xx), .val (.int yy), .val (.ref sl), .val (.ref su), .val (.int c32), .val (.int d32), .val (.int (valV c32)), .val (.int (1 : Int32)), .unset, .unset] [(.int (valV ((lowL.getD di 0) &&& (255 : Int32))))])
      refine Go.back (f' := (mkF m 84 #[.val (.int xx), .val (.int yy), .val (.ref sl), .val (.ref su), .val (.int c32), .val (.int d32), .val (.int (valV c32)), .val (.int (1 : Int32)), .unset, .unset] [(.int d32), (.int (valV ((lowL.getD di 0) &&& (255 : Int32))))])) (fun _ k => XS.iload X31.here hx rfl (hb hby at_82) rfl k) ?_
      refine Go.back (f' := (mkF m 87 #[.val (.int xx), .val (.int yy), .val (.ref sl), .val (.ref su), .val (.int c32), .val (.int d32), .val (.int (valV c32)), .val (.int (1 : Int32)), .unset, .unset] [])) (fun _ k => XS.icmpNo X31.here hx rfl (hb hby at_84) rfl (teq (Int32.toInt_inj.mp ((low_at ⟨di, d16⟩).2.trans hdi.symm))).2 k) ?_
      refine Go.back (f' := (mkF m 88 #[.val (.int xx), .val (.int yy), .val (.ref sl), .val (.ref su), .val (.int c32), .val (.int d32), .val (.int (valV c32)), .val (.int (1 : Int32)), .unset, .unset] [(.int (1 : Int32))])) (fun _ k => XS.iconst X31.here hx rfl (hb hby at_87) k) ?_
      refine Go.back (f' := (mkF m 92 #[.val (.int xx), .val (.int yy), .val (.ref sl), .val (.ref su), .val (.int c32), .val (.int d32), .val (.int (valV c32)), .val (.int (1 : Int32)), .unset, .unset] [(.int (1 : Int32))])) (fun _ k => XS.goto X31.here hx rfl (pc0 := 88) (pc' := 92) rfl (hb hby at_88) (by decide) (by decide) k) ?_
      refine Go.back (f' := (mkF m 94 #[.val (.int xx), .val (.int yy), .val (.ref sl), .val (.ref su), .val (.int c32), .val (.int d32), .val (.int (valV c32)), .val (.int (1 : Int32)), .val (.int (1 : Int32)), .unset] [])) (fun _ k => XS.istore X31.here hx rfl (hb hby at_92) rfl (l' := #[.val (.int xx), .val (.int yy), .val (.ref sl), .val (.ref su), .val (.int c32), .val (.int d32), .val (.int (valV c32)), .val (.int (1 : Int32)), .val (.int (1 : Int32)), .unset]) rfl k) ?_
      refine Go.back (f' := (mkF m 95 #[.val (.int xx), .val (.int yy), .val (.ref sl), .val (.ref su), .val (.int c32), .val (.int d32), .val (.int (valV c32)), .val (.int (1 : Int32)), .val (.int (1 : Int32)), .unset] [(.ref su)])) (fun _ k => XS.aloadN X31.here hx rfl (hb hby at_94) rfl rfl k) ?_
      refine Go.back (f' := (mkF m 97 #[.val (.int xx), .val (.int yy), .val (.ref sl), .val (.ref su), .val (.int c32), .val (.int d32), .val (.int (valV c32)), .val (.int (1 : Int32)), .val (.int (1 : Int32)), .unset] [(.int d32), (.ref su)])) (fun _ k => XS.iload X31.here hx rfl (hb hby at_95) rfl k) ?_
      refine Go.callV X31 hx hZ hown (hw _ (List.mem_of_getElem? (i := 14) rfl)) (hw _ (List.mem_of_getElem? (i := 15) rfl)) (hw _ (List.mem_of_getElem? (i := 17) rfl)) (hw _ (List.mem_of_getElem? (i := 16) rfl)) (hw _ (List.mem_of_getElem? (i := 1) rfl)) (hw _ (List.mem_of_getElem? (i := 18) rfl)) (by decide) hh31 Ex12 (argsL := [(.int d32)]) (rest := []) (rmCh l Z a0 hw su bu d32 cz fv uppL di h12 St_13 hcz St_14 hfv hfc Ex12 Fc12 Fv12 V12 hdi d16) (lenOf pd_5 rfl) rfl (by rw [hml]; rfl) (W := 0) (Nat.le_of_eq rfl) (hb hby at_97) (by decide) (by decide) (by decide) (by decide) ?_
      intro v32 T32 L32 X32 hQ32
      obtain ⟨rfl, rfl, hh32⟩ := hQ32
      rw [List.append_nil] at X32
      show GoG _ _ _ _ _ (mkF m 100 #[.val (.int xx), .val (.int yy), .val (.ref sl), .val (.ref su), .val (.int c32), .val (.int d32), .val (.int (valV c32)), .val (.int (1 : Int32)), .val (.int (1 : Int32)), .unset] [(.int ((uppL.getD di 0) &&& (255 : Int32)))])
      refine Go.callS X32 hx hZ hown (hw _ (List.mem_of_getElem? (i := 10) rfl)) (hw _ (List.mem_of_getElem? (i := 11) rfl)) (hw _ (List.mem_of_getElem? (i := 12) rfl)) (hw _ (List.mem_of_getElem? (i := 13) rfl)) (by decide) hh32 (argsL := [(.int ((uppL.getD di 0) &&& (255 : Int32)))]) (rest := []) (rmVal l Z a0 hw ((uppL.getD di 0) &&& (255 : Int32)) h12) (lenOf pd_4 rfl) rfl (by rw [hml]; rfl) (W := 0) (Nat.le_of_eq rfl) (hb hby at_100) (by decide) (by decide) (by decide) (by decide) ?_
      intro v33 T33 L33 X33 hQ33
      obtain ⟨rfl, rfl, hh33⟩ := hQ33
      rw [List.append_nil] at X33
      show GoG _ _ _ _ _ (mkF m 103 #[.val (.int xx), .val (.int yy), .val (.ref sl), .val (.ref su), .val (.int c32), .val (.int d32), .val (.int (valV c32)), .val (.int (1 : Int32)), .val (.int (1 : Int32)), .unset] [(.int (valV ((uppL.getD di 0) &&& (255 : Int32))))])
      refine Go.back (f' := (mkF m 105 #[.val (.int xx), .val (.int yy), .val (.ref sl), .val (.ref su), .val (.int c32), .val (.int d32), .val (.int (valV c32)), .val (.int (1 : Int32)), .val (.int (1 : Int32)), .unset] [(.int d32), (.int (valV ((uppL.getD di 0) &&& (255 : Int32))))])) (fun _ k => XS.iload X33.here hx rfl (hb hby at_103) rfl k) ?_
      refine Go.back (f' := (mkF m 108 #[.val (.int xx), .val (.int yy), .val (.ref sl), .val (.ref su), .val (.int c32), .val (.int d32), .val (.int (valV c32)), .val (.int (1 : Int32)), .val (.int (1 : Int32)), .unset] [])) (fun _ k => XS.icmpNo X33.here hx rfl (hb hby at_105) rfl (teq (Int32.toInt_inj.mp ((upp_at ⟨di, d16⟩).2.trans hdi.symm))).2 k) ?_
      refine Go.back (f' := (mkF m 109 #[.val (.int xx), .val (.int yy), .val (.ref sl), .val (.ref su), .val (.int c32), .val (.int d32), .val (.int (valV c32)), .val (.int (1 : Int32)), .val (.int (1 : Int32)), .unset] [(.int (1 : Int32))])) (fun _ k => XS.iconst X33.here hx rfl (hb hby at_108) k) ?_
      refine Go.back (f' := (mkF m 113 #[.val (.int xx), .val (.int yy), .val (.ref sl), .val (.ref su), .val (.int c32), .val (.int d32), .val (.int (valV c32)), .val (.int (1 : Int32)), .val (.int (1 : Int32)), .unset] [(.int (1 : Int32))])) (fun _ k => XS.goto X33.here hx rfl (pc0 := 109) (pc' := 113) rfl (hb hby at_109) (by decide) (by decide) k) ?_
      refine Go.back (f' := (mkF m 115 #[.val (.int xx), .val (.int yy), .val (.ref sl), .val (.ref su), .val (.int c32), .val (.int d32), .val (.int (valV c32)), .val (.int (1 : Int32)), .val (.int (1 : Int32)), .val (.int (1 : Int32))] [])) (fun _ k => XS.istore X33.here hx rfl (hb hby at_113) rfl (l' := #[.val (.int xx), .val (.int yy), .val (.ref sl), .val (.ref su), .val (.int c32), .val (.int d32), .val (.int (valV c32)), .val (.int (1 : Int32)), .val (.int (1 : Int32)), .val (.int (1 : Int32))]) rfl k) ?_
      refine Go.back (f' := (mkF m 117 #[.val (.int xx), .val (.int yy), .val (.ref sl), .val (.ref su), .val (.int c32), .val (.int d32), .val (.int (valV c32)), .val (.int (1 : Int32)), .val (.int (1 : Int32)), .val (.int (1 : Int32))] [(.int (1 : Int32))])) (fun _ k => XS.iload X33.here hx rfl (hb hby at_115) rfl k) ?_
      refine Go.back (f' := (mkF m 120 #[.val (.int xx), .val (.int yy), .val (.ref sl), .val (.ref su), .val (.int c32), .val (.int d32), .val (.int (valV c32)), .val (.int (1 : Int32)), .val (.int (1 : Int32)), .val (.int (1 : Int32))] [])) (fun _ k => XS.ifNo X33.here hx rfl (hb hby at_117) rfl ((if0 _ _).trans (feq (by decide)).1) k) ?_
      refine Go.back (f' := (mkF m 122 #[.val (.int xx), .val (.int yy), .val (.ref sl), .val (.ref su), .val (.int c32), .val (.int d32), .val (.int (valV c32)), .val (.int (1 : Int32)), .val (.int (1 : Int32)), .val (.int (1 : Int32))] [(.int (1 : Int32))])) (fun _ k => XS.iload X33.here hx rfl (hb hby at_120) rfl k) ?_
      refine Go.back (f' := (mkF m 125 #[.val (.int xx), .val (.int yy), .val (.ref sl), .val (.ref su), .val (.int c32), .val (.int d32), .val (.int (valV c32)), .val (.int (1 : Int32)), .val (.int (1 : Int32)), .val (.int (1 : Int32))] [])) (fun _ k => XS.ifNo X33.here hx rfl (hb hby at_122) rfl ((if0 _ _).trans (feq (by decide)).1) k) ?_
      refine Go.back (f' := (mkF m 127 #[.val (.int xx), .val (.int yy), .val (.ref sl), .val (.ref su), .val (.int c32), .val (.int d32), .val (.int (valV c32)), .val (.int (1 : Int32)), .val (.int (1 : Int32)), .val (.int (1 : Int32))] [(.int (1 : Int32))])) (fun _ k => XS.iload X33.here hx rfl (hb hby at_125) rfl k) ?_
      refine Go.back (f' := (mkF m 130 #[.val (.int xx), .val (.int yy), .val (.ref sl), .val (.ref su), .val (.int c32), .val (.int d32), .val (.int (valV c32)), .val (.int (1 : Int32)), .val (.int (1 : Int32)), .val (.int (1 : Int32))] [])) (fun _ k => XS.ifNo X33.here hx rfl (hb hby at_127) rfl ((if0 _ _).trans (feq (by decide)).1) k) ?_
      refine Go.back (f' := (mkF m 131 #[.val (.int xx), .val (.int yy), .val (.ref sl), .val (.ref su), .val (.int c32), .val (.int d32), .val (.int (valV c32)), .val (.int (1 : Int32)), .val (.int (1 : Int32)), .val (.int (1 : Int32))] [(.int (1 : Int32))])) (fun _ k => XS.iconst X33.here hx rfl (hb hby at_130) k) ?_
      refine Go.back (f' := (mkF m 135 #[.val (.int xx), .val (.int yy), .val (.ref sl), .val (.ref su), .val (.int c32), .val (.int d32), .val (.int (valV c32)), .val (.int (1 : Int32)), .val (.int (1 : Int32)), .val (.int (1 : Int32))] [(.int (1 : Int32))])) (fun _ k => XS.goto X33.here hx rfl (pc0 := 131) (pc' := 135) rfl (hb hby at_131) (by decide) (by decide) k) ?_
      exact GoW.retN X33 hx hS (by rw [hh33]; exact hk) (t := .boolean) hret (by simp) (w := (1 : Int32)) rfl hlk (hb hby at_135) (by (try rw [hh33]); exact ⟨rfl, Fr.nil _⟩) (by decide) (by decide)
set_option maxRecDepth 65536 in
set_option maxHeartbeats 40000000 in
theorem comes_1 {Post : Tables → Env → Array Value → State → Outcome → State → Prop} (hpost : ∀ tb e args s v u, (limb_1_1.after args s (.returned v) u = true ∧ limb_1_2.after args s (.returned v) u = true ∧ True) → ReturnedEndW s (.returned v) u (Jvm.fieldLocs frame_1_writes args s ++ Jvm.arrayLocs frame_1_arrays args s ++ Jvm.staticLocs frame_1_statics s) 8 2112 → Post tb e args s (.returned v) u) :
    ArmFor flags0 classFile x code maxLocals ret World_1 tables_1 room_1 Calls_1 rest_1 Pre_1 Post := by
  intro l hfl _ _ p e ha hc hk s m args below hf hA hF happ hP
  obtain ⟨hcalls, hrest, hpre⟩ := hP
  obtain ⟨-, -, -, hnamed, -, -, -, hat⟩ := (Spec.applies_iff hf).mp happ
  obtain ⟨hg, hn⟩ := and_e (Cond.before_iff.mp (show (Jvm.Cond.and given_1 narrow_1).before args s = true from hpre))
  obtain ⟨hcnt, hg0⟩ := and_e hg
  obtain ⟨ht0, hg1⟩ := and_e hg0
  have ht1 := hg1
  obtain ⟨w0, w1, rfl⟩ : ∃ w0 w1 : Value, args = #[w0, w1] := by
    have hs : args.size = 2 := by simpa [Cond.value, given_1] using hcnt
    obtain ⟨L⟩ := args
    match L, hs with
    | [w0, w1], _ => exact ⟨w0, w1, rfl⟩
  have hw := fun d (hd : d ∈ tables_1) => atoms_spec (ws := Jvm.Cond.code x code maxLocals ret :: tables_1) hat d (List.mem_cons_of_mem _ hd)
  have hfit : Fit s := fun {y c} hc i hi => by
    obtain ⟨ha, rfl⟩ := Array.getElem?_eq_some_iff.mp hc
    have q := List.all_eq_true.mp ((Array.all_eq_true_iff_forall_mem.mp hF) _ (Array.getElem_mem ha)) i (List.mem_range.mpr hi)
    simpa [Array.getElem?_eq_getElem hi] using q
  obtain ⟨i0, ei0⟩ := is_v ht0
  obtain rfl : w0 = (.int i0) := Option.some.inj ei0
  obtain ⟨i1, ei1⟩ := is_v ht1
  obtain rfl : w1 = (.int i1) := Option.some.inj ei1
  obtain ⟨hsets, hown0⟩ := atoms_of _ (rest_1_c_eq ▸ (show rest_1_c.before _ s = true from hrest))
  obtain ⟨cz, ecz⟩ := is_v (Cond.before_iff.mp (hsets _ (List.mem_of_getElem? (i := 1) rfl)))
  have SC : Sta s s.heap "java/lang/String" "COMPACT_STRINGS" "Z" (.int cz) := Sta.start ecz (Or.inl (hsets _ (List.mem_of_getElem? (i := 0) rfl)))
  have hcz : ¬ cz = 0 := fun q => by
    have := not_v (Cond.before_iff.mp (hsets _ (List.mem_of_getElem? (i := 2) rfl)))
    rw [eq_i ecz (Term.int_eval 0) (by rw [q])] at this; cases this
  obtain ⟨fv, efv, hfv⟩ := isR_v (Cond.before_iff.mp (hsets _ (List.mem_of_getElem? (i := 8) rfl)))
  have SF : Sta s s.heap "jdk/internal/util/Preconditions" "SIOOBE_FORMATTER" "Ljava/util/function/BiFunction;" fv := Sta.start efv (Or.inl (hsets _ (List.mem_of_getElem? (i := 7) rfl)))
  have hfc : fv.category = 1 := by rcases ref_cases hfv with rfl | ⟨_, rfl⟩ <;> rfl
  have hEL : EW s _ EL := EW.cons (hw _ (List.mem_of_getElem? (i := 0) rfl)) (by decide +kernel) (EW.cons (hw _ (List.mem_of_getElem? (i := 8) rfl)) (by decide +kernel) EW.nil)
  have HC0 : CHv s EL s.vm s.heap := CHv.start hEL (fun p hp => hcalls.1 p hp) (hsets _ (List.mem_of_getElem? (i := 2) rfl)) (hw _ (List.mem_of_getElem? (i := 3) rfl)) (hw _ (List.mem_of_getElem? (i := 2) rfl))
  obtain ⟨n, o, h1, h2, h3, _, L, rfl, ⟨rfl, N⟩, hq⟩ := (rm0 l s _ hw i0 i1 cz fv SC hcz SF hfv hfc hEL HC0) tables_1 p e ha hc hk s m _ below hf ((Spec.applies_iff_loose hf).mp happ).1 ⟨rfl, rfl⟩ trivial
  refine ⟨n, _, h1, h2, h3, hpost _ _ _ _ _ _ ⟨Cond.after_iff.mpr rfl, Cond.after_iff.mpr (eq_i res_at (Term.int_eval (1)) rfl), trivial⟩ ⟨hq.1, hq.2.1, hq.2.2.1, (hq.2.2.2.sift fun y hy => Or.inr (N y hy)).mono (by decide) (by decide)⟩⟩
theorem main_1_1 : Claimed_1_1 := comes_1 fun _ _ _ _ _ _ h hF => ⟨h.1, hF⟩
theorem main_1_2 : Claimed_1_2 := comes_1 fun _ _ _ _ _ _ h hF => ⟨h.2.1, hF⟩
end Jvm.Pilot.@@N@@
namespace Jvm.Pilot.@@N@@
open Jvm Jvm.ClassFile Sem Op Lib Jvm.Free Jvm.Stand Jvm.Pilot.@@N@@.Jvm.D
/-! MADE BY PROGRAM (witnessworld.py) out of the Statement's table words and the real class files: 15 classes; the members and pool entries that the words name. The judged class is class 1, her method 1. -/
namespace start1
open Jvm.ClassFile
def u (s : String) : CpInfo := .utf8 (stringToUtf16 s)
/-- a pool by its gaps: so many unusable entries, then the entry; so many at the end -/
def gap : Nat → List CpInfo → List CpInfo
  | 0, r => r
  | n + 1, r => .unusable :: gap n r
def poolList (es : List (Nat × CpInfo)) (last : Nat) : List CpInfo := es.foldr (fun e r => gap e.1 (e.2 :: r)) (gap last [])
def pool (es : List (Nat × CpInfo)) (last : Nat) : Array CpInfo := ⟨poolList es last⟩
def fileOf (pool : Array CpInfo) (this : Nat) (attrs : Array Attribute := #[]) (ms : Array MethodInfo := #[]) (fl : Nat := 33) (sup : Nat := 0) (ifs : Array Nat := #[]) (fds : Array FieldInfo := #[]) : ClassFile where
  minorVersion := 0
  majorVersion := 65
  constantPool := pool
  accessFlags := fl
  thisClass := this
  superClass := sup
  interfaces := ifs
  fields := fds
  methods := ms
  attributes := attrs
def plain (name : String) (sup : Option ClassId) : Class where
  name := name
  kind := .ordinary
  loader := none
  accessFlags := 33
  super := sup
  interfaces := #[]
  cf := none
  fields := #[]
  methods := #[]
  instanceTypes := #[]
  staticTypes := #[]
  resolved := #[]
  callSites := []
  init := .initialized
  statics := none
  mirror := none

def pool0 : Array CpInfo := pool [(5, u "<init>"), (0, u "()V"), (1, .class_ 10), (1, u "java/lang/Object")] 113

def k0m0 : Method := { name := "<init>", desc := "()V", sig := { parameters := [], returnType := none }, accessFlags := 1, code := none }
/-- java/lang/Object -/
def k0 : Class := { plain "java/lang/Object" none with
  accessFlags := 33
  interfaces := #[]
  cf := some (fileOf pool0 8 #[] #[{ accessFlags := 1, nameIndex := 5, descriptorIndex := 6, attributes := #[] }] 33 0 #[] #[])
  fields := #[]
  methods := #[k0m0]
  instanceTypes := #[]
  staticTypes := #[]
  resolved := Array.replicate 124 none
  statics := none }

def pool1 : Array CpInfo := pool [(2, .class_ 4), (1, u "java/lang/Object"), (0, u "<init>"), (0, u "()V"), (0, .string 8), (0, u "0123456789abcdef"), (0, .string 10), (0, u "0123456789ABCDEF"), (0, .integer 65535), (0, .methodref 13 14), (0, .class_ 15), (0, .nameAndType 16 17), (0, u "com/example/firethorn/firethorn/AsciiDigits"), (0, u "value"), (0, u "(C)I"), (0, .methodref 19 20), (0, .class_ 21), (0, .nameAndType 22 23), (0, u "java/lang/String"), (0, u "charAt"), (0, u "(I)C"), (0, .class_ 25), (0, u "com/example/firethorn/firethorn/AsciiDigitsValuePinLaw"), (2, u "law"), (0, u "(II)Z")] 3

def k1m0 : Method := { name := "<init>", desc := "()V", sig := { parameters := [], returnType := none }, accessFlags := 2, code := none }
def k1c1 : Code := { maxStack := 3, maxLocals := 10, code := code, exceptionTable := #[], attributes := #[] }
def k1m1 : Method := { name := "law", desc := "(II)Z", sig := { parameters := [.int, .int], returnType := some .boolean }, accessFlags := 9, code := some k1c1 }
/-- com/example/firethorn/firethorn/AsciiDigitsValuePinLaw -/
def k1 : Class := { plain "com/example/firethorn/firethorn/AsciiDigitsValuePinLaw" (some 0) with
  accessFlags := 49
  interfaces := #[]
  cf := some (fileOf pool1 24 #[] #[{ accessFlags := 2, nameIndex := 5, descriptorIndex := 6, attributes := #[] }, { accessFlags := 9, nameIndex := 28, descriptorIndex := 29, attributes := #[] }] 49 2 #[] #[])
  fields := #[]
  methods := #[k1m0, k1m1]
  instanceTypes := #[]
  staticTypes := #[]
  resolved := Array.replicate 33 none
  statics := none }

def pool2 : Array CpInfo := pool [(1, .class_ 2), (0, u "java/io/Serializable"), (0, .class_ 4), (0, u "java/lang/Object")] 2

/-- java/io/Serializable -/
def k2 : Class := { plain "java/io/Serializable" (some 0) with
  accessFlags := 1537
  interfaces := #[]
  cf := some (fileOf pool2 1 #[] #[] 1537 3 #[] #[])
  fields := #[]
  methods := #[]
  instanceTypes := #[]
  staticTypes := #[]
  resolved := Array.replicate 7 none
  statics := none }

def pool3 : Array CpInfo := pool [(1, .class_ 2), (0, u "java/lang/Comparable"), (0, .class_ 4), (0, u "java/lang/Object")] 7

/-- java/lang/Comparable -/
def k3 : Class := { plain "java/lang/Comparable" (some 0) with
  accessFlags := 1537
  interfaces := #[]
  cf := some (fileOf pool3 1 #[] #[] 1537 3 #[] #[])
  fields := #[]
  methods := #[]
  instanceTypes := #[]
  staticTypes := #[]
  resolved := Array.replicate 12 none
  statics := none }

def pool4 : Array CpInfo := pool [(2, .class_ 4), (1, u "java/lang/CharSequence"), (42, .class_ 48), (0, u "java/lang/CharSequence$1CodePointIterator"), (10, .class_ 60), (0, u "java/lang/CharSequence$1CharIterator"), (5, .class_ 67), (0, u "java/lang/Object")] 63

/-- java/lang/CharSequence -/
def k4 : Class := { plain "java/lang/CharSequence" (some 0) with
  accessFlags := 1537
  interfaces := #[]
  cf := some (fileOf pool4 2 #[.nestMembers #[47, 59]] #[] 1537 66 #[] #[])
  fields := #[]
  methods := #[]
  instanceTypes := #[]
  staticTypes := #[]
  resolved := Array.replicate 131 none
  statics := none }

def pool5 : Array CpInfo := pool [(1, .class_ 2), (0, u "java/lang/constant/Constable"), (0, .class_ 4), (0, u "java/lang/Object")] 6

/-- java/lang/constant/Constable -/
def k5 : Class := { plain "java/lang/constant/Constable" (some 0) with
  accessFlags := 1537
  interfaces := #[]
  cf := some (fileOf pool5 1 #[] #[] 1537 3 #[] #[])
  fields := #[]
  methods := #[]
  instanceTypes := #[]
  staticTypes := #[]
  resolved := Array.replicate 11 none
  statics := none }

def pool6 : Array CpInfo := pool [(1, .class_ 2), (0, u "java/lang/constant/ConstantDesc"), (0, .class_ 4), (0, u "java/lang/Object")] 32

/-- java/lang/constant/ConstantDesc -/
def k6 : Class := { plain "java/lang/constant/ConstantDesc" (some 0) with
  accessFlags := 1537
  interfaces := #[]
  cf := some (fileOf pool6 1 #[] #[] 1537 3 #[] #[])
  fields := #[]
  methods := #[]
  instanceTypes := #[]
  staticTypes := #[]
  resolved := Array.replicate 37 none
  statics := none }

def pool7 : Array CpInfo := pool [(2, .class_ 4), (1, u "java/lang/Object"), (0, u "<init>"), (0, u "()V"), (2, .fieldref 10 11), (0, .class_ 12), (0, .nameAndType 13 14), (0, u "java/lang/String"), (0, u "value"), (0, u "[B"), (0, .fieldref 10 16), (0, .nameAndType 17 18), (0, u "coder"), (0, u "B"), (2, u "hash"), (0, u "I"), (2, u "hashIsZero"), (0, u "Z"), (11, .fieldref 10 39), (0, .nameAndType 40 26), (0, u "COMPACT_STRINGS"), (66, .class_ 109), (1, u "java/lang/StringLatin1"), (32, u "()Z"), (220, u "([BI)C"), (27, u "(II)V"), (35, u "(I)C"), (64, .methodref 10 493), (0, .nameAndType 494 142), (0, u "isLatin1"), (0, .methodref 107 496), (0, .nameAndType 497 363), (0, u "charAt"), (3, u "checkIndex"), (73, .class_ 576), (0, u "java/lang/CharSequence"), (22, u "CASE_INSENSITIVE_ORDER"), (0, u "Ljava/util/Comparator;"), (452, .fieldref 1054 1055), (0, .class_ 1056), (0, .nameAndType 1057 1058), (0, u "jdk/internal/util/Preconditions"), (0, u "SIOOBE_FORMATTER"), (0, u "Ljava/util/function/BiFunction;"), (0, .methodref 1054 1060), (0, .nameAndType 501 1061), (0, u "(IILjava/util/function/BiFunction;)I"), (39, u "serialPersistentFields"), (0, u "[Ljava/io/ObjectStreamField;"), (0, .class_ 1104), (0, u "java/lang/String$CaseInsensitiveComparator"), (1, .class_ 1107), (0, u "java/io/Serializable"), (0, .class_ 1109), (0, u "java/lang/Comparable"), (0, .class_ 1111), (0, u "java/lang/constant/Constable"), (0, .class_ 1113), (0, u "java/lang/constant/ConstantDesc"), (2, u "serialVersionUID"), (0, u "J"), (3, u "REPL"), (0, u "C"), (2, u "LATIN1"), (1, u "UTF16")] 323

def k7m0 : Method := { name := "<init>", desc := "()V", sig := { parameters := [], returnType := none }, accessFlags := 1, code := none }
def k7c1 : Code := { maxStack := 2, maxLocals := 2, code := jdk_42_method_56_code, exceptionTable := #[], attributes := #[] }
def k7m1 : Method := { name := "charAt", desc := "(I)C", sig := { parameters := [.int], returnType := some .char }, accessFlags := 1, code := some k7c1 }
def k7c2 : Code := { maxStack := 1, maxLocals := 1, code := jdk_42_method_154_code, exceptionTable := #[], attributes := #[] }
def k7m2 : Method := { name := "isLatin1", desc := "()Z", sig := { parameters := [], returnType := some .boolean }, accessFlags := 0, code := some k7c2 }
def k7c3 : Code := { maxStack := 3, maxLocals := 2, code := jdk_42_method_155_code, exceptionTable := #[], attributes := #[] }
def k7m3 : Method := { name := "checkIndex", desc := "(II)V", sig := { parameters := [.int, .int], returnType := none }, accessFlags := 8, code := some k7c3 }
/-- java/lang/String -/
def k7 : Class := { plain "java/lang/String" (some 0) with
  accessFlags := 49
  interfaces := #[2, 3, 4, 5, 6]
  cf := some (fileOf pool7 10 #[.nestMembers #[1103]] #[{ accessFlags := 1, nameIndex := 5, descriptorIndex := 6, attributes := #[] }, { accessFlags := 1, nameIndex := 497, descriptorIndex := 427, attributes := #[] }, { accessFlags := 0, nameIndex := 494, descriptorIndex := 142, attributes := #[] }, { accessFlags := 8, nameIndex := 501, descriptorIndex := 391, attributes := #[] }] 49 2 #[1106, 1108, 575, 1110, 1112] #[{ accessFlags := 18, nameIndex := 13, descriptorIndex := 14, attributes := #[] }, { accessFlags := 18, nameIndex := 17, descriptorIndex := 18, attributes := #[] }, { accessFlags := 2, nameIndex := 21, descriptorIndex := 22, attributes := #[] }, { accessFlags := 2, nameIndex := 25, descriptorIndex := 26, attributes := #[] }, { accessFlags := 26, nameIndex := 1116, descriptorIndex := 1117, attributes := #[] }, { accessFlags := 24, nameIndex := 40, descriptorIndex := 26, attributes := #[] }, { accessFlags := 26, nameIndex := 1101, descriptorIndex := 1102, attributes := #[] }, { accessFlags := 26, nameIndex := 1121, descriptorIndex := 1122, attributes := #[] }, { accessFlags := 25, nameIndex := 599, descriptorIndex := 600, attributes := #[] }, { accessFlags := 24, nameIndex := 1125, descriptorIndex := 18, attributes := #[] }, { accessFlags := 24, nameIndex := 1127, descriptorIndex := 18, attributes := #[] }])
  fields := #[{ name := "value", type := (.array .byte), accessFlags := 18, slot := 0, constantValue := 0 }, { name := "coder", type := .byte, accessFlags := 18, slot := 1, constantValue := 0 }, { name := "hash", type := .int, accessFlags := 2, slot := 2, constantValue := 0 }, { name := "hashIsZero", type := .boolean, accessFlags := 2, slot := 3, constantValue := 0 }, { name := "serialVersionUID", type := .long, accessFlags := 26, slot := 0, constantValue := 0 }, { name := "COMPACT_STRINGS", type := .boolean, accessFlags := 24, slot := 1, constantValue := 0 }, { name := "serialPersistentFields", type := (.array (.object "java/io/ObjectStreamField")), accessFlags := 26, slot := 2, constantValue := 0 }, { name := "REPL", type := .char, accessFlags := 26, slot := 3, constantValue := 0 }, { name := "CASE_INSENSITIVE_ORDER", type := (.object "java/util/Comparator"), accessFlags := 25, slot := 4, constantValue := 0 }, { name := "LATIN1", type := .byte, accessFlags := 24, slot := 5, constantValue := 0 }, { name := "UTF16", type := .byte, accessFlags := 24, slot := 6, constantValue := 0 }]
  methods := #[k7m0, k7m1, k7m2, k7m3]
  instanceTypes := #[(.array .byte), .byte, .int, .boolean]
  staticTypes := #[.long, .boolean, (.array (.object "java/io/ObjectStreamField")), .char, (.object "java/util/Comparator"), .byte, .byte]
  resolved := Array.replicate 1451 none
  statics := some 0 }

def pool8 : Array CpInfo := pool [(2, .class_ 4), (1, u "java/lang/Object"), (0, u "<init>"), (0, u "()V"), (0, .class_ 8), (0, u "com/example/firethorn/firethorn/AsciiDigits"), (2, u "value"), (0, u "(C)I")] 3

def k8m0 : Method := { name := "<init>", desc := "()V", sig := { parameters := [], returnType := none }, accessFlags := 2, code := none }
def k8c1 : Code := { maxStack := 2, maxLocals := 2, code := prog_1_method_2_code, exceptionTable := #[], attributes := #[] }
def k8m1 : Method := { name := "value", desc := "(C)I", sig := { parameters := [.char], returnType := some .int }, accessFlags := 8, code := some k8c1 }
/-- com/example/firethorn/firethorn/AsciiDigits -/
def k8 : Class := { plain "com/example/firethorn/firethorn/AsciiDigits" (some 0) with
  accessFlags := 48
  interfaces := #[]
  cf := some (fileOf pool8 7 #[] #[{ accessFlags := 2, nameIndex := 5, descriptorIndex := 6, attributes := #[] }, { accessFlags := 8, nameIndex := 11, descriptorIndex := 12, attributes := #[] }] 48 2 #[] #[])
  fields := #[]
  methods := #[k8m0, k8m1]
  instanceTypes := #[]
  staticTypes := #[]
  resolved := Array.replicate 16 none
  statics := none }

def pool9 : Array CpInfo := pool [(1, .class_ 2), (0, u "java/lang/String"), (1, .class_ 6), (1, u "java/lang/Object"), (0, u "<init>"), (0, u "()V"), (0, .methodref 1 10), (0, .nameAndType 11 12), (0, u "checkIndex"), (0, u "(II)V"), (1, .class_ 16), (1, u "java/lang/StringLatin1"), (36, u "([BI)C"), (67, u "$assertionsDisabled"), (0, u "Z"), (98, .class_ 223), (1, u "java/lang/StringLatin1$LinesSpliterator"), (28, u "charAt"), (137, .class_ 391), (0, u "java/lang/StringLatin1$CharsSpliterator")] 3

def k9m0 : Method := { name := "<init>", desc := "()V", sig := { parameters := [], returnType := none }, accessFlags := 0, code := none }
def k9c1 : Code := { maxStack := 2, maxLocals := 2, code := jdk_43_method_2_code, exceptionTable := #[], attributes := #[] }
def k9m1 : Method := { name := "charAt", desc := "([BI)C", sig := { parameters := [(.array .byte), .int], returnType := some .char }, accessFlags := 9, code := some k9c1 }
/-- java/lang/StringLatin1 -/
def k9 : Class := { plain "java/lang/StringLatin1" (some 0) with
  accessFlags := 48
  interfaces := #[]
  cf := some (fileOf pool9 14 #[.nestMembers #[390, 221]] #[{ accessFlags := 0, nameIndex := 7, descriptorIndex := 8, attributes := #[] }, { accessFlags := 9, nameIndex := 252, descriptorIndex := 53, attributes := #[] }] 48 4 #[] #[{ accessFlags := 4120, nameIndex := 121, descriptorIndex := 122, attributes := #[] }])
  fields := #[{ name := "$assertionsDisabled", type := .boolean, accessFlags := 4120, slot := 0, constantValue := 0 }]
  methods := #[k9m0, k9m1]
  instanceTypes := #[]
  staticTypes := #[.boolean]
  resolved := Array.replicate 395 none
  statics := none }

def pool10 : Array CpInfo := pool [(2, .class_ 4), (1, u "java/lang/Object"), (0, u "<init>"), (0, u "()V"), (17, .class_ 26), (1, u "jdk/internal/util/Preconditions"), (6, u "checkIndex"), (21, .class_ 56), (0, u "jdk/internal/util/Preconditions$4"), (57, .class_ 115), (0, u "jdk/internal/util/Preconditions$1"), (7, u "SIOOBE_FORMATTER"), (0, u "Ljava/util/function/BiFunction;"), (0, .class_ 126), (0, u "jdk/internal/util/Preconditions$2"), (3, u "AIOOBE_FORMATTER"), (0, .class_ 132), (0, u "jdk/internal/util/Preconditions$3"), (3, u "IOOBE_FORMATTER"), (41, u "(IILjava/util/function/BiFunction;)I")] 15

def k10m0 : Method := { name := "<init>", desc := "()V", sig := { parameters := [], returnType := none }, accessFlags := 1, code := none }
def k10c1 : Code := { maxStack := 3, maxLocals := 3, code := jdk_41_method_11_code, exceptionTable := #[], attributes := #[] }
def k10m1 : Method := { name := "checkIndex", desc := "(IILjava/util/function/BiFunction;)I", sig := { parameters := [.int, .int, (.object "java/util/function/BiFunction")], returnType := some .int }, accessFlags := 9, code := some k10c1 }
/-- jdk/internal/util/Preconditions -/
def k10 : Class := { plain "jdk/internal/util/Preconditions" (some 0) with
  accessFlags := 33
  interfaces := #[]
  cf := some (fileOf pool10 24 #[.nestMembers #[55, 131, 125, 114]] #[{ accessFlags := 1, nameIndex := 5, descriptorIndex := 6, attributes := #[] }, { accessFlags := 9, nameIndex := 33, descriptorIndex := 178, attributes := #[] }] 33 2 #[] #[{ accessFlags := 25, nameIndex := 123, descriptorIndex := 124, attributes := #[] }, { accessFlags := 25, nameIndex := 130, descriptorIndex := 124, attributes := #[] }, { accessFlags := 25, nameIndex := 136, descriptorIndex := 124, attributes := #[] }])
  fields := #[{ name := "SIOOBE_FORMATTER", type := (.object "java/util/function/BiFunction"), accessFlags := 25, slot := 0, constantValue := 0 }, { name := "AIOOBE_FORMATTER", type := (.object "java/util/function/BiFunction"), accessFlags := 25, slot := 1, constantValue := 0 }, { name := "IOOBE_FORMATTER", type := (.object "java/util/function/BiFunction"), accessFlags := 25, slot := 2, constantValue := 0 }]
  methods := #[k10m0, k10m1]
  instanceTypes := #[]
  staticTypes := #[(.object "java/util/function/BiFunction"), (.object "java/util/function/BiFunction"), (.object "java/util/function/BiFunction")]
  resolved := Array.replicate 194 none
  statics := some 1 }

def pool11 : Array CpInfo := pool [(9, u "<init>"), (6, .class_ 18), (1, u "java/lang/Object"), (0, u "()V"), (1, .class_ 23), (1, u "jdk/internal/util/ArraysSupport"), (0, u "LOG2_ARRAY_LONG_INDEX_SCALE"), (0, u "I"), (2, u "U"), (0, u "Ljdk/internal/misc/Unsafe;"), (8, u "BIG_ENDIAN"), (0, u "Z"), (8, u "LOG2_BYTE_BIT_SIZE"), (4, u "LOG2_ARRAY_INT_INDEX_SCALE"), (54, u "JLA"), (0, u "Ljdk/internal/access/JavaLangAccess;"), (11, u "LOG2_ARRAY_BOOLEAN_INDEX_SCALE"), (9, u "LOG2_ARRAY_BYTE_INDEX_SCALE"), (5, u "LOG2_ARRAY_CHAR_INDEX_SCALE"), (5, u "LOG2_ARRAY_SHORT_INDEX_SCALE"), (18, u "LOG2_ARRAY_FLOAT_INDEX_SCALE"), (24, u "LOG2_ARRAY_DOUBLE_INDEX_SCALE"), (89, u "T_BOOLEAN"), (2, u "T_CHAR"), (1, u "T_FLOAT"), (1, u "T_DOUBLE"), (1, u "T_BYTE"), (1, u "T_SHORT"), (1, u "T_INT"), (1, u "T_LONG"), (1, u "SOFT_MAX_ARRAY_LENGTH")] 83

def k11m0 : Method := { name := "<init>", desc := "()V", sig := { parameters := [], returnType := none }, accessFlags := 2, code := none }
/-- jdk/internal/util/ArraysSupport -/
def k11 : Class := { plain "jdk/internal/util/ArraysSupport" (some 0) with
  accessFlags := 33
  interfaces := #[]
  cf := some (fileOf pool11 21 #[] #[{ accessFlags := 2, nameIndex := 9, descriptorIndex := 19, attributes := #[] }] 33 16 #[] #[{ accessFlags := 24, nameIndex := 28, descriptorIndex := 29, attributes := #[] }, { accessFlags := 26, nameIndex := 38, descriptorIndex := 39, attributes := #[] }, { accessFlags := 25, nameIndex := 121, descriptorIndex := 25, attributes := #[] }, { accessFlags := 25, nameIndex := 131, descriptorIndex := 25, attributes := #[] }, { accessFlags := 25, nameIndex := 137, descriptorIndex := 25, attributes := #[] }, { accessFlags := 25, nameIndex := 143, descriptorIndex := 25, attributes := #[] }, { accessFlags := 25, nameIndex := 53, descriptorIndex := 25, attributes := #[] }, { accessFlags := 25, nameIndex := 24, descriptorIndex := 25, attributes := #[] }, { accessFlags := 25, nameIndex := 162, descriptorIndex := 25, attributes := #[] }, { accessFlags := 25, nameIndex := 187, descriptorIndex := 25, attributes := #[] }, { accessFlags := 26, nameIndex := 48, descriptorIndex := 25, attributes := #[] }, { accessFlags := 25, nameIndex := 277, descriptorIndex := 25, attributes := #[] }, { accessFlags := 25, nameIndex := 280, descriptorIndex := 25, attributes := #[] }, { accessFlags := 25, nameIndex := 282, descriptorIndex := 25, attributes := #[] }, { accessFlags := 25, nameIndex := 284, descriptorIndex := 25, attributes := #[] }, { accessFlags := 25, nameIndex := 286, descriptorIndex := 25, attributes := #[] }, { accessFlags := 25, nameIndex := 288, descriptorIndex := 25, attributes := #[] }, { accessFlags := 25, nameIndex := 290, descriptorIndex := 25, attributes := #[] }, { accessFlags := 25, nameIndex := 292, descriptorIndex := 25, attributes := #[] }, { accessFlags := 26, nameIndex := 108, descriptorIndex := 109, attributes := #[] }, { accessFlags := 25, nameIndex := 294, descriptorIndex := 25, attributes := #[] }])
  fields := #[{ name := "U", type := (.object "jdk/internal/misc/Unsafe"), accessFlags := 24, slot := 0, constantValue := 0 }, { name := "BIG_ENDIAN", type := .boolean, accessFlags := 26, slot := 1, constantValue := 0 }, { name := "LOG2_ARRAY_BOOLEAN_INDEX_SCALE", type := .int, accessFlags := 25, slot := 2, constantValue := 0 }, { name := "LOG2_ARRAY_BYTE_INDEX_SCALE", type := .int, accessFlags := 25, slot := 3, constantValue := 0 }, { name := "LOG2_ARRAY_CHAR_INDEX_SCALE", type := .int, accessFlags := 25, slot := 4, constantValue := 0 }, { name := "LOG2_ARRAY_SHORT_INDEX_SCALE", type := .int, accessFlags := 25, slot := 5, constantValue := 0 }, { name := "LOG2_ARRAY_INT_INDEX_SCALE", type := .int, accessFlags := 25, slot := 6, constantValue := 0 }, { name := "LOG2_ARRAY_LONG_INDEX_SCALE", type := .int, accessFlags := 25, slot := 7, constantValue := 0 }, { name := "LOG2_ARRAY_FLOAT_INDEX_SCALE", type := .int, accessFlags := 25, slot := 8, constantValue := 0 }, { name := "LOG2_ARRAY_DOUBLE_INDEX_SCALE", type := .int, accessFlags := 25, slot := 9, constantValue := 0 }, { name := "LOG2_BYTE_BIT_SIZE", type := .int, accessFlags := 26, slot := 10, constantValue := 0 }, { name := "T_BOOLEAN", type := .int, accessFlags := 25, slot := 11, constantValue := 0 }, { name := "T_CHAR", type := .int, accessFlags := 25, slot := 12, constantValue := 0 }, { name := "T_FLOAT", type := .int, accessFlags := 25, slot := 13, constantValue := 0 }, { name := "T_DOUBLE", type := .int, accessFlags := 25, slot := 14, constantValue := 0 }, { name := "T_BYTE", type := .int, accessFlags := 25, slot := 15, constantValue := 0 }, { name := "T_SHORT", type := .int, accessFlags := 25, slot := 16, constantValue := 0 }, { name := "T_INT", type := .int, accessFlags := 25, slot := 17, constantValue := 0 }, { name := "T_LONG", type := .int, accessFlags := 25, slot := 18, constantValue := 0 }, { name := "JLA", type := (.object "jdk/internal/access/JavaLangAccess"), accessFlags := 26, slot := 19, constantValue := 0 }, { name := "SOFT_MAX_ARRAY_LENGTH", type := .int, accessFlags := 25, slot := 20, constantValue := 0 }]
  methods := #[k11m0]
  instanceTypes := #[]
  staticTypes := #[(.object "jdk/internal/misc/Unsafe"), .boolean, .int, .int, .int, .int, .int, .int, .int, .int, .int, .int, .int, .int, .int, .int, .int, .int, .int, (.object "jdk/internal/access/JavaLangAccess"), .int]
  resolved := Array.replicate 378 none
  statics := none }

def pool12 : Array CpInfo := pool [(1, u "java/lang/Cloneable"), (0, .class_ 1), (0, u "java/lang/Object"), (0, .class_ 3)] 3

/-- java/lang/Cloneable -/
def k12 : Class := { plain "java/lang/Cloneable" (some 0) with
  accessFlags := 1537
  interfaces := #[]
  cf := some (fileOf pool12 2 #[] #[] 1537 4 #[] #[])
  fields := #[]
  methods := #[]
  instanceTypes := #[]
  staticTypes := #[]
  resolved := Array.replicate 8 none
  statics := none }

/-- the primitive byte -/
def k13 : Class := { plain "byte" none with kind := .primitive 'B', accessFlags := 0x411 }
/-- [B -/
def k14 : Class := { plain "[B" (some 0) with kind := .array 13 .byte, interfaces := #[12, 2], accessFlags := 1041 }

def heap : Heap := #[{ cls := 7, slots := #[.long 0, .int 1, .null, .int 0, .null, .int 0, .int 0], vm := .statics 7 },
  { cls := 10, slots := #[.null, .null, .null], vm := .statics 10 }]
def classes : Array Class := #[k0, k1, k2, k3, k4, k5, k6, k7, k8, k9, k10, k11, k12, k13, k14]
def interned : List (Array UInt16 × Addr) := []
def slotsUsed : Nat := 10
def theMethod : MethodId := ⟨1, 1⟩
def args0 : Array Value := #[.int 1, .int 2]
def aboutOver (below : List Frame) : State where
  vm := { classes := classes, interned := interned.toArray }
  heap := heap
  slotsUsed := slotsUsed
  threads := #[{ frames := .invoking theMethod args0 :: below }]
def below0 : List Frame := [.native { method := ⟨0, 0⟩, args := #[] }]
def about1 : State := aboutOver below0
def p0 : Program := .bare "" "" ""
def e0 : Env := launch0.env 0 0 0
theorem w_frames : about1.frames = Frame.invoking theMethod args0 :: below0 := rfl
set_option maxRecDepth 65536 in
theorem w_args : argsFit about1.vm theMethod args0 = true := by decide +kernel
set_option maxRecDepth 65536 in
theorem w_heap : heapFits about1 = true := by decide +kernel
set_option maxRecDepth 65536 in
theorem w_runnable : about1.curStatus? = some .runnable := by decide +kernel
set_option maxRecDepth 65536 in
theorem w_alone : about1.alone = true := by decide +kernel
set_option maxRecDepth 65536 in
theorem w_named : about1.methodNamed? x = some theMethod := by decide +kernel
set_option maxRecDepth 65536 in
theorem w_hears : about1.hears theMethod below0 = true := by decide +kernel
set_option maxRecDepth 65536 in
theorem w_ripe : about1.ripe theMethod args0 below0 = true := by decide +kernel
theorem w_running : about1.status = .running := rfl
set_option maxRecDepth 65536 in
theorem w_room : about1.hasRoom e0.platform room_1 = true :=
  launch0.hasRoom_least _ room_1 (by decide +kernel) (by decide +kernel) (by decide +kernel) (by decide +kernel) (by decide +kernel) (by decide +kernel)
theorem allAtoms_all (ts : List Jvm.Cond) (a : Array Jvm.Value) (st : Jvm.State) : (allAtoms ts).before a st = ts.all (fun c => c.before a st) := by
  induction ts with
  | nil => rfl
  | cons c t ih =>
    show (Jvm.Cond.and c (allAtoms t)).before a st = _
    rw [Jvm.Cond.before_and, ih, List.all_cons]
def words1 : List Jvm.Cond := Jvm.Cond.code x code maxLocals ret :: tables_1
/-- a 'code' word, met by the world's own term for the bytes: nothing is compared byte by byte -/
theorem code_word {y : MethodName} {bytes : ByteArray} {mx : Nat} {rt : Option FieldType} {a : Array Value} {s : State} {m : MethodId} {meth : Method} {c : Code} (h1 : s.methodNamed? y = some m) (h2 : s.vm.method? m = some meth) (h3 : meth.code = some c) (h4 : c.code = bytes)
    (h5 : (c.maxLocals == mx && c.exceptionTable.isEmpty && decide (c.maxStack ≤ mostOperands) && decide (meth.sig.returnType = rt) && !meth.locks && decide (parseMethodDescriptor y.desc = some meth.sig)) = true) : (Jvm.Cond.code y bytes mx rt).before a s = true := by
  simp only [Bool.and_eq_true, beq_iff_eq, Bool.not_eq_true', decide_eq_true_eq] at h5
  obtain ⟨⟨⟨⟨⟨g1, g2⟩, g3⟩, g4⟩, g5⟩, g6⟩ := h5
  simp [Cond.before, Cond.holds, Cond.value, h1, h2, h3, h4, g1, g2, g3, g4, g5, g6]
def isCode : Jvm.Cond → Bool
  | .code _ _ _ _ => true
  | _ => false
theorem all_split {L : List Jvm.Cond} {P : Jvm.Cond → Bool} (h1 : L.all (fun c => isCode c || P c) = true) (h2 : ∀ c ∈ L.filter isCode, P c = true) : L.all P = true := by
  refine List.all_eq_true.mpr fun c hc => ?_
  have h := List.all_eq_true.mp h1 c hc
  rcases Bool.eq_false_or_eq_true (isCode c) with hi | hi
  · exact h2 c (List.mem_filter.mpr ⟨hc, hi⟩)
  · simpa [hi] using h
set_option maxRecDepth 65536 in
theorem w_c0 : (Jvm.Cond.code x code maxLocals ret).before args0 about1 = true := code_word (m := ⟨1, 1⟩) (meth := k1m1) (c := k1c1) (by decide +kernel) rfl rfl rfl (by decide +kernel)
set_option maxRecDepth 65536 in
theorem w_c1 : (Jvm.Cond.code ({ cls := "com/example/firethorn/firethorn/AsciiDigits", name := "value", desc := "(C)I" } : Jvm.MethodName) prog_1_method_2_code (2 : Nat) (Option.some Jvm.ClassFile.FieldType.int)).before args0 about1 = true := code_word (m := ⟨8, 1⟩) (meth := k8m1) (c := k8c1) (by decide +kernel) rfl rfl rfl (by decide +kernel)
set_option maxRecDepth 65536 in
theorem w_c2 : (Jvm.Cond.code ({ cls := "java/lang/String", name := "charAt", desc := "(I)C" } : Jvm.MethodName) jdk_42_method_56_code (2 : Nat) (Option.some Jvm.ClassFile.FieldType.char)).before args0 about1 = true := code_word (m := ⟨7, 1⟩) (meth := k7m1) (c := k7c1) (by decide +kernel) rfl rfl rfl (by decide +kernel)
set_option maxRecDepth 65536 in
theorem w_c3 : (Jvm.Cond.code ({ cls := "java/lang/String", name := "isLatin1", desc := "()Z" } : Jvm.MethodName) jdk_42_method_154_code (1 : Nat) (Option.some Jvm.ClassFile.FieldType.boolean)).before args0 about1 = true := code_word (m := ⟨7, 2⟩) (meth := k7m2) (c := k7c2) (by decide +kernel) rfl rfl rfl (by decide +kernel)
set_option maxRecDepth 65536 in
theorem w_c4 : (Jvm.Cond.code ({ cls := "java/lang/StringLatin1", name := "charAt", desc := "([BI)C" } : Jvm.MethodName) jdk_43_method_2_code (2 : Nat) (Option.some Jvm.ClassFile.FieldType.char)).before args0 about1 = true := code_word (m := ⟨9, 1⟩) (meth := k9m1) (c := k9c1) (by decide +kernel) rfl rfl rfl (by decide +kernel)
set_option maxRecDepth 65536 in
theorem w_c5 : (Jvm.Cond.code ({ cls := "java/lang/String", name := "checkIndex", desc := "(II)V" } : Jvm.MethodName) jdk_42_method_155_code (2 : Nat) (Option.none : Option Jvm.ClassFile.FieldType)).before args0 about1 = true := code_word (m := ⟨7, 3⟩) (meth := k7m3) (c := k7c3) (by decide +kernel) rfl rfl rfl (by decide +kernel)
set_option maxRecDepth 65536 in
theorem w_c6 : (Jvm.Cond.code ({ cls := "jdk/internal/util/Preconditions", name := "checkIndex", desc := "(IILjava/util/function/BiFunction;)I" } : Jvm.MethodName) jdk_41_method_11_code (3 : Nat) (Option.some Jvm.ClassFile.FieldType.int)).before args0 about1 = true := code_word (m := ⟨10, 1⟩) (meth := k10m1) (c := k10c1) (by decide +kernel) rfl rfl rfl (by decide +kernel)
def codes1 : List Jvm.Cond := [Jvm.Cond.code x code maxLocals ret, Jvm.Cond.code ({ cls := "com/example/firethorn/firethorn/AsciiDigits", name := "value", desc := "(C)I" } : Jvm.MethodName) prog_1_method_2_code (2 : Nat) (Option.some Jvm.ClassFile.FieldType.int), Jvm.Cond.code ({ cls := "java/lang/String", name := "charAt", desc := "(I)C" } : Jvm.MethodName) jdk_42_method_56_code (2 : Nat) (Option.some Jvm.ClassFile.FieldType.char), Jvm.Cond.code ({ cls := "java/lang/String", name := "isLatin1", desc := "()Z" } : Jvm.MethodName) jdk_42_method_154_code (1 : Nat) (Option.some Jvm.ClassFile.FieldType.boolean), Jvm.Cond.code ({ cls := "java/lang/StringLatin1", name := "charAt", desc := "([BI)C" } : Jvm.MethodName) jdk_43_method_2_code (2 : Nat) (Option.some Jvm.ClassFile.FieldType.char), Jvm.Cond.code ({ cls := "java/lang/String", name := "checkIndex", desc := "(II)V" } : Jvm.MethodName) jdk_42_method_155_code (2 : Nat) (Option.none : Option Jvm.ClassFile.FieldType), Jvm.Cond.code ({ cls := "jdk/internal/util/Preconditions", name := "checkIndex", desc := "(IILjava/util/function/BiFunction;)I" } : Jvm.MethodName) jdk_41_method_11_code (3 : Nat) (Option.some Jvm.ClassFile.FieldType.int)]
set_option maxRecDepth 65536 in
theorem codes_eq : words1.filter isCode = codes1 := rfl
theorem w_codes : ∀ c ∈ words1.filter isCode, c.before args0 about1 = true := by
  rw [codes_eq]
  intro c hc
  simp only [codes1, List.mem_cons, List.not_mem_nil, or_false] at hc
  rcases hc with rfl | rfl | rfl | rfl | rfl | rfl | rfl
  · exact w_c0
  · exact w_c1
  · exact w_c2
  · exact w_c3
  · exact w_c4
  · exact w_c5
  · exact w_c6
set_option maxRecDepth 65536 in
theorem w_t1 : (words1.take 24).all (fun c => isCode c || c.before args0 about1) = true := by decide +kernel
set_option maxRecDepth 65536 in
theorem w_t2 : (words1.drop 24).all (fun c => isCode c || c.before args0 about1) = true := by decide +kernel
theorem w_tables : (allAtoms (Jvm.Cond.code x code maxLocals ret :: tables_1)).before args0 about1 = true := by
  rw [allAtoms_all]
  show words1.all (fun c => c.before args0 about1) = true
  refine all_split ?_ w_codes
  rw [← List.take_append_drop 24 words1, List.all_append, w_t1, w_t2]
  rfl
set_option maxRecDepth 65536 in
theorem w_rest : rest_1_c.before args0 about1 = true := by decide +kernel
set_option maxRecDepth 65536 in
theorem w_case : (Jvm.Cond.and given_1 narrow_1).before args0 about1 = true := by decide +kernel
set_option maxRecDepth 65536 in
theorem w_consts : constsHeld consts_1 about1 := Jvm.Lit.constsHeldB_iff.mp (by decide +kernel)
theorem w_applies : (headSpec (Jvm.Cond.code x code maxLocals ret :: tables_1) room_1).applies x e0.platform about1 = true :=
  (Spec.applies_iff w_frames).mpr ⟨w_running, w_runnable, w_alone, w_named, w_hears, w_ripe, w_room, w_tables⟩
theorem atStart : AtStart classFile x code maxLocals ret World_1 tables_1 room_1 Calls_1 rest_1 Pre_1 launch0 p0 e0 about1 theMethod args0 below0 :=
  ⟨lists_1, trivial, launch0.admits_env _ _ _, launch0.least_env, fairChoices_fair.cas, fairChoices_fair.clock, w_frames, w_args, w_heap, w_applies, ⟨w_consts, trivial⟩, w_rest, w_case⟩
end start1
theorem witness_1 : WitnessClaimed_1 := ⟨start1.p0, start1.e0, start1.about1, start1.theMethod, start1.args0, start1.below0, start1.atStart⟩
end Jvm.Pilot.@@N@@
