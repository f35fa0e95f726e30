import JvmDerived
import JvmDerived.Pilot.@@N@@Statement
import JvmDerived.Pilot.@@N@@Code
set_option linter.unusedVariables false
set_option linter.unusedSimpArgs false
namespace Own
open Jvm Jvm.ClassFile Sem Op Lib Jvm.Stand Jvm.Free Jvm.LawKit Jvm.RoadKit
def Fin (p : Program) (e : Env) (below : List Frame) (G : State) (Q : Outcome → State → Prop) : Prop :=
  ∃ s₂ o, Steps p.tables e below G s₂ ∧ s₂.status = .running ∧ Ended s₂ below o ∧ Q o s₂
def Post (s : State) (K : Option Value → Heap → List Loc → Prop) (cc ss : Nat) (o : Outcome) (U : State) : Prop :=
  ∃ v L, o = .returned v ∧ K v U.heap L ∧ FrameEnd s o U L cc ss
theorem go {p : Program} {e : Env} {below : List Frame} {G G' : State} {Q : Outcome → State → Prop} (h : ∀ t, Steps p.tables e below G' t → Steps p.tables e below G t) (k : Fin p e below G' Q) : Fin p e below G Q := by
  obtain ⟨s₂, o, h1, h2⟩ := k
  exact ⟨s₂, o, h _ h1, h2⟩
theorem start {p : Program} {e : Env} {below : List Frame} {T : State} {g g' : JFrame} {Q : Outcome → State → Prop} (q : g = g') (k : Fin p e below (T.setTop g') Q) : Fin p e below (T.setTop g) Q := q ▸ k
theorem clamp_lt {j z : Int32} {n : Nat} (hj : ¬ j < 0 ∧ j < z) (hz : z.toNatClampNeg = n) : j.toNatClampNeg < n := by
  subst hz
  have h1 := hj.1; have h2 := hj.2
  rw [Int32.lt_iff_toInt_lt] at h1 h2
  have h0 : (0 : Int32).toInt = 0 := by decide
  rw [h0] at h1
  show j.toInt.toNat < z.toInt.toNat
  omega
section A
variable {p : Program} {l : Launch} {e : Env} {R : Room} {s : State} {m : MethodId} {args : Array Value} {below : List Frame} {meth : Method} {c : Code} {T : State} {locs : List Loc} {cells slots : Nat}
theorem retAny (X : Stand p l e R s m args below meth c T locs cells slots) {v : Option Value} (hlk : meth.locks = false) (hv : meth.sig.returnType = none → v = none) {g : JFrame}
    (hstep : ∀ fs, (∀ (f : JFrame) (acts : List Action), f.method = m → f.locked = none → f.entered = [] → (doReturn e (T.setTop f) acts v).1 = T.setFrames fs) → Steps p.tables e below (T.setTop g) (T.setFrames fs))
    {K : Option Value → Heap → List Loc → Prop} {cc ss : Nat} (hc : cells ≤ cc) (hs : slots ≤ ss) (hk : K v T.heap locs) : Fin p e below (T.setTop g) (Post s K cc ss) := by
  obtain ⟨fs, hr, hrun, hended, hW, hsame⟩ := X.leave (v := v) hv hlk
  exact ⟨_, _, hstep fs hr, hrun, hended, _, _, rfl, hk, ⟨_, rfl⟩, hW, hsame.mono hc hs⟩
theorem retI (X : Stand p l e R s m args below meth c T locs cells slots) (hx : p.tables.exec = Jvm.exec) (hlk : meth.locks = false) (hret : meth.sig.returnType = some .int) {pc : Nat} {Ls : Array Slot} {z : Int32} {rest : List Value} (hd : decode c.code pc = .ok (.ireturn, 1))
    {K : Option Value → Heap → List Loc → Prop} {cc ss : Nat} (hc : cells ≤ cc) (hs : slots ≤ ss) (hk : K (some (.int z)) T.heap locs) : Fin p e below (T.setTop (mkF m pc Ls (.int z :: rest))) (Post s K cc ss) := by
  refine retAny X (v := some (.int z)) hlk (fun h => by rw [hret] at h; cases h) (fun fs hl => ?_) hc hs hk
  have hm' : T.vm.method? m = some meth := X.method'
  have hn : narrow .int (.int z) = .int z := rfl
  show Steps p.tables e below (T.setTop { method := m, pc := pc, locals := Ls, stack := _ :: rest, locked := none }) _
  jvm_step X.here [X.here.top, hx, hd, hm', hret, hn]
  first | (intro acts; rw [hl _ acts rfl rfl rfl]) | rw [hl _ _ rfl rfl rfl]
  exact Steps.refl _
theorem retN (X : Stand p l e R s m args below meth c T locs cells slots) (hx : p.tables.exec = Jvm.exec) (hlk : meth.locks = false) {t : FieldType} (hret : meth.sig.returnType = some t) (ht : t = .boolean ∨ t = .byte ∨ t = .char ∨ t = .short) {pc : Nat} {Ls : Array Slot} {z : Int32} {rest : List Value} (hd : decode c.code pc = .ok (.ireturn, 1))
    {K : Option Value → Heap → List Loc → Prop} {cc ss : Nat} (hc : cells ≤ cc) (hs : slots ≤ ss) (hk : K (some (.int (nar t z))) T.heap locs) : Fin p e below (T.setTop (mkF m pc Ls (.int z :: rest))) (Post s K cc ss) :=
  retAny X (v := some (.int (nar t z))) hlk (fun h => by rw [hret] at h; cases h) (fun fs hl => RoadKit.retN X hx hret ht hd hl) hc hs hk
theorem retJ (X : Stand p l e R s m args below meth c T locs cells slots) (hx : p.tables.exec = Jvm.exec) (hlk : meth.locks = false) (hret : meth.sig.returnType = some .long) {pc : Nat} {Ls : Array Slot} {z : Int64} {rest : List Value} (hd : decode c.code pc = .ok (.lreturn, 1))
    {K : Option Value → Heap → List Loc → Prop} {cc ss : Nat} (hc : cells ≤ cc) (hs : slots ≤ ss) (hk : K (some (.long z)) T.heap locs) : Fin p e below (T.setTop (mkF m pc Ls (.long z :: rest))) (Post s K cc ss) := by
  refine retAny X (v := some (.long z)) hlk (fun h => by rw [hret] at h; cases h) (fun fs hl => ?_) hc hs hk
  have hm' : T.vm.method? m = some meth := X.method'
  show Steps p.tables e below (T.setTop { method := m, pc := pc, locals := Ls, stack := _ :: rest, locked := none }) _
  jvm_step X.here [X.here.top, hx, hd, hm', hret, narrow]
  first | (intro acts; rw [hl _ acts rfl rfl rfl]) | rw [hl _ _ rfl rfl rfl]
  exact Steps.refl _
theorem retV (X : Stand p l e R s m args below meth c T locs cells slots) (hx : p.tables.exec = Jvm.exec) (hlk : meth.locks = false) (hret : meth.sig.returnType = none) {pc : Nat} {Ls : Array Slot} (hd : decode c.code pc = .ok (.return_, 1))
    {K : Option Value → Heap → List Loc → Prop} {cc ss : Nat} (hc : cells ≤ cc) (hs : slots ≤ ss) (hk : K none T.heap locs) : Fin p e below (T.setTop (mkF m pc Ls [])) (Post s K cc ss) :=
  retAny X (v := none) hlk (fun _ => rfl) (fun fs hl => X.returnOut hx hret hd hl) hc hs hk
theorem cS {Z : State} {a0 : Array Value} {h : Heap} (X : Stand p l e R s m args below meth c T locs cells slots) (hx : p.tables.exec = Jvm.exec) (hZ : Z.Warmed39 s.vm) {own : String} {index : Nat} {y : MethodName} {bytes : ByteArray} {maxL : Nat} {ret : Option FieldType} {rm : Room} {as' : Array Value} {Q : Option Value → Heap → List Loc → Prop}
    (hown : s.vm.findClass own = some m.cls) (w1 : (Cond.methodLink own index y).before a0 Z = true) (w2 : (Cond.static y).before a0 Z = true) (w3 : (Cond.initialized y.cls).before a0 Z = true) (w4 : (Cond.code y bytes maxL ret).before a0 Z = true)
    (hy : y.cls ≠ "java/lang/invoke/MethodHandle" ∧ y.cls ≠ "java/lang/invoke/VarHandle")
    (hM : MetFree l y (head1 [Cond.code y bytes maxL ret] rm) (fun a U => a = as' ∧ Z.Warmed39 U.vm ∧ U.heap = h) (fun _ _ _ _ _ => True) (fun _ U o U' => ∃ v L, o = .returned v ∧ Q v U'.heap L ∧ FrameEnd U o U' L rm.cells rm.slots))
    (hf : rm.frames + 1 ≤ R.frames) {W : Nat} (hl : W + (maxL + 11) + rm.locals ≤ R.locals) {pc : Nat} {ls : Array Slot} {argsL rest : List Value} (hsize : ls.size = c.maxLocals) (hlen : ∀ sig, parseMethodDescriptor y.desc = some sig → argsL.length = sig.parameters.length)
    (has : argsL.toArray = as') (hW : (rest.map fun v => v.category).sum ≤ W) (hd : decode c.code pc = .ok (.invokestatic index, 3)) (eT : T.heap = h) (hcc : cells + rm.cells ≤ R.cells) (hss : slots + rm.slots ≤ R.slots) {P : Outcome → State → Prop}
    (k : ∀ T' L v, Stand p l e R s m args below meth c T' (locs ++ L) (cells + rm.cells) (slots + rm.slots) → Q v T'.heap L → Fin p e below (T'.setTop (mkF m (pc + 3) ls (v.toList ++ rest))) P) :
    Fin p e below (T.setTop (mkF m pc ls (argsL.reverse ++ rest))) P := by
  obtain ⟨v, _, ⟨T', L', k', n'⟩, -, X', ⟨L, hQ, e1, e2, e3⟩, st⟩ := Jvm.LawKit.callS X hx (y := y) hown (mvT hZ w1) (mvT hZ w2) (mvT hZ w3) (mvT hZ w4) hy (backOf (W := W) hM hZ w4 w3 hf hl) (g := mkF m pc ls (argsL.reverse ++ rest)) rfl hsize (argsL := argsL) (rest := rest) hlen rfl
    (by show 2 * 0 + _ ≤ _; omega) hd (fun _ _ => ⟨has, eT, hcc, hss⟩)
  dsimp only [Pt.U, Pt.locs, Pt.cells, Pt.slots] at X' e1 e2 e3 st hQ
  subst e1 e2 e3
  exact go st (k T' L v X' hQ)
theorem cI {Z : State} {a0 : Array Value} {h : Heap} (X : Stand p l e R s m args below meth c T locs cells slots) (hx : p.tables.exec = Jvm.exec) (hZ : Z.Warmed39 s.vm) {own : String} {index : Nat} {y : MethodName} {bytes : ByteArray} {maxL : Nat} {rm : Room} {as' : Array Value} {Q : Option Value → Heap → List Loc → Prop}
    (hy1 : y.name = "<init>") (hown : s.vm.findClass own = some m.cls) (w1 : (Cond.methodLink own index y).before a0 Z = true) (w2 : (Cond.instanceMethod y).before a0 Z = true) (w3 : (Cond.initialized y.cls).before a0 Z = true) (w4 : (Cond.code y bytes maxL none).before a0 Z = true)
    (hy : y.cls ≠ "java/lang/invoke/MethodHandle" ∧ y.cls ≠ "java/lang/invoke/VarHandle")
    (hM : MetFree l y (head1 [Cond.code y bytes maxL none] rm) (fun a U => a = as' ∧ Z.Warmed39 U.vm ∧ U.heap = h) (fun _ _ _ _ _ => True) (fun _ U o U' => ∃ v L, o = .returned v ∧ Q v U'.heap L ∧ FrameEnd U o U' L rm.cells rm.slots))
    (hf : rm.frames + 1 ≤ R.frames) {W : Nat} (hl : W + (maxL + 11) + rm.locals ≤ R.locals) {pc : Nat} {ls : Array Slot} {a : Addr} {argsL rest : List Value} (hsize : ls.size = c.maxLocals) (hlen : ∀ sig, parseMethodDescriptor y.desc = some sig → argsL.length = sig.parameters.length)
    (has : (Value.ref a :: argsL).toArray = as') (hW : (rest.map fun v => v.category).sum ≤ W) (hd : decode c.code pc = .ok (.invokespecial index, 3)) (eT : T.heap = h) (hcc : cells + rm.cells ≤ R.cells) (hss : slots + rm.slots ≤ R.slots) {P : Outcome → State → Prop}
    (k : ∀ T' L v, Stand p l e R s m args below meth c T' (locs ++ L) (cells + rm.cells) (slots + rm.slots) → Q v T'.heap L → Fin p e below (T'.setTop (mkF m (pc + 3) ls (v.toList ++ rest))) P) :
    Fin p e below (T.setTop (mkF m pc ls (argsL.reverse ++ .ref a :: rest))) P := by
  obtain ⟨v, _, ⟨T', L', k', n'⟩, -, X', ⟨L, hQ, e1, e2, e3⟩, st⟩ := X.specialBack hx (y := y) hy1 hown (mvT hZ w1) (mvT hZ w2) (mvT hZ w4) hy (backOf (W := W) hM hZ w4 w3 hf hl) (g := mkF m pc ls (argsL.reverse ++ .ref a :: rest)) rfl hsize (Steps.refl _) (a := a) (argsL := argsL) (rest := rest) hlen rfl
    (by show 2 * 0 + _ ≤ _; omega) hd (fun _ _ => ⟨has, eT, hcc, hss⟩)
  dsimp only [Pt.U, Pt.locs, Pt.cells, Pt.slots] at X' e1 e2 e3 st hQ
  subst e1 e2 e3
  exact go (fun t kt => st.trans kt) (k T' L v X' hQ)
theorem cV {Z : State} {a0 : Array Value} {h : Heap} (X : Stand p l e R s m args below meth c T locs cells slots) (hx : p.tables.exec = Jvm.exec) (hZ : Z.Warmed39 s.vm) {own C : String} {index : Nat} {y z : MethodName} {bytes : ByteArray} {maxL : Nat} {ret : Option FieldType} {rm : Room} {as' : Array Value} {Q : Option Value → Heap → List Loc → Prop}
    (hown : s.vm.findClass own = some m.cls) (w1 : (Cond.methodLink own index y).before a0 Z = true) (w2 : (Cond.declares y).before a0 Z = true) (hnf : NotFace s y) (w5 : (Cond.selects C y z).before a0 Z = true) (w6 : (Cond.instanceMethod z).before a0 Z = true) (w3 : (Cond.initialized z.cls).before a0 Z = true) (w4 : (Cond.code z bytes maxL ret).before a0 Z = true)
    (hy : y.cls ≠ "java/lang/invoke/MethodHandle" ∧ y.cls ≠ "java/lang/invoke/VarHandle")
    (hM : MetFree l z (head1 [Cond.code z bytes maxL ret] rm) (fun a U => a = as' ∧ Z.Warmed39 U.vm ∧ U.heap = h) (fun _ _ _ _ _ => True) (fun _ U o U' => ∃ v L, o = .returned v ∧ Q v U'.heap L ∧ FrameEnd U o U' L rm.cells rm.slots))
    (hf : rm.frames + 1 ≤ R.frames) {W : Nat} (hl : W + (maxL + 11) + rm.locals ≤ R.locals) {pc : Nat} {ls : Array Slot} {a : Addr} {argsL rest : List Value} (E : Exa Z h a C) (hsize : ls.size = c.maxLocals) (hlen : ∀ sig, parseMethodDescriptor y.desc = some sig → argsL.length = sig.parameters.length)
    (has : (Value.ref a :: argsL).toArray = as') (hW : (rest.map fun v => v.category).sum ≤ W) (hd : decode c.code pc = .ok (.invokevirtual index, 3)) (eT : T.heap = h) (hcc : cells + rm.cells ≤ R.cells) (hss : slots + rm.slots ≤ R.slots) {P : Outcome → State → Prop}
    (k : ∀ T' L v, Stand p l e R s m args below meth c T' (locs ++ L) (cells + rm.cells) (slots + rm.slots) → Q v T'.heap L → Fin p e below (T'.setTop (mkF m (pc + 3) ls (v.toList ++ rest))) P) :
    Fin p e below (T.setTop (mkF m pc ls (argsL.reverse ++ .ref a :: rest))) P := by
  obtain ⟨cq, kq, qa, qb, qc⟩ := isOf hZ eT E
  obtain ⟨v, _, ⟨T', L', k', n'⟩, -, X', ⟨L, hQ, e1, e2, e3⟩, st⟩ := X.virtualBack hx (y := y) (z := z) hown (mvT hZ w1) (mvT hZ w2) hnf (mvT hZ w5) (mvT hZ w6) hy (backOf (W := W) hM hZ w4 w3 hf hl) qa qc (g := mkF m pc ls (argsL.reverse ++ .ref a :: rest)) rfl hsize (Steps.refl _) (argsL := argsL) (rest := rest) hlen rfl
    (by show 2 * 0 + _ ≤ _; omega) hd (fun _ _ => ⟨has, eT, hcc, hss⟩)
  dsimp only [Pt.U, Pt.locs, Pt.cells, Pt.slots] at X' e1 e2 e3 st hQ
  subst e1 e2 e3
  exact go (fun t kt => st.trans kt) (k T' L v X' hQ)
theorem newA {Z : State} {a0 : Array Value} {h : Heap} (X : Stand p l e R s m args below meth c T locs cells slots) (hx : p.tables.exec = Jvm.exec) (hZ : Z.Warmed39 s.vm) {aty : ArrayType} (w : (Cond.arrayClass (newarray.typeOf aty)).before a0 Z = true) (eT : T.heap = h)
    {pc : Nat} {ls : Array Slot} {n : Int32} {rest : List Value} (hd : decode c.code pc = .ok (.newarray aty, 2)) (hn : ¬ n < 0) (cap : Nat) (hcap : n.toNatClampNeg ≤ cap) (hb : cap * 8 ≤ 536870912) (hc : cells + 1 ≤ R.cells) (hl : slots + cap ≤ R.slots) {P : Outcome → State → Prop}
    (k : ∀ T' h' b kA, Stand p l e R s m args below meth c T' locs (cells + 1) (slots + cap) → T'.heap = h' → Ext h h' → b = h.size → Arv Z h' b kA (newarray.typeOf aty) n [] (defaultValue (newarray.typeOf aty)) → Fin p e below (T'.setTop (mkF m (pc + 2) ls (.ref b :: rest))) P) :
    Fin p e below (T.setTop (mkF m pc ls (.int n :: rest))) P := by
  obtain ⟨T', h', kA, X', e', E', A', st⟩ := newP X hx hZ w eT (g := mkF m pc ls (.int n :: rest)) rfl hd rfl hn hcap hb hc hl
  exact go st (k T' h' _ kA X' e' E' rfl (Arv.new A' hn))
theorem stI {Z : State} {h : Heap} {a : Addr} {kA : ClassId} {z : Int32} {vs : List Value} {dv : Value} (X : Stand p l e R s m args below meth c T locs cells slots) (hx : p.tables.exec = Jvm.exec) (hZ : Z.Warmed39 s.vm) (eT : T.heap = h) (V : Arv Z h a kA .int z vs dv)
    {pc : Nat} {ls : Array Slot} {j x : Int32} {rest : List Value} (hd : decode c.code pc = .ok (.iastore, 1)) (hj : ¬ j < 0 ∧ j < z) (i : Nat) (hi : j.toNatClampNeg = i) (hlen : i < vs.length) {P : Outcome → State → Prop}
    (k : ∀ T' h', Stand p l e R s m args below meth c T' (locs ++ [⟨a, j.toNatClampNeg⟩]) cells slots → T'.heap = h' → Wr h h' a j.toNatClampNeg (.int x) → Arv Z h' a kA .int z (vs.set i (.int x)) dv → Fin p e below (T'.setTop (mkF m (pc + 1) ls rest)) P) :
    Fin p e below (T.setTop (mkF m pc ls (.int x :: .int j :: .ref a :: rest))) P := by
  obtain ⟨cl, Ar, q, S, N, H, G⟩ := V
  obtain ⟨T', h', X', e', W', st⟩ := RoadKit.stI X hx hZ eT Ar (j := j) (inb_of S hj) (g := mkF m pc ls (.int x :: .int j :: .ref a :: rest)) rfl rfl hd
  exact go st (k T' h' X' e' W' (Arv.set Ar q S N H G rfl W' i hi hlen))
theorem stJ {Z : State} {h : Heap} {a : Addr} {kA : ClassId} {z : Int32} {vs : List Value} {dv : Value} (X : Stand p l e R s m args below meth c T locs cells slots) (hx : p.tables.exec = Jvm.exec) (hZ : Z.Warmed39 s.vm) (eT : T.heap = h) (V : Arv Z h a kA .long z vs dv)
    {pc : Nat} {ls : Array Slot} {j : Int32} {x : Int64} {rest : List Value} (hd : decode c.code pc = .ok (.lastore, 1)) (hj : ¬ j < 0 ∧ j < z) (i : Nat) (hi : j.toNatClampNeg = i) (hlen : i < vs.length) {P : Outcome → State → Prop}
    (k : ∀ T' h', Stand p l e R s m args below meth c T' (locs ++ [⟨a, j.toNatClampNeg⟩]) cells slots → T'.heap = h' → Wr h h' a j.toNatClampNeg (.long x) → Arv Z h' a kA .long z (vs.set i (.long x)) dv → Fin p e below (T'.setTop (mkF m (pc + 1) ls rest)) P) :
    Fin p e below (T.setTop (mkF m pc ls (.long x :: .int j :: .ref a :: rest))) P := by
  obtain ⟨cl, Ar, q, S, N, H, G⟩ := V
  obtain ⟨T', h', X', e', W', st⟩ := RoadKit.stJ X hx hZ eT Ar (j := j) (inb_of S hj) (g := mkF m pc ls (.long x :: .int j :: .ref a :: rest)) rfl rfl hd
  exact go st (k T' h' X' e' W' (Arv.set Ar q S N H G rfl W' i hi hlen))
theorem stB {Z : State} {h : Heap} {a : Addr} {kA : ClassId} {z : Int32} {vs : List Value} {dv : Value} (X : Stand p l e R s m args below meth c T locs cells slots) (hx : p.tables.exec = Jvm.exec) (hZ : Z.Warmed39 s.vm) (eT : T.heap = h) (V : Arv Z h a kA .byte z vs dv)
    {pc : Nat} {ls : Array Slot} {j x : Int32} {rest : List Value} (hd : decode c.code pc = .ok (.bastore, 1)) (hj : ¬ j < 0 ∧ j < z) (i : Nat) (hi : j.toNatClampNeg = i) (hlen : i < vs.length) {P : Outcome → State → Prop}
    (k : ∀ T' h', Stand p l e R s m args below meth c T' (locs ++ [⟨a, j.toNatClampNeg⟩]) cells slots → T'.heap = h' → Wr h h' a j.toNatClampNeg (.int (nar .byte x)) → Arv Z h' a kA .byte z (vs.set i (.int (nar .byte x))) dv → Fin p e below (T'.setTop (mkF m (pc + 1) ls rest)) P) :
    Fin p e below (T.setTop (mkF m pc ls (.int x :: .int j :: .ref a :: rest))) P := by
  obtain ⟨cl, Ar, q, S, N, H, G⟩ := V
  obtain ⟨T', h', X', e', W', st⟩ := RoadKit.stB X hx hZ eT Ar (j := j) (inb_of S hj) (g := mkF m pc ls (.int x :: .int j :: .ref a :: rest)) rfl rfl hd
  exact go st (k T' h' X' e' W' (Arv.set Ar q S N H G (fits_nar_byte _) W' i hi hlen))
theorem stC {Z : State} {h : Heap} {a : Addr} {kA : ClassId} {z : Int32} {vs : List Value} {dv : Value} (X : Stand p l e R s m args below meth c T locs cells slots) (hx : p.tables.exec = Jvm.exec) (hZ : Z.Warmed39 s.vm) (eT : T.heap = h) (V : Arv Z h a kA .char z vs dv)
    {pc : Nat} {ls : Array Slot} {j x : Int32} {rest : List Value} (hd : decode c.code pc = .ok (.castore, 1)) (hj : ¬ j < 0 ∧ j < z) (i : Nat) (hi : j.toNatClampNeg = i) (hlen : i < vs.length) {P : Outcome → State → Prop}
    (k : ∀ T' h', Stand p l e R s m args below meth c T' (locs ++ [⟨a, j.toNatClampNeg⟩]) cells slots → T'.heap = h' → Wr h h' a j.toNatClampNeg (.int (nar .char x)) → Arv Z h' a kA .char z (vs.set i (.int (nar .char x))) dv → Fin p e below (T'.setTop (mkF m (pc + 1) ls rest)) P) :
    Fin p e below (T.setTop (mkF m pc ls (.int x :: .int j :: .ref a :: rest))) P := by
  obtain ⟨cl, Ar, q, S, N, H, G⟩ := V
  obtain ⟨T', h', X', e', W', st⟩ := RoadKit.stC X hx hZ eT Ar (j := j) (inb_of S hj) (g := mkF m pc ls (.int x :: .int j :: .ref a :: rest)) rfl rfl hd
  exact go st (k T' h' X' e' W' (Arv.set Ar q S N H G (fits_nar_char _) W' i hi hlen))
theorem alen {Z : State} {h : Heap} {a : Addr} {kA : ClassId} {ty : FieldType} {z : Int32} {vs : List Value} {dv : Value} (X : Stand p l e R s m args below meth c T locs cells slots) (hx : p.tables.exec = Jvm.exec) (hZ : Z.Warmed39 s.vm) (eT : T.heap = h) (V : Arv Z h a kA ty z vs dv)
    {pc : Nat} {ls : Array Slot} {rest : List Value} (hd : decode c.code pc = .ok (.arraylength, 1)) {P : Outcome → State → Prop} (k : Fin p e below (T.setTop (mkF m (pc + 1) ls (.int z :: rest))) P) :
    Fin p e below (T.setTop (mkF m pc ls (.ref a :: rest))) P := by
  obtain ⟨cl, Ar, q, S, N, H, G⟩ := V
  refine go (fun t kt => X.arraylength hx (by rw [eT]; exact Ar.1) (State.isArrayOf_alike hZ.alike Ar.2.1) (g := mkF m pc ls (.ref a :: rest)) rfl rfl hd t kt) ?_
  rw [len_of S N]
  exact k
theorem arv_at {Z : State} {h : Heap} {a : Addr} {kA : ClassId} {ty : FieldType} {z : Int32} {vs : List Value} {dv : Value} (V : Arv Z h a kA ty z vs dv) {j : Int32} (hj : ¬ j < 0 ∧ j < z) :
    ∃ cl, Arr Z h a cl ty ∧ ¬ (j < 0 ∨ cl.slots.size ≤ j.toNatClampNeg) ∧ cl.slots[j.toNatClampNeg]? = some (vs.getD j.toNatClampNeg dv) ∧ fits ty (vs.getD j.toNatClampNeg dv) = true := by
  obtain ⟨cl, Ar, q, S, N, H, G⟩ := V
  have hin := inb_of S hj
  have hlt : j.toNatClampNeg < cl.slots.size := Nat.lt_of_not_le fun q => hin (Or.inr q)
  exact ⟨cl, Ar, hin, H _ hlt, G _ hlt⟩
theorem ldI {Z : State} {h : Heap} {a : Addr} {kA : ClassId} {z : Int32} {vs : List Value} {dv : Value} (X : Stand p l e R s m args below meth c T locs cells slots) (hx : p.tables.exec = Jvm.exec) (hZ : Z.Warmed39 s.vm) (eT : T.heap = h) (V : Arv Z h a kA .int z vs dv)
    {pc : Nat} {ls : Array Slot} {j : Int32} {rest : List Value} (hd : decode c.code pc = .ok (.iaload, 1)) (hj : ¬ j < 0 ∧ j < z) {P : Outcome → State → Prop} (k : ∀ x, vs.getD j.toNatClampNeg dv = .int x → Fin p e below (T.setTop (mkF m (pc + 1) ls (.int x :: rest))) P) :
    Fin p e below (T.setTop (mkF m pc ls (.int j :: .ref a :: rest))) P := by
  obtain ⟨cl, Ar, hin, hat, hf⟩ := arv_at V hj
  obtain ⟨x, hx'⟩ := fit_I hf (Or.inl rfl)
  refine go (fun t kt => X.iaload hx (j := j) (v := .int x) (by rw [eT]; exact Ar.1) (State.isArrayOf_alike hZ.alike Ar.2.1) Ar.2.2 hin (by rw [hat, hx']) (g := mkF m pc ls (.int j :: .ref a :: rest)) rfl rfl hd t kt) (k x hx')
theorem ldJ {Z : State} {h : Heap} {a : Addr} {kA : ClassId} {z : Int32} {vs : List Value} {dv : Value} (X : Stand p l e R s m args below meth c T locs cells slots) (hx : p.tables.exec = Jvm.exec) (hZ : Z.Warmed39 s.vm) (eT : T.heap = h) (V : Arv Z h a kA .long z vs dv)
    {pc : Nat} {ls : Array Slot} {j : Int32} {rest : List Value} (hd : decode c.code pc = .ok (.laload, 1)) (hj : ¬ j < 0 ∧ j < z) {P : Outcome → State → Prop} (k : ∀ x, vs.getD j.toNatClampNeg dv = .long x → Fin p e below (T.setTop (mkF m (pc + 1) ls (.long x :: rest))) P) :
    Fin p e below (T.setTop (mkF m pc ls (.int j :: .ref a :: rest))) P := by
  obtain ⟨cl, Ar, hin, hat, hf⟩ := arv_at V hj
  obtain ⟨x, hx'⟩ := fit_J hf
  refine go (fun t kt => X.laload hx (j := j) (v := .long x) (by rw [eT]; exact Ar.1) (State.isArrayOf_alike hZ.alike Ar.2.1) Ar.2.2 hin (by rw [hat, hx']) (g := mkF m pc ls (.int j :: .ref a :: rest)) rfl rfl hd t kt) (k x hx')
theorem ldB {Z : State} {h : Heap} {a : Addr} {kA : ClassId} {z : Int32} {vs : List Value} {dv : Value} (X : Stand p l e R s m args below meth c T locs cells slots) (hx : p.tables.exec = Jvm.exec) (hZ : Z.Warmed39 s.vm) (eT : T.heap = h) (V : Arv Z h a kA .byte z vs dv)
    {pc : Nat} {ls : Array Slot} {j : Int32} {rest : List Value} (hd : decode c.code pc = .ok (.baload, 1)) (hj : ¬ j < 0 ∧ j < z) {P : Outcome → State → Prop} (k : ∀ x, vs.getD j.toNatClampNeg dv = .int x → Fin p e below (T.setTop (mkF m (pc + 1) ls (.int x :: rest))) P) :
    Fin p e below (T.setTop (mkF m pc ls (.int j :: .ref a :: rest))) P := by
  obtain ⟨cl, Ar, hin, hat, hf⟩ := arv_at V hj
  obtain ⟨x, hx'⟩ := fit_I hf (Or.inr (Or.inr (Or.inl rfl)))
  refine go (fun t kt => X.baloadBytes hx (j := j) (v := .int x) (by rw [eT]; exact Ar.1) (State.isArrayOf_alike hZ.alike Ar.2.1) Ar.2.2 hin (by rw [hat, hx']) (g := mkF m pc ls (.int j :: .ref a :: rest)) rfl rfl hd t kt) (k x hx')
theorem ldC {Z : State} {h : Heap} {a : Addr} {kA : ClassId} {z : Int32} {vs : List Value} {dv : Value} (X : Stand p l e R s m args below meth c T locs cells slots) (hx : p.tables.exec = Jvm.exec) (hZ : Z.Warmed39 s.vm) (eT : T.heap = h) (V : Arv Z h a kA .char z vs dv)
    {pc : Nat} {ls : Array Slot} {j : Int32} {rest : List Value} (hd : decode c.code pc = .ok (.caload, 1)) (hj : ¬ j < 0 ∧ j < z) {P : Outcome → State → Prop} (k : ∀ x, vs.getD j.toNatClampNeg dv = .int x → Fin p e below (T.setTop (mkF m (pc + 1) ls (.int x :: rest))) P) :
    Fin p e below (T.setTop (mkF m pc ls (.int j :: .ref a :: rest))) P := by
  obtain ⟨cl, Ar, hin, hat, hf⟩ := arv_at V hj
  obtain ⟨x, hx'⟩ := fit_I hf (Or.inr (Or.inr (Or.inr (Or.inl rfl))))
  refine go (fun t kt => X.caload hx (j := j) (v := .int x) (by rw [eT]; exact Ar.1) (State.isArrayOf_alike hZ.alike Ar.2.1) Ar.2.2 hin (by rw [hat, hx']) (g := mkF m pc ls (.int j :: .ref a :: rest)) rfl rfl hd t kt) (k x hx')
theorem ldR {Z : State} {h : Heap} {a : Addr} {kA : ClassId} {ty : FieldType} {z : Int32} {vs : List Value} {dv : Value} (X : Stand p l e R s m args below meth c T locs cells slots) (hx : p.tables.exec = Jvm.exec) (hZ : Z.Warmed39 s.vm) (eT : T.heap = h) (V : Arv Z h a kA ty z vs dv) (ht : ty.isReference = true)
    {pc : Nat} {ls : Array Slot} {j : Int32} {rest : List Value} (hd : decode c.code pc = .ok (.aaload, 1)) (hj : ¬ j < 0 ∧ j < z) {w : Value} (hv : vs.getD j.toNatClampNeg dv = w) {P : Outcome → State → Prop} (k : Fin p e below (T.setTop (mkF m (pc + 1) ls (w :: rest))) P) :
    Fin p e below (T.setTop (mkF m pc ls (.int j :: .ref a :: rest))) P := by
  obtain ⟨cl, Ar, hin, hat, hf⟩ := arv_at V hj
  exact go (fun t kt => X.aaload hx (j := j) (v := w) (by rw [eT]; exact Ar.1) (State.isArrayOf_alike hZ.alike Ar.2.1) ht Ar.2.2 hin (by rw [hat, hv]) (g := mkF m pc ls (.int j :: .ref a :: rest)) rfl rfl hd t kt) k
theorem ldBc {Z : State} {h : Heap} {a : Addr} {cl : Cell} (X : Stand p l e R s m args below meth c T locs cells slots) (hx : p.tables.exec = Jvm.exec) (hZ : Z.Warmed39 s.vm) (eT : T.heap = h) (A : Arr Z h a cl .byte)
    {pc : Nat} {ls : Array Slot} {j x : Int32} {rest : List Value} (hd : decode c.code pc = .ok (.baload, 1)) (hin : ¬ (j < 0 ∨ cl.slots.size ≤ j.toNatClampNeg)) (hv : cl.slots[j.toNatClampNeg]? = some (.int x)) {P : Outcome → State → Prop} (k : Fin p e below (T.setTop (mkF m (pc + 1) ls (.int x :: rest))) P) :
    Fin p e below (T.setTop (mkF m pc ls (.int j :: .ref a :: rest))) P :=
  go (fun t kt => X.baloadBytes hx (j := j) (v := .int x) (by rw [eT]; exact A.1) (State.isArrayOf_alike hZ.alike A.2.1) A.2.2 hin hv (g := mkF m pc ls (.int j :: .ref a :: rest)) rfl rfl hd t kt) k
theorem alenC {Z : State} {h : Heap} {a : Addr} {cl : Cell} {ty : FieldType} {z : Int32} (X : Stand p l e R s m args below meth c T locs cells slots) (hx : p.tables.exec = Jvm.exec) (hZ : Z.Warmed39 s.vm) (eT : T.heap = h) (A : Arr Z h a cl ty) (hz : cl.slots.size.toInt32 = z)
    {pc : Nat} {ls : Array Slot} {rest : List Value} (hd : decode c.code pc = .ok (.arraylength, 1)) {P : Outcome → State → Prop} (k : Fin p e below (T.setTop (mkF m (pc + 1) ls (.int z :: rest))) P) :
    Fin p e below (T.setTop (mkF m pc ls (.ref a :: rest))) P := by
  refine go (fun t kt => X.arraylength hx (by rw [eT]; exact A.1) (State.isArrayOf_alike hZ.alike A.2.1) (g := mkF m pc ls (.ref a :: rest)) rfl rfl hd t kt) ?_
  rw [hz]
  exact k
theorem retR (X : Stand p l e R s m args below meth c T locs cells slots) (hx : p.tables.exec = Jvm.exec) (hlk : meth.locks = false) {t : FieldType} (hret : meth.sig.returnType = some t) (ht : t.isReference = true) {pc : Nat} {Ls : Array Slot} {z : Value} (hz : z.isRef = true) {rest : List Value} (hd : decode c.code pc = .ok (.areturn, 1))
    {K : Option Value → Heap → List Loc → Prop} {cc ss : Nat} (hc : cells ≤ cc) (hs : slots ≤ ss) (hk : K (some z) T.heap locs) : Fin p e below (T.setTop (mkF m pc Ls (z :: rest))) (Post s K cc ss) := by
  refine retAny X (v := some z) hlk (fun h => by rw [hret] at h; cases h) (fun fs hl => ?_) hc hs hk
  have hm' : T.vm.method? m = some meth := X.method'
  show Steps p.tables e below (T.setTop { method := m, pc := pc, locals := Ls, stack := _ :: rest, locked := none }) _
  jvm_step X.here [X.here.top, hx, hd, hm', hret, ht, hz]
  first | (intro acts; rw [hl _ acts rfl rfl rfl]) | rw [hl _ _ rfl rfl rfl]
  exact Steps.refl _
theorem cP {Z : State} {a0 : Array Value} {h : Heap} (X : Stand p l e R s m args below meth c T locs cells slots) (hx : p.tables.exec = Jvm.exec) (hZ : Z.Warmed39 s.vm) {own C : String} {index : Nat} {y y' : MethodName} {bytes : ByteArray} {maxL : Nat} {ret : Option FieldType} {rm : Room} {as' : Array Value} {Q : Option Value → Heap → List Loc → Prop}
    (hown : s.vm.findClass own = some m.cls) (w1 : (Cond.methodLink own index y).before a0 Z = true) (w2 : (Cond.instanceMethod y).before a0 Z = true) (w5 : (Cond.privateMethod y).before a0 Z = true) (w7 : (Cond.selects C y' y').before a0 Z = true) (hcl : y'.cls = y.cls) (w3 : (Cond.initialized y.cls).before a0 Z = true) (w4 : (Cond.code y bytes maxL ret).before a0 Z = true)
    (hy : y.cls ≠ "java/lang/invoke/MethodHandle" ∧ y.cls ≠ "java/lang/invoke/VarHandle")
    (hM : MetFree l y (head1 [Cond.code y bytes maxL ret] rm) (fun a U => a = as' ∧ Z.Warmed39 U.vm ∧ U.heap = h) (fun _ _ _ _ _ => True) (fun _ U o U' => ∃ v L, o = .returned v ∧ Q v U'.heap L ∧ FrameEnd U o U' L rm.cells rm.slots))
    (hf : rm.frames + 1 ≤ R.frames) {W : Nat} (hl : W + (maxL + 11) + rm.locals ≤ R.locals) {pc : Nat} {ls : Array Slot} {a : Addr} {argsL rest : List Value} {C' : String} (E : Exa Z h a C') (hsize : ls.size = c.maxLocals) (hlen : ∀ sig, parseMethodDescriptor y.desc = some sig → argsL.length = sig.parameters.length)
    (has : (Value.ref a :: argsL).toArray = as') (hW : (rest.map fun v => v.category).sum ≤ W) (hd : decode c.code pc = .ok (.invokevirtual index, 3)) (eT : T.heap = h) (hcc : cells + rm.cells ≤ R.cells) (hss : slots + rm.slots ≤ R.slots) {P : Outcome → State → Prop}
    (k : ∀ T' L v, Stand p l e R s m args below meth c T' (locs ++ L) (cells + rm.cells) (slots + rm.slots) → Q v T'.heap L → Fin p e below (T'.setTop (mkF m (pc + 3) ls (v.toList ++ rest))) P) :
    Fin p e below (T.setTop (mkF m pc ls (argsL.reverse ++ .ref a :: rest))) P := by
  have hpr : s.PrivateAt y := Cond.privateMethod_at (mvP hZ w5 (args := #[]))
  have hsel : (Cond.selects y.cls y y).before args s = true := by
    obtain ⟨c2, r2, m2, q1, q2, q3, q4, kP, hkP, hkPi⟩ := Cond.selects_spec (mvT (args := args) hZ w7)
    exact selects_self_of_private (hcl ▸ findClass_of_methodNamed q3) hkP hkPi hpr (mvT hZ w2) hy
  obtain ⟨cq, q1, q2⟩ := E.cell
  obtain ⟨v, _, ⟨T', L', k', n'⟩, -, X', ⟨L, hQ, e1, e2, e3⟩, st⟩ := X.privateBack hx (y := y) hown (mvT hZ w1) (mvT hZ w2) hsel hpr (mvT hZ w4) hy (backOf (W := W) hM hZ w4 w3 hf hl) (g := mkF m pc ls (argsL.reverse ++ .ref a :: rest)) rfl hsize (Steps.refl _) (a := a) (by rw [eT]; exact q1) q2 (argsL := argsL) (rest := rest) hlen rfl
    (by show 2 * 0 + _ ≤ _; omega) hd (fun _ _ => ⟨has, eT, hcc, hss⟩)
  dsimp only [Pt.U, Pt.locs, Pt.cells, Pt.slots] at X' e1 e2 e3 st hQ
  subst e1 e2 e3
  exact go (fun t kt => st.trans kt) (k T' L v X' hQ)
end A
section B
variable {args : Array Value} {first s : State} {o : Option Outcome} {idx : List Nat} {a b : Term}
theorem eqR {y : Addr} (h : (Cond.eq a b).value args first o s idx = some true) (hb : b.eval args first o idx s = some (.ref y)) : a.eval args first o idx s = some (.ref y) := by
  obtain ⟨x', y', h1, h2, k1, k2⟩ := cmp_v (Or.inl h)
  cases hb.symm.trans h2
  have hx : x'.isRef = true := k2.2
  rw [h1, gotT (eq_R h1 hb hx rfl) h]
theorem eqI {y : Int32} (h : (Cond.eq a b).value args first o s idx = some true) (hb : b.eval args first o idx s = some (.int y)) : a.eval args first o idx s = some (.int y) := by
  obtain ⟨x', y', h1, h2, k1, k2⟩ := cmp_v (Or.inl h)
  cases hb.symm.trans h2
  obtain ⟨z, rfl⟩ := k2
  rw [h1, gotT (Cond.eq_ints h1 hb) h]
theorem len_at {y : Int32} (h : (Term.length a).eval args first o idx s = some (.int y)) : ∃ (x : Addr) (cell : Cell), a.eval args first o idx s = some (.ref x) ∧ s.arrayAt? x = some cell ∧ cell.slots.size < 2 ^ 31 ∧ cell.slots.size.toInt32 = y := by
  obtain ⟨b, cell, h1, h2, h3, h4⟩ := Jvm.Lib.length_spec h
  exact ⟨b, cell, h1, h2, h3, (Value.int.inj h4).symm⟩
end B
end Own
namespace Jvm.Pilot.@@N@@
open Jvm Jvm.ClassFile Sem Op Lib Jvm.Free Jvm.Stand Jvm.LawKit Jvm.RoadKit Bundle Jvm.Pilot.@@N@@.Jvm.D
def F_ce (c : Int32) : Int32 := if (255 : Int32) < c then 0 else 1
theorem own_ch (x : Int32) : ¬ (255 : Int32) < ((x &&& (255 : Int32)).toUInt32.toUInt16.toUInt32.toInt32) := by
  have h0 := c_and x 255 (by decide)
  have h1 := c_i2c (x &&& 255)
  rw [Int32.lt_iff_toInt_lt, show (255 : Int32).toInt = 255 by decide]
  rw [show (255 : Int32).toInt = 255 by decide] at h0
  omega
theorem d2_0 : decode jdk_43_method_3_code 0 = .ok (.iload_n 0, 1) := by decide +kernel
theorem d2_1 : decode jdk_43_method_3_code 1 = .ok (.sipush 255, 3) := by decide +kernel
theorem d2_4 : decode jdk_43_method_3_code 4 = .ok (.if_icmp .gt 7, 3) := by decide +kernel
theorem d2_7 : decode jdk_43_method_3_code 7 = .ok (.iconst 1, 1) := by decide +kernel
theorem d2_8 : decode jdk_43_method_3_code 8 = .ok (.goto 4, 3) := by decide +kernel
theorem d2_11 : decode jdk_43_method_3_code 11 = .ok (.iconst 0, 1) := by decide +kernel
theorem d2_12 : decode jdk_43_method_3_code 12 = .ok (.ireturn, 1) := by decide +kernel
theorem pn_2 : plainName "java/lang/StringLatin1" = true := by first | (simp [plainName, overriddenIn]; done) | decide +kernel
theorem ef_2 (m : MethodId) (p1 : Int32) : entryFrame m #[(.int p1)] 1 = mkF m 0 #[.val (.int p1)] [] := by first | (simp [entryFrame, mkF, argsToLocals, Value.category]; done) | rfl
def Q2 (Z : State) (p1 : Int32)  (h0 : Heap) (n0 : Nat) : Option Value → Heap → List Loc → Prop := fun v h L => v = some (.int (F_ce p1)) ∧ Fr n0 L ∧ h = h0
set_option maxRecDepth 65536 in
set_option maxHeartbeats 40000000 in
theorem rm2 (l : Launch) (Z : State) (a0 : Array Value) (hw : ∀ d ∈ tables_1, d.before a0 Z = true) (ws : List Jvm.Cond) (p1 : Int32)  (h0 : Heap) (n0 : Nat) (Z0 : n0 ≤ h0.size)  :
    MetFree l (⟨"java/lang/StringLatin1", "canEncode", "(C)Z"⟩ : MethodName) (head1 (Jvm.Cond.code (⟨"java/lang/StringLatin1", "canEncode", "(C)Z"⟩ : MethodName) jdk_43_method_3_code 1 (some .boolean) :: ws) ({ frames := 0, cells := 0, slots := 0, locals := 0 } : Room)) (fun a U => a = #[(.int p1)] ∧ Z.Warmed39 U.vm ∧ U.heap = h0) (fun _ _ _ _ _ => True) (fun _ U o U' => ∃ v L, o = .returned v ∧ (Q2 Z p1 h0 n0) v U'.heap L ∧ FrameEnd U o U' L ({ frames := 0, cells := 0, slots := 0, locals := 0 } : Room).cells ({ frames := 0, cells := 0, slots := 0, locals := 0 } : Room).slots) := by
  refine MetFree.of_bodySF (plainFor_of_name pn_2) hisR ?_
  intro p e s m args below meth c s₁ Bd hml0 hP hK
  obtain ⟨rfl, hZ, hh⟩ := hP
  have hx := Bd.exec
  have hby := Bd.bytes
  have hml : c.maxLocals = 1 := hml0
  have hown : s.vm.findClass "java/lang/StringLatin1" = some m.cls := findClass_of_methodNamed Bd.named
  have hnm := (name_of_methodNamed Bd.named Bd.method).1
  have X0 : Stand p l e ({ frames := 0, cells := 0, slots := 0, locals := 0 } : Room) s m #[(.int p1)] below meth c s₁ [] 0 0 := Stand.of_body Bd
  have e0 : s₁.heap = h0 := by rw [← hh, Bd.state]; rfl
  have N0 := Fr.nil n0
  show Own.Fin p e below _ (Own.Post s (Q2 Z p1 h0 n0) ({ frames := 0, cells := 0, slots := 0, locals := 0 } : Room).cells ({ frames := 0, cells := 0, slots := 0, locals := 0 } : Room).slots)
  refine Own.start (ef_2 m p1) ?_
  show Own.Fin p e below (s₁.setTop (mkF m 0 #[.val (.int p1)] [])) _
  refine Own.go (fun t k => XS.iloadN X0.here hx rfl (hb hby d2_0) rfl k) ?_
  show Own.Fin p e below (s₁.setTop (mkF m 1 #[.val (.int p1)] [(.int p1)])) _
  refine Own.go (fun t k => XS.sipush X0.here hx rfl (hb hby d2_1) k) ?_
  show Own.Fin p e below (s₁.setTop (mkF m 4 #[.val (.int p1)] [(.int (255 : Int32)), (.int p1)])) _
  by_cases hc4_0 : (255 : Int32) < p1
  · skip
    refine Own.go (fun t k => XS.icmpYes X0.here hx rfl (pc0 := 4) (pc' := 11) rfl (hb hby d2_4) rfl (tlt hc4_0).2.2.1 (by decide) (by decide) k) ?_
    show Own.Fin p e below (s₁.setTop (mkF m 11 #[.val (.int p1)] [])) _
    refine Own.go (fun t k => XS.iconst X0.here hx rfl (hb hby d2_11) k) ?_
    show Own.Fin p e below (s₁.setTop (mkF m 12 #[.val (.int p1)] [(.int (0 : Int32))])) _
    refine Own.retN X0 hx Bd.notSynchronized (t := .boolean) Bd.returns (by simp) (hb hby d2_12) (by decide) (by decide) ?_
    exact ⟨by rw [show F_ce p1 = (0 : Int32) by simp only [F_ce, hc4_0, if_true, if_false]]; rfl, N0, e0⟩
  · skip
    refine Own.go (fun t k => XS.icmpNo X0.here hx rfl (hb hby d2_4) rfl (flt hc4_0).2.2.1 k) ?_
    show Own.Fin p e below (s₁.setTop (mkF m 7 #[.val (.int p1)] [])) _
    refine Own.go (fun t k => XS.iconst X0.here hx rfl (hb hby d2_7) k) ?_
    show Own.Fin p e below (s₁.setTop (mkF m 8 #[.val (.int p1)] [(.int (1 : Int32))])) _
    refine Own.go (fun t k => XS.goto X0.here hx rfl (pc0 := 8) (pc' := 12) rfl (hb hby d2_8) (by decide) (by decide) k) ?_
    show Own.Fin p e below (s₁.setTop (mkF m 12 #[.val (.int p1)] [(.int (1 : Int32))])) _
    refine Own.retN X0 hx Bd.notSynchronized (t := .boolean) Bd.returns (by simp) (hb hby d2_12) (by decide) (by decide) ?_
    exact ⟨by rw [show F_ce p1 = (1 : Int32) by simp only [F_ce, hc4_0, if_true, if_false]]; rfl, N0, e0⟩
theorem d3_0 : decode jdk_43_method_46_code 0 = .ok (.iconst 1, 1) := by decide +kernel
theorem d3_1 : decode jdk_43_method_46_code 1 = .ok (.newarray .byte, 2) := by decide +kernel
theorem d3_3 : decode jdk_43_method_46_code 3 = .ok (.dup, 1) := by decide +kernel
theorem d3_4 : decode jdk_43_method_46_code 4 = .ok (.iconst 0, 1) := by decide +kernel
theorem d3_5 : decode jdk_43_method_46_code 5 = .ok (.iload_n 0, 1) := by decide +kernel
theorem d3_6 : decode jdk_43_method_46_code 6 = .ok (.i2b, 1) := by decide +kernel
theorem d3_7 : decode jdk_43_method_46_code 7 = .ok (.bastore, 1) := by decide +kernel
theorem d3_8 : decode jdk_43_method_46_code 8 = .ok (.areturn, 1) := by decide +kernel
theorem pn_3 : plainName "java/lang/StringLatin1" = true := by first | (simp [plainName, overriddenIn]; done) | decide +kernel
theorem ef_3 (m : MethodId) (p1 : Int32) : entryFrame m #[(.int p1)] 1 = mkF m 0 #[.val (.int p1)] [] := by first | (simp [entryFrame, mkF, argsToLocals, Value.category]; done) | rfl
def Q3 (Z : State) (p1 : Int32)  (h0 : Heap) (n0 : Nat) : Option Value → Heap → List Loc → Prop := fun v h L => ∃ b : Addr, n0 ≤ b ∧ v = some (.ref b) ∧ Fr n0 L ∧ Keep h0 h []
set_option maxRecDepth 65536 in
set_option maxHeartbeats 40000000 in
theorem rm3 (l : Launch) (Z : State) (a0 : Array Value) (hw : ∀ d ∈ tables_1, d.before a0 Z = true) (ws : List Jvm.Cond) (p1 : Int32)  (h0 : Heap) (n0 : Nat) (Z0 : n0 ≤ h0.size)  :
    MetFree l (⟨"java/lang/StringLatin1", "toBytes", "(C)[B"⟩ : MethodName) (head1 (Jvm.Cond.code (⟨"java/lang/StringLatin1", "toBytes", "(C)[B"⟩ : MethodName) jdk_43_method_46_code 1 (some (.array .byte)) :: ws) ({ frames := 0, cells := 1, slots := 1, locals := 0 } : Room)) (fun a U => a = #[(.int p1)] ∧ Z.Warmed39 U.vm ∧ U.heap = h0) (fun _ _ _ _ _ => True) (fun _ U o U' => ∃ v L, o = .returned v ∧ (Q3 Z p1 h0 n0) v U'.heap L ∧ FrameEnd U o U' L ({ frames := 0, cells := 1, slots := 1, locals := 0 } : Room).cells ({ frames := 0, cells := 1, slots := 1, locals := 0 } : Room).slots) := by
  refine MetFree.of_bodySF (plainFor_of_name pn_3) hisR ?_
  intro p e s m args below meth c s₁ Bd hml0 hP hK
  obtain ⟨rfl, hZ, hh⟩ := hP
  have hx := Bd.exec
  have hby := Bd.bytes
  have hml : c.maxLocals = 1 := hml0
  have hown : s.vm.findClass "java/lang/StringLatin1" = some m.cls := findClass_of_methodNamed Bd.named
  have hnm := (name_of_methodNamed Bd.named Bd.method).1
  have X0 : Stand p l e ({ frames := 0, cells := 1, slots := 1, locals := 0 } : Room) s m #[(.int p1)] below meth c s₁ [] 0 0 := Stand.of_body Bd
  have e0 : s₁.heap = h0 := by rw [← hh, Bd.state]; rfl
  have N0 := Fr.nil n0
  show Own.Fin p e below _ (Own.Post s (Q3 Z p1 h0 n0) ({ frames := 0, cells := 1, slots := 1, locals := 0 } : Room).cells ({ frames := 0, cells := 1, slots := 1, locals := 0 } : Room).slots)
  refine Own.start (ef_3 m p1) ?_
  show Own.Fin p e below (s₁.setTop (mkF m 0 #[.val (.int p1)] [])) _
  refine Own.go (fun t k => XS.iconst X0.here hx rfl (hb hby d3_0) k) ?_
  show Own.Fin p e below (s₁.setTop (mkF m 1 #[.val (.int p1)] [(.int (1 : Int32))])) _
  refine Own.newA X0 hx hZ (hw _ (List.mem_of_getElem? (i := 14) rfl)) e0 (hb hby d3_1) (by decide) 1 (by decide) (by decide) (by decide) (by decide) ?_
  intro T1 h1 b1 k1 X1 e1 E1 gb1 V1
  have ge1 : n0 ≤ b1 := by rw [gb1]; exact Z0
  have sz_b1 : h0.size ≤ b1 := Nat.le_trans (Keep.refl h0 []).1 (Nat.le_of_eq gb1.symm)
  have Z1 : n0 ≤ h1.size := Nat.le_trans Z0 E1.1
  have K1 := (Keep.refl h0 []).ext E1
  have Vp1 : Arv Z h1 b1 k1 .byte (1 : Int32) [(.int (0 : Int32))] (.int (0 : Int32)) := Arv.pad V1 (pad_rep [] (.int (0 : Int32)) 1)
  show Own.Fin p e below (T1.setTop (mkF m 3 #[.val (.int p1)] [(.ref b1)])) _
  refine Own.go (fun t k => XS.dup X1.here hx rfl (hb hby d3_3) rfl rfl k) ?_
  show Own.Fin p e below (T1.setTop (mkF m 4 #[.val (.int p1)] [(.ref b1), (.ref b1)])) _
  refine Own.go (fun t k => XS.iconst X1.here hx rfl (hb hby d3_4) k) ?_
  show Own.Fin p e below (T1.setTop (mkF m 5 #[.val (.int p1)] [(.int (0 : Int32)), (.ref b1), (.ref b1)])) _
  refine Own.go (fun t k => XS.iloadN X1.here hx rfl (hb hby d3_5) rfl k) ?_
  show Own.Fin p e below (T1.setTop (mkF m 6 #[.val (.int p1)] [(.int p1), (.int (0 : Int32)), (.ref b1), (.ref b1)])) _
  refine Own.go (fun t k => XS.i2b X1.here hx rfl (hb hby d3_6) rfl k) ?_
  show Own.Fin p e below (T1.setTop (mkF m 7 #[.val (.int p1)] [(.int ((p1).toInt8.toInt32)), (.int (0 : Int32)), (.ref b1), (.ref b1)])) _
  refine Own.stB X1 hx hZ e1 Vp1 (hb hby d3_7) ⟨by decide, by decide⟩ 0 rfl (Nat.le_of_ble_eq_true rfl) ?_
  intro T2 h2 X2 e2 W2 V2
  have N2 := Fr.snoc X2 N0 ge1
  have Z2 : n0 ≤ h2.size := by rw [W2.size]; exact Z1
  have K2 := K1.wr W2 (Or.inr sz_b1)
  have Vq2 : Arv Z h2 b1 k1 .byte (1 : Int32) [(.int (nar .byte ((p1).toInt8.toInt32)))] (.int (0 : Int32)) := V2
  show Own.Fin p e below (T2.setTop (mkF m 8 #[.val (.int p1)] [(.ref b1)])) _
  refine Own.retR X2 hx Bd.notSynchronized Bd.returns rfl rfl (hb hby d3_8) (by decide) (by decide) ?_
  exact ⟨b1, ge1, rfl, N2, by rw [e2]; exact K2⟩
theorem d4_0 : decode jdk_42_method_151_code 0 = .ok (.aload_n 0, 1) := by decide +kernel
theorem d4_1 : decode jdk_42_method_151_code 1 = .ok (.invokespecial 1, 3) := by decide +kernel
theorem d4_4 : decode jdk_42_method_151_code 4 = .ok (.aload_n 0, 1) := by decide +kernel
theorem d4_5 : decode jdk_42_method_151_code 5 = .ok (.aload_n 1, 1) := by decide +kernel
theorem d4_6 : decode jdk_42_method_151_code 6 = .ok (.putfield 9, 3) := by decide +kernel
theorem d4_9 : decode jdk_42_method_151_code 9 = .ok (.aload_n 0, 1) := by decide +kernel
theorem d4_10 : decode jdk_42_method_151_code 10 = .ok (.iload_n 2, 1) := by decide +kernel
theorem d4_11 : decode jdk_42_method_151_code 11 = .ok (.putfield 15, 3) := by decide +kernel
theorem d4_14 : decode jdk_42_method_151_code 14 = .ok (.return_, 1) := by decide +kernel
theorem pn_4 : plainName "java/lang/String" = true := by first | (simp [plainName, overriddenIn]; done) | decide +kernel
theorem ef_4 (m : MethodId) (a1 : Addr) (a2 : Addr) (p3 : Int32) : entryFrame m #[(.ref a1), (.ref a2), (.int p3)] 3 = mkF m 0 #[.val (.ref a1), .val (.ref a2), .val (.int p3)] [] := by first | (simp [entryFrame, mkF, argsToLocals, Value.category]; done) | rfl
def Q4 (Z : State) (a1 : Addr) (a2 : Addr) (p3 : Int32)  (h0 : Heap) (n0 : Nat) : Option Value → Heap → List Loc → Prop := fun v h L => v = none ∧ Fr n0 L ∧ Keep h0 h [a1]
set_option maxRecDepth 65536 in
set_option maxHeartbeats 40000000 in
theorem rm4 (l : Launch) (Z : State) (a0 : Array Value) (hw : ∀ d ∈ tables_1, d.before a0 Z = true) (ws : List Jvm.Cond) (a1 : Addr) (a2 : Addr) (p3 : Int32)  (h0 : Heap) (n0 : Nat) (Z0 : n0 ≤ h0.size) (EA : Exa Z h0 a1 "java/lang/String") (FV : Fld Z h0 a1 "java/lang/String" "value" "[B" .null) (FC : Fld Z h0 a1 "java/lang/String" "coder" "B" (.int (0 : Int32))) (ga : n0 ≤ a1) :
    MetFree l (⟨"java/lang/String", "<init>", "([BB)V"⟩ : MethodName) (head1 (Jvm.Cond.code (⟨"java/lang/String", "<init>", "([BB)V"⟩ : MethodName) jdk_42_method_151_code 3 none :: ws) ({ frames := 1, cells := 0, slots := 0, locals := 12 } : Room)) (fun a U => a = #[(.ref a1), (.ref a2), (.int p3)] ∧ Z.Warmed39 U.vm ∧ U.heap = h0) (fun _ _ _ _ _ => True) (fun _ U o U' => ∃ v L, o = .returned v ∧ (Q4 Z a1 a2 p3 h0 n0) v U'.heap L ∧ FrameEnd U o U' L ({ frames := 1, cells := 0, slots := 0, locals := 12 } : Room).cells ({ frames := 1, cells := 0, slots := 0, locals := 12 } : Room).slots) := by
  refine MetFree.of_bodySF (plainFor_of_name pn_4) hisR ?_
  intro p e s m args below meth c s₁ Bd hml0 hP hK
  obtain ⟨rfl, hZ, hh⟩ := hP
  have hx := Bd.exec
  have hby := Bd.bytes
  have hml : c.maxLocals = 3 := hml0
  have hown : s.vm.findClass "java/lang/String" = some m.cls := findClass_of_methodNamed Bd.named
  have hnm := (name_of_methodNamed Bd.named Bd.method).1
  have X0 : Stand p l e ({ frames := 1, cells := 0, slots := 0, locals := 12 } : Room) s m #[(.ref a1), (.ref a2), (.int p3)] below meth c s₁ [] 0 0 := Stand.of_body Bd
  have e0 : s₁.heap = h0 := by rw [← hh, Bd.state]; rfl
  have N0 := Fr.nil n0
  show Own.Fin p e below _ (Own.Post s (Q4 Z a1 a2 p3 h0 n0) ({ frames := 1, cells := 0, slots := 0, locals := 12 } : Room).cells ({ frames := 1, cells := 0, slots := 0, locals := 12 } : Room).slots)
  refine Own.start (ef_4 m a1 a2 p3) ?_
  show Own.Fin p e below (s₁.setTop (mkF m 0 #[.val (.ref a1), .val (.ref a2), .val (.int p3)] [])) _
  refine Own.go (fun t k => XS.aloadN X0.here hx rfl (hb hby d4_0) rfl rfl k) ?_
  show Own.Fin p e below (s₁.setTop (mkF m 1 #[.val (.ref a1), .val (.ref a2), .val (.int p3)] [(.ref a1)])) _
  obtain ⟨T1, X1, e1, st1⟩ := initO X0 hx hZ hown (hw _ (List.mem_of_getElem? (i := 19) rfl)) (hw _ (List.mem_of_getElem? (i := 20) rfl)) (hw _ (List.mem_of_getElem? (i := 21) rfl)) e0 (g := (mkF m 1 #[.val (.ref a1), .val (.ref a2), .val (.int p3)] [(.ref a1)])) rfl (by rw [hml]; rfl) rfl (hb hby d4_1) (by decide) (W := 0) (by show 2 * 0 + _ ≤ _; exact Nat.le_of_eq rfl) (by decide)
  refine Own.go st1 ?_
  show Own.Fin p e below (T1.setTop (mkF m 4 #[.val (.ref a1), .val (.ref a2), .val (.int p3)] [])) _
  refine Own.go (fun t k => XS.aloadN X1.here hx rfl (hb hby d4_4) rfl rfl k) ?_
  show Own.Fin p e below (T1.setTop (mkF m 5 #[.val (.ref a1), .val (.ref a2), .val (.int p3)] [(.ref a1)])) _
  refine Own.go (fun t k => XS.aloadN X1.here hx rfl (hb hby d4_5) rfl rfl k) ?_
  show Own.Fin p e below (T1.setTop (mkF m 6 #[.val (.ref a1), .val (.ref a2), .val (.int p3)] [(.ref a2), (.ref a1)])) _
  obtain ⟨T2, h2, X2, e2, W2, st2⟩ := putF X1 hx hZ hown (host := "") (Or.inl (hw _ (List.mem_of_getElem? (i := 22) rfl))) Via.refl e1 FV EA (Or.inr ⟨(hw _ (List.mem_of_getElem? (i := 23) rfl)), rfl, hnm⟩) (hw _ (List.mem_of_getElem? (i := 10) rfl)) (ty := (.array .byte)) (by decide) rfl rfl (g := (mkF m 6 #[.val (.ref a1), .val (.ref a2), .val (.int p3)] [(.ref a2), (.ref a1)])) rfl rfl (hb hby d4_6)
  refine Own.go st2 ?_
  have f3 := FV.same W2
  have N2 := Fr.snoc X2 N0 ga
  have Z2 : n0 ≤ h2.size := by rw [W2.size]; exact Z0
  have f4 := EA.wr W2
  have f5 := FC.other W2 (Or.inr (slot_ne (Or.inr (hw _ (List.mem_of_getElem? (i := 25) rfl))) (Or.inr (hw _ (List.mem_of_getElem? (i := 23) rfl))) (by decide) (t := .byte) (t' := (.array .byte)) (by decide) (by decide)))
  have K2 := (Keep.refl h0 [a1]).wr W2 (Or.inl (List.mem_cons_self ..))
  show Own.Fin p e below (T2.setTop (mkF m 9 #[.val (.ref a1), .val (.ref a2), .val (.int p3)] [])) _
  refine Own.go (fun t k => XS.aloadN X2.here hx rfl (hb hby d4_9) rfl rfl k) ?_
  show Own.Fin p e below (T2.setTop (mkF m 10 #[.val (.ref a1), .val (.ref a2), .val (.int p3)] [(.ref a1)])) _
  refine Own.go (fun t k => XS.iloadN X2.here hx rfl (hb hby d4_10) rfl k) ?_
  show Own.Fin p e below (T2.setTop (mkF m 11 #[.val (.ref a1), .val (.ref a2), .val (.int p3)] [(.int p3), (.ref a1)])) _
  obtain ⟨T6, h6, X6, e6, W6, st6⟩ := putFN X2 hx hZ hown (hw _ (List.mem_of_getElem? (i := 24) rfl)) Via.refl e2 f5 f4 (Or.inr ⟨(hw _ (List.mem_of_getElem? (i := 25) rfl)), rfl, hnm⟩) (hw _ (List.mem_of_getElem? (i := 10) rfl)) (ty := .byte) (v' := (.int (nar .byte p3))) (by decide) rfl (fits_nar_byte _) (g := (mkF m 11 #[.val (.ref a1), .val (.ref a2), .val (.int p3)] [(.int p3), (.ref a1)])) rfl rfl (hb hby d4_11)
  refine Own.go st6 ?_
  have f7 := f5.same W6
  have N6 := Fr.snoc X6 N2 ga
  have Z6 : n0 ≤ h6.size := by rw [W6.size]; exact Z2
  have f8 := f4.wr W6
  have f9 := f3.other W6 (Or.inr (slot_ne (Or.inr (hw _ (List.mem_of_getElem? (i := 23) rfl))) (Or.inr (hw _ (List.mem_of_getElem? (i := 25) rfl))) (by decide) (t := (.array .byte)) (t' := .byte) (by decide) (by decide)))
  have K6 := K2.wr W6 (Or.inl (List.mem_cons_self ..))
  show Own.Fin p e below (T6.setTop (mkF m 14 #[.val (.ref a1), .val (.ref a2), .val (.int p3)] [])) _
  refine Own.retV X6 hx Bd.notSynchronized Bd.returns (hb hby d4_14) (by decide) (by decide) ?_
  exact ⟨rfl, N6, by rw [e6]; exact K6⟩
theorem d1_0 : decode jdk_42_method_139_code 0 = .ok (.getstatic 38, 3) := by decide +kernel
theorem d1_3 : decode jdk_42_method_139_code 3 = .ok (.ifCond .eq 23, 3) := by decide +kernel
theorem d1_6 : decode jdk_42_method_139_code 6 = .ok (.iload_n 0, 1) := by decide +kernel
theorem d1_7 : decode jdk_42_method_139_code 7 = .ok (.invokestatic 1015, 3) := by decide +kernel
theorem d1_10 : decode jdk_42_method_139_code 10 = .ok (.ifCond .eq 16, 3) := by decide +kernel
theorem d1_13 : decode jdk_42_method_139_code 13 = .ok (.new 10, 3) := by decide +kernel
theorem d1_16 : decode jdk_42_method_139_code 16 = .ok (.dup, 1) := by decide +kernel
theorem d1_17 : decode jdk_42_method_139_code 17 = .ok (.iload_n 0, 1) := by decide +kernel
theorem d1_18 : decode jdk_42_method_139_code 18 = .ok (.invokestatic 1018, 3) := by decide +kernel
theorem d1_21 : decode jdk_42_method_139_code 21 = .ok (.iconst 0, 1) := by decide +kernel
theorem d1_22 : decode jdk_42_method_139_code 22 = .ok (.invokespecial 209, 3) := by decide +kernel
theorem d1_25 : decode jdk_42_method_139_code 25 = .ok (.areturn, 1) := by decide +kernel
theorem pd_0 : parseMethodDescriptor "(C)Z" = some ⟨[.char], some .boolean⟩ := by decide +kernel
theorem pd_1 : parseMethodDescriptor "(C)[B" = some ⟨[.char], some (.array .byte)⟩ := by decide +kernel
theorem pd_2 : parseMethodDescriptor "([BB)V" = some ⟨[(.array .byte), .byte], none⟩ := by decide +kernel
theorem pn_1 : plainName "java/lang/String" = true := by first | (simp [plainName, overriddenIn]; done) | decide +kernel
theorem ef_1 (m : MethodId) (p1 : Int32) : entryFrame m #[(.int p1)] 1 = mkF m 0 #[.val (.int p1)] [] := by first | (simp [entryFrame, mkF, argsToLocals, Value.category]; done) | rfl
def Q1 (Z : State) (p1 : Int32) (cs : Int32) (h0 : Heap) (n0 : Nat) : Option Value → Heap → List Loc → Prop := fun v h L => ∃ b : Addr, n0 ≤ b ∧ v = some (.ref b) ∧ Fr n0 L ∧ Keep h0 h []
set_option maxRecDepth 65536 in
set_option maxHeartbeats 40000000 in
theorem rm1 (l : Launch) (Z : State) (a0 : Array Value) (hw : ∀ d ∈ tables_1, d.before a0 Z = true) (ws : List Jvm.Cond) (p1 : Int32) (cs : Int32) (h0 : Heap) (n0 : Nat) (Z0 : n0 ≤ h0.size) (O0 : Old Z n0 h0) (SC : Sta Z Z.heap "java/lang/String" "COMPACT_STRINGS" "Z" (.int cs)) (hcs : ¬ cs = (0 : Int32)) (hp : ¬ (255 : Int32) < p1) :
    MetFree l (⟨"java/lang/String", "valueOf", "(C)Ljava/lang/String;"⟩ : MethodName) (head1 (Jvm.Cond.code (⟨"java/lang/String", "valueOf", "(C)Ljava/lang/String;"⟩ : MethodName) jdk_42_method_139_code 1 (some (.object "java/lang/String")) :: ws) ({ frames := 2, cells := 2, slots := 5, locals := 40 } : Room)) (fun a U => a = #[(.int p1)] ∧ Z.Warmed39 U.vm ∧ U.heap = h0) (fun _ _ _ _ _ => True) (fun _ U o U' => ∃ v L, o = .returned v ∧ (Q1 Z p1 cs h0 n0) v U'.heap L ∧ FrameEnd U o U' L ({ frames := 2, cells := 2, slots := 5, locals := 40 } : Room).cells ({ frames := 2, cells := 2, slots := 5, locals := 40 } : Room).slots) := by
  refine MetFree.of_bodySF (plainFor_of_name pn_1) hisR ?_
  intro p e s m args below meth c s₁ Bd hml0 hP hK
  obtain ⟨rfl, hZ, hh⟩ := hP
  have hx := Bd.exec
  have hby := Bd.bytes
  have hml : c.maxLocals = 1 := hml0
  have hown : s.vm.findClass "java/lang/String" = some m.cls := findClass_of_methodNamed Bd.named
  have hnm := (name_of_methodNamed Bd.named Bd.method).1
  have X0 : Stand p l e ({ frames := 2, cells := 2, slots := 5, locals := 40 } : Room) s m #[(.int p1)] below meth c s₁ [] 0 0 := Stand.of_body Bd
  have e0 : s₁.heap = h0 := by rw [← hh, Bd.state]; rfl
  have N0 := Fr.nil n0
  show Own.Fin p e below _ (Own.Post s (Q1 Z p1 cs h0 n0) ({ frames := 2, cells := 2, slots := 5, locals := 40 } : Room).cells ({ frames := 2, cells := 2, slots := 5, locals := 40 } : Room).slots)
  refine Own.start (ef_1 m p1) ?_
  show Own.Fin p e below (s₁.setTop (mkF m 0 #[.val (.int p1)] [])) _
  obtain ⟨T1, X1, e1, st1⟩ := getS2 X0 hx hZ hown (host := "") (Or.inl (hw _ (List.mem_of_getElem? (i := 4) rfl))) Via.refl e0 (SC.ext O0.2) (g := (mkF m 0 #[.val (.int p1)] [])) rfl (hb hby d1_0)
  refine Own.go st1 ?_
  show Own.Fin p e below (T1.setTop (mkF m 3 #[.val (.int p1)] [(.int cs)])) _
  have hc3_1 : ¬ (cs = (0 : Int32)) := hcs
  refine Own.go (fun t k => XS.ifNo X1.here hx rfl (hb hby d1_3) rfl ((if0 _ _).trans (feq hc3_1).1) k) ?_
  show Own.Fin p e below (T1.setTop (mkF m 6 #[.val (.int p1)] [])) _
  refine Own.go (fun t k => XS.iloadN X1.here hx rfl (hb hby d1_6) rfl k) ?_
  show Own.Fin p e below (T1.setTop (mkF m 7 #[.val (.int p1)] [(.int p1)])) _
  refine Own.cS X1 hx hZ hown (hw _ (List.mem_of_getElem? (i := 5) rfl)) (hw _ (List.mem_of_getElem? (i := 6) rfl)) (hw _ (List.mem_of_getElem? (i := 7) rfl)) (hw _ (List.mem_of_getElem? (i := 8) rfl)) (by decide) (rm2 l Z a0 hw [] p1 h0 n0 Z0 ) (by decide) (W := 0) (by decide) (argsL := [(.int p1)]) (rest := []) (by rw [hml]; rfl) (lenOf pd_0 rfl) rfl (Nat.le_of_eq rfl) (hb hby d1_7) e1 (by decide) (by decide) ?_
  intro T3 L3 v3 X3 hQ3
  obtain ⟨rfl, N3q, e3⟩ := hQ3
  have N3 := Fr.app N0 N3q
  show Own.Fin p e below (T3.setTop (mkF m 10 #[.val (.int p1)] [(.int (F_ce p1))])) _
  have hc10_3 : ¬ ((F_ce p1) = (0 : Int32)) := by rw [F_ce, if_neg hp]; decide
  refine Own.go (fun t k => XS.ifNo X3.here hx rfl (hb hby d1_10) rfl ((if0 _ _).trans (feq hc10_3).1) k) ?_
  show Own.Fin p e below (T3.setTop (mkF m 13 #[.val (.int p1)] [])) _
  obtain ⟨T5, h5, X5, e5, E5, A5, D5, -, st5⟩ := newO X3 hx hZ hown (hw _ (List.mem_of_getElem? (i := 9) rfl)) (hw _ (List.mem_of_getElem? (i := 10) rfl)) (hw _ (List.mem_of_getElem? (i := 2) rfl)) e3 (g := (mkF m 13 #[.val (.int p1)] [])) rfl (hb hby d1_13) (by decide) (by decide)
  obtain ⟨b5, gb5⟩ : ∃ z, z = h0.size := ⟨_, rfl⟩
  rw [← gb5] at A5 D5 st5
  refine Own.go st5 ?_
  have ge5 : n0 ≤ b5 := by rw [gb5]; exact Z0
  have sz_b5 : h0.size ≤ b5 := Nat.le_trans (Keep.refl h0 []).1 (Nat.le_of_eq gb5.symm)
  have Z5 : n0 ≤ h5.size := Nat.le_trans Z0 E5.1
  have K5 := (Keep.refl h0 []).ext E5
  have O5 := O0.ext E5
  have fl6 : Fld Z h5 b5 "java/lang/String" "value" "[B" .null := D5 (Or.inr (hw _ (List.mem_of_getElem? (i := 23) rfl))) (ty := (.array .byte)) (by decide)
  have fl7 : Fld Z h5 b5 "java/lang/String" "coder" "B" (.int (0 : Int32)) := D5 (Or.inr (hw _ (List.mem_of_getElem? (i := 25) rfl))) (ty := .byte) (by decide)
  show Own.Fin p e below (T5.setTop (mkF m 16 #[.val (.int p1)] [(.ref b5)])) _
  refine Own.go (fun t k => XS.dup X5.here hx rfl (hb hby d1_16) rfl rfl k) ?_
  show Own.Fin p e below (T5.setTop (mkF m 17 #[.val (.int p1)] [(.ref b5), (.ref b5)])) _
  refine Own.go (fun t k => XS.iloadN X5.here hx rfl (hb hby d1_17) rfl k) ?_
  show Own.Fin p e below (T5.setTop (mkF m 18 #[.val (.int p1)] [(.int p1), (.ref b5), (.ref b5)])) _
  refine Own.cS X5 hx hZ hown (hw _ (List.mem_of_getElem? (i := 11) rfl)) (hw _ (List.mem_of_getElem? (i := 12) rfl)) (hw _ (List.mem_of_getElem? (i := 7) rfl)) (hw _ (List.mem_of_getElem? (i := 13) rfl)) (by decide) (rm3 l Z a0 hw [] p1 h5 n0 Z5) (by decide) (W := 2) (by decide) (argsL := [(.int p1)]) (rest := [(.ref b5), (.ref b5)]) (by rw [hml]; rfl) (lenOf pd_1 rfl) rfl (Nat.le_of_eq rfl) (hb hby d1_18) e5 (by decide) (by decide) ?_
  intro T8 L8 v8 X8 hQ8
  obtain ⟨b8, ge8, rfl, N8q, K8q⟩ := hQ8
  have N8 := Fr.app N3 N8q
  have f9 := A5.keep K8q
  have f10 := fl6.keep K8q nin0
  have f11 := fl7.keep K8q nin0
  have Z8 : n0 ≤ T8.heap.size := Nat.le_trans Z5 K8q.1
  have KK8 := K5.trans K8q all0
  have O8 := O5.keep K8q all0
  show Own.Fin p e below (T8.setTop (mkF m 21 #[.val (.int p1)] [(.ref b8), (.ref b5), (.ref b5)])) _
  refine Own.go (fun t k => XS.iconst X8.here hx rfl (hb hby d1_21) k) ?_
  show Own.Fin p e below (T8.setTop (mkF m 22 #[.val (.int p1)] [(.int (0 : Int32)), (.ref b8), (.ref b5), (.ref b5)])) _
  refine Own.cI X8 hx hZ rfl hown (hw _ (List.mem_of_getElem? (i := 15) rfl)) (hw _ (List.mem_of_getElem? (i := 16) rfl)) (hw _ (List.mem_of_getElem? (i := 2) rfl)) (hw _ (List.mem_of_getElem? (i := 18) rfl)) (by decide) (rm4 l Z a0 hw [] b5 b8 (0 : Int32) T8.heap n0 Z8 f9 f10 f11 ge5) (by decide) (W := 1) (by decide) (argsL := [(.ref b8), (.int (0 : Int32))]) (rest := [(.ref b5)]) (by rw [hml]; rfl) (lenOf pd_2 rfl) rfl (Nat.le_of_eq rfl) (hb hby d1_22) rfl (by decide) (by decide) ?_
  intro T12 L12 v12 X12 hQ12
  obtain ⟨rfl, N12q, K12q⟩ := hQ12
  have N12 := Fr.app N8 N12q
  have f13 := f9.keep K12q
  have Z12 : n0 ≤ T12.heap.size := Nat.le_trans Z8 K12q.1
  have KK12 := KK8.trans K12q (allS (Or.inr sz_b5) all0)
  have O12 := O8.keep K12q (allS ge5 all0)
  show Own.Fin p e below (T12.setTop (mkF m 25 #[.val (.int p1)] [(.ref b5)])) _
  refine Own.retR X12 hx Bd.notSynchronized Bd.returns rfl rfl (hb hby d1_25) (by decide) (by decide) ?_
  exact ⟨b5, ge5, rfl, N12, KK12⟩
theorem d6_0 : decode prog_12_method_1_code 0 = .ok (.aload_n 0, 1) := by decide +kernel
theorem d6_1 : decode prog_12_method_1_code 1 = .ok (.invokespecial 1, 3) := by decide +kernel
theorem d6_4 : decode prog_12_method_1_code 4 = .ok (.aload_n 0, 1) := by decide +kernel
theorem d6_5 : decode prog_12_method_1_code 5 = .ok (.aload_n 1, 1) := by decide +kernel
theorem d6_6 : decode prog_12_method_1_code 6 = .ok (.putfield 7, 3) := by decide +kernel
theorem d6_9 : decode prog_12_method_1_code 9 = .ok (.aload_n 0, 1) := by decide +kernel
theorem d6_10 : decode prog_12_method_1_code 10 = .ok (.aload_n 2, 1) := by decide +kernel
theorem d6_11 : decode prog_12_method_1_code 11 = .ok (.putfield 13, 3) := by decide +kernel
theorem d6_14 : decode prog_12_method_1_code 14 = .ok (.aload_n 0, 1) := by decide +kernel
theorem d6_15 : decode prog_12_method_1_code 15 = .ok (.aload_n 3, 1) := by decide +kernel
theorem d6_16 : decode prog_12_method_1_code 16 = .ok (.putfield 17, 3) := by decide +kernel
theorem d6_19 : decode prog_12_method_1_code 19 = .ok (.aload_n 0, 1) := by decide +kernel
theorem d6_20 : decode prog_12_method_1_code 20 = .ok (.aload 4, 2) := by decide +kernel
theorem d6_22 : decode prog_12_method_1_code 22 = .ok (.putfield 20, 3) := by decide +kernel
theorem d6_25 : decode prog_12_method_1_code 25 = .ok (.aload_n 0, 1) := by decide +kernel
theorem d6_26 : decode prog_12_method_1_code 26 = .ok (.iload 5, 2) := by decide +kernel
theorem d6_28 : decode prog_12_method_1_code 28 = .ok (.putfield 24, 3) := by decide +kernel
theorem d6_31 : decode prog_12_method_1_code 31 = .ok (.return_, 1) := by decide +kernel
theorem pn_6 : plainName "com/example/arachne/arachne/Node" = true := by first | (simp [plainName, overriddenIn]; done) | decide +kernel
theorem ef_6 (m : MethodId) (a1 : Addr) (a2 : Addr) (a3 : Addr) (p4 : Int32) : entryFrame m #[(.ref a1), (.ref a2), .null, (.ref a3), .null, (.int p4)] 6 = mkF m 0 #[.val (.ref a1), .val (.ref a2), .val .null, .val (.ref a3), .val .null, .val (.int p4)] [] := by first | (simp [entryFrame, mkF, argsToLocals, Value.category]; done) | rfl
def Q6 (Z : State) (a1 : Addr) (a2 : Addr) (a3 : Addr) (p4 : Int32)  (h0 : Heap) (n0 : Nat) : Option Value → Heap → List Loc → Prop := fun v h L => v = none ∧ Fr n0 L ∧ Keep h0 h [a1]
set_option maxRecDepth 65536 in
set_option maxHeartbeats 40000000 in
theorem rm6 (l : Launch) (Z : State) (a0 : Array Value) (hw : ∀ d ∈ tables_1, d.before a0 Z = true) (ws : List Jvm.Cond) (a1 : Addr) (a2 : Addr) (a3 : Addr) (p4 : Int32)  (h0 : Heap) (n0 : Nat) (Z0 : n0 ≤ h0.size) (EA : Exa Z h0 a1 "com/example/arachne/arachne/Node") (F_id : Fld Z h0 a1 "com/example/arachne/arachne/Node" "id" "Ljava/lang/String;" .null) (F_size : Fld Z h0 a1 "com/example/arachne/arachne/Node" "size" "Lcom/example/arachne/arachne/NodeSize;" .null) (F_label : Fld Z h0 a1 "com/example/arachne/arachne/Node" "label" "Ljava/lang/String;" .null) (F_pin : Fld Z h0 a1 "com/example/arachne/arachne/Node" "pin" "Lcom/example/arachne/arachne/Point;" .null) (F_index : Fld Z h0 a1 "com/example/arachne/arachne/Node" "index" "I" (.int (0 : Int32))) (ga : n0 ≤ a1) :
    MetFree l (⟨"com/example/arachne/arachne/Node", "<init>", "(Ljava/lang/String;Lcom/example/arachne/arachne/NodeSize;Ljava/lang/String;Lcom/example/arachne/arachne/Point;I)V"⟩ : MethodName) (head1 (Jvm.Cond.code (⟨"com/example/arachne/arachne/Node", "<init>", "(Ljava/lang/String;Lcom/example/arachne/arachne/NodeSize;Ljava/lang/String;Lcom/example/arachne/arachne/Point;I)V"⟩ : MethodName) prog_12_method_1_code 6 none :: ws) ({ frames := 1, cells := 0, slots := 0, locals := 12 } : Room)) (fun a U => a = #[(.ref a1), (.ref a2), .null, (.ref a3), .null, (.int p4)] ∧ Z.Warmed39 U.vm ∧ U.heap = h0) (fun _ _ _ _ _ => True) (fun _ U o U' => ∃ v L, o = .returned v ∧ (Q6 Z a1 a2 a3 p4 h0 n0) v U'.heap L ∧ FrameEnd U o U' L ({ frames := 1, cells := 0, slots := 0, locals := 12 } : Room).cells ({ frames := 1, cells := 0, slots := 0, locals := 12 } : Room).slots) := by
  refine MetFree.of_bodySF (plainFor_of_name pn_6) hisR ?_
  intro p e s m args below meth c s₁ Bd hml0 hP hK
  obtain ⟨rfl, hZ, hh⟩ := hP
  have hx := Bd.exec
  have hby := Bd.bytes
  have hml : c.maxLocals = 6 := hml0
  have hown : s.vm.findClass "com/example/arachne/arachne/Node" = some m.cls := findClass_of_methodNamed Bd.named
  have hnm := (name_of_methodNamed Bd.named Bd.method).1
  have X0 : Stand p l e ({ frames := 1, cells := 0, slots := 0, locals := 12 } : Room) s m #[(.ref a1), (.ref a2), .null, (.ref a3), .null, (.int p4)] below meth c s₁ [] 0 0 := Stand.of_body Bd
  have e0 : s₁.heap = h0 := by rw [← hh, Bd.state]; rfl
  have N0 := Fr.nil n0
  show Own.Fin p e below _ (Own.Post s (Q6 Z a1 a2 a3 p4 h0 n0) ({ frames := 1, cells := 0, slots := 0, locals := 12 } : Room).cells ({ frames := 1, cells := 0, slots := 0, locals := 12 } : Room).slots)
  refine Own.start (ef_6 m a1 a2 a3 p4) ?_
  show Own.Fin p e below (s₁.setTop (mkF m 0 #[.val (.ref a1), .val (.ref a2), .val .null, .val (.ref a3), .val .null, .val (.int p4)] [])) _
  refine Own.go (fun t k => XS.aloadN X0.here hx rfl (hb hby d6_0) rfl rfl k) ?_
  show Own.Fin p e below (s₁.setTop (mkF m 1 #[.val (.ref a1), .val (.ref a2), .val .null, .val (.ref a3), .val .null, .val (.int p4)] [(.ref a1)])) _
  obtain ⟨T1, X1, e1, st1⟩ := initO X0 hx hZ hown (hw _ (List.mem_of_getElem? (i := 32) rfl)) (hw _ (List.mem_of_getElem? (i := 20) rfl)) (hw _ (List.mem_of_getElem? (i := 21) rfl)) e0 (g := (mkF m 1 #[.val (.ref a1), .val (.ref a2), .val .null, .val (.ref a3), .val .null, .val (.int p4)] [(.ref a1)])) rfl (by rw [hml]; rfl) rfl (hb hby d6_1) (by decide) (W := 0) (by show 2 * 0 + _ ≤ _; exact Nat.le_of_eq rfl) (by decide)
  refine Own.go st1 ?_
  show Own.Fin p e below (T1.setTop (mkF m 4 #[.val (.ref a1), .val (.ref a2), .val .null, .val (.ref a3), .val .null, .val (.int p4)] [])) _
  refine Own.go (fun t k => XS.aloadN X1.here hx rfl (hb hby d6_4) rfl rfl k) ?_
  show Own.Fin p e below (T1.setTop (mkF m 5 #[.val (.ref a1), .val (.ref a2), .val .null, .val (.ref a3), .val .null, .val (.int p4)] [(.ref a1)])) _
  refine Own.go (fun t k => XS.aloadN X1.here hx rfl (hb hby d6_5) rfl rfl k) ?_
  show Own.Fin p e below (T1.setTop (mkF m 6 #[.val (.ref a1), .val (.ref a2), .val .null, .val (.ref a3), .val .null, .val (.int p4)] [(.ref a2), (.ref a1)])) _
  obtain ⟨T2, h2, X2, e2, W2, st2⟩ := putF X1 hx hZ hown (host := "") (Or.inl (hw _ (List.mem_of_getElem? (i := 33) rfl))) Via.refl e1 F_id EA (Or.inr ⟨(hw _ (List.mem_of_getElem? (i := 34) rfl)), rfl, hnm⟩) (hw _ (List.mem_of_getElem? (i := 27) rfl)) (ty := (.object "java/lang/String")) (by decide) rfl rfl (g := (mkF m 6 #[.val (.ref a1), .val (.ref a2), .val .null, .val (.ref a3), .val .null, .val (.int p4)] [(.ref a2), (.ref a1)])) rfl rfl (hb hby d6_6)
  refine Own.go st2 ?_
  have f3 := F_id.same W2
  have N2 := Fr.snoc X2 N0 ga
  have Z2 : n0 ≤ h2.size := by rw [W2.size]; exact Z0
  have f4 := EA.wr W2
  have f5 := F_size.other W2 (Or.inr (slot_ne (Or.inr (hw _ (List.mem_of_getElem? (i := 36) rfl))) (Or.inr (hw _ (List.mem_of_getElem? (i := 34) rfl))) (by decide) (t := (.object "com/example/arachne/arachne/NodeSize")) (t' := (.object "java/lang/String")) (by decide) (by decide)))
  have f6 := F_label.other W2 (Or.inr (slot_ne (Or.inr (hw _ (List.mem_of_getElem? (i := 38) rfl))) (Or.inr (hw _ (List.mem_of_getElem? (i := 34) rfl))) (by decide) (t := (.object "java/lang/String")) (t' := (.object "java/lang/String")) (by decide) (by decide)))
  have f7 := F_pin.other W2 (Or.inr (slot_ne (Or.inr (hw _ (List.mem_of_getElem? (i := 40) rfl))) (Or.inr (hw _ (List.mem_of_getElem? (i := 34) rfl))) (by decide) (t := (.object "com/example/arachne/arachne/Point")) (t' := (.object "java/lang/String")) (by decide) (by decide)))
  have f8 := F_index.other W2 (Or.inr (slot_ne (Or.inr (hw _ (List.mem_of_getElem? (i := 42) rfl))) (Or.inr (hw _ (List.mem_of_getElem? (i := 34) rfl))) (by decide) (t := .int) (t' := (.object "java/lang/String")) (by decide) (by decide)))
  have K2 := (Keep.refl h0 [a1]).wr W2 (Or.inl (List.mem_cons_self ..))
  show Own.Fin p e below (T2.setTop (mkF m 9 #[.val (.ref a1), .val (.ref a2), .val .null, .val (.ref a3), .val .null, .val (.int p4)] [])) _
  refine Own.go (fun t k => XS.aloadN X2.here hx rfl (hb hby d6_9) rfl rfl k) ?_
  show Own.Fin p e below (T2.setTop (mkF m 10 #[.val (.ref a1), .val (.ref a2), .val .null, .val (.ref a3), .val .null, .val (.int p4)] [(.ref a1)])) _
  refine Own.go (fun t k => XS.aloadN X2.here hx rfl (hb hby d6_10) rfl rfl k) ?_
  show Own.Fin p e below (T2.setTop (mkF m 11 #[.val (.ref a1), .val (.ref a2), .val .null, .val (.ref a3), .val .null, .val (.int p4)] [.null, (.ref a1)])) _
  obtain ⟨T9, h9, X9, e9, W9, st9⟩ := putF X2 hx hZ hown (host := "") (Or.inl (hw _ (List.mem_of_getElem? (i := 35) rfl))) Via.refl e2 f5 f4 (Or.inr ⟨(hw _ (List.mem_of_getElem? (i := 36) rfl)), rfl, hnm⟩) (hw _ (List.mem_of_getElem? (i := 27) rfl)) (ty := (.object "com/example/arachne/arachne/NodeSize")) (by decide) rfl rfl (g := (mkF m 11 #[.val (.ref a1), .val (.ref a2), .val .null, .val (.ref a3), .val .null, .val (.int p4)] [.null, (.ref a1)])) rfl rfl (hb hby d6_11)
  refine Own.go st9 ?_
  have f10 := f5.same W9
  have N9 := Fr.snoc X9 N2 ga
  have Z9 : n0 ≤ h9.size := by rw [W9.size]; exact Z2
  have f11 := f4.wr W9
  have f12 := f3.other W9 (Or.inr (slot_ne (Or.inr (hw _ (List.mem_of_getElem? (i := 34) rfl))) (Or.inr (hw _ (List.mem_of_getElem? (i := 36) rfl))) (by decide) (t := (.object "java/lang/String")) (t' := (.object "com/example/arachne/arachne/NodeSize")) (by decide) (by decide)))
  have f13 := f6.other W9 (Or.inr (slot_ne (Or.inr (hw _ (List.mem_of_getElem? (i := 38) rfl))) (Or.inr (hw _ (List.mem_of_getElem? (i := 36) rfl))) (by decide) (t := (.object "java/lang/String")) (t' := (.object "com/example/arachne/arachne/NodeSize")) (by decide) (by decide)))
  have f14 := f7.other W9 (Or.inr (slot_ne (Or.inr (hw _ (List.mem_of_getElem? (i := 40) rfl))) (Or.inr (hw _ (List.mem_of_getElem? (i := 36) rfl))) (by decide) (t := (.object "com/example/arachne/arachne/Point")) (t' := (.object "com/example/arachne/arachne/NodeSize")) (by decide) (by decide)))
  have f15 := f8.other W9 (Or.inr (slot_ne (Or.inr (hw _ (List.mem_of_getElem? (i := 42) rfl))) (Or.inr (hw _ (List.mem_of_getElem? (i := 36) rfl))) (by decide) (t := .int) (t' := (.object "com/example/arachne/arachne/NodeSize")) (by decide) (by decide)))
  have K9 := K2.wr W9 (Or.inl (List.mem_cons_self ..))
  show Own.Fin p e below (T9.setTop (mkF m 14 #[.val (.ref a1), .val (.ref a2), .val .null, .val (.ref a3), .val .null, .val (.int p4)] [])) _
  refine Own.go (fun t k => XS.aloadN X9.here hx rfl (hb hby d6_14) rfl rfl k) ?_
  show Own.Fin p e below (T9.setTop (mkF m 15 #[.val (.ref a1), .val (.ref a2), .val .null, .val (.ref a3), .val .null, .val (.int p4)] [(.ref a1)])) _
  refine Own.go (fun t k => XS.aloadN X9.here hx rfl (hb hby d6_15) rfl rfl k) ?_
  show Own.Fin p e below (T9.setTop (mkF m 16 #[.val (.ref a1), .val (.ref a2), .val .null, .val (.ref a3), .val .null, .val (.int p4)] [(.ref a3), (.ref a1)])) _
  obtain ⟨T16, h16, X16, e16, W16, st16⟩ := putF X9 hx hZ hown (host := "") (Or.inl (hw _ (List.mem_of_getElem? (i := 37) rfl))) Via.refl e9 f13 f11 (Or.inr ⟨(hw _ (List.mem_of_getElem? (i := 38) rfl)), rfl, hnm⟩) (hw _ (List.mem_of_getElem? (i := 27) rfl)) (ty := (.object "java/lang/String")) (by decide) rfl rfl (g := (mkF m 16 #[.val (.ref a1), .val (.ref a2), .val .null, .val (.ref a3), .val .null, .val (.int p4)] [(.ref a3), (.ref a1)])) rfl rfl (hb hby d6_16)
  refine Own.go st16 ?_
  have f17 := f13.same W16
  have N16 := Fr.snoc X16 N9 ga
  have Z16 : n0 ≤ h16.size := by rw [W16.size]; exact Z9
  have f18 := f11.wr W16
  have f19 := f12.other W16 (Or.inr (slot_ne (Or.inr (hw _ (List.mem_of_getElem? (i := 34) rfl))) (Or.inr (hw _ (List.mem_of_getElem? (i := 38) rfl))) (by decide) (t := (.object "java/lang/String")) (t' := (.object "java/lang/String")) (by decide) (by decide)))
  have f20 := f10.other W16 (Or.inr (slot_ne (Or.inr (hw _ (List.mem_of_getElem? (i := 36) rfl))) (Or.inr (hw _ (List.mem_of_getElem? (i := 38) rfl))) (by decide) (t := (.object "com/example/arachne/arachne/NodeSize")) (t' := (.object "java/lang/String")) (by decide) (by decide)))
  have f21 := f14.other W16 (Or.inr (slot_ne (Or.inr (hw _ (List.mem_of_getElem? (i := 40) rfl))) (Or.inr (hw _ (List.mem_of_getElem? (i := 38) rfl))) (by decide) (t := (.object "com/example/arachne/arachne/Point")) (t' := (.object "java/lang/String")) (by decide) (by decide)))
  have f22 := f15.other W16 (Or.inr (slot_ne (Or.inr (hw _ (List.mem_of_getElem? (i := 42) rfl))) (Or.inr (hw _ (List.mem_of_getElem? (i := 38) rfl))) (by decide) (t := .int) (t' := (.object "java/lang/String")) (by decide) (by decide)))
  have K16 := K9.wr W16 (Or.inl (List.mem_cons_self ..))
  show Own.Fin p e below (T16.setTop (mkF m 19 #[.val (.ref a1), .val (.ref a2), .val .null, .val (.ref a3), .val .null, .val (.int p4)] [])) _
  refine Own.go (fun t k => XS.aloadN X16.here hx rfl (hb hby d6_19) rfl rfl k) ?_
  show Own.Fin p e below (T16.setTop (mkF m 20 #[.val (.ref a1), .val (.ref a2), .val .null, .val (.ref a3), .val .null, .val (.int p4)] [(.ref a1)])) _
  refine Own.go (fun t k => XS.aload X16.here hx rfl (hb hby d6_20) rfl rfl k) ?_
  show Own.Fin p e below (T16.setTop (mkF m 22 #[.val (.ref a1), .val (.ref a2), .val .null, .val (.ref a3), .val .null, .val (.int p4)] [.null, (.ref a1)])) _
  obtain ⟨T23, h23, X23, e23, W23, st23⟩ := putF X16 hx hZ hown (host := "") (Or.inl (hw _ (List.mem_of_getElem? (i := 39) rfl))) Via.refl e16 f21 f18 (Or.inr ⟨(hw _ (List.mem_of_getElem? (i := 40) rfl)), rfl, hnm⟩) (hw _ (List.mem_of_getElem? (i := 27) rfl)) (ty := (.object "com/example/arachne/arachne/Point")) (by decide) rfl rfl (g := (mkF m 22 #[.val (.ref a1), .val (.ref a2), .val .null, .val (.ref a3), .val .null, .val (.int p4)] [.null, (.ref a1)])) rfl rfl (hb hby d6_22)
  refine Own.go st23 ?_
  have f24 := f21.same W23
  have N23 := Fr.snoc X23 N16 ga
  have Z23 : n0 ≤ h23.size := by rw [W23.size]; exact Z16
  have f25 := f18.wr W23
  have f26 := f19.other W23 (Or.inr (slot_ne (Or.inr (hw _ (List.mem_of_getElem? (i := 34) rfl))) (Or.inr (hw _ (List.mem_of_getElem? (i := 40) rfl))) (by decide) (t := (.object "java/lang/String")) (t' := (.object "com/example/arachne/arachne/Point")) (by decide) (by decide)))
  have f27 := f20.other W23 (Or.inr (slot_ne (Or.inr (hw _ (List.mem_of_getElem? (i := 36) rfl))) (Or.inr (hw _ (List.mem_of_getElem? (i := 40) rfl))) (by decide) (t := (.object "com/example/arachne/arachne/NodeSize")) (t' := (.object "com/example/arachne/arachne/Point")) (by decide) (by decide)))
  have f28 := f17.other W23 (Or.inr (slot_ne (Or.inr (hw _ (List.mem_of_getElem? (i := 38) rfl))) (Or.inr (hw _ (List.mem_of_getElem? (i := 40) rfl))) (by decide) (t := (.object "java/lang/String")) (t' := (.object "com/example/arachne/arachne/Point")) (by decide) (by decide)))
  have f29 := f22.other W23 (Or.inr (slot_ne (Or.inr (hw _ (List.mem_of_getElem? (i := 42) rfl))) (Or.inr (hw _ (List.mem_of_getElem? (i := 40) rfl))) (by decide) (t := .int) (t' := (.object "com/example/arachne/arachne/Point")) (by decide) (by decide)))
  have K23 := K16.wr W23 (Or.inl (List.mem_cons_self ..))
  show Own.Fin p e below (T23.setTop (mkF m 25 #[.val (.ref a1), .val (.ref a2), .val .null, .val (.ref a3), .val .null, .val (.int p4)] [])) _
  refine Own.go (fun t k => XS.aloadN X23.here hx rfl (hb hby d6_25) rfl rfl k) ?_
  show Own.Fin p e below (T23.setTop (mkF m 26 #[.val (.ref a1), .val (.ref a2), .val .null, .val (.ref a3), .val .null, .val (.int p4)] [(.ref a1)])) _
  refine Own.go (fun t k => XS.iload X23.here hx rfl (hb hby d6_26) rfl k) ?_
  show Own.Fin p e below (T23.setTop (mkF m 28 #[.val (.ref a1), .val (.ref a2), .val .null, .val (.ref a3), .val .null, .val (.int p4)] [(.int p4), (.ref a1)])) _
  obtain ⟨T30, h30, X30, e30, W30, st30⟩ := putF X23 hx hZ hown (host := "") (Or.inl (hw _ (List.mem_of_getElem? (i := 41) rfl))) Via.refl e23 f29 f25 (Or.inr ⟨(hw _ (List.mem_of_getElem? (i := 42) rfl)), rfl, hnm⟩) (hw _ (List.mem_of_getElem? (i := 27) rfl)) (ty := .int) (by decide) rfl rfl (g := (mkF m 28 #[.val (.ref a1), .val (.ref a2), .val .null, .val (.ref a3), .val .null, .val (.int p4)] [(.int p4), (.ref a1)])) rfl rfl (hb hby d6_28)
  refine Own.go st30 ?_
  have f31 := f29.same W30
  have N30 := Fr.snoc X30 N23 ga
  have Z30 : n0 ≤ h30.size := by rw [W30.size]; exact Z23
  have f32 := f25.wr W30
  have f33 := f26.other W30 (Or.inr (slot_ne (Or.inr (hw _ (List.mem_of_getElem? (i := 34) rfl))) (Or.inr (hw _ (List.mem_of_getElem? (i := 42) rfl))) (by decide) (t := (.object "java/lang/String")) (t' := .int) (by decide) (by decide)))
  have f34 := f27.other W30 (Or.inr (slot_ne (Or.inr (hw _ (List.mem_of_getElem? (i := 36) rfl))) (Or.inr (hw _ (List.mem_of_getElem? (i := 42) rfl))) (by decide) (t := (.object "com/example/arachne/arachne/NodeSize")) (t' := .int) (by decide) (by decide)))
  have f35 := f28.other W30 (Or.inr (slot_ne (Or.inr (hw _ (List.mem_of_getElem? (i := 38) rfl))) (Or.inr (hw _ (List.mem_of_getElem? (i := 42) rfl))) (by decide) (t := (.object "java/lang/String")) (t' := .int) (by decide) (by decide)))
  have f36 := f24.other W30 (Or.inr (slot_ne (Or.inr (hw _ (List.mem_of_getElem? (i := 40) rfl))) (Or.inr (hw _ (List.mem_of_getElem? (i := 42) rfl))) (by decide) (t := (.object "com/example/arachne/arachne/Point")) (t' := .int) (by decide) (by decide)))
  have K30 := K23.wr W30 (Or.inl (List.mem_cons_self ..))
  show Own.Fin p e below (T30.setTop (mkF m 31 #[.val (.ref a1), .val (.ref a2), .val .null, .val (.ref a3), .val .null, .val (.int p4)] [])) _
  refine Own.retV X30 hx Bd.notSynchronized Bd.returns (hb hby d6_31) (by decide) (by decide) ?_
  exact ⟨rfl, N30, by rw [e30]; exact K30⟩
theorem d7_0 : decode prog_5_method_1_code 0 = .ok (.aload_n 0, 1) := by decide +kernel
theorem d7_1 : decode prog_5_method_1_code 1 = .ok (.invokespecial 1, 3) := by decide +kernel
theorem d7_4 : decode prog_5_method_1_code 4 = .ok (.aload_n 0, 1) := by decide +kernel
theorem d7_5 : decode prog_5_method_1_code 5 = .ok (.aload_n 1, 1) := by decide +kernel
theorem d7_6 : decode prog_5_method_1_code 6 = .ok (.putfield 7, 3) := by decide +kernel
theorem d7_9 : decode prog_5_method_1_code 9 = .ok (.aload_n 0, 1) := by decide +kernel
theorem d7_10 : decode prog_5_method_1_code 10 = .ok (.aload_n 2, 1) := by decide +kernel
theorem d7_11 : decode prog_5_method_1_code 11 = .ok (.putfield 13, 3) := by decide +kernel
theorem d7_14 : decode prog_5_method_1_code 14 = .ok (.aload_n 0, 1) := by decide +kernel
theorem d7_15 : decode prog_5_method_1_code 15 = .ok (.iload_n 3, 1) := by decide +kernel
theorem d7_16 : decode prog_5_method_1_code 16 = .ok (.putfield 16, 3) := by decide +kernel
theorem d7_19 : decode prog_5_method_1_code 19 = .ok (.return_, 1) := by decide +kernel
theorem pn_7 : plainName "com/example/arachne/arachne/Edge" = true := by first | (simp [plainName, overriddenIn]; done) | decide +kernel
theorem ef_7 (m : MethodId) (a1 : Addr) (a2 : Addr) (a3 : Addr) (p4 : Int32) : entryFrame m #[(.ref a1), (.ref a2), (.ref a3), (.int p4)] 4 = mkF m 0 #[.val (.ref a1), .val (.ref a2), .val (.ref a3), .val (.int p4)] [] := by first | (simp [entryFrame, mkF, argsToLocals, Value.category]; done) | rfl
def Q7 (Z : State) (a1 : Addr) (a2 : Addr) (a3 : Addr) (p4 : Int32)  (h0 : Heap) (n0 : Nat) : Option Value → Heap → List Loc → Prop := fun v h L => v = none ∧ Fr n0 L ∧ Keep h0 h [a1] ∧ Fld Z h a1 "com/example/arachne/arachne/Edge" "source" "Lcom/example/arachne/arachne/Node;" (.ref a2) ∧ Fld Z h a1 "com/example/arachne/arachne/Edge" "target" "Lcom/example/arachne/arachne/Node;" (.ref a3)
set_option maxRecDepth 65536 in
set_option maxHeartbeats 40000000 in
theorem rm7 (l : Launch) (Z : State) (a0 : Array Value) (hw : ∀ d ∈ tables_1, d.before a0 Z = true) (ws : List Jvm.Cond) (a1 : Addr) (a2 : Addr) (a3 : Addr) (p4 : Int32)  (h0 : Heap) (n0 : Nat) (Z0 : n0 ≤ h0.size) (EA : Exa Z h0 a1 "com/example/arachne/arachne/Edge") (F_source : Fld Z h0 a1 "com/example/arachne/arachne/Edge" "source" "Lcom/example/arachne/arachne/Node;" .null) (F_target : Fld Z h0 a1 "com/example/arachne/arachne/Edge" "target" "Lcom/example/arachne/arachne/Node;" .null) (F_index : Fld Z h0 a1 "com/example/arachne/arachne/Edge" "index" "I" (.int (0 : Int32))) (ga : n0 ≤ a1) :
    MetFree l (⟨"com/example/arachne/arachne/Edge", "<init>", "(Lcom/example/arachne/arachne/Node;Lcom/example/arachne/arachne/Node;I)V"⟩ : MethodName) (head1 (Jvm.Cond.code (⟨"com/example/arachne/arachne/Edge", "<init>", "(Lcom/example/arachne/arachne/Node;Lcom/example/arachne/arachne/Node;I)V"⟩ : MethodName) prog_5_method_1_code 4 none :: ws) ({ frames := 1, cells := 0, slots := 0, locals := 12 } : Room)) (fun a U => a = #[(.ref a1), (.ref a2), (.ref a3), (.int p4)] ∧ Z.Warmed39 U.vm ∧ U.heap = h0) (fun _ _ _ _ _ => True) (fun _ U o U' => ∃ v L, o = .returned v ∧ (Q7 Z a1 a2 a3 p4 h0 n0) v U'.heap L ∧ FrameEnd U o U' L ({ frames := 1, cells := 0, slots := 0, locals := 12 } : Room).cells ({ frames := 1, cells := 0, slots := 0, locals := 12 } : Room).slots) := by
  refine MetFree.of_bodySF (plainFor_of_name pn_7) hisR ?_
  intro p e s m args below meth c s₁ Bd hml0 hP hK
  obtain ⟨rfl, hZ, hh⟩ := hP
  have hx := Bd.exec
  have hby := Bd.bytes
  have hml : c.maxLocals = 4 := hml0
  have hown : s.vm.findClass "com/example/arachne/arachne/Edge" = some m.cls := findClass_of_methodNamed Bd.named
  have hnm := (name_of_methodNamed Bd.named Bd.method).1
  have X0 : Stand p l e ({ frames := 1, cells := 0, slots := 0, locals := 12 } : Room) s m #[(.ref a1), (.ref a2), (.ref a3), (.int p4)] below meth c s₁ [] 0 0 := Stand.of_body Bd
  have e0 : s₁.heap = h0 := by rw [← hh, Bd.state]; rfl
  have N0 := Fr.nil n0
  show Own.Fin p e below _ (Own.Post s (Q7 Z a1 a2 a3 p4 h0 n0) ({ frames := 1, cells := 0, slots := 0, locals := 12 } : Room).cells ({ frames := 1, cells := 0, slots := 0, locals := 12 } : Room).slots)
  refine Own.start (ef_7 m a1 a2 a3 p4) ?_
  show Own.Fin p e below (s₁.setTop (mkF m 0 #[.val (.ref a1), .val (.ref a2), .val (.ref a3), .val (.int p4)] [])) _
  refine Own.go (fun t k => XS.aloadN X0.here hx rfl (hb hby d7_0) rfl rfl k) ?_
  show Own.Fin p e below (s₁.setTop (mkF m 1 #[.val (.ref a1), .val (.ref a2), .val (.ref a3), .val (.int p4)] [(.ref a1)])) _
  obtain ⟨T1, X1, e1, st1⟩ := initO X0 hx hZ hown (hw _ (List.mem_of_getElem? (i := 49) rfl)) (hw _ (List.mem_of_getElem? (i := 20) rfl)) (hw _ (List.mem_of_getElem? (i := 21) rfl)) e0 (g := (mkF m 1 #[.val (.ref a1), .val (.ref a2), .val (.ref a3), .val (.int p4)] [(.ref a1)])) rfl (by rw [hml]; rfl) rfl (hb hby d7_1) (by decide) (W := 0) (by show 2 * 0 + _ ≤ _; exact Nat.le_of_eq rfl) (by decide)
  refine Own.go st1 ?_
  show Own.Fin p e below (T1.setTop (mkF m 4 #[.val (.ref a1), .val (.ref a2), .val (.ref a3), .val (.int p4)] [])) _
  refine Own.go (fun t k => XS.aloadN X1.here hx rfl (hb hby d7_4) rfl rfl k) ?_
  show Own.Fin p e below (T1.setTop (mkF m 5 #[.val (.ref a1), .val (.ref a2), .val (.ref a3), .val (.int p4)] [(.ref a1)])) _
  refine Own.go (fun t k => XS.aloadN X1.here hx rfl (hb hby d7_5) rfl rfl k) ?_
  show Own.Fin p e below (T1.setTop (mkF m 6 #[.val (.ref a1), .val (.ref a2), .val (.ref a3), .val (.int p4)] [(.ref a2), (.ref a1)])) _
  obtain ⟨T2, h2, X2, e2, W2, st2⟩ := putF X1 hx hZ hown (host := "") (Or.inl (hw _ (List.mem_of_getElem? (i := 50) rfl))) Via.refl e1 F_source EA (Or.inr ⟨(hw _ (List.mem_of_getElem? (i := 51) rfl)), rfl, hnm⟩) (hw _ (List.mem_of_getElem? (i := 44) rfl)) (ty := (.object "com/example/arachne/arachne/Node")) (by decide) rfl rfl (g := (mkF m 6 #[.val (.ref a1), .val (.ref a2), .val (.ref a3), .val (.int p4)] [(.ref a2), (.ref a1)])) rfl rfl (hb hby d7_6)
  refine Own.go st2 ?_
  have f3 := F_source.same W2
  have N2 := Fr.snoc X2 N0 ga
  have Z2 : n0 ≤ h2.size := by rw [W2.size]; exact Z0
  have f4 := EA.wr W2
  have f5 := F_target.other W2 (Or.inr (slot_ne (Or.inr (hw _ (List.mem_of_getElem? (i := 53) rfl))) (Or.inr (hw _ (List.mem_of_getElem? (i := 51) rfl))) (by decide) (t := (.object "com/example/arachne/arachne/Node")) (t' := (.object "com/example/arachne/arachne/Node")) (by decide) (by decide)))
  have f6 := F_index.other W2 (Or.inr (slot_ne (Or.inr (hw _ (List.mem_of_getElem? (i := 55) rfl))) (Or.inr (hw _ (List.mem_of_getElem? (i := 51) rfl))) (by decide) (t := .int) (t' := (.object "com/example/arachne/arachne/Node")) (by decide) (by decide)))
  have K2 := (Keep.refl h0 [a1]).wr W2 (Or.inl (List.mem_cons_self ..))
  show Own.Fin p e below (T2.setTop (mkF m 9 #[.val (.ref a1), .val (.ref a2), .val (.ref a3), .val (.int p4)] [])) _
  refine Own.go (fun t k => XS.aloadN X2.here hx rfl (hb hby d7_9) rfl rfl k) ?_
  show Own.Fin p e below (T2.setTop (mkF m 10 #[.val (.ref a1), .val (.ref a2), .val (.ref a3), .val (.int p4)] [(.ref a1)])) _
  refine Own.go (fun t k => XS.aloadN X2.here hx rfl (hb hby d7_10) rfl rfl k) ?_
  show Own.Fin p e below (T2.setTop (mkF m 11 #[.val (.ref a1), .val (.ref a2), .val (.ref a3), .val (.int p4)] [(.ref a3), (.ref a1)])) _
  obtain ⟨T7, h7, X7, e7, W7, st7⟩ := putF X2 hx hZ hown (host := "") (Or.inl (hw _ (List.mem_of_getElem? (i := 52) rfl))) Via.refl e2 f5 f4 (Or.inr ⟨(hw _ (List.mem_of_getElem? (i := 53) rfl)), rfl, hnm⟩) (hw _ (List.mem_of_getElem? (i := 44) rfl)) (ty := (.object "com/example/arachne/arachne/Node")) (by decide) rfl rfl (g := (mkF m 11 #[.val (.ref a1), .val (.ref a2), .val (.ref a3), .val (.int p4)] [(.ref a3), (.ref a1)])) rfl rfl (hb hby d7_11)
  refine Own.go st7 ?_
  have f8 := f5.same W7
  have N7 := Fr.snoc X7 N2 ga
  have Z7 : n0 ≤ h7.size := by rw [W7.size]; exact Z2
  have f9 := f4.wr W7
  have f10 := f3.other W7 (Or.inr (slot_ne (Or.inr (hw _ (List.mem_of_getElem? (i := 51) rfl))) (Or.inr (hw _ (List.mem_of_getElem? (i := 53) rfl))) (by decide) (t := (.object "com/example/arachne/arachne/Node")) (t' := (.object "com/example/arachne/arachne/Node")) (by decide) (by decide)))
  have f11 := f6.other W7 (Or.inr (slot_ne (Or.inr (hw _ (List.mem_of_getElem? (i := 55) rfl))) (Or.inr (hw _ (List.mem_of_getElem? (i := 53) rfl))) (by decide) (t := .int) (t' := (.object "com/example/arachne/arachne/Node")) (by decide) (by decide)))
  have K7 := K2.wr W7 (Or.inl (List.mem_cons_self ..))
  show Own.Fin p e below (T7.setTop (mkF m 14 #[.val (.ref a1), .val (.ref a2), .val (.ref a3), .val (.int p4)] [])) _
  refine Own.go (fun t k => XS.aloadN X7.here hx rfl (hb hby d7_14) rfl rfl k) ?_
  show Own.Fin p e below (T7.setTop (mkF m 15 #[.val (.ref a1), .val (.ref a2), .val (.ref a3), .val (.int p4)] [(.ref a1)])) _
  refine Own.go (fun t k => XS.iloadN X7.here hx rfl (hb hby d7_15) rfl k) ?_
  show Own.Fin p e below (T7.setTop (mkF m 16 #[.val (.ref a1), .val (.ref a2), .val (.ref a3), .val (.int p4)] [(.int p4), (.ref a1)])) _
  obtain ⟨T12, h12, X12, e12, W12, st12⟩ := putF X7 hx hZ hown (host := "") (Or.inl (hw _ (List.mem_of_getElem? (i := 54) rfl))) Via.refl e7 f11 f9 (Or.inr ⟨(hw _ (List.mem_of_getElem? (i := 55) rfl)), rfl, hnm⟩) (hw _ (List.mem_of_getElem? (i := 44) rfl)) (ty := .int) (by decide) rfl rfl (g := (mkF m 16 #[.val (.ref a1), .val (.ref a2), .val (.ref a3), .val (.int p4)] [(.int p4), (.ref a1)])) rfl rfl (hb hby d7_16)
  refine Own.go st12 ?_
  have f13 := f11.same W12
  have N12 := Fr.snoc X12 N7 ga
  have Z12 : n0 ≤ h12.size := by rw [W12.size]; exact Z7
  have f14 := f9.wr W12
  have f15 := f10.other W12 (Or.inr (slot_ne (Or.inr (hw _ (List.mem_of_getElem? (i := 51) rfl))) (Or.inr (hw _ (List.mem_of_getElem? (i := 55) rfl))) (by decide) (t := (.object "com/example/arachne/arachne/Node")) (t' := .int) (by decide) (by decide)))
  have f16 := f8.other W12 (Or.inr (slot_ne (Or.inr (hw _ (List.mem_of_getElem? (i := 53) rfl))) (Or.inr (hw _ (List.mem_of_getElem? (i := 55) rfl))) (by decide) (t := (.object "com/example/arachne/arachne/Node")) (t' := .int) (by decide) (by decide)))
  have K12 := K7.wr W12 (Or.inl (List.mem_cons_self ..))
  show Own.Fin p e below (T12.setTop (mkF m 19 #[.val (.ref a1), .val (.ref a2), .val (.ref a3), .val (.int p4)] [])) _
  refine Own.retV X12 hx Bd.notSynchronized Bd.returns (hb hby d7_19) (by decide) (by decide) ?_
  rw [e12]; exact ⟨rfl, N12, K12, f15, f16⟩
theorem d8_0 : decode prog_5_method_5_code 0 = .ok (.aload_n 0, 1) := by decide +kernel
theorem d8_1 : decode prog_5_method_5_code 1 = .ok (.getfield 7, 3) := by decide +kernel
theorem d8_4 : decode prog_5_method_5_code 4 = .ok (.aload_n 0, 1) := by decide +kernel
theorem d8_5 : decode prog_5_method_5_code 5 = .ok (.getfield 13, 3) := by decide +kernel
theorem d8_8 : decode prog_5_method_5_code 8 = .ok (.if_acmp .ne 7, 3) := by decide +kernel
theorem d8_11 : decode prog_5_method_5_code 11 = .ok (.iconst 1, 1) := by decide +kernel
theorem d8_12 : decode prog_5_method_5_code 12 = .ok (.goto 4, 3) := by decide +kernel
theorem d8_15 : decode prog_5_method_5_code 15 = .ok (.iconst 0, 1) := by decide +kernel
theorem d8_16 : decode prog_5_method_5_code 16 = .ok (.ireturn, 1) := by decide +kernel
theorem pn_8 : plainName "com/example/arachne/arachne/Edge" = true := by first | (simp [plainName, overriddenIn]; done) | decide +kernel
theorem ef_8 (m : MethodId) (a1 : Addr) : entryFrame m #[(.ref a1)] 1 = mkF m 0 #[.val (.ref a1)] [] := by first | (simp [entryFrame, mkF, argsToLocals, Value.category]; done) | rfl
def Q8 (Z : State) (a1 : Addr) (a2 a3 : Addr) (h0 : Heap) (n0 : Nat) : Option Value → Heap → List Loc → Prop := fun v h L => v = some (.int (if a2 = a3 then (1 : Int32) else 0)) ∧ Fr n0 L ∧ h = h0
set_option maxRecDepth 65536 in
set_option maxHeartbeats 40000000 in
theorem rm8 (l : Launch) (Z : State) (a0 : Array Value) (hw : ∀ d ∈ tables_1, d.before a0 Z = true) (ws : List Jvm.Cond) (a1 : Addr) (a2 a3 : Addr) (h0 : Heap) (n0 : Nat) (Z0 : n0 ≤ h0.size) (FS : Fld Z h0 a1 "com/example/arachne/arachne/Edge" "source" "Lcom/example/arachne/arachne/Node;" (.ref a2)) (FT : Fld Z h0 a1 "com/example/arachne/arachne/Edge" "target" "Lcom/example/arachne/arachne/Node;" (.ref a3)) :
    MetFree l (⟨"com/example/arachne/arachne/Edge", "isSelfLoop", "()Z"⟩ : MethodName) (head1 (Jvm.Cond.code (⟨"com/example/arachne/arachne/Edge", "isSelfLoop", "()Z"⟩ : MethodName) prog_5_method_5_code 1 (some .boolean) :: ws) ({ frames := 0, cells := 0, slots := 0, locals := 0 } : Room)) (fun a U => a = #[(.ref a1)] ∧ Z.Warmed39 U.vm ∧ U.heap = h0) (fun _ _ _ _ _ => True) (fun _ U o U' => ∃ v L, o = .returned v ∧ (Q8 Z a1 a2 a3 h0 n0) v U'.heap L ∧ FrameEnd U o U' L ({ frames := 0, cells := 0, slots := 0, locals := 0 } : Room).cells ({ frames := 0, cells := 0, slots := 0, locals := 0 } : Room).slots) := by
  refine MetFree.of_bodySF (plainFor_of_name pn_8) hisR ?_
  intro p e s m args below meth c s₁ Bd hml0 hP hK
  obtain ⟨rfl, hZ, hh⟩ := hP
  have hx := Bd.exec
  have hby := Bd.bytes
  have hml : c.maxLocals = 1 := hml0
  have hown : s.vm.findClass "com/example/arachne/arachne/Edge" = some m.cls := findClass_of_methodNamed Bd.named
  have hnm := (name_of_methodNamed Bd.named Bd.method).1
  have X0 : Stand p l e ({ frames := 0, cells := 0, slots := 0, locals := 0 } : Room) s m #[(.ref a1)] below meth c s₁ [] 0 0 := Stand.of_body Bd
  have e0 : s₁.heap = h0 := by rw [← hh, Bd.state]; rfl
  have N0 := Fr.nil n0
  show Own.Fin p e below _ (Own.Post s (Q8 Z a1 a2 a3 h0 n0) ({ frames := 0, cells := 0, slots := 0, locals := 0 } : Room).cells ({ frames := 0, cells := 0, slots := 0, locals := 0 } : Room).slots)
  refine Own.start (ef_8 m a1) ?_
  show Own.Fin p e below (s₁.setTop (mkF m 0 #[.val (.ref a1)] [])) _
  refine Own.go (fun t k => XS.aloadN X0.here hx rfl (hb hby d8_0) rfl rfl k) ?_
  show Own.Fin p e below (s₁.setTop (mkF m 1 #[.val (.ref a1)] [(.ref a1)])) _
  obtain ⟨T1, X1, e1, st1⟩ := getF X0 hx hZ hown (host := "") (Or.inl (hw _ (List.mem_of_getElem? (i := 50) rfl))) Via.refl e0 FS (g := (mkF m 1 #[.val (.ref a1)] [(.ref a1)])) rfl rfl (hb hby d8_1)
  refine Own.go st1 ?_
  show Own.Fin p e below (T1.setTop (mkF m 4 #[.val (.ref a1)] [(.ref a2)])) _
  refine Own.go (fun t k => XS.aloadN X1.here hx rfl (hb hby d8_4) rfl rfl k) ?_
  show Own.Fin p e below (T1.setTop (mkF m 5 #[.val (.ref a1)] [(.ref a1), (.ref a2)])) _
  obtain ⟨T2, X2, e2, st2⟩ := getF X1 hx hZ hown (host := "") (Or.inl (hw _ (List.mem_of_getElem? (i := 52) rfl))) Via.refl e1 FT (g := (mkF m 5 #[.val (.ref a1)] [(.ref a1), (.ref a2)])) rfl rfl (hb hby d8_5)
  refine Own.go st2 ?_
  show Own.Fin p e below (T2.setTop (mkF m 8 #[.val (.ref a1)] [(.ref a3), (.ref a2)])) _
  by_cases ha8_2 : a2 = a3
  · skip
    refine Own.go (fun t k => Jvm.RoadKit.acmp (g := (mkF m 8 #[.val (.ref a1)] [(.ref a3), (.ref a2)])) X2 hx rfl rfl rfl (pc0 := 8) (pc' := 11) (same := true) rfl (hb hby d8_8) rfl (decide_eq_true (congrArg Value.ref ha8_2)) (by decide) (by decide) k) ?_
    show Own.Fin p e below (T2.setTop (mkF m 11 #[.val (.ref a1)] [])) _
    refine Own.go (fun t k => XS.iconst X2.here hx rfl (hb hby d8_11) k) ?_
    show Own.Fin p e below (T2.setTop (mkF m 12 #[.val (.ref a1)] [(.int (1 : Int32))])) _
    refine Own.go (fun t k => XS.goto X2.here hx rfl (pc0 := 12) (pc' := 16) rfl (hb hby d8_12) (by decide) (by decide) k) ?_
    show Own.Fin p e below (T2.setTop (mkF m 16 #[.val (.ref a1)] [(.int (1 : Int32))])) _
    refine Own.retN X2 hx Bd.notSynchronized (t := .boolean) Bd.returns (by simp) (hb hby d8_16) (by decide) (by decide) ?_
    exact ⟨by rw [show (if a2 = a3 then (1 : Int32) else 0) = (1 : Int32) by simp only [ha8_2, if_true, if_false]]; rfl, N0, e2⟩
  · skip
    refine Own.go (fun t k => Jvm.RoadKit.acmp (g := (mkF m 8 #[.val (.ref a1)] [(.ref a3), (.ref a2)])) X2 hx rfl rfl rfl (pc0 := 8) (pc' := 15) (same := false) rfl (hb hby d8_8) rfl (decide_eq_false fun q => ha8_2 (Value.ref.inj q)) (by decide) (by decide) k) ?_
    show Own.Fin p e below (T2.setTop (mkF m 15 #[.val (.ref a1)] [])) _
    refine Own.go (fun t k => XS.iconst X2.here hx rfl (hb hby d8_15) k) ?_
    show Own.Fin p e below (T2.setTop (mkF m 16 #[.val (.ref a1)] [(.int (0 : Int32))])) _
    refine Own.retN X2 hx Bd.notSynchronized (t := .boolean) Bd.returns (by simp) (hb hby d8_16) (by decide) (by decide) ?_
    exact ⟨by rw [show (if a2 = a3 then (1 : Int32) else 0) = (0 : Int32) by simp only [ha8_2, if_true, if_false]]; rfl, N0, e2⟩
theorem pd_6 : parseMethodDescriptor "()Z" = some ⟨[], some .boolean⟩ := by decide +kernel
theorem pd_3 : parseMethodDescriptor "(C)Ljava/lang/String;" = some ⟨[.char], some (.object "java/lang/String")⟩ := by decide +kernel
theorem pd_5 : parseMethodDescriptor "(Lcom/example/arachne/arachne/Node;Lcom/example/arachne/arachne/Node;I)V" = some ⟨[(.object "com/example/arachne/arachne/Node"), (.object "com/example/arachne/arachne/Node"), .int], none⟩ := by decide +kernel
theorem pd_4 : parseMethodDescriptor "(Ljava/lang/String;Lcom/example/arachne/arachne/NodeSize;Ljava/lang/String;Lcom/example/arachne/arachne/Point;I)V" = some ⟨[(.object "java/lang/String"), (.object "com/example/arachne/arachne/NodeSize"), (.object "java/lang/String"), (.object "com/example/arachne/arachne/Point"), .int], none⟩ := by decide +kernel
theorem pn_0 : plainName "com/example/arachne/arachne/EdgeIsSelfLoopPinLaw" = true := by first | (simp [plainName, overriddenIn]; done) | decide +kernel
theorem ef_0 (m : MethodId) (p1 : Int32) (p2 : Int32) (p3 : Int32) (p4 : Int32) (p5 : Int32) : entryFrame m #[(.int p1), (.int p2), (.int p3), (.int p4), (.int p5)] maxLocals = mkF m 0 #[.val (.int p1), .val (.int p2), .val (.int p3), .val (.int p4), .val (.int p5), .unset, .unset, .unset, .unset, .unset, .unset, .unset, .unset, .unset, .unset, .unset, .unset, .unset, .unset] [] := by first | (simp [entryFrame, mkF, argsToLocals, Value.category, maxLocals]; done) | rfl
def Q0 (Z : State) (p1 : Int32) (p2 : Int32) (p3 : Int32) (p4 : Int32) (p5 : Int32) (cs : Int32) (h0 : Heap) (n0 : Nat) : Option Value → Heap → List Loc → Prop := fun v h L => v = some (.int 1) ∧ Fr n0 L
set_option maxRecDepth 65536 in
set_option maxHeartbeats 40000000 in
theorem rm0 (l : Launch) (Z : State) (a0 : Array Value) (hw : ∀ d ∈ tables_1, d.before a0 Z = true) (ws : List Jvm.Cond) (p1 : Int32) (p2 : Int32) (p3 : Int32) (p4 : Int32) (p5 : Int32) (cs : Int32) (h0 : Heap) (n0 : Nat) (Z0 : n0 ≤ h0.size) (O0 : Old Z n0 h0) (SC : Sta Z Z.heap "java/lang/String" "COMPACT_STRINGS" "Z" (.int cs)) (hcs : ¬ cs = (0 : Int32)) :
    MetFree l x (head1 (Jvm.Cond.code x code maxLocals ret :: ws) room_1) (fun a U => a = #[(.int p1), (.int p2), (.int p3), (.int p4), (.int p5)] ∧ Z.Warmed39 U.vm ∧ U.heap = h0) (fun _ _ _ _ _ => True) (fun _ U o U' => ∃ v L, o = .returned v ∧ (Q0 Z p1 p2 p3 p4 p5 cs h0 n0) v U'.heap L ∧ FrameEnd U o U' L room_1.cells room_1.slots) := by
  refine MetFree.of_bodySF (plainFor_of_name pn_0) hisR ?_
  intro p e s m args below meth c s₁ Bd hml0 hP hK
  obtain ⟨rfl, hZ, hh⟩ := hP
  have hx := Bd.exec
  have hby := Bd.bytes
  have hml : c.maxLocals = 19 := hml0
  have hown : s.vm.findClass "com/example/arachne/arachne/EdgeIsSelfLoopPinLaw" = some m.cls := findClass_of_methodNamed Bd.named
  have hnm := (name_of_methodNamed Bd.named Bd.method).1
  have X0 : Stand p l e room_1 s m #[(.int p1), (.int p2), (.int p3), (.int p4), (.int p5)] below meth c s₁ [] 0 0 := Stand.of_body Bd
  have e0 : s₁.heap = h0 := by rw [← hh, Bd.state]; rfl
  have N0 := Fr.nil n0
  show Own.Fin p e below _ (Own.Post s (Q0 Z p1 p2 p3 p4 p5 cs h0 n0) room_1.cells room_1.slots)
  refine Own.start (ef_0 m p1 p2 p3 p4 p5) ?_
  show Own.Fin p e below (s₁.setTop (mkF m 0 #[.val (.int p1), .val (.int p2), .val (.int p3), .val (.int p4), .val (.int p5), .unset, .unset, .unset, .unset, .unset, .unset, .unset, .unset, .unset, .unset, .unset, .unset, .unset, .unset] [])) _
  refine Own.go (fun t k => XS.iloadN X0.here hx rfl (hb hby at_0) rfl k) ?_
  show Own.Fin p e below (s₁.setTop (mkF m 1 #[.val (.int p1), .val (.int p2), .val (.int p3), .val (.int p4), .val (.int p5), .unset, .unset, .unset, .unset, .unset, .unset, .unset, .unset, .unset, .unset, .unset, .unset, .unset, .unset] [(.int p1)])) _
  refine Own.go (fun t k => XS.iconst X0.here hx rfl (hb hby at_1) k) ?_
  show Own.Fin p e below (s₁.setTop (mkF m 2 #[.val (.int p1), .val (.int p2), .val (.int p3), .val (.int p4), .val (.int p5), .unset, .unset, .unset, .unset, .unset, .unset, .unset, .unset, .unset, .unset, .unset, .unset, .unset, .unset] [(.int (4 : Int32)), (.int p1)])) _
  refine Own.go (fun t k => XS.iand X0.here hx rfl (hb hby at_2) rfl k) ?_
  show Own.Fin p e below (s₁.setTop (mkF m 3 #[.val (.int p1), .val (.int p2), .val (.int p3), .val (.int p4), .val (.int p5), .unset, .unset, .unset, .unset, .unset, .unset, .unset, .unset, .unset, .unset, .unset, .unset, .unset, .unset] [(.int (p1 &&& (4 : Int32)))])) _
  by_cases hc3_0 : (p1 &&& (4 : Int32)) = (0 : Int32)
  · skip
    refine Own.go (fun t k => XS.ifYes X0.here hx rfl (pc0 := 3) (pc' := 10) rfl (hb hby at_3) rfl ((if0 _ _).trans (teq hc3_0).1) (by decide) (by decide) k) ?_
    show Own.Fin p e below (s₁.setTop (mkF m 10 #[.val (.int p1), .val (.int p2), .val (.int p3), .val (.int p4), .val (.int p5), .unset, .unset, .unset, .unset, .unset, .unset, .unset, .unset, .unset, .unset, .unset, .unset, .unset, .unset] [])) _
    refine Own.go (fun t k => XS.iconst X0.here hx rfl (hb hby at_10) k) ?_
    show Own.Fin p e below (s₁.setTop (mkF m 11 #[.val (.int p1), .val (.int p2), .val (.int p3), .val (.int p4), .val (.int p5), .unset, .unset, .unset, .unset, .unset, .unset, .unset, .unset, .unset, .unset, .unset, .unset, .unset, .unset] [(.int (0 : Int32))])) _
    refine Own.go (fun t k => XS.istore X0.here hx rfl (hb hby at_11) rfl (l' := #[.val (.int p1), .val (.int p2), .val (.int p3), .val (.int p4), .val (.int p5), .val (.int (0 : Int32)), .unset, .unset, .unset, .unset, .unset, .unset, .unset, .unset, .unset, .unset, .unset, .unset, .unset]) rfl k) ?_
    show Own.Fin p e below (s₁.setTop (mkF m 13 #[.val (.int p1), .val (.int p2), .val (.int p3), .val (.int p4), .val (.int p5), .val (.int (0 : Int32)), .unset, .unset, .unset, .unset, .unset, .unset, .unset, .unset, .unset, .unset, .unset, .unset, .unset] [])) _
    refine Own.go (fun t k => XS.iloadN X0.here hx rfl (hb hby at_13) rfl k) ?_
    show Own.Fin p e below (s₁.setTop (mkF m 14 #[.val (.int p1), .val (.int p2), .val (.int p3), .val (.int p4), .val (.int p5), .val (.int (0 : Int32)), .unset, .unset, .unset, .unset, .unset, .unset, .unset, .unset, .unset, .unset, .unset, .unset, .unset] [(.int p1)])) _
    refine Own.go (fun t k => XS.iconst X0.here hx rfl (hb hby at_14) k) ?_
    show Own.Fin p e below (s₁.setTop (mkF m 15 #[.val (.int p1), .val (.int p2), .val (.int p3), .val (.int p4), .val (.int p5), .val (.int (0 : Int32)), .unset, .unset, .unset, .unset, .unset, .unset, .unset, .unset, .unset, .unset, .unset, .unset, .unset] [(.int (1 : Int32)), (.int p1)])) _
    refine Own.go (fun t k => XS.iand X0.here hx rfl (hb hby at_15) rfl k) ?_
    show Own.Fin p e below (s₁.setTop (mkF m 16 #[.val (.int p1), .val (.int p2), .val (.int p3), .val (.int p4), .val (.int p5), .val (.int (0 : Int32)), .unset, .unset, .unset, .unset, .unset, .unset, .unset, .unset, .unset, .unset, .unset, .unset, .unset] [(.int (p1 &&& (1 : Int32)))])) _
    by_cases hc16_1 : (p1 &&& (1 : Int32)) = (0 : Int32)
    · skip
      refine Own.go (fun t k => XS.ifYes X0.here hx rfl (pc0 := 16) (pc' := 23) rfl (hb hby at_16) rfl ((if0 _ _).trans (teq hc16_1).1) (by decide) (by decide) k) ?_
      show Own.Fin p e below (s₁.setTop (mkF m 23 #[.val (.int p1), .val (.int p2), .val (.int p3), .val (.int p4), .val (.int p5), .val (.int (0 : Int32)), .unset, .unset, .unset, .unset, .unset, .unset, .unset, .unset, .unset, .unset, .unset, .unset, .unset] [])) _
      refine Own.go (fun t k => XS.iconst X0.here hx rfl (hb hby at_23) k) ?_
      show Own.Fin p e below (s₁.setTop (mkF m 24 #[.val (.int p1), .val (.int p2), .val (.int p3), .val (.int p4), .val (.int p5), .val (.int (0 : Int32)), .unset, .unset, .unset, .unset, .unset, .unset, .unset, .unset, .unset, .unset, .unset, .unset, .unset] [(.int (0 : Int32))])) _
      refine Own.go (fun t k => XS.istore X0.here hx rfl (hb hby at_24) rfl (l' := #[.val (.int p1), .val (.int p2), .val (.int p3), .val (.int p4), .val (.int p5), .val (.int (0 : Int32)), .val (.int (0 : Int32)), .unset, .unset, .unset, .unset, .unset, .unset, .unset, .unset, .unset, .unset, .unset, .unset]) rfl k) ?_
      show Own.Fin p e below (s₁.setTop (mkF m 26 #[.val (.int p1), .val (.int p2), .val (.int p3), .val (.int p4), .val (.int p5), .val (.int (0 : Int32)), .val (.int (0 : Int32)), .unset, .unset, .unset, .unset, .unset, .unset, .unset, .unset, .unset, .unset, .unset, .unset] [])) _
      refine Own.go (fun t k => XS.iloadN X0.here hx rfl (hb hby at_26) rfl k) ?_
      show Own.Fin p e below (s₁.setTop (mkF m 27 #[.val (.int p1), .val (.int p2), .val (.int p3), .val (.int p4), .val (.int p5), .val (.int (0 : Int32)), .val (.int (0 : Int32)), .unset, .unset, .unset, .unset, .unset, .unset, .unset, .unset, .unset, .unset, .unset, .unset] [(.int p1)])) _
      refine Own.go (fun t k => XS.iconst X0.here hx rfl (hb hby at_27) k) ?_
      show Own.Fin p e below (s₁.setTop (mkF m 28 #[.val (.int p1), .val (.int p2), .val (.int p3), .val (.int p4), .val (.int p5), .val (.int (0 : Int32)), .val (.int (0 : Int32)), .unset, .unset, .unset, .unset, .unset, .unset, .unset, .unset, .unset, .unset, .unset, .unset] [(.int (2 : Int32)), (.int p1)])) _
      refine Own.go (fun t k => XS.iand X0.here hx rfl (hb hby at_28) rfl k) ?_
      show Own.Fin p e below (s₁.setTop (mkF m 29 #[.val (.int p1), .val (.int p2), .val (.int p3), .val (.int p4), .val (.int p5), .val (.int (0 : Int32)), .val (.int (0 : Int32)), .unset, .unset, .unset, .unset, .unset, .unset, .unset, .unset, .unset, .unset, .unset, .unset] [(.int (p1 &&& (2 : Int32)))])) _
      by_cases hc29_2 : (p1 &&& (2 : Int32)) = (0 : Int32)
      · skip
        refine Own.go (fun t k => XS.ifYes X0.here hx rfl (pc0 := 29) (pc' := 36) rfl (hb hby at_29) rfl ((if0 _ _).trans (teq hc29_2).1) (by decide) (by decide) k) ?_
        show Own.Fin p e below (s₁.setTop (mkF m 36 #[.val (.int p1), .val (.int p2), .val (.int p3), .val (.int p4), .val (.int p5), .val (.int (0 : Int32)), .val (.int (0 : Int32)), .unset, .unset, .unset, .unset, .unset, .unset, .unset, .unset, .unset, .unset, .unset, .unset] [])) _
        refine Own.go (fun t k => XS.iconst X0.here hx rfl (hb hby at_36) k) ?_
        show Own.Fin p e below (s₁.setTop (mkF m 37 #[.val (.int p1), .val (.int p2), .val (.int p3), .val (.int p4), .val (.int p5), .val (.int (0 : Int32)), .val (.int (0 : Int32)), .unset, .unset, .unset, .unset, .unset, .unset, .unset, .unset, .unset, .unset, .unset, .unset] [(.int (0 : Int32))])) _
        refine Own.go (fun t k => XS.istore X0.here hx rfl (hb hby at_37) rfl (l' := #[.val (.int p1), .val (.int p2), .val (.int p3), .val (.int p4), .val (.int p5), .val (.int (0 : Int32)), .val (.int (0 : Int32)), .val (.int (0 : Int32)), .unset, .unset, .unset, .unset, .unset, .unset, .unset, .unset, .unset, .unset, .unset]) rfl k) ?_
        show Own.Fin p e below (s₁.setTop (mkF m 39 #[.val (.int p1), .val (.int p2), .val (.int p3), .val (.int p4), .val (.int p5), .val (.int (0 : Int32)), .val (.int (0 : Int32)), .val (.int (0 : Int32)), .unset, .unset, .unset, .unset, .unset, .unset, .unset, .unset, .unset, .unset, .unset] [])) _
        refine Own.go (fun t k => XS.iloadN X0.here hx rfl (hb hby at_39) rfl k) ?_
        show Own.Fin p e below (s₁.setTop (mkF m 40 #[.val (.int p1), .val (.int p2), .val (.int p3), .val (.int p4), .val (.int p5), .val (.int (0 : Int32)), .val (.int (0 : Int32)), .val (.int (0 : Int32)), .unset, .unset, .unset, .unset, .unset, .unset, .unset, .unset, .unset, .unset, .unset] [(.int p2)])) _
        refine Own.go (fun t k => XS.sipush X0.here hx rfl (hb hby at_40) k) ?_
        show Own.Fin p e below (s₁.setTop (mkF m 43 #[.val (.int p1), .val (.int p2), .val (.int p3), .val (.int p4), .val (.int p5), .val (.int (0 : Int32)), .val (.int (0 : Int32)), .val (.int (0 : Int32)), .unset, .unset, .unset, .unset, .unset, .unset, .unset, .unset, .unset, .unset, .unset] [(.int (255 : Int32)), (.int p2)])) _
        refine Own.go (fun t k => XS.iand X0.here hx rfl (hb hby at_43) rfl k) ?_
        show Own.Fin p e below (s₁.setTop (mkF m 44 #[.val (.int p1), .val (.int p2), .val (.int p3), .val (.int p4), .val (.int p5), .val (.int (0 : Int32)), .val (.int (0 : Int32)), .val (.int (0 : Int32)), .unset, .unset, .unset, .unset, .unset, .unset, .unset, .unset, .unset, .unset, .unset] [(.int (p2 &&& (255 : Int32)))])) _
        refine Own.go (fun t k => XS.i2c X0.here hx rfl (hb hby at_44) rfl k) ?_
        show Own.Fin p e below (s₁.setTop (mkF m 45 #[.val (.int p1), .val (.int p2), .val (.int p3), .val (.int p4), .val (.int p5), .val (.int (0 : Int32)), .val (.int (0 : Int32)), .val (.int (0 : Int32)), .unset, .unset, .unset, .unset, .unset, .unset, .unset, .unset, .unset, .unset, .unset] [(.int (((p2 &&& (255 : Int32))).toUInt32.toUInt16.toUInt32.toInt32))])) _
        refine Own.go (fun t k => XS.istore X0.here hx rfl (hb hby at_45) rfl (l' := #[.val (.int p1), .val (.int p2), .val (.int p3), .val (.int p4), .val (.int p5), .val (.int (0 : Int32)), .val (.int (0 : Int32)), .val (.int (0 : Int32)), .val (.int (((p2 &&& (255 : Int32))).toUInt32.toUInt16.toUInt32.toInt32)), .unset, .unset, .unset, .unset, .unset, .unset, .unset, .unset, .unset, .unset]) rfl k) ?_
        show Own.Fin p e below (s₁.setTop (mkF m 47 #[.val (.int p1), .val (.int p2), .val (.int p3), .val (.int p4), .val (.int p5), .val (.int (0 : Int32)), .val (.int (0 : Int32)), .val (.int (0 : Int32)), .val (.int (((p2 &&& (255 : Int32))).toUInt32.toUInt16.toUInt32.toInt32)), .unset, .unset, .unset, .unset, .unset, .unset, .unset, .unset, .unset, .unset] [])) _
        refine Own.go (fun t k => XS.iloadN X0.here hx rfl (hb hby at_47) rfl k) ?_
        show Own.Fin p e below (s₁.setTop (mkF m 48 #[.val (.int p1), .val (.int p2), .val (.int p3), .val (.int p4), .val (.int p5), .val (.int (0 : Int32)), .val (.int (0 : Int32)), .val (.int (0 : Int32)), .val (.int (((p2 &&& (255 : Int32))).toUInt32.toUInt16.toUInt32.toInt32)), .unset, .unset, .unset, .unset, .unset, .unset, .unset, .unset, .unset, .unset] [(.int p3)])) _
        refine Own.go (fun t k => XS.sipush X0.here hx rfl (hb hby at_48) k) ?_
        show Own.Fin p e below (s₁.setTop (mkF m 51 #[.val (.int p1), .val (.int p2), .val (.int p3), .val (.int p4), .val (.int p5), .val (.int (0 : Int32)), .val (.int (0 : Int32)), .val (.int (0 : Int32)), .val (.int (((p2 &&& (255 : Int32))).toUInt32.toUInt16.toUInt32.toInt32)), .unset, .unset, .unset, .unset, .unset, .unset, .unset, .unset, .unset, .unset] [(.int (255 : Int32)), (.int p3)])) _
        refine Own.go (fun t k => XS.iand X0.here hx rfl (hb hby at_51) rfl k) ?_
        show Own.Fin p e below (s₁.setTop (mkF m 52 #[.val (.int p1), .val (.int p2), .val (.int p3), .val (.int p4), .val (.int p5), .val (.int (0 : Int32)), .val (.int (0 : Int32)), .val (.int (0 : Int32)), .val (.int (((p2 &&& (255 : Int32))).toUInt32.toUInt16.toUInt32.toInt32)), .unset, .unset, .unset, .unset, .unset, .unset, .unset, .unset, .unset, .unset] [(.int (p3 &&& (255 : Int32)))])) _
        refine Own.go (fun t k => XS.i2c X0.here hx rfl (hb hby at_52) rfl k) ?_
        show Own.Fin p e below (s₁.setTop (mkF m 53 #[.val (.int p1), .val (.int p2), .val (.int p3), .val (.int p4), .val (.int p5), .val (.int (0 : Int32)), .val (.int (0 : Int32)), .val (.int (0 : Int32)), .val (.int (((p2 &&& (255 : Int32))).toUInt32.toUInt16.toUInt32.toInt32)), .unset, .unset, .unset, .unset, .unset, .unset, .unset, .unset, .unset, .unset] [(.int (((p3 &&& (255 : Int32))).toUInt32.toUInt16.toUInt32.toInt32))])) _
        refine Own.go (fun t k => XS.istore X0.here hx rfl (hb hby at_53) rfl (l' := #[.val (.int p1), .val (.int p2), .val (.int p3), .val (.int p4), .val (.int p5), .val (.int (0 : Int32)), .val (.int (0 : Int32)), .val (.int (0 : Int32)), .val (.int (((p2 &&& (255 : Int32))).toUInt32.toUInt16.toUInt32.toInt32)), .val (.int (((p3 &&& (255 : Int32))).toUInt32.toUInt16.toUInt32.toInt32)), .unset, .unset, .unset, .unset, .unset, .unset, .unset, .unset, .unset]) rfl k) ?_
        show Own.Fin p e below (s₁.setTop (mkF m 55 #[.val (.int p1), .val (.int p2), .val (.int p3), .val (.int p4), .val (.int p5), .val (.int (0 : Int32)), .val (.int (0 : Int32)), .val (.int (0 : Int32)), .val (.int (((p2 &&& (255 : Int32))).toUInt32.toUInt16.toUInt32.toInt32)), .val (.int (((p3 &&& (255 : Int32))).toUInt32.toUInt16.toUInt32.toInt32)), .unset, .unset, .unset, .unset, .unset, .unset, .unset, .unset, .unset] [])) _
        refine Own.go (fun t k => XS.iload X0.here hx rfl (hb hby at_55) rfl k) ?_
        show Own.Fin p e below (s₁.setTop (mkF m 57 #[.val (.int p1), .val (.int p2), .val (.int p3), .val (.int p4), .val (.int p5), .val (.int (0 : Int32)), .val (.int (0 : Int32)), .val (.int (0 : Int32)), .val (.int (((p2 &&& (255 : Int32))).toUInt32.toUInt16.toUInt32.toInt32)), .val (.int (((p3 &&& (255 : Int32))).toUInt32.toUInt16.toUInt32.toInt32)), .unset, .unset, .unset, .unset, .unset, .unset, .unset, .unset, .unset] [(.int (((p2 &&& (255 : Int32))).toUInt32.toUInt16.toUInt32.toInt32))])) _
        refine Own.cS X0 hx hZ hown (hw _ (List.mem_of_getElem? (i := 0) rfl)) (hw _ (List.mem_of_getElem? (i := 1) rfl)) (hw _ (List.mem_of_getElem? (i := 2) rfl)) (hw _ (List.mem_of_getElem? (i := 3) rfl)) (by decide) (rm1 l Z a0 hw [] (((p2 &&& (255 : Int32))).toUInt32.toUInt16.toUInt32.toInt32) cs h0 n0 Z0 O0 SC hcs (own_ch _)) (by decide) (W := 0) (by decide) (argsL := [(.int (((p2 &&& (255 : Int32))).toUInt32.toUInt16.toUInt32.toInt32))]) (rest := []) (by rw [hml]; rfl) (lenOf pd_3 rfl) rfl (Nat.le_of_eq rfl) (hb hby at_57) e0 (by decide) (by decide) ?_
        intro T4 L4 v4 X4 hQ4
        obtain ⟨b4, ge4, rfl, N4q, K4q⟩ := hQ4
        have N4 := Fr.app N0 N4q
        have Z4 : n0 ≤ T4.heap.size := Nat.le_trans Z0 K4q.1
        have O4 := O0.keep K4q all0
        show Own.Fin p e below (T4.setTop (mkF m 60 #[.val (.int p1), .val (.int p2), .val (.int p3), .val (.int p4), .val (.int p5), .val (.int (0 : Int32)), .val (.int (0 : Int32)), .val (.int (0 : Int32)), .val (.int (((p2 &&& (255 : Int32))).toUInt32.toUInt16.toUInt32.toInt32)), .val (.int (((p3 &&& (255 : Int32))).toUInt32.toUInt16.toUInt32.toInt32)), .unset, .unset, .unset, .unset, .unset, .unset, .unset, .unset, .unset] [(.ref b4)])) _
        refine Own.go (fun t k => XS.astore X4.here hx rfl (hb hby at_60) rfl rfl (l' := #[.val (.int p1), .val (.int p2), .val (.int p3), .val (.int p4), .val (.int p5), .val (.int (0 : Int32)), .val (.int (0 : Int32)), .val (.int (0 : Int32)), .val (.int (((p2 &&& (255 : Int32))).toUInt32.toUInt16.toUInt32.toInt32)), .val (.int (((p3 &&& (255 : Int32))).toUInt32.toUInt16.toUInt32.toInt32)), .val (.ref b4), .unset, .unset, .unset, .unset, .unset, .unset, .unset, .unset]) rfl k) ?_
        show Own.Fin p e below (T4.setTop (mkF m 62 #[.val (.int p1), .val (.int p2), .val (.int p3), .val (.int p4), .val (.int p5), .val (.int (0 : Int32)), .val (.int (0 : Int32)), .val (.int (0 : Int32)), .val (.int (((p2 &&& (255 : Int32))).toUInt32.toUInt16.toUInt32.toInt32)), .val (.int (((p3 &&& (255 : Int32))).toUInt32.toUInt16.toUInt32.toInt32)), .val (.ref b4), .unset, .unset, .unset, .unset, .unset, .unset, .unset, .unset] [])) _
        refine Own.go (fun t k => XS.iload X4.here hx rfl (hb hby at_62) rfl k) ?_
        show Own.Fin p e below (T4.setTop (mkF m 64 #[.val (.int p1), .val (.int p2), .val (.int p3), .val (.int p4), .val (.int p5), .val (.int (0 : Int32)), .val (.int (0 : Int32)), .val (.int (0 : Int32)), .val (.int (((p2 &&& (255 : Int32))).toUInt32.toUInt16.toUInt32.toInt32)), .val (.int (((p3 &&& (255 : Int32))).toUInt32.toUInt16.toUInt32.toInt32)), .val (.ref b4), .unset, .unset, .unset, .unset, .unset, .unset, .unset, .unset] [(.int (0 : Int32))])) _
        have hc64_4 : (0 : Int32) = (0 : Int32) := by decide
        refine Own.go (fun t k => XS.ifYes X4.here hx rfl (pc0 := 64) (pc' := 72) rfl (hb hby at_64) rfl ((if0 _ _).trans (teq hc64_4).1) (by decide) (by decide) k) ?_
        show Own.Fin p e below (T4.setTop (mkF m 72 #[.val (.int p1), .val (.int p2), .val (.int p3), .val (.int p4), .val (.int p5), .val (.int (0 : Int32)), .val (.int (0 : Int32)), .val (.int (0 : Int32)), .val (.int (((p2 &&& (255 : Int32))).toUInt32.toUInt16.toUInt32.toInt32)), .val (.int (((p3 &&& (255 : Int32))).toUInt32.toUInt16.toUInt32.toInt32)), .val (.ref b4), .unset, .unset, .unset, .unset, .unset, .unset, .unset, .unset] [])) _
        refine Own.go (fun t k => XS.iload X4.here hx rfl (hb hby at_72) rfl k) ?_
        show Own.Fin p e below (T4.setTop (mkF m 74 #[.val (.int p1), .val (.int p2), .val (.int p3), .val (.int p4), .val (.int p5), .val (.int (0 : Int32)), .val (.int (0 : Int32)), .val (.int (0 : Int32)), .val (.int (((p2 &&& (255 : Int32))).toUInt32.toUInt16.toUInt32.toInt32)), .val (.int (((p3 &&& (255 : Int32))).toUInt32.toUInt16.toUInt32.toInt32)), .val (.ref b4), .unset, .unset, .unset, .unset, .unset, .unset, .unset, .unset] [(.int (((p3 &&& (255 : Int32))).toUInt32.toUInt16.toUInt32.toInt32))])) _
        refine Own.cS X4 hx hZ hown (hw _ (List.mem_of_getElem? (i := 0) rfl)) (hw _ (List.mem_of_getElem? (i := 1) rfl)) (hw _ (List.mem_of_getElem? (i := 2) rfl)) (hw _ (List.mem_of_getElem? (i := 3) rfl)) (by decide) (rm1 l Z a0 hw [] (((p3 &&& (255 : Int32))).toUInt32.toUInt16.toUInt32.toInt32) cs T4.heap n0 Z4 O4 SC hcs (own_ch _)) (by decide) (W := 0) (by decide) (argsL := [(.int (((p3 &&& (255 : Int32))).toUInt32.toUInt16.toUInt32.toInt32))]) (rest := []) (by rw [hml]; rfl) (lenOf pd_3 rfl) rfl (Nat.le_of_eq rfl) (hb hby at_74) rfl (by decide) (by decide) ?_
        intro T6 L6 v6 X6 hQ6
        obtain ⟨b6, ge6, rfl, N6q, K6q⟩ := hQ6
        have N6 := Fr.app N4 N6q
        have Z6 : n0 ≤ T6.heap.size := Nat.le_trans Z4 K6q.1
        have O6 := O4.keep K6q all0
        show Own.Fin p e below (T6.setTop (mkF m 77 #[.val (.int p1), .val (.int p2), .val (.int p3), .val (.int p4), .val (.int p5), .val (.int (0 : Int32)), .val (.int (0 : Int32)), .val (.int (0 : Int32)), .val (.int (((p2 &&& (255 : Int32))).toUInt32.toUInt16.toUInt32.toInt32)), .val (.int (((p3 &&& (255 : Int32))).toUInt32.toUInt16.toUInt32.toInt32)), .val (.ref b4), .unset, .unset, .unset, .unset, .unset, .unset, .unset, .unset] [(.ref b6)])) _
        refine Own.go (fun t k => XS.astore X6.here hx rfl (hb hby at_77) rfl rfl (l' := #[.val (.int p1), .val (.int p2), .val (.int p3), .val (.int p4), .val (.int p5), .val (.int (0 : Int32)), .val (.int (0 : Int32)), .val (.int (0 : Int32)), .val (.int (((p2 &&& (255 : Int32))).toUInt32.toUInt16.toUInt32.toInt32)), .val (.int (((p3 &&& (255 : Int32))).toUInt32.toUInt16.toUInt32.toInt32)), .val (.ref b4), .val (.ref b6), .unset, .unset, .unset, .unset, .unset, .unset, .unset]) rfl k) ?_
        show Own.Fin p e below (T6.setTop (mkF m 79 #[.val (.int p1), .val (.int p2), .val (.int p3), .val (.int p4), .val (.int p5), .val (.int (0 : Int32)), .val (.int (0 : Int32)), .val (.int (0 : Int32)), .val (.int (((p2 &&& (255 : Int32))).toUInt32.toUInt16.toUInt32.toInt32)), .val (.int (((p3 &&& (255 : Int32))).toUInt32.toUInt16.toUInt32.toInt32)), .val (.ref b4), .val (.ref b6), .unset, .unset, .unset, .unset, .unset, .unset, .unset] [])) _
        refine Own.go (fun t k => XS.iload X6.here hx rfl (hb hby at_79) rfl k) ?_
        show Own.Fin p e below (T6.setTop (mkF m 81 #[.val (.int p1), .val (.int p2), .val (.int p3), .val (.int p4), .val (.int p5), .val (.int (0 : Int32)), .val (.int (0 : Int32)), .val (.int (0 : Int32)), .val (.int (((p2 &&& (255 : Int32))).toUInt32.toUInt16.toUInt32.toInt32)), .val (.int (((p3 &&& (255 : Int32))).toUInt32.toUInt16.toUInt32.toInt32)), .val (.ref b4), .val (.ref b6), .unset, .unset, .unset, .unset, .unset, .unset, .unset] [(.int (0 : Int32))])) _
        have hc81_6 : (0 : Int32) = (0 : Int32) := by decide
        refine Own.go (fun t k => XS.ifYes X6.here hx rfl (pc0 := 81) (pc' := 88) rfl (hb hby at_81) rfl ((if0 _ _).trans (teq hc81_6).1) (by decide) (by decide) k) ?_
        show Own.Fin p e below (T6.setTop (mkF m 88 #[.val (.int p1), .val (.int p2), .val (.int p3), .val (.int p4), .val (.int p5), .val (.int (0 : Int32)), .val (.int (0 : Int32)), .val (.int (0 : Int32)), .val (.int (((p2 &&& (255 : Int32))).toUInt32.toUInt16.toUInt32.toInt32)), .val (.int (((p3 &&& (255 : Int32))).toUInt32.toUInt16.toUInt32.toInt32)), .val (.ref b4), .val (.ref b6), .unset, .unset, .unset, .unset, .unset, .unset, .unset] [])) _
        refine Own.go (fun t k => XS.iloadN X6.here hx rfl (hb hby at_88) rfl k) ?_
        show Own.Fin p e below (T6.setTop (mkF m 89 #[.val (.int p1), .val (.int p2), .val (.int p3), .val (.int p4), .val (.int p5), .val (.int (0 : Int32)), .val (.int (0 : Int32)), .val (.int (0 : Int32)), .val (.int (((p2 &&& (255 : Int32))).toUInt32.toUInt16.toUInt32.toInt32)), .val (.int (((p3 &&& (255 : Int32))).toUInt32.toUInt16.toUInt32.toInt32)), .val (.ref b4), .val (.ref b6), .unset, .unset, .unset, .unset, .unset, .unset, .unset] [(.int p3)])) _
        refine Own.go (fun t k => XS.istore X6.here hx rfl (hb hby at_89) rfl (l' := #[.val (.int p1), .val (.int p2), .val (.int p3), .val (.int p4), .val (.int p5), .val (.int (0 : Int32)), .val (.int (0 : Int32)), .val (.int (0 : Int32)), .val (.int (((p2 &&& (255 : Int32))).toUInt32.toUInt16.toUInt32.toInt32)), .val (.int (((p3 &&& (255 : Int32))).toUInt32.toUInt16.toUInt32.toInt32)), .val (.ref b4), .val (.ref b6), .val (.int p3), .unset, .unset, .unset, .unset, .unset, .unset]) rfl k) ?_
        show Own.Fin p e below (T6.setTop (mkF m 91 #[.val (.int p1), .val (.int p2), .val (.int p3), .val (.int p4), .val (.int p5), .val (.int (0 : Int32)), .val (.int (0 : Int32)), .val (.int (0 : Int32)), .val (.int (((p2 &&& (255 : Int32))).toUInt32.toUInt16.toUInt32.toInt32)), .val (.int (((p3 &&& (255 : Int32))).toUInt32.toUInt16.toUInt32.toInt32)), .val (.ref b4), .val (.ref b6), .val (.int p3), .unset, .unset, .unset, .unset, .unset, .unset] [])) _
        obtain ⟨T8, h8, X8, e8, E8, A8, D8, -, st8⟩ := newO X6 hx hZ hown (hw _ (List.mem_of_getElem? (i := 26) rfl)) (hw _ (List.mem_of_getElem? (i := 27) rfl)) (hw _ (List.mem_of_getElem? (i := 28) rfl)) rfl (g := (mkF m 91 #[.val (.int p1), .val (.int p2), .val (.int p3), .val (.int p4), .val (.int p5), .val (.int (0 : Int32)), .val (.int (0 : Int32)), .val (.int (0 : Int32)), .val (.int (((p2 &&& (255 : Int32))).toUInt32.toUInt16.toUInt32.toInt32)), .val (.int (((p3 &&& (255 : Int32))).toUInt32.toUInt16.toUInt32.toInt32)), .val (.ref b4), .val (.ref b6), .val (.int p3), .unset, .unset, .unset, .unset, .unset, .unset] [])) rfl (hb hby at_91) (by decide) (by decide)
        obtain ⟨b8, gb8⟩ : ∃ z, z = T6.heap.size := ⟨_, rfl⟩
        rw [← gb8] at A8 D8 st8
        refine Own.go st8 ?_
        have ge8 : n0 ≤ b8 := by rw [gb8]; exact Z6
        have Z8 : n0 ≤ h8.size := Nat.le_trans Z6 E8.1
        have O8 := O6.ext E8
        have fl9 : Fld Z h8 b8 "com/example/arachne/arachne/Node" "id" "Ljava/lang/String;" .null := D8 (Or.inr (hw _ (List.mem_of_getElem? (i := 34) rfl))) (ty := (.object "java/lang/String")) (by decide)
        have fl10 : Fld Z h8 b8 "com/example/arachne/arachne/Node" "size" "Lcom/example/arachne/arachne/NodeSize;" .null := D8 (Or.inr (hw _ (List.mem_of_getElem? (i := 36) rfl))) (ty := (.object "com/example/arachne/arachne/NodeSize")) (by decide)
        have fl11 : Fld Z h8 b8 "com/example/arachne/arachne/Node" "label" "Ljava/lang/String;" .null := D8 (Or.inr (hw _ (List.mem_of_getElem? (i := 38) rfl))) (ty := (.object "java/lang/String")) (by decide)
        have fl12 : Fld Z h8 b8 "com/example/arachne/arachne/Node" "pin" "Lcom/example/arachne/arachne/Point;" .null := D8 (Or.inr (hw _ (List.mem_of_getElem? (i := 40) rfl))) (ty := (.object "com/example/arachne/arachne/Point")) (by decide)
        have fl13 : Fld Z h8 b8 "com/example/arachne/arachne/Node" "index" "I" (.int (0 : Int32)) := D8 (Or.inr (hw _ (List.mem_of_getElem? (i := 42) rfl))) (ty := .int) (by decide)
        show Own.Fin p e below (T8.setTop (mkF m 94 #[.val (.int p1), .val (.int p2), .val (.int p3), .val (.int p4), .val (.int p5), .val (.int (0 : Int32)), .val (.int (0 : Int32)), .val (.int (0 : Int32)), .val (.int (((p2 &&& (255 : Int32))).toUInt32.toUInt16.toUInt32.toInt32)), .val (.int (((p3 &&& (255 : Int32))).toUInt32.toUInt16.toUInt32.toInt32)), .val (.ref b4), .val (.ref b6), .val (.int p3), .unset, .unset, .unset, .unset, .unset, .unset] [(.ref b8)])) _
        refine Own.go (fun t k => XS.dup X8.here hx rfl (hb hby at_94) rfl rfl k) ?_
        show Own.Fin p e below (T8.setTop (mkF m 95 #[.val (.int p1), .val (.int p2), .val (.int p3), .val (.int p4), .val (.int p5), .val (.int (0 : Int32)), .val (.int (0 : Int32)), .val (.int (0 : Int32)), .val (.int (((p2 &&& (255 : Int32))).toUInt32.toUInt16.toUInt32.toInt32)), .val (.int (((p3 &&& (255 : Int32))).toUInt32.toUInt16.toUInt32.toInt32)), .val (.ref b4), .val (.ref b6), .val (.int p3), .unset, .unset, .unset, .unset, .unset, .unset] [(.ref b8), (.ref b8)])) _
        refine Own.go (fun t k => XS.aload X8.here hx rfl (hb hby at_95) rfl rfl k) ?_
        show Own.Fin p e below (T8.setTop (mkF m 97 #[.val (.int p1), .val (.int p2), .val (.int p3), .val (.int p4), .val (.int p5), .val (.int (0 : Int32)), .val (.int (0 : Int32)), .val (.int (0 : Int32)), .val (.int (((p2 &&& (255 : Int32))).toUInt32.toUInt16.toUInt32.toInt32)), .val (.int (((p3 &&& (255 : Int32))).toUInt32.toUInt16.toUInt32.toInt32)), .val (.ref b4), .val (.ref b6), .val (.int p3), .unset, .unset, .unset, .unset, .unset, .unset] [(.ref b4), (.ref b8), (.ref b8)])) _
        refine Own.go (fun t k => XS.aconstNull X8.here hx rfl (hb hby at_97) k) ?_
        show Own.Fin p e below (T8.setTop (mkF m 98 #[.val (.int p1), .val (.int p2), .val (.int p3), .val (.int p4), .val (.int p5), .val (.int (0 : Int32)), .val (.int (0 : Int32)), .val (.int (0 : Int32)), .val (.int (((p2 &&& (255 : Int32))).toUInt32.toUInt16.toUInt32.toInt32)), .val (.int (((p3 &&& (255 : Int32))).toUInt32.toUInt16.toUInt32.toInt32)), .val (.ref b4), .val (.ref b6), .val (.int p3), .unset, .unset, .unset, .unset, .unset, .unset] [.null, (.ref b4), (.ref b8), (.ref b8)])) _
        refine Own.go (fun t k => XS.aload X8.here hx rfl (hb hby at_98) rfl rfl k) ?_
        show Own.Fin p e below (T8.setTop (mkF m 100 #[.val (.int p1), .val (.int p2), .val (.int p3), .val (.int p4), .val (.int p5), .val (.int (0 : Int32)), .val (.int (0 : Int32)), .val (.int (0 : Int32)), .val (.int (((p2 &&& (255 : Int32))).toUInt32.toUInt16.toUInt32.toInt32)), .val (.int (((p3 &&& (255 : Int32))).toUInt32.toUInt16.toUInt32.toInt32)), .val (.ref b4), .val (.ref b6), .val (.int p3), .unset, .unset, .unset, .unset, .unset, .unset] [(.ref b4), .null, (.ref b4), (.ref b8), (.ref b8)])) _
        refine Own.go (fun t k => XS.aconstNull X8.here hx rfl (hb hby at_100) k) ?_
        show Own.Fin p e below (T8.setTop (mkF m 101 #[.val (.int p1), .val (.int p2), .val (.int p3), .val (.int p4), .val (.int p5), .val (.int (0 : Int32)), .val (.int (0 : Int32)), .val (.int (0 : Int32)), .val (.int (((p2 &&& (255 : Int32))).toUInt32.toUInt16.toUInt32.toInt32)), .val (.int (((p3 &&& (255 : Int32))).toUInt32.toUInt16.toUInt32.toInt32)), .val (.ref b4), .val (.ref b6), .val (.int p3), .unset, .unset, .unset, .unset, .unset, .unset] [.null, (.ref b4), .null, (.ref b4), (.ref b8), (.ref b8)])) _
        refine Own.go (fun t k => XS.iloadN X8.here hx rfl (hb hby at_101) rfl k) ?_
        show Own.Fin p e below (T8.setTop (mkF m 102 #[.val (.int p1), .val (.int p2), .val (.int p3), .val (.int p4), .val (.int p5), .val (.int (0 : Int32)), .val (.int (0 : Int32)), .val (.int (0 : Int32)), .val (.int (((p2 &&& (255 : Int32))).toUInt32.toUInt16.toUInt32.toInt32)), .val (.int (((p3 &&& (255 : Int32))).toUInt32.toUInt16.toUInt32.toInt32)), .val (.ref b4), .val (.ref b6), .val (.int p3), .unset, .unset, .unset, .unset, .unset, .unset] [(.int p4), .null, (.ref b4), .null, (.ref b4), (.ref b8), (.ref b8)])) _
        refine Own.cI X8 hx hZ rfl hown (hw _ (List.mem_of_getElem? (i := 29) rfl)) (hw _ (List.mem_of_getElem? (i := 30) rfl)) (hw _ (List.mem_of_getElem? (i := 28) rfl)) (hw _ (List.mem_of_getElem? (i := 31) rfl)) (by decide) (rm6 l Z a0 hw [] b8 b4 b4 p4 h8 n0 Z8 A8 fl9 fl10 fl11 fl12 fl13 ge8) (by decide) (W := 1) (by decide) (argsL := [(.ref b4), .null, (.ref b4), .null, (.int p4)]) (rest := [(.ref b8)]) (by rw [hml]; rfl) (lenOf pd_4 rfl) rfl (Nat.le_of_eq rfl) (hb hby at_102) e8 (by decide) (by decide) ?_
        intro T14 L14 v14 X14 hQ14
        obtain ⟨rfl, N14q, K14q⟩ := hQ14
        have N14 := Fr.app N6 N14q
        have f15 := A8.keep K14q
        have Z14 : n0 ≤ T14.heap.size := Nat.le_trans Z8 K14q.1
        have O14 := O8.keep K14q (allS ge8 all0)
        show Own.Fin p e below (T14.setTop (mkF m 105 #[.val (.int p1), .val (.int p2), .val (.int p3), .val (.int p4), .val (.int p5), .val (.int (0 : Int32)), .val (.int (0 : Int32)), .val (.int (0 : Int32)), .val (.int (((p2 &&& (255 : Int32))).toUInt32.toUInt16.toUInt32.toInt32)), .val (.int (((p3 &&& (255 : Int32))).toUInt32.toUInt16.toUInt32.toInt32)), .val (.ref b4), .val (.ref b6), .val (.int p3), .unset, .unset, .unset, .unset, .unset, .unset] [(.ref b8)])) _
        refine Own.go (fun t k => XS.astore X14.here hx rfl (hb hby at_105) rfl rfl (l' := #[.val (.int p1), .val (.int p2), .val (.int p3), .val (.int p4), .val (.int p5), .val (.int (0 : Int32)), .val (.int (0 : Int32)), .val (.int (0 : Int32)), .val (.int (((p2 &&& (255 : Int32))).toUInt32.toUInt16.toUInt32.toInt32)), .val (.int (((p3 &&& (255 : Int32))).toUInt32.toUInt16.toUInt32.toInt32)), .val (.ref b4), .val (.ref b6), .val (.int p3), .val (.ref b8), .unset, .unset, .unset, .unset, .unset]) rfl k) ?_
        show Own.Fin p e below (T14.setTop (mkF m 107 #[.val (.int p1), .val (.int p2), .val (.int p3), .val (.int p4), .val (.int p5), .val (.int (0 : Int32)), .val (.int (0 : Int32)), .val (.int (0 : Int32)), .val (.int (((p2 &&& (255 : Int32))).toUInt32.toUInt16.toUInt32.toInt32)), .val (.int (((p3 &&& (255 : Int32))).toUInt32.toUInt16.toUInt32.toInt32)), .val (.ref b4), .val (.ref b6), .val (.int p3), .val (.ref b8), .unset, .unset, .unset, .unset, .unset] [])) _
        obtain ⟨T16, h16, X16, e16, E16, A16, D16, -, st16⟩ := newO X14 hx hZ hown (hw _ (List.mem_of_getElem? (i := 26) rfl)) (hw _ (List.mem_of_getElem? (i := 27) rfl)) (hw _ (List.mem_of_getElem? (i := 28) rfl)) rfl (g := (mkF m 107 #[.val (.int p1), .val (.int p2), .val (.int p3), .val (.int p4), .val (.int p5), .val (.int (0 : Int32)), .val (.int (0 : Int32)), .val (.int (0 : Int32)), .val (.int (((p2 &&& (255 : Int32))).toUInt32.toUInt16.toUInt32.toInt32)), .val (.int (((p3 &&& (255 : Int32))).toUInt32.toUInt16.toUInt32.toInt32)), .val (.ref b4), .val (.ref b6), .val (.int p3), .val (.ref b8), .unset, .unset, .unset, .unset, .unset] [])) rfl (hb hby at_107) (by decide) (by decide)
        obtain ⟨b16, gb16⟩ : ∃ z, z = T14.heap.size := ⟨_, rfl⟩
        rw [← gb16] at A16 D16 st16
        refine Own.go st16 ?_
        have ge16 : n0 ≤ b16 := by rw [gb16]; exact Z14
        have ne16_b8 : b8 ≠ b16 := Nat.ne_of_lt (Nat.lt_of_lt_of_le f15.lt (Nat.le_of_eq gb16.symm))
        have Z16 : n0 ≤ h16.size := Nat.le_trans Z14 E16.1
        have f17 := f15.ext E16
        have O16 := O14.ext E16
        have fl18 : Fld Z h16 b16 "com/example/arachne/arachne/Node" "id" "Ljava/lang/String;" .null := D16 (Or.inr (hw _ (List.mem_of_getElem? (i := 34) rfl))) (ty := (.object "java/lang/String")) (by decide)
        have fl19 : Fld Z h16 b16 "com/example/arachne/arachne/Node" "size" "Lcom/example/arachne/arachne/NodeSize;" .null := D16 (Or.inr (hw _ (List.mem_of_getElem? (i := 36) rfl))) (ty := (.object "com/example/arachne/arachne/NodeSize")) (by decide)
        have fl20 : Fld Z h16 b16 "com/example/arachne/arachne/Node" "label" "Ljava/lang/String;" .null := D16 (Or.inr (hw _ (List.mem_of_getElem? (i := 38) rfl))) (ty := (.object "java/lang/String")) (by decide)
        have fl21 : Fld Z h16 b16 "com/example/arachne/arachne/Node" "pin" "Lcom/example/arachne/arachne/Point;" .null := D16 (Or.inr (hw _ (List.mem_of_getElem? (i := 40) rfl))) (ty := (.object "com/example/arachne/arachne/Point")) (by decide)
        have fl22 : Fld Z h16 b16 "com/example/arachne/arachne/Node" "index" "I" (.int (0 : Int32)) := D16 (Or.inr (hw _ (List.mem_of_getElem? (i := 42) rfl))) (ty := .int) (by decide)
        show Own.Fin p e below (T16.setTop (mkF m 110 #[.val (.int p1), .val (.int p2), .val (.int p3), .val (.int p4), .val (.int p5), .val (.int (0 : Int32)), .val (.int (0 : Int32)), .val (.int (0 : Int32)), .val (.int (((p2 &&& (255 : Int32))).toUInt32.toUInt16.toUInt32.toInt32)), .val (.int (((p3 &&& (255 : Int32))).toUInt32.toUInt16.toUInt32.toInt32)), .val (.ref b4), .val (.ref b6), .val (.int p3), .val (.ref b8), .unset, .unset, .unset, .unset, .unset] [(.ref b16)])) _
        refine Own.go (fun t k => XS.dup X16.here hx rfl (hb hby at_110) rfl rfl k) ?_
        show Own.Fin p e below (T16.setTop (mkF m 111 #[.val (.int p1), .val (.int p2), .val (.int p3), .val (.int p4), .val (.int p5), .val (.int (0 : Int32)), .val (.int (0 : Int32)), .val (.int (0 : Int32)), .val (.int (((p2 &&& (255 : Int32))).toUInt32.toUInt16.toUInt32.toInt32)), .val (.int (((p3 &&& (255 : Int32))).toUInt32.toUInt16.toUInt32.toInt32)), .val (.ref b4), .val (.ref b6), .val (.int p3), .val (.ref b8), .unset, .unset, .unset, .unset, .unset] [(.ref b16), (.ref b16)])) _
        refine Own.go (fun t k => XS.aload X16.here hx rfl (hb hby at_111) rfl rfl k) ?_
        show Own.Fin p e below (T16.setTop (mkF m 113 #[.val (.int p1), .val (.int p2), .val (.int p3), .val (.int p4), .val (.int p5), .val (.int (0 : Int32)), .val (.int (0 : Int32)), .val (.int (0 : Int32)), .val (.int (((p2 &&& (255 : Int32))).toUInt32.toUInt16.toUInt32.toInt32)), .val (.int (((p3 &&& (255 : Int32))).toUInt32.toUInt16.toUInt32.toInt32)), .val (.ref b4), .val (.ref b6), .val (.int p3), .val (.ref b8), .unset, .unset, .unset, .unset, .unset] [(.ref b6), (.ref b16), (.ref b16)])) _
        refine Own.go (fun t k => XS.aconstNull X16.here hx rfl (hb hby at_113) k) ?_
        show Own.Fin p e below (T16.setTop (mkF m 114 #[.val (.int p1), .val (.int p2), .val (.int p3), .val (.int p4), .val (.int p5), .val (.int (0 : Int32)), .val (.int (0 : Int32)), .val (.int (0 : Int32)), .val (.int (((p2 &&& (255 : Int32))).toUInt32.toUInt16.toUInt32.toInt32)), .val (.int (((p3 &&& (255 : Int32))).toUInt32.toUInt16.toUInt32.toInt32)), .val (.ref b4), .val (.ref b6), .val (.int p3), .val (.ref b8), .unset, .unset, .unset, .unset, .unset] [.null, (.ref b6), (.ref b16), (.ref b16)])) _
        refine Own.go (fun t k => XS.aload X16.here hx rfl (hb hby at_114) rfl rfl k) ?_
        show Own.Fin p e below (T16.setTop (mkF m 116 #[.val (.int p1), .val (.int p2), .val (.int p3), .val (.int p4), .val (.int p5), .val (.int (0 : Int32)), .val (.int (0 : Int32)), .val (.int (0 : Int32)), .val (.int (((p2 &&& (255 : Int32))).toUInt32.toUInt16.toUInt32.toInt32)), .val (.int (((p3 &&& (255 : Int32))).toUInt32.toUInt16.toUInt32.toInt32)), .val (.ref b4), .val (.ref b6), .val (.int p3), .val (.ref b8), .unset, .unset, .unset, .unset, .unset] [(.ref b6), .null, (.ref b6), (.ref b16), (.ref b16)])) _
        refine Own.go (fun t k => XS.aconstNull X16.here hx rfl (hb hby at_116) k) ?_
        show Own.Fin p e below (T16.setTop (mkF m 117 #[.val (.int p1), .val (.int p2), .val (.int p3), .val (.int p4), .val (.int p5), .val (.int (0 : Int32)), .val (.int (0 : Int32)), .val (.int (0 : Int32)), .val (.int (((p2 &&& (255 : Int32))).toUInt32.toUInt16.toUInt32.toInt32)), .val (.int (((p3 &&& (255 : Int32))).toUInt32.toUInt16.toUInt32.toInt32)), .val (.ref b4), .val (.ref b6), .val (.int p3), .val (.ref b8), .unset, .unset, .unset, .unset, .unset] [.null, (.ref b6), .null, (.ref b6), (.ref b16), (.ref b16)])) _
        refine Own.go (fun t k => XS.iload X16.here hx rfl (hb hby at_117) rfl k) ?_
        show Own.Fin p e below (T16.setTop (mkF m 119 #[.val (.int p1), .val (.int p2), .val (.int p3), .val (.int p4), .val (.int p5), .val (.int (0 : Int32)), .val (.int (0 : Int32)), .val (.int (0 : Int32)), .val (.int (((p2 &&& (255 : Int32))).toUInt32.toUInt16.toUInt32.toInt32)), .val (.int (((p3 &&& (255 : Int32))).toUInt32.toUInt16.toUInt32.toInt32)), .val (.ref b4), .val (.ref b6), .val (.int p3), .val (.ref b8), .unset, .unset, .unset, .unset, .unset] [(.int p3), .null, (.ref b6), .null, (.ref b6), (.ref b16), (.ref b16)])) _
        refine Own.cI X16 hx hZ rfl hown (hw _ (List.mem_of_getElem? (i := 29) rfl)) (hw _ (List.mem_of_getElem? (i := 30) rfl)) (hw _ (List.mem_of_getElem? (i := 28) rfl)) (hw _ (List.mem_of_getElem? (i := 31) rfl)) (by decide) (rm6 l Z a0 hw [] b16 b6 b6 p3 h16 n0 Z16 A16 fl18 fl19 fl20 fl21 fl22 ge16) (by decide) (W := 1) (by decide) (argsL := [(.ref b6), .null, (.ref b6), .null, (.int p3)]) (rest := [(.ref b16)]) (by rw [hml]; rfl) (lenOf pd_4 rfl) rfl (Nat.le_of_eq rfl) (hb hby at_119) e16 (by decide) (by decide) ?_
        intro T23 L23 v23 X23 hQ23
        obtain ⟨rfl, N23q, K23q⟩ := hQ23
        have N23 := Fr.app N14 N23q
        have f24 := f17.keep K23q
        have f25 := A16.keep K23q
        have Z23 : n0 ≤ T23.heap.size := Nat.le_trans Z16 K23q.1
        have O23 := O16.keep K23q (allS ge16 all0)
        show Own.Fin p e below (T23.setTop (mkF m 122 #[.val (.int p1), .val (.int p2), .val (.int p3), .val (.int p4), .val (.int p5), .val (.int (0 : Int32)), .val (.int (0 : Int32)), .val (.int (0 : Int32)), .val (.int (((p2 &&& (255 : Int32))).toUInt32.toUInt16.toUInt32.toInt32)), .val (.int (((p3 &&& (255 : Int32))).toUInt32.toUInt16.toUInt32.toInt32)), .val (.ref b4), .val (.ref b6), .val (.int p3), .val (.ref b8), .unset, .unset, .unset, .unset, .unset] [(.ref b16)])) _
        refine Own.go (fun t k => XS.astore X23.here hx rfl (hb hby at_122) rfl rfl (l' := #[.val (.int p1), .val (.int p2), .val (.int p3), .val (.int p4), .val (.int p5), .val (.int (0 : Int32)), .val (.int (0 : Int32)), .val (.int (0 : Int32)), .val (.int (((p2 &&& (255 : Int32))).toUInt32.toUInt16.toUInt32.toInt32)), .val (.int (((p3 &&& (255 : Int32))).toUInt32.toUInt16.toUInt32.toInt32)), .val (.ref b4), .val (.ref b6), .val (.int p3), .val (.ref b8), .val (.ref b16), .unset, .unset, .unset, .unset]) rfl k) ?_
        show Own.Fin p e below (T23.setTop (mkF m 124 #[.val (.int p1), .val (.int p2), .val (.int p3), .val (.int p4), .val (.int p5), .val (.int (0 : Int32)), .val (.int (0 : Int32)), .val (.int (0 : Int32)), .val (.int (((p2 &&& (255 : Int32))).toUInt32.toUInt16.toUInt32.toInt32)), .val (.int (((p3 &&& (255 : Int32))).toUInt32.toUInt16.toUInt32.toInt32)), .val (.ref b4), .val (.ref b6), .val (.int p3), .val (.ref b8), .val (.ref b16), .unset, .unset, .unset, .unset] [])) _
        refine Own.go (fun t k => XS.iload X23.here hx rfl (hb hby at_124) rfl k) ?_
        show Own.Fin p e below (T23.setTop (mkF m 126 #[.val (.int p1), .val (.int p2), .val (.int p3), .val (.int p4), .val (.int p5), .val (.int (0 : Int32)), .val (.int (0 : Int32)), .val (.int (0 : Int32)), .val (.int (((p2 &&& (255 : Int32))).toUInt32.toUInt16.toUInt32.toInt32)), .val (.int (((p3 &&& (255 : Int32))).toUInt32.toUInt16.toUInt32.toInt32)), .val (.ref b4), .val (.ref b6), .val (.int p3), .val (.ref b8), .val (.ref b16), .unset, .unset, .unset, .unset] [(.int (0 : Int32))])) _
        have hc126_25 : (0 : Int32) = (0 : Int32) := by decide
        refine Own.go (fun t k => XS.ifYes X23.here hx rfl (pc0 := 126) (pc' := 134) rfl (hb hby at_126) rfl ((if0 _ _).trans (teq hc126_25).1) (by decide) (by decide) k) ?_
        show Own.Fin p e below (T23.setTop (mkF m 134 #[.val (.int p1), .val (.int p2), .val (.int p3), .val (.int p4), .val (.int p5), .val (.int (0 : Int32)), .val (.int (0 : Int32)), .val (.int (0 : Int32)), .val (.int (((p2 &&& (255 : Int32))).toUInt32.toUInt16.toUInt32.toInt32)), .val (.int (((p3 &&& (255 : Int32))).toUInt32.toUInt16.toUInt32.toInt32)), .val (.ref b4), .val (.ref b6), .val (.int p3), .val (.ref b8), .val (.ref b16), .unset, .unset, .unset, .unset] [])) _
        refine Own.go (fun t k => XS.aload X23.here hx rfl (hb hby at_134) rfl rfl k) ?_
        show Own.Fin p e below (T23.setTop (mkF m 136 #[.val (.int p1), .val (.int p2), .val (.int p3), .val (.int p4), .val (.int p5), .val (.int (0 : Int32)), .val (.int (0 : Int32)), .val (.int (0 : Int32)), .val (.int (((p2 &&& (255 : Int32))).toUInt32.toUInt16.toUInt32.toInt32)), .val (.int (((p3 &&& (255 : Int32))).toUInt32.toUInt16.toUInt32.toInt32)), .val (.ref b4), .val (.ref b6), .val (.int p3), .val (.ref b8), .val (.ref b16), .unset, .unset, .unset, .unset] [(.ref b8)])) _
        refine Own.go (fun t k => XS.astore X23.here hx rfl (hb hby at_136) rfl rfl (l' := #[.val (.int p1), .val (.int p2), .val (.int p3), .val (.int p4), .val (.int p5), .val (.int (0 : Int32)), .val (.int (0 : Int32)), .val (.int (0 : Int32)), .val (.int (((p2 &&& (255 : Int32))).toUInt32.toUInt16.toUInt32.toInt32)), .val (.int (((p3 &&& (255 : Int32))).toUInt32.toUInt16.toUInt32.toInt32)), .val (.ref b4), .val (.ref b6), .val (.int p3), .val (.ref b8), .val (.ref b16), .val (.ref b8), .unset, .unset, .unset]) rfl k) ?_
        show Own.Fin p e below (T23.setTop (mkF m 138 #[.val (.int p1), .val (.int p2), .val (.int p3), .val (.int p4), .val (.int p5), .val (.int (0 : Int32)), .val (.int (0 : Int32)), .val (.int (0 : Int32)), .val (.int (((p2 &&& (255 : Int32))).toUInt32.toUInt16.toUInt32.toInt32)), .val (.int (((p3 &&& (255 : Int32))).toUInt32.toUInt16.toUInt32.toInt32)), .val (.ref b4), .val (.ref b6), .val (.int p3), .val (.ref b8), .val (.ref b16), .val (.ref b8), .unset, .unset, .unset] [])) _
        refine Own.go (fun t k => XS.iload X23.here hx rfl (hb hby at_138) rfl k) ?_
        show Own.Fin p e below (T23.setTop (mkF m 140 #[.val (.int p1), .val (.int p2), .val (.int p3), .val (.int p4), .val (.int p5), .val (.int (0 : Int32)), .val (.int (0 : Int32)), .val (.int (0 : Int32)), .val (.int (((p2 &&& (255 : Int32))).toUInt32.toUInt16.toUInt32.toInt32)), .val (.int (((p3 &&& (255 : Int32))).toUInt32.toUInt16.toUInt32.toInt32)), .val (.ref b4), .val (.ref b6), .val (.int p3), .val (.ref b8), .val (.ref b16), .val (.ref b8), .unset, .unset, .unset] [(.int (0 : Int32))])) _
        have hc140_26 : (0 : Int32) = (0 : Int32) := by decide
        refine Own.go (fun t k => XS.ifYes X23.here hx rfl (pc0 := 140) (pc' := 148) rfl (hb hby at_140) rfl ((if0 _ _).trans (teq hc140_26).1) (by decide) (by decide) k) ?_
        show Own.Fin p e below (T23.setTop (mkF m 148 #[.val (.int p1), .val (.int p2), .val (.int p3), .val (.int p4), .val (.int p5), .val (.int (0 : Int32)), .val (.int (0 : Int32)), .val (.int (0 : Int32)), .val (.int (((p2 &&& (255 : Int32))).toUInt32.toUInt16.toUInt32.toInt32)), .val (.int (((p3 &&& (255 : Int32))).toUInt32.toUInt16.toUInt32.toInt32)), .val (.ref b4), .val (.ref b6), .val (.int p3), .val (.ref b8), .val (.ref b16), .val (.ref b8), .unset, .unset, .unset] [])) _
        refine Own.go (fun t k => XS.aload X23.here hx rfl (hb hby at_148) rfl rfl k) ?_
        show Own.Fin p e below (T23.setTop (mkF m 150 #[.val (.int p1), .val (.int p2), .val (.int p3), .val (.int p4), .val (.int p5), .val (.int (0 : Int32)), .val (.int (0 : Int32)), .val (.int (0 : Int32)), .val (.int (((p2 &&& (255 : Int32))).toUInt32.toUInt16.toUInt32.toInt32)), .val (.int (((p3 &&& (255 : Int32))).toUInt32.toUInt16.toUInt32.toInt32)), .val (.ref b4), .val (.ref b6), .val (.int p3), .val (.ref b8), .val (.ref b16), .val (.ref b8), .unset, .unset, .unset] [(.ref b8)])) _
        refine Own.go (fun t k => XS.astore X23.here hx rfl (hb hby at_150) rfl rfl (l' := #[.val (.int p1), .val (.int p2), .val (.int p3), .val (.int p4), .val (.int p5), .val (.int (0 : Int32)), .val (.int (0 : Int32)), .val (.int (0 : Int32)), .val (.int (((p2 &&& (255 : Int32))).toUInt32.toUInt16.toUInt32.toInt32)), .val (.int (((p3 &&& (255 : Int32))).toUInt32.toUInt16.toUInt32.toInt32)), .val (.ref b4), .val (.ref b6), .val (.int p3), .val (.ref b8), .val (.ref b16), .val (.ref b8), .val (.ref b8), .unset, .unset]) rfl k) ?_
        show Own.Fin p e below (T23.setTop (mkF m 152 #[.val (.int p1), .val (.int p2), .val (.int p3), .val (.int p4), .val (.int p5), .val (.int (0 : Int32)), .val (.int (0 : Int32)), .val (.int (0 : Int32)), .val (.int (((p2 &&& (255 : Int32))).toUInt32.toUInt16.toUInt32.toInt32)), .val (.int (((p3 &&& (255 : Int32))).toUInt32.toUInt16.toUInt32.toInt32)), .val (.ref b4), .val (.ref b6), .val (.int p3), .val (.ref b8), .val (.ref b16), .val (.ref b8), .val (.ref b8), .unset, .unset] [])) _
        obtain ⟨T28, h28, X28, e28, E28, A28, D28, -, st28⟩ := newO X23 hx hZ hown (hw _ (List.mem_of_getElem? (i := 43) rfl)) (hw _ (List.mem_of_getElem? (i := 44) rfl)) (hw _ (List.mem_of_getElem? (i := 45) rfl)) rfl (g := (mkF m 152 #[.val (.int p1), .val (.int p2), .val (.int p3), .val (.int p4), .val (.int p5), .val (.int (0 : Int32)), .val (.int (0 : Int32)), .val (.int (0 : Int32)), .val (.int (((p2 &&& (255 : Int32))).toUInt32.toUInt16.toUInt32.toInt32)), .val (.int (((p3 &&& (255 : Int32))).toUInt32.toUInt16.toUInt32.toInt32)), .val (.ref b4), .val (.ref b6), .val (.int p3), .val (.ref b8), .val (.ref b16), .val (.ref b8), .val (.ref b8), .unset, .unset] [])) rfl (hb hby at_152) (by decide) (by decide)
        obtain ⟨b28, gb28⟩ : ∃ z, z = T23.heap.size := ⟨_, rfl⟩
        rw [← gb28] at A28 D28 st28
        refine Own.go st28 ?_
        have ge28 : n0 ≤ b28 := by rw [gb28]; exact Z23
        have ne28_b16 : b16 ≠ b28 := Nat.ne_of_lt (Nat.lt_of_lt_of_le f25.lt (Nat.le_of_eq gb28.symm))
        have ne28_b8 : b8 ≠ b28 := Nat.ne_of_lt (Nat.lt_of_lt_of_le f24.lt (Nat.le_of_eq gb28.symm))
        have Z28 : n0 ≤ h28.size := Nat.le_trans Z23 E28.1
        have f29 := f24.ext E28
        have f30 := f25.ext E28
        have O28 := O23.ext E28
        have fl31 : Fld Z h28 b28 "com/example/arachne/arachne/Edge" "source" "Lcom/example/arachne/arachne/Node;" .null := D28 (Or.inr (hw _ (List.mem_of_getElem? (i := 51) rfl))) (ty := (.object "com/example/arachne/arachne/Node")) (by decide)
        have fl32 : Fld Z h28 b28 "com/example/arachne/arachne/Edge" "target" "Lcom/example/arachne/arachne/Node;" .null := D28 (Or.inr (hw _ (List.mem_of_getElem? (i := 53) rfl))) (ty := (.object "com/example/arachne/arachne/Node")) (by decide)
        have fl33 : Fld Z h28 b28 "com/example/arachne/arachne/Edge" "index" "I" (.int (0 : Int32)) := D28 (Or.inr (hw _ (List.mem_of_getElem? (i := 55) rfl))) (ty := .int) (by decide)
        show Own.Fin p e below (T28.setTop (mkF m 155 #[.val (.int p1), .val (.int p2), .val (.int p3), .val (.int p4), .val (.int p5), .val (.int (0 : Int32)), .val (.int (0 : Int32)), .val (.int (0 : Int32)), .val (.int (((p2 &&& (255 : Int32))).toUInt32.toUInt16.toUInt32.toInt32)), .val (.int (((p3 &&& (255 : Int32))).toUInt32.toUInt16.toUInt32.toInt32)), .val (.ref b4), .val (.ref b6), .val (.int p3), .val (.ref b8), .val (.ref b16), .val (.ref b8), .val (.ref b8), .unset, .unset] [(.ref b28)])) _
        refine Own.go (fun t k => XS.dup X28.here hx rfl (hb hby at_155) rfl rfl k) ?_
        show Own.Fin p e below (T28.setTop (mkF m 156 #[.val (.int p1), .val (.int p2), .val (.int p3), .val (.int p4), .val (.int p5), .val (.int (0 : Int32)), .val (.int (0 : Int32)), .val (.int (0 : Int32)), .val (.int (((p2 &&& (255 : Int32))).toUInt32.toUInt16.toUInt32.toInt32)), .val (.int (((p3 &&& (255 : Int32))).toUInt32.toUInt16.toUInt32.toInt32)), .val (.ref b4), .val (.ref b6), .val (.int p3), .val (.ref b8), .val (.ref b16), .val (.ref b8), .val (.ref b8), .unset, .unset] [(.ref b28), (.ref b28)])) _
        refine Own.go (fun t k => XS.aload X28.here hx rfl (hb hby at_156) rfl rfl k) ?_
        show Own.Fin p e below (T28.setTop (mkF m 158 #[.val (.int p1), .val (.int p2), .val (.int p3), .val (.int p4), .val (.int p5), .val (.int (0 : Int32)), .val (.int (0 : Int32)), .val (.int (0 : Int32)), .val (.int (((p2 &&& (255 : Int32))).toUInt32.toUInt16.toUInt32.toInt32)), .val (.int (((p3 &&& (255 : Int32))).toUInt32.toUInt16.toUInt32.toInt32)), .val (.ref b4), .val (.ref b6), .val (.int p3), .val (.ref b8), .val (.ref b16), .val (.ref b8), .val (.ref b8), .unset, .unset] [(.ref b8), (.ref b28), (.ref b28)])) _
        refine Own.go (fun t k => XS.aload X28.here hx rfl (hb hby at_158) rfl rfl k) ?_
        show Own.Fin p e below (T28.setTop (mkF m 160 #[.val (.int p1), .val (.int p2), .val (.int p3), .val (.int p4), .val (.int p5), .val (.int (0 : Int32)), .val (.int (0 : Int32)), .val (.int (0 : Int32)), .val (.int (((p2 &&& (255 : Int32))).toUInt32.toUInt16.toUInt32.toInt32)), .val (.int (((p3 &&& (255 : Int32))).toUInt32.toUInt16.toUInt32.toInt32)), .val (.ref b4), .val (.ref b6), .val (.int p3), .val (.ref b8), .val (.ref b16), .val (.ref b8), .val (.ref b8), .unset, .unset] [(.ref b8), (.ref b8), (.ref b28), (.ref b28)])) _
        refine Own.go (fun t k => XS.iload X28.here hx rfl (hb hby at_160) rfl k) ?_
        show Own.Fin p e below (T28.setTop (mkF m 162 #[.val (.int p1), .val (.int p2), .val (.int p3), .val (.int p4), .val (.int p5), .val (.int (0 : Int32)), .val (.int (0 : Int32)), .val (.int (0 : Int32)), .val (.int (((p2 &&& (255 : Int32))).toUInt32.toUInt16.toUInt32.toInt32)), .val (.int (((p3 &&& (255 : Int32))).toUInt32.toUInt16.toUInt32.toInt32)), .val (.ref b4), .val (.ref b6), .val (.int p3), .val (.ref b8), .val (.ref b16), .val (.ref b8), .val (.ref b8), .unset, .unset] [(.int p5), (.ref b8), (.ref b8), (.ref b28), (.ref b28)])) _
        refine Own.cI X28 hx hZ rfl hown (hw _ (List.mem_of_getElem? (i := 46) rfl)) (hw _ (List.mem_of_getElem? (i := 47) rfl)) (hw _ (List.mem_of_getElem? (i := 45) rfl)) (hw _ (List.mem_of_getElem? (i := 48) rfl)) (by decide) (rm7 l Z a0 hw [] b28 b8 b8 p5 h28 n0 Z28 A28 fl31 fl32 fl33 ge28) (by decide) (W := 1) (by decide) (argsL := [(.ref b8), (.ref b8), (.int p5)]) (rest := [(.ref b28)]) (by rw [hml]; rfl) (lenOf pd_5 rfl) rfl (Nat.le_of_eq rfl) (hb hby at_162) e28 (by decide) (by decide) ?_
        intro T34 L34 v34 X34 hQ34
        obtain ⟨rfl, N34q, K34q, FS34, FT34⟩ := hQ34
        have N34 := Fr.app N23 N34q
        have f35 := f29.keep K34q
        have f36 := f30.keep K34q
        have f37 := A28.keep K34q
        have Z34 : n0 ≤ T34.heap.size := Nat.le_trans Z28 K34q.1
        have O34 := O28.keep K34q (allS ge28 all0)
        show Own.Fin p e below (T34.setTop (mkF m 165 #[.val (.int p1), .val (.int p2), .val (.int p3), .val (.int p4), .val (.int p5), .val (.int (0 : Int32)), .val (.int (0 : Int32)), .val (.int (0 : Int32)), .val (.int (((p2 &&& (255 : Int32))).toUInt32.toUInt16.toUInt32.toInt32)), .val (.int (((p3 &&& (255 : Int32))).toUInt32.toUInt16.toUInt32.toInt32)), .val (.ref b4), .val (.ref b6), .val (.int p3), .val (.ref b8), .val (.ref b16), .val (.ref b8), .val (.ref b8), .unset, .unset] [(.ref b28)])) _
        refine Own.go (fun t k => XS.astore X34.here hx rfl (hb hby at_165) rfl rfl (l' := #[.val (.int p1), .val (.int p2), .val (.int p3), .val (.int p4), .val (.int p5), .val (.int (0 : Int32)), .val (.int (0 : Int32)), .val (.int (0 : Int32)), .val (.int (((p2 &&& (255 : Int32))).toUInt32.toUInt16.toUInt32.toInt32)), .val (.int (((p3 &&& (255 : Int32))).toUInt32.toUInt16.toUInt32.toInt32)), .val (.ref b4), .val (.ref b6), .val (.int p3), .val (.ref b8), .val (.ref b16), .val (.ref b8), .val (.ref b8), .val (.ref b28), .unset]) rfl k) ?_
        show Own.Fin p e below (T34.setTop (mkF m 167 #[.val (.int p1), .val (.int p2), .val (.int p3), .val (.int p4), .val (.int p5), .val (.int (0 : Int32)), .val (.int (0 : Int32)), .val (.int (0 : Int32)), .val (.int (((p2 &&& (255 : Int32))).toUInt32.toUInt16.toUInt32.toInt32)), .val (.int (((p3 &&& (255 : Int32))).toUInt32.toUInt16.toUInt32.toInt32)), .val (.ref b4), .val (.ref b6), .val (.int p3), .val (.ref b8), .val (.ref b16), .val (.ref b8), .val (.ref b8), .val (.ref b28), .unset] [])) _
        refine Own.go (fun t k => XS.iload X34.here hx rfl (hb hby at_167) rfl k) ?_
        show Own.Fin p e below (T34.setTop (mkF m 169 #[.val (.int p1), .val (.int p2), .val (.int p3), .val (.int p4), .val (.int p5), .val (.int (0 : Int32)), .val (.int (0 : Int32)), .val (.int (0 : Int32)), .val (.int (((p2 &&& (255 : Int32))).toUInt32.toUInt16.toUInt32.toInt32)), .val (.int (((p3 &&& (255 : Int32))).toUInt32.toUInt16.toUInt32.toInt32)), .val (.ref b4), .val (.ref b6), .val (.int p3), .val (.ref b8), .val (.ref b16), .val (.ref b8), .val (.ref b8), .val (.ref b28), .unset] [(.int (0 : Int32))])) _
        refine Own.go (fun t k => XS.iload X34.here hx rfl (hb hby at_169) rfl k) ?_
        show Own.Fin p e below (T34.setTop (mkF m 171 #[.val (.int p1), .val (.int p2), .val (.int p3), .val (.int p4), .val (.int p5), .val (.int (0 : Int32)), .val (.int (0 : Int32)), .val (.int (0 : Int32)), .val (.int (((p2 &&& (255 : Int32))).toUInt32.toUInt16.toUInt32.toInt32)), .val (.int (((p3 &&& (255 : Int32))).toUInt32.toUInt16.toUInt32.toInt32)), .val (.ref b4), .val (.ref b6), .val (.int p3), .val (.ref b8), .val (.ref b16), .val (.ref b8), .val (.ref b8), .val (.ref b28), .unset] [(.int (0 : Int32)), (.int (0 : Int32))])) _
        have hc171_37 : (0 : Int32) = (0 : Int32) := by decide
        refine Own.go (fun t k => XS.icmpNo X34.here hx rfl (hb hby at_171) rfl (teq hc171_37).2 k) ?_
        show Own.Fin p e below (T34.setTop (mkF m 174 #[.val (.int p1), .val (.int p2), .val (.int p3), .val (.int p4), .val (.int p5), .val (.int (0 : Int32)), .val (.int (0 : Int32)), .val (.int (0 : Int32)), .val (.int (((p2 &&& (255 : Int32))).toUInt32.toUInt16.toUInt32.toInt32)), .val (.int (((p3 &&& (255 : Int32))).toUInt32.toUInt16.toUInt32.toInt32)), .val (.ref b4), .val (.ref b6), .val (.int p3), .val (.ref b8), .val (.ref b16), .val (.ref b8), .val (.ref b8), .val (.ref b28), .unset] [])) _
        refine Own.go (fun t k => XS.iconst X34.here hx rfl (hb hby at_174) k) ?_
        show Own.Fin p e below (T34.setTop (mkF m 175 #[.val (.int p1), .val (.int p2), .val (.int p3), .val (.int p4), .val (.int p5), .val (.int (0 : Int32)), .val (.int (0 : Int32)), .val (.int (0 : Int32)), .val (.int (((p2 &&& (255 : Int32))).toUInt32.toUInt16.toUInt32.toInt32)), .val (.int (((p3 &&& (255 : Int32))).toUInt32.toUInt16.toUInt32.toInt32)), .val (.ref b4), .val (.ref b6), .val (.int p3), .val (.ref b8), .val (.ref b16), .val (.ref b8), .val (.ref b8), .val (.ref b28), .unset] [(.int (1 : Int32))])) _
        refine Own.go (fun t k => XS.goto X34.here hx rfl (pc0 := 175) (pc' := 179) rfl (hb hby at_175) (by decide) (by decide) k) ?_
        show Own.Fin p e below (T34.setTop (mkF m 179 #[.val (.int p1), .val (.int p2), .val (.int p3), .val (.int p4), .val (.int p5), .val (.int (0 : Int32)), .val (.int (0 : Int32)), .val (.int (0 : Int32)), .val (.int (((p2 &&& (255 : Int32))).toUInt32.toUInt16.toUInt32.toInt32)), .val (.int (((p3 &&& (255 : Int32))).toUInt32.toUInt16.toUInt32.toInt32)), .val (.ref b4), .val (.ref b6), .val (.int p3), .val (.ref b8), .val (.ref b16), .val (.ref b8), .val (.ref b8), .val (.ref b28), .unset] [(.int (1 : Int32))])) _
        refine Own.go (fun t k => XS.istore X34.here hx rfl (hb hby at_179) rfl (l' := #[.val (.int p1), .val (.int p2), .val (.int p3), .val (.int p4), .val (.int p5), .val (.int (0 : Int32)), .val (.int (0 : Int32)), .val (.int (0 : Int32)), .val (.int (((p2 &&& (255 : Int32))).toUInt32.toUInt16.toUInt32.toInt32)), .val (.int (((p3 &&& (255 : Int32))).toUInt32.toUInt16.toUInt32.toInt32)), .val (.ref b4), .val (.ref b6), .val (.int p3), .val (.ref b8), .val (.ref b16), .val (.ref b8), .val (.ref b8), .val (.ref b28), .val (.int (1 : Int32))]) rfl k) ?_
        show Own.Fin p e below (T34.setTop (mkF m 181 #[.val (.int p1), .val (.int p2), .val (.int p3), .val (.int p4), .val (.int p5), .val (.int (0 : Int32)), .val (.int (0 : Int32)), .val (.int (0 : Int32)), .val (.int (((p2 &&& (255 : Int32))).toUInt32.toUInt16.toUInt32.toInt32)), .val (.int (((p3 &&& (255 : Int32))).toUInt32.toUInt16.toUInt32.toInt32)), .val (.ref b4), .val (.ref b6), .val (.int p3), .val (.ref b8), .val (.ref b16), .val (.ref b8), .val (.ref b8), .val (.ref b28), .val (.int (1 : Int32))] [])) _
        refine Own.go (fun t k => XS.aload X34.here hx rfl (hb hby at_181) rfl rfl k) ?_
        show Own.Fin p e below (T34.setTop (mkF m 183 #[.val (.int p1), .val (.int p2), .val (.int p3), .val (.int p4), .val (.int p5), .val (.int (0 : Int32)), .val (.int (0 : Int32)), .val (.int (0 : Int32)), .val (.int (((p2 &&& (255 : Int32))).toUInt32.toUInt16.toUInt32.toInt32)), .val (.int (((p3 &&& (255 : Int32))).toUInt32.toUInt16.toUInt32.toInt32)), .val (.ref b4), .val (.ref b6), .val (.int p3), .val (.ref b8), .val (.ref b16), .val (.ref b8), .val (.ref b8), .val (.ref b28), .val (.int (1 : Int32))] [(.ref b28)])) _
        refine Own.cV X34 hx hZ hown (hw _ (List.mem_of_getElem? (i := 56) rfl)) (hw _ (List.mem_of_getElem? (i := 57) rfl)) (notFace_of_selects (args := #[]) (mvT hZ (hw _ (List.mem_of_getElem? (i := 59) rfl)))) (hw _ (List.mem_of_getElem? (i := 59) rfl)) (hw _ (List.mem_of_getElem? (i := 58) rfl)) (hw _ (List.mem_of_getElem? (i := 45) rfl)) (hw _ (List.mem_of_getElem? (i := 60) rfl)) (by decide) (rm8 l Z a0 hw [] b28 b8 b8 T34.heap n0 Z34 FS34 FT34) (by decide) (W := 0) (by decide) (argsL := []) (rest := []) f37 (by rw [hml]; rfl) (lenOf pd_6 rfl) rfl (Nat.le_of_eq rfl) (hb hby at_183) rfl (by decide) (by decide) ?_
        intro T39 L39 v39 X39 hQ39
        obtain ⟨rfl, N39q, e39⟩ := hQ39
        have N39 := Fr.app N34 N39q
        rw [if_pos rfl]
        show Own.Fin p e below (T39.setTop (mkF m 186 #[.val (.int p1), .val (.int p2), .val (.int p3), .val (.int p4), .val (.int p5), .val (.int (0 : Int32)), .val (.int (0 : Int32)), .val (.int (0 : Int32)), .val (.int (((p2 &&& (255 : Int32))).toUInt32.toUInt16.toUInt32.toInt32)), .val (.int (((p3 &&& (255 : Int32))).toUInt32.toUInt16.toUInt32.toInt32)), .val (.ref b4), .val (.ref b6), .val (.int p3), .val (.ref b8), .val (.ref b16), .val (.ref b8), .val (.ref b8), .val (.ref b28), .val (.int (1 : Int32))] [(.int (1 : Int32))])) _
        refine Own.go (fun t k => XS.iload X39.here hx rfl (hb hby at_186) rfl k) ?_
        show Own.Fin p e below (T39.setTop (mkF m 188 #[.val (.int p1), .val (.int p2), .val (.int p3), .val (.int p4), .val (.int p5), .val (.int (0 : Int32)), .val (.int (0 : Int32)), .val (.int (0 : Int32)), .val (.int (((p2 &&& (255 : Int32))).toUInt32.toUInt16.toUInt32.toInt32)), .val (.int (((p3 &&& (255 : Int32))).toUInt32.toUInt16.toUInt32.toInt32)), .val (.ref b4), .val (.ref b6), .val (.int p3), .val (.ref b8), .val (.ref b16), .val (.ref b8), .val (.ref b8), .val (.ref b28), .val (.int (1 : Int32))] [(.int (1 : Int32)), (.int (1 : Int32))])) _
        have hc188_39 : (1 : Int32) = (1 : Int32) := by decide
        refine Own.go (fun t k => XS.icmpNo X39.here hx rfl (hb hby at_188) rfl (teq hc188_39).2 k) ?_
        show Own.Fin p e below (T39.setTop (mkF m 191 #[.val (.int p1), .val (.int p2), .val (.int p3), .val (.int p4), .val (.int p5), .val (.int (0 : Int32)), .val (.int (0 : Int32)), .val (.int (0 : Int32)), .val (.int (((p2 &&& (255 : Int32))).toUInt32.toUInt16.toUInt32.toInt32)), .val (.int (((p3 &&& (255 : Int32))).toUInt32.toUInt16.toUInt32.toInt32)), .val (.ref b4), .val (.ref b6), .val (.int p3), .val (.ref b8), .val (.ref b16), .val (.ref b8), .val (.ref b8), .val (.ref b28), .val (.int (1 : Int32))] [])) _
        refine Own.go (fun t k => XS.iconst X39.here hx rfl (hb hby at_191) k) ?_
        show Own.Fin p e below (T39.setTop (mkF m 192 #[.val (.int p1), .val (.int p2), .val (.int p3), .val (.int p4), .val (.int p5), .val (.int (0 : Int32)), .val (.int (0 : Int32)), .val (.int (0 : Int32)), .val (.int (((p2 &&& (255 : Int32))).toUInt32.toUInt16.toUInt32.toInt32)), .val (.int (((p3 &&& (255 : Int32))).toUInt32.toUInt16.toUInt32.toInt32)), .val (.ref b4), .val (.ref b6), .val (.int p3), .val (.ref b8), .val (.ref b16), .val (.ref b8), .val (.ref b8), .val (.ref b28), .val (.int (1 : Int32))] [(.int (1 : Int32))])) _
        refine Own.go (fun t k => XS.goto X39.here hx rfl (pc0 := 192) (pc' := 196) rfl (hb hby at_192) (by decide) (by decide) k) ?_
        show Own.Fin p e below (T39.setTop (mkF m 196 #[.val (.int p1), .val (.int p2), .val (.int p3), .val (.int p4), .val (.int p5), .val (.int (0 : Int32)), .val (.int (0 : Int32)), .val (.int (0 : Int32)), .val (.int (((p2 &&& (255 : Int32))).toUInt32.toUInt16.toUInt32.toInt32)), .val (.int (((p3 &&& (255 : Int32))).toUInt32.toUInt16.toUInt32.toInt32)), .val (.ref b4), .val (.ref b6), .val (.int p3), .val (.ref b8), .val (.ref b16), .val (.ref b8), .val (.ref b8), .val (.ref b28), .val (.int (1 : Int32))] [(.int (1 : Int32))])) _
        refine Own.retN X39 hx Bd.notSynchronized (t := .boolean) Bd.returns (by simp) (hb hby at_196) (by decide) (by decide) ?_
        exact ⟨rfl, N39⟩
      · skip
        refine Own.go (fun t k => XS.ifNo X0.here hx rfl (hb hby at_29) rfl ((if0 _ _).trans (feq hc29_2).1) k) ?_
        show Own.Fin p e below (s₁.setTop (mkF m 32 #[.val (.int p1), .val (.int p2), .val (.int p3), .val (.int p4), .val (.int p5), .val (.int (0 : Int32)), .val (.int (0 : Int32)), .unset, .unset, .unset, .unset, .unset, .unset, .unset, .unset, .unset, .unset, .unset, .unset] [])) _
        refine Own.go (fun t k => XS.iconst X0.here hx rfl (hb hby at_32) k) ?_
        show Own.Fin p e below (s₁.setTop (mkF m 33 #[.val (.int p1), .val (.int p2), .val (.int p3), .val (.int p4), .val (.int p5), .val (.int (0 : Int32)), .val (.int (0 : Int32)), .unset, .unset, .unset, .unset, .unset, .unset, .unset, .unset, .unset, .unset, .unset, .unset] [(.int (1 : Int32))])) _
        refine Own.go (fun t k => XS.goto X0.here hx rfl (pc0 := 33) (pc' := 37) rfl (hb hby at_33) (by decide) (by decide) k) ?_
        show Own.Fin p e below (s₁.setTop (mkF m 37 #[.val (.int p1), .val (.int p2), .val (.int p3), .val (.int p4), .val (.int p5), .val (.int (0 : Int32)), .val (.int (0 : Int32)), .unset, .unset, .unset, .unset, .unset, .unset, .unset, .unset, .unset, .unset, .unset, .unset] [(.int (1 : Int32))])) _
        refine Own.go (fun t k => XS.istore X0.here hx rfl (hb hby at_37) rfl (l' := #[.val (.int p1), .val (.int p2), .val (.int p3), .val (.int p4), .val (.int p5), .val (.int (0 : Int32)), .val (.int (0 : Int32)), .val (.int (1 : Int32)), .unset, .unset, .unset, .unset, .unset, .unset, .unset, .unset, .unset, .unset, .unset]) rfl k) ?_
        show Own.Fin p e below (s₁.setTop (mkF m 39 #[.val (.int p1), .val (.int p2), .val (.int p3), .val (.int p4), .val (.int p5), .val (.int (0 : Int32)), .val (.int (0 : Int32)), .val (.int (1 : Int32)), .unset, .unset, .unset, .unset, .unset, .unset, .unset, .unset, .unset, .unset, .unset] [])) _
        refine Own.go (fun t k => XS.iloadN X0.here hx rfl (hb hby at_39) rfl k) ?_
        show Own.Fin p e below (s₁.setTop (mkF m 40 #[.val (.int p1), .val (.int p2), .val (.int p3), .val (.int p4), .val (.int p5), .val (.int (0 : Int32)), .val (.int (0 : Int32)), .val (.int (1 : Int32)), .unset, .unset, .unset, .unset, .unset, .unset, .unset, .unset, .unset, .unset, .unset] [(.int p2)])) _
        refine Own.go (fun t k => XS.sipush X0.here hx rfl (hb hby at_40) k) ?_
        show Own.Fin p e below (s₁.setTop (mkF m 43 #[.val (.int p1), .val (.int p2), .val (.int p3), .val (.int p4), .val (.int p5), .val (.int (0 : Int32)), .val (.int (0 : Int32)), .val (.int (1 : Int32)), .unset, .unset, .unset, .unset, .unset, .unset, .unset, .unset, .unset, .unset, .unset] [(.int (255 : Int32)), (.int p2)])) _
        refine Own.go (fun t k => XS.iand X0.here hx rfl (hb hby at_43) rfl k) ?_
        show Own.Fin p e below (s₁.setTop (mkF m 44 #[.val (.int p1), .val (.int p2), .val (.int p3), .val (.int p4), .val (.int p5), .val (.int (0 : Int32)), .val (.int (0 : Int32)), .val (.int (1 : Int32)), .unset, .unset, .unset, .unset, .unset, .unset, .unset, .unset, .unset, .unset, .unset] [(.int (p2 &&& (255 : Int32)))])) _
        refine Own.go (fun t k => XS.i2c X0.here hx rfl (hb hby at_44) rfl k) ?_
        show Own.Fin p e below (s₁.setTop (mkF m 45 #[.val (.int p1), .val (.int p2), .val (.int p3), .val (.int p4), .val (.int p5), .val (.int (0 : Int32)), .val (.int (0 : Int32)), .val (.int (1 : Int32)), .unset, .unset, .unset, .unset, .unset, .unset, .unset, .unset, .unset, .unset, .unset] [(.int (((p2 &&& (255 : Int32))).toUInt32.toUInt16.toUInt32.toInt32))])) _
        refine Own.go (fun t k => XS.istore X0.here hx rfl (hb hby at_45) rfl (l' := #[.val (.int p1), .val (.int p2), .val (.int p3), .val (.int p4), .val (.int p5), .val (.int (0 : Int32)), .val (.int (0 : Int32)), .val (.int (1 : Int32)), .val (.int (((p2 &&& (255 : Int32))).toUInt32.toUInt16.toUInt32.toInt32)), .unset, .unset, .unset, .unset, .unset, .unset, .unset, .unset, .unset, .unset]) rfl k) ?_
        show Own.Fin p e below (s₁.setTop (mkF m 47 #[.val (.int p1), .val (.int p2), .val (.int p3), .val (.int p4), .val (.int p5), .val (.int (0 : Int32)), .val (.int (0 : Int32)), .val (.int (1 : Int32)), .val (.int (((p2 &&& (255 : Int32))).toUInt32.toUInt16.toUInt32.toInt32)), .unset, .unset, .unset, .unset, .unset, .unset, .unset, .unset, .unset, .unset] [])) _
        refine Own.go (fun t k => XS.iloadN X0.here hx rfl (hb hby at_47) rfl k) ?_
        show Own.Fin p e below (s₁.setTop (mkF m 48 #[.val (.int p1), .val (.int p2), .val (.int p3), .val (.int p4), .val (.int p5), .val (.int (0 : Int32)), .val (.int (0 : Int32)), .val (.int (1 : Int32)), .val (.int (((p2 &&& (255 : Int32))).toUInt32.toUInt16.toUInt32.toInt32)), .unset, .unset, .unset, .unset, .unset, .unset, .unset, .unset, .unset, .unset] [(.int p3)])) _
        refine Own.go (fun t k => XS.sipush X0.here hx rfl (hb hby at_48) k) ?_
        show Own.Fin p e below (s₁.setTop (mkF m 51 #[.val (.int p1), .val (.int p2), .val (.int p3), .val (.int p4), .val (.int p5), .val (.int (0 : Int32)), .val (.int (0 : Int32)), .val (.int (1 : Int32)), .val (.int (((p2 &&& (255 : Int32))).toUInt32.toUInt16.toUInt32.toInt32)), .unset, .unset, .unset, .unset, .unset, .unset, .unset, .unset, .unset, .unset] [(.int (255 : Int32)), (.int p3)])) _
        refine Own.go (fun t k => XS.iand X0.here hx rfl (hb hby at_51) rfl k) ?_
        show Own.Fin p e below (s₁.setTop (mkF m 52 #[.val (.int p1), .val (.int p2), .val (.int p3), .val (.int p4), .val (.int p5), .val (.int (0 : Int32)), .val (.int (0 : Int32)), .val (.int (1 : Int32)), .val (.int (((p2 &&& (255 : Int32))).toUInt32.toUInt16.toUInt32.toInt32)), .unset, .unset, .unset, .unset, .unset, .unset, .unset, .unset, .unset, .unset] [(.int (p3 &&& (255 : Int32)))])) _
        refine Own.go (fun t k => XS.i2c X0.here hx rfl (hb hby at_52) rfl k) ?_
        show Own.Fin p e below (s₁.setTop (mkF m 53 #[.val (.int p1), .val (.int p2), .val (.int p3), .val (.int p4), .val (.int p5), .val (.int (0 : Int32)), .val (.int (0 : Int32)), .val (.int (1 : Int32)), .val (.int (((p2 &&& (255 : Int32))).toUInt32.toUInt16.toUInt32.toInt32)), .unset, .unset, .unset, .unset, .unset, .unset, .unset, .unset, .unset, .unset] [(.int (((p3 &&& (255 : Int32))).toUInt32.toUInt16.toUInt32.toInt32))])) _
        refine Own.go (fun t k => XS.istore X0.here hx rfl (hb hby at_53) rfl (l' := #[.val (.int p1), .val (.int p2), .val (.int p3), .val (.int p4), .val (.int p5), .val (.int (0 : Int32)), .val (.int (0 : Int32)), .val (.int (1 : Int32)), .val (.int (((p2 &&& (255 : Int32))).toUInt32.toUInt16.toUInt32.toInt32)), .val (.int (((p3 &&& (255 : Int32))).toUInt32.toUInt16.toUInt32.toInt32)), .unset, .unset, .unset, .unset, .unset, .unset, .unset, .unset, .unset]) rfl k) ?_
        show Own.Fin p e below (s₁.setTop (mkF m 55 #[.val (.int p1), .val (.int p2), .val (.int p3), .val (.int p4), .val (.int p5), .val (.int (0 : Int32)), .val (.int (0 : Int32)), .val (.int (1 : Int32)), .val (.int (((p2 &&& (255 : Int32))).toUInt32.toUInt16.toUInt32.toInt32)), .val (.int (((p3 &&& (255 : Int32))).toUInt32.toUInt16.toUInt32.toInt32)), .unset, .unset, .unset, .unset, .unset, .unset, .unset, .unset, .unset] [])) _
        refine Own.go (fun t k => XS.iload X0.here hx rfl (hb hby at_55) rfl k) ?_
        show Own.Fin p e below (s₁.setTop (mkF m 57 #[.val (.int p1), .val (.int p2), .val (.int p3), .val (.int p4), .val (.int p5), .val (.int (0 : Int32)), .val (.int (0 : Int32)), .val (.int (1 : Int32)), .val (.int (((p2 &&& (255 : Int32))).toUInt32.toUInt16.toUInt32.toInt32)), .val (.int (((p3 &&& (255 : Int32))).toUInt32.toUInt16.toUInt32.toInt32)), .unset, .unset, .unset, .unset, .unset, .unset, .unset, .unset, .unset] [(.int (((p2 &&& (255 : Int32))).toUInt32.toUInt16.toUInt32.toInt32))])) _
        refine Own.cS X0 hx hZ hown (hw _ (List.mem_of_getElem? (i := 0) rfl)) (hw _ (List.mem_of_getElem? (i := 1) rfl)) (hw _ (List.mem_of_getElem? (i := 2) rfl)) (hw _ (List.mem_of_getElem? (i := 3) rfl)) (by decide) (rm1 l Z a0 hw [] (((p2 &&& (255 : Int32))).toUInt32.toUInt16.toUInt32.toInt32) cs h0 n0 Z0 O0 SC hcs (own_ch _)) (by decide) (W := 0) (by decide) (argsL := [(.int (((p2 &&& (255 : Int32))).toUInt32.toUInt16.toUInt32.toInt32))]) (rest := []) (by rw [hml]; rfl) (lenOf pd_3 rfl) rfl (Nat.le_of_eq rfl) (hb hby at_57) e0 (by decide) (by decide) ?_
        intro T41 L41 v41 X41 hQ41
        obtain ⟨b41, ge41, rfl, N41q, K41q⟩ := hQ41
        have N41 := Fr.app N0 N41q
        have Z41 : n0 ≤ T41.heap.size := Nat.le_trans Z0 K41q.1
        have O41 := O0.keep K41q all0
        show Own.Fin p e below (T41.setTop (mkF m 60 #[.val (.int p1), .val (.int p2), .val (.int p3), .val (.int p4), .val (.int p5), .val (.int (0 : Int32)), .val (.int (0 : Int32)), .val (.int (1 : Int32)), .val (.int (((p2 &&& (255 : Int32))).toUInt32.toUInt16.toUInt32.toInt32)), .val (.int (((p3 &&& (255 : Int32))).toUInt32.toUInt16.toUInt32.toInt32)), .unset, .unset, .unset, .unset, .unset, .unset, .unset, .unset, .unset] [(.ref b41)])) _
        refine Own.go (fun t k => XS.astore X41.here hx rfl (hb hby at_60) rfl rfl (l' := #[.val (.int p1), .val (.int p2), .val (.int p3), .val (.int p4), .val (.int p5), .val (.int (0 : Int32)), .val (.int (0 : Int32)), .val (.int (1 : Int32)), .val (.int (((p2 &&& (255 : Int32))).toUInt32.toUInt16.toUInt32.toInt32)), .val (.int (((p3 &&& (255 : Int32))).toUInt32.toUInt16.toUInt32.toInt32)), .val (.ref b41), .unset, .unset, .unset, .unset, .unset, .unset, .unset, .unset]) rfl k) ?_
        show Own.Fin p e below (T41.setTop (mkF m 62 #[.val (.int p1), .val (.int p2), .val (.int p3), .val (.int p4), .val (.int p5), .val (.int (0 : Int32)), .val (.int (0 : Int32)), .val (.int (1 : Int32)), .val (.int (((p2 &&& (255 : Int32))).toUInt32.toUInt16.toUInt32.toInt32)), .val (.int (((p3 &&& (255 : Int32))).toUInt32.toUInt16.toUInt32.toInt32)), .val (.ref b41), .unset, .unset, .unset, .unset, .unset, .unset, .unset, .unset] [])) _
        refine Own.go (fun t k => XS.iload X41.here hx rfl (hb hby at_62) rfl k) ?_
        show Own.Fin p e below (T41.setTop (mkF m 64 #[.val (.int p1), .val (.int p2), .val (.int p3), .val (.int p4), .val (.int p5), .val (.int (0 : Int32)), .val (.int (0 : Int32)), .val (.int (1 : Int32)), .val (.int (((p2 &&& (255 : Int32))).toUInt32.toUInt16.toUInt32.toInt32)), .val (.int (((p3 &&& (255 : Int32))).toUInt32.toUInt16.toUInt32.toInt32)), .val (.ref b41), .unset, .unset, .unset, .unset, .unset, .unset, .unset, .unset] [(.int (0 : Int32))])) _
        have hc64_41 : (0 : Int32) = (0 : Int32) := by decide
        refine Own.go (fun t k => XS.ifYes X41.here hx rfl (pc0 := 64) (pc' := 72) rfl (hb hby at_64) rfl ((if0 _ _).trans (teq hc64_41).1) (by decide) (by decide) k) ?_
        show Own.Fin p e below (T41.setTop (mkF m 72 #[.val (.int p1), .val (.int p2), .val (.int p3), .val (.int p4), .val (.int p5), .val (.int (0 : Int32)), .val (.int (0 : Int32)), .val (.int (1 : Int32)), .val (.int (((p2 &&& (255 : Int32))).toUInt32.toUInt16.toUInt32.toInt32)), .val (.int (((p3 &&& (255 : Int32))).toUInt32.toUInt16.toUInt32.toInt32)), .val (.ref b41), .unset, .unset, .unset, .unset, .unset, .unset, .unset, .unset] [])) _
        refine Own.go (fun t k => XS.iload X41.here hx rfl (hb hby at_72) rfl k) ?_
        show Own.Fin p e below (T41.setTop (mkF m 74 #[.val (.int p1), .val (.int p2), .val (.int p3), .val (.int p4), .val (.int p5), .val (.int (0 : Int32)), .val (.int (0 : Int32)), .val (.int (1 : Int32)), .val (.int (((p2 &&& (255 : Int32))).toUInt32.toUInt16.toUInt32.toInt32)), .val (.int (((p3 &&& (255 : Int32))).toUInt32.toUInt16.toUInt32.toInt32)), .val (.ref b41), .unset, .unset, .unset, .unset, .unset, .unset, .unset, .unset] [(.int (((p3 &&& (255 : Int32))).toUInt32.toUInt16.toUInt32.toInt32))])) _
        refine Own.cS X41 hx hZ hown (hw _ (List.mem_of_getElem? (i := 0) rfl)) (hw _ (List.mem_of_getElem? (i := 1) rfl)) (hw _ (List.mem_of_getElem? (i := 2) rfl)) (hw _ (List.mem_of_getElem? (i := 3) rfl)) (by decide) (rm1 l Z a0 hw [] (((p3 &&& (255 : Int32))).toUInt32.toUInt16.toUInt32.toInt32) cs T41.heap n0 Z41 O41 SC hcs (own_ch _)) (by decide) (W := 0) (by decide) (argsL := [(.int (((p3 &&& (255 : Int32))).toUInt32.toUInt16.toUInt32.toInt32))]) (rest := []) (by rw [hml]; rfl) (lenOf pd_3 rfl) rfl (Nat.le_of_eq rfl) (hb hby at_74) rfl (by decide) (by decide) ?_
        intro T43 L43 v43 X43 hQ43
        obtain ⟨b43, ge43, rfl, N43q, K43q⟩ := hQ43
        have N43 := Fr.app N41 N43q
        have Z43 : n0 ≤ T43.heap.size := Nat.le_trans Z41 K43q.1
        have O43 := O41.keep K43q all0
        show Own.Fin p e below (T43.setTop (mkF m 77 #[.val (.int p1), .val (.int p2), .val (.int p3), .val (.int p4), .val (.int p5), .val (.int (0 : Int32)), .val (.int (0 : Int32)), .val (.int (1 : Int32)), .val (.int (((p2 &&& (255 : Int32))).toUInt32.toUInt16.toUInt32.toInt32)), .val (.int (((p3 &&& (255 : Int32))).toUInt32.toUInt16.toUInt32.toInt32)), .val (.ref b41), .unset, .unset, .unset, .unset, .unset, .unset, .unset, .unset] [(.ref b43)])) _
        refine Own.go (fun t k => XS.astore X43.here hx rfl (hb hby at_77) rfl rfl (l' := #[.val (.int p1), .val (.int p2), .val (.int p3), .val (.int p4), .val (.int p5), .val (.int (0 : Int32)), .val (.int (0 : Int32)), .val (.int (1 : Int32)), .val (.int (((p2 &&& (255 : Int32))).toUInt32.toUInt16.toUInt32.toInt32)), .val (.int (((p3 &&& (255 : Int32))).toUInt32.toUInt16.toUInt32.toInt32)), .val (.ref b41), .val (.ref b43), .unset, .unset, .unset, .unset, .unset, .unset, .unset]) rfl k) ?_
        show Own.Fin p e below (T43.setTop (mkF m 79 #[.val (.int p1), .val (.int p2), .val (.int p3), .val (.int p4), .val (.int p5), .val (.int (0 : Int32)), .val (.int (0 : Int32)), .val (.int (1 : Int32)), .val (.int (((p2 &&& (255 : Int32))).toUInt32.toUInt16.toUInt32.toInt32)), .val (.int (((p3 &&& (255 : Int32))).toUInt32.toUInt16.toUInt32.toInt32)), .val (.ref b41), .val (.ref b43), .unset, .unset, .unset, .unset, .unset, .unset, .unset] [])) _
        refine Own.go (fun t k => XS.iload X43.here hx rfl (hb hby at_79) rfl k) ?_
        show Own.Fin p e below (T43.setTop (mkF m 81 #[.val (.int p1), .val (.int p2), .val (.int p3), .val (.int p4), .val (.int p5), .val (.int (0 : Int32)), .val (.int (0 : Int32)), .val (.int (1 : Int32)), .val (.int (((p2 &&& (255 : Int32))).toUInt32.toUInt16.toUInt32.toInt32)), .val (.int (((p3 &&& (255 : Int32))).toUInt32.toUInt16.toUInt32.toInt32)), .val (.ref b41), .val (.ref b43), .unset, .unset, .unset, .unset, .unset, .unset, .unset] [(.int (0 : Int32))])) _
        have hc81_43 : (0 : Int32) = (0 : Int32) := by decide
        refine Own.go (fun t k => XS.ifYes X43.here hx rfl (pc0 := 81) (pc' := 88) rfl (hb hby at_81) rfl ((if0 _ _).trans (teq hc81_43).1) (by decide) (by decide) k) ?_
        show Own.Fin p e below (T43.setTop (mkF m 88 #[.val (.int p1), .val (.int p2), .val (.int p3), .val (.int p4), .val (.int p5), .val (.int (0 : Int32)), .val (.int (0 : Int32)), .val (.int (1 : Int32)), .val (.int (((p2 &&& (255 : Int32))).toUInt32.toUInt16.toUInt32.toInt32)), .val (.int (((p3 &&& (255 : Int32))).toUInt32.toUInt16.toUInt32.toInt32)), .val (.ref b41), .val (.ref b43), .unset, .unset, .unset, .unset, .unset, .unset, .unset] [])) _
        refine Own.go (fun t k => XS.iloadN X43.here hx rfl (hb hby at_88) rfl k) ?_
        show Own.Fin p e below (T43.setTop (mkF m 89 #[.val (.int p1), .val (.int p2), .val (.int p3), .val (.int p4), .val (.int p5), .val (.int (0 : Int32)), .val (.int (0 : Int32)), .val (.int (1 : Int32)), .val (.int (((p2 &&& (255 : Int32))).toUInt32.toUInt16.toUInt32.toInt32)), .val (.int (((p3 &&& (255 : Int32))).toUInt32.toUInt16.toUInt32.toInt32)), .val (.ref b41), .val (.ref b43), .unset, .unset, .unset, .unset, .unset, .unset, .unset] [(.int p3)])) _
        refine Own.go (fun t k => XS.istore X43.here hx rfl (hb hby at_89) rfl (l' := #[.val (.int p1), .val (.int p2), .val (.int p3), .val (.int p4), .val (.int p5), .val (.int (0 : Int32)), .val (.int (0 : Int32)), .val (.int (1 : Int32)), .val (.int (((p2 &&& (255 : Int32))).toUInt32.toUInt16.toUInt32.toInt32)), .val (.int (((p3 &&& (255 : Int32))).toUInt32.toUInt16.toUInt32.toInt32)), .val (.ref b41), .val (.ref b43), .val (.int p3), .unset, .unset, .unset, .unset, .unset, .unset]) rfl k) ?_
        show Own.Fin p e below (T43.setTop (mkF m 91 #[.val (.int p1), .val (.int p2), .val (.int p3), .val (.int p4), .val (.int p5), .val (.int (0 : Int32)), .val (.int (0 : Int32)), .val (.int (1 : Int32)), .val (.int (((p2 &&& (255 : Int32))).toUInt32.toUInt16.toUInt32.toInt32)), .val (.int (((p3 &&& (255 : Int32))).toUInt32.toUInt16.toUInt32.toInt32)), .val (.ref b41), .val (.ref b43), .val (.int p3), .unset, .unset, .unset, .unset, .unset, .unset] [])) _
        obtain ⟨T45, h45, X45, e45, E45, A45, D45, -, st45⟩ := newO X43 hx hZ hown (hw _ (List.mem_of_getElem? (i := 26) rfl)) (hw _ (List.mem_of_getElem? (i := 27) rfl)) (hw _ (List.mem_of_getElem? (i := 28) rfl)) rfl (g := (mkF m 91 #[.val (.int p1), .val (.int p2), .val (.int p3), .val (.int p4), .val (.int p5), .val (.int (0 : Int32)), .val (.int (0 : Int32)), .val (.int (1 : Int32)), .val (.int (((p2 &&& (255 : Int32))).toUInt32.toUInt16.toUInt32.toInt32)), .val (.int (((p3 &&& (255 : Int32))).toUInt32.toUInt16.toUInt32.toInt32)), .val (.ref b41), .val (.ref b43), .val (.int p3), .unset, .unset, .unset, .unset, .unset, .unset] [])) rfl (hb hby at_91) (by decide) (by decide)
        obtain ⟨b45, gb45⟩ : ∃ z, z = T43.heap.size := ⟨_, rfl⟩
        rw [← gb45] at A45 D45 st45
        refine Own.go st45 ?_
        have ge45 : n0 ≤ b45 := by rw [gb45]; exact Z43
        have Z45 : n0 ≤ h45.size := Nat.le_trans Z43 E45.1
        have O45 := O43.ext E45
        have fl46 : Fld Z h45 b45 "com/example/arachne/arachne/Node" "id" "Ljava/lang/String;" .null := D45 (Or.inr (hw _ (List.mem_of_getElem? (i := 34) rfl))) (ty := (.object "java/lang/String")) (by decide)
        have fl47 : Fld Z h45 b45 "com/example/arachne/arachne/Node" "size" "Lcom/example/arachne/arachne/NodeSize;" .null := D45 (Or.inr (hw _ (List.mem_of_getElem? (i := 36) rfl))) (ty := (.object "com/example/arachne/arachne/NodeSize")) (by decide)
        have fl48 : Fld Z h45 b45 "com/example/arachne/arachne/Node" "label" "Ljava/lang/String;" .null := D45 (Or.inr (hw _ (List.mem_of_getElem? (i := 38) rfl))) (ty := (.object "java/lang/String")) (by decide)
        have fl49 : Fld Z h45 b45 "com/example/arachne/arachne/Node" "pin" "Lcom/example/arachne/arachne/Point;" .null := D45 (Or.inr (hw _ (List.mem_of_getElem? (i := 40) rfl))) (ty := (.object "com/example/arachne/arachne/Point")) (by decide)
        have fl50 : Fld Z h45 b45 "com/example/arachne/arachne/Node" "index" "I" (.int (0 : Int32)) := D45 (Or.inr (hw _ (List.mem_of_getElem? (i := 42) rfl))) (ty := .int) (by decide)
        show Own.Fin p e below (T45.setTop (mkF m 94 #[.val (.int p1), .val (.int p2), .val (.int p3), .val (.int p4), .val (.int p5), .val (.int (0 : Int32)), .val (.int (0 : Int32)), .val (.int (1 : Int32)), .val (.int (((p2 &&& (255 : Int32))).toUInt32.toUInt16.toUInt32.toInt32)), .val (.int (((p3 &&& (255 : Int32))).toUInt32.toUInt16.toUInt32.toInt32)), .val (.ref b41), .val (.ref b43), .val (.int p3), .unset, .unset, .unset, .unset, .unset, .unset] [(.ref b45)])) _
        refine Own.go (fun t k => XS.dup X45.here hx rfl (hb hby at_94) rfl rfl k) ?_
        show Own.Fin p e below (T45.setTop (mkF m 95 #[.val (.int p1), .val (.int p2), .val (.int p3), .val (.int p4), .val (.int p5), .val (.int (0 : Int32)), .val (.int (0 : Int32)), .val (.int (1 : Int32)), .val (.int (((p2 &&& (255 : Int32))).toUInt32.toUInt16.toUInt32.toInt32)), .val (.int (((p3 &&& (255 : Int32))).toUInt32.toUInt16.toUInt32.toInt32)), .val (.ref b41), .val (.ref b43), .val (.int p3), .unset, .unset, .unset, .unset, .unset, .unset] [(.ref b45), (.ref b45)])) _
        refine Own.go (fun t k => XS.aload X45.here hx rfl (hb hby at_95) rfl rfl k) ?_
        show Own.Fin p e below (T45.setTop (mkF m 97 #[.val (.int p1), .val (.int p2), .val (.int p3), .val (.int p4), .val (.int p5), .val (.int (0 : Int32)), .val (.int (0 : Int32)), .val (.int (1 : Int32)), .val (.int (((p2 &&& (255 : Int32))).toUInt32.toUInt16.toUInt32.toInt32)), .val (.int (((p3 &&& (255 : Int32))).toUInt32.toUInt16.toUInt32.toInt32)), .val (.ref b41), .val (.ref b43), .val (.int p3), .unset, .unset, .unset, .unset, .unset, .unset] [(.ref b41), (.ref b45), (.ref b45)])) _
        refine Own.go (fun t k => XS.aconstNull X45.here hx rfl (hb hby at_97) k) ?_
        show Own.Fin p e below (T45.setTop (mkF m 98 #[.val (.int p1), .val (.int p2), .val (.int p3), .val (.int p4), .val (.int p5), .val (.int (0 : Int32)), .val (.int (0 : Int32)), .val (.int (1 : Int32)), .val (.int (((p2 &&& (255 : Int32))).toUInt32.toUInt16.toUInt32.toInt32)), .val (.int (((p3 &&& (255 : Int32))).toUInt32.toUInt16.toUInt32.toInt32)), .val (.ref b41), .val (.ref b43), .val (.int p3), .unset, .unset, .unset, .unset, .unset, .unset] [.null, (.ref b41), (.ref b45), (.ref b45)])) _
        refine Own.go (fun t k => XS.aload X45.here hx rfl (hb hby at_98) rfl rfl k) ?_
        show Own.Fin p e below (T45.setTop (mkF m 100 #[.val (.int p1), .val (.int p2), .val (.int p3), .val (.int p4), .val (.int p5), .val (.int (0 : Int32)), .val (.int (0 : Int32)), .val (.int (1 : Int32)), .val (.int (((p2 &&& (255 : Int32))).toUInt32.toUInt16.toUInt32.toInt32)), .val (.int (((p3 &&& (255 : Int32))).toUInt32.toUInt16.toUInt32.toInt32)), .val (.ref b41), .val (.ref b43), .val (.int p3), .unset, .unset, .unset, .unset, .unset, .unset] [(.ref b41), .null, (.ref b41), (.ref b45), (.ref b45)])) _
        refine Own.go (fun t k => XS.aconstNull X45.here hx rfl (hb hby at_100) k) ?_
        show Own.Fin p e below (T45.setTop (mkF m 101 #[.val (.int p1), .val (.int p2), .val (.int p3), .val (.int p4), .val (.int p5), .val (.int (0 : Int32)), .val (.int (0 : Int32)), .val (.int (1 : Int32)), .val (.int (((p2 &&& (255 : Int32))).toUInt32.toUInt16.toUInt32.toInt32)), .val (.int (((p3 &&& (255 : Int32))).toUInt32.toUInt16.toUInt32.toInt32)), .val (.ref b41), .val (.ref b43), .val (.int p3), .unset, .unset, .unset, .unset, .unset, .unset] [.null, (.ref b41), .null, (.ref b41), (.ref b45), (.ref b45)])) _
        refine Own.go (fun t k => XS.iloadN X45.here hx rfl (hb hby at_101) rfl k) ?_
        show Own.Fin p e below (T45.setTop (mkF m 102 #[.val (.int p1), .val (.int p2), .val (.int p3), .val (.int p4), .val (.int p5), .val (.int (0 : Int32)), .val (.int (0 : Int32)), .val (.int (1 : Int32)), .val (.int (((p2 &&& (255 : Int32))).toUInt32.toUInt16.toUInt32.toInt32)), .val (.int (((p3 &&& (255 : Int32))).toUInt32.toUInt16.toUInt32.toInt32)), .val (.ref b41), .val (.ref b43), .val (.int p3), .unset, .unset, .unset, .unset, .unset, .unset] [(.int p4), .null, (.ref b41), .null, (.ref b41), (.ref b45), (.ref b45)])) _
        refine Own.cI X45 hx hZ rfl hown (hw _ (List.mem_of_getElem? (i := 29) rfl)) (hw _ (List.mem_of_getElem? (i := 30) rfl)) (hw _ (List.mem_of_getElem? (i := 28) rfl)) (hw _ (List.mem_of_getElem? (i := 31) rfl)) (by decide) (rm6 l Z a0 hw [] b45 b41 b41 p4 h45 n0 Z45 A45 fl46 fl47 fl48 fl49 fl50 ge45) (by decide) (W := 1) (by decide) (argsL := [(.ref b41), .null, (.ref b41), .null, (.int p4)]) (rest := [(.ref b45)]) (by rw [hml]; rfl) (lenOf pd_4 rfl) rfl (Nat.le_of_eq rfl) (hb hby at_102) e45 (by decide) (by decide) ?_
        intro T51 L51 v51 X51 hQ51
        obtain ⟨rfl, N51q, K51q⟩ := hQ51
        have N51 := Fr.app N43 N51q
        have f52 := A45.keep K51q
        have Z51 : n0 ≤ T51.heap.size := Nat.le_trans Z45 K51q.1
        have O51 := O45.keep K51q (allS ge45 all0)
        show Own.Fin p e below (T51.setTop (mkF m 105 #[.val (.int p1), .val (.int p2), .val (.int p3), .val (.int p4), .val (.int p5), .val (.int (0 : Int32)), .val (.int (0 : Int32)), .val (.int (1 : Int32)), .val (.int (((p2 &&& (255 : Int32))).toUInt32.toUInt16.toUInt32.toInt32)), .val (.int (((p3 &&& (255 : Int32))).toUInt32.toUInt16.toUInt32.toInt32)), .val (.ref b41), .val (.ref b43), .val (.int p3), .unset, .unset, .unset, .unset, .unset, .unset] [(.ref b45)])) _
        refine Own.go (fun t k => XS.astore X51.here hx rfl (hb hby at_105) rfl rfl (l' := #[.val (.int p1), .val (.int p2), .val (.int p3), .val (.int p4), .val (.int p5), .val (.int (0 : Int32)), .val (.int (0 : Int32)), .val (.int (1 : Int32)), .val (.int (((p2 &&& (255 : Int32))).toUInt32.toUInt16.toUInt32.toInt32)), .val (.int (((p3 &&& (255 : Int32))).toUInt32.toUInt16.toUInt32.toInt32)), .val (.ref b41), .val (.ref b43), .val (.int p3), .val (.ref b45), .unset, .unset, .unset, .unset, .unset]) rfl k) ?_
        show Own.Fin p e below (T51.setTop (mkF m 107 #[.val (.int p1), .val (.int p2), .val (.int p3), .val (.int p4), .val (.int p5), .val (.int (0 : Int32)), .val (.int (0 : Int32)), .val (.int (1 : Int32)), .val (.int (((p2 &&& (255 : Int32))).toUInt32.toUInt16.toUInt32.toInt32)), .val (.int (((p3 &&& (255 : Int32))).toUInt32.toUInt16.toUInt32.toInt32)), .val (.ref b41), .val (.ref b43), .val (.int p3), .val (.ref b45), .unset, .unset, .unset, .unset, .unset] [])) _
        obtain ⟨T53, h53, X53, e53, E53, A53, D53, -, st53⟩ := newO X51 hx hZ hown (hw _ (List.mem_of_getElem? (i := 26) rfl)) (hw _ (List.mem_of_getElem? (i := 27) rfl)) (hw _ (List.mem_of_getElem? (i := 28) rfl)) rfl (g := (mkF m 107 #[.val (.int p1), .val (.int p2), .val (.int p3), .val (.int p4), .val (.int p5), .val (.int (0 : Int32)), .val (.int (0 : Int32)), .val (.int (1 : Int32)), .val (.int (((p2 &&& (255 : Int32))).toUInt32.toUInt16.toUInt32.toInt32)), .val (.int (((p3 &&& (255 : Int32))).toUInt32.toUInt16.toUInt32.toInt32)), .val (.ref b41), .val (.ref b43), .val (.int p3), .val (.ref b45), .unset, .unset, .unset, .unset, .unset] [])) rfl (hb hby at_107) (by decide) (by decide)
        obtain ⟨b53, gb53⟩ : ∃ z, z = T51.heap.size := ⟨_, rfl⟩
        rw [← gb53] at A53 D53 st53
        refine Own.go st53 ?_
        have ge53 : n0 ≤ b53 := by rw [gb53]; exact Z51
        have ne53_b45 : b45 ≠ b53 := Nat.ne_of_lt (Nat.lt_of_lt_of_le f52.lt (Nat.le_of_eq gb53.symm))
        have Z53 : n0 ≤ h53.size := Nat.le_trans Z51 E53.1
        have f54 := f52.ext E53
        have O53 := O51.ext E53
        have fl55 : Fld Z h53 b53 "com/example/arachne/arachne/Node" "id" "Ljava/lang/String;" .null := D53 (Or.inr (hw _ (List.mem_of_getElem? (i := 34) rfl))) (ty := (.object "java/lang/String")) (by decide)
        have fl56 : Fld Z h53 b53 "com/example/arachne/arachne/Node" "size" "Lcom/example/arachne/arachne/NodeSize;" .null := D53 (Or.inr (hw _ (List.mem_of_getElem? (i := 36) rfl))) (ty := (.object "com/example/arachne/arachne/NodeSize")) (by decide)
        have fl57 : Fld Z h53 b53 "com/example/arachne/arachne/Node" "label" "Ljava/lang/String;" .null := D53 (Or.inr (hw _ (List.mem_of_getElem? (i := 38) rfl))) (ty := (.object "java/lang/String")) (by decide)
        have fl58 : Fld Z h53 b53 "com/example/arachne/arachne/Node" "pin" "Lcom/example/arachne/arachne/Point;" .null := D53 (Or.inr (hw _ (List.mem_of_getElem? (i := 40) rfl))) (ty := (.object "com/example/arachne/arachne/Point")) (by decide)
        have fl59 : Fld Z h53 b53 "com/example/arachne/arachne/Node" "index" "I" (.int (0 : Int32)) := D53 (Or.inr (hw _ (List.mem_of_getElem? (i := 42) rfl))) (ty := .int) (by decide)
        show Own.Fin p e below (T53.setTop (mkF m 110 #[.val (.int p1), .val (.int p2), .val (.int p3), .val (.int p4), .val (.int p5), .val (.int (0 : Int32)), .val (.int (0 : Int32)), .val (.int (1 : Int32)), .val (.int (((p2 &&& (255 : Int32))).toUInt32.toUInt16.toUInt32.toInt32)), .val (.int (((p3 &&& (255 : Int32))).toUInt32.toUInt16.toUInt32.toInt32)), .val (.ref b41), .val (.ref b43), .val (.int p3), .val (.ref b45), .unset, .unset, .unset, .unset, .unset] [(.ref b53)])) _
        refine Own.go (fun t k => XS.dup X53.here hx rfl (hb hby at_110) rfl rfl k) ?_
        show Own.Fin p e below (T53.setTop (mkF m 111 #[.val (.int p1), .val (.int p2), .val (.int p3), .val (.int p4), .val (.int p5), .val (.int (0 : Int32)), .val (.int (0 : Int32)), .val (.int (1 : Int32)), .val (.int (((p2 &&& (255 : Int32))).toUInt32.toUInt16.toUInt32.toInt32)), .val (.int (((p3 &&& (255 : Int32))).toUInt32.toUInt16.toUInt32.toInt32)), .val (.ref b41), .val (.ref b43), .val (.int p3), .val (.ref b45), .unset, .unset, .unset, .unset, .unset] [(.ref b53), (.ref b53)])) _
        refine Own.go (fun t k => XS.aload X53.here hx rfl (hb hby at_111) rfl rfl k) ?_
        show Own.Fin p e below (T53.setTop (mkF m 113 #[.val (.int p1), .val (.int p2), .val (.int p3), .val (.int p4), .val (.int p5), .val (.int (0 : Int32)), .val (.int (0 : Int32)), .val (.int (1 : Int32)), .val (.int (((p2 &&& (255 : Int32))).toUInt32.toUInt16.toUInt32.toInt32)), .val (.int (((p3 &&& (255 : Int32))).toUInt32.toUInt16.toUInt32.toInt32)), .val (.ref b41), .val (.ref b43), .val (.int p3), .val (.ref b45), .unset, .unset, .unset, .unset, .unset] [(.ref b43), (.ref b53), (.ref b53)])) _
        refine Own.go (fun t k => XS.aconstNull X53.here hx rfl (hb hby at_113) k) ?_
        show Own.Fin p e below (T53.setTop (mkF m 114 #[.val (.int p1), .val (.int p2), .val (.int p3), .val (.int p4), .val (.int p5), .val (.int (0 : Int32)), .val (.int (0 : Int32)), .val (.int (1 : Int32)), .val (.int (((p2 &&& (255 : Int32))).toUInt32.toUInt16.toUInt32.toInt32)), .val (.int (((p3 &&& (255 : Int32))).toUInt32.toUInt16.toUInt32.toInt32)), .val (.ref b41), .val (.ref b43), .val (.int p3), .val (.ref b45), .unset, .unset, .unset, .unset, .unset] [.null, (.ref b43), (.ref b53), (.ref b53)])) _
        refine Own.go (fun t k => XS.aload X53.here hx rfl (hb hby at_114) rfl rfl k) ?_
        show Own.Fin p e below (T53.setTop (mkF m 116 #[.val (.int p1), .val (.int p2), .val (.int p3), .val (.int p4), .val (.int p5), .val (.int (0 : Int32)), .val (.int (0 : Int32)), .val (.int (1 : Int32)), .val (.int (((p2 &&& (255 : Int32))).toUInt32.toUInt16.toUInt32.toInt32)), .val (.int (((p3 &&& (255 : Int32))).toUInt32.toUInt16.toUInt32.toInt32)), .val (.ref b41), .val (.ref b43), .val (.int p3), .val (.ref b45), .unset, .unset, .unset, .unset, .unset] [(.ref b43), .null, (.ref b43), (.ref b53), (.ref b53)])) _
        refine Own.go (fun t k => XS.aconstNull X53.here hx rfl (hb hby at_116) k) ?_
        show Own.Fin p e below (T53.setTop (mkF m 117 #[.val (.int p1), .val (.int p2), .val (.int p3), .val (.int p4), .val (.int p5), .val (.int (0 : Int32)), .val (.int (0 : Int32)), .val (.int (1 : Int32)), .val (.int (((p2 &&& (255 : Int32))).toUInt32.toUInt16.toUInt32.toInt32)), .val (.int (((p3 &&& (255 : Int32))).toUInt32.toUInt16.toUInt32.toInt32)), .val (.ref b41), .val (.ref b43), .val (.int p3), .val (.ref b45), .unset, .unset, .unset, .unset, .unset] [.null, (.ref b43), .null, (.ref b43), (.ref b53), (.ref b53)])) _
        refine Own.go (fun t k => XS.iload X53.here hx rfl (hb hby at_117) rfl k) ?_
        show Own.Fin p e below (T53.setTop (mkF m 119 #[.val (.int p1), .val (.int p2), .val (.int p3), .val (.int p4), .val (.int p5), .val (.int (0 : Int32)), .val (.int (0 : Int32)), .val (.int (1 : Int32)), .val (.int (((p2 &&& (255 : Int32))).toUInt32.toUInt16.toUInt32.toInt32)), .val (.int (((p3 &&& (255 : Int32))).toUInt32.toUInt16.toUInt32.toInt32)), .val (.ref b41), .val (.ref b43), .val (.int p3), .val (.ref b45), .unset, .unset, .unset, .unset, .unset] [(.int p3), .null, (.ref b43), .null, (.ref b43), (.ref b53), (.ref b53)])) _
        refine Own.cI X53 hx hZ rfl hown (hw _ (List.mem_of_getElem? (i := 29) rfl)) (hw _ (List.mem_of_getElem? (i := 30) rfl)) (hw _ (List.mem_of_getElem? (i := 28) rfl)) (hw _ (List.mem_of_getElem? (i := 31) rfl)) (by decide) (rm6 l Z a0 hw [] b53 b43 b43 p3 h53 n0 Z53 A53 fl55 fl56 fl57 fl58 fl59 ge53) (by decide) (W := 1) (by decide) (argsL := [(.ref b43), .null, (.ref b43), .null, (.int p3)]) (rest := [(.ref b53)]) (by rw [hml]; rfl) (lenOf pd_4 rfl) rfl (Nat.le_of_eq rfl) (hb hby at_119) e53 (by decide) (by decide) ?_
        intro T60 L60 v60 X60 hQ60
        obtain ⟨rfl, N60q, K60q⟩ := hQ60
        have N60 := Fr.app N51 N60q
        have f61 := f54.keep K60q
        have f62 := A53.keep K60q
        have Z60 : n0 ≤ T60.heap.size := Nat.le_trans Z53 K60q.1
        have O60 := O53.keep K60q (allS ge53 all0)
        show Own.Fin p e below (T60.setTop (mkF m 122 #[.val (.int p1), .val (.int p2), .val (.int p3), .val (.int p4), .val (.int p5), .val (.int (0 : Int32)), .val (.int (0 : Int32)), .val (.int (1 : Int32)), .val (.int (((p2 &&& (255 : Int32))).toUInt32.toUInt16.toUInt32.toInt32)), .val (.int (((p3 &&& (255 : Int32))).toUInt32.toUInt16.toUInt32.toInt32)), .val (.ref b41), .val (.ref b43), .val (.int p3), .val (.ref b45), .unset, .unset, .unset, .unset, .unset] [(.ref b53)])) _
        refine Own.go (fun t k => XS.astore X60.here hx rfl (hb hby at_122) rfl rfl (l' := #[.val (.int p1), .val (.int p2), .val (.int p3), .val (.int p4), .val (.int p5), .val (.int (0 : Int32)), .val (.int (0 : Int32)), .val (.int (1 : Int32)), .val (.int (((p2 &&& (255 : Int32))).toUInt32.toUInt16.toUInt32.toInt32)), .val (.int (((p3 &&& (255 : Int32))).toUInt32.toUInt16.toUInt32.toInt32)), .val (.ref b41), .val (.ref b43), .val (.int p3), .val (.ref b45), .val (.ref b53), .unset, .unset, .unset, .unset]) rfl k) ?_
        show Own.Fin p e below (T60.setTop (mkF m 124 #[.val (.int p1), .val (.int p2), .val (.int p3), .val (.int p4), .val (.int p5), .val (.int (0 : Int32)), .val (.int (0 : Int32)), .val (.int (1 : Int32)), .val (.int (((p2 &&& (255 : Int32))).toUInt32.toUInt16.toUInt32.toInt32)), .val (.int (((p3 &&& (255 : Int32))).toUInt32.toUInt16.toUInt32.toInt32)), .val (.ref b41), .val (.ref b43), .val (.int p3), .val (.ref b45), .val (.ref b53), .unset, .unset, .unset, .unset] [])) _
        refine Own.go (fun t k => XS.iload X60.here hx rfl (hb hby at_124) rfl k) ?_
        show Own.Fin p e below (T60.setTop (mkF m 126 #[.val (.int p1), .val (.int p2), .val (.int p3), .val (.int p4), .val (.int p5), .val (.int (0 : Int32)), .val (.int (0 : Int32)), .val (.int (1 : Int32)), .val (.int (((p2 &&& (255 : Int32))).toUInt32.toUInt16.toUInt32.toInt32)), .val (.int (((p3 &&& (255 : Int32))).toUInt32.toUInt16.toUInt32.toInt32)), .val (.ref b41), .val (.ref b43), .val (.int p3), .val (.ref b45), .val (.ref b53), .unset, .unset, .unset, .unset] [(.int (0 : Int32))])) _
        have hc126_62 : (0 : Int32) = (0 : Int32) := by decide
        refine Own.go (fun t k => XS.ifYes X60.here hx rfl (pc0 := 126) (pc' := 134) rfl (hb hby at_126) rfl ((if0 _ _).trans (teq hc126_62).1) (by decide) (by decide) k) ?_
        show Own.Fin p e below (T60.setTop (mkF m 134 #[.val (.int p1), .val (.int p2), .val (.int p3), .val (.int p4), .val (.int p5), .val (.int (0 : Int32)), .val (.int (0 : Int32)), .val (.int (1 : Int32)), .val (.int (((p2 &&& (255 : Int32))).toUInt32.toUInt16.toUInt32.toInt32)), .val (.int (((p3 &&& (255 : Int32))).toUInt32.toUInt16.toUInt32.toInt32)), .val (.ref b41), .val (.ref b43), .val (.int p3), .val (.ref b45), .val (.ref b53), .unset, .unset, .unset, .unset] [])) _
        refine Own.go (fun t k => XS.aload X60.here hx rfl (hb hby at_134) rfl rfl k) ?_
        show Own.Fin p e below (T60.setTop (mkF m 136 #[.val (.int p1), .val (.int p2), .val (.int p3), .val (.int p4), .val (.int p5), .val (.int (0 : Int32)), .val (.int (0 : Int32)), .val (.int (1 : Int32)), .val (.int (((p2 &&& (255 : Int32))).toUInt32.toUInt16.toUInt32.toInt32)), .val (.int (((p3 &&& (255 : Int32))).toUInt32.toUInt16.toUInt32.toInt32)), .val (.ref b41), .val (.ref b43), .val (.int p3), .val (.ref b45), .val (.ref b53), .unset, .unset, .unset, .unset] [(.ref b45)])) _
        refine Own.go (fun t k => XS.astore X60.here hx rfl (hb hby at_136) rfl rfl (l' := #[.val (.int p1), .val (.int p2), .val (.int p3), .val (.int p4), .val (.int p5), .val (.int (0 : Int32)), .val (.int (0 : Int32)), .val (.int (1 : Int32)), .val (.int (((p2 &&& (255 : Int32))).toUInt32.toUInt16.toUInt32.toInt32)), .val (.int (((p3 &&& (255 : Int32))).toUInt32.toUInt16.toUInt32.toInt32)), .val (.ref b41), .val (.ref b43), .val (.int p3), .val (.ref b45), .val (.ref b53), .val (.ref b45), .unset, .unset, .unset]) rfl k) ?_
        show Own.Fin p e below (T60.setTop (mkF m 138 #[.val (.int p1), .val (.int p2), .val (.int p3), .val (.int p4), .val (.int p5), .val (.int (0 : Int32)), .val (.int (0 : Int32)), .val (.int (1 : Int32)), .val (.int (((p2 &&& (255 : Int32))).toUInt32.toUInt16.toUInt32.toInt32)), .val (.int (((p3 &&& (255 : Int32))).toUInt32.toUInt16.toUInt32.toInt32)), .val (.ref b41), .val (.ref b43), .val (.int p3), .val (.ref b45), .val (.ref b53), .val (.ref b45), .unset, .unset, .unset] [])) _
        refine Own.go (fun t k => XS.iload X60.here hx rfl (hb hby at_138) rfl k) ?_
        show Own.Fin p e below (T60.setTop (mkF m 140 #[.val (.int p1), .val (.int p2), .val (.int p3), .val (.int p4), .val (.int p5), .val (.int (0 : Int32)), .val (.int (0 : Int32)), .val (.int (1 : Int32)), .val (.int (((p2 &&& (255 : Int32))).toUInt32.toUInt16.toUInt32.toInt32)), .val (.int (((p3 &&& (255 : Int32))).toUInt32.toUInt16.toUInt32.toInt32)), .val (.ref b41), .val (.ref b43), .val (.int p3), .val (.ref b45), .val (.ref b53), .val (.ref b45), .unset, .unset, .unset] [(.int (1 : Int32))])) _
        have hc140_63 : ¬ ((1 : Int32) = (0 : Int32)) := by decide
        refine Own.go (fun t k => XS.ifNo X60.here hx rfl (hb hby at_140) rfl ((if0 _ _).trans (feq hc140_63).1) k) ?_
        show Own.Fin p e below (T60.setTop (mkF m 143 #[.val (.int p1), .val (.int p2), .val (.int p3), .val (.int p4), .val (.int p5), .val (.int (0 : Int32)), .val (.int (0 : Int32)), .val (.int (1 : Int32)), .val (.int (((p2 &&& (255 : Int32))).toUInt32.toUInt16.toUInt32.toInt32)), .val (.int (((p3 &&& (255 : Int32))).toUInt32.toUInt16.toUInt32.toInt32)), .val (.ref b41), .val (.ref b43), .val (.int p3), .val (.ref b45), .val (.ref b53), .val (.ref b45), .unset, .unset, .unset] [])) _
        refine Own.go (fun t k => XS.aload X60.here hx rfl (hb hby at_143) rfl rfl k) ?_
        show Own.Fin p e below (T60.setTop (mkF m 145 #[.val (.int p1), .val (.int p2), .val (.int p3), .val (.int p4), .val (.int p5), .val (.int (0 : Int32)), .val (.int (0 : Int32)), .val (.int (1 : Int32)), .val (.int (((p2 &&& (255 : Int32))).toUInt32.toUInt16.toUInt32.toInt32)), .val (.int (((p3 &&& (255 : Int32))).toUInt32.toUInt16.toUInt32.toInt32)), .val (.ref b41), .val (.ref b43), .val (.int p3), .val (.ref b45), .val (.ref b53), .val (.ref b45), .unset, .unset, .unset] [(.ref b53)])) _
        refine Own.go (fun t k => XS.goto X60.here hx rfl (pc0 := 145) (pc' := 150) rfl (hb hby at_145) (by decide) (by decide) k) ?_
        show Own.Fin p e below (T60.setTop (mkF m 150 #[.val (.int p1), .val (.int p2), .val (.int p3), .val (.int p4), .val (.int p5), .val (.int (0 : Int32)), .val (.int (0 : Int32)), .val (.int (1 : Int32)), .val (.int (((p2 &&& (255 : Int32))).toUInt32.toUInt16.toUInt32.toInt32)), .val (.int (((p3 &&& (255 : Int32))).toUInt32.toUInt16.toUInt32.toInt32)), .val (.ref b41), .val (.ref b43), .val (.int p3), .val (.ref b45), .val (.ref b53), .val (.ref b45), .unset, .unset, .unset] [(.ref b53)])) _
        refine Own.go (fun t k => XS.astore X60.here hx rfl (hb hby at_150) rfl rfl (l' := #[.val (.int p1), .val (.int p2), .val (.int p3), .val (.int p4), .val (.int p5), .val (.int (0 : Int32)), .val (.int (0 : Int32)), .val (.int (1 : Int32)), .val (.int (((p2 &&& (255 : Int32))).toUInt32.toUInt16.toUInt32.toInt32)), .val (.int (((p3 &&& (255 : Int32))).toUInt32.toUInt16.toUInt32.toInt32)), .val (.ref b41), .val (.ref b43), .val (.int p3), .val (.ref b45), .val (.ref b53), .val (.ref b45), .val (.ref b53), .unset, .unset]) rfl k) ?_
        show Own.Fin p e below (T60.setTop (mkF m 152 #[.val (.int p1), .val (.int p2), .val (.int p3), .val (.int p4), .val (.int p5), .val (.int (0 : Int32)), .val (.int (0 : Int32)), .val (.int (1 : Int32)), .val (.int (((p2 &&& (255 : Int32))).toUInt32.toUInt16.toUInt32.toInt32)), .val (.int (((p3 &&& (255 : Int32))).toUInt32.toUInt16.toUInt32.toInt32)), .val (.ref b41), .val (.ref b43), .val (.int p3), .val (.ref b45), .val (.ref b53), .val (.ref b45), .val (.ref b53), .unset, .unset] [])) _
        obtain ⟨T65, h65, X65, e65, E65, A65, D65, -, st65⟩ := newO X60 hx hZ hown (hw _ (List.mem_of_getElem? (i := 43) rfl)) (hw _ (List.mem_of_getElem? (i := 44) rfl)) (hw _ (List.mem_of_getElem? (i := 45) rfl)) rfl (g := (mkF m 152 #[.val (.int p1), .val (.int p2), .val (.int p3), .val (.int p4), .val (.int p5), .val (.int (0 : Int32)), .val (.int (0 : Int32)), .val (.int (1 : Int32)), .val (.int (((p2 &&& (255 : Int32))).toUInt32.toUInt16.toUInt32.toInt32)), .val (.int (((p3 &&& (255 : Int32))).toUInt32.toUInt16.toUInt32.toInt32)), .val (.ref b41), .val (.ref b43), .val (.int p3), .val (.ref b45), .val (.ref b53), .val (.ref b45), .val (.ref b53), .unset, .unset] [])) rfl (hb hby at_152) (by decide) (by decide)
        obtain ⟨b65, gb65⟩ : ∃ z, z = T60.heap.size := ⟨_, rfl⟩
        rw [← gb65] at A65 D65 st65
        refine Own.go st65 ?_
        have ge65 : n0 ≤ b65 := by rw [gb65]; exact Z60
        have ne65_b45 : b45 ≠ b65 := Nat.ne_of_lt (Nat.lt_of_lt_of_le f61.lt (Nat.le_of_eq gb65.symm))
        have ne65_b53 : b53 ≠ b65 := Nat.ne_of_lt (Nat.lt_of_lt_of_le f62.lt (Nat.le_of_eq gb65.symm))
        have Z65 : n0 ≤ h65.size := Nat.le_trans Z60 E65.1
        have f66 := f61.ext E65
        have f67 := f62.ext E65
        have O65 := O60.ext E65
        have fl68 : Fld Z h65 b65 "com/example/arachne/arachne/Edge" "source" "Lcom/example/arachne/arachne/Node;" .null := D65 (Or.inr (hw _ (List.mem_of_getElem? (i := 51) rfl))) (ty := (.object "com/example/arachne/arachne/Node")) (by decide)
        have fl69 : Fld Z h65 b65 "com/example/arachne/arachne/Edge" "target" "Lcom/example/arachne/arachne/Node;" .null := D65 (Or.inr (hw _ (List.mem_of_getElem? (i := 53) rfl))) (ty := (.object "com/example/arachne/arachne/Node")) (by decide)
        have fl70 : Fld Z h65 b65 "com/example/arachne/arachne/Edge" "index" "I" (.int (0 : Int32)) := D65 (Or.inr (hw _ (List.mem_of_getElem? (i := 55) rfl))) (ty := .int) (by decide)
        show Own.Fin p e below (T65.setTop (mkF m 155 #[.val (.int p1), .val (.int p2), .val (.int p3), .val (.int p4), .val (.int p5), .val (.int (0 : Int32)), .val (.int (0 : Int32)), .val (.int (1 : Int32)), .val (.int (((p2 &&& (255 : Int32))).toUInt32.toUInt16.toUInt32.toInt32)), .val (.int (((p3 &&& (255 : Int32))).toUInt32.toUInt16.toUInt32.toInt32)), .val (.ref b41), .val (.ref b43), .val (.int p3), .val (.ref b45), .val (.ref b53), .val (.ref b45), .val (.ref b53), .unset, .unset] [(.ref b65)])) _
        refine Own.go (fun t k => XS.dup X65.here hx rfl (hb hby at_155) rfl rfl k) ?_
        show Own.Fin p e below (T65.setTop (mkF m 156 #[.val (.int p1), .val (.int p2), .val (.int p3), .val (.int p4), .val (.int p5), .val (.int (0 : Int32)), .val (.int (0 : Int32)), .val (.int (1 : Int32)), .val (.int (((p2 &&& (255 : Int32))).toUInt32.toUInt16.toUInt32.toInt32)), .val (.int (((p3 &&& (255 : Int32))).toUInt32.toUInt16.toUInt32.toInt32)), .val (.ref b41), .val (.ref b43), .val (.int p3), .val (.ref b45), .val (.ref b53), .val (.ref b45), .val (.ref b53), .unset, .unset] [(.ref b65), (.ref b65)])) _
        refine Own.go (fun t k => XS.aload X65.here hx rfl (hb hby at_156) rfl rfl k) ?_
        show Own.Fin p e below (T65.setTop (mkF m 158 #[.val (.int p1), .val (.int p2), .val (.int p3), .val (.int p4), .val (.int p5), .val (.int (0 : Int32)), .val (.int (0 : Int32)), .val (.int (1 : Int32)), .val (.int (((p2 &&& (255 : Int32))).toUInt32.toUInt16.toUInt32.toInt32)), .val (.int (((p3 &&& (255 : Int32))).toUInt32.toUInt16.toUInt32.toInt32)), .val (.ref b41), .val (.ref b43), .val (.int p3), .val (.ref b45), .val (.ref b53), .val (.ref b45), .val (.ref b53), .unset, .unset] [(.ref b45), (.ref b65), (.ref b65)])) _
        refine Own.go (fun t k => XS.aload X65.here hx rfl (hb hby at_158) rfl rfl k) ?_
        show Own.Fin p e below (T65.setTop (mkF m 160 #[.val (.int p1), .val (.int p2), .val (.int p3), .val (.int p4), .val (.int p5), .val (.int (0 : Int32)), .val (.int (0 : Int32)), .val (.int (1 : Int32)), .val (.int (((p2 &&& (255 : Int32))).toUInt32.toUInt16.toUInt32.toInt32)), .val (.int (((p3 &&& (255 : Int32))).toUInt32.toUInt16.toUInt32.toInt32)), .val (.ref b41), .val (.ref b43), .val (.int p3), .val (.ref b45), .val (.ref b53), .val (.ref b45), .val (.ref b53), .unset, .unset] [(.ref b53), (.ref b45), (.ref b65), (.ref b65)])) _
        refine Own.go (fun t k => XS.iload X65.here hx rfl (hb hby at_160) rfl k) ?_
        show Own.Fin p e below (T65.setTop (mkF m 162 #[.val (.int p1), .val (.int p2), .val (.int p3), .val (.int p4), .val (.int p5), .val (.int (0 : Int32)), .val (.int (0 : Int32)), .val (.int (1 : Int32)), .val (.int (((p2 &&& (255 : Int32))).toUInt32.toUInt16.toUInt32.toInt32)), .val (.int (((p3 &&& (255 : Int32))).toUInt32.toUInt16.toUInt32.toInt32)), .val (.ref b41), .val (.ref b43), .val (.int p3), .val (.ref b45), .val (.ref b53), .val (.ref b45), .val (.ref b53), .unset, .unset] [(.int p5), (.ref b53), (.ref b45), (.ref b65), (.ref b65)])) _
        refine Own.cI X65 hx hZ rfl hown (hw _ (List.mem_of_getElem? (i := 46) rfl)) (hw _ (List.mem_of_getElem? (i := 47) rfl)) (hw _ (List.mem_of_getElem? (i := 45) rfl)) (hw _ (List.mem_of_getElem? (i := 48) rfl)) (by decide) (rm7 l Z a0 hw [] b65 b45 b53 p5 h65 n0 Z65 A65 fl68 fl69 fl70 ge65) (by decide) (W := 1) (by decide) (argsL := [(.ref b45), (.ref b53), (.int p5)]) (rest := [(.ref b65)]) (by rw [hml]; rfl) (lenOf pd_5 rfl) rfl (Nat.le_of_eq rfl) (hb hby at_162) e65 (by decide) (by decide) ?_
        intro T71 L71 v71 X71 hQ71
        obtain ⟨rfl, N71q, K71q, FS71, FT71⟩ := hQ71
        have N71 := Fr.app N60 N71q
        have f72 := f66.keep K71q
        have f73 := f67.keep K71q
        have f74 := A65.keep K71q
        have Z71 : n0 ≤ T71.heap.size := Nat.le_trans Z65 K71q.1
        have O71 := O65.keep K71q (allS ge65 all0)
        show Own.Fin p e below (T71.setTop (mkF m 165 #[.val (.int p1), .val (.int p2), .val (.int p3), .val (.int p4), .val (.int p5), .val (.int (0 : Int32)), .val (.int (0 : Int32)), .val (.int (1 : Int32)), .val (.int (((p2 &&& (255 : Int32))).toUInt32.toUInt16.toUInt32.toInt32)), .val (.int (((p3 &&& (255 : Int32))).toUInt32.toUInt16.toUInt32.toInt32)), .val (.ref b41), .val (.ref b43), .val (.int p3), .val (.ref b45), .val (.ref b53), .val (.ref b45), .val (.ref b53), .unset, .unset] [(.ref b65)])) _
        refine Own.go (fun t k => XS.astore X71.here hx rfl (hb hby at_165) rfl rfl (l' := #[.val (.int p1), .val (.int p2), .val (.int p3), .val (.int p4), .val (.int p5), .val (.int (0 : Int32)), .val (.int (0 : Int32)), .val (.int (1 : Int32)), .val (.int (((p2 &&& (255 : Int32))).toUInt32.toUInt16.toUInt32.toInt32)), .val (.int (((p3 &&& (255 : Int32))).toUInt32.toUInt16.toUInt32.toInt32)), .val (.ref b41), .val (.ref b43), .val (.int p3), .val (.ref b45), .val (.ref b53), .val (.ref b45), .val (.ref b53), .val (.ref b65), .unset]) rfl k) ?_
        show Own.Fin p e below (T71.setTop (mkF m 167 #[.val (.int p1), .val (.int p2), .val (.int p3), .val (.int p4), .val (.int p5), .val (.int (0 : Int32)), .val (.int (0 : Int32)), .val (.int (1 : Int32)), .val (.int (((p2 &&& (255 : Int32))).toUInt32.toUInt16.toUInt32.toInt32)), .val (.int (((p3 &&& (255 : Int32))).toUInt32.toUInt16.toUInt32.toInt32)), .val (.ref b41), .val (.ref b43), .val (.int p3), .val (.ref b45), .val (.ref b53), .val (.ref b45), .val (.ref b53), .val (.ref b65), .unset] [])) _
        refine Own.go (fun t k => XS.iload X71.here hx rfl (hb hby at_167) rfl k) ?_
        show Own.Fin p e below (T71.setTop (mkF m 169 #[.val (.int p1), .val (.int p2), .val (.int p3), .val (.int p4), .val (.int p5), .val (.int (0 : Int32)), .val (.int (0 : Int32)), .val (.int (1 : Int32)), .val (.int (((p2 &&& (255 : Int32))).toUInt32.toUInt16.toUInt32.toInt32)), .val (.int (((p3 &&& (255 : Int32))).toUInt32.toUInt16.toUInt32.toInt32)), .val (.ref b41), .val (.ref b43), .val (.int p3), .val (.ref b45), .val (.ref b53), .val (.ref b45), .val (.ref b53), .val (.ref b65), .unset] [(.int (0 : Int32))])) _
        refine Own.go (fun t k => XS.iload X71.here hx rfl (hb hby at_169) rfl k) ?_
        show Own.Fin p e below (T71.setTop (mkF m 171 #[.val (.int p1), .val (.int p2), .val (.int p3), .val (.int p4), .val (.int p5), .val (.int (0 : Int32)), .val (.int (0 : Int32)), .val (.int (1 : Int32)), .val (.int (((p2 &&& (255 : Int32))).toUInt32.toUInt16.toUInt32.toInt32)), .val (.int (((p3 &&& (255 : Int32))).toUInt32.toUInt16.toUInt32.toInt32)), .val (.ref b41), .val (.ref b43), .val (.int p3), .val (.ref b45), .val (.ref b53), .val (.ref b45), .val (.ref b53), .val (.ref b65), .unset] [(.int (1 : Int32)), (.int (0 : Int32))])) _
        have hc171_74 : ¬ ((0 : Int32) = (1 : Int32)) := by decide
        refine Own.go (fun t k => XS.icmpYes X71.here hx rfl (pc0 := 171) (pc' := 178) rfl (hb hby at_171) rfl (feq hc171_74).2 (by decide) (by decide) k) ?_
        show Own.Fin p e below (T71.setTop (mkF m 178 #[.val (.int p1), .val (.int p2), .val (.int p3), .val (.int p4), .val (.int p5), .val (.int (0 : Int32)), .val (.int (0 : Int32)), .val (.int (1 : Int32)), .val (.int (((p2 &&& (255 : Int32))).toUInt32.toUInt16.toUInt32.toInt32)), .val (.int (((p3 &&& (255 : Int32))).toUInt32.toUInt16.toUInt32.toInt32)), .val (.ref b41), .val (.ref b43), .val (.int p3), .val (.ref b45), .val (.ref b53), .val (.ref b45), .val (.ref b53), .val (.ref b65), .unset] [])) _
        refine Own.go (fun t k => XS.iconst X71.here hx rfl (hb hby at_178) k) ?_
        show Own.Fin p e below (T71.setTop (mkF m 179 #[.val (.int p1), .val (.int p2), .val (.int p3), .val (.int p4), .val (.int p5), .val (.int (0 : Int32)), .val (.int (0 : Int32)), .val (.int (1 : Int32)), .val (.int (((p2 &&& (255 : Int32))).toUInt32.toUInt16.toUInt32.toInt32)), .val (.int (((p3 &&& (255 : Int32))).toUInt32.toUInt16.toUInt32.toInt32)), .val (.ref b41), .val (.ref b43), .val (.int p3), .val (.ref b45), .val (.ref b53), .val (.ref b45), .val (.ref b53), .val (.ref b65), .unset] [(.int (0 : Int32))])) _
        refine Own.go (fun t k => XS.istore X71.here hx rfl (hb hby at_179) rfl (l' := #[.val (.int p1), .val (.int p2), .val (.int p3), .val (.int p4), .val (.int p5), .val (.int (0 : Int32)), .val (.int (0 : Int32)), .val (.int (1 : Int32)), .val (.int (((p2 &&& (255 : Int32))).toUInt32.toUInt16.toUInt32.toInt32)), .val (.int (((p3 &&& (255 : Int32))).toUInt32.toUInt16.toUInt32.toInt32)), .val (.ref b41), .val (.ref b43), .val (.int p3), .val (.ref b45), .val (.ref b53), .val (.ref b45), .val (.ref b53), .val (.ref b65), .val (.int (0 : Int32))]) rfl k) ?_
        show Own.Fin p e below (T71.setTop (mkF m 181 #[.val (.int p1), .val (.int p2), .val (.int p3), .val (.int p4), .val (.int p5), .val (.int (0 : Int32)), .val (.int (0 : Int32)), .val (.int (1 : Int32)), .val (.int (((p2 &&& (255 : Int32))).toUInt32.toUInt16.toUInt32.toInt32)), .val (.int (((p3 &&& (255 : Int32))).toUInt32.toUInt16.toUInt32.toInt32)), .val (.ref b41), .val (.ref b43), .val (.int p3), .val (.ref b45), .val (.ref b53), .val (.ref b45), .val (.ref b53), .val (.ref b65), .val (.int (0 : Int32))] [])) _
        refine Own.go (fun t k => XS.aload X71.here hx rfl (hb hby at_181) rfl rfl k) ?_
        show Own.Fin p e below (T71.setTop (mkF m 183 #[.val (.int p1), .val (.int p2), .val (.int p3), .val (.int p4), .val (.int p5), .val (.int (0 : Int32)), .val (.int (0 : Int32)), .val (.int (1 : Int32)), .val (.int (((p2 &&& (255 : Int32))).toUInt32.toUInt16.toUInt32.toInt32)), .val (.int (((p3 &&& (255 : Int32))).toUInt32.toUInt16.toUInt32.toInt32)), .val (.ref b41), .val (.ref b43), .val (.int p3), .val (.ref b45), .val (.ref b53), .val (.ref b45), .val (.ref b53), .val (.ref b65), .val (.int (0 : Int32))] [(.ref b65)])) _
        refine Own.cV X71 hx hZ hown (hw _ (List.mem_of_getElem? (i := 56) rfl)) (hw _ (List.mem_of_getElem? (i := 57) rfl)) (notFace_of_selects (args := #[]) (mvT hZ (hw _ (List.mem_of_getElem? (i := 59) rfl)))) (hw _ (List.mem_of_getElem? (i := 59) rfl)) (hw _ (List.mem_of_getElem? (i := 58) rfl)) (hw _ (List.mem_of_getElem? (i := 45) rfl)) (hw _ (List.mem_of_getElem? (i := 60) rfl)) (by decide) (rm8 l Z a0 hw [] b65 b45 b53 T71.heap n0 Z71 FS71 FT71) (by decide) (W := 0) (by decide) (argsL := []) (rest := []) f74 (by rw [hml]; rfl) (lenOf pd_6 rfl) rfl (Nat.le_of_eq rfl) (hb hby at_183) rfl (by decide) (by decide) ?_
        intro T76 L76 v76 X76 hQ76
        obtain ⟨rfl, N76q, e76⟩ := hQ76
        have N76 := Fr.app N71 N76q
        rw [if_neg ne53_b45]
        show Own.Fin p e below (T76.setTop (mkF m 186 #[.val (.int p1), .val (.int p2), .val (.int p3), .val (.int p4), .val (.int p5), .val (.int (0 : Int32)), .val (.int (0 : Int32)), .val (.int (1 : Int32)), .val (.int (((p2 &&& (255 : Int32))).toUInt32.toUInt16.toUInt32.toInt32)), .val (.int (((p3 &&& (255 : Int32))).toUInt32.toUInt16.toUInt32.toInt32)), .val (.ref b41), .val (.ref b43), .val (.int p3), .val (.ref b45), .val (.ref b53), .val (.ref b45), .val (.ref b53), .val (.ref b65), .val (.int (0 : Int32))] [(.int (0 : Int32))])) _
        refine Own.go (fun t k => XS.iload X76.here hx rfl (hb hby at_186) rfl k) ?_
        show Own.Fin p e below (T76.setTop (mkF m 188 #[.val (.int p1), .val (.int p2), .val (.int p3), .val (.int p4), .val (.int p5), .val (.int (0 : Int32)), .val (.int (0 : Int32)), .val (.int (1 : Int32)), .val (.int (((p2 &&& (255 : Int32))).toUInt32.toUInt16.toUInt32.toInt32)), .val (.int (((p3 &&& (255 : Int32))).toUInt32.toUInt16.toUInt32.toInt32)), .val (.ref b41), .val (.ref b43), .val (.int p3), .val (.ref b45), .val (.ref b53), .val (.ref b45), .val (.ref b53), .val (.ref b65), .val (.int (0 : Int32))] [(.int (0 : Int32)), (.int (0 : Int32))])) _
        have hc188_76 : (0 : Int32) = (0 : Int32) := by decide
        refine Own.go (fun t k => XS.icmpNo X76.here hx rfl (hb hby at_188) rfl (teq hc188_76).2 k) ?_
        show Own.Fin p e below (T76.setTop (mkF m 191 #[.val (.int p1), .val (.int p2), .val (.int p3), .val (.int p4), .val (.int p5), .val (.int (0 : Int32)), .val (.int (0 : Int32)), .val (.int (1 : Int32)), .val (.int (((p2 &&& (255 : Int32))).toUInt32.toUInt16.toUInt32.toInt32)), .val (.int (((p3 &&& (255 : Int32))).toUInt32.toUInt16.toUInt32.toInt32)), .val (.ref b41), .val (.ref b43), .val (.int p3), .val (.ref b45), .val (.ref b53), .val (.ref b45), .val (.ref b53), .val (.ref b65), .val (.int (0 : Int32))] [])) _
        refine Own.go (fun t k => XS.iconst X76.here hx rfl (hb hby at_191) k) ?_
        show Own.Fin p e below (T76.setTop (mkF m 192 #[.val (.int p1), .val (.int p2), .val (.int p3), .val (.int p4), .val (.int p5), .val (.int (0 : Int32)), .val (.int (0 : Int32)), .val (.int (1 : Int32)), .val (.int (((p2 &&& (255 : Int32))).toUInt32.toUInt16.toUInt32.toInt32)), .val (.int (((p3 &&& (255 : Int32))).toUInt32.toUInt16.toUInt32.toInt32)), .val (.ref b41), .val (.ref b43), .val (.int p3), .val (.ref b45), .val (.ref b53), .val (.ref b45), .val (.ref b53), .val (.ref b65), .val (.int (0 : Int32))] [(.int (1 : Int32))])) _
        refine Own.go (fun t k => XS.goto X76.here hx rfl (pc0 := 192) (pc' := 196) rfl (hb hby at_192) (by decide) (by decide) k) ?_
        show Own.Fin p e below (T76.setTop (mkF m 196 #[.val (.int p1), .val (.int p2), .val (.int p3), .val (.int p4), .val (.int p5), .val (.int (0 : Int32)), .val (.int (0 : Int32)), .val (.int (1 : Int32)), .val (.int (((p2 &&& (255 : Int32))).toUInt32.toUInt16.toUInt32.toInt32)), .val (.int (((p3 &&& (255 : Int32))).toUInt32.toUInt16.toUInt32.toInt32)), .val (.ref b41), .val (.ref b43), .val (.int p3), .val (.ref b45), .val (.ref b53), .val (.ref b45), .val (.ref b53), .val (.ref b65), .val (.int (0 : Int32))] [(.int (1 : Int32))])) _
        refine Own.retN X76 hx Bd.notSynchronized (t := .boolean) Bd.returns (by simp) (hb hby at_196) (by decide) (by decide) ?_
        exact ⟨rfl, N76⟩
    · skip
      refine Own.go (fun t k => XS.ifNo X0.here hx rfl (hb hby at_16) rfl ((if0 _ _).trans (feq hc16_1).1) k) ?_
      show Own.Fin p e below (s₁.setTop (mkF m 19 #[.val (.int p1), .val (.int p2), .val (.int p3), .val (.int p4), .val (.int p5), .val (.int (0 : Int32)), .unset, .unset, .unset, .unset, .unset, .unset, .unset, .unset, .unset, .unset, .unset, .unset, .unset] [])) _
      refine Own.go (fun t k => XS.iconst X0.here hx rfl (hb hby at_19) k) ?_
      show Own.Fin p e below (s₁.setTop (mkF m 20 #[.val (.int p1), .val (.int p2), .val (.int p3), .val (.int p4), .val (.int p5), .val (.int (0 : Int32)), .unset, .unset, .unset, .unset, .unset, .unset, .unset, .unset, .unset, .unset, .unset, .unset, .unset] [(.int (1 : Int32))])) _
      refine Own.go (fun t k => XS.goto X0.here hx rfl (pc0 := 20) (pc' := 24) rfl (hb hby at_20) (by decide) (by decide) k) ?_
      show Own.Fin p e below (s₁.setTop (mkF m 24 #[.val (.int p1), .val (.int p2), .val (.int p3), .val (.int p4), .val (.int p5), .val (.int (0 : Int32)), .unset, .unset, .unset, .unset, .unset, .unset, .unset, .unset, .unset, .unset, .unset, .unset, .unset] [(.int (1 : Int32))])) _
      refine Own.go (fun t k => XS.istore X0.here hx rfl (hb hby at_24) rfl (l' := #[.val (.int p1), .val (.int p2), .val (.int p3), .val (.int p4), .val (.int p5), .val (.int (0 : Int32)), .val (.int (1 : Int32)), .unset, .unset, .unset, .unset, .unset, .unset, .unset, .unset, .unset, .unset, .unset, .unset]) rfl k) ?_
      show Own.Fin p e below (s₁.setTop (mkF m 26 #[.val (.int p1), .val (.int p2), .val (.int p3), .val (.int p4), .val (.int p5), .val (.int (0 : Int32)), .val (.int (1 : Int32)), .unset, .unset, .unset, .unset, .unset, .unset, .unset, .unset, .unset, .unset, .unset, .unset] [])) _
      refine Own.go (fun t k => XS.iloadN X0.here hx rfl (hb hby at_26) rfl k) ?_
      show Own.Fin p e below (s₁.setTop (mkF m 27 #[.val (.int p1), .val (.int p2), .val (.int p3), .val (.int p4), .val (.int p5), .val (.int (0 : Int32)), .val (.int (1 : Int32)), .unset, .unset, .unset, .unset, .unset, .unset, .unset, .unset, .unset, .unset, .unset, .unset] [(.int p1)])) _
      refine Own.go (fun t k => XS.iconst X0.here hx rfl (hb hby at_27) k) ?_
      show Own.Fin p e below (s₁.setTop (mkF m 28 #[.val (.int p1), .val (.int p2), .val (.int p3), .val (.int p4), .val (.int p5), .val (.int (0 : Int32)), .val (.int (1 : Int32)), .unset, .unset, .unset, .unset, .unset, .unset, .unset, .unset, .unset, .unset, .unset, .unset] [(.int (2 : Int32)), (.int p1)])) _
      refine Own.go (fun t k => XS.iand X0.here hx rfl (hb hby at_28) rfl k) ?_
      show Own.Fin p e below (s₁.setTop (mkF m 29 #[.val (.int p1), .val (.int p2), .val (.int p3), .val (.int p4), .val (.int p5), .val (.int (0 : Int32)), .val (.int (1 : Int32)), .unset, .unset, .unset, .unset, .unset, .unset, .unset, .unset, .unset, .unset, .unset, .unset] [(.int (p1 &&& (2 : Int32)))])) _
      by_cases hc29_77 : (p1 &&& (2 : Int32)) = (0 : Int32)
      · skip
        refine Own.go (fun t k => XS.ifYes X0.here hx rfl (pc0 := 29) (pc' := 36) rfl (hb hby at_29) rfl ((if0 _ _).trans (teq hc29_77).1) (by decide) (by decide) k) ?_
        show Own.Fin p e below (s₁.setTop (mkF m 36 #[.val (.int p1), .val (.int p2), .val (.int p3), .val (.int p4), .val (.int p5), .val (.int (0 : Int32)), .val (.int (1 : Int32)), .unset, .unset, .unset, .unset, .unset, .unset, .unset, .unset, .unset, .unset, .unset, .unset] [])) _
        refine Own.go (fun t k => XS.iconst X0.here hx rfl (hb hby at_36) k) ?_
        show Own.Fin p e below (s₁.setTop (mkF m 37 #[.val (.int p1), .val (.int p2), .val (.int p3), .val (.int p4), .val (.int p5), .val (.int (0 : Int32)), .val (.int (1 : Int32)), .unset, .unset, .unset, .unset, .unset, .unset, .unset, .unset, .unset, .unset, .unset, .unset] [(.int (0 : Int32))])) _
        refine Own.go (fun t k => XS.istore X0.here hx rfl (hb hby at_37) rfl (l' := #[.val (.int p1), .val (.int p2), .val (.int p3), .val (.int p4), .val (.int p5), .val (.int (0 : Int32)), .val (.int (1 : Int32)), .val (.int (0 : Int32)), .unset, .unset, .unset, .unset, .unset, .unset, .unset, .unset, .unset, .unset, .unset]) rfl k) ?_
        show Own.Fin p e below (s₁.setTop (mkF m 39 #[.val (.int p1), .val (.int p2), .val (.int p3), .val (.int p4), .val (.int p5), .val (.int (0 : Int32)), .val (.int (1 : Int32)), .val (.int (0 : Int32)), .unset, .unset, .unset, .unset, .unset, .unset, .unset, .unset, .unset, .unset, .unset] [])) _
        refine Own.go (fun t k => XS.iloadN X0.here hx rfl (hb hby at_39) rfl k) ?_
        show Own.Fin p e below (s₁.setTop (mkF m 40 #[.val (.int p1), .val (.int p2), .val (.int p3), .val (.int p4), .val (.int p5), .val (.int (0 : Int32)), .val (.int (1 : Int32)), .val (.int (0 : Int32)), .unset, .unset, .unset, .unset, .unset, .unset, .unset, .unset, .unset, .unset, .unset] [(.int p2)])) _
        refine Own.go (fun t k => XS.sipush X0.here hx rfl (hb hby at_40) k) ?_
        show Own.Fin p e below (s₁.setTop (mkF m 43 #[.val (.int p1), .val (.int p2), .val (.int p3), .val (.int p4), .val (.int p5), .val (.int (0 : Int32)), .val (.int (1 : Int32)), .val (.int (0 : Int32)), .unset, .unset, .unset, .unset, .unset, .unset, .unset, .unset, .unset, .unset, .unset] [(.int (255 : Int32)), (.int p2)])) _
        refine Own.go (fun t k => XS.iand X0.here hx rfl (hb hby at_43) rfl k) ?_
        show Own.Fin p e below (s₁.setTop (mkF m 44 #[.val (.int p1), .val (.int p2), .val (.int p3), .val (.int p4), .val (.int p5), .val (.int (0 : Int32)), .val (.int (1 : Int32)), .val (.int (0 : Int32)), .unset, .unset, .unset, .unset, .unset, .unset, .unset, .unset, .unset, .unset, .unset] [(.int (p2 &&& (255 : Int32)))])) _
        refine Own.go (fun t k => XS.i2c X0.here hx rfl (hb hby at_44) rfl k) ?_
        show Own.Fin p e below (s₁.setTop (mkF m 45 #[.val (.int p1), .val (.int p2), .val (.int p3), .val (.int p4), .val (.int p5), .val (.int (0 : Int32)), .val (.int (1 : Int32)), .val (.int (0 : Int32)), .unset, .unset, .unset, .unset, .unset, .unset, .unset, .unset, .unset, .unset, .unset] [(.int (((p2 &&& (255 : Int32))).toUInt32.toUInt16.toUInt32.toInt32))])) _
        refine Own.go (fun t k => XS.istore X0.here hx rfl (hb hby at_45) rfl (l' := #[.val (.int p1), .val (.int p2), .val (.int p3), .val (.int p4), .val (.int p5), .val (.int (0 : Int32)), .val (.int (1 : Int32)), .val (.int (0 : Int32)), .val (.int (((p2 &&& (255 : Int32))).toUInt32.toUInt16.toUInt32.toInt32)), .unset, .unset, .unset, .unset, .unset, .unset, .unset, .unset, .unset, .unset]) rfl k) ?_
        show Own.Fin p e below (s₁.setTop (mkF m 47 #[.val (.int p1), .val (.int p2), .val (.int p3), .val (.int p4), .val (.int p5), .val (.int (0 : Int32)), .val (.int (1 : Int32)), .val (.int (0 : Int32)), .val (.int (((p2 &&& (255 : Int32))).toUInt32.toUInt16.toUInt32.toInt32)), .unset, .unset, .unset, .unset, .unset, .unset, .unset, .unset, .unset, .unset] [])) _
        refine Own.go (fun t k => XS.iloadN X0.here hx rfl (hb hby at_47) rfl k) ?_
        show Own.Fin p e below (s₁.setTop (mkF m 48 #[.val (.int p1), .val (.int p2), .val (.int p3), .val (.int p4), .val (.int p5), .val (.int (0 : Int32)), .val (.int (1 : Int32)), .val (.int (0 : Int32)), .val (.int (((p2 &&& (255 : Int32))).toUInt32.toUInt16.toUInt32.toInt32)), .unset, .unset, .unset, .unset, .unset, .unset, .unset, .unset, .unset, .unset] [(.int p3)])) _
        refine Own.go (fun t k => XS.sipush X0.here hx rfl (hb hby at_48) k) ?_
        show Own.Fin p e below (s₁.setTop (mkF m 51 #[.val (.int p1), .val (.int p2), .val (.int p3), .val (.int p4), .val (.int p5), .val (.int (0 : Int32)), .val (.int (1 : Int32)), .val (.int (0 : Int32)), .val (.int (((p2 &&& (255 : Int32))).toUInt32.toUInt16.toUInt32.toInt32)), .unset, .unset, .unset, .unset, .unset, .unset, .unset, .unset, .unset, .unset] [(.int (255 : Int32)), (.int p3)])) _
        refine Own.go (fun t k => XS.iand X0.here hx rfl (hb hby at_51) rfl k) ?_
        show Own.Fin p e below (s₁.setTop (mkF m 52 #[.val (.int p1), .val (.int p2), .val (.int p3), .val (.int p4), .val (.int p5), .val (.int (0 : Int32)), .val (.int (1 : Int32)), .val (.int (0 : Int32)), .val (.int (((p2 &&& (255 : Int32))).toUInt32.toUInt16.toUInt32.toInt32)), .unset, .unset, .unset, .unset, .unset, .unset, .unset, .unset, .unset, .unset] [(.int (p3 &&& (255 : Int32)))])) _
        refine Own.go (fun t k => XS.i2c X0.here hx rfl (hb hby at_52) rfl k) ?_
        show Own.Fin p e below (s₁.setTop (mkF m 53 #[.val (.int p1), .val (.int p2), .val (.int p3), .val (.int p4), .val (.int p5), .val (.int (0 : Int32)), .val (.int (1 : Int32)), .val (.int (0 : Int32)), .val (.int (((p2 &&& (255 : Int32))).toUInt32.toUInt16.toUInt32.toInt32)), .unset, .unset, .unset, .unset, .unset, .unset, .unset, .unset, .unset, .unset] [(.int (((p3 &&& (255 : Int32))).toUInt32.toUInt16.toUInt32.toInt32))])) _
        refine Own.go (fun t k => XS.istore X0.here hx rfl (hb hby at_53) rfl (l' := #[.val (.int p1), .val (.int p2), .val (.int p3), .val (.int p4), .val (.int p5), .val (.int (0 : Int32)), .val (.int (1 : Int32)), .val (.int (0 : Int32)), .val (.int (((p2 &&& (255 : Int32))).toUInt32.toUInt16.toUInt32.toInt32)), .val (.int (((p3 &&& (255 : Int32))).toUInt32.toUInt16.toUInt32.toInt32)), .unset, .unset, .unset, .unset, .unset, .unset, .unset, .unset, .unset]) rfl k) ?_
        show Own.Fin p e below (s₁.setTop (mkF m 55 #[.val (.int p1), .val (.int p2), .val (.int p3), .val (.int p4), .val (.int p5), .val (.int (0 : Int32)), .val (.int (1 : Int32)), .val (.int (0 : Int32)), .val (.int (((p2 &&& (255 : Int32))).toUInt32.toUInt16.toUInt32.toInt32)), .val (.int (((p3 &&& (255 : Int32))).toUInt32.toUInt16.toUInt32.toInt32)), .unset, .unset, .unset, .unset, .unset, .unset, .unset, .unset, .unset] [])) _
        refine Own.go (fun t k => XS.iload X0.here hx rfl (hb hby at_55) rfl k) ?_
        show Own.Fin p e below (s₁.setTop (mkF m 57 #[.val (.int p1), .val (.int p2), .val (.int p3), .val (.int p4), .val (.int p5), .val (.int (0 : Int32)), .val (.int (1 : Int32)), .val (.int (0 : Int32)), .val (.int (((p2 &&& (255 : Int32))).toUInt32.toUInt16.toUInt32.toInt32)), .val (.int (((p3 &&& (255 : Int32))).toUInt32.toUInt16.toUInt32.toInt32)), .unset, .unset, .unset, .unset, .unset, .unset, .unset, .unset, .unset] [(.int (((p2 &&& (255 : Int32))).toUInt32.toUInt16.toUInt32.toInt32))])) _
        refine Own.cS X0 hx hZ hown (hw _ (List.mem_of_getElem? (i := 0) rfl)) (hw _ (List.mem_of_getElem? (i := 1) rfl)) (hw _ (List.mem_of_getElem? (i := 2) rfl)) (hw _ (List.mem_of_getElem? (i := 3) rfl)) (by decide) (rm1 l Z a0 hw [] (((p2 &&& (255 : Int32))).toUInt32.toUInt16.toUInt32.toInt32) cs h0 n0 Z0 O0 SC hcs (own_ch _)) (by decide) (W := 0) (by decide) (argsL := [(.int (((p2 &&& (255 : Int32))).toUInt32.toUInt16.toUInt32.toInt32))]) (rest := []) (by rw [hml]; rfl) (lenOf pd_3 rfl) rfl (Nat.le_of_eq rfl) (hb hby at_57) e0 (by decide) (by decide) ?_
        intro T79 L79 v79 X79 hQ79
        obtain ⟨b79, ge79, rfl, N79q, K79q⟩ := hQ79
        have N79 := Fr.app N0 N79q
        have Z79 : n0 ≤ T79.heap.size := Nat.le_trans Z0 K79q.1
        have O79 := O0.keep K79q all0
        show Own.Fin p e below (T79.setTop (mkF m 60 #[.val (.int p1), .val (.int p2), .val (.int p3), .val (.int p4), .val (.int p5), .val (.int (0 : Int32)), .val (.int (1 : Int32)), .val (.int (0 : Int32)), .val (.int (((p2 &&& (255 : Int32))).toUInt32.toUInt16.toUInt32.toInt32)), .val (.int (((p3 &&& (255 : Int32))).toUInt32.toUInt16.toUInt32.toInt32)), .unset, .unset, .unset, .unset, .unset, .unset, .unset, .unset, .unset] [(.ref b79)])) _
        refine Own.go (fun t k => XS.astore X79.here hx rfl (hb hby at_60) rfl rfl (l' := #[.val (.int p1), .val (.int p2), .val (.int p3), .val (.int p4), .val (.int p5), .val (.int (0 : Int32)), .val (.int (1 : Int32)), .val (.int (0 : Int32)), .val (.int (((p2 &&& (255 : Int32))).toUInt32.toUInt16.toUInt32.toInt32)), .val (.int (((p3 &&& (255 : Int32))).toUInt32.toUInt16.toUInt32.toInt32)), .val (.ref b79), .unset, .unset, .unset, .unset, .unset, .unset, .unset, .unset]) rfl k) ?_
        show Own.Fin p e below (T79.setTop (mkF m 62 #[.val (.int p1), .val (.int p2), .val (.int p3), .val (.int p4), .val (.int p5), .val (.int (0 : Int32)), .val (.int (1 : Int32)), .val (.int (0 : Int32)), .val (.int (((p2 &&& (255 : Int32))).toUInt32.toUInt16.toUInt32.toInt32)), .val (.int (((p3 &&& (255 : Int32))).toUInt32.toUInt16.toUInt32.toInt32)), .val (.ref b79), .unset, .unset, .unset, .unset, .unset, .unset, .unset, .unset] [])) _
        refine Own.go (fun t k => XS.iload X79.here hx rfl (hb hby at_62) rfl k) ?_
        show Own.Fin p e below (T79.setTop (mkF m 64 #[.val (.int p1), .val (.int p2), .val (.int p3), .val (.int p4), .val (.int p5), .val (.int (0 : Int32)), .val (.int (1 : Int32)), .val (.int (0 : Int32)), .val (.int (((p2 &&& (255 : Int32))).toUInt32.toUInt16.toUInt32.toInt32)), .val (.int (((p3 &&& (255 : Int32))).toUInt32.toUInt16.toUInt32.toInt32)), .val (.ref b79), .unset, .unset, .unset, .unset, .unset, .unset, .unset, .unset] [(.int (0 : Int32))])) _
        have hc64_79 : (0 : Int32) = (0 : Int32) := by decide
        refine Own.go (fun t k => XS.ifYes X79.here hx rfl (pc0 := 64) (pc' := 72) rfl (hb hby at_64) rfl ((if0 _ _).trans (teq hc64_79).1) (by decide) (by decide) k) ?_
        show Own.Fin p e below (T79.setTop (mkF m 72 #[.val (.int p1), .val (.int p2), .val (.int p3), .val (.int p4), .val (.int p5), .val (.int (0 : Int32)), .val (.int (1 : Int32)), .val (.int (0 : Int32)), .val (.int (((p2 &&& (255 : Int32))).toUInt32.toUInt16.toUInt32.toInt32)), .val (.int (((p3 &&& (255 : Int32))).toUInt32.toUInt16.toUInt32.toInt32)), .val (.ref b79), .unset, .unset, .unset, .unset, .unset, .unset, .unset, .unset] [])) _
        refine Own.go (fun t k => XS.iload X79.here hx rfl (hb hby at_72) rfl k) ?_
        show Own.Fin p e below (T79.setTop (mkF m 74 #[.val (.int p1), .val (.int p2), .val (.int p3), .val (.int p4), .val (.int p5), .val (.int (0 : Int32)), .val (.int (1 : Int32)), .val (.int (0 : Int32)), .val (.int (((p2 &&& (255 : Int32))).toUInt32.toUInt16.toUInt32.toInt32)), .val (.int (((p3 &&& (255 : Int32))).toUInt32.toUInt16.toUInt32.toInt32)), .val (.ref b79), .unset, .unset, .unset, .unset, .unset, .unset, .unset, .unset] [(.int (((p3 &&& (255 : Int32))).toUInt32.toUInt16.toUInt32.toInt32))])) _
        refine Own.cS X79 hx hZ hown (hw _ (List.mem_of_getElem? (i := 0) rfl)) (hw _ (List.mem_of_getElem? (i := 1) rfl)) (hw _ (List.mem_of_getElem? (i := 2) rfl)) (hw _ (List.mem_of_getElem? (i := 3) rfl)) (by decide) (rm1 l Z a0 hw [] (((p3 &&& (255 : Int32))).toUInt32.toUInt16.toUInt32.toInt32) cs T79.heap n0 Z79 O79 SC hcs (own_ch _)) (by decide) (W := 0) (by decide) (argsL := [(.int (((p3 &&& (255 : Int32))).toUInt32.toUInt16.toUInt32.toInt32))]) (rest := []) (by rw [hml]; rfl) (lenOf pd_3 rfl) rfl (Nat.le_of_eq rfl) (hb hby at_74) rfl (by decide) (by decide) ?_
        intro T81 L81 v81 X81 hQ81
        obtain ⟨b81, ge81, rfl, N81q, K81q⟩ := hQ81
        have N81 := Fr.app N79 N81q
        have Z81 : n0 ≤ T81.heap.size := Nat.le_trans Z79 K81q.1
        have O81 := O79.keep K81q all0
        show Own.Fin p e below (T81.setTop (mkF m 77 #[.val (.int p1), .val (.int p2), .val (.int p3), .val (.int p4), .val (.int p5), .val (.int (0 : Int32)), .val (.int (1 : Int32)), .val (.int (0 : Int32)), .val (.int (((p2 &&& (255 : Int32))).toUInt32.toUInt16.toUInt32.toInt32)), .val (.int (((p3 &&& (255 : Int32))).toUInt32.toUInt16.toUInt32.toInt32)), .val (.ref b79), .unset, .unset, .unset, .unset, .unset, .unset, .unset, .unset] [(.ref b81)])) _
        refine Own.go (fun t k => XS.astore X81.here hx rfl (hb hby at_77) rfl rfl (l' := #[.val (.int p1), .val (.int p2), .val (.int p3), .val (.int p4), .val (.int p5), .val (.int (0 : Int32)), .val (.int (1 : Int32)), .val (.int (0 : Int32)), .val (.int (((p2 &&& (255 : Int32))).toUInt32.toUInt16.toUInt32.toInt32)), .val (.int (((p3 &&& (255 : Int32))).toUInt32.toUInt16.toUInt32.toInt32)), .val (.ref b79), .val (.ref b81), .unset, .unset, .unset, .unset, .unset, .unset, .unset]) rfl k) ?_
        show Own.Fin p e below (T81.setTop (mkF m 79 #[.val (.int p1), .val (.int p2), .val (.int p3), .val (.int p4), .val (.int p5), .val (.int (0 : Int32)), .val (.int (1 : Int32)), .val (.int (0 : Int32)), .val (.int (((p2 &&& (255 : Int32))).toUInt32.toUInt16.toUInt32.toInt32)), .val (.int (((p3 &&& (255 : Int32))).toUInt32.toUInt16.toUInt32.toInt32)), .val (.ref b79), .val (.ref b81), .unset, .unset, .unset, .unset, .unset, .unset, .unset] [])) _
        refine Own.go (fun t k => XS.iload X81.here hx rfl (hb hby at_79) rfl k) ?_
        show Own.Fin p e below (T81.setTop (mkF m 81 #[.val (.int p1), .val (.int p2), .val (.int p3), .val (.int p4), .val (.int p5), .val (.int (0 : Int32)), .val (.int (1 : Int32)), .val (.int (0 : Int32)), .val (.int (((p2 &&& (255 : Int32))).toUInt32.toUInt16.toUInt32.toInt32)), .val (.int (((p3 &&& (255 : Int32))).toUInt32.toUInt16.toUInt32.toInt32)), .val (.ref b79), .val (.ref b81), .unset, .unset, .unset, .unset, .unset, .unset, .unset] [(.int (0 : Int32))])) _
        have hc81_81 : (0 : Int32) = (0 : Int32) := by decide
        refine Own.go (fun t k => XS.ifYes X81.here hx rfl (pc0 := 81) (pc' := 88) rfl (hb hby at_81) rfl ((if0 _ _).trans (teq hc81_81).1) (by decide) (by decide) k) ?_
        show Own.Fin p e below (T81.setTop (mkF m 88 #[.val (.int p1), .val (.int p2), .val (.int p3), .val (.int p4), .val (.int p5), .val (.int (0 : Int32)), .val (.int (1 : Int32)), .val (.int (0 : Int32)), .val (.int (((p2 &&& (255 : Int32))).toUInt32.toUInt16.toUInt32.toInt32)), .val (.int (((p3 &&& (255 : Int32))).toUInt32.toUInt16.toUInt32.toInt32)), .val (.ref b79), .val (.ref b81), .unset, .unset, .unset, .unset, .unset, .unset, .unset] [])) _
        refine Own.go (fun t k => XS.iloadN X81.here hx rfl (hb hby at_88) rfl k) ?_
        show Own.Fin p e below (T81.setTop (mkF m 89 #[.val (.int p1), .val (.int p2), .val (.int p3), .val (.int p4), .val (.int p5), .val (.int (0 : Int32)), .val (.int (1 : Int32)), .val (.int (0 : Int32)), .val (.int (((p2 &&& (255 : Int32))).toUInt32.toUInt16.toUInt32.toInt32)), .val (.int (((p3 &&& (255 : Int32))).toUInt32.toUInt16.toUInt32.toInt32)), .val (.ref b79), .val (.ref b81), .unset, .unset, .unset, .unset, .unset, .unset, .unset] [(.int p3)])) _
        refine Own.go (fun t k => XS.istore X81.here hx rfl (hb hby at_89) rfl (l' := #[.val (.int p1), .val (.int p2), .val (.int p3), .val (.int p4), .val (.int p5), .val (.int (0 : Int32)), .val (.int (1 : Int32)), .val (.int (0 : Int32)), .val (.int (((p2 &&& (255 : Int32))).toUInt32.toUInt16.toUInt32.toInt32)), .val (.int (((p3 &&& (255 : Int32))).toUInt32.toUInt16.toUInt32.toInt32)), .val (.ref b79), .val (.ref b81), .val (.int p3), .unset, .unset, .unset, .unset, .unset, .unset]) rfl k) ?_
        show Own.Fin p e below (T81.setTop (mkF m 91 #[.val (.int p1), .val (.int p2), .val (.int p3), .val (.int p4), .val (.int p5), .val (.int (0 : Int32)), .val (.int (1 : Int32)), .val (.int (0 : Int32)), .val (.int (((p2 &&& (255 : Int32))).toUInt32.toUInt16.toUInt32.toInt32)), .val (.int (((p3 &&& (255 : Int32))).toUInt32.toUInt16.toUInt32.toInt32)), .val (.ref b79), .val (.ref b81), .val (.int p3), .unset, .unset, .unset, .unset, .unset, .unset] [])) _
        obtain ⟨T83, h83, X83, e83, E83, A83, D83, -, st83⟩ := newO X81 hx hZ hown (hw _ (List.mem_of_getElem? (i := 26) rfl)) (hw _ (List.mem_of_getElem? (i := 27) rfl)) (hw _ (List.mem_of_getElem? (i := 28) rfl)) rfl (g := (mkF m 91 #[.val (.int p1), .val (.int p2), .val (.int p3), .val (.int p4), .val (.int p5), .val (.int (0 : Int32)), .val (.int (1 : Int32)), .val (.int (0 : Int32)), .val (.int (((p2 &&& (255 : Int32))).toUInt32.toUInt16.toUInt32.toInt32)), .val (.int (((p3 &&& (255 : Int32))).toUInt32.toUInt16.toUInt32.toInt32)), .val (.ref b79), .val (.ref b81), .val (.int p3), .unset, .unset, .unset, .unset, .unset, .unset] [])) rfl (hb hby at_91) (by decide) (by decide)
        obtain ⟨b83, gb83⟩ : ∃ z, z = T81.heap.size := ⟨_, rfl⟩
        rw [← gb83] at A83 D83 st83
        refine Own.go st83 ?_
        have ge83 : n0 ≤ b83 := by rw [gb83]; exact Z81
        have Z83 : n0 ≤ h83.size := Nat.le_trans Z81 E83.1
        have O83 := O81.ext E83
        have fl84 : Fld Z h83 b83 "com/example/arachne/arachne/Node" "id" "Ljava/lang/String;" .null := D83 (Or.inr (hw _ (List.mem_of_getElem? (i := 34) rfl))) (ty := (.object "java/lang/String")) (by decide)
        have fl85 : Fld Z h83 b83 "com/example/arachne/arachne/Node" "size" "Lcom/example/arachne/arachne/NodeSize;" .null := D83 (Or.inr (hw _ (List.mem_of_getElem? (i := 36) rfl))) (ty := (.object "com/example/arachne/arachne/NodeSize")) (by decide)
        have fl86 : Fld Z h83 b83 "com/example/arachne/arachne/Node" "label" "Ljava/lang/String;" .null := D83 (Or.inr (hw _ (List.mem_of_getElem? (i := 38) rfl))) (ty := (.object "java/lang/String")) (by decide)
        have fl87 : Fld Z h83 b83 "com/example/arachne/arachne/Node" "pin" "Lcom/example/arachne/arachne/Point;" .null := D83 (Or.inr (hw _ (List.mem_of_getElem? (i := 40) rfl))) (ty := (.object "com/example/arachne/arachne/Point")) (by decide)
        have fl88 : Fld Z h83 b83 "com/example/arachne/arachne/Node" "index" "I" (.int (0 : Int32)) := D83 (Or.inr (hw _ (List.mem_of_getElem? (i := 42) rfl))) (ty := .int) (by decide)
        show Own.Fin p e below (T83.setTop (mkF m 94 #[.val (.int p1), .val (.int p2), .val (.int p3), .val (.int p4), .val (.int p5), .val (.int (0 : Int32)), .val (.int (1 : Int32)), .val (.int (0 : Int32)), .val (.int (((p2 &&& (255 : Int32))).toUInt32.toUInt16.toUInt32.toInt32)), .val (.int (((p3 &&& (255 : Int32))).toUInt32.toUInt16.toUInt32.toInt32)), .val (.ref b79), .val (.ref b81), .val (.int p3), .unset, .unset, .unset, .unset, .unset, .unset] [(.ref b83)])) _
        refine Own.go (fun t k => XS.dup X83.here hx rfl (hb hby at_94) rfl rfl k) ?_
        show Own.Fin p e below (T83.setTop (mkF m 95 #[.val (.int p1), .val (.int p2), .val (.int p3), .val (.int p4), .val (.int p5), .val (.int (0 : Int32)), .val (.int (1 : Int32)), .val (.int (0 : Int32)), .val (.int (((p2 &&& (255 : Int32))).toUInt32.toUInt16.toUInt32.toInt32)), .val (.int (((p3 &&& (255 : Int32))).toUInt32.toUInt16.toUInt32.toInt32)), .val (.ref b79), .val (.ref b81), .val (.int p3), .unset, .unset, .unset, .unset, .unset, .unset] [(.ref b83), (.ref b83)])) _
        refine Own.go (fun t k => XS.aload X83.here hx rfl (hb hby at_95) rfl rfl k) ?_
        show Own.Fin p e below (T83.setTop (mkF m 97 #[.val (.int p1), .val (.int p2), .val (.int p3), .val (.int p4), .val (.int p5), .val (.int (0 : Int32)), .val (.int (1 : Int32)), .val (.int (0 : Int32)), .val (.int (((p2 &&& (255 : Int32))).toUInt32.toUInt16.toUInt32.toInt32)), .val (.int (((p3 &&& (255 : Int32))).toUInt32.toUInt16.toUInt32.toInt32)), .val (.ref b79), .val (.ref b81), .val (.int p3), .unset, .unset, .unset, .unset, .unset, .unset] [(.ref b79), (.ref b83), (.ref b83)])) _
        refine Own.go (fun t k => XS.aconstNull X83.here hx rfl (hb hby at_97) k) ?_
        show Own.Fin p e below (T83.setTop (mkF m 98 #[.val (.int p1), .val (.int p2), .val (.int p3), .val (.int p4), .val (.int p5), .val (.int (0 : Int32)), .val (.int (1 : Int32)), .val (.int (0 : Int32)), .val (.int (((p2 &&& (255 : Int32))).toUInt32.toUInt16.toUInt32.toInt32)), .val (.int (((p3 &&& (255 : Int32))).toUInt32.toUInt16.toUInt32.toInt32)), .val (.ref b79), .val (.ref b81), .val (.int p3), .unset, .unset, .unset, .unset, .unset, .unset] [.null, (.ref b79), (.ref b83), (.ref b83)])) _
        refine Own.go (fun t k => XS.aload X83.here hx rfl (hb hby at_98) rfl rfl k) ?_
        show Own.Fin p e below (T83.setTop (mkF m 100 #[.val (.int p1), .val (.int p2), .val (.int p3), .val (.int p4), .val (.int p5), .val (.int (0 : Int32)), .val (.int (1 : Int32)), .val (.int (0 : Int32)), .val (.int (((p2 &&& (255 : Int32))).toUInt32.toUInt16.toUInt32.toInt32)), .val (.int (((p3 &&& (255 : Int32))).toUInt32.toUInt16.toUInt32.toInt32)), .val (.ref b79), .val (.ref b81), .val (.int p3), .unset, .unset, .unset, .unset, .unset, .unset] [(.ref b79), .null, (.ref b79), (.ref b83), (.ref b83)])) _
        refine Own.go (fun t k => XS.aconstNull X83.here hx rfl (hb hby at_100) k) ?_
        show Own.Fin p e below (T83.setTop (mkF m 101 #[.val (.int p1), .val (.int p2), .val (.int p3), .val (.int p4), .val (.int p5), .val (.int (0 : Int32)), .val (.int (1 : Int32)), .val (.int (0 : Int32)), .val (.int (((p2 &&& (255 : Int32))).toUInt32.toUInt16.toUInt32.toInt32)), .val (.int (((p3 &&& (255 : Int32))).toUInt32.toUInt16.toUInt32.toInt32)), .val (.ref b79), .val (.ref b81), .val (.int p3), .unset, .unset, .unset, .unset, .unset, .unset] [.null, (.ref b79), .null, (.ref b79), (.ref b83), (.ref b83)])) _
        refine Own.go (fun t k => XS.iloadN X83.here hx rfl (hb hby at_101) rfl k) ?_
        show Own.Fin p e below (T83.setTop (mkF m 102 #[.val (.int p1), .val (.int p2), .val (.int p3), .val (.int p4), .val (.int p5), .val (.int (0 : Int32)), .val (.int (1 : Int32)), .val (.int (0 : Int32)), .val (.int (((p2 &&& (255 : Int32))).toUInt32.toUInt16.toUInt32.toInt32)), .val (.int (((p3 &&& (255 : Int32))).toUInt32.toUInt16.toUInt32.toInt32)), .val (.ref b79), .val (.ref b81), .val (.int p3), .unset, .unset, .unset, .unset, .unset, .unset] [(.int p4), .null, (.ref b79), .null, (.ref b79), (.ref b83), (.ref b83)])) _
        refine Own.cI X83 hx hZ rfl hown (hw _ (List.mem_of_getElem? (i := 29) rfl)) (hw _ (List.mem_of_getElem? (i := 30) rfl)) (hw _ (List.mem_of_getElem? (i := 28) rfl)) (hw _ (List.mem_of_getElem? (i := 31) rfl)) (by decide) (rm6 l Z a0 hw [] b83 b79 b79 p4 h83 n0 Z83 A83 fl84 fl85 fl86 fl87 fl88 ge83) (by decide) (W := 1) (by decide) (argsL := [(.ref b79), .null, (.ref b79), .null, (.int p4)]) (rest := [(.ref b83)]) (by rw [hml]; rfl) (lenOf pd_4 rfl) rfl (Nat.le_of_eq rfl) (hb hby at_102) e83 (by decide) (by decide) ?_
        intro T89 L89 v89 X89 hQ89
        obtain ⟨rfl, N89q, K89q⟩ := hQ89
        have N89 := Fr.app N81 N89q
        have f90 := A83.keep K89q
        have Z89 : n0 ≤ T89.heap.size := Nat.le_trans Z83 K89q.1
        have O89 := O83.keep K89q (allS ge83 all0)
        show Own.Fin p e below (T89.setTop (mkF m 105 #[.val (.int p1), .val (.int p2), .val (.int p3), .val (.int p4), .val (.int p5), .val (.int (0 : Int32)), .val (.int (1 : Int32)), .val (.int (0 : Int32)), .val (.int (((p2 &&& (255 : Int32))).toUInt32.toUInt16.toUInt32.toInt32)), .val (.int (((p3 &&& (255 : Int32))).toUInt32.toUInt16.toUInt32.toInt32)), .val (.ref b79), .val (.ref b81), .val (.int p3), .unset, .unset, .unset, .unset, .unset, .unset] [(.ref b83)])) _
        refine Own.go (fun t k => XS.astore X89.here hx rfl (hb hby at_105) rfl rfl (l' := #[.val (.int p1), .val (.int p2), .val (.int p3), .val (.int p4), .val (.int p5), .val (.int (0 : Int32)), .val (.int (1 : Int32)), .val (.int (0 : Int32)), .val (.int (((p2 &&& (255 : Int32))).toUInt32.toUInt16.toUInt32.toInt32)), .val (.int (((p3 &&& (255 : Int32))).toUInt32.toUInt16.toUInt32.toInt32)), .val (.ref b79), .val (.ref b81), .val (.int p3), .val (.ref b83), .unset, .unset, .unset, .unset, .unset]) rfl k) ?_
        show Own.Fin p e below (T89.setTop (mkF m 107 #[.val (.int p1), .val (.int p2), .val (.int p3), .val (.int p4), .val (.int p5), .val (.int (0 : Int32)), .val (.int (1 : Int32)), .val (.int (0 : Int32)), .val (.int (((p2 &&& (255 : Int32))).toUInt32.toUInt16.toUInt32.toInt32)), .val (.int (((p3 &&& (255 : Int32))).toUInt32.toUInt16.toUInt32.toInt32)), .val (.ref b79), .val (.ref b81), .val (.int p3), .val (.ref b83), .unset, .unset, .unset, .unset, .unset] [])) _
        obtain ⟨T91, h91, X91, e91, E91, A91, D91, -, st91⟩ := newO X89 hx hZ hown (hw _ (List.mem_of_getElem? (i := 26) rfl)) (hw _ (List.mem_of_getElem? (i := 27) rfl)) (hw _ (List.mem_of_getElem? (i := 28) rfl)) rfl (g := (mkF m 107 #[.val (.int p1), .val (.int p2), .val (.int p3), .val (.int p4), .val (.int p5), .val (.int (0 : Int32)), .val (.int (1 : Int32)), .val (.int (0 : Int32)), .val (.int (((p2 &&& (255 : Int32))).toUInt32.toUInt16.toUInt32.toInt32)), .val (.int (((p3 &&& (255 : Int32))).toUInt32.toUInt16.toUInt32.toInt32)), .val (.ref b79), .val (.ref b81), .val (.int p3), .val (.ref b83), .unset, .unset, .unset, .unset, .unset] [])) rfl (hb hby at_107) (by decide) (by decide)
        obtain ⟨b91, gb91⟩ : ∃ z, z = T89.heap.size := ⟨_, rfl⟩
        rw [← gb91] at A91 D91 st91
        refine Own.go st91 ?_
        have ge91 : n0 ≤ b91 := by rw [gb91]; exact Z89
        have ne91_b83 : b83 ≠ b91 := Nat.ne_of_lt (Nat.lt_of_lt_of_le f90.lt (Nat.le_of_eq gb91.symm))
        have Z91 : n0 ≤ h91.size := Nat.le_trans Z89 E91.1
        have f92 := f90.ext E91
        have O91 := O89.ext E91
        have fl93 : Fld Z h91 b91 "com/example/arachne/arachne/Node" "id" "Ljava/lang/String;" .null := D91 (Or.inr (hw _ (List.mem_of_getElem? (i := 34) rfl))) (ty := (.object "java/lang/String")) (by decide)
        have fl94 : Fld Z h91 b91 "com/example/arachne/arachne/Node" "size" "Lcom/example/arachne/arachne/NodeSize;" .null := D91 (Or.inr (hw _ (List.mem_of_getElem? (i := 36) rfl))) (ty := (.object "com/example/arachne/arachne/NodeSize")) (by decide)
        have fl95 : Fld Z h91 b91 "com/example/arachne/arachne/Node" "label" "Ljava/lang/String;" .null := D91 (Or.inr (hw _ (List.mem_of_getElem? (i := 38) rfl))) (ty := (.object "java/lang/String")) (by decide)
        have fl96 : Fld Z h91 b91 "com/example/arachne/arachne/Node" "pin" "Lcom/example/arachne/arachne/Point;" .null := D91 (Or.inr (hw _ (List.mem_of_getElem? (i := 40) rfl))) (ty := (.object "com/example/arachne/arachne/Point")) (by decide)
        have fl97 : Fld Z h91 b91 "com/example/arachne/arachne/Node" "index" "I" (.int (0 : Int32)) := D91 (Or.inr (hw _ (List.mem_of_getElem? (i := 42) rfl))) (ty := .int) (by decide)
        show Own.Fin p e below (T91.setTop (mkF m 110 #[.val (.int p1), .val (.int p2), .val (.int p3), .val (.int p4), .val (.int p5), .val (.int (0 : Int32)), .val (.int (1 : Int32)), .val (.int (0 : Int32)), .val (.int (((p2 &&& (255 : Int32))).toUInt32.toUInt16.toUInt32.toInt32)), .val (.int (((p3 &&& (255 : Int32))).toUInt32.toUInt16.toUInt32.toInt32)), .val (.ref b79), .val (.ref b81), .val (.int p3), .val (.ref b83), .unset, .unset, .unset, .unset, .unset] [(.ref b91)])) _
        refine Own.go (fun t k => XS.dup X91.here hx rfl (hb hby at_110) rfl rfl k) ?_
        show Own.Fin p e below (T91.setTop (mkF m 111 #[.val (.int p1), .val (.int p2), .val (.int p3), .val (.int p4), .val (.int p5), .val (.int (0 : Int32)), .val (.int (1 : Int32)), .val (.int (0 : Int32)), .val (.int (((p2 &&& (255 : Int32))).toUInt32.toUInt16.toUInt32.toInt32)), .val (.int (((p3 &&& (255 : Int32))).toUInt32.toUInt16.toUInt32.toInt32)), .val (.ref b79), .val (.ref b81), .val (.int p3), .val (.ref b83), .unset, .unset, .unset, .unset, .unset] [(.ref b91), (.ref b91)])) _
        refine Own.go (fun t k => XS.aload X91.here hx rfl (hb hby at_111) rfl rfl k) ?_
        show Own.Fin p e below (T91.setTop (mkF m 113 #[.val (.int p1), .val (.int p2), .val (.int p3), .val (.int p4), .val (.int p5), .val (.int (0 : Int32)), .val (.int (1 : Int32)), .val (.int (0 : Int32)), .val (.int (((p2 &&& (255 : Int32))).toUInt32.toUInt16.toUInt32.toInt32)), .val (.int (((p3 &&& (255 : Int32))).toUInt32.toUInt16.toUInt32.toInt32)), .val (.ref b79), .val (.ref b81), .val (.int p3), .val (.ref b83), .unset, .unset, .unset, .unset, .unset] [(.ref b81), (.ref b91), (.ref b91)])) _
        refine Own.go (fun t k => XS.aconstNull X91.here hx rfl (hb hby at_113) k) ?_
        show Own.Fin p e below (T91.setTop (mkF m 114 #[.val (.int p1), .val (.int p2), .val (.int p3), .val (.int p4), .val (.int p5), .val (.int (0 : Int32)), .val (.int (1 : Int32)), .val (.int (0 : Int32)), .val (.int (((p2 &&& (255 : Int32))).toUInt32.toUInt16.toUInt32.toInt32)), .val (.int (((p3 &&& (255 : Int32))).toUInt32.toUInt16.toUInt32.toInt32)), .val (.ref b79), .val (.ref b81), .val (.int p3), .val (.ref b83), .unset, .unset, .unset, .unset, .unset] [.null, (.ref b81), (.ref b91), (.ref b91)])) _
        refine Own.go (fun t k => XS.aload X91.here hx rfl (hb hby at_114) rfl rfl k) ?_
        show Own.Fin p e below (T91.setTop (mkF m 116 #[.val (.int p1), .val (.int p2), .val (.int p3), .val (.int p4), .val (.int p5), .val (.int (0 : Int32)), .val (.int (1 : Int32)), .val (.int (0 : Int32)), .val (.int (((p2 &&& (255 : Int32))).toUInt32.toUInt16.toUInt32.toInt32)), .val (.int (((p3 &&& (255 : Int32))).toUInt32.toUInt16.toUInt32.toInt32)), .val (.ref b79), .val (.ref b81), .val (.int p3), .val (.ref b83), .unset, .unset, .unset, .unset, .unset] [(.ref b81), .null, (.ref b81), (.ref b91), (.ref b91)])) _
        refine Own.go (fun t k => XS.aconstNull X91.here hx rfl (hb hby at_116) k) ?_
        show Own.Fin p e below (T91.setTop (mkF m 117 #[.val (.int p1), .val (.int p2), .val (.int p3), .val (.int p4), .val (.int p5), .val (.int (0 : Int32)), .val (.int (1 : Int32)), .val (.int (0 : Int32)), .val (.int (((p2 &&& (255 : Int32))).toUInt32.toUInt16.toUInt32.toInt32)), .val (.int (((p3 &&& (255 : Int32))).toUInt32.toUInt16.toUInt32.toInt32)), .val (.ref b79), .val (.ref b81), .val (.int p3), .val (.ref b83), .unset, .unset, .unset, .unset, .unset] [.null, (.ref b81), .null, (.ref b81), (.ref b91), (.ref b91)])) _
        refine Own.go (fun t k => XS.iload X91.here hx rfl (hb hby at_117) rfl k) ?_
        show Own.Fin p e below (T91.setTop (mkF m 119 #[.val (.int p1), .val (.int p2), .val (.int p3), .val (.int p4), .val (.int p5), .val (.int (0 : Int32)), .val (.int (1 : Int32)), .val (.int (0 : Int32)), .val (.int (((p2 &&& (255 : Int32))).toUInt32.toUInt16.toUInt32.toInt32)), .val (.int (((p3 &&& (255 : Int32))).toUInt32.toUInt16.toUInt32.toInt32)), .val (.ref b79), .val (.ref b81), .val (.int p3), .val (.ref b83), .unset, .unset, .unset, .unset, .unset] [(.int p3), .null, (.ref b81), .null, (.ref b81), (.ref b91), (.ref b91)])) _
        refine Own.cI X91 hx hZ rfl hown (hw _ (List.mem_of_getElem? (i := 29) rfl)) (hw _ (List.mem_of_getElem? (i := 30) rfl)) (hw _ (List.mem_of_getElem? (i := 28) rfl)) (hw _ (List.mem_of_getElem? (i := 31) rfl)) (by decide) (rm6 l Z a0 hw [] b91 b81 b81 p3 h91 n0 Z91 A91 fl93 fl94 fl95 fl96 fl97 ge91) (by decide) (W := 1) (by decide) (argsL := [(.ref b81), .null, (.ref b81), .null, (.int p3)]) (rest := [(.ref b91)]) (by rw [hml]; rfl) (lenOf pd_4 rfl) rfl (Nat.le_of_eq rfl) (hb hby at_119) e91 (by decide) (by decide) ?_
        intro T98 L98 v98 X98 hQ98
        obtain ⟨rfl, N98q, K98q⟩ := hQ98
        have N98 := Fr.app N89 N98q
        have f99 := f92.keep K98q
        have f100 := A91.keep K98q
        have Z98 : n0 ≤ T98.heap.size := Nat.le_trans Z91 K98q.1
        have O98 := O91.keep K98q (allS ge91 all0)
        show Own.Fin p e below (T98.setTop (mkF m 122 #[.val (.int p1), .val (.int p2), .val (.int p3), .val (.int p4), .val (.int p5), .val (.int (0 : Int32)), .val (.int (1 : Int32)), .val (.int (0 : Int32)), .val (.int (((p2 &&& (255 : Int32))).toUInt32.toUInt16.toUInt32.toInt32)), .val (.int (((p3 &&& (255 : Int32))).toUInt32.toUInt16.toUInt32.toInt32)), .val (.ref b79), .val (.ref b81), .val (.int p3), .val (.ref b83), .unset, .unset, .unset, .unset, .unset] [(.ref b91)])) _
        refine Own.go (fun t k => XS.astore X98.here hx rfl (hb hby at_122) rfl rfl (l' := #[.val (.int p1), .val (.int p2), .val (.int p3), .val (.int p4), .val (.int p5), .val (.int (0 : Int32)), .val (.int (1 : Int32)), .val (.int (0 : Int32)), .val (.int (((p2 &&& (255 : Int32))).toUInt32.toUInt16.toUInt32.toInt32)), .val (.int (((p3 &&& (255 : Int32))).toUInt32.toUInt16.toUInt32.toInt32)), .val (.ref b79), .val (.ref b81), .val (.int p3), .val (.ref b83), .val (.ref b91), .unset, .unset, .unset, .unset]) rfl k) ?_
        show Own.Fin p e below (T98.setTop (mkF m 124 #[.val (.int p1), .val (.int p2), .val (.int p3), .val (.int p4), .val (.int p5), .val (.int (0 : Int32)), .val (.int (1 : Int32)), .val (.int (0 : Int32)), .val (.int (((p2 &&& (255 : Int32))).toUInt32.toUInt16.toUInt32.toInt32)), .val (.int (((p3 &&& (255 : Int32))).toUInt32.toUInt16.toUInt32.toInt32)), .val (.ref b79), .val (.ref b81), .val (.int p3), .val (.ref b83), .val (.ref b91), .unset, .unset, .unset, .unset] [])) _
        refine Own.go (fun t k => XS.iload X98.here hx rfl (hb hby at_124) rfl k) ?_
        show Own.Fin p e below (T98.setTop (mkF m 126 #[.val (.int p1), .val (.int p2), .val (.int p3), .val (.int p4), .val (.int p5), .val (.int (0 : Int32)), .val (.int (1 : Int32)), .val (.int (0 : Int32)), .val (.int (((p2 &&& (255 : Int32))).toUInt32.toUInt16.toUInt32.toInt32)), .val (.int (((p3 &&& (255 : Int32))).toUInt32.toUInt16.toUInt32.toInt32)), .val (.ref b79), .val (.ref b81), .val (.int p3), .val (.ref b83), .val (.ref b91), .unset, .unset, .unset, .unset] [(.int (1 : Int32))])) _
        have hc126_100 : ¬ ((1 : Int32) = (0 : Int32)) := by decide
        refine Own.go (fun t k => XS.ifNo X98.here hx rfl (hb hby at_126) rfl ((if0 _ _).trans (feq hc126_100).1) k) ?_
        show Own.Fin p e below (T98.setTop (mkF m 129 #[.val (.int p1), .val (.int p2), .val (.int p3), .val (.int p4), .val (.int p5), .val (.int (0 : Int32)), .val (.int (1 : Int32)), .val (.int (0 : Int32)), .val (.int (((p2 &&& (255 : Int32))).toUInt32.toUInt16.toUInt32.toInt32)), .val (.int (((p3 &&& (255 : Int32))).toUInt32.toUInt16.toUInt32.toInt32)), .val (.ref b79), .val (.ref b81), .val (.int p3), .val (.ref b83), .val (.ref b91), .unset, .unset, .unset, .unset] [])) _
        refine Own.go (fun t k => XS.aload X98.here hx rfl (hb hby at_129) rfl rfl k) ?_
        show Own.Fin p e below (T98.setTop (mkF m 131 #[.val (.int p1), .val (.int p2), .val (.int p3), .val (.int p4), .val (.int p5), .val (.int (0 : Int32)), .val (.int (1 : Int32)), .val (.int (0 : Int32)), .val (.int (((p2 &&& (255 : Int32))).toUInt32.toUInt16.toUInt32.toInt32)), .val (.int (((p3 &&& (255 : Int32))).toUInt32.toUInt16.toUInt32.toInt32)), .val (.ref b79), .val (.ref b81), .val (.int p3), .val (.ref b83), .val (.ref b91), .unset, .unset, .unset, .unset] [(.ref b91)])) _
        refine Own.go (fun t k => XS.goto X98.here hx rfl (pc0 := 131) (pc' := 136) rfl (hb hby at_131) (by decide) (by decide) k) ?_
        show Own.Fin p e below (T98.setTop (mkF m 136 #[.val (.int p1), .val (.int p2), .val (.int p3), .val (.int p4), .val (.int p5), .val (.int (0 : Int32)), .val (.int (1 : Int32)), .val (.int (0 : Int32)), .val (.int (((p2 &&& (255 : Int32))).toUInt32.toUInt16.toUInt32.toInt32)), .val (.int (((p3 &&& (255 : Int32))).toUInt32.toUInt16.toUInt32.toInt32)), .val (.ref b79), .val (.ref b81), .val (.int p3), .val (.ref b83), .val (.ref b91), .unset, .unset, .unset, .unset] [(.ref b91)])) _
        refine Own.go (fun t k => XS.astore X98.here hx rfl (hb hby at_136) rfl rfl (l' := #[.val (.int p1), .val (.int p2), .val (.int p3), .val (.int p4), .val (.int p5), .val (.int (0 : Int32)), .val (.int (1 : Int32)), .val (.int (0 : Int32)), .val (.int (((p2 &&& (255 : Int32))).toUInt32.toUInt16.toUInt32.toInt32)), .val (.int (((p3 &&& (255 : Int32))).toUInt32.toUInt16.toUInt32.toInt32)), .val (.ref b79), .val (.ref b81), .val (.int p3), .val (.ref b83), .val (.ref b91), .val (.ref b91), .unset, .unset, .unset]) rfl k) ?_
        show Own.Fin p e below (T98.setTop (mkF m 138 #[.val (.int p1), .val (.int p2), .val (.int p3), .val (.int p4), .val (.int p5), .val (.int (0 : Int32)), .val (.int (1 : Int32)), .val (.int (0 : Int32)), .val (.int (((p2 &&& (255 : Int32))).toUInt32.toUInt16.toUInt32.toInt32)), .val (.int (((p3 &&& (255 : Int32))).toUInt32.toUInt16.toUInt32.toInt32)), .val (.ref b79), .val (.ref b81), .val (.int p3), .val (.ref b83), .val (.ref b91), .val (.ref b91), .unset, .unset, .unset] [])) _
        refine Own.go (fun t k => XS.iload X98.here hx rfl (hb hby at_138) rfl k) ?_
        show Own.Fin p e below (T98.setTop (mkF m 140 #[.val (.int p1), .val (.int p2), .val (.int p3), .val (.int p4), .val (.int p5), .val (.int (0 : Int32)), .val (.int (1 : Int32)), .val (.int (0 : Int32)), .val (.int (((p2 &&& (255 : Int32))).toUInt32.toUInt16.toUInt32.toInt32)), .val (.int (((p3 &&& (255 : Int32))).toUInt32.toUInt16.toUInt32.toInt32)), .val (.ref b79), .val (.ref b81), .val (.int p3), .val (.ref b83), .val (.ref b91), .val (.ref b91), .unset, .unset, .unset] [(.int (0 : Int32))])) _
        have hc140_101 : (0 : Int32) = (0 : Int32) := by decide
        refine Own.go (fun t k => XS.ifYes X98.here hx rfl (pc0 := 140) (pc' := 148) rfl (hb hby at_140) rfl ((if0 _ _).trans (teq hc140_101).1) (by decide) (by decide) k) ?_
        show Own.Fin p e below (T98.setTop (mkF m 148 #[.val (.int p1), .val (.int p2), .val (.int p3), .val (.int p4), .val (.int p5), .val (.int (0 : Int32)), .val (.int (1 : Int32)), .val (.int (0 : Int32)), .val (.int (((p2 &&& (255 : Int32))).toUInt32.toUInt16.toUInt32.toInt32)), .val (.int (((p3 &&& (255 : Int32))).toUInt32.toUInt16.toUInt32.toInt32)), .val (.ref b79), .val (.ref b81), .val (.int p3), .val (.ref b83), .val (.ref b91), .val (.ref b91), .unset, .unset, .unset] [])) _
        refine Own.go (fun t k => XS.aload X98.here hx rfl (hb hby at_148) rfl rfl k) ?_
        show Own.Fin p e below (T98.setTop (mkF m 150 #[.val (.int p1), .val (.int p2), .val (.int p3), .val (.int p4), .val (.int p5), .val (.int (0 : Int32)), .val (.int (1 : Int32)), .val (.int (0 : Int32)), .val (.int (((p2 &&& (255 : Int32))).toUInt32.toUInt16.toUInt32.toInt32)), .val (.int (((p3 &&& (255 : Int32))).toUInt32.toUInt16.toUInt32.toInt32)), .val (.ref b79), .val (.ref b81), .val (.int p3), .val (.ref b83), .val (.ref b91), .val (.ref b91), .unset, .unset, .unset] [(.ref b83)])) _
        refine Own.go (fun t k => XS.astore X98.here hx rfl (hb hby at_150) rfl rfl (l' := #[.val (.int p1), .val (.int p2), .val (.int p3), .val (.int p4), .val (.int p5), .val (.int (0 : Int32)), .val (.int (1 : Int32)), .val (.int (0 : Int32)), .val (.int (((p2 &&& (255 : Int32))).toUInt32.toUInt16.toUInt32.toInt32)), .val (.int (((p3 &&& (255 : Int32))).toUInt32.toUInt16.toUInt32.toInt32)), .val (.ref b79), .val (.ref b81), .val (.int p3), .val (.ref b83), .val (.ref b91), .val (.ref b91), .val (.ref b83), .unset, .unset]) rfl k) ?_
        show Own.Fin p e below (T98.setTop (mkF m 152 #[.val (.int p1), .val (.int p2), .val (.int p3), .val (.int p4), .val (.int p5), .val (.int (0 : Int32)), .val (.int (1 : Int32)), .val (.int (0 : Int32)), .val (.int (((p2 &&& (255 : Int32))).toUInt32.toUInt16.toUInt32.toInt32)), .val (.int (((p3 &&& (255 : Int32))).toUInt32.toUInt16.toUInt32.toInt32)), .val (.ref b79), .val (.ref b81), .val (.int p3), .val (.ref b83), .val (.ref b91), .val (.ref b91), .val (.ref b83), .unset, .unset] [])) _
        obtain ⟨T103, h103, X103, e103, E103, A103, D103, -, st103⟩ := newO X98 hx hZ hown (hw _ (List.mem_of_getElem? (i := 43) rfl)) (hw _ (List.mem_of_getElem? (i := 44) rfl)) (hw _ (List.mem_of_getElem? (i := 45) rfl)) rfl (g := (mkF m 152 #[.val (.int p1), .val (.int p2), .val (.int p3), .val (.int p4), .val (.int p5), .val (.int (0 : Int32)), .val (.int (1 : Int32)), .val (.int (0 : Int32)), .val (.int (((p2 &&& (255 : Int32))).toUInt32.toUInt16.toUInt32.toInt32)), .val (.int (((p3 &&& (255 : Int32))).toUInt32.toUInt16.toUInt32.toInt32)), .val (.ref b79), .val (.ref b81), .val (.int p3), .val (.ref b83), .val (.ref b91), .val (.ref b91), .val (.ref b83), .unset, .unset] [])) rfl (hb hby at_152) (by decide) (by decide)
        obtain ⟨b103, gb103⟩ : ∃ z, z = T98.heap.size := ⟨_, rfl⟩
        rw [← gb103] at A103 D103 st103
        refine Own.go st103 ?_
        have ge103 : n0 ≤ b103 := by rw [gb103]; exact Z98
        have ne103_b83 : b83 ≠ b103 := Nat.ne_of_lt (Nat.lt_of_lt_of_le f99.lt (Nat.le_of_eq gb103.symm))
        have ne103_b91 : b91 ≠ b103 := Nat.ne_of_lt (Nat.lt_of_lt_of_le f100.lt (Nat.le_of_eq gb103.symm))
        have Z103 : n0 ≤ h103.size := Nat.le_trans Z98 E103.1
        have f104 := f99.ext E103
        have f105 := f100.ext E103
        have O103 := O98.ext E103
        have fl106 : Fld Z h103 b103 "com/example/arachne/arachne/Edge" "source" "Lcom/example/arachne/arachne/Node;" .null := D103 (Or.inr (hw _ (List.mem_of_getElem? (i := 51) rfl))) (ty := (.object "com/example/arachne/arachne/Node")) (by decide)
        have fl107 : Fld Z h103 b103 "com/example/arachne/arachne/Edge" "target" "Lcom/example/arachne/arachne/Node;" .null := D103 (Or.inr (hw _ (List.mem_of_getElem? (i := 53) rfl))) (ty := (.object "com/example/arachne/arachne/Node")) (by decide)
        have fl108 : Fld Z h103 b103 "com/example/arachne/arachne/Edge" "index" "I" (.int (0 : Int32)) := D103 (Or.inr (hw _ (List.mem_of_getElem? (i := 55) rfl))) (ty := .int) (by decide)
        show Own.Fin p e below (T103.setTop (mkF m 155 #[.val (.int p1), .val (.int p2), .val (.int p3), .val (.int p4), .val (.int p5), .val (.int (0 : Int32)), .val (.int (1 : Int32)), .val (.int (0 : Int32)), .val (.int (((p2 &&& (255 : Int32))).toUInt32.toUInt16.toUInt32.toInt32)), .val (.int (((p3 &&& (255 : Int32))).toUInt32.toUInt16.toUInt32.toInt32)), .val (.ref b79), .val (.ref b81), .val (.int p3), .val (.ref b83), .val (.ref b91), .val (.ref b91), .val (.ref b83), .unset, .unset] [(.ref b103)])) _
        refine Own.go (fun t k => XS.dup X103.here hx rfl (hb hby at_155) rfl rfl k) ?_
        show Own.Fin p e below (T103.setTop (mkF m 156 #[.val (.int p1), .val (.int p2), .val (.int p3), .val (.int p4), .val (.int p5), .val (.int (0 : Int32)), .val (.int (1 : Int32)), .val (.int (0 : Int32)), .val (.int (((p2 &&& (255 : Int32))).toUInt32.toUInt16.toUInt32.toInt32)), .val (.int (((p3 &&& (255 : Int32))).toUInt32.toUInt16.toUInt32.toInt32)), .val (.ref b79), .val (.ref b81), .val (.int p3), .val (.ref b83), .val (.ref b91), .val (.ref b91), .val (.ref b83), .unset, .unset] [(.ref b103), (.ref b103)])) _
        refine Own.go (fun t k => XS.aload X103.here hx rfl (hb hby at_156) rfl rfl k) ?_
        show Own.Fin p e below (T103.setTop (mkF m 158 #[.val (.int p1), .val (.int p2), .val (.int p3), .val (.int p4), .val (.int p5), .val (.int (0 : Int32)), .val (.int (1 : Int32)), .val (.int (0 : Int32)), .val (.int (((p2 &&& (255 : Int32))).toUInt32.toUInt16.toUInt32.toInt32)), .val (.int (((p3 &&& (255 : Int32))).toUInt32.toUInt16.toUInt32.toInt32)), .val (.ref b79), .val (.ref b81), .val (.int p3), .val (.ref b83), .val (.ref b91), .val (.ref b91), .val (.ref b83), .unset, .unset] [(.ref b91), (.ref b103), (.ref b103)])) _
        refine Own.go (fun t k => XS.aload X103.here hx rfl (hb hby at_158) rfl rfl k) ?_
        show Own.Fin p e below (T103.setTop (mkF m 160 #[.val (.int p1), .val (.int p2), .val (.int p3), .val (.int p4), .val (.int p5), .val (.int (0 : Int32)), .val (.int (1 : Int32)), .val (.int (0 : Int32)), .val (.int (((p2 &&& (255 : Int32))).toUInt32.toUInt16.toUInt32.toInt32)), .val (.int (((p3 &&& (255 : Int32))).toUInt32.toUInt16.toUInt32.toInt32)), .val (.ref b79), .val (.ref b81), .val (.int p3), .val (.ref b83), .val (.ref b91), .val (.ref b91), .val (.ref b83), .unset, .unset] [(.ref b83), (.ref b91), (.ref b103), (.ref b103)])) _
        refine Own.go (fun t k => XS.iload X103.here hx rfl (hb hby at_160) rfl k) ?_
        show Own.Fin p e below (T103.setTop (mkF m 162 #[.val (.int p1), .val (.int p2), .val (.int p3), .val (.int p4), .val (.int p5), .val (.int (0 : Int32)), .val (.int (1 : Int32)), .val (.int (0 : Int32)), .val (.int (((p2 &&& (255 : Int32))).toUInt32.toUInt16.toUInt32.toInt32)), .val (.int (((p3 &&& (255 : Int32))).toUInt32.toUInt16.toUInt32.toInt32)), .val (.ref b79), .val (.ref b81), .val (.int p3), .val (.ref b83), .val (.ref b91), .val (.ref b91), .val (.ref b83), .unset, .unset] [(.int p5), (.ref b83), (.ref b91), (.ref b103), (.ref b103)])) _
        refine Own.cI X103 hx hZ rfl hown (hw _ (List.mem_of_getElem? (i := 46) rfl)) (hw _ (List.mem_of_getElem? (i := 47) rfl)) (hw _ (List.mem_of_getElem? (i := 45) rfl)) (hw _ (List.mem_of_getElem? (i := 48) rfl)) (by decide) (rm7 l Z a0 hw [] b103 b91 b83 p5 h103 n0 Z103 A103 fl106 fl107 fl108 ge103) (by decide) (W := 1) (by decide) (argsL := [(.ref b91), (.ref b83), (.int p5)]) (rest := [(.ref b103)]) (by rw [hml]; rfl) (lenOf pd_5 rfl) rfl (Nat.le_of_eq rfl) (hb hby at_162) e103 (by decide) (by decide) ?_
        intro T109 L109 v109 X109 hQ109
        obtain ⟨rfl, N109q, K109q, FS109, FT109⟩ := hQ109
        have N109 := Fr.app N98 N109q
        have f110 := f104.keep K109q
        have f111 := f105.keep K109q
        have f112 := A103.keep K109q
        have Z109 : n0 ≤ T109.heap.size := Nat.le_trans Z103 K109q.1
        have O109 := O103.keep K109q (allS ge103 all0)
        show Own.Fin p e below (T109.setTop (mkF m 165 #[.val (.int p1), .val (.int p2), .val (.int p3), .val (.int p4), .val (.int p5), .val (.int (0 : Int32)), .val (.int (1 : Int32)), .val (.int (0 : Int32)), .val (.int (((p2 &&& (255 : Int32))).toUInt32.toUInt16.toUInt32.toInt32)), .val (.int (((p3 &&& (255 : Int32))).toUInt32.toUInt16.toUInt32.toInt32)), .val (.ref b79), .val (.ref b81), .val (.int p3), .val (.ref b83), .val (.ref b91), .val (.ref b91), .val (.ref b83), .unset, .unset] [(.ref b103)])) _
        refine Own.go (fun t k => XS.astore X109.here hx rfl (hb hby at_165) rfl rfl (l' := #[.val (.int p1), .val (.int p2), .val (.int p3), .val (.int p4), .val (.int p5), .val (.int (0 : Int32)), .val (.int (1 : Int32)), .val (.int (0 : Int32)), .val (.int (((p2 &&& (255 : Int32))).toUInt32.toUInt16.toUInt32.toInt32)), .val (.int (((p3 &&& (255 : Int32))).toUInt32.toUInt16.toUInt32.toInt32)), .val (.ref b79), .val (.ref b81), .val (.int p3), .val (.ref b83), .val (.ref b91), .val (.ref b91), .val (.ref b83), .val (.ref b103), .unset]) rfl k) ?_
        show Own.Fin p e below (T109.setTop (mkF m 167 #[.val (.int p1), .val (.int p2), .val (.int p3), .val (.int p4), .val (.int p5), .val (.int (0 : Int32)), .val (.int (1 : Int32)), .val (.int (0 : Int32)), .val (.int (((p2 &&& (255 : Int32))).toUInt32.toUInt16.toUInt32.toInt32)), .val (.int (((p3 &&& (255 : Int32))).toUInt32.toUInt16.toUInt32.toInt32)), .val (.ref b79), .val (.ref b81), .val (.int p3), .val (.ref b83), .val (.ref b91), .val (.ref b91), .val (.ref b83), .val (.ref b103), .unset] [])) _
        refine Own.go (fun t k => XS.iload X109.here hx rfl (hb hby at_167) rfl k) ?_
        show Own.Fin p e below (T109.setTop (mkF m 169 #[.val (.int p1), .val (.int p2), .val (.int p3), .val (.int p4), .val (.int p5), .val (.int (0 : Int32)), .val (.int (1 : Int32)), .val (.int (0 : Int32)), .val (.int (((p2 &&& (255 : Int32))).toUInt32.toUInt16.toUInt32.toInt32)), .val (.int (((p3 &&& (255 : Int32))).toUInt32.toUInt16.toUInt32.toInt32)), .val (.ref b79), .val (.ref b81), .val (.int p3), .val (.ref b83), .val (.ref b91), .val (.ref b91), .val (.ref b83), .val (.ref b103), .unset] [(.int (1 : Int32))])) _
        refine Own.go (fun t k => XS.iload X109.here hx rfl (hb hby at_169) rfl k) ?_
        show Own.Fin p e below (T109.setTop (mkF m 171 #[.val (.int p1), .val (.int p2), .val (.int p3), .val (.int p4), .val (.int p5), .val (.int (0 : Int32)), .val (.int (1 : Int32)), .val (.int (0 : Int32)), .val (.int (((p2 &&& (255 : Int32))).toUInt32.toUInt16.toUInt32.toInt32)), .val (.int (((p3 &&& (255 : Int32))).toUInt32.toUInt16.toUInt32.toInt32)), .val (.ref b79), .val (.ref b81), .val (.int p3), .val (.ref b83), .val (.ref b91), .val (.ref b91), .val (.ref b83), .val (.ref b103), .unset] [(.int (0 : Int32)), (.int (1 : Int32))])) _
        have hc171_112 : ¬ ((1 : Int32) = (0 : Int32)) := by decide
        refine Own.go (fun t k => XS.icmpYes X109.here hx rfl (pc0 := 171) (pc' := 178) rfl (hb hby at_171) rfl (feq hc171_112).2 (by decide) (by decide) k) ?_
        show Own.Fin p e below (T109.setTop (mkF m 178 #[.val (.int p1), .val (.int p2), .val (.int p3), .val (.int p4), .val (.int p5), .val (.int (0 : Int32)), .val (.int (1 : Int32)), .val (.int (0 : Int32)), .val (.int (((p2 &&& (255 : Int32))).toUInt32.toUInt16.toUInt32.toInt32)), .val (.int (((p3 &&& (255 : Int32))).toUInt32.toUInt16.toUInt32.toInt32)), .val (.ref b79), .val (.ref b81), .val (.int p3), .val (.ref b83), .val (.ref b91), .val (.ref b91), .val (.ref b83), .val (.ref b103), .unset] [])) _
        refine Own.go (fun t k => XS.iconst X109.here hx rfl (hb hby at_178) k) ?_
        show Own.Fin p e below (T109.setTop (mkF m 179 #[.val (.int p1), .val (.int p2), .val (.int p3), .val (.int p4), .val (.int p5), .val (.int (0 : Int32)), .val (.int (1 : Int32)), .val (.int (0 : Int32)), .val (.int (((p2 &&& (255 : Int32))).toUInt32.toUInt16.toUInt32.toInt32)), .val (.int (((p3 &&& (255 : Int32))).toUInt32.toUInt16.toUInt32.toInt32)), .val (.ref b79), .val (.ref b81), .val (.int p3), .val (.ref b83), .val (.ref b91), .val (.ref b91), .val (.ref b83), .val (.ref b103), .unset] [(.int (0 : Int32))])) _
        refine Own.go (fun t k => XS.istore X109.here hx rfl (hb hby at_179) rfl (l' := #[.val (.int p1), .val (.int p2), .val (.int p3), .val (.int p4), .val (.int p5), .val (.int (0 : Int32)), .val (.int (1 : Int32)), .val (.int (0 : Int32)), .val (.int (((p2 &&& (255 : Int32))).toUInt32.toUInt16.toUInt32.toInt32)), .val (.int (((p3 &&& (255 : Int32))).toUInt32.toUInt16.toUInt32.toInt32)), .val (.ref b79), .val (.ref b81), .val (.int p3), .val (.ref b83), .val (.ref b91), .val (.ref b91), .val (.ref b83), .val (.ref b103), .val (.int (0 : Int32))]) rfl k) ?_
        show Own.Fin p e below (T109.setTop (mkF m 181 #[.val (.int p1), .val (.int p2), .val (.int p3), .val (.int p4), .val (.int p5), .val (.int (0 : Int32)), .val (.int (1 : Int32)), .val (.int (0 : Int32)), .val (.int (((p2 &&& (255 : Int32))).toUInt32.toUInt16.toUInt32.toInt32)), .val (.int (((p3 &&& (255 : Int32))).toUInt32.toUInt16.toUInt32.toInt32)), .val (.ref b79), .val (.ref b81), .val (.int p3), .val (.ref b83), .val (.ref b91), .val (.ref b91), .val (.ref b83), .val (.ref b103), .val (.int (0 : Int32))] [])) _
        refine Own.go (fun t k => XS.aload X109.here hx rfl (hb hby at_181) rfl rfl k) ?_
        show Own.Fin p e below (T109.setTop (mkF m 183 #[.val (.int p1), .val (.int p2), .val (.int p3), .val (.int p4), .val (.int p5), .val (.int (0 : Int32)), .val (.int (1 : Int32)), .val (.int (0 : Int32)), .val (.int (((p2 &&& (255 : Int32))).toUInt32.toUInt16.toUInt32.toInt32)), .val (.int (((p3 &&& (255 : Int32))).toUInt32.toUInt16.toUInt32.toInt32)), .val (.ref b79), .val (.ref b81), .val (.int p3), .val (.ref b83), .val (.ref b91), .val (.ref b91), .val (.ref b83), .val (.ref b103), .val (.int (0 : Int32))] [(.ref b103)])) _
        refine Own.cV X109 hx hZ hown (hw _ (List.mem_of_getElem? (i := 56) rfl)) (hw _ (List.mem_of_getElem? (i := 57) rfl)) (notFace_of_selects (args := #[]) (mvT hZ (hw _ (List.mem_of_getElem? (i := 59) rfl)))) (hw _ (List.mem_of_getElem? (i := 59) rfl)) (hw _ (List.mem_of_getElem? (i := 58) rfl)) (hw _ (List.mem_of_getElem? (i := 45) rfl)) (hw _ (List.mem_of_getElem? (i := 60) rfl)) (by decide) (rm8 l Z a0 hw [] b103 b91 b83 T109.heap n0 Z109 FS109 FT109) (by decide) (W := 0) (by decide) (argsL := []) (rest := []) f112 (by rw [hml]; rfl) (lenOf pd_6 rfl) rfl (Nat.le_of_eq rfl) (hb hby at_183) rfl (by decide) (by decide) ?_
        intro T114 L114 v114 X114 hQ114
        obtain ⟨rfl, N114q, e114⟩ := hQ114
        have N114 := Fr.app N109 N114q
        rw [if_neg (Ne.symm ne91_b83)]
        show Own.Fin p e below (T114.setTop (mkF m 186 #[.val (.int p1), .val (.int p2), .val (.int p3), .val (.int p4), .val (.int p5), .val (.int (0 : Int32)), .val (.int (1 : Int32)), .val (.int (0 : Int32)), .val (.int (((p2 &&& (255 : Int32))).toUInt32.toUInt16.toUInt32.toInt32)), .val (.int (((p3 &&& (255 : Int32))).toUInt32.toUInt16.toUInt32.toInt32)), .val (.ref b79), .val (.ref b81), .val (.int p3), .val (.ref b83), .val (.ref b91), .val (.ref b91), .val (.ref b83), .val (.ref b103), .val (.int (0 : Int32))] [(.int (0 : Int32))])) _
        refine Own.go (fun t k => XS.iload X114.here hx rfl (hb hby at_186) rfl k) ?_
        show Own.Fin p e below (T114.setTop (mkF m 188 #[.val (.int p1), .val (.int p2), .val (.int p3), .val (.int p4), .val (.int p5), .val (.int (0 : Int32)), .val (.int (1 : Int32)), .val (.int (0 : Int32)), .val (.int (((p2 &&& (255 : Int32))).toUInt32.toUInt16.toUInt32.toInt32)), .val (.int (((p3 &&& (255 : Int32))).toUInt32.toUInt16.toUInt32.toInt32)), .val (.ref b79), .val (.ref b81), .val (.int p3), .val (.ref b83), .val (.ref b91), .val (.ref b91), .val (.ref b83), .val (.ref b103), .val (.int (0 : Int32))] [(.int (0 : Int32)), (.int (0 : Int32))])) _
        have hc188_114 : (0 : Int32) = (0 : Int32) := by decide
        refine Own.go (fun t k => XS.icmpNo X114.here hx rfl (hb hby at_188) rfl (teq hc188_114).2 k) ?_
        show Own.Fin p e below (T114.setTop (mkF m 191 #[.val (.int p1), .val (.int p2), .val (.int p3), .val (.int p4), .val (.int p5), .val (.int (0 : Int32)), .val (.int (1 : Int32)), .val (.int (0 : Int32)), .val (.int (((p2 &&& (255 : Int32))).toUInt32.toUInt16.toUInt32.toInt32)), .val (.int (((p3 &&& (255 : Int32))).toUInt32.toUInt16.toUInt32.toInt32)), .val (.ref b79), .val (.ref b81), .val (.int p3), .val (.ref b83), .val (.ref b91), .val (.ref b91), .val (.ref b83), .val (.ref b103), .val (.int (0 : Int32))] [])) _
        refine Own.go (fun t k => XS.iconst X114.here hx rfl (hb hby at_191) k) ?_
        show Own.Fin p e below (T114.setTop (mkF m 192 #[.val (.int p1), .val (.int p2), .val (.int p3), .val (.int p4), .val (.int p5), .val (.int (0 : Int32)), .val (.int (1 : Int32)), .val (.int (0 : Int32)), .val (.int (((p2 &&& (255 : Int32))).toUInt32.toUInt16.toUInt32.toInt32)), .val (.int (((p3 &&& (255 : Int32))).toUInt32.toUInt16.toUInt32.toInt32)), .val (.ref b79), .val (.ref b81), .val (.int p3), .val (.ref b83), .val (.ref b91), .val (.ref b91), .val (.ref b83), .val (.ref b103), .val (.int (0 : Int32))] [(.int (1 : Int32))])) _
        refine Own.go (fun t k => XS.goto X114.here hx rfl (pc0 := 192) (pc' := 196) rfl (hb hby at_192) (by decide) (by decide) k) ?_
        show Own.Fin p e below (T114.setTop (mkF m 196 #[.val (.int p1), .val (.int p2), .val (.int p3), .val (.int p4), .val (.int p5), .val (.int (0 : Int32)), .val (.int (1 : Int32)), .val (.int (0 : Int32)), .val (.int (((p2 &&& (255 : Int32))).toUInt32.toUInt16.toUInt32.toInt32)), .val (.int (((p3 &&& (255 : Int32))).toUInt32.toUInt16.toUInt32.toInt32)), .val (.ref b79), .val (.ref b81), .val (.int p3), .val (.ref b83), .val (.ref b91), .val (.ref b91), .val (.ref b83), .val (.ref b103), .val (.int (0 : Int32))] [(.int (1 : Int32))])) _
        refine Own.retN X114 hx Bd.notSynchronized (t := .boolean) Bd.returns (by simp) (hb hby at_196) (by decide) (by decide) ?_
        exact ⟨rfl, N114⟩
      · skip
        refine Own.go (fun t k => XS.ifNo X0.here hx rfl (hb hby at_29) rfl ((if0 _ _).trans (feq hc29_77).1) k) ?_
        show Own.Fin p e below (s₁.setTop (mkF m 32 #[.val (.int p1), .val (.int p2), .val (.int p3), .val (.int p4), .val (.int p5), .val (.int (0 : Int32)), .val (.int (1 : Int32)), .unset, .unset, .unset, .unset, .unset, .unset, .unset, .unset, .unset, .unset, .unset, .unset] [])) _
        refine Own.go (fun t k => XS.iconst X0.here hx rfl (hb hby at_32) k) ?_
        show Own.Fin p e below (s₁.setTop (mkF m 33 #[.val (.int p1), .val (.int p2), .val (.int p3), .val (.int p4), .val (.int p5), .val (.int (0 : Int32)), .val (.int (1 : Int32)), .unset, .unset, .unset, .unset, .unset, .unset, .unset, .unset, .unset, .unset, .unset, .unset] [(.int (1 : Int32))])) _
        refine Own.go (fun t k => XS.goto X0.here hx rfl (pc0 := 33) (pc' := 37) rfl (hb hby at_33) (by decide) (by decide) k) ?_
        show Own.Fin p e below (s₁.setTop (mkF m 37 #[.val (.int p1), .val (.int p2), .val (.int p3), .val (.int p4), .val (.int p5), .val (.int (0 : Int32)), .val (.int (1 : Int32)), .unset, .unset, .unset, .unset, .unset, .unset, .unset, .unset, .unset, .unset, .unset, .unset] [(.int (1 : Int32))])) _
        refine Own.go (fun t k => XS.istore X0.here hx rfl (hb hby at_37) rfl (l' := #[.val (.int p1), .val (.int p2), .val (.int p3), .val (.int p4), .val (.int p5), .val (.int (0 : Int32)), .val (.int (1 : Int32)), .val (.int (1 : Int32)), .unset, .unset, .unset, .unset, .unset, .unset, .unset, .unset, .unset, .unset, .unset]) rfl k) ?_
        show Own.Fin p e below (s₁.setTop (mkF m 39 #[.val (.int p1), .val (.int p2), .val (.int p3), .val (.int p4), .val (.int p5), .val (.int (0 : Int32)), .val (.int (1 : Int32)), .val (.int (1 : Int32)), .unset, .unset, .unset, .unset, .unset, .unset, .unset, .unset, .unset, .unset, .unset] [])) _
        refine Own.go (fun t k => XS.iloadN X0.here hx rfl (hb hby at_39) rfl k) ?_
        show Own.Fin p e below (s₁.setTop (mkF m 40 #[.val (.int p1), .val (.int p2), .val (.int p3), .val (.int p4), .val (.int p5), .val (.int (0 : Int32)), .val (.int (1 : Int32)), .val (.int (1 : Int32)), .unset, .unset, .unset, .unset, .unset, .unset, .unset, .unset, .unset, .unset, .unset] [(.int p2)])) _
        refine Own.go (fun t k => XS.sipush X0.here hx rfl (hb hby at_40) k) ?_
        show Own.Fin p e below (s₁.setTop (mkF m 43 #[.val (.int p1), .val (.int p2), .val (.int p3), .val (.int p4), .val (.int p5), .val (.int (0 : Int32)), .val (.int (1 : Int32)), .val (.int (1 : Int32)), .unset, .unset, .unset, .unset, .unset, .unset, .unset, .unset, .unset, .unset, .unset] [(.int (255 : Int32)), (.int p2)])) _
        refine Own.go (fun t k => XS.iand X0.here hx rfl (hb hby at_43) rfl k) ?_
        show Own.Fin p e below (s₁.setTop (mkF m 44 #[.val (.int p1), .val (.int p2), .val (.int p3), .val (.int p4), .val (.int p5), .val (.int (0 : Int32)), .val (.int (1 : Int32)), .val (.int (1 : Int32)), .unset, .unset, .unset, .unset, .unset, .unset, .unset, .unset, .unset, .unset, .unset] [(.int (p2 &&& (255 : Int32)))])) _
        refine Own.go (fun t k => XS.i2c X0.here hx rfl (hb hby at_44) rfl k) ?_
        show Own.Fin p e below (s₁.setTop (mkF m 45 #[.val (.int p1), .val (.int p2), .val (.int p3), .val (.int p4), .val (.int p5), .val (.int (0 : Int32)), .val (.int (1 : Int32)), .val (.int (1 : Int32)), .unset, .unset, .unset, .unset, .unset, .unset, .unset, .unset, .unset, .unset, .unset] [(.int (((p2 &&& (255 : Int32))).toUInt32.toUInt16.toUInt32.toInt32))])) _
        refine Own.go (fun t k => XS.istore X0.here hx rfl (hb hby at_45) rfl (l' := #[.val (.int p1), .val (.int p2), .val (.int p3), .val (.int p4), .val (.int p5), .val (.int (0 : Int32)), .val (.int (1 : Int32)), .val (.int (1 : Int32)), .val (.int (((p2 &&& (255 : Int32))).toUInt32.toUInt16.toUInt32.toInt32)), .unset, .unset, .unset, .unset, .unset, .unset, .unset, .unset, .unset, .unset]) rfl k) ?_
        show Own.Fin p e below (s₁.setTop (mkF m 47 #[.val (.int p1), .val (.int p2), .val (.int p3), .val (.int p4), .val (.int p5), .val (.int (0 : Int32)), .val (.int (1 : Int32)), .val (.int (1 : Int32)), .val (.int (((p2 &&& (255 : Int32))).toUInt32.toUInt16.toUInt32.toInt32)), .unset, .unset, .unset, .unset, .unset, .unset, .unset, .unset, .unset, .unset] [])) _
        refine Own.go (fun t k => XS.iloadN X0.here hx rfl (hb hby at_47) rfl k) ?_
        show Own.Fin p e below (s₁.setTop (mkF m 48 #[.val (.int p1), .val (.int p2), .val (.int p3), .val (.int p4), .val (.int p5), .val (.int (0 : Int32)), .val (.int (1 : Int32)), .val (.int (1 : Int32)), .val (.int (((p2 &&& (255 : Int32))).toUInt32.toUInt16.toUInt32.toInt32)), .unset, .unset, .unset, .unset, .unset, .unset, .unset, .unset, .unset, .unset] [(.int p3)])) _
        refine Own.go (fun t k => XS.sipush X0.here hx rfl (hb hby at_48) k) ?_
        show Own.Fin p e below (s₁.setTop (mkF m 51 #[.val (.int p1), .val (.int p2), .val (.int p3), .val (.int p4), .val (.int p5), .val (.int (0 : Int32)), .val (.int (1 : Int32)), .val (.int (1 : Int32)), .val (.int (((p2 &&& (255 : Int32))).toUInt32.toUInt16.toUInt32.toInt32)), .unset, .unset, .unset, .unset, .unset, .unset, .unset, .unset, .unset, .unset] [(.int (255 : Int32)), (.int p3)])) _
        refine Own.go (fun t k => XS.iand X0.here hx rfl (hb hby at_51) rfl k) ?_
        show Own.Fin p e below (s₁.setTop (mkF m 52 #[.val (.int p1), .val (.int p2), .val (.int p3), .val (.int p4), .val (.int p5), .val (.int (0 : Int32)), .val (.int (1 : Int32)), .val (.int (1 : Int32)), .val (.int (((p2 &&& (255 : Int32))).toUInt32.toUInt16.toUInt32.toInt32)), .unset, .unset, .unset, .unset, .unset, .unset, .unset, .unset, .unset, .unset] [(.int (p3 &&& (255 : Int32)))])) _
        refine Own.go (fun t k => XS.i2c X0.here hx rfl (hb hby at_52) rfl k) ?_
        show Own.Fin p e below (s₁.setTop (mkF m 53 #[.val (.int p1), .val (.int p2), .val (.int p3), .val (.int p4), .val (.int p5), .val (.int (0 : Int32)), .val (.int (1 : Int32)), .val (.int (1 : Int32)), .val (.int (((p2 &&& (255 : Int32))).toUInt32.toUInt16.toUInt32.toInt32)), .unset, .unset, .unset, .unset, .unset, .unset, .unset, .unset, .unset, .unset] [(.int (((p3 &&& (255 : Int32))).toUInt32.toUInt16.toUInt32.toInt32))])) _
        refine Own.go (fun t k => XS.istore X0.here hx rfl (hb hby at_53) rfl (l' := #[.val (.int p1), .val (.int p2), .val (.int p3), .val (.int p4), .val (.int p5), .val (.int (0 : Int32)), .val (.int (1 : Int32)), .val (.int (1 : Int32)), .val (.int (((p2 &&& (255 : Int32))).toUInt32.toUInt16.toUInt32.toInt32)), .val (.int (((p3 &&& (255 : Int32))).toUInt32.toUInt16.toUInt32.toInt32)), .unset, .unset, .unset, .unset, .unset, .unset, .unset, .unset, .unset]) rfl k) ?_
        show Own.Fin p e below (s₁.setTop (mkF m 55 #[.val (.int p1), .val (.int p2), .val (.int p3), .val (.int p4), .val (.int p5), .val (.int (0 : Int32)), .val (.int (1 : Int32)), .val (.int (1 : Int32)), .val (.int (((p2 &&& (255 : Int32))).toUInt32.toUInt16.toUInt32.toInt32)), .val (.int (((p3 &&& (255 : Int32))).toUInt32.toUInt16.toUInt32.toInt32)), .unset, .unset, .unset, .unset, .unset, .unset, .unset, .unset, .unset] [])) _
        refine Own.go (fun t k => XS.iload X0.here hx rfl (hb hby at_55) rfl k) ?_
        show Own.Fin p e below (s₁.setTop (mkF m 57 #[.val (.int p1), .val (.int p2), .val (.int p3), .val (.int p4), .val (.int p5), .val (.int (0 : Int32)), .val (.int (1 : Int32)), .val (.int (1 : Int32)), .val (.int (((p2 &&& (255 : Int32))).toUInt32.toUInt16.toUInt32.toInt32)), .val (.int (((p3 &&& (255 : Int32))).toUInt32.toUInt16.toUInt32.toInt32)), .unset, .unset, .unset, .unset, .unset, .unset, .unset, .unset, .unset] [(.int (((p2 &&& (255 : Int32))).toUInt32.toUInt16.toUInt32.toInt32))])) _
        refine Own.cS X0 hx hZ hown (hw _ (List.mem_of_getElem? (i := 0) rfl)) (hw _ (List.mem_of_getElem? (i := 1) rfl)) (hw _ (List.mem_of_getElem? (i := 2) rfl)) (hw _ (List.mem_of_getElem? (i := 3) rfl)) (by decide) (rm1 l Z a0 hw [] (((p2 &&& (255 : Int32))).toUInt32.toUInt16.toUInt32.toInt32) cs h0 n0 Z0 O0 SC hcs (own_ch _)) (by decide) (W := 0) (by decide) (argsL := [(.int (((p2 &&& (255 : Int32))).toUInt32.toUInt16.toUInt32.toInt32))]) (rest := []) (by rw [hml]; rfl) (lenOf pd_3 rfl) rfl (Nat.le_of_eq rfl) (hb hby at_57) e0 (by decide) (by decide) ?_
        intro T116 L116 v116 X116 hQ116
        obtain ⟨b116, ge116, rfl, N116q, K116q⟩ := hQ116
        have N116 := Fr.app N0 N116q
        have Z116 : n0 ≤ T116.heap.size := Nat.le_trans Z0 K116q.1
        have O116 := O0.keep K116q all0
        show Own.Fin p e below (T116.setTop (mkF m 60 #[.val (.int p1), .val (.int p2), .val (.int p3), .val (.int p4), .val (.int p5), .val (.int (0 : Int32)), .val (.int (1 : Int32)), .val (.int (1 : Int32)), .val (.int (((p2 &&& (255 : Int32))).toUInt32.toUInt16.toUInt32.toInt32)), .val (.int (((p3 &&& (255 : Int32))).toUInt32.toUInt16.toUInt32.toInt32)), .unset, .unset, .unset, .unset, .unset, .unset, .unset, .unset, .unset] [(.ref b116)])) _
        refine Own.go (fun t k => XS.astore X116.here hx rfl (hb hby at_60) rfl rfl (l' := #[.val (.int p1), .val (.int p2), .val (.int p3), .val (.int p4), .val (.int p5), .val (.int (0 : Int32)), .val (.int (1 : Int32)), .val (.int (1 : Int32)), .val (.int (((p2 &&& (255 : Int32))).toUInt32.toUInt16.toUInt32.toInt32)), .val (.int (((p3 &&& (255 : Int32))).toUInt32.toUInt16.toUInt32.toInt32)), .val (.ref b116), .unset, .unset, .unset, .unset, .unset, .unset, .unset, .unset]) rfl k) ?_
        show Own.Fin p e below (T116.setTop (mkF m 62 #[.val (.int p1), .val (.int p2), .val (.int p3), .val (.int p4), .val (.int p5), .val (.int (0 : Int32)), .val (.int (1 : Int32)), .val (.int (1 : Int32)), .val (.int (((p2 &&& (255 : Int32))).toUInt32.toUInt16.toUInt32.toInt32)), .val (.int (((p3 &&& (255 : Int32))).toUInt32.toUInt16.toUInt32.toInt32)), .val (.ref b116), .unset, .unset, .unset, .unset, .unset, .unset, .unset, .unset] [])) _
        refine Own.go (fun t k => XS.iload X116.here hx rfl (hb hby at_62) rfl k) ?_
        show Own.Fin p e below (T116.setTop (mkF m 64 #[.val (.int p1), .val (.int p2), .val (.int p3), .val (.int p4), .val (.int p5), .val (.int (0 : Int32)), .val (.int (1 : Int32)), .val (.int (1 : Int32)), .val (.int (((p2 &&& (255 : Int32))).toUInt32.toUInt16.toUInt32.toInt32)), .val (.int (((p3 &&& (255 : Int32))).toUInt32.toUInt16.toUInt32.toInt32)), .val (.ref b116), .unset, .unset, .unset, .unset, .unset, .unset, .unset, .unset] [(.int (0 : Int32))])) _
        have hc64_116 : (0 : Int32) = (0 : Int32) := by decide
        refine Own.go (fun t k => XS.ifYes X116.here hx rfl (pc0 := 64) (pc' := 72) rfl (hb hby at_64) rfl ((if0 _ _).trans (teq hc64_116).1) (by decide) (by decide) k) ?_
        show Own.Fin p e below (T116.setTop (mkF m 72 #[.val (.int p1), .val (.int p2), .val (.int p3), .val (.int p4), .val (.int p5), .val (.int (0 : Int32)), .val (.int (1 : Int32)), .val (.int (1 : Int32)), .val (.int (((p2 &&& (255 : Int32))).toUInt32.toUInt16.toUInt32.toInt32)), .val (.int (((p3 &&& (255 : Int32))).toUInt32.toUInt16.toUInt32.toInt32)), .val (.ref b116), .unset, .unset, .unset, .unset, .unset, .unset, .unset, .unset] [])) _
        refine Own.go (fun t k => XS.iload X116.here hx rfl (hb hby at_72) rfl k) ?_
        show Own.Fin p e below (T116.setTop (mkF m 74 #[.val (.int p1), .val (.int p2), .val (.int p3), .val (.int p4), .val (.int p5), .val (.int (0 : Int32)), .val (.int (1 : Int32)), .val (.int (1 : Int32)), .val (.int (((p2 &&& (255 : Int32))).toUInt32.toUInt16.toUInt32.toInt32)), .val (.int (((p3 &&& (255 : Int32))).toUInt32.toUInt16.toUInt32.toInt32)), .val (.ref b116), .unset, .unset, .unset, .unset, .unset, .unset, .unset, .unset] [(.int (((p3 &&& (255 : Int32))).toUInt32.toUInt16.toUInt32.toInt32))])) _
        refine Own.cS X116 hx hZ hown (hw _ (List.mem_of_getElem? (i := 0) rfl)) (hw _ (List.mem_of_getElem? (i := 1) rfl)) (hw _ (List.mem_of_getElem? (i := 2) rfl)) (hw _ (List.mem_of_getElem? (i := 3) rfl)) (by decide) (rm1 l Z a0 hw [] (((p3 &&& (255 : Int32))).toUInt32.toUInt16.toUInt32.toInt32) cs T116.heap n0 Z116 O116 SC hcs (own_ch _)) (by decide) (W := 0) (by decide) (argsL := [(.int (((p3 &&& (255 : Int32))).toUInt32.toUInt16.toUInt32.toInt32))]) (rest := []) (by rw [hml]; rfl) (lenOf pd_3 rfl) rfl (Nat.le_of_eq rfl) (hb hby at_74) rfl (by decide) (by decide) ?_
        intro T118 L118 v118 X118 hQ118
        obtain ⟨b118, ge118, rfl, N118q, K118q⟩ := hQ118
        have N118 := Fr.app N116 N118q
        have Z118 : n0 ≤ T118.heap.size := Nat.le_trans Z116 K118q.1
        have O118 := O116.keep K118q all0
        show Own.Fin p e below (T118.setTop (mkF m 77 #[.val (.int p1), .val (.int p2), .val (.int p3), .val (.int p4), .val (.int p5), .val (.int (0 : Int32)), .val (.int (1 : Int32)), .val (.int (1 : Int32)), .val (.int (((p2 &&& (255 : Int32))).toUInt32.toUInt16.toUInt32.toInt32)), .val (.int (((p3 &&& (255 : Int32))).toUInt32.toUInt16.toUInt32.toInt32)), .val (.ref b116), .unset, .unset, .unset, .unset, .unset, .unset, .unset, .unset] [(.ref b118)])) _
        refine Own.go (fun t k => XS.astore X118.here hx rfl (hb hby at_77) rfl rfl (l' := #[.val (.int p1), .val (.int p2), .val (.int p3), .val (.int p4), .val (.int p5), .val (.int (0 : Int32)), .val (.int (1 : Int32)), .val (.int (1 : Int32)), .val (.int (((p2 &&& (255 : Int32))).toUInt32.toUInt16.toUInt32.toInt32)), .val (.int (((p3 &&& (255 : Int32))).toUInt32.toUInt16.toUInt32.toInt32)), .val (.ref b116), .val (.ref b118), .unset, .unset, .unset, .unset, .unset, .unset, .unset]) rfl k) ?_
        show Own.Fin p e below (T118.setTop (mkF m 79 #[.val (.int p1), .val (.int p2), .val (.int p3), .val (.int p4), .val (.int p5), .val (.int (0 : Int32)), .val (.int (1 : Int32)), .val (.int (1 : Int32)), .val (.int (((p2 &&& (255 : Int32))).toUInt32.toUInt16.toUInt32.toInt32)), .val (.int (((p3 &&& (255 : Int32))).toUInt32.toUInt16.toUInt32.toInt32)), .val (.ref b116), .val (.ref b118), .unset, .unset, .unset, .unset, .unset, .unset, .unset] [])) _
        refine Own.go (fun t k => XS.iload X118.here hx rfl (hb hby at_79) rfl k) ?_
        show Own.Fin p e below (T118.setTop (mkF m 81 #[.val (.int p1), .val (.int p2), .val (.int p3), .val (.int p4), .val (.int p5), .val (.int (0 : Int32)), .val (.int (1 : Int32)), .val (.int (1 : Int32)), .val (.int (((p2 &&& (255 : Int32))).toUInt32.toUInt16.toUInt32.toInt32)), .val (.int (((p3 &&& (255 : Int32))).toUInt32.toUInt16.toUInt32.toInt32)), .val (.ref b116), .val (.ref b118), .unset, .unset, .unset, .unset, .unset, .unset, .unset] [(.int (0 : Int32))])) _
        have hc81_118 : (0 : Int32) = (0 : Int32) := by decide
        refine Own.go (fun t k => XS.ifYes X118.here hx rfl (pc0 := 81) (pc' := 88) rfl (hb hby at_81) rfl ((if0 _ _).trans (teq hc81_118).1) (by decide) (by decide) k) ?_
        show Own.Fin p e below (T118.setTop (mkF m 88 #[.val (.int p1), .val (.int p2), .val (.int p3), .val (.int p4), .val (.int p5), .val (.int (0 : Int32)), .val (.int (1 : Int32)), .val (.int (1 : Int32)), .val (.int (((p2 &&& (255 : Int32))).toUInt32.toUInt16.toUInt32.toInt32)), .val (.int (((p3 &&& (255 : Int32))).toUInt32.toUInt16.toUInt32.toInt32)), .val (.ref b116), .val (.ref b118), .unset, .unset, .unset, .unset, .unset, .unset, .unset] [])) _
        refine Own.go (fun t k => XS.iloadN X118.here hx rfl (hb hby at_88) rfl k) ?_
        show Own.Fin p e below (T118.setTop (mkF m 89 #[.val (.int p1), .val (.int p2), .val (.int p3), .val (.int p4), .val (.int p5), .val (.int (0 : Int32)), .val (.int (1 : Int32)), .val (.int (1 : Int32)), .val (.int (((p2 &&& (255 : Int32))).toUInt32.toUInt16.toUInt32.toInt32)), .val (.int (((p3 &&& (255 : Int32))).toUInt32.toUInt16.toUInt32.toInt32)), .val (.ref b116), .val (.ref b118), .unset, .unset, .unset, .unset, .unset, .unset, .unset] [(.int p3)])) _
        refine Own.go (fun t k => XS.istore X118.here hx rfl (hb hby at_89) rfl (l' := #[.val (.int p1), .val (.int p2), .val (.int p3), .val (.int p4), .val (.int p5), .val (.int (0 : Int32)), .val (.int (1 : Int32)), .val (.int (1 : Int32)), .val (.int (((p2 &&& (255 : Int32))).toUInt32.toUInt16.toUInt32.toInt32)), .val (.int (((p3 &&& (255 : Int32))).toUInt32.toUInt16.toUInt32.toInt32)), .val (.ref b116), .val (.ref b118), .val (.int p3), .unset, .unset, .unset, .unset, .unset, .unset]) rfl k) ?_
        show Own.Fin p e below (T118.setTop (mkF m 91 #[.val (.int p1), .val (.int p2), .val (.int p3), .val (.int p4), .val (.int p5), .val (.int (0 : Int32)), .val (.int (1 : Int32)), .val (.int (1 : Int32)), .val (.int (((p2 &&& (255 : Int32))).toUInt32.toUInt16.toUInt32.toInt32)), .val (.int (((p3 &&& (255 : Int32))).toUInt32.toUInt16.toUInt32.toInt32)), .val (.ref b116), .val (.ref b118), .val (.int p3), .unset, .unset, .unset, .unset, .unset, .unset] [])) _
        obtain ⟨T120, h120, X120, e120, E120, A120, D120, -, st120⟩ := newO X118 hx hZ hown (hw _ (List.mem_of_getElem? (i := 26) rfl)) (hw _ (List.mem_of_getElem? (i := 27) rfl)) (hw _ (List.mem_of_getElem? (i := 28) rfl)) rfl (g := (mkF m 91 #[.val (.int p1), .val (.int p2), .val (.int p3), .val (.int p4), .val (.int p5), .val (.int (0 : Int32)), .val (.int (1 : Int32)), .val (.int (1 : Int32)), .val (.int (((p2 &&& (255 : Int32))).toUInt32.toUInt16.toUInt32.toInt32)), .val (.int (((p3 &&& (255 : Int32))).toUInt32.toUInt16.toUInt32.toInt32)), .val (.ref b116), .val (.ref b118), .val (.int p3), .unset, .unset, .unset, .unset, .unset, .unset] [])) rfl (hb hby at_91) (by decide) (by decide)
        obtain ⟨b120, gb120⟩ : ∃ z, z = T118.heap.size := ⟨_, rfl⟩
        rw [← gb120] at A120 D120 st120
        refine Own.go st120 ?_
        have ge120 : n0 ≤ b120 := by rw [gb120]; exact Z118
        have Z120 : n0 ≤ h120.size := Nat.le_trans Z118 E120.1
        have O120 := O118.ext E120
        have fl121 : Fld Z h120 b120 "com/example/arachne/arachne/Node" "id" "Ljava/lang/String;" .null := D120 (Or.inr (hw _ (List.mem_of_getElem? (i := 34) rfl))) (ty := (.object "java/lang/String")) (by decide)
        have fl122 : Fld Z h120 b120 "com/example/arachne/arachne/Node" "size" "Lcom/example/arachne/arachne/NodeSize;" .null := D120 (Or.inr (hw _ (List.mem_of_getElem? (i := 36) rfl))) (ty := (.object "com/example/arachne/arachne/NodeSize")) (by decide)
        have fl123 : Fld Z h120 b120 "com/example/arachne/arachne/Node" "label" "Ljava/lang/String;" .null := D120 (Or.inr (hw _ (List.mem_of_getElem? (i := 38) rfl))) (ty := (.object "java/lang/String")) (by decide)
        have fl124 : Fld Z h120 b120 "com/example/arachne/arachne/Node" "pin" "Lcom/example/arachne/arachne/Point;" .null := D120 (Or.inr (hw _ (List.mem_of_getElem? (i := 40) rfl))) (ty := (.object "com/example/arachne/arachne/Point")) (by decide)
        have fl125 : Fld Z h120 b120 "com/example/arachne/arachne/Node" "index" "I" (.int (0 : Int32)) := D120 (Or.inr (hw _ (List.mem_of_getElem? (i := 42) rfl))) (ty := .int) (by decide)
        show Own.Fin p e below (T120.setTop (mkF m 94 #[.val (.int p1), .val (.int p2), .val (.int p3), .val (.int p4), .val (.int p5), .val (.int (0 : Int32)), .val (.int (1 : Int32)), .val (.int (1 : Int32)), .val (.int (((p2 &&& (255 : Int32))).toUInt32.toUInt16.toUInt32.toInt32)), .val (.int (((p3 &&& (255 : Int32))).toUInt32.toUInt16.toUInt32.toInt32)), .val (.ref b116), .val (.ref b118), .val (.int p3), .unset, .unset, .unset, .unset, .unset, .unset] [(.ref b120)])) _
        refine Own.go (fun t k => XS.dup X120.here hx rfl (hb hby at_94) rfl rfl k) ?_
        show Own.Fin p e below (T120.setTop (mkF m 95 #[.val (.int p1), .val (.int p2), .val (.int p3), .val (.int p4), .val (.int p5), .val (.int (0 : Int32)), .val (.int (1 : Int32)), .val (.int (1 : Int32)), .val (.int (((p2 &&& (255 : Int32))).toUInt32.toUInt16.toUInt32.toInt32)), .val (.int (((p3 &&& (255 : Int32))).toUInt32.toUInt16.toUInt32.toInt32)), .val (.ref b116), .val (.ref b118), .val (.int p3), .unset, .unset, .unset, .unset, .unset, .unset] [(.ref b120), (.ref b120)])) _
        refine Own.go (fun t k => XS.aload X120.here hx rfl (hb hby at_95) rfl rfl k) ?_
        show Own.Fin p e below (T120.setTop (mkF m 97 #[.val (.int p1), .val (.int p2), .val (.int p3), .val (.int p4), .val (.int p5), .val (.int (0 : Int32)), .val (.int (1 : Int32)), .val (.int (1 : Int32)), .val (.int (((p2 &&& (255 : Int32))).toUInt32.toUInt16.toUInt32.toInt32)), .val (.int (((p3 &&& (255 : Int32))).toUInt32.toUInt16.toUInt32.toInt32)), .val (.ref b116), .val (.ref b118), .val (.int p3), .unset, .unset, .unset, .unset, .unset, .unset] [(.ref b116), (.ref b120), (.ref b120)])) _
        refine Own.go (fun t k => XS.aconstNull X120.here hx rfl (hb hby at_97) k) ?_
        show Own.Fin p e below (T120.setTop (mkF m 98 #[.val (.int p1), .val (.int p2), .val (.int p3), .val (.int p4), .val (.int p5), .val (.int (0 : Int32)), .val (.int (1 : Int32)), .val (.int (1 : Int32)), .val (.int (((p2 &&& (255 : Int32))).toUInt32.toUInt16.toUInt32.toInt32)), .val (.int (((p3 &&& (255 : Int32))).toUInt32.toUInt16.toUInt32.toInt32)), .val (.ref b116), .val (.ref b118), .val (.int p3), .unset, .unset, .unset, .unset, .unset, .unset] [.null, (.ref b116), (.ref b120), (.ref b120)])) _
        refine Own.go (fun t k => XS.aload X120.here hx rfl (hb hby at_98) rfl rfl k) ?_
        show Own.Fin p e below (T120.setTop (mkF m 100 #[.val (.int p1), .val (.int p2), .val (.int p3), .val (.int p4), .val (.int p5), .val (.int (0 : Int32)), .val (.int (1 : Int32)), .val (.int (1 : Int32)), .val (.int (((p2 &&& (255 : Int32))).toUInt32.toUInt16.toUInt32.toInt32)), .val (.int (((p3 &&& (255 : Int32))).toUInt32.toUInt16.toUInt32.toInt32)), .val (.ref b116), .val (.ref b118), .val (.int p3), .unset, .unset, .unset, .unset, .unset, .unset] [(.ref b116), .null, (.ref b116), (.ref b120), (.ref b120)])) _
        refine Own.go (fun t k => XS.aconstNull X120.here hx rfl (hb hby at_100) k) ?_
        show Own.Fin p e below (T120.setTop (mkF m 101 #[.val (.int p1), .val (.int p2), .val (.int p3), .val (.int p4), .val (.int p5), .val (.int (0 : Int32)), .val (.int (1 : Int32)), .val (.int (1 : Int32)), .val (.int (((p2 &&& (255 : Int32))).toUInt32.toUInt16.toUInt32.toInt32)), .val (.int (((p3 &&& (255 : Int32))).toUInt32.toUInt16.toUInt32.toInt32)), .val (.ref b116), .val (.ref b118), .val (.int p3), .unset, .unset, .unset, .unset, .unset, .unset] [.null, (.ref b116), .null, (.ref b116), (.ref b120), (.ref b120)])) _
        refine Own.go (fun t k => XS.iloadN X120.here hx rfl (hb hby at_101) rfl k) ?_
        show Own.Fin p e below (T120.setTop (mkF m 102 #[.val (.int p1), .val (.int p2), .val (.int p3), .val (.int p4), .val (.int p5), .val (.int (0 : Int32)), .val (.int (1 : Int32)), .val (.int (1 : Int32)), .val (.int (((p2 &&& (255 : Int32))).toUInt32.toUInt16.toUInt32.toInt32)), .val (.int (((p3 &&& (255 : Int32))).toUInt32.toUInt16.toUInt32.toInt32)), .val (.ref b116), .val (.ref b118), .val (.int p3), .unset, .unset, .unset, .unset, .unset, .unset] [(.int p4), .null, (.ref b116), .null, (.ref b116), (.ref b120), (.ref b120)])) _
        refine Own.cI X120 hx hZ rfl hown (hw _ (List.mem_of_getElem? (i := 29) rfl)) (hw _ (List.mem_of_getElem? (i := 30) rfl)) (hw _ (List.mem_of_getElem? (i := 28) rfl)) (hw _ (List.mem_of_getElem? (i := 31) rfl)) (by decide) (rm6 l Z a0 hw [] b120 b116 b116 p4 h120 n0 Z120 A120 fl121 fl122 fl123 fl124 fl125 ge120) (by decide) (W := 1) (by decide) (argsL := [(.ref b116), .null, (.ref b116), .null, (.int p4)]) (rest := [(.ref b120)]) (by rw [hml]; rfl) (lenOf pd_4 rfl) rfl (Nat.le_of_eq rfl) (hb hby at_102) e120 (by decide) (by decide) ?_
        intro T126 L126 v126 X126 hQ126
        obtain ⟨rfl, N126q, K126q⟩ := hQ126
        have N126 := Fr.app N118 N126q
        have f127 := A120.keep K126q
        have Z126 : n0 ≤ T126.heap.size := Nat.le_trans Z120 K126q.1
        have O126 := O120.keep K126q (allS ge120 all0)
        show Own.Fin p e below (T126.setTop (mkF m 105 #[.val (.int p1), .val (.int p2), .val (.int p3), .val (.int p4), .val (.int p5), .val (.int (0 : Int32)), .val (.int (1 : Int32)), .val (.int (1 : Int32)), .val (.int (((p2 &&& (255 : Int32))).toUInt32.toUInt16.toUInt32.toInt32)), .val (.int (((p3 &&& (255 : Int32))).toUInt32.toUInt16.toUInt32.toInt32)), .val (.ref b116), .val (.ref b118), .val (.int p3), .unset, .unset, .unset, .unset, .unset, .unset] [(.ref b120)])) _
        refine Own.go (fun t k => XS.astore X126.here hx rfl (hb hby at_105) rfl rfl (l' := #[.val (.int p1), .val (.int p2), .val (.int p3), .val (.int p4), .val (.int p5), .val (.int (0 : Int32)), .val (.int (1 : Int32)), .val (.int (1 : Int32)), .val (.int (((p2 &&& (255 : Int32))).toUInt32.toUInt16.toUInt32.toInt32)), .val (.int (((p3 &&& (255 : Int32))).toUInt32.toUInt16.toUInt32.toInt32)), .val (.ref b116), .val (.ref b118), .val (.int p3), .val (.ref b120), .unset, .unset, .unset, .unset, .unset]) rfl k) ?_
        show Own.Fin p e below (T126.setTop (mkF m 107 #[.val (.int p1), .val (.int p2), .val (.int p3), .val (.int p4), .val (.int p5), .val (.int (0 : Int32)), .val (.int (1 : Int32)), .val (.int (1 : Int32)), .val (.int (((p2 &&& (255 : Int32))).toUInt32.toUInt16.toUInt32.toInt32)), .val (.int (((p3 &&& (255 : Int32))).toUInt32.toUInt16.toUInt32.toInt32)), .val (.ref b116), .val (.ref b118), .val (.int p3), .val (.ref b120), .unset, .unset, .unset, .unset, .unset] [])) _
        obtain ⟨T128, h128, X128, e128, E128, A128, D128, -, st128⟩ := newO X126 hx hZ hown (hw _ (List.mem_of_getElem? (i := 26) rfl)) (hw _ (List.mem_of_getElem? (i := 27) rfl)) (hw _ (List.mem_of_getElem? (i := 28) rfl)) rfl (g := (mkF m 107 #[.val (.int p1), .val (.int p2), .val (.int p3), .val (.int p4), .val (.int p5), .val (.int (0 : Int32)), .val (.int (1 : Int32)), .val (.int (1 : Int32)), .val (.int (((p2 &&& (255 : Int32))).toUInt32.toUInt16.toUInt32.toInt32)), .val (.int (((p3 &&& (255 : Int32))).toUInt32.toUInt16.toUInt32.toInt32)), .val (.ref b116), .val (.ref b118), .val (.int p3), .val (.ref b120), .unset, .unset, .unset, .unset, .unset] [])) rfl (hb hby at_107) (by decide) (by decide)
        obtain ⟨b128, gb128⟩ : ∃ z, z = T126.heap.size := ⟨_, rfl⟩
        rw [← gb128] at A128 D128 st128
        refine Own.go st128 ?_
        have ge128 : n0 ≤ b128 := by rw [gb128]; exact Z126
        have ne128_b120 : b120 ≠ b128 := Nat.ne_of_lt (Nat.lt_of_lt_of_le f127.lt (Nat.le_of_eq gb128.symm))
        have Z128 : n0 ≤ h128.size := Nat.le_trans Z126 E128.1
        have f129 := f127.ext E128
        have O128 := O126.ext E128
        have fl130 : Fld Z h128 b128 "com/example/arachne/arachne/Node" "id" "Ljava/lang/String;" .null := D128 (Or.inr (hw _ (List.mem_of_getElem? (i := 34) rfl))) (ty := (.object "java/lang/String")) (by decide)
        have fl131 : Fld Z h128 b128 "com/example/arachne/arachne/Node" "size" "Lcom/example/arachne/arachne/NodeSize;" .null := D128 (Or.inr (hw _ (List.mem_of_getElem? (i := 36) rfl))) (ty := (.object "com/example/arachne/arachne/NodeSize")) (by decide)
        have fl132 : Fld Z h128 b128 "com/example/arachne/arachne/Node" "label" "Ljava/lang/String;" .null := D128 (Or.inr (hw _ (List.mem_of_getElem? (i := 38) rfl))) (ty := (.object "java/lang/String")) (by decide)
        have fl133 : Fld Z h128 b128 "com/example/arachne/arachne/Node" "pin" "Lcom/example/arachne/arachne/Point;" .null := D128 (Or.inr (hw _ (List.mem_of_getElem? (i := 40) rfl))) (ty := (.object "com/example/arachne/arachne/Point")) (by decide)
        have fl134 : Fld Z h128 b128 "com/example/arachne/arachne/Node" "index" "I" (.int (0 : Int32)) := D128 (Or.inr (hw _ (List.mem_of_getElem? (i := 42) rfl))) (ty := .int) (by decide)
        show Own.Fin p e below (T128.setTop (mkF m 110 #[.val (.int p1), .val (.int p2), .val (.int p3), .val (.int p4), .val (.int p5), .val (.int (0 : Int32)), .val (.int (1 : Int32)), .val (.int (1 : Int32)), .val (.int (((p2 &&& (255 : Int32))).toUInt32.toUInt16.toUInt32.toInt32)), .val (.int (((p3 &&& (255 : Int32))).toUInt32.toUInt16.toUInt32.toInt32)), .val (.ref b116), .val (.ref b118), .val (.int p3), .val (.ref b120), .unset, .unset, .unset, .unset, .unset] [(.ref b128)])) _
        refine Own.go (fun t k => XS.dup X128.here hx rfl (hb hby at_110) rfl rfl k) ?_
        show Own.Fin p e below (T128.setTop (mkF m 111 #[.val (.int p1), .val (.int p2), .val (.int p3), .val (.int p4), .val (.int p5), .val (.int (0 : Int32)), .val (.int (1 : Int32)), .val (.int (1 : Int32)), .val (.int (((p2 &&& (255 : Int32))).toUInt32.toUInt16.toUInt32.toInt32)), .val (.int (((p3 &&& (255 : Int32))).toUInt32.toUInt16.toUInt32.toInt32)), .val (.ref b116), .val (.ref b118), .val (.int p3), .val (.ref b120), .unset, .unset, .unset, .unset, .unset] [(.ref b128), (.ref b128)])) _
        refine Own.go (fun t k => XS.aload X128.here hx rfl (hb hby at_111) rfl rfl k) ?_
        show Own.Fin p e below (T128.setTop (mkF m 113 #[.val (.int p1), .val (.int p2), .val (.int p3), .val (.int p4), .val (.int p5), .val (.int (0 : Int32)), .val (.int (1 : Int32)), .val (.int (1 : Int32)), .val (.int (((p2 &&& (255 : Int32))).toUInt32.toUInt16.toUInt32.toInt32)), .val (.int (((p3 &&& (255 : Int32))).toUInt32.toUInt16.toUInt32.toInt32)), .val (.ref b116), .val (.ref b118), .val (.int p3), .val (.ref b120), .unset, .unset, .unset, .unset, .unset] [(.ref b118), (.ref b128), (.ref b128)])) _
        refine Own.go (fun t k => XS.aconstNull X128.here hx rfl (hb hby at_113) k) ?_
        show Own.Fin p e below (T128.setTop (mkF m 114 #[.val (.int p1), .val (.int p2), .val (.int p3), .val (.int p4), .val (.int p5), .val (.int (0 : Int32)), .val (.int (1 : Int32)), .val (.int (1 : Int32)), .val (.int (((p2 &&& (255 : Int32))).toUInt32.toUInt16.toUInt32.toInt32)), .val (.int (((p3 &&& (255 : Int32))).toUInt32.toUInt16.toUInt32.toInt32)), .val (.ref b116), .val (.ref b118), .val (.int p3), .val (.ref b120), .unset, .unset, .unset, .unset, .unset] [.null, (.ref b118), (.ref b128), (.ref b128)])) _
        refine Own.go (fun t k => XS.aload X128.here hx rfl (hb hby at_114) rfl rfl k) ?_
        show Own.Fin p e below (T128.setTop (mkF m 116 #[.val (.int p1), .val (.int p2), .val (.int p3), .val (.int p4), .val (.int p5), .val (.int (0 : Int32)), .val (.int (1 : Int32)), .val (.int (1 : Int32)), .val (.int (((p2 &&& (255 : Int32))).toUInt32.toUInt16.toUInt32.toInt32)), .val (.int (((p3 &&& (255 : Int32))).toUInt32.toUInt16.toUInt32.toInt32)), .val (.ref b116), .val (.ref b118), .val (.int p3), .val (.ref b120), .unset, .unset, .unset, .unset, .unset] [(.ref b118), .null, (.ref b118), (.ref b128), (.ref b128)])) _
        refine Own.go (fun t k => XS.aconstNull X128.here hx rfl (hb hby at_116) k) ?_
        show Own.Fin p e below (T128.setTop (mkF m 117 #[.val (.int p1), .val (.int p2), .val (.int p3), .val (.int p4), .val (.int p5), .val (.int (0 : Int32)), .val (.int (1 : Int32)), .val (.int (1 : Int32)), .val (.int (((p2 &&& (255 : Int32))).toUInt32.toUInt16.toUInt32.toInt32)), .val (.int (((p3 &&& (255 : Int32))).toUInt32.toUInt16.toUInt32.toInt32)), .val (.ref b116), .val (.ref b118), .val (.int p3), .val (.ref b120), .unset, .unset, .unset, .unset, .unset] [.null, (.ref b118), .null, (.ref b118), (.ref b128), (.ref b128)])) _
        refine Own.go (fun t k => XS.iload X128.here hx rfl (hb hby at_117) rfl k) ?_
        show Own.Fin p e below (T128.setTop (mkF m 119 #[.val (.int p1), .val (.int p2), .val (.int p3), .val (.int p4), .val (.int p5), .val (.int (0 : Int32)), .val (.int (1 : Int32)), .val (.int (1 : Int32)), .val (.int (((p2 &&& (255 : Int32))).toUInt32.toUInt16.toUInt32.toInt32)), .val (.int (((p3 &&& (255 : Int32))).toUInt32.toUInt16.toUInt32.toInt32)), .val (.ref b116), .val (.ref b118), .val (.int p3), .val (.ref b120), .unset, .unset, .unset, .unset, .unset] [(.int p3), .null, (.ref b118), .null, (.ref b118), (.ref b128), (.ref b128)])) _
        refine Own.cI X128 hx hZ rfl hown (hw _ (List.mem_of_getElem? (i := 29) rfl)) (hw _ (List.mem_of_getElem? (i := 30) rfl)) (hw _ (List.mem_of_getElem? (i := 28) rfl)) (hw _ (List.mem_of_getElem? (i := 31) rfl)) (by decide) (rm6 l Z a0 hw [] b128 b118 b118 p3 h128 n0 Z128 A128 fl130 fl131 fl132 fl133 fl134 ge128) (by decide) (W := 1) (by decide) (argsL := [(.ref b118), .null, (.ref b118), .null, (.int p3)]) (rest := [(.ref b128)]) (by rw [hml]; rfl) (lenOf pd_4 rfl) rfl (Nat.le_of_eq rfl) (hb hby at_119) e128 (by decide) (by decide) ?_
        intro T135 L135 v135 X135 hQ135
        obtain ⟨rfl, N135q, K135q⟩ := hQ135
        have N135 := Fr.app N126 N135q
        have f136 := f129.keep K135q
        have f137 := A128.keep K135q
        have Z135 : n0 ≤ T135.heap.size := Nat.le_trans Z128 K135q.1
        have O135 := O128.keep K135q (allS ge128 all0)
        show Own.Fin p e below (T135.setTop (mkF m 122 #[.val (.int p1), .val (.int p2), .val (.int p3), .val (.int p4), .val (.int p5), .val (.int (0 : Int32)), .val (.int (1 : Int32)), .val (.int (1 : Int32)), .val (.int (((p2 &&& (255 : Int32))).toUInt32.toUInt16.toUInt32.toInt32)), .val (.int (((p3 &&& (255 : Int32))).toUInt32.toUInt16.toUInt32.toInt32)), .val (.ref b116), .val (.ref b118), .val (.int p3), .val (.ref b120), .unset, .unset, .unset, .unset, .unset] [(.ref b128)])) _
        refine Own.go (fun t k => XS.astore X135.here hx rfl (hb hby at_122) rfl rfl (l' := #[.val (.int p1), .val (.int p2), .val (.int p3), .val (.int p4), .val (.int p5), .val (.int (0 : Int32)), .val (.int (1 : Int32)), .val (.int (1 : Int32)), .val (.int (((p2 &&& (255 : Int32))).toUInt32.toUInt16.toUInt32.toInt32)), .val (.int (((p3 &&& (255 : Int32))).toUInt32.toUInt16.toUInt32.toInt32)), .val (.ref b116), .val (.ref b118), .val (.int p3), .val (.ref b120), .val (.ref b128), .unset, .unset, .unset, .unset]) rfl k) ?_
        show Own.Fin p e below (T135.setTop (mkF m 124 #[.val (.int p1), .val (.int p2), .val (.int p3), .val (.int p4), .val (.int p5), .val (.int (0 : Int32)), .val (.int (1 : Int32)), .val (.int (1 : Int32)), .val (.int (((p2 &&& (255 : Int32))).toUInt32.toUInt16.toUInt32.toInt32)), .val (.int (((p3 &&& (255 : Int32))).toUInt32.toUInt16.toUInt32.toInt32)), .val (.ref b116), .val (.ref b118), .val (.int p3), .val (.ref b120), .val (.ref b128), .unset, .unset, .unset, .unset] [])) _
        refine Own.go (fun t k => XS.iload X135.here hx rfl (hb hby at_124) rfl k) ?_
        show Own.Fin p e below (T135.setTop (mkF m 126 #[.val (.int p1), .val (.int p2), .val (.int p3), .val (.int p4), .val (.int p5), .val (.int (0 : Int32)), .val (.int (1 : Int32)), .val (.int (1 : Int32)), .val (.int (((p2 &&& (255 : Int32))).toUInt32.toUInt16.toUInt32.toInt32)), .val (.int (((p3 &&& (255 : Int32))).toUInt32.toUInt16.toUInt32.toInt32)), .val (.ref b116), .val (.ref b118), .val (.int p3), .val (.ref b120), .val (.ref b128), .unset, .unset, .unset, .unset] [(.int (1 : Int32))])) _
        have hc126_137 : ¬ ((1 : Int32) = (0 : Int32)) := by decide
        refine Own.go (fun t k => XS.ifNo X135.here hx rfl (hb hby at_126) rfl ((if0 _ _).trans (feq hc126_137).1) k) ?_
        show Own.Fin p e below (T135.setTop (mkF m 129 #[.val (.int p1), .val (.int p2), .val (.int p3), .val (.int p4), .val (.int p5), .val (.int (0 : Int32)), .val (.int (1 : Int32)), .val (.int (1 : Int32)), .val (.int (((p2 &&& (255 : Int32))).toUInt32.toUInt16.toUInt32.toInt32)), .val (.int (((p3 &&& (255 : Int32))).toUInt32.toUInt16.toUInt32.toInt32)), .val (.ref b116), .val (.ref b118), .val (.int p3), .val (.ref b120), .val (.ref b128), .unset, .unset, .unset, .unset] [])) _
        refine Own.go (fun t k => XS.aload X135.here hx rfl (hb hby at_129) rfl rfl k) ?_
        show Own.Fin p e below (T135.setTop (mkF m 131 #[.val (.int p1), .val (.int p2), .val (.int p3), .val (.int p4), .val (.int p5), .val (.int (0 : Int32)), .val (.int (1 : Int32)), .val (.int (1 : Int32)), .val (.int (((p2 &&& (255 : Int32))).toUInt32.toUInt16.toUInt32.toInt32)), .val (.int (((p3 &&& (255 : Int32))).toUInt32.toUInt16.toUInt32.toInt32)), .val (.ref b116), .val (.ref b118), .val (.int p3), .val (.ref b120), .val (.ref b128), .unset, .unset, .unset, .unset] [(.ref b128)])) _
        refine Own.go (fun t k => XS.goto X135.here hx rfl (pc0 := 131) (pc' := 136) rfl (hb hby at_131) (by decide) (by decide) k) ?_
        show Own.Fin p e below (T135.setTop (mkF m 136 #[.val (.int p1), .val (.int p2), .val (.int p3), .val (.int p4), .val (.int p5), .val (.int (0 : Int32)), .val (.int (1 : Int32)), .val (.int (1 : Int32)), .val (.int (((p2 &&& (255 : Int32))).toUInt32.toUInt16.toUInt32.toInt32)), .val (.int (((p3 &&& (255 : Int32))).toUInt32.toUInt16.toUInt32.toInt32)), .val (.ref b116), .val (.ref b118), .val (.int p3), .val (.ref b120), .val (.ref b128), .unset, .unset, .unset, .unset] [(.ref b128)])) _
        refine Own.go (fun t k => XS.astore X135.here hx rfl (hb hby at_136) rfl rfl (l' := #[.val (.int p1), .val (.int p2), .val (.int p3), .val (.int p4), .val (.int p5), .val (.int (0 : Int32)), .val (.int (1 : Int32)), .val (.int (1 : Int32)), .val (.int (((p2 &&& (255 : Int32))).toUInt32.toUInt16.toUInt32.toInt32)), .val (.int (((p3 &&& (255 : Int32))).toUInt32.toUInt16.toUInt32.toInt32)), .val (.ref b116), .val (.ref b118), .val (.int p3), .val (.ref b120), .val (.ref b128), .val (.ref b128), .unset, .unset, .unset]) rfl k) ?_
        show Own.Fin p e below (T135.setTop (mkF m 138 #[.val (.int p1), .val (.int p2), .val (.int p3), .val (.int p4), .val (.int p5), .val (.int (0 : Int32)), .val (.int (1 : Int32)), .val (.int (1 : Int32)), .val (.int (((p2 &&& (255 : Int32))).toUInt32.toUInt16.toUInt32.toInt32)), .val (.int (((p3 &&& (255 : Int32))).toUInt32.toUInt16.toUInt32.toInt32)), .val (.ref b116), .val (.ref b118), .val (.int p3), .val (.ref b120), .val (.ref b128), .val (.ref b128), .unset, .unset, .unset] [])) _
        refine Own.go (fun t k => XS.iload X135.here hx rfl (hb hby at_138) rfl k) ?_
        show Own.Fin p e below (T135.setTop (mkF m 140 #[.val (.int p1), .val (.int p2), .val (.int p3), .val (.int p4), .val (.int p5), .val (.int (0 : Int32)), .val (.int (1 : Int32)), .val (.int (1 : Int32)), .val (.int (((p2 &&& (255 : Int32))).toUInt32.toUInt16.toUInt32.toInt32)), .val (.int (((p3 &&& (255 : Int32))).toUInt32.toUInt16.toUInt32.toInt32)), .val (.ref b116), .val (.ref b118), .val (.int p3), .val (.ref b120), .val (.ref b128), .val (.ref b128), .unset, .unset, .unset] [(.int (1 : Int32))])) _
        have hc140_138 : ¬ ((1 : Int32) = (0 : Int32)) := by decide
        refine Own.go (fun t k => XS.ifNo X135.here hx rfl (hb hby at_140) rfl ((if0 _ _).trans (feq hc140_138).1) k) ?_
        show Own.Fin p e below (T135.setTop (mkF m 143 #[.val (.int p1), .val (.int p2), .val (.int p3), .val (.int p4), .val (.int p5), .val (.int (0 : Int32)), .val (.int (1 : Int32)), .val (.int (1 : Int32)), .val (.int (((p2 &&& (255 : Int32))).toUInt32.toUInt16.toUInt32.toInt32)), .val (.int (((p3 &&& (255 : Int32))).toUInt32.toUInt16.toUInt32.toInt32)), .val (.ref b116), .val (.ref b118), .val (.int p3), .val (.ref b120), .val (.ref b128), .val (.ref b128), .unset, .unset, .unset] [])) _
        refine Own.go (fun t k => XS.aload X135.here hx rfl (hb hby at_143) rfl rfl k) ?_
        show Own.Fin p e below (T135.setTop (mkF m 145 #[.val (.int p1), .val (.int p2), .val (.int p3), .val (.int p4), .val (.int p5), .val (.int (0 : Int32)), .val (.int (1 : Int32)), .val (.int (1 : Int32)), .val (.int (((p2 &&& (255 : Int32))).toUInt32.toUInt16.toUInt32.toInt32)), .val (.int (((p3 &&& (255 : Int32))).toUInt32.toUInt16.toUInt32.toInt32)), .val (.ref b116), .val (.ref b118), .val (.int p3), .val (.ref b120), .val (.ref b128), .val (.ref b128), .unset, .unset, .unset] [(.ref b128)])) _
        refine Own.go (fun t k => XS.goto X135.here hx rfl (pc0 := 145) (pc' := 150) rfl (hb hby at_145) (by decide) (by decide) k) ?_
        show Own.Fin p e below (T135.setTop (mkF m 150 #[.val (.int p1), .val (.int p2), .val (.int p3), .val (.int p4), .val (.int p5), .val (.int (0 : Int32)), .val (.int (1 : Int32)), .val (.int (1 : Int32)), .val (.int (((p2 &&& (255 : Int32))).toUInt32.toUInt16.toUInt32.toInt32)), .val (.int (((p3 &&& (255 : Int32))).toUInt32.toUInt16.toUInt32.toInt32)), .val (.ref b116), .val (.ref b118), .val (.int p3), .val (.ref b120), .val (.ref b128), .val (.ref b128), .unset, .unset, .unset] [(.ref b128)])) _
        refine Own.go (fun t k => XS.astore X135.here hx rfl (hb hby at_150) rfl rfl (l' := #[.val (.int p1), .val (.int p2), .val (.int p3), .val (.int p4), .val (.int p5), .val (.int (0 : Int32)), .val (.int (1 : Int32)), .val (.int (1 : Int32)), .val (.int (((p2 &&& (255 : Int32))).toUInt32.toUInt16.toUInt32.toInt32)), .val (.int (((p3 &&& (255 : Int32))).toUInt32.toUInt16.toUInt32.toInt32)), .val (.ref b116), .val (.ref b118), .val (.int p3), .val (.ref b120), .val (.ref b128), .val (.ref b128), .val (.ref b128), .unset, .unset]) rfl k) ?_
        show Own.Fin p e below (T135.setTop (mkF m 152 #[.val (.int p1), .val (.int p2), .val (.int p3), .val (.int p4), .val (.int p5), .val (.int (0 : Int32)), .val (.int (1 : Int32)), .val (.int (1 : Int32)), .val (.int (((p2 &&& (255 : Int32))).toUInt32.toUInt16.toUInt32.toInt32)), .val (.int (((p3 &&& (255 : Int32))).toUInt32.toUInt16.toUInt32.toInt32)), .val (.ref b116), .val (.ref b118), .val (.int p3), .val (.ref b120), .val (.ref b128), .val (.ref b128), .val (.ref b128), .unset, .unset] [])) _
        obtain ⟨T140, h140, X140, e140, E140, A140, D140, -, st140⟩ := newO X135 hx hZ hown (hw _ (List.mem_of_getElem? (i := 43) rfl)) (hw _ (List.mem_of_getElem? (i := 44) rfl)) (hw _ (List.mem_of_getElem? (i := 45) rfl)) rfl (g := (mkF m 152 #[.val (.int p1), .val (.int p2), .val (.int p3), .val (.int p4), .val (.int p5), .val (.int (0 : Int32)), .val (.int (1 : Int32)), .val (.int (1 : Int32)), .val (.int (((p2 &&& (255 : Int32))).toUInt32.toUInt16.toUInt32.toInt32)), .val (.int (((p3 &&& (255 : Int32))).toUInt32.toUInt16.toUInt32.toInt32)), .val (.ref b116), .val (.ref b118), .val (.int p3), .val (.ref b120), .val (.ref b128), .val (.ref b128), .val (.ref b128), .unset, .unset] [])) rfl (hb hby at_152) (by decide) (by decide)
        obtain ⟨b140, gb140⟩ : ∃ z, z = T135.heap.size := ⟨_, rfl⟩
        rw [← gb140] at A140 D140 st140
        refine Own.go st140 ?_
        have ge140 : n0 ≤ b140 := by rw [gb140]; exact Z135
        have ne140_b120 : b120 ≠ b140 := Nat.ne_of_lt (Nat.lt_of_lt_of_le f136.lt (Nat.le_of_eq gb140.symm))
        have ne140_b128 : b128 ≠ b140 := Nat.ne_of_lt (Nat.lt_of_lt_of_le f137.lt (Nat.le_of_eq gb140.symm))
        have Z140 : n0 ≤ h140.size := Nat.le_trans Z135 E140.1
        have f141 := f136.ext E140
        have f142 := f137.ext E140
        have O140 := O135.ext E140
        have fl143 : Fld Z h140 b140 "com/example/arachne/arachne/Edge" "source" "Lcom/example/arachne/arachne/Node;" .null := D140 (Or.inr (hw _ (List.mem_of_getElem? (i := 51) rfl))) (ty := (.object "com/example/arachne/arachne/Node")) (by decide)
        have fl144 : Fld Z h140 b140 "com/example/arachne/arachne/Edge" "target" "Lcom/example/arachne/arachne/Node;" .null := D140 (Or.inr (hw _ (List.mem_of_getElem? (i := 53) rfl))) (ty := (.object "com/example/arachne/arachne/Node")) (by decide)
        have fl145 : Fld Z h140 b140 "com/example/arachne/arachne/Edge" "index" "I" (.int (0 : Int32)) := D140 (Or.inr (hw _ (List.mem_of_getElem? (i := 55) rfl))) (ty := .int) (by decide)
        show Own.Fin p e below (T140.setTop (mkF m 155 #[.val (.int p1), .val (.int p2), .val (.int p3), .val (.int p4), .val (.int p5), .val (.int (0 : Int32)), .val (.int (1 : Int32)), .val (.int (1 : Int32)), .val (.int (((p2 &&& (255 : Int32))).toUInt32.toUInt16.toUInt32.toInt32)), .val (.int (((p3 &&& (255 : Int32))).toUInt32.toUInt16.toUInt32.toInt32)), .val (.ref b116), .val (.ref b118), .val (.int p3), .val (.ref b120), .val (.ref b128), .val (.ref b128), .val (.ref b128), .unset, .unset] [(.ref b140)])) _
        refine Own.go (fun t k => XS.dup X140.here hx rfl (hb hby at_155) rfl rfl k) ?_
        show Own.Fin p e below (T140.setTop (mkF m 156 #[.val (.int p1), .val (.int p2), .val (.int p3), .val (.int p4), .val (.int p5), .val (.int (0 : Int32)), .val (.int (1 : Int32)), .val (.int (1 : Int32)), .val (.int (((p2 &&& (255 : Int32))).toUInt32.toUInt16.toUInt32.toInt32)), .val (.int (((p3 &&& (255 : Int32))).toUInt32.toUInt16.toUInt32.toInt32)), .val (.ref b116), .val (.ref b118), .val (.int p3), .val (.ref b120), .val (.ref b128), .val (.ref b128), .val (.ref b128), .unset, .unset] [(.ref b140), (.ref b140)])) _
        refine Own.go (fun t k => XS.aload X140.here hx rfl (hb hby at_156) rfl rfl k) ?_
        show Own.Fin p e below (T140.setTop (mkF m 158 #[.val (.int p1), .val (.int p2), .val (.int p3), .val (.int p4), .val (.int p5), .val (.int (0 : Int32)), .val (.int (1 : Int32)), .val (.int (1 : Int32)), .val (.int (((p2 &&& (255 : Int32))).toUInt32.toUInt16.toUInt32.toInt32)), .val (.int (((p3 &&& (255 : Int32))).toUInt32.toUInt16.toUInt32.toInt32)), .val (.ref b116), .val (.ref b118), .val (.int p3), .val (.ref b120), .val (.ref b128), .val (.ref b128), .val (.ref b128), .unset, .unset] [(.ref b128), (.ref b140), (.ref b140)])) _
        refine Own.go (fun t k => XS.aload X140.here hx rfl (hb hby at_158) rfl rfl k) ?_
        show Own.Fin p e below (T140.setTop (mkF m 160 #[.val (.int p1), .val (.int p2), .val (.int p3), .val (.int p4), .val (.int p5), .val (.int (0 : Int32)), .val (.int (1 : Int32)), .val (.int (1 : Int32)), .val (.int (((p2 &&& (255 : Int32))).toUInt32.toUInt16.toUInt32.toInt32)), .val (.int (((p3 &&& (255 : Int32))).toUInt32.toUInt16.toUInt32.toInt32)), .val (.ref b116), .val (.ref b118), .val (.int p3), .val (.ref b120), .val (.ref b128), .val (.ref b128), .val (.ref b128), .unset, .unset] [(.ref b128), (.ref b128), (.ref b140), (.ref b140)])) _
        refine Own.go (fun t k => XS.iload X140.here hx rfl (hb hby at_160) rfl k) ?_
        show Own.Fin p e below (T140.setTop (mkF m 162 #[.val (.int p1), .val (.int p2), .val (.int p3), .val (.int p4), .val (.int p5), .val (.int (0 : Int32)), .val (.int (1 : Int32)), .val (.int (1 : Int32)), .val (.int (((p2 &&& (255 : Int32))).toUInt32.toUInt16.toUInt32.toInt32)), .val (.int (((p3 &&& (255 : Int32))).toUInt32.toUInt16.toUInt32.toInt32)), .val (.ref b116), .val (.ref b118), .val (.int p3), .val (.ref b120), .val (.ref b128), .val (.ref b128), .val (.ref b128), .unset, .unset] [(.int p5), (.ref b128), (.ref b128), (.ref b140), (.ref b140)])) _
        refine Own.cI X140 hx hZ rfl hown (hw _ (List.mem_of_getElem? (i := 46) rfl)) (hw _ (List.mem_of_getElem? (i := 47) rfl)) (hw _ (List.mem_of_getElem? (i := 45) rfl)) (hw _ (List.mem_of_getElem? (i := 48) rfl)) (by decide) (rm7 l Z a0 hw [] b140 b128 b128 p5 h140 n0 Z140 A140 fl143 fl144 fl145 ge140) (by decide) (W := 1) (by decide) (argsL := [(.ref b128), (.ref b128), (.int p5)]) (rest := [(.ref b140)]) (by rw [hml]; rfl) (lenOf pd_5 rfl) rfl (Nat.le_of_eq rfl) (hb hby at_162) e140 (by decide) (by decide) ?_
        intro T146 L146 v146 X146 hQ146
        obtain ⟨rfl, N146q, K146q, FS146, FT146⟩ := hQ146
        have N146 := Fr.app N135 N146q
        have f147 := f141.keep K146q
        have f148 := f142.keep K146q
        have f149 := A140.keep K146q
        have Z146 : n0 ≤ T146.heap.size := Nat.le_trans Z140 K146q.1
        have O146 := O140.keep K146q (allS ge140 all0)
        show Own.Fin p e below (T146.setTop (mkF m 165 #[.val (.int p1), .val (.int p2), .val (.int p3), .val (.int p4), .val (.int p5), .val (.int (0 : Int32)), .val (.int (1 : Int32)), .val (.int (1 : Int32)), .val (.int (((p2 &&& (255 : Int32))).toUInt32.toUInt16.toUInt32.toInt32)), .val (.int (((p3 &&& (255 : Int32))).toUInt32.toUInt16.toUInt32.toInt32)), .val (.ref b116), .val (.ref b118), .val (.int p3), .val (.ref b120), .val (.ref b128), .val (.ref b128), .val (.ref b128), .unset, .unset] [(.ref b140)])) _
        refine Own.go (fun t k => XS.astore X146.here hx rfl (hb hby at_165) rfl rfl (l' := #[.val (.int p1), .val (.int p2), .val (.int p3), .val (.int p4), .val (.int p5), .val (.int (0 : Int32)), .val (.int (1 : Int32)), .val (.int (1 : Int32)), .val (.int (((p2 &&& (255 : Int32))).toUInt32.toUInt16.toUInt32.toInt32)), .val (.int (((p3 &&& (255 : Int32))).toUInt32.toUInt16.toUInt32.toInt32)), .val (.ref b116), .val (.ref b118), .val (.int p3), .val (.ref b120), .val (.ref b128), .val (.ref b128), .val (.ref b128), .val (.ref b140), .unset]) rfl k) ?_
        show Own.Fin p e below (T146.setTop (mkF m 167 #[.val (.int p1), .val (.int p2), .val (.int p3), .val (.int p4), .val (.int p5), .val (.int (0 : Int32)), .val (.int (1 : Int32)), .val (.int (1 : Int32)), .val (.int (((p2 &&& (255 : Int32))).toUInt32.toUInt16.toUInt32.toInt32)), .val (.int (((p3 &&& (255 : Int32))).toUInt32.toUInt16.toUInt32.toInt32)), .val (.ref b116), .val (.ref b118), .val (.int p3), .val (.ref b120), .val (.ref b128), .val (.ref b128), .val (.ref b128), .val (.ref b140), .unset] [])) _
        refine Own.go (fun t k => XS.iload X146.here hx rfl (hb hby at_167) rfl k) ?_
        show Own.Fin p e below (T146.setTop (mkF m 169 #[.val (.int p1), .val (.int p2), .val (.int p3), .val (.int p4), .val (.int p5), .val (.int (0 : Int32)), .val (.int (1 : Int32)), .val (.int (1 : Int32)), .val (.int (((p2 &&& (255 : Int32))).toUInt32.toUInt16.toUInt32.toInt32)), .val (.int (((p3 &&& (255 : Int32))).toUInt32.toUInt16.toUInt32.toInt32)), .val (.ref b116), .val (.ref b118), .val (.int p3), .val (.ref b120), .val (.ref b128), .val (.ref b128), .val (.ref b128), .val (.ref b140), .unset] [(.int (1 : Int32))])) _
        refine Own.go (fun t k => XS.iload X146.here hx rfl (hb hby at_169) rfl k) ?_
        show Own.Fin p e below (T146.setTop (mkF m 171 #[.val (.int p1), .val (.int p2), .val (.int p3), .val (.int p4), .val (.int p5), .val (.int (0 : Int32)), .val (.int (1 : Int32)), .val (.int (1 : Int32)), .val (.int (((p2 &&& (255 : Int32))).toUInt32.toUInt16.toUInt32.toInt32)), .val (.int (((p3 &&& (255 : Int32))).toUInt32.toUInt16.toUInt32.toInt32)), .val (.ref b116), .val (.ref b118), .val (.int p3), .val (.ref b120), .val (.ref b128), .val (.ref b128), .val (.ref b128), .val (.ref b140), .unset] [(.int (1 : Int32)), (.int (1 : Int32))])) _
        have hc171_149 : (1 : Int32) = (1 : Int32) := by decide
        refine Own.go (fun t k => XS.icmpNo X146.here hx rfl (hb hby at_171) rfl (teq hc171_149).2 k) ?_
        show Own.Fin p e below (T146.setTop (mkF m 174 #[.val (.int p1), .val (.int p2), .val (.int p3), .val (.int p4), .val (.int p5), .val (.int (0 : Int32)), .val (.int (1 : Int32)), .val (.int (1 : Int32)), .val (.int (((p2 &&& (255 : Int32))).toUInt32.toUInt16.toUInt32.toInt32)), .val (.int (((p3 &&& (255 : Int32))).toUInt32.toUInt16.toUInt32.toInt32)), .val (.ref b116), .val (.ref b118), .val (.int p3), .val (.ref b120), .val (.ref b128), .val (.ref b128), .val (.ref b128), .val (.ref b140), .unset] [])) _
        refine Own.go (fun t k => XS.iconst X146.here hx rfl (hb hby at_174) k) ?_
        show Own.Fin p e below (T146.setTop (mkF m 175 #[.val (.int p1), .val (.int p2), .val (.int p3), .val (.int p4), .val (.int p5), .val (.int (0 : Int32)), .val (.int (1 : Int32)), .val (.int (1 : Int32)), .val (.int (((p2 &&& (255 : Int32))).toUInt32.toUInt16.toUInt32.toInt32)), .val (.int (((p3 &&& (255 : Int32))).toUInt32.toUInt16.toUInt32.toInt32)), .val (.ref b116), .val (.ref b118), .val (.int p3), .val (.ref b120), .val (.ref b128), .val (.ref b128), .val (.ref b128), .val (.ref b140), .unset] [(.int (1 : Int32))])) _
        refine Own.go (fun t k => XS.goto X146.here hx rfl (pc0 := 175) (pc' := 179) rfl (hb hby at_175) (by decide) (by decide) k) ?_
        show Own.Fin p e below (T146.setTop (mkF m 179 #[.val (.int p1), .val (.int p2), .val (.int p3), .val (.int p4), .val (.int p5), .val (.int (0 : Int32)), .val (.int (1 : Int32)), .val (.int (1 : Int32)), .val (.int (((p2 &&& (255 : Int32))).toUInt32.toUInt16.toUInt32.toInt32)), .val (.int (((p3 &&& (255 : Int32))).toUInt32.toUInt16.toUInt32.toInt32)), .val (.ref b116), .val (.ref b118), .val (.int p3), .val (.ref b120), .val (.ref b128), .val (.ref b128), .val (.ref b128), .val (.ref b140), .unset] [(.int (1 : Int32))])) _
        refine Own.go (fun t k => XS.istore X146.here hx rfl (hb hby at_179) rfl (l' := #[.val (.int p1), .val (.int p2), .val (.int p3), .val (.int p4), .val (.int p5), .val (.int (0 : Int32)), .val (.int (1 : Int32)), .val (.int (1 : Int32)), .val (.int (((p2 &&& (255 : Int32))).toUInt32.toUInt16.toUInt32.toInt32)), .val (.int (((p3 &&& (255 : Int32))).toUInt32.toUInt16.toUInt32.toInt32)), .val (.ref b116), .val (.ref b118), .val (.int p3), .val (.ref b120), .val (.ref b128), .val (.ref b128), .val (.ref b128), .val (.ref b140), .val (.int (1 : Int32))]) rfl k) ?_
        show Own.Fin p e below (T146.setTop (mkF m 181 #[.val (.int p1), .val (.int p2), .val (.int p3), .val (.int p4), .val (.int p5), .val (.int (0 : Int32)), .val (.int (1 : Int32)), .val (.int (1 : Int32)), .val (.int (((p2 &&& (255 : Int32))).toUInt32.toUInt16.toUInt32.toInt32)), .val (.int (((p3 &&& (255 : Int32))).toUInt32.toUInt16.toUInt32.toInt32)), .val (.ref b116), .val (.ref b118), .val (.int p3), .val (.ref b120), .val (.ref b128), .val (.ref b128), .val (.ref b128), .val (.ref b140), .val (.int (1 : Int32))] [])) _
        refine Own.go (fun t k => XS.aload X146.here hx rfl (hb hby at_181) rfl rfl k) ?_
        show Own.Fin p e below (T146.setTop (mkF m 183 #[.val (.int p1), .val (.int p2), .val (.int p3), .val (.int p4), .val (.int p5), .val (.int (0 : Int32)), .val (.int (1 : Int32)), .val (.int (1 : Int32)), .val (.int (((p2 &&& (255 : Int32))).toUInt32.toUInt16.toUInt32.toInt32)), .val (.int (((p3 &&& (255 : Int32))).toUInt32.toUInt16.toUInt32.toInt32)), .val (.ref b116), .val (.ref b118), .val (.int p3), .val (.ref b120), .val (.ref b128), .val (.ref b128), .val (.ref b128), .val (.ref b140), .val (.int (1 : Int32))] [(.ref b140)])) _
        refine Own.cV X146 hx hZ hown (hw _ (List.mem_of_getElem? (i := 56) rfl)) (hw _ (List.mem_of_getElem? (i := 57) rfl)) (notFace_of_selects (args := #[]) (mvT hZ (hw _ (List.mem_of_getElem? (i := 59) rfl)))) (hw _ (List.mem_of_getElem? (i := 59) rfl)) (hw _ (List.mem_of_getElem? (i := 58) rfl)) (hw _ (List.mem_of_getElem? (i := 45) rfl)) (hw _ (List.mem_of_getElem? (i := 60) rfl)) (by decide) (rm8 l Z a0 hw [] b140 b128 b128 T146.heap n0 Z146 FS146 FT146) (by decide) (W := 0) (by decide) (argsL := []) (rest := []) f149 (by rw [hml]; rfl) (lenOf pd_6 rfl) rfl (Nat.le_of_eq rfl) (hb hby at_183) rfl (by decide) (by decide) ?_
        intro T151 L151 v151 X151 hQ151
        obtain ⟨rfl, N151q, e151⟩ := hQ151
        have N151 := Fr.app N146 N151q
        rw [if_pos rfl]
        show Own.Fin p e below (T151.setTop (mkF m 186 #[.val (.int p1), .val (.int p2), .val (.int p3), .val (.int p4), .val (.int p5), .val (.int (0 : Int32)), .val (.int (1 : Int32)), .val (.int (1 : Int32)), .val (.int (((p2 &&& (255 : Int32))).toUInt32.toUInt16.toUInt32.toInt32)), .val (.int (((p3 &&& (255 : Int32))).toUInt32.toUInt16.toUInt32.toInt32)), .val (.ref b116), .val (.ref b118), .val (.int p3), .val (.ref b120), .val (.ref b128), .val (.ref b128), .val (.ref b128), .val (.ref b140), .val (.int (1 : Int32))] [(.int (1 : Int32))])) _
        refine Own.go (fun t k => XS.iload X151.here hx rfl (hb hby at_186) rfl k) ?_
        show Own.Fin p e below (T151.setTop (mkF m 188 #[.val (.int p1), .val (.int p2), .val (.int p3), .val (.int p4), .val (.int p5), .val (.int (0 : Int32)), .val (.int (1 : Int32)), .val (.int (1 : Int32)), .val (.int (((p2 &&& (255 : Int32))).toUInt32.toUInt16.toUInt32.toInt32)), .val (.int (((p3 &&& (255 : Int32))).toUInt32.toUInt16.toUInt32.toInt32)), .val (.ref b116), .val (.ref b118), .val (.int p3), .val (.ref b120), .val (.ref b128), .val (.ref b128), .val (.ref b128), .val (.ref b140), .val (.int (1 : Int32))] [(.int (1 : Int32)), (.int (1 : Int32))])) _
        have hc188_151 : (1 : Int32) = (1 : Int32) := by decide
        refine Own.go (fun t k => XS.icmpNo X151.here hx rfl (hb hby at_188) rfl (teq hc188_151).2 k) ?_
        show Own.Fin p e below (T151.setTop (mkF m 191 #[.val (.int p1), .val (.int p2), .val (.int p3), .val (.int p4), .val (.int p5), .val (.int (0 : Int32)), .val (.int (1 : Int32)), .val (.int (1 : Int32)), .val (.int (((p2 &&& (255 : Int32))).toUInt32.toUInt16.toUInt32.toInt32)), .val (.int (((p3 &&& (255 : Int32))).toUInt32.toUInt16.toUInt32.toInt32)), .val (.ref b116), .val (.ref b118), .val (.int p3), .val (.ref b120), .val (.ref b128), .val (.ref b128), .val (.ref b128), .val (.ref b140), .val (.int (1 : Int32))] [])) _
        refine Own.go (fun t k => XS.iconst X151.here hx rfl (hb hby at_191) k) ?_
        show Own.Fin p e below (T151.setTop (mkF m 192 #[.val (.int p1), .val (.int p2), .val (.int p3), .val (.int p4), .val (.int p5), .val (.int (0 : Int32)), .val (.int (1 : Int32)), .val (.int (1 : Int32)), .val (.int (((p2 &&& (255 : Int32))).toUInt32.toUInt16.toUInt32.toInt32)), .val (.int (((p3 &&& (255 : Int32))).toUInt32.toUInt16.toUInt32.toInt32)), .val (.ref b116), .val (.ref b118), .val (.int p3), .val (.ref b120), .val (.ref b128), .val (.ref b128), .val (.ref b128), .val (.ref b140), .val (.int (1 : Int32))] [(.int (1 : Int32))])) _
        refine Own.go (fun t k => XS.goto X151.here hx rfl (pc0 := 192) (pc' := 196) rfl (hb hby at_192) (by decide) (by decide) k) ?_
        show Own.Fin p e below (T151.setTop (mkF m 196 #[.val (.int p1), .val (.int p2), .val (.int p3), .val (.int p4), .val (.int p5), .val (.int (0 : Int32)), .val (.int (1 : Int32)), .val (.int (1 : Int32)), .val (.int (((p2 &&& (255 : Int32))).toUInt32.toUInt16.toUInt32.toInt32)), .val (.int (((p3 &&& (255 : Int32))).toUInt32.toUInt16.toUInt32.toInt32)), .val (.ref b116), .val (.ref b118), .val (.int p3), .val (.ref b120), .val (.ref b128), .val (.ref b128), .val (.ref b128), .val (.ref b140), .val (.int (1 : Int32))] [(.int (1 : Int32))])) _
        refine Own.retN X151 hx Bd.notSynchronized (t := .boolean) Bd.returns (by simp) (hb hby at_196) (by decide) (by decide) ?_
        exact ⟨rfl, N151⟩
  · skip
    refine Own.go (fun t k => XS.ifNo X0.here hx rfl (hb hby at_3) rfl ((if0 _ _).trans (feq hc3_0).1) k) ?_
    show Own.Fin p e below (s₁.setTop (mkF m 6 #[.val (.int p1), .val (.int p2), .val (.int p3), .val (.int p4), .val (.int p5), .unset, .unset, .unset, .unset, .unset, .unset, .unset, .unset, .unset, .unset, .unset, .unset, .unset, .unset] [])) _
    refine Own.go (fun t k => XS.iconst X0.here hx rfl (hb hby at_6) k) ?_
    show Own.Fin p e below (s₁.setTop (mkF m 7 #[.val (.int p1), .val (.int p2), .val (.int p3), .val (.int p4), .val (.int p5), .unset, .unset, .unset, .unset, .unset, .unset, .unset, .unset, .unset, .unset, .unset, .unset, .unset, .unset] [(.int (1 : Int32))])) _
    refine Own.go (fun t k => XS.goto X0.here hx rfl (pc0 := 7) (pc' := 11) rfl (hb hby at_7) (by decide) (by decide) k) ?_
    show Own.Fin p e below (s₁.setTop (mkF m 11 #[.val (.int p1), .val (.int p2), .val (.int p3), .val (.int p4), .val (.int p5), .unset, .unset, .unset, .unset, .unset, .unset, .unset, .unset, .unset, .unset, .unset, .unset, .unset, .unset] [(.int (1 : Int32))])) _
    refine Own.go (fun t k => XS.istore X0.here hx rfl (hb hby at_11) rfl (l' := #[.val (.int p1), .val (.int p2), .val (.int p3), .val (.int p4), .val (.int p5), .val (.int (1 : Int32)), .unset, .unset, .unset, .unset, .unset, .unset, .unset, .unset, .unset, .unset, .unset, .unset, .unset]) rfl k) ?_
    show Own.Fin p e below (s₁.setTop (mkF m 13 #[.val (.int p1), .val (.int p2), .val (.int p3), .val (.int p4), .val (.int p5), .val (.int (1 : Int32)), .unset, .unset, .unset, .unset, .unset, .unset, .unset, .unset, .unset, .unset, .unset, .unset, .unset] [])) _
    refine Own.go (fun t k => XS.iloadN X0.here hx rfl (hb hby at_13) rfl k) ?_
    show Own.Fin p e below (s₁.setTop (mkF m 14 #[.val (.int p1), .val (.int p2), .val (.int p3), .val (.int p4), .val (.int p5), .val (.int (1 : Int32)), .unset, .unset, .unset, .unset, .unset, .unset, .unset, .unset, .unset, .unset, .unset, .unset, .unset] [(.int p1)])) _
    refine Own.go (fun t k => XS.iconst X0.here hx rfl (hb hby at_14) k) ?_
    show Own.Fin p e below (s₁.setTop (mkF m 15 #[.val (.int p1), .val (.int p2), .val (.int p3), .val (.int p4), .val (.int p5), .val (.int (1 : Int32)), .unset, .unset, .unset, .unset, .unset, .unset, .unset, .unset, .unset, .unset, .unset, .unset, .unset] [(.int (1 : Int32)), (.int p1)])) _
    refine Own.go (fun t k => XS.iand X0.here hx rfl (hb hby at_15) rfl k) ?_
    show Own.Fin p e below (s₁.setTop (mkF m 16 #[.val (.int p1), .val (.int p2), .val (.int p3), .val (.int p4), .val (.int p5), .val (.int (1 : Int32)), .unset, .unset, .unset, .unset, .unset, .unset, .unset, .unset, .unset, .unset, .unset, .unset, .unset] [(.int (p1 &&& (1 : Int32)))])) _
    by_cases hc16_152 : (p1 &&& (1 : Int32)) = (0 : Int32)
    · skip
      refine Own.go (fun t k => XS.ifYes X0.here hx rfl (pc0 := 16) (pc' := 23) rfl (hb hby at_16) rfl ((if0 _ _).trans (teq hc16_152).1) (by decide) (by decide) k) ?_
      show Own.Fin p e below (s₁.setTop (mkF m 23 #[.val (.int p1), .val (.int p2), .val (.int p3), .val (.int p4), .val (.int p5), .val (.int (1 : Int32)), .unset, .unset, .unset, .unset, .unset, .unset, .unset, .unset, .unset, .unset, .unset, .unset, .unset] [])) _
      refine Own.go (fun t k => XS.iconst X0.here hx rfl (hb hby at_23) k) ?_
      show Own.Fin p e below (s₁.setTop (mkF m 24 #[.val (.int p1), .val (.int p2), .val (.int p3), .val (.int p4), .val (.int p5), .val (.int (1 : Int32)), .unset, .unset, .unset, .unset, .unset, .unset, .unset, .unset, .unset, .unset, .unset, .unset, .unset] [(.int (0 : Int32))])) _
      refine Own.go (fun t k => XS.istore X0.here hx rfl (hb hby at_24) rfl (l' := #[.val (.int p1), .val (.int p2), .val (.int p3), .val (.int p4), .val (.int p5), .val (.int (1 : Int32)), .val (.int (0 : Int32)), .unset, .unset, .unset, .unset, .unset, .unset, .unset, .unset, .unset, .unset, .unset, .unset]) rfl k) ?_
      show Own.Fin p e below (s₁.setTop (mkF m 26 #[.val (.int p1), .val (.int p2), .val (.int p3), .val (.int p4), .val (.int p5), .val (.int (1 : Int32)), .val (.int (0 : Int32)), .unset, .unset, .unset, .unset, .unset, .unset, .unset, .unset, .unset, .unset, .unset, .unset] [])) _
      refine Own.go (fun t k => XS.iloadN X0.here hx rfl (hb hby at_26) rfl k) ?_
      show Own.Fin p e below (s₁.setTop (mkF m 27 #[.val (.int p1), .val (.int p2), .val (.int p3), .val (.int p4), .val (.int p5), .val (.int (1 : Int32)), .val (.int (0 : Int32)), .unset, .unset, .unset, .unset, .unset, .unset, .unset, .unset, .unset, .unset, .unset, .unset] [(.int p1)])) _
      refine Own.go (fun t k => XS.iconst X0.here hx rfl (hb hby at_27) k) ?_
      show Own.Fin p e below (s₁.setTop (mkF m 28 #[.val (.int p1), .val (.int p2), .val (.int p3), .val (.int p4), .val (.int p5), .val (.int (1 : Int32)), .val (.int (0 : Int32)), .unset, .unset, .unset, .unset, .unset, .unset, .unset, .unset, .unset, .unset, .unset, .unset] [(.int (2 : Int32)), (.int p1)])) _
      refine Own.go (fun t k => XS.iand X0.here hx rfl (hb hby at_28) rfl k) ?_
      show Own.Fin p e below (s₁.setTop (mkF m 29 #[.val (.int p1), .val (.int p2), .val (.int p3), .val (.int p4), .val (.int p5), .val (.int (1 : Int32)), .val (.int (0 : Int32)), .unset, .unset, .unset, .unset, .unset, .unset, .unset, .unset, .unset, .unset, .unset, .unset] [(.int (p1 &&& (2 : Int32)))])) _
      by_cases hc29_153 : (p1 &&& (2 : Int32)) = (0 : Int32)
      · skip
        refine Own.go (fun t k => XS.ifYes X0.here hx rfl (pc0 := 29) (pc' := 36) rfl (hb hby at_29) rfl ((if0 _ _).trans (teq hc29_153).1) (by decide) (by decide) k) ?_
        show Own.Fin p e below (s₁.setTop (mkF m 36 #[.val (.int p1), .val (.int p2), .val (.int p3), .val (.int p4), .val (.int p5), .val (.int (1 : Int32)), .val (.int (0 : Int32)), .unset, .unset, .unset, .unset, .unset, .unset, .unset, .unset, .unset, .unset, .unset, .unset] [])) _
        refine Own.go (fun t k => XS.iconst X0.here hx rfl (hb hby at_36) k) ?_
        show Own.Fin p e below (s₁.setTop (mkF m 37 #[.val (.int p1), .val (.int p2), .val (.int p3), .val (.int p4), .val (.int p5), .val (.int (1 : Int32)), .val (.int (0 : Int32)), .unset, .unset, .unset, .unset, .unset, .unset, .unset, .unset, .unset, .unset, .unset, .unset] [(.int (0 : Int32))])) _
        refine Own.go (fun t k => XS.istore X0.here hx rfl (hb hby at_37) rfl (l' := #[.val (.int p1), .val (.int p2), .val (.int p3), .val (.int p4), .val (.int p5), .val (.int (1 : Int32)), .val (.int (0 : Int32)), .val (.int (0 : Int32)), .unset, .unset, .unset, .unset, .unset, .unset, .unset, .unset, .unset, .unset, .unset]) rfl k) ?_
        show Own.Fin p e below (s₁.setTop (mkF m 39 #[.val (.int p1), .val (.int p2), .val (.int p3), .val (.int p4), .val (.int p5), .val (.int (1 : Int32)), .val (.int (0 : Int32)), .val (.int (0 : Int32)), .unset, .unset, .unset, .unset, .unset, .unset, .unset, .unset, .unset, .unset, .unset] [])) _
        refine Own.go (fun t k => XS.iloadN X0.here hx rfl (hb hby at_39) rfl k) ?_
        show Own.Fin p e below (s₁.setTop (mkF m 40 #[.val (.int p1), .val (.int p2), .val (.int p3), .val (.int p4), .val (.int p5), .val (.int (1 : Int32)), .val (.int (0 : Int32)), .val (.int (0 : Int32)), .unset, .unset, .unset, .unset, .unset, .unset, .unset, .unset, .unset, .unset, .unset] [(.int p2)])) _
        refine Own.go (fun t k => XS.sipush X0.here hx rfl (hb hby at_40) k) ?_
        show Own.Fin p e below (s₁.setTop (mkF m 43 #[.val (.int p1), .val (.int p2), .val (.int p3), .val (.int p4), .val (.int p5), .val (.int (1 : Int32)), .val (.int (0 : Int32)), .val (.int (0 : Int32)), .unset, .unset, .unset, .unset, .unset, .unset, .unset, .unset, .unset, .unset, .unset] [(.int (255 : Int32)), (.int p2)])) _
        refine Own.go (fun t k => XS.iand X0.here hx rfl (hb hby at_43) rfl k) ?_
        show Own.Fin p e below (s₁.setTop (mkF m 44 #[.val (.int p1), .val (.int p2), .val (.int p3), .val (.int p4), .val (.int p5), .val (.int (1 : Int32)), .val (.int (0 : Int32)), .val (.int (0 : Int32)), .unset, .unset, .unset, .unset, .unset, .unset, .unset, .unset, .unset, .unset, .unset] [(.int (p2 &&& (255 : Int32)))])) _
        refine Own.go (fun t k => XS.i2c X0.here hx rfl (hb hby at_44) rfl k) ?_
        show Own.Fin p e below (s₁.setTop (mkF m 45 #[.val (.int p1), .val (.int p2), .val (.int p3), .val (.int p4), .val (.int p5), .val (.int (1 : Int32)), .val (.int (0 : Int32)), .val (.int (0 : Int32)), .unset, .unset, .unset, .unset, .unset, .unset, .unset, .unset, .unset, .unset, .unset] [(.int (((p2 &&& (255 : Int32))).toUInt32.toUInt16.toUInt32.toInt32))])) _
        refine Own.go (fun t k => XS.istore X0.here hx rfl (hb hby at_45) rfl (l' := #[.val (.int p1), .val (.int p2), .val (.int p3), .val (.int p4), .val (.int p5), .val (.int (1 : Int32)), .val (.int (0 : Int32)), .val (.int (0 : Int32)), .val (.int (((p2 &&& (255 : Int32))).toUInt32.toUInt16.toUInt32.toInt32)), .unset, .unset, .unset, .unset, .unset, .unset, .unset, .unset, .unset, .unset]) rfl k) ?_
        show Own.Fin p e below (s₁.setTop (mkF m 47 #[.val (.int p1), .val (.int p2), .val (.int p3), .val (.int p4), .val (.int p5), .val (.int (1 : Int32)), .val (.int (0 : Int32)), .val (.int (0 : Int32)), .val (.int (((p2 &&& (255 : Int32))).toUInt32.toUInt16.toUInt32.toInt32)), .unset, .unset, .unset, .unset, .unset, .unset, .unset, .unset, .unset, .unset] [])) _
        refine Own.go (fun t k => XS.iloadN X0.here hx rfl (hb hby at_47) rfl k) ?_
        show Own.Fin p e below (s₁.setTop (mkF m 48 #[.val (.int p1), .val (.int p2), .val (.int p3), .val (.int p4), .val (.int p5), .val (.int (1 : Int32)), .val (.int (0 : Int32)), .val (.int (0 : Int32)), .val (.int (((p2 &&& (255 : Int32))).toUInt32.toUInt16.toUInt32.toInt32)), .unset, .unset, .unset, .unset, .unset, .unset, .unset, .unset, .unset, .unset] [(.int p3)])) _
        refine Own.go (fun t k => XS.sipush X0.here hx rfl (hb hby at_48) k) ?_
        show Own.Fin p e below (s₁.setTop (mkF m 51 #[.val (.int p1), .val (.int p2), .val (.int p3), .val (.int p4), .val (.int p5), .val (.int (1 : Int32)), .val (.int (0 : Int32)), .val (.int (0 : Int32)), .val (.int (((p2 &&& (255 : Int32))).toUInt32.toUInt16.toUInt32.toInt32)), .unset, .unset, .unset, .unset, .unset, .unset, .unset, .unset, .unset, .unset] [(.int (255 : Int32)), (.int p3)])) _
        refine Own.go (fun t k => XS.iand X0.here hx rfl (hb hby at_51) rfl k) ?_
        show Own.Fin p e below (s₁.setTop (mkF m 52 #[.val (.int p1), .val (.int p2), .val (.int p3), .val (.int p4), .val (.int p5), .val (.int (1 : Int32)), .val (.int (0 : Int32)), .val (.int (0 : Int32)), .val (.int (((p2 &&& (255 : Int32))).toUInt32.toUInt16.toUInt32.toInt32)), .unset, .unset, .unset, .unset, .unset, .unset, .unset, .unset, .unset, .unset] [(.int (p3 &&& (255 : Int32)))])) _
        refine Own.go (fun t k => XS.i2c X0.here hx rfl (hb hby at_52) rfl k) ?_
        show Own.Fin p e below (s₁.setTop (mkF m 53 #[.val (.int p1), .val (.int p2), .val (.int p3), .val (.int p4), .val (.int p5), .val (.int (1 : Int32)), .val (.int (0 : Int32)), .val (.int (0 : Int32)), .val (.int (((p2 &&& (255 : Int32))).toUInt32.toUInt16.toUInt32.toInt32)), .unset, .unset, .unset, .unset, .unset, .unset, .unset, .unset, .unset, .unset] [(.int (((p3 &&& (255 : Int32))).toUInt32.toUInt16.toUInt32.toInt32))])) _
        refine Own.go (fun t k => XS.istore X0.here hx rfl (hb hby at_53) rfl (l' := #[.val (.int p1), .val (.int p2), .val (.int p3), .val (.int p4), .val (.int p5), .val (.int (1 : Int32)), .val (.int (0 : Int32)), .val (.int (0 : Int32)), .val (.int (((p2 &&& (255 : Int32))).toUInt32.toUInt16.toUInt32.toInt32)), .val (.int (((p3 &&& (255 : Int32))).toUInt32.toUInt16.toUInt32.toInt32)), .unset, .unset, .unset, .unset, .unset, .unset, .unset, .unset, .unset]) rfl k) ?_
        show Own.Fin p e below (s₁.setTop (mkF m 55 #[.val (.int p1), .val (.int p2), .val (.int p3), .val (.int p4), .val (.int p5), .val (.int (1 : Int32)), .val (.int (0 : Int32)), .val (.int (0 : Int32)), .val (.int (((p2 &&& (255 : Int32))).toUInt32.toUInt16.toUInt32.toInt32)), .val (.int (((p3 &&& (255 : Int32))).toUInt32.toUInt16.toUInt32.toInt32)), .unset, .unset, .unset, .unset, .unset, .unset, .unset, .unset, .unset] [])) _
        refine Own.go (fun t k => XS.iload X0.here hx rfl (hb hby at_55) rfl k) ?_
        show Own.Fin p e below (s₁.setTop (mkF m 57 #[.val (.int p1), .val (.int p2), .val (.int p3), .val (.int p4), .val (.int p5), .val (.int (1 : Int32)), .val (.int (0 : Int32)), .val (.int (0 : Int32)), .val (.int (((p2 &&& (255 : Int32))).toUInt32.toUInt16.toUInt32.toInt32)), .val (.int (((p3 &&& (255 : Int32))).toUInt32.toUInt16.toUInt32.toInt32)), .unset, .unset, .unset, .unset, .unset, .unset, .unset, .unset, .unset] [(.int (((p2 &&& (255 : Int32))).toUInt32.toUInt16.toUInt32.toInt32))])) _
        refine Own.cS X0 hx hZ hown (hw _ (List.mem_of_getElem? (i := 0) rfl)) (hw _ (List.mem_of_getElem? (i := 1) rfl)) (hw _ (List.mem_of_getElem? (i := 2) rfl)) (hw _ (List.mem_of_getElem? (i := 3) rfl)) (by decide) (rm1 l Z a0 hw [] (((p2 &&& (255 : Int32))).toUInt32.toUInt16.toUInt32.toInt32) cs h0 n0 Z0 O0 SC hcs (own_ch _)) (by decide) (W := 0) (by decide) (argsL := [(.int (((p2 &&& (255 : Int32))).toUInt32.toUInt16.toUInt32.toInt32))]) (rest := []) (by rw [hml]; rfl) (lenOf pd_3 rfl) rfl (Nat.le_of_eq rfl) (hb hby at_57) e0 (by decide) (by decide) ?_
        intro T155 L155 v155 X155 hQ155
        obtain ⟨b155, ge155, rfl, N155q, K155q⟩ := hQ155
        have N155 := Fr.app N0 N155q
        have Z155 : n0 ≤ T155.heap.size := Nat.le_trans Z0 K155q.1
        have O155 := O0.keep K155q all0
        show Own.Fin p e below (T155.setTop (mkF m 60 #[.val (.int p1), .val (.int p2), .val (.int p3), .val (.int p4), .val (.int p5), .val (.int (1 : Int32)), .val (.int (0 : Int32)), .val (.int (0 : Int32)), .val (.int (((p2 &&& (255 : Int32))).toUInt32.toUInt16.toUInt32.toInt32)), .val (.int (((p3 &&& (255 : Int32))).toUInt32.toUInt16.toUInt32.toInt32)), .unset, .unset, .unset, .unset, .unset, .unset, .unset, .unset, .unset] [(.ref b155)])) _
        refine Own.go (fun t k => XS.astore X155.here hx rfl (hb hby at_60) rfl rfl (l' := #[.val (.int p1), .val (.int p2), .val (.int p3), .val (.int p4), .val (.int p5), .val (.int (1 : Int32)), .val (.int (0 : Int32)), .val (.int (0 : Int32)), .val (.int (((p2 &&& (255 : Int32))).toUInt32.toUInt16.toUInt32.toInt32)), .val (.int (((p3 &&& (255 : Int32))).toUInt32.toUInt16.toUInt32.toInt32)), .val (.ref b155), .unset, .unset, .unset, .unset, .unset, .unset, .unset, .unset]) rfl k) ?_
        show Own.Fin p e below (T155.setTop (mkF m 62 #[.val (.int p1), .val (.int p2), .val (.int p3), .val (.int p4), .val (.int p5), .val (.int (1 : Int32)), .val (.int (0 : Int32)), .val (.int (0 : Int32)), .val (.int (((p2 &&& (255 : Int32))).toUInt32.toUInt16.toUInt32.toInt32)), .val (.int (((p3 &&& (255 : Int32))).toUInt32.toUInt16.toUInt32.toInt32)), .val (.ref b155), .unset, .unset, .unset, .unset, .unset, .unset, .unset, .unset] [])) _
        refine Own.go (fun t k => XS.iload X155.here hx rfl (hb hby at_62) rfl k) ?_
        show Own.Fin p e below (T155.setTop (mkF m 64 #[.val (.int p1), .val (.int p2), .val (.int p3), .val (.int p4), .val (.int p5), .val (.int (1 : Int32)), .val (.int (0 : Int32)), .val (.int (0 : Int32)), .val (.int (((p2 &&& (255 : Int32))).toUInt32.toUInt16.toUInt32.toInt32)), .val (.int (((p3 &&& (255 : Int32))).toUInt32.toUInt16.toUInt32.toInt32)), .val (.ref b155), .unset, .unset, .unset, .unset, .unset, .unset, .unset, .unset] [(.int (1 : Int32))])) _
        have hc64_155 : ¬ ((1 : Int32) = (0 : Int32)) := by decide
        refine Own.go (fun t k => XS.ifNo X155.here hx rfl (hb hby at_64) rfl ((if0 _ _).trans (feq hc64_155).1) k) ?_
        show Own.Fin p e below (T155.setTop (mkF m 67 #[.val (.int p1), .val (.int p2), .val (.int p3), .val (.int p4), .val (.int p5), .val (.int (1 : Int32)), .val (.int (0 : Int32)), .val (.int (0 : Int32)), .val (.int (((p2 &&& (255 : Int32))).toUInt32.toUInt16.toUInt32.toInt32)), .val (.int (((p3 &&& (255 : Int32))).toUInt32.toUInt16.toUInt32.toInt32)), .val (.ref b155), .unset, .unset, .unset, .unset, .unset, .unset, .unset, .unset] [])) _
        refine Own.go (fun t k => XS.aload X155.here hx rfl (hb hby at_67) rfl rfl k) ?_
        show Own.Fin p e below (T155.setTop (mkF m 69 #[.val (.int p1), .val (.int p2), .val (.int p3), .val (.int p4), .val (.int p5), .val (.int (1 : Int32)), .val (.int (0 : Int32)), .val (.int (0 : Int32)), .val (.int (((p2 &&& (255 : Int32))).toUInt32.toUInt16.toUInt32.toInt32)), .val (.int (((p3 &&& (255 : Int32))).toUInt32.toUInt16.toUInt32.toInt32)), .val (.ref b155), .unset, .unset, .unset, .unset, .unset, .unset, .unset, .unset] [(.ref b155)])) _
        refine Own.go (fun t k => XS.goto X155.here hx rfl (pc0 := 69) (pc' := 77) rfl (hb hby at_69) (by decide) (by decide) k) ?_
        show Own.Fin p e below (T155.setTop (mkF m 77 #[.val (.int p1), .val (.int p2), .val (.int p3), .val (.int p4), .val (.int p5), .val (.int (1 : Int32)), .val (.int (0 : Int32)), .val (.int (0 : Int32)), .val (.int (((p2 &&& (255 : Int32))).toUInt32.toUInt16.toUInt32.toInt32)), .val (.int (((p3 &&& (255 : Int32))).toUInt32.toUInt16.toUInt32.toInt32)), .val (.ref b155), .unset, .unset, .unset, .unset, .unset, .unset, .unset, .unset] [(.ref b155)])) _
        refine Own.go (fun t k => XS.astore X155.here hx rfl (hb hby at_77) rfl rfl (l' := #[.val (.int p1), .val (.int p2), .val (.int p3), .val (.int p4), .val (.int p5), .val (.int (1 : Int32)), .val (.int (0 : Int32)), .val (.int (0 : Int32)), .val (.int (((p2 &&& (255 : Int32))).toUInt32.toUInt16.toUInt32.toInt32)), .val (.int (((p3 &&& (255 : Int32))).toUInt32.toUInt16.toUInt32.toInt32)), .val (.ref b155), .val (.ref b155), .unset, .unset, .unset, .unset, .unset, .unset, .unset]) rfl k) ?_
        show Own.Fin p e below (T155.setTop (mkF m 79 #[.val (.int p1), .val (.int p2), .val (.int p3), .val (.int p4), .val (.int p5), .val (.int (1 : Int32)), .val (.int (0 : Int32)), .val (.int (0 : Int32)), .val (.int (((p2 &&& (255 : Int32))).toUInt32.toUInt16.toUInt32.toInt32)), .val (.int (((p3 &&& (255 : Int32))).toUInt32.toUInt16.toUInt32.toInt32)), .val (.ref b155), .val (.ref b155), .unset, .unset, .unset, .unset, .unset, .unset, .unset] [])) _
        refine Own.go (fun t k => XS.iload X155.here hx rfl (hb hby at_79) rfl k) ?_
        show Own.Fin p e below (T155.setTop (mkF m 81 #[.val (.int p1), .val (.int p2), .val (.int p3), .val (.int p4), .val (.int p5), .val (.int (1 : Int32)), .val (.int (0 : Int32)), .val (.int (0 : Int32)), .val (.int (((p2 &&& (255 : Int32))).toUInt32.toUInt16.toUInt32.toInt32)), .val (.int (((p3 &&& (255 : Int32))).toUInt32.toUInt16.toUInt32.toInt32)), .val (.ref b155), .val (.ref b155), .unset, .unset, .unset, .unset, .unset, .unset, .unset] [(.int (1 : Int32))])) _
        have hc81_156 : ¬ ((1 : Int32) = (0 : Int32)) := by decide
        refine Own.go (fun t k => XS.ifNo X155.here hx rfl (hb hby at_81) rfl ((if0 _ _).trans (feq hc81_156).1) k) ?_
        show Own.Fin p e below (T155.setTop (mkF m 84 #[.val (.int p1), .val (.int p2), .val (.int p3), .val (.int p4), .val (.int p5), .val (.int (1 : Int32)), .val (.int (0 : Int32)), .val (.int (0 : Int32)), .val (.int (((p2 &&& (255 : Int32))).toUInt32.toUInt16.toUInt32.toInt32)), .val (.int (((p3 &&& (255 : Int32))).toUInt32.toUInt16.toUInt32.toInt32)), .val (.ref b155), .val (.ref b155), .unset, .unset, .unset, .unset, .unset, .unset, .unset] [])) _
        refine Own.go (fun t k => XS.iloadN X155.here hx rfl (hb hby at_84) rfl k) ?_
        show Own.Fin p e below (T155.setTop (mkF m 85 #[.val (.int p1), .val (.int p2), .val (.int p3), .val (.int p4), .val (.int p5), .val (.int (1 : Int32)), .val (.int (0 : Int32)), .val (.int (0 : Int32)), .val (.int (((p2 &&& (255 : Int32))).toUInt32.toUInt16.toUInt32.toInt32)), .val (.int (((p3 &&& (255 : Int32))).toUInt32.toUInt16.toUInt32.toInt32)), .val (.ref b155), .val (.ref b155), .unset, .unset, .unset, .unset, .unset, .unset, .unset] [(.int p4)])) _
        refine Own.go (fun t k => XS.goto X155.here hx rfl (pc0 := 85) (pc' := 89) rfl (hb hby at_85) (by decide) (by decide) k) ?_
        show Own.Fin p e below (T155.setTop (mkF m 89 #[.val (.int p1), .val (.int p2), .val (.int p3), .val (.int p4), .val (.int p5), .val (.int (1 : Int32)), .val (.int (0 : Int32)), .val (.int (0 : Int32)), .val (.int (((p2 &&& (255 : Int32))).toUInt32.toUInt16.toUInt32.toInt32)), .val (.int (((p3 &&& (255 : Int32))).toUInt32.toUInt16.toUInt32.toInt32)), .val (.ref b155), .val (.ref b155), .unset, .unset, .unset, .unset, .unset, .unset, .unset] [(.int p4)])) _
        refine Own.go (fun t k => XS.istore X155.here hx rfl (hb hby at_89) rfl (l' := #[.val (.int p1), .val (.int p2), .val (.int p3), .val (.int p4), .val (.int p5), .val (.int (1 : Int32)), .val (.int (0 : Int32)), .val (.int (0 : Int32)), .val (.int (((p2 &&& (255 : Int32))).toUInt32.toUInt16.toUInt32.toInt32)), .val (.int (((p3 &&& (255 : Int32))).toUInt32.toUInt16.toUInt32.toInt32)), .val (.ref b155), .val (.ref b155), .val (.int p4), .unset, .unset, .unset, .unset, .unset, .unset]) rfl k) ?_
        show Own.Fin p e below (T155.setTop (mkF m 91 #[.val (.int p1), .val (.int p2), .val (.int p3), .val (.int p4), .val (.int p5), .val (.int (1 : Int32)), .val (.int (0 : Int32)), .val (.int (0 : Int32)), .val (.int (((p2 &&& (255 : Int32))).toUInt32.toUInt16.toUInt32.toInt32)), .val (.int (((p3 &&& (255 : Int32))).toUInt32.toUInt16.toUInt32.toInt32)), .val (.ref b155), .val (.ref b155), .val (.int p4), .unset, .unset, .unset, .unset, .unset, .unset] [])) _
        obtain ⟨T158, h158, X158, e158, E158, A158, D158, -, st158⟩ := newO X155 hx hZ hown (hw _ (List.mem_of_getElem? (i := 26) rfl)) (hw _ (List.mem_of_getElem? (i := 27) rfl)) (hw _ (List.mem_of_getElem? (i := 28) rfl)) rfl (g := (mkF m 91 #[.val (.int p1), .val (.int p2), .val (.int p3), .val (.int p4), .val (.int p5), .val (.int (1 : Int32)), .val (.int (0 : Int32)), .val (.int (0 : Int32)), .val (.int (((p2 &&& (255 : Int32))).toUInt32.toUInt16.toUInt32.toInt32)), .val (.int (((p3 &&& (255 : Int32))).toUInt32.toUInt16.toUInt32.toInt32)), .val (.ref b155), .val (.ref b155), .val (.int p4), .unset, .unset, .unset, .unset, .unset, .unset] [])) rfl (hb hby at_91) (by decide) (by decide)
        obtain ⟨b158, gb158⟩ : ∃ z, z = T155.heap.size := ⟨_, rfl⟩
        rw [← gb158] at A158 D158 st158
        refine Own.go st158 ?_
        have ge158 : n0 ≤ b158 := by rw [gb158]; exact Z155
        have Z158 : n0 ≤ h158.size := Nat.le_trans Z155 E158.1
        have O158 := O155.ext E158
        have fl159 : Fld Z h158 b158 "com/example/arachne/arachne/Node" "id" "Ljava/lang/String;" .null := D158 (Or.inr (hw _ (List.mem_of_getElem? (i := 34) rfl))) (ty := (.object "java/lang/String")) (by decide)
        have fl160 : Fld Z h158 b158 "com/example/arachne/arachne/Node" "size" "Lcom/example/arachne/arachne/NodeSize;" .null := D158 (Or.inr (hw _ (List.mem_of_getElem? (i := 36) rfl))) (ty := (.object "com/example/arachne/arachne/NodeSize")) (by decide)
        have fl161 : Fld Z h158 b158 "com/example/arachne/arachne/Node" "label" "Ljava/lang/String;" .null := D158 (Or.inr (hw _ (List.mem_of_getElem? (i := 38) rfl))) (ty := (.object "java/lang/String")) (by decide)
        have fl162 : Fld Z h158 b158 "com/example/arachne/arachne/Node" "pin" "Lcom/example/arachne/arachne/Point;" .null := D158 (Or.inr (hw _ (List.mem_of_getElem? (i := 40) rfl))) (ty := (.object "com/example/arachne/arachne/Point")) (by decide)
        have fl163 : Fld Z h158 b158 "com/example/arachne/arachne/Node" "index" "I" (.int (0 : Int32)) := D158 (Or.inr (hw _ (List.mem_of_getElem? (i := 42) rfl))) (ty := .int) (by decide)
        show Own.Fin p e below (T158.setTop (mkF m 94 #[.val (.int p1), .val (.int p2), .val (.int p3), .val (.int p4), .val (.int p5), .val (.int (1 : Int32)), .val (.int (0 : Int32)), .val (.int (0 : Int32)), .val (.int (((p2 &&& (255 : Int32))).toUInt32.toUInt16.toUInt32.toInt32)), .val (.int (((p3 &&& (255 : Int32))).toUInt32.toUInt16.toUInt32.toInt32)), .val (.ref b155), .val (.ref b155), .val (.int p4), .unset, .unset, .unset, .unset, .unset, .unset] [(.ref b158)])) _
        refine Own.go (fun t k => XS.dup X158.here hx rfl (hb hby at_94) rfl rfl k) ?_
        show Own.Fin p e below (T158.setTop (mkF m 95 #[.val (.int p1), .val (.int p2), .val (.int p3), .val (.int p4), .val (.int p5), .val (.int (1 : Int32)), .val (.int (0 : Int32)), .val (.int (0 : Int32)), .val (.int (((p2 &&& (255 : Int32))).toUInt32.toUInt16.toUInt32.toInt32)), .val (.int (((p3 &&& (255 : Int32))).toUInt32.toUInt16.toUInt32.toInt32)), .val (.ref b155), .val (.ref b155), .val (.int p4), .unset, .unset, .unset, .unset, .unset, .unset] [(.ref b158), (.ref b158)])) _
        refine Own.go (fun t k => XS.aload X158.here hx rfl (hb hby at_95) rfl rfl k) ?_
        show Own.Fin p e below (T158.setTop (mkF m 97 #[.val (.int p1), .val (.int p2), .val (.int p3), .val (.int p4), .val (.int p5), .val (.int (1 : Int32)), .val (.int (0 : Int32)), .val (.int (0 : Int32)), .val (.int (((p2 &&& (255 : Int32))).toUInt32.toUInt16.toUInt32.toInt32)), .val (.int (((p3 &&& (255 : Int32))).toUInt32.toUInt16.toUInt32.toInt32)), .val (.ref b155), .val (.ref b155), .val (.int p4), .unset, .unset, .unset, .unset, .unset, .unset] [(.ref b155), (.ref b158), (.ref b158)])) _
        refine Own.go (fun t k => XS.aconstNull X158.here hx rfl (hb hby at_97) k) ?_
        show Own.Fin p e below (T158.setTop (mkF m 98 #[.val (.int p1), .val (.int p2), .val (.int p3), .val (.int p4), .val (.int p5), .val (.int (1 : Int32)), .val (.int (0 : Int32)), .val (.int (0 : Int32)), .val (.int (((p2 &&& (255 : Int32))).toUInt32.toUInt16.toUInt32.toInt32)), .val (.int (((p3 &&& (255 : Int32))).toUInt32.toUInt16.toUInt32.toInt32)), .val (.ref b155), .val (.ref b155), .val (.int p4), .unset, .unset, .unset, .unset, .unset, .unset] [.null, (.ref b155), (.ref b158), (.ref b158)])) _
        refine Own.go (fun t k => XS.aload X158.here hx rfl (hb hby at_98) rfl rfl k) ?_
        show Own.Fin p e below (T158.setTop (mkF m 100 #[.val (.int p1), .val (.int p2), .val (.int p3), .val (.int p4), .val (.int p5), .val (.int (1 : Int32)), .val (.int (0 : Int32)), .val (.int (0 : Int32)), .val (.int (((p2 &&& (255 : Int32))).toUInt32.toUInt16.toUInt32.toInt32)), .val (.int (((p3 &&& (255 : Int32))).toUInt32.toUInt16.toUInt32.toInt32)), .val (.ref b155), .val (.ref b155), .val (.int p4), .unset, .unset, .unset, .unset, .unset, .unset] [(.ref b155), .null, (.ref b155), (.ref b158), (.ref b158)])) _
        refine Own.go (fun t k => XS.aconstNull X158.here hx rfl (hb hby at_100) k) ?_
        show Own.Fin p e below (T158.setTop (mkF m 101 #[.val (.int p1), .val (.int p2), .val (.int p3), .val (.int p4), .val (.int p5), .val (.int (1 : Int32)), .val (.int (0 : Int32)), .val (.int (0 : Int32)), .val (.int (((p2 &&& (255 : Int32))).toUInt32.toUInt16.toUInt32.toInt32)), .val (.int (((p3 &&& (255 : Int32))).toUInt32.toUInt16.toUInt32.toInt32)), .val (.ref b155), .val (.ref b155), .val (.int p4), .unset, .unset, .unset, .unset, .unset, .unset] [.null, (.ref b155), .null, (.ref b155), (.ref b158), (.ref b158)])) _
        refine Own.go (fun t k => XS.iloadN X158.here hx rfl (hb hby at_101) rfl k) ?_
        show Own.Fin p e below (T158.setTop (mkF m 102 #[.val (.int p1), .val (.int p2), .val (.int p3), .val (.int p4), .val (.int p5), .val (.int (1 : Int32)), .val (.int (0 : Int32)), .val (.int (0 : Int32)), .val (.int (((p2 &&& (255 : Int32))).toUInt32.toUInt16.toUInt32.toInt32)), .val (.int (((p3 &&& (255 : Int32))).toUInt32.toUInt16.toUInt32.toInt32)), .val (.ref b155), .val (.ref b155), .val (.int p4), .unset, .unset, .unset, .unset, .unset, .unset] [(.int p4), .null, (.ref b155), .null, (.ref b155), (.ref b158), (.ref b158)])) _
        refine Own.cI X158 hx hZ rfl hown (hw _ (List.mem_of_getElem? (i := 29) rfl)) (hw _ (List.mem_of_getElem? (i := 30) rfl)) (hw _ (List.mem_of_getElem? (i := 28) rfl)) (hw _ (List.mem_of_getElem? (i := 31) rfl)) (by decide) (rm6 l Z a0 hw [] b158 b155 b155 p4 h158 n0 Z158 A158 fl159 fl160 fl161 fl162 fl163 ge158) (by decide) (W := 1) (by decide) (argsL := [(.ref b155), .null, (.ref b155), .null, (.int p4)]) (rest := [(.ref b158)]) (by rw [hml]; rfl) (lenOf pd_4 rfl) rfl (Nat.le_of_eq rfl) (hb hby at_102) e158 (by decide) (by decide) ?_
        intro T164 L164 v164 X164 hQ164
        obtain ⟨rfl, N164q, K164q⟩ := hQ164
        have N164 := Fr.app N155 N164q
        have f165 := A158.keep K164q
        have Z164 : n0 ≤ T164.heap.size := Nat.le_trans Z158 K164q.1
        have O164 := O158.keep K164q (allS ge158 all0)
        show Own.Fin p e below (T164.setTop (mkF m 105 #[.val (.int p1), .val (.int p2), .val (.int p3), .val (.int p4), .val (.int p5), .val (.int (1 : Int32)), .val (.int (0 : Int32)), .val (.int (0 : Int32)), .val (.int (((p2 &&& (255 : Int32))).toUInt32.toUInt16.toUInt32.toInt32)), .val (.int (((p3 &&& (255 : Int32))).toUInt32.toUInt16.toUInt32.toInt32)), .val (.ref b155), .val (.ref b155), .val (.int p4), .unset, .unset, .unset, .unset, .unset, .unset] [(.ref b158)])) _
        refine Own.go (fun t k => XS.astore X164.here hx rfl (hb hby at_105) rfl rfl (l' := #[.val (.int p1), .val (.int p2), .val (.int p3), .val (.int p4), .val (.int p5), .val (.int (1 : Int32)), .val (.int (0 : Int32)), .val (.int (0 : Int32)), .val (.int (((p2 &&& (255 : Int32))).toUInt32.toUInt16.toUInt32.toInt32)), .val (.int (((p3 &&& (255 : Int32))).toUInt32.toUInt16.toUInt32.toInt32)), .val (.ref b155), .val (.ref b155), .val (.int p4), .val (.ref b158), .unset, .unset, .unset, .unset, .unset]) rfl k) ?_
        show Own.Fin p e below (T164.setTop (mkF m 107 #[.val (.int p1), .val (.int p2), .val (.int p3), .val (.int p4), .val (.int p5), .val (.int (1 : Int32)), .val (.int (0 : Int32)), .val (.int (0 : Int32)), .val (.int (((p2 &&& (255 : Int32))).toUInt32.toUInt16.toUInt32.toInt32)), .val (.int (((p3 &&& (255 : Int32))).toUInt32.toUInt16.toUInt32.toInt32)), .val (.ref b155), .val (.ref b155), .val (.int p4), .val (.ref b158), .unset, .unset, .unset, .unset, .unset] [])) _
        obtain ⟨T166, h166, X166, e166, E166, A166, D166, -, st166⟩ := newO X164 hx hZ hown (hw _ (List.mem_of_getElem? (i := 26) rfl)) (hw _ (List.mem_of_getElem? (i := 27) rfl)) (hw _ (List.mem_of_getElem? (i := 28) rfl)) rfl (g := (mkF m 107 #[.val (.int p1), .val (.int p2), .val (.int p3), .val (.int p4), .val (.int p5), .val (.int (1 : Int32)), .val (.int (0 : Int32)), .val (.int (0 : Int32)), .val (.int (((p2 &&& (255 : Int32))).toUInt32.toUInt16.toUInt32.toInt32)), .val (.int (((p3 &&& (255 : Int32))).toUInt32.toUInt16.toUInt32.toInt32)), .val (.ref b155), .val (.ref b155), .val (.int p4), .val (.ref b158), .unset, .unset, .unset, .unset, .unset] [])) rfl (hb hby at_107) (by decide) (by decide)
        obtain ⟨b166, gb166⟩ : ∃ z, z = T164.heap.size := ⟨_, rfl⟩
        rw [← gb166] at A166 D166 st166
        refine Own.go st166 ?_
        have ge166 : n0 ≤ b166 := by rw [gb166]; exact Z164
        have ne166_b158 : b158 ≠ b166 := Nat.ne_of_lt (Nat.lt_of_lt_of_le f165.lt (Nat.le_of_eq gb166.symm))
        have Z166 : n0 ≤ h166.size := Nat.le_trans Z164 E166.1
        have f167 := f165.ext E166
        have O166 := O164.ext E166
        have fl168 : Fld Z h166 b166 "com/example/arachne/arachne/Node" "id" "Ljava/lang/String;" .null := D166 (Or.inr (hw _ (List.mem_of_getElem? (i := 34) rfl))) (ty := (.object "java/lang/String")) (by decide)
        have fl169 : Fld Z h166 b166 "com/example/arachne/arachne/Node" "size" "Lcom/example/arachne/arachne/NodeSize;" .null := D166 (Or.inr (hw _ (List.mem_of_getElem? (i := 36) rfl))) (ty := (.object "com/example/arachne/arachne/NodeSize")) (by decide)
        have fl170 : Fld Z h166 b166 "com/example/arachne/arachne/Node" "label" "Ljava/lang/String;" .null := D166 (Or.inr (hw _ (List.mem_of_getElem? (i := 38) rfl))) (ty := (.object "java/lang/String")) (by decide)
        have fl171 : Fld Z h166 b166 "com/example/arachne/arachne/Node" "pin" "Lcom/example/arachne/arachne/Point;" .null := D166 (Or.inr (hw _ (List.mem_of_getElem? (i := 40) rfl))) (ty := (.object "com/example/arachne/arachne/Point")) (by decide)
        have fl172 : Fld Z h166 b166 "com/example/arachne/arachne/Node" "index" "I" (.int (0 : Int32)) := D166 (Or.inr (hw _ (List.mem_of_getElem? (i := 42) rfl))) (ty := .int) (by decide)
        show Own.Fin p e below (T166.setTop (mkF m 110 #[.val (.int p1), .val (.int p2), .val (.int p3), .val (.int p4), .val (.int p5), .val (.int (1 : Int32)), .val (.int (0 : Int32)), .val (.int (0 : Int32)), .val (.int (((p2 &&& (255 : Int32))).toUInt32.toUInt16.toUInt32.toInt32)), .val (.int (((p3 &&& (255 : Int32))).toUInt32.toUInt16.toUInt32.toInt32)), .val (.ref b155), .val (.ref b155), .val (.int p4), .val (.ref b158), .unset, .unset, .unset, .unset, .unset] [(.ref b166)])) _
        refine Own.go (fun t k => XS.dup X166.here hx rfl (hb hby at_110) rfl rfl k) ?_
        show Own.Fin p e below (T166.setTop (mkF m 111 #[.val (.int p1), .val (.int p2), .val (.int p3), .val (.int p4), .val (.int p5), .val (.int (1 : Int32)), .val (.int (0 : Int32)), .val (.int (0 : Int32)), .val (.int (((p2 &&& (255 : Int32))).toUInt32.toUInt16.toUInt32.toInt32)), .val (.int (((p3 &&& (255 : Int32))).toUInt32.toUInt16.toUInt32.toInt32)), .val (.ref b155), .val (.ref b155), .val (.int p4), .val (.ref b158), .unset, .unset, .unset, .unset, .unset] [(.ref b166), (.ref b166)])) _
        refine Own.go (fun t k => XS.aload X166.here hx rfl (hb hby at_111) rfl rfl k) ?_
        show Own.Fin p e below (T166.setTop (mkF m 113 #[.val (.int p1), .val (.int p2), .val (.int p3), .val (.int p4), .val (.int p5), .val (.int (1 : Int32)), .val (.int (0 : Int32)), .val (.int (0 : Int32)), .val (.int (((p2 &&& (255 : Int32))).toUInt32.toUInt16.toUInt32.toInt32)), .val (.int (((p3 &&& (255 : Int32))).toUInt32.toUInt16.toUInt32.toInt32)), .val (.ref b155), .val (.ref b155), .val (.int p4), .val (.ref b158), .unset, .unset, .unset, .unset, .unset] [(.ref b155), (.ref b166), (.ref b166)])) _
        refine Own.go (fun t k => XS.aconstNull X166.here hx rfl (hb hby at_113) k) ?_
        show Own.Fin p e below (T166.setTop (mkF m 114 #[.val (.int p1), .val (.int p2), .val (.int p3), .val (.int p4), .val (.int p5), .val (.int (1 : Int32)), .val (.int (0 : Int32)), .val (.int (0 : Int32)), .val (.int (((p2 &&& (255 : Int32))).toUInt32.toUInt16.toUInt32.toInt32)), .val (.int (((p3 &&& (255 : Int32))).toUInt32.toUInt16.toUInt32.toInt32)), .val (.ref b155), .val (.ref b155), .val (.int p4), .val (.ref b158), .unset, .unset, .unset, .unset, .unset] [.null, (.ref b155), (.ref b166), (.ref b166)])) _
        refine Own.go (fun t k => XS.aload X166.here hx rfl (hb hby at_114) rfl rfl k) ?_
        show Own.Fin p e below (T166.setTop (mkF m 116 #[.val (.int p1), .val (.int p2), .val (.int p3), .val (.int p4), .val (.int p5), .val (.int (1 : Int32)), .val (.int (0 : Int32)), .val (.int (0 : Int32)), .val (.int (((p2 &&& (255 : Int32))).toUInt32.toUInt16.toUInt32.toInt32)), .val (.int (((p3 &&& (255 : Int32))).toUInt32.toUInt16.toUInt32.toInt32)), .val (.ref b155), .val (.ref b155), .val (.int p4), .val (.ref b158), .unset, .unset, .unset, .unset, .unset] [(.ref b155), .null, (.ref b155), (.ref b166), (.ref b166)])) _
        refine Own.go (fun t k => XS.aconstNull X166.here hx rfl (hb hby at_116) k) ?_
        show Own.Fin p e below (T166.setTop (mkF m 117 #[.val (.int p1), .val (.int p2), .val (.int p3), .val (.int p4), .val (.int p5), .val (.int (1 : Int32)), .val (.int (0 : Int32)), .val (.int (0 : Int32)), .val (.int (((p2 &&& (255 : Int32))).toUInt32.toUInt16.toUInt32.toInt32)), .val (.int (((p3 &&& (255 : Int32))).toUInt32.toUInt16.toUInt32.toInt32)), .val (.ref b155), .val (.ref b155), .val (.int p4), .val (.ref b158), .unset, .unset, .unset, .unset, .unset] [.null, (.ref b155), .null, (.ref b155), (.ref b166), (.ref b166)])) _
        refine Own.go (fun t k => XS.iload X166.here hx rfl (hb hby at_117) rfl k) ?_
        show Own.Fin p e below (T166.setTop (mkF m 119 #[.val (.int p1), .val (.int p2), .val (.int p3), .val (.int p4), .val (.int p5), .val (.int (1 : Int32)), .val (.int (0 : Int32)), .val (.int (0 : Int32)), .val (.int (((p2 &&& (255 : Int32))).toUInt32.toUInt16.toUInt32.toInt32)), .val (.int (((p3 &&& (255 : Int32))).toUInt32.toUInt16.toUInt32.toInt32)), .val (.ref b155), .val (.ref b155), .val (.int p4), .val (.ref b158), .unset, .unset, .unset, .unset, .unset] [(.int p4), .null, (.ref b155), .null, (.ref b155), (.ref b166), (.ref b166)])) _
        refine Own.cI X166 hx hZ rfl hown (hw _ (List.mem_of_getElem? (i := 29) rfl)) (hw _ (List.mem_of_getElem? (i := 30) rfl)) (hw _ (List.mem_of_getElem? (i := 28) rfl)) (hw _ (List.mem_of_getElem? (i := 31) rfl)) (by decide) (rm6 l Z a0 hw [] b166 b155 b155 p4 h166 n0 Z166 A166 fl168 fl169 fl170 fl171 fl172 ge166) (by decide) (W := 1) (by decide) (argsL := [(.ref b155), .null, (.ref b155), .null, (.int p4)]) (rest := [(.ref b166)]) (by rw [hml]; rfl) (lenOf pd_4 rfl) rfl (Nat.le_of_eq rfl) (hb hby at_119) e166 (by decide) (by decide) ?_
        intro T173 L173 v173 X173 hQ173
        obtain ⟨rfl, N173q, K173q⟩ := hQ173
        have N173 := Fr.app N164 N173q
        have f174 := f167.keep K173q
        have f175 := A166.keep K173q
        have Z173 : n0 ≤ T173.heap.size := Nat.le_trans Z166 K173q.1
        have O173 := O166.keep K173q (allS ge166 all0)
        show Own.Fin p e below (T173.setTop (mkF m 122 #[.val (.int p1), .val (.int p2), .val (.int p3), .val (.int p4), .val (.int p5), .val (.int (1 : Int32)), .val (.int (0 : Int32)), .val (.int (0 : Int32)), .val (.int (((p2 &&& (255 : Int32))).toUInt32.toUInt16.toUInt32.toInt32)), .val (.int (((p3 &&& (255 : Int32))).toUInt32.toUInt16.toUInt32.toInt32)), .val (.ref b155), .val (.ref b155), .val (.int p4), .val (.ref b158), .unset, .unset, .unset, .unset, .unset] [(.ref b166)])) _
        refine Own.go (fun t k => XS.astore X173.here hx rfl (hb hby at_122) rfl rfl (l' := #[.val (.int p1), .val (.int p2), .val (.int p3), .val (.int p4), .val (.int p5), .val (.int (1 : Int32)), .val (.int (0 : Int32)), .val (.int (0 : Int32)), .val (.int (((p2 &&& (255 : Int32))).toUInt32.toUInt16.toUInt32.toInt32)), .val (.int (((p3 &&& (255 : Int32))).toUInt32.toUInt16.toUInt32.toInt32)), .val (.ref b155), .val (.ref b155), .val (.int p4), .val (.ref b158), .val (.ref b166), .unset, .unset, .unset, .unset]) rfl k) ?_
        show Own.Fin p e below (T173.setTop (mkF m 124 #[.val (.int p1), .val (.int p2), .val (.int p3), .val (.int p4), .val (.int p5), .val (.int (1 : Int32)), .val (.int (0 : Int32)), .val (.int (0 : Int32)), .val (.int (((p2 &&& (255 : Int32))).toUInt32.toUInt16.toUInt32.toInt32)), .val (.int (((p3 &&& (255 : Int32))).toUInt32.toUInt16.toUInt32.toInt32)), .val (.ref b155), .val (.ref b155), .val (.int p4), .val (.ref b158), .val (.ref b166), .unset, .unset, .unset, .unset] [])) _
        refine Own.go (fun t k => XS.iload X173.here hx rfl (hb hby at_124) rfl k) ?_
        show Own.Fin p e below (T173.setTop (mkF m 126 #[.val (.int p1), .val (.int p2), .val (.int p3), .val (.int p4), .val (.int p5), .val (.int (1 : Int32)), .val (.int (0 : Int32)), .val (.int (0 : Int32)), .val (.int (((p2 &&& (255 : Int32))).toUInt32.toUInt16.toUInt32.toInt32)), .val (.int (((p3 &&& (255 : Int32))).toUInt32.toUInt16.toUInt32.toInt32)), .val (.ref b155), .val (.ref b155), .val (.int p4), .val (.ref b158), .val (.ref b166), .unset, .unset, .unset, .unset] [(.int (0 : Int32))])) _
        have hc126_175 : (0 : Int32) = (0 : Int32) := by decide
        refine Own.go (fun t k => XS.ifYes X173.here hx rfl (pc0 := 126) (pc' := 134) rfl (hb hby at_126) rfl ((if0 _ _).trans (teq hc126_175).1) (by decide) (by decide) k) ?_
        show Own.Fin p e below (T173.setTop (mkF m 134 #[.val (.int p1), .val (.int p2), .val (.int p3), .val (.int p4), .val (.int p5), .val (.int (1 : Int32)), .val (.int (0 : Int32)), .val (.int (0 : Int32)), .val (.int (((p2 &&& (255 : Int32))).toUInt32.toUInt16.toUInt32.toInt32)), .val (.int (((p3 &&& (255 : Int32))).toUInt32.toUInt16.toUInt32.toInt32)), .val (.ref b155), .val (.ref b155), .val (.int p4), .val (.ref b158), .val (.ref b166), .unset, .unset, .unset, .unset] [])) _
        refine Own.go (fun t k => XS.aload X173.here hx rfl (hb hby at_134) rfl rfl k) ?_
        show Own.Fin p e below (T173.setTop (mkF m 136 #[.val (.int p1), .val (.int p2), .val (.int p3), .val (.int p4), .val (.int p5), .val (.int (1 : Int32)), .val (.int (0 : Int32)), .val (.int (0 : Int32)), .val (.int (((p2 &&& (255 : Int32))).toUInt32.toUInt16.toUInt32.toInt32)), .val (.int (((p3 &&& (255 : Int32))).toUInt32.toUInt16.toUInt32.toInt32)), .val (.ref b155), .val (.ref b155), .val (.int p4), .val (.ref b158), .val (.ref b166), .unset, .unset, .unset, .unset] [(.ref b158)])) _
        refine Own.go (fun t k => XS.astore X173.here hx rfl (hb hby at_136) rfl rfl (l' := #[.val (.int p1), .val (.int p2), .val (.int p3), .val (.int p4), .val (.int p5), .val (.int (1 : Int32)), .val (.int (0 : Int32)), .val (.int (0 : Int32)), .val (.int (((p2 &&& (255 : Int32))).toUInt32.toUInt16.toUInt32.toInt32)), .val (.int (((p3 &&& (255 : Int32))).toUInt32.toUInt16.toUInt32.toInt32)), .val (.ref b155), .val (.ref b155), .val (.int p4), .val (.ref b158), .val (.ref b166), .val (.ref b158), .unset, .unset, .unset]) rfl k) ?_
        show Own.Fin p e below (T173.setTop (mkF m 138 #[.val (.int p1), .val (.int p2), .val (.int p3), .val (.int p4), .val (.int p5), .val (.int (1 : Int32)), .val (.int (0 : Int32)), .val (.int (0 : Int32)), .val (.int (((p2 &&& (255 : Int32))).toUInt32.toUInt16.toUInt32.toInt32)), .val (.int (((p3 &&& (255 : Int32))).toUInt32.toUInt16.toUInt32.toInt32)), .val (.ref b155), .val (.ref b155), .val (.int p4), .val (.ref b158), .val (.ref b166), .val (.ref b158), .unset, .unset, .unset] [])) _
        refine Own.go (fun t k => XS.iload X173.here hx rfl (hb hby at_138) rfl k) ?_
        show Own.Fin p e below (T173.setTop (mkF m 140 #[.val (.int p1), .val (.int p2), .val (.int p3), .val (.int p4), .val (.int p5), .val (.int (1 : Int32)), .val (.int (0 : Int32)), .val (.int (0 : Int32)), .val (.int (((p2 &&& (255 : Int32))).toUInt32.toUInt16.toUInt32.toInt32)), .val (.int (((p3 &&& (255 : Int32))).toUInt32.toUInt16.toUInt32.toInt32)), .val (.ref b155), .val (.ref b155), .val (.int p4), .val (.ref b158), .val (.ref b166), .val (.ref b158), .unset, .unset, .unset] [(.int (0 : Int32))])) _
        have hc140_176 : (0 : Int32) = (0 : Int32) := by decide
        refine Own.go (fun t k => XS.ifYes X173.here hx rfl (pc0 := 140) (pc' := 148) rfl (hb hby at_140) rfl ((if0 _ _).trans (teq hc140_176).1) (by decide) (by decide) k) ?_
        show Own.Fin p e below (T173.setTop (mkF m 148 #[.val (.int p1), .val (.int p2), .val (.int p3), .val (.int p4), .val (.int p5), .val (.int (1 : Int32)), .val (.int (0 : Int32)), .val (.int (0 : Int32)), .val (.int (((p2 &&& (255 : Int32))).toUInt32.toUInt16.toUInt32.toInt32)), .val (.int (((p3 &&& (255 : Int32))).toUInt32.toUInt16.toUInt32.toInt32)), .val (.ref b155), .val (.ref b155), .val (.int p4), .val (.ref b158), .val (.ref b166), .val (.ref b158), .unset, .unset, .unset] [])) _
        refine Own.go (fun t k => XS.aload X173.here hx rfl (hb hby at_148) rfl rfl k) ?_
        show Own.Fin p e below (T173.setTop (mkF m 150 #[.val (.int p1), .val (.int p2), .val (.int p3), .val (.int p4), .val (.int p5), .val (.int (1 : Int32)), .val (.int (0 : Int32)), .val (.int (0 : Int32)), .val (.int (((p2 &&& (255 : Int32))).toUInt32.toUInt16.toUInt32.toInt32)), .val (.int (((p3 &&& (255 : Int32))).toUInt32.toUInt16.toUInt32.toInt32)), .val (.ref b155), .val (.ref b155), .val (.int p4), .val (.ref b158), .val (.ref b166), .val (.ref b158), .unset, .unset, .unset] [(.ref b158)])) _
        refine Own.go (fun t k => XS.astore X173.here hx rfl (hb hby at_150) rfl rfl (l' := #[.val (.int p1), .val (.int p2), .val (.int p3), .val (.int p4), .val (.int p5), .val (.int (1 : Int32)), .val (.int (0 : Int32)), .val (.int (0 : Int32)), .val (.int (((p2 &&& (255 : Int32))).toUInt32.toUInt16.toUInt32.toInt32)), .val (.int (((p3 &&& (255 : Int32))).toUInt32.toUInt16.toUInt32.toInt32)), .val (.ref b155), .val (.ref b155), .val (.int p4), .val (.ref b158), .val (.ref b166), .val (.ref b158), .val (.ref b158), .unset, .unset]) rfl k) ?_
        show Own.Fin p e below (T173.setTop (mkF m 152 #[.val (.int p1), .val (.int p2), .val (.int p3), .val (.int p4), .val (.int p5), .val (.int (1 : Int32)), .val (.int (0 : Int32)), .val (.int (0 : Int32)), .val (.int (((p2 &&& (255 : Int32))).toUInt32.toUInt16.toUInt32.toInt32)), .val (.int (((p3 &&& (255 : Int32))).toUInt32.toUInt16.toUInt32.toInt32)), .val (.ref b155), .val (.ref b155), .val (.int p4), .val (.ref b158), .val (.ref b166), .val (.ref b158), .val (.ref b158), .unset, .unset] [])) _
        obtain ⟨T178, h178, X178, e178, E178, A178, D178, -, st178⟩ := newO X173 hx hZ hown (hw _ (List.mem_of_getElem? (i := 43) rfl)) (hw _ (List.mem_of_getElem? (i := 44) rfl)) (hw _ (List.mem_of_getElem? (i := 45) rfl)) rfl (g := (mkF m 152 #[.val (.int p1), .val (.int p2), .val (.int p3), .val (.int p4), .val (.int p5), .val (.int (1 : Int32)), .val (.int (0 : Int32)), .val (.int (0 : Int32)), .val (.int (((p2 &&& (255 : Int32))).toUInt32.toUInt16.toUInt32.toInt32)), .val (.int (((p3 &&& (255 : Int32))).toUInt32.toUInt16.toUInt32.toInt32)), .val (.ref b155), .val (.ref b155), .val (.int p4), .val (.ref b158), .val (.ref b166), .val (.ref b158), .val (.ref b158), .unset, .unset] [])) rfl (hb hby at_152) (by decide) (by decide)
        obtain ⟨b178, gb178⟩ : ∃ z, z = T173.heap.size := ⟨_, rfl⟩
        rw [← gb178] at A178 D178 st178
        refine Own.go st178 ?_
        have ge178 : n0 ≤ b178 := by rw [gb178]; exact Z173
        have ne178_b158 : b158 ≠ b178 := Nat.ne_of_lt (Nat.lt_of_lt_of_le f174.lt (Nat.le_of_eq gb178.symm))
        have ne178_b166 : b166 ≠ b178 := Nat.ne_of_lt (Nat.lt_of_lt_of_le f175.lt (Nat.le_of_eq gb178.symm))
        have Z178 : n0 ≤ h178.size := Nat.le_trans Z173 E178.1
        have f179 := f174.ext E178
        have f180 := f175.ext E178
        have O178 := O173.ext E178
        have fl181 : Fld Z h178 b178 "com/example/arachne/arachne/Edge" "source" "Lcom/example/arachne/arachne/Node;" .null := D178 (Or.inr (hw _ (List.mem_of_getElem? (i := 51) rfl))) (ty := (.object "com/example/arachne/arachne/Node")) (by decide)
        have fl182 : Fld Z h178 b178 "com/example/arachne/arachne/Edge" "target" "Lcom/example/arachne/arachne/Node;" .null := D178 (Or.inr (hw _ (List.mem_of_getElem? (i := 53) rfl))) (ty := (.object "com/example/arachne/arachne/Node")) (by decide)
        have fl183 : Fld Z h178 b178 "com/example/arachne/arachne/Edge" "index" "I" (.int (0 : Int32)) := D178 (Or.inr (hw _ (List.mem_of_getElem? (i := 55) rfl))) (ty := .int) (by decide)
        show Own.Fin p e below (T178.setTop (mkF m 155 #[.val (.int p1), .val (.int p2), .val (.int p3), .val (.int p4), .val (.int p5), .val (.int (1 : Int32)), .val (.int (0 : Int32)), .val (.int (0 : Int32)), .val (.int (((p2 &&& (255 : Int32))).toUInt32.toUInt16.toUInt32.toInt32)), .val (.int (((p3 &&& (255 : Int32))).toUInt32.toUInt16.toUInt32.toInt32)), .val (.ref b155), .val (.ref b155), .val (.int p4), .val (.ref b158), .val (.ref b166), .val (.ref b158), .val (.ref b158), .unset, .unset] [(.ref b178)])) _
        refine Own.go (fun t k => XS.dup X178.here hx rfl (hb hby at_155) rfl rfl k) ?_
        show Own.Fin p e below (T178.setTop (mkF m 156 #[.val (.int p1), .val (.int p2), .val (.int p3), .val (.int p4), .val (.int p5), .val (.int (1 : Int32)), .val (.int (0 : Int32)), .val (.int (0 : Int32)), .val (.int (((p2 &&& (255 : Int32))).toUInt32.toUInt16.toUInt32.toInt32)), .val (.int (((p3 &&& (255 : Int32))).toUInt32.toUInt16.toUInt32.toInt32)), .val (.ref b155), .val (.ref b155), .val (.int p4), .val (.ref b158), .val (.ref b166), .val (.ref b158), .val (.ref b158), .unset, .unset] [(.ref b178), (.ref b178)])) _
        refine Own.go (fun t k => XS.aload X178.here hx rfl (hb hby at_156) rfl rfl k) ?_
        show Own.Fin p e below (T178.setTop (mkF m 158 #[.val (.int p1), .val (.int p2), .val (.int p3), .val (.int p4), .val (.int p5), .val (.int (1 : Int32)), .val (.int (0 : Int32)), .val (.int (0 : Int32)), .val (.int (((p2 &&& (255 : Int32))).toUInt32.toUInt16.toUInt32.toInt32)), .val (.int (((p3 &&& (255 : Int32))).toUInt32.toUInt16.toUInt32.toInt32)), .val (.ref b155), .val (.ref b155), .val (.int p4), .val (.ref b158), .val (.ref b166), .val (.ref b158), .val (.ref b158), .unset, .unset] [(.ref b158), (.ref b178), (.ref b178)])) _
        refine Own.go (fun t k => XS.aload X178.here hx rfl (hb hby at_158) rfl rfl k) ?_
        show Own.Fin p e below (T178.setTop (mkF m 160 #[.val (.int p1), .val (.int p2), .val (.int p3), .val (.int p4), .val (.int p5), .val (.int (1 : Int32)), .val (.int (0 : Int32)), .val (.int (0 : Int32)), .val (.int (((p2 &&& (255 : Int32))).toUInt32.toUInt16.toUInt32.toInt32)), .val (.int (((p3 &&& (255 : Int32))).toUInt32.toUInt16.toUInt32.toInt32)), .val (.ref b155), .val (.ref b155), .val (.int p4), .val (.ref b158), .val (.ref b166), .val (.ref b158), .val (.ref b158), .unset, .unset] [(.ref b158), (.ref b158), (.ref b178), (.ref b178)])) _
        refine Own.go (fun t k => XS.iload X178.here hx rfl (hb hby at_160) rfl k) ?_
        show Own.Fin p e below (T178.setTop (mkF m 162 #[.val (.int p1), .val (.int p2), .val (.int p3), .val (.int p4), .val (.int p5), .val (.int (1 : Int32)), .val (.int (0 : Int32)), .val (.int (0 : Int32)), .val (.int (((p2 &&& (255 : Int32))).toUInt32.toUInt16.toUInt32.toInt32)), .val (.int (((p3 &&& (255 : Int32))).toUInt32.toUInt16.toUInt32.toInt32)), .val (.ref b155), .val (.ref b155), .val (.int p4), .val (.ref b158), .val (.ref b166), .val (.ref b158), .val (.ref b158), .unset, .unset] [(.int p5), (.ref b158), (.ref b158), (.ref b178), (.ref b178)])) _
        refine Own.cI X178 hx hZ rfl hown (hw _ (List.mem_of_getElem? (i := 46) rfl)) (hw _ (List.mem_of_getElem? (i := 47) rfl)) (hw _ (List.mem_of_getElem? (i := 45) rfl)) (hw _ (List.mem_of_getElem? (i := 48) rfl)) (by decide) (rm7 l Z a0 hw [] b178 b158 b158 p5 h178 n0 Z178 A178 fl181 fl182 fl183 ge178) (by decide) (W := 1) (by decide) (argsL := [(.ref b158), (.ref b158), (.int p5)]) (rest := [(.ref b178)]) (by rw [hml]; rfl) (lenOf pd_5 rfl) rfl (Nat.le_of_eq rfl) (hb hby at_162) e178 (by decide) (by decide) ?_
        intro T184 L184 v184 X184 hQ184
        obtain ⟨rfl, N184q, K184q, FS184, FT184⟩ := hQ184
        have N184 := Fr.app N173 N184q
        have f185 := f179.keep K184q
        have f186 := f180.keep K184q
        have f187 := A178.keep K184q
        have Z184 : n0 ≤ T184.heap.size := Nat.le_trans Z178 K184q.1
        have O184 := O178.keep K184q (allS ge178 all0)
        show Own.Fin p e below (T184.setTop (mkF m 165 #[.val (.int p1), .val (.int p2), .val (.int p3), .val (.int p4), .val (.int p5), .val (.int (1 : Int32)), .val (.int (0 : Int32)), .val (.int (0 : Int32)), .val (.int (((p2 &&& (255 : Int32))).toUInt32.toUInt16.toUInt32.toInt32)), .val (.int (((p3 &&& (255 : Int32))).toUInt32.toUInt16.toUInt32.toInt32)), .val (.ref b155), .val (.ref b155), .val (.int p4), .val (.ref b158), .val (.ref b166), .val (.ref b158), .val (.ref b158), .unset, .unset] [(.ref b178)])) _
        refine Own.go (fun t k => XS.astore X184.here hx rfl (hb hby at_165) rfl rfl (l' := #[.val (.int p1), .val (.int p2), .val (.int p3), .val (.int p4), .val (.int p5), .val (.int (1 : Int32)), .val (.int (0 : Int32)), .val (.int (0 : Int32)), .val (.int (((p2 &&& (255 : Int32))).toUInt32.toUInt16.toUInt32.toInt32)), .val (.int (((p3 &&& (255 : Int32))).toUInt32.toUInt16.toUInt32.toInt32)), .val (.ref b155), .val (.ref b155), .val (.int p4), .val (.ref b158), .val (.ref b166), .val (.ref b158), .val (.ref b158), .val (.ref b178), .unset]) rfl k) ?_
        show Own.Fin p e below (T184.setTop (mkF m 167 #[.val (.int p1), .val (.int p2), .val (.int p3), .val (.int p4), .val (.int p5), .val (.int (1 : Int32)), .val (.int (0 : Int32)), .val (.int (0 : Int32)), .val (.int (((p2 &&& (255 : Int32))).toUInt32.toUInt16.toUInt32.toInt32)), .val (.int (((p3 &&& (255 : Int32))).toUInt32.toUInt16.toUInt32.toInt32)), .val (.ref b155), .val (.ref b155), .val (.int p4), .val (.ref b158), .val (.ref b166), .val (.ref b158), .val (.ref b158), .val (.ref b178), .unset] [])) _
        refine Own.go (fun t k => XS.iload X184.here hx rfl (hb hby at_167) rfl k) ?_
        show Own.Fin p e below (T184.setTop (mkF m 169 #[.val (.int p1), .val (.int p2), .val (.int p3), .val (.int p4), .val (.int p5), .val (.int (1 : Int32)), .val (.int (0 : Int32)), .val (.int (0 : Int32)), .val (.int (((p2 &&& (255 : Int32))).toUInt32.toUInt16.toUInt32.toInt32)), .val (.int (((p3 &&& (255 : Int32))).toUInt32.toUInt16.toUInt32.toInt32)), .val (.ref b155), .val (.ref b155), .val (.int p4), .val (.ref b158), .val (.ref b166), .val (.ref b158), .val (.ref b158), .val (.ref b178), .unset] [(.int (0 : Int32))])) _
        refine Own.go (fun t k => XS.iload X184.here hx rfl (hb hby at_169) rfl k) ?_
        show Own.Fin p e below (T184.setTop (mkF m 171 #[.val (.int p1), .val (.int p2), .val (.int p3), .val (.int p4), .val (.int p5), .val (.int (1 : Int32)), .val (.int (0 : Int32)), .val (.int (0 : Int32)), .val (.int (((p2 &&& (255 : Int32))).toUInt32.toUInt16.toUInt32.toInt32)), .val (.int (((p3 &&& (255 : Int32))).toUInt32.toUInt16.toUInt32.toInt32)), .val (.ref b155), .val (.ref b155), .val (.int p4), .val (.ref b158), .val (.ref b166), .val (.ref b158), .val (.ref b158), .val (.ref b178), .unset] [(.int (0 : Int32)), (.int (0 : Int32))])) _
        have hc171_187 : (0 : Int32) = (0 : Int32) := by decide
        refine Own.go (fun t k => XS.icmpNo X184.here hx rfl (hb hby at_171) rfl (teq hc171_187).2 k) ?_
        show Own.Fin p e below (T184.setTop (mkF m 174 #[.val (.int p1), .val (.int p2), .val (.int p3), .val (.int p4), .val (.int p5), .val (.int (1 : Int32)), .val (.int (0 : Int32)), .val (.int (0 : Int32)), .val (.int (((p2 &&& (255 : Int32))).toUInt32.toUInt16.toUInt32.toInt32)), .val (.int (((p3 &&& (255 : Int32))).toUInt32.toUInt16.toUInt32.toInt32)), .val (.ref b155), .val (.ref b155), .val (.int p4), .val (.ref b158), .val (.ref b166), .val (.ref b158), .val (.ref b158), .val (.ref b178), .unset] [])) _
        refine Own.go (fun t k => XS.iconst X184.here hx rfl (hb hby at_174) k) ?_
        show Own.Fin p e below (T184.setTop (mkF m 175 #[.val (.int p1), .val (.int p2), .val (.int p3), .val (.int p4), .val (.int p5), .val (.int (1 : Int32)), .val (.int (0 : Int32)), .val (.int (0 : Int32)), .val (.int (((p2 &&& (255 : Int32))).toUInt32.toUInt16.toUInt32.toInt32)), .val (.int (((p3 &&& (255 : Int32))).toUInt32.toUInt16.toUInt32.toInt32)), .val (.ref b155), .val (.ref b155), .val (.int p4), .val (.ref b158), .val (.ref b166), .val (.ref b158), .val (.ref b158), .val (.ref b178), .unset] [(.int (1 : Int32))])) _
        refine Own.go (fun t k => XS.goto X184.here hx rfl (pc0 := 175) (pc' := 179) rfl (hb hby at_175) (by decide) (by decide) k) ?_
        show Own.Fin p e below (T184.setTop (mkF m 179 #[.val (.int p1), .val (.int p2), .val (.int p3), .val (.int p4), .val (.int p5), .val (.int (1 : Int32)), .val (.int (0 : Int32)), .val (.int (0 : Int32)), .val (.int (((p2 &&& (255 : Int32))).toUInt32.toUInt16.toUInt32.toInt32)), .val (.int (((p3 &&& (255 : Int32))).toUInt32.toUInt16.toUInt32.toInt32)), .val (.ref b155), .val (.ref b155), .val (.int p4), .val (.ref b158), .val (.ref b166), .val (.ref b158), .val (.ref b158), .val (.ref b178), .unset] [(.int (1 : Int32))])) _
        refine Own.go (fun t k => XS.istore X184.here hx rfl (hb hby at_179) rfl (l' := #[.val (.int p1), .val (.int p2), .val (.int p3), .val (.int p4), .val (.int p5), .val (.int (1 : Int32)), .val (.int (0 : Int32)), .val (.int (0 : Int32)), .val (.int (((p2 &&& (255 : Int32))).toUInt32.toUInt16.toUInt32.toInt32)), .val (.int (((p3 &&& (255 : Int32))).toUInt32.toUInt16.toUInt32.toInt32)), .val (.ref b155), .val (.ref b155), .val (.int p4), .val (.ref b158), .val (.ref b166), .val (.ref b158), .val (.ref b158), .val (.ref b178), .val (.int (1 : Int32))]) rfl k) ?_
        show Own.Fin p e below (T184.setTop (mkF m 181 #[.val (.int p1), .val (.int p2), .val (.int p3), .val (.int p4), .val (.int p5), .val (.int (1 : Int32)), .val (.int (0 : Int32)), .val (.int (0 : Int32)), .val (.int (((p2 &&& (255 : Int32))).toUInt32.toUInt16.toUInt32.toInt32)), .val (.int (((p3 &&& (255 : Int32))).toUInt32.toUInt16.toUInt32.toInt32)), .val (.ref b155), .val (.ref b155), .val (.int p4), .val (.ref b158), .val (.ref b166), .val (.ref b158), .val (.ref b158), .val (.ref b178), .val (.int (1 : Int32))] [])) _
        refine Own.go (fun t k => XS.aload X184.here hx rfl (hb hby at_181) rfl rfl k) ?_
        show Own.Fin p e below (T184.setTop (mkF m 183 #[.val (.int p1), .val (.int p2), .val (.int p3), .val (.int p4), .val (.int p5), .val (.int (1 : Int32)), .val (.int (0 : Int32)), .val (.int (0 : Int32)), .val (.int (((p2 &&& (255 : Int32))).toUInt32.toUInt16.toUInt32.toInt32)), .val (.int (((p3 &&& (255 : Int32))).toUInt32.toUInt16.toUInt32.toInt32)), .val (.ref b155), .val (.ref b155), .val (.int p4), .val (.ref b158), .val (.ref b166), .val (.ref b158), .val (.ref b158), .val (.ref b178), .val (.int (1 : Int32))] [(.ref b178)])) _
        refine Own.cV X184 hx hZ hown (hw _ (List.mem_of_getElem? (i := 56) rfl)) (hw _ (List.mem_of_getElem? (i := 57) rfl)) (notFace_of_selects (args := #[]) (mvT hZ (hw _ (List.mem_of_getElem? (i := 59) rfl)))) (hw _ (List.mem_of_getElem? (i := 59) rfl)) (hw _ (List.mem_of_getElem? (i := 58) rfl)) (hw _ (List.mem_of_getElem? (i := 45) rfl)) (hw _ (List.mem_of_getElem? (i := 60) rfl)) (by decide) (rm8 l Z a0 hw [] b178 b158 b158 T184.heap n0 Z184 FS184 FT184) (by decide) (W := 0) (by decide) (argsL := []) (rest := []) f187 (by rw [hml]; rfl) (lenOf pd_6 rfl) rfl (Nat.le_of_eq rfl) (hb hby at_183) rfl (by decide) (by decide) ?_
        intro T189 L189 v189 X189 hQ189
        obtain ⟨rfl, N189q, e189⟩ := hQ189
        have N189 := Fr.app N184 N189q
        rw [if_pos rfl]
        show Own.Fin p e below (T189.setTop (mkF m 186 #[.val (.int p1), .val (.int p2), .val (.int p3), .val (.int p4), .val (.int p5), .val (.int (1 : Int32)), .val (.int (0 : Int32)), .val (.int (0 : Int32)), .val (.int (((p2 &&& (255 : Int32))).toUInt32.toUInt16.toUInt32.toInt32)), .val (.int (((p3 &&& (255 : Int32))).toUInt32.toUInt16.toUInt32.toInt32)), .val (.ref b155), .val (.ref b155), .val (.int p4), .val (.ref b158), .val (.ref b166), .val (.ref b158), .val (.ref b158), .val (.ref b178), .val (.int (1 : Int32))] [(.int (1 : Int32))])) _
        refine Own.go (fun t k => XS.iload X189.here hx rfl (hb hby at_186) rfl k) ?_
        show Own.Fin p e below (T189.setTop (mkF m 188 #[.val (.int p1), .val (.int p2), .val (.int p3), .val (.int p4), .val (.int p5), .val (.int (1 : Int32)), .val (.int (0 : Int32)), .val (.int (0 : Int32)), .val (.int (((p2 &&& (255 : Int32))).toUInt32.toUInt16.toUInt32.toInt32)), .val (.int (((p3 &&& (255 : Int32))).toUInt32.toUInt16.toUInt32.toInt32)), .val (.ref b155), .val (.ref b155), .val (.int p4), .val (.ref b158), .val (.ref b166), .val (.ref b158), .val (.ref b158), .val (.ref b178), .val (.int (1 : Int32))] [(.int (1 : Int32)), (.int (1 : Int32))])) _
        have hc188_189 : (1 : Int32) = (1 : Int32) := by decide
        refine Own.go (fun t k => XS.icmpNo X189.here hx rfl (hb hby at_188) rfl (teq hc188_189).2 k) ?_
        show Own.Fin p e below (T189.setTop (mkF m 191 #[.val (.int p1), .val (.int p2), .val (.int p3), .val (.int p4), .val (.int p5), .val (.int (1 : Int32)), .val (.int (0 : Int32)), .val (.int (0 : Int32)), .val (.int (((p2 &&& (255 : Int32))).toUInt32.toUInt16.toUInt32.toInt32)), .val (.int (((p3 &&& (255 : Int32))).toUInt32.toUInt16.toUInt32.toInt32)), .val (.ref b155), .val (.ref b155), .val (.int p4), .val (.ref b158), .val (.ref b166), .val (.ref b158), .val (.ref b158), .val (.ref b178), .val (.int (1 : Int32))] [])) _
        refine Own.go (fun t k => XS.iconst X189.here hx rfl (hb hby at_191) k) ?_
        show Own.Fin p e below (T189.setTop (mkF m 192 #[.val (.int p1), .val (.int p2), .val (.int p3), .val (.int p4), .val (.int p5), .val (.int (1 : Int32)), .val (.int (0 : Int32)), .val (.int (0 : Int32)), .val (.int (((p2 &&& (255 : Int32))).toUInt32.toUInt16.toUInt32.toInt32)), .val (.int (((p3 &&& (255 : Int32))).toUInt32.toUInt16.toUInt32.toInt32)), .val (.ref b155), .val (.ref b155), .val (.int p4), .val (.ref b158), .val (.ref b166), .val (.ref b158), .val (.ref b158), .val (.ref b178), .val (.int (1 : Int32))] [(.int (1 : Int32))])) _
        refine Own.go (fun t k => XS.goto X189.here hx rfl (pc0 := 192) (pc' := 196) rfl (hb hby at_192) (by decide) (by decide) k) ?_
        show Own.Fin p e below (T189.setTop (mkF m 196 #[.val (.int p1), .val (.int p2), .val (.int p3), .val (.int p4), .val (.int p5), .val (.int (1 : Int32)), .val (.int (0 : Int32)), .val (.int (0 : Int32)), .val (.int (((p2 &&& (255 : Int32))).toUInt32.toUInt16.toUInt32.toInt32)), .val (.int (((p3 &&& (255 : Int32))).toUInt32.toUInt16.toUInt32.toInt32)), .val (.ref b155), .val (.ref b155), .val (.int p4), .val (.ref b158), .val (.ref b166), .val (.ref b158), .val (.ref b158), .val (.ref b178), .val (.int (1 : Int32))] [(.int (1 : Int32))])) _
        refine Own.retN X189 hx Bd.notSynchronized (t := .boolean) Bd.returns (by simp) (hb hby at_196) (by decide) (by decide) ?_
        exact ⟨rfl, N189⟩
      · skip
        refine Own.go (fun t k => XS.ifNo X0.here hx rfl (hb hby at_29) rfl ((if0 _ _).trans (feq hc29_153).1) k) ?_
        show Own.Fin p e below (s₁.setTop (mkF m 32 #[.val (.int p1), .val (.int p2), .val (.int p3), .val (.int p4), .val (.int p5), .val (.int (1 : Int32)), .val (.int (0 : Int32)), .unset, .unset, .unset, .unset, .unset, .unset, .unset, .unset, .unset, .unset, .unset, .unset] [])) _
        refine Own.go (fun t k => XS.iconst X0.here hx rfl (hb hby at_32) k) ?_
        show Own.Fin p e below (s₁.setTop (mkF m 33 #[.val (.int p1), .val (.int p2), .val (.int p3), .val (.int p4), .val (.int p5), .val (.int (1 : Int32)), .val (.int (0 : Int32)), .unset, .unset, .unset, .unset, .unset, .unset, .unset, .unset, .unset, .unset, .unset, .unset] [(.int (1 : Int32))])) _
        refine Own.go (fun t k => XS.goto X0.here hx rfl (pc0 := 33) (pc' := 37) rfl (hb hby at_33) (by decide) (by decide) k) ?_
        show Own.Fin p e below (s₁.setTop (mkF m 37 #[.val (.int p1), .val (.int p2), .val (.int p3), .val (.int p4), .val (.int p5), .val (.int (1 : Int32)), .val (.int (0 : Int32)), .unset, .unset, .unset, .unset, .unset, .unset, .unset, .unset, .unset, .unset, .unset, .unset] [(.int (1 : Int32))])) _
        refine Own.go (fun t k => XS.istore X0.here hx rfl (hb hby at_37) rfl (l' := #[.val (.int p1), .val (.int p2), .val (.int p3), .val (.int p4), .val (.int p5), .val (.int (1 : Int32)), .val (.int (0 : Int32)), .val (.int (1 : Int32)), .unset, .unset, .unset, .unset, .unset, .unset, .unset, .unset, .unset, .unset, .unset]) rfl k) ?_
        show Own.Fin p e below (s₁.setTop (mkF m 39 #[.val (.int p1), .val (.int p2), .val (.int p3), .val (.int p4), .val (.int p5), .val (.int (1 : Int32)), .val (.int (0 : Int32)), .val (.int (1 : Int32)), .unset, .unset, .unset, .unset, .unset, .unset, .unset, .unset, .unset, .unset, .unset] [])) _
        refine Own.go (fun t k => XS.iloadN X0.here hx rfl (hb hby at_39) rfl k) ?_
        show Own.Fin p e below (s₁.setTop (mkF m 40 #[.val (.int p1), .val (.int p2), .val (.int p3), .val (.int p4), .val (.int p5), .val (.int (1 : Int32)), .val (.int (0 : Int32)), .val (.int (1 : Int32)), .unset, .unset, .unset, .unset, .unset, .unset, .unset, .unset, .unset, .unset, .unset] [(.int p2)])) _
        refine Own.go (fun t k => XS.sipush X0.here hx rfl (hb hby at_40) k) ?_
        show Own.Fin p e below (s₁.setTop (mkF m 43 #[.val (.int p1), .val (.int p2), .val (.int p3), .val (.int p4), .val (.int p5), .val (.int (1 : Int32)), .val (.int (0 : Int32)), .val (.int (1 : Int32)), .unset, .unset, .unset, .unset, .unset, .unset, .unset, .unset, .unset, .unset, .unset] [(.int (255 : Int32)), (.int p2)])) _
        refine Own.go (fun t k => XS.iand X0.here hx rfl (hb hby at_43) rfl k) ?_
        show Own.Fin p e below (s₁.setTop (mkF m 44 #[.val (.int p1), .val (.int p2), .val (.int p3), .val (.int p4), .val (.int p5), .val (.int (1 : Int32)), .val (.int (0 : Int32)), .val (.int (1 : Int32)), .unset, .unset, .unset, .unset, .unset, .unset, .unset, .unset, .unset, .unset, .unset] [(.int (p2 &&& (255 : Int32)))])) _
        refine Own.go (fun t k => XS.i2c X0.here hx rfl (hb hby at_44) rfl k) ?_
        show Own.Fin p e below (s₁.setTop (mkF m 45 #[.val (.int p1), .val (.int p2), .val (.int p3), .val (.int p4), .val (.int p5), .val (.int (1 : Int32)), .val (.int (0 : Int32)), .val (.int (1 : Int32)), .unset, .unset, .unset, .unset, .unset, .unset, .unset, .unset, .unset, .unset, .unset] [(.int (((p2 &&& (255 : Int32))).toUInt32.toUInt16.toUInt32.toInt32))])) _
        refine Own.go (fun t k => XS.istore X0.here hx rfl (hb hby at_45) rfl (l' := #[.val (.int p1), .val (.int p2), .val (.int p3), .val (.int p4), .val (.int p5), .val (.int (1 : Int32)), .val (.int (0 : Int32)), .val (.int (1 : Int32)), .val (.int (((p2 &&& (255 : Int32))).toUInt32.toUInt16.toUInt32.toInt32)), .unset, .unset, .unset, .unset, .unset, .unset, .unset, .unset, .unset, .unset]) rfl k) ?_
        show Own.Fin p e below (s₁.setTop (mkF m 47 #[.val (.int p1), .val (.int p2), .val (.int p3), .val (.int p4), .val (.int p5), .val (.int (1 : Int32)), .val (.int (0 : Int32)), .val (.int (1 : Int32)), .val (.int (((p2 &&& (255 : Int32))).toUInt32.toUInt16.toUInt32.toInt32)), .unset, .unset, .unset, .unset, .unset, .unset, .unset, .unset, .unset, .unset] [])) _
        refine Own.go (fun t k => XS.iloadN X0.here hx rfl (hb hby at_47) rfl k) ?_
        show Own.Fin p e below (s₁.setTop (mkF m 48 #[.val (.int p1), .val (.int p2), .val (.int p3), .val (.int p4), .val (.int p5), .val (.int (1 : Int32)), .val (.int (0 : Int32)), .val (.int (1 : Int32)), .val (.int (((p2 &&& (255 : Int32))).toUInt32.toUInt16.toUInt32.toInt32)), .unset, .unset, .unset, .unset, .unset, .unset, .unset, .unset, .unset, .unset] [(.int p3)])) _
        refine Own.go (fun t k => XS.sipush X0.here hx rfl (hb hby at_48) k) ?_
        show Own.Fin p e below (s₁.setTop (mkF m 51 #[.val (.int p1), .val (.int p2), .val (.int p3), .val (.int p4), .val (.int p5), .val (.int (1 : Int32)), .val (.int (0 : Int32)), .val (.int (1 : Int32)), .val (.int (((p2 &&& (255 : Int32))).toUInt32.toUInt16.toUInt32.toInt32)), .unset, .unset, .unset, .unset, .unset, .unset, .unset, .unset, .unset, .unset] [(.int (255 : Int32)), (.int p3)])) _
        refine Own.go (fun t k => XS.iand X0.here hx rfl (hb hby at_51) rfl k) ?_
        show Own.Fin p e below (s₁.setTop (mkF m 52 #[.val (.int p1), .val (.int p2), .val (.int p3), .val (.int p4), .val (.int p5), .val (.int (1 : Int32)), .val (.int (0 : Int32)), .val (.int (1 : Int32)), .val (.int (((p2 &&& (255 : Int32))).toUInt32.toUInt16.toUInt32.toInt32)), .unset, .unset, .unset, .unset, .unset, .unset, .unset, .unset, .unset, .unset] [(.int (p3 &&& (255 : Int32)))])) _
        refine Own.go (fun t k => XS.i2c X0.here hx rfl (hb hby at_52) rfl k) ?_
        show Own.Fin p e below (s₁.setTop (mkF m 53 #[.val (.int p1), .val (.int p2), .val (.int p3), .val (.int p4), .val (.int p5), .val (.int (1 : Int32)), .val (.int (0 : Int32)), .val (.int (1 : Int32)), .val (.int (((p2 &&& (255 : Int32))).toUInt32.toUInt16.toUInt32.toInt32)), .unset, .unset, .unset, .unset, .unset, .unset, .unset, .unset, .unset, .unset] [(.int (((p3 &&& (255 : Int32))).toUInt32.toUInt16.toUInt32.toInt32))])) _
        refine Own.go (fun t k => XS.istore X0.here hx rfl (hb hby at_53) rfl (l' := #[.val (.int p1), .val (.int p2), .val (.int p3), .val (.int p4), .val (.int p5), .val (.int (1 : Int32)), .val (.int (0 : Int32)), .val (.int (1 : Int32)), .val (.int (((p2 &&& (255 : Int32))).toUInt32.toUInt16.toUInt32.toInt32)), .val (.int (((p3 &&& (255 : Int32))).toUInt32.toUInt16.toUInt32.toInt32)), .unset, .unset, .unset, .unset, .unset, .unset, .unset, .unset, .unset]) rfl k) ?_
        show Own.Fin p e below (s₁.setTop (mkF m 55 #[.val (.int p1), .val (.int p2), .val (.int p3), .val (.int p4), .val (.int p5), .val (.int (1 : Int32)), .val (.int (0 : Int32)), .val (.int (1 : Int32)), .val (.int (((p2 &&& (255 : Int32))).toUInt32.toUInt16.toUInt32.toInt32)), .val (.int (((p3 &&& (255 : Int32))).toUInt32.toUInt16.toUInt32.toInt32)), .unset, .unset, .unset, .unset, .unset, .unset, .unset, .unset, .unset] [])) _
        refine Own.go (fun t k => XS.iload X0.here hx rfl (hb hby at_55) rfl k) ?_
        show Own.Fin p e below (s₁.setTop (mkF m 57 #[.val (.int p1), .val (.int p2), .val (.int p3), .val (.int p4), .val (.int p5), .val (.int (1 : Int32)), .val (.int (0 : Int32)), .val (.int (1 : Int32)), .val (.int (((p2 &&& (255 : Int32))).toUInt32.toUInt16.toUInt32.toInt32)), .val (.int (((p3 &&& (255 : Int32))).toUInt32.toUInt16.toUInt32.toInt32)), .unset, .unset, .unset, .unset, .unset, .unset, .unset, .unset, .unset] [(.int (((p2 &&& (255 : Int32))).toUInt32.toUInt16.toUInt32.toInt32))])) _
        refine Own.cS X0 hx hZ hown (hw _ (List.mem_of_getElem? (i := 0) rfl)) (hw _ (List.mem_of_getElem? (i := 1) rfl)) (hw _ (List.mem_of_getElem? (i := 2) rfl)) (hw _ (List.mem_of_getElem? (i := 3) rfl)) (by decide) (rm1 l Z a0 hw [] (((p2 &&& (255 : Int32))).toUInt32.toUInt16.toUInt32.toInt32) cs h0 n0 Z0 O0 SC hcs (own_ch _)) (by decide) (W := 0) (by decide) (argsL := [(.int (((p2 &&& (255 : Int32))).toUInt32.toUInt16.toUInt32.toInt32))]) (rest := []) (by rw [hml]; rfl) (lenOf pd_3 rfl) rfl (Nat.le_of_eq rfl) (hb hby at_57) e0 (by decide) (by decide) ?_
        intro T191 L191 v191 X191 hQ191
        obtain ⟨b191, ge191, rfl, N191q, K191q⟩ := hQ191
        have N191 := Fr.app N0 N191q
        have Z191 : n0 ≤ T191.heap.size := Nat.le_trans Z0 K191q.1
        have O191 := O0.keep K191q all0
        show Own.Fin p e below (T191.setTop (mkF m 60 #[.val (.int p1), .val (.int p2), .val (.int p3), .val (.int p4), .val (.int p5), .val (.int (1 : Int32)), .val (.int (0 : Int32)), .val (.int (1 : Int32)), .val (.int (((p2 &&& (255 : Int32))).toUInt32.toUInt16.toUInt32.toInt32)), .val (.int (((p3 &&& (255 : Int32))).toUInt32.toUInt16.toUInt32.toInt32)), .unset, .unset, .unset, .unset, .unset, .unset, .unset, .unset, .unset] [(.ref b191)])) _
        refine Own.go (fun t k => XS.astore X191.here hx rfl (hb hby at_60) rfl rfl (l' := #[.val (.int p1), .val (.int p2), .val (.int p3), .val (.int p4), .val (.int p5), .val (.int (1 : Int32)), .val (.int (0 : Int32)), .val (.int (1 : Int32)), .val (.int (((p2 &&& (255 : Int32))).toUInt32.toUInt16.toUInt32.toInt32)), .val (.int (((p3 &&& (255 : Int32))).toUInt32.toUInt16.toUInt32.toInt32)), .val (.ref b191), .unset, .unset, .unset, .unset, .unset, .unset, .unset, .unset]) rfl k) ?_
        show Own.Fin p e below (T191.setTop (mkF m 62 #[.val (.int p1), .val (.int p2), .val (.int p3), .val (.int p4), .val (.int p5), .val (.int (1 : Int32)), .val (.int (0 : Int32)), .val (.int (1 : Int32)), .val (.int (((p2 &&& (255 : Int32))).toUInt32.toUInt16.toUInt32.toInt32)), .val (.int (((p3 &&& (255 : Int32))).toUInt32.toUInt16.toUInt32.toInt32)), .val (.ref b191), .unset, .unset, .unset, .unset, .unset, .unset, .unset, .unset] [])) _
        refine Own.go (fun t k => XS.iload X191.here hx rfl (hb hby at_62) rfl k) ?_
        show Own.Fin p e below (T191.setTop (mkF m 64 #[.val (.int p1), .val (.int p2), .val (.int p3), .val (.int p4), .val (.int p5), .val (.int (1 : Int32)), .val (.int (0 : Int32)), .val (.int (1 : Int32)), .val (.int (((p2 &&& (255 : Int32))).toUInt32.toUInt16.toUInt32.toInt32)), .val (.int (((p3 &&& (255 : Int32))).toUInt32.toUInt16.toUInt32.toInt32)), .val (.ref b191), .unset, .unset, .unset, .unset, .unset, .unset, .unset, .unset] [(.int (1 : Int32))])) _
        have hc64_191 : ¬ ((1 : Int32) = (0 : Int32)) := by decide
        refine Own.go (fun t k => XS.ifNo X191.here hx rfl (hb hby at_64) rfl ((if0 _ _).trans (feq hc64_191).1) k) ?_
        show Own.Fin p e below (T191.setTop (mkF m 67 #[.val (.int p1), .val (.int p2), .val (.int p3), .val (.int p4), .val (.int p5), .val (.int (1 : Int32)), .val (.int (0 : Int32)), .val (.int (1 : Int32)), .val (.int (((p2 &&& (255 : Int32))).toUInt32.toUInt16.toUInt32.toInt32)), .val (.int (((p3 &&& (255 : Int32))).toUInt32.toUInt16.toUInt32.toInt32)), .val (.ref b191), .unset, .unset, .unset, .unset, .unset, .unset, .unset, .unset] [])) _
        refine Own.go (fun t k => XS.aload X191.here hx rfl (hb hby at_67) rfl rfl k) ?_
        show Own.Fin p e below (T191.setTop (mkF m 69 #[.val (.int p1), .val (.int p2), .val (.int p3), .val (.int p4), .val (.int p5), .val (.int (1 : Int32)), .val (.int (0 : Int32)), .val (.int (1 : Int32)), .val (.int (((p2 &&& (255 : Int32))).toUInt32.toUInt16.toUInt32.toInt32)), .val (.int (((p3 &&& (255 : Int32))).toUInt32.toUInt16.toUInt32.toInt32)), .val (.ref b191), .unset, .unset, .unset, .unset, .unset, .unset, .unset, .unset] [(.ref b191)])) _
        refine Own.go (fun t k => XS.goto X191.here hx rfl (pc0 := 69) (pc' := 77) rfl (hb hby at_69) (by decide) (by decide) k) ?_
        show Own.Fin p e below (T191.setTop (mkF m 77 #[.val (.int p1), .val (.int p2), .val (.int p3), .val (.int p4), .val (.int p5), .val (.int (1 : Int32)), .val (.int (0 : Int32)), .val (.int (1 : Int32)), .val (.int (((p2 &&& (255 : Int32))).toUInt32.toUInt16.toUInt32.toInt32)), .val (.int (((p3 &&& (255 : Int32))).toUInt32.toUInt16.toUInt32.toInt32)), .val (.ref b191), .unset, .unset, .unset, .unset, .unset, .unset, .unset, .unset] [(.ref b191)])) _
        refine Own.go (fun t k => XS.astore X191.here hx rfl (hb hby at_77) rfl rfl (l' := #[.val (.int p1), .val (.int p2), .val (.int p3), .val (.int p4), .val (.int p5), .val (.int (1 : Int32)), .val (.int (0 : Int32)), .val (.int (1 : Int32)), .val (.int (((p2 &&& (255 : Int32))).toUInt32.toUInt16.toUInt32.toInt32)), .val (.int (((p3 &&& (255 : Int32))).toUInt32.toUInt16.toUInt32.toInt32)), .val (.ref b191), .val (.ref b191), .unset, .unset, .unset, .unset, .unset, .unset, .unset]) rfl k) ?_
        show Own.Fin p e below (T191.setTop (mkF m 79 #[.val (.int p1), .val (.int p2), .val (.int p3), .val (.int p4), .val (.int p5), .val (.int (1 : Int32)), .val (.int (0 : Int32)), .val (.int (1 : Int32)), .val (.int (((p2 &&& (255 : Int32))).toUInt32.toUInt16.toUInt32.toInt32)), .val (.int (((p3 &&& (255 : Int32))).toUInt32.toUInt16.toUInt32.toInt32)), .val (.ref b191), .val (.ref b191), .unset, .unset, .unset, .unset, .unset, .unset, .unset] [])) _
        refine Own.go (fun t k => XS.iload X191.here hx rfl (hb hby at_79) rfl k) ?_
        show Own.Fin p e below (T191.setTop (mkF m 81 #[.val (.int p1), .val (.int p2), .val (.int p3), .val (.int p4), .val (.int p5), .val (.int (1 : Int32)), .val (.int (0 : Int32)), .val (.int (1 : Int32)), .val (.int (((p2 &&& (255 : Int32))).toUInt32.toUInt16.toUInt32.toInt32)), .val (.int (((p3 &&& (255 : Int32))).toUInt32.toUInt16.toUInt32.toInt32)), .val (.ref b191), .val (.ref b191), .unset, .unset, .unset, .unset, .unset, .unset, .unset] [(.int (1 : Int32))])) _
        have hc81_192 : ¬ ((1 : Int32) = (0 : Int32)) := by decide
        refine Own.go (fun t k => XS.ifNo X191.here hx rfl (hb hby at_81) rfl ((if0 _ _).trans (feq hc81_192).1) k) ?_
        show Own.Fin p e below (T191.setTop (mkF m 84 #[.val (.int p1), .val (.int p2), .val (.int p3), .val (.int p4), .val (.int p5), .val (.int (1 : Int32)), .val (.int (0 : Int32)), .val (.int (1 : Int32)), .val (.int (((p2 &&& (255 : Int32))).toUInt32.toUInt16.toUInt32.toInt32)), .val (.int (((p3 &&& (255 : Int32))).toUInt32.toUInt16.toUInt32.toInt32)), .val (.ref b191), .val (.ref b191), .unset, .unset, .unset, .unset, .unset, .unset, .unset] [])) _
        refine Own.go (fun t k => XS.iloadN X191.here hx rfl (hb hby at_84) rfl k) ?_
        show Own.Fin p e below (T191.setTop (mkF m 85 #[.val (.int p1), .val (.int p2), .val (.int p3), .val (.int p4), .val (.int p5), .val (.int (1 : Int32)), .val (.int (0 : Int32)), .val (.int (1 : Int32)), .val (.int (((p2 &&& (255 : Int32))).toUInt32.toUInt16.toUInt32.toInt32)), .val (.int (((p3 &&& (255 : Int32))).toUInt32.toUInt16.toUInt32.toInt32)), .val (.ref b191), .val (.ref b191), .unset, .unset, .unset, .unset, .unset, .unset, .unset] [(.int p4)])) _
        refine Own.go (fun t k => XS.goto X191.here hx rfl (pc0 := 85) (pc' := 89) rfl (hb hby at_85) (by decide) (by decide) k) ?_
        show Own.Fin p e below (T191.setTop (mkF m 89 #[.val (.int p1), .val (.int p2), .val (.int p3), .val (.int p4), .val (.int p5), .val (.int (1 : Int32)), .val (.int (0 : Int32)), .val (.int (1 : Int32)), .val (.int (((p2 &&& (255 : Int32))).toUInt32.toUInt16.toUInt32.toInt32)), .val (.int (((p3 &&& (255 : Int32))).toUInt32.toUInt16.toUInt32.toInt32)), .val (.ref b191), .val (.ref b191), .unset, .unset, .unset, .unset, .unset, .unset, .unset] [(.int p4)])) _
        refine Own.go (fun t k => XS.istore X191.here hx rfl (hb hby at_89) rfl (l' := #[.val (.int p1), .val (.int p2), .val (.int p3), .val (.int p4), .val (.int p5), .val (.int (1 : Int32)), .val (.int (0 : Int32)), .val (.int (1 : Int32)), .val (.int (((p2 &&& (255 : Int32))).toUInt32.toUInt16.toUInt32.toInt32)), .val (.int (((p3 &&& (255 : Int32))).toUInt32.toUInt16.toUInt32.toInt32)), .val (.ref b191), .val (.ref b191), .val (.int p4), .unset, .unset, .unset, .unset, .unset, .unset]) rfl k) ?_
        show Own.Fin p e below (T191.setTop (mkF m 91 #[.val (.int p1), .val (.int p2), .val (.int p3), .val (.int p4), .val (.int p5), .val (.int (1 : Int32)), .val (.int (0 : Int32)), .val (.int (1 : Int32)), .val (.int (((p2 &&& (255 : Int32))).toUInt32.toUInt16.toUInt32.toInt32)), .val (.int (((p3 &&& (255 : Int32))).toUInt32.toUInt16.toUInt32.toInt32)), .val (.ref b191), .val (.ref b191), .val (.int p4), .unset, .unset, .unset, .unset, .unset, .unset] [])) _
        obtain ⟨T194, h194, X194, e194, E194, A194, D194, -, st194⟩ := newO X191 hx hZ hown (hw _ (List.mem_of_getElem? (i := 26) rfl)) (hw _ (List.mem_of_getElem? (i := 27) rfl)) (hw _ (List.mem_of_getElem? (i := 28) rfl)) rfl (g := (mkF m 91 #[.val (.int p1), .val (.int p2), .val (.int p3), .val (.int p4), .val (.int p5), .val (.int (1 : Int32)), .val (.int (0 : Int32)), .val (.int (1 : Int32)), .val (.int (((p2 &&& (255 : Int32))).toUInt32.toUInt16.toUInt32.toInt32)), .val (.int (((p3 &&& (255 : Int32))).toUInt32.toUInt16.toUInt32.toInt32)), .val (.ref b191), .val (.ref b191), .val (.int p4), .unset, .unset, .unset, .unset, .unset, .unset] [])) rfl (hb hby at_91) (by decide) (by decide)
        obtain ⟨b194, gb194⟩ : ∃ z, z = T191.heap.size := ⟨_, rfl⟩
        rw [← gb194] at A194 D194 st194
        refine Own.go st194 ?_
        have ge194 : n0 ≤ b194 := by rw [gb194]; exact Z191
        have Z194 : n0 ≤ h194.size := Nat.le_trans Z191 E194.1
        have O194 := O191.ext E194
        have fl195 : Fld Z h194 b194 "com/example/arachne/arachne/Node" "id" "Ljava/lang/String;" .null := D194 (Or.inr (hw _ (List.mem_of_getElem? (i := 34) rfl))) (ty := (.object "java/lang/String")) (by decide)
        have fl196 : Fld Z h194 b194 "com/example/arachne/arachne/Node" "size" "Lcom/example/arachne/arachne/NodeSize;" .null := D194 (Or.inr (hw _ (List.mem_of_getElem? (i := 36) rfl))) (ty := (.object "com/example/arachne/arachne/NodeSize")) (by decide)
        have fl197 : Fld Z h194 b194 "com/example/arachne/arachne/Node" "label" "Ljava/lang/String;" .null := D194 (Or.inr (hw _ (List.mem_of_getElem? (i := 38) rfl))) (ty := (.object "java/lang/String")) (by decide)
        have fl198 : Fld Z h194 b194 "com/example/arachne/arachne/Node" "pin" "Lcom/example/arachne/arachne/Point;" .null := D194 (Or.inr (hw _ (List.mem_of_getElem? (i := 40) rfl))) (ty := (.object "com/example/arachne/arachne/Point")) (by decide)
        have fl199 : Fld Z h194 b194 "com/example/arachne/arachne/Node" "index" "I" (.int (0 : Int32)) := D194 (Or.inr (hw _ (List.mem_of_getElem? (i := 42) rfl))) (ty := .int) (by decide)
        show Own.Fin p e below (T194.setTop (mkF m 94 #[.val (.int p1), .val (.int p2), .val (.int p3), .val (.int p4), .val (.int p5), .val (.int (1 : Int32)), .val (.int (0 : Int32)), .val (.int (1 : Int32)), .val (.int (((p2 &&& (255 : Int32))).toUInt32.toUInt16.toUInt32.toInt32)), .val (.int (((p3 &&& (255 : Int32))).toUInt32.toUInt16.toUInt32.toInt32)), .val (.ref b191), .val (.ref b191), .val (.int p4), .unset, .unset, .unset, .unset, .unset, .unset] [(.ref b194)])) _
        refine Own.go (fun t k => XS.dup X194.here hx rfl (hb hby at_94) rfl rfl k) ?_
        show Own.Fin p e below (T194.setTop (mkF m 95 #[.val (.int p1), .val (.int p2), .val (.int p3), .val (.int p4), .val (.int p5), .val (.int (1 : Int32)), .val (.int (0 : Int32)), .val (.int (1 : Int32)), .val (.int (((p2 &&& (255 : Int32))).toUInt32.toUInt16.toUInt32.toInt32)), .val (.int (((p3 &&& (255 : Int32))).toUInt32.toUInt16.toUInt32.toInt32)), .val (.ref b191), .val (.ref b191), .val (.int p4), .unset, .unset, .unset, .unset, .unset, .unset] [(.ref b194), (.ref b194)])) _
        refine Own.go (fun t k => XS.aload X194.here hx rfl (hb hby at_95) rfl rfl k) ?_
        show Own.Fin p e below (T194.setTop (mkF m 97 #[.val (.int p1), .val (.int p2), .val (.int p3), .val (.int p4), .val (.int p5), .val (.int (1 : Int32)), .val (.int (0 : Int32)), .val (.int (1 : Int32)), .val (.int (((p2 &&& (255 : Int32))).toUInt32.toUInt16.toUInt32.toInt32)), .val (.int (((p3 &&& (255 : Int32))).toUInt32.toUInt16.toUInt32.toInt32)), .val (.ref b191), .val (.ref b191), .val (.int p4), .unset, .unset, .unset, .unset, .unset, .unset] [(.ref b191), (.ref b194), (.ref b194)])) _
        refine Own.go (fun t k => XS.aconstNull X194.here hx rfl (hb hby at_97) k) ?_
        show Own.Fin p e below (T194.setTop (mkF m 98 #[.val (.int p1), .val (.int p2), .val (.int p3), .val (.int p4), .val (.int p5), .val (.int (1 : Int32)), .val (.int (0 : Int32)), .val (.int (1 : Int32)), .val (.int (((p2 &&& (255 : Int32))).toUInt32.toUInt16.toUInt32.toInt32)), .val (.int (((p3 &&& (255 : Int32))).toUInt32.toUInt16.toUInt32.toInt32)), .val (.ref b191), .val (.ref b191), .val (.int p4), .unset, .unset, .unset, .unset, .unset, .unset] [.null, (.ref b191), (.ref b194), (.ref b194)])) _
        refine Own.go (fun t k => XS.aload X194.here hx rfl (hb hby at_98) rfl rfl k) ?_
        show Own.Fin p e below (T194.setTop (mkF m 100 #[.val (.int p1), .val (.int p2), .val (.int p3), .val (.int p4), .val (.int p5), .val (.int (1 : Int32)), .val (.int (0 : Int32)), .val (.int (1 : Int32)), .val (.int (((p2 &&& (255 : Int32))).toUInt32.toUInt16.toUInt32.toInt32)), .val (.int (((p3 &&& (255 : Int32))).toUInt32.toUInt16.toUInt32.toInt32)), .val (.ref b191), .val (.ref b191), .val (.int p4), .unset, .unset, .unset, .unset, .unset, .unset] [(.ref b191), .null, (.ref b191), (.ref b194), (.ref b194)])) _
        refine Own.go (fun t k => XS.aconstNull X194.here hx rfl (hb hby at_100) k) ?_
        show Own.Fin p e below (T194.setTop (mkF m 101 #[.val (.int p1), .val (.int p2), .val (.int p3), .val (.int p4), .val (.int p5), .val (.int (1 : Int32)), .val (.int (0 : Int32)), .val (.int (1 : Int32)), .val (.int (((p2 &&& (255 : Int32))).toUInt32.toUInt16.toUInt32.toInt32)), .val (.int (((p3 &&& (255 : Int32))).toUInt32.toUInt16.toUInt32.toInt32)), .val (.ref b191), .val (.ref b191), .val (.int p4), .unset, .unset, .unset, .unset, .unset, .unset] [.null, (.ref b191), .null, (.ref b191), (.ref b194), (.ref b194)])) _
        refine Own.go (fun t k => XS.iloadN X194.here hx rfl (hb hby at_101) rfl k) ?_
        show Own.Fin p e below (T194.setTop (mkF m 102 #[.val (.int p1), .val (.int p2), .val (.int p3), .val (.int p4), .val (.int p5), .val (.int (1 : Int32)), .val (.int (0 : Int32)), .val (.int (1 : Int32)), .val (.int (((p2 &&& (255 : Int32))).toUInt32.toUInt16.toUInt32.toInt32)), .val (.int (((p3 &&& (255 : Int32))).toUInt32.toUInt16.toUInt32.toInt32)), .val (.ref b191), .val (.ref b191), .val (.int p4), .unset, .unset, .unset, .unset, .unset, .unset] [(.int p4), .null, (.ref b191), .null, (.ref b191), (.ref b194), (.ref b194)])) _
        refine Own.cI X194 hx hZ rfl hown (hw _ (List.mem_of_getElem? (i := 29) rfl)) (hw _ (List.mem_of_getElem? (i := 30) rfl)) (hw _ (List.mem_of_getElem? (i := 28) rfl)) (hw _ (List.mem_of_getElem? (i := 31) rfl)) (by decide) (rm6 l Z a0 hw [] b194 b191 b191 p4 h194 n0 Z194 A194 fl195 fl196 fl197 fl198 fl199 ge194) (by decide) (W := 1) (by decide) (argsL := [(.ref b191), .null, (.ref b191), .null, (.int p4)]) (rest := [(.ref b194)]) (by rw [hml]; rfl) (lenOf pd_4 rfl) rfl (Nat.le_of_eq rfl) (hb hby at_102) e194 (by decide) (by decide) ?_
        intro T200 L200 v200 X200 hQ200
        obtain ⟨rfl, N200q, K200q⟩ := hQ200
        have N200 := Fr.app N191 N200q
        have f201 := A194.keep K200q
        have Z200 : n0 ≤ T200.heap.size := Nat.le_trans Z194 K200q.1
        have O200 := O194.keep K200q (allS ge194 all0)
        show Own.Fin p e below (T200.setTop (mkF m 105 #[.val (.int p1), .val (.int p2), .val (.int p3), .val (.int p4), .val (.int p5), .val (.int (1 : Int32)), .val (.int (0 : Int32)), .val (.int (1 : Int32)), .val (.int (((p2 &&& (255 : Int32))).toUInt32.toUInt16.toUInt32.toInt32)), .val (.int (((p3 &&& (255 : Int32))).toUInt32.toUInt16.toUInt32.toInt32)), .val (.ref b191), .val (.ref b191), .val (.int p4), .unset, .unset, .unset, .unset, .unset, .unset] [(.ref b194)])) _
        refine Own.go (fun t k => XS.astore X200.here hx rfl (hb hby at_105) rfl rfl (l' := #[.val (.int p1), .val (.int p2), .val (.int p3), .val (.int p4), .val (.int p5), .val (.int (1 : Int32)), .val (.int (0 : Int32)), .val (.int (1 : Int32)), .val (.int (((p2 &&& (255 : Int32))).toUInt32.toUInt16.toUInt32.toInt32)), .val (.int (((p3 &&& (255 : Int32))).toUInt32.toUInt16.toUInt32.toInt32)), .val (.ref b191), .val (.ref b191), .val (.int p4), .val (.ref b194), .unset, .unset, .unset, .unset, .unset]) rfl k) ?_
        show Own.Fin p e below (T200.setTop (mkF m 107 #[.val (.int p1), .val (.int p2), .val (.int p3), .val (.int p4), .val (.int p5), .val (.int (1 : Int32)), .val (.int (0 : Int32)), .val (.int (1 : Int32)), .val (.int (((p2 &&& (255 : Int32))).toUInt32.toUInt16.toUInt32.toInt32)), .val (.int (((p3 &&& (255 : Int32))).toUInt32.toUInt16.toUInt32.toInt32)), .val (.ref b191), .val (.ref b191), .val (.int p4), .val (.ref b194), .unset, .unset, .unset, .unset, .unset] [])) _
        obtain ⟨T202, h202, X202, e202, E202, A202, D202, -, st202⟩ := newO X200 hx hZ hown (hw _ (List.mem_of_getElem? (i := 26) rfl)) (hw _ (List.mem_of_getElem? (i := 27) rfl)) (hw _ (List.mem_of_getElem? (i := 28) rfl)) rfl (g := (mkF m 107 #[.val (.int p1), .val (.int p2), .val (.int p3), .val (.int p4), .val (.int p5), .val (.int (1 : Int32)), .val (.int (0 : Int32)), .val (.int (1 : Int32)), .val (.int (((p2 &&& (255 : Int32))).toUInt32.toUInt16.toUInt32.toInt32)), .val (.int (((p3 &&& (255 : Int32))).toUInt32.toUInt16.toUInt32.toInt32)), .val (.ref b191), .val (.ref b191), .val (.int p4), .val (.ref b194), .unset, .unset, .unset, .unset, .unset] [])) rfl (hb hby at_107) (by decide) (by decide)
        obtain ⟨b202, gb202⟩ : ∃ z, z = T200.heap.size := ⟨_, rfl⟩
        rw [← gb202] at A202 D202 st202
        refine Own.go st202 ?_
        have ge202 : n0 ≤ b202 := by rw [gb202]; exact Z200
        have ne202_b194 : b194 ≠ b202 := Nat.ne_of_lt (Nat.lt_of_lt_of_le f201.lt (Nat.le_of_eq gb202.symm))
        have Z202 : n0 ≤ h202.size := Nat.le_trans Z200 E202.1
        have f203 := f201.ext E202
        have O202 := O200.ext E202
        have fl204 : Fld Z h202 b202 "com/example/arachne/arachne/Node" "id" "Ljava/lang/String;" .null := D202 (Or.inr (hw _ (List.mem_of_getElem? (i := 34) rfl))) (ty := (.object "java/lang/String")) (by decide)
        have fl205 : Fld Z h202 b202 "com/example/arachne/arachne/Node" "size" "Lcom/example/arachne/arachne/NodeSize;" .null := D202 (Or.inr (hw _ (List.mem_of_getElem? (i := 36) rfl))) (ty := (.object "com/example/arachne/arachne/NodeSize")) (by decide)
        have fl206 : Fld Z h202 b202 "com/example/arachne/arachne/Node" "label" "Ljava/lang/String;" .null := D202 (Or.inr (hw _ (List.mem_of_getElem? (i := 38) rfl))) (ty := (.object "java/lang/String")) (by decide)
        have fl207 : Fld Z h202 b202 "com/example/arachne/arachne/Node" "pin" "Lcom/example/arachne/arachne/Point;" .null := D202 (Or.inr (hw _ (List.mem_of_getElem? (i := 40) rfl))) (ty := (.object "com/example/arachne/arachne/Point")) (by decide)
        have fl208 : Fld Z h202 b202 "com/example/arachne/arachne/Node" "index" "I" (.int (0 : Int32)) := D202 (Or.inr (hw _ (List.mem_of_getElem? (i := 42) rfl))) (ty := .int) (by decide)
        show Own.Fin p e below (T202.setTop (mkF m 110 #[.val (.int p1), .val (.int p2), .val (.int p3), .val (.int p4), .val (.int p5), .val (.int (1 : Int32)), .val (.int (0 : Int32)), .val (.int (1 : Int32)), .val (.int (((p2 &&& (255 : Int32))).toUInt32.toUInt16.toUInt32.toInt32)), .val (.int (((p3 &&& (255 : Int32))).toUInt32.toUInt16.toUInt32.toInt32)), .val (.ref b191), .val (.ref b191), .val (.int p4), .val (.ref b194), .unset, .unset, .unset, .unset, .unset] [(.ref b202)])) _
        refine Own.go (fun t k => XS.dup X202.here hx rfl (hb hby at_110) rfl rfl k) ?_
        show Own.Fin p e below (T202.setTop (mkF m 111 #[.val (.int p1), .val (.int p2), .val (.int p3), .val (.int p4), .val (.int p5), .val (.int (1 : Int32)), .val (.int (0 : Int32)), .val (.int (1 : Int32)), .val (.int (((p2 &&& (255 : Int32))).toUInt32.toUInt16.toUInt32.toInt32)), .val (.int (((p3 &&& (255 : Int32))).toUInt32.toUInt16.toUInt32.toInt32)), .val (.ref b191), .val (.ref b191), .val (.int p4), .val (.ref b194), .unset, .unset, .unset, .unset, .unset] [(.ref b202), (.ref b202)])) _
        refine Own.go (fun t k => XS.aload X202.here hx rfl (hb hby at_111) rfl rfl k) ?_
        show Own.Fin p e below (T202.setTop (mkF m 113 #[.val (.int p1), .val (.int p2), .val (.int p3), .val (.int p4), .val (.int p5), .val (.int (1 : Int32)), .val (.int (0 : Int32)), .val (.int (1 : Int32)), .val (.int (((p2 &&& (255 : Int32))).toUInt32.toUInt16.toUInt32.toInt32)), .val (.int (((p3 &&& (255 : Int32))).toUInt32.toUInt16.toUInt32.toInt32)), .val (.ref b191), .val (.ref b191), .val (.int p4), .val (.ref b194), .unset, .unset, .unset, .unset, .unset] [(.ref b191), (.ref b202), (.ref b202)])) _
        refine Own.go (fun t k => XS.aconstNull X202.here hx rfl (hb hby at_113) k) ?_
        show Own.Fin p e below (T202.setTop (mkF m 114 #[.val (.int p1), .val (.int p2), .val (.int p3), .val (.int p4), .val (.int p5), .val (.int (1 : Int32)), .val (.int (0 : Int32)), .val (.int (1 : Int32)), .val (.int (((p2 &&& (255 : Int32))).toUInt32.toUInt16.toUInt32.toInt32)), .val (.int (((p3 &&& (255 : Int32))).toUInt32.toUInt16.toUInt32.toInt32)), .val (.ref b191), .val (.ref b191), .val (.int p4), .val (.ref b194), .unset, .unset, .unset, .unset, .unset] [.null, (.ref b191), (.ref b202), (.ref b202)])) _
        refine Own.go (fun t k => XS.aload X202.here hx rfl (hb hby at_114) rfl rfl k) ?_
        show Own.Fin p e below (T202.setTop (mkF m 116 #[.val (.int p1), .val (.int p2), .val (.int p3), .val (.int p4), .val (.int p5), .val (.int (1 : Int32)), .val (.int (0 : Int32)), .val (.int (1 : Int32)), .val (.int (((p2 &&& (255 : Int32))).toUInt32.toUInt16.toUInt32.toInt32)), .val (.int (((p3 &&& (255 : Int32))).toUInt32.toUInt16.toUInt32.toInt32)), .val (.ref b191), .val (.ref b191), .val (.int p4), .val (.ref b194), .unset, .unset, .unset, .unset, .unset] [(.ref b191), .null, (.ref b191), (.ref b202), (.ref b202)])) _
        refine Own.go (fun t k => XS.aconstNull X202.here hx rfl (hb hby at_116) k) ?_
        show Own.Fin p e below (T202.setTop (mkF m 117 #[.val (.int p1), .val (.int p2), .val (.int p3), .val (.int p4), .val (.int p5), .val (.int (1 : Int32)), .val (.int (0 : Int32)), .val (.int (1 : Int32)), .val (.int (((p2 &&& (255 : Int32))).toUInt32.toUInt16.toUInt32.toInt32)), .val (.int (((p3 &&& (255 : Int32))).toUInt32.toUInt16.toUInt32.toInt32)), .val (.ref b191), .val (.ref b191), .val (.int p4), .val (.ref b194), .unset, .unset, .unset, .unset, .unset] [.null, (.ref b191), .null, (.ref b191), (.ref b202), (.ref b202)])) _
        refine Own.go (fun t k => XS.iload X202.here hx rfl (hb hby at_117) rfl k) ?_
        show Own.Fin p e below (T202.setTop (mkF m 119 #[.val (.int p1), .val (.int p2), .val (.int p3), .val (.int p4), .val (.int p5), .val (.int (1 : Int32)), .val (.int (0 : Int32)), .val (.int (1 : Int32)), .val (.int (((p2 &&& (255 : Int32))).toUInt32.toUInt16.toUInt32.toInt32)), .val (.int (((p3 &&& (255 : Int32))).toUInt32.toUInt16.toUInt32.toInt32)), .val (.ref b191), .val (.ref b191), .val (.int p4), .val (.ref b194), .unset, .unset, .unset, .unset, .unset] [(.int p4), .null, (.ref b191), .null, (.ref b191), (.ref b202), (.ref b202)])) _
        refine Own.cI X202 hx hZ rfl hown (hw _ (List.mem_of_getElem? (i := 29) rfl)) (hw _ (List.mem_of_getElem? (i := 30) rfl)) (hw _ (List.mem_of_getElem? (i := 28) rfl)) (hw _ (List.mem_of_getElem? (i := 31) rfl)) (by decide) (rm6 l Z a0 hw [] b202 b191 b191 p4 h202 n0 Z202 A202 fl204 fl205 fl206 fl207 fl208 ge202) (by decide) (W := 1) (by decide) (argsL := [(.ref b191), .null, (.ref b191), .null, (.int p4)]) (rest := [(.ref b202)]) (by rw [hml]; rfl) (lenOf pd_4 rfl) rfl (Nat.le_of_eq rfl) (hb hby at_119) e202 (by decide) (by decide) ?_
        intro T209 L209 v209 X209 hQ209
        obtain ⟨rfl, N209q, K209q⟩ := hQ209
        have N209 := Fr.app N200 N209q
        have f210 := f203.keep K209q
        have f211 := A202.keep K209q
        have Z209 : n0 ≤ T209.heap.size := Nat.le_trans Z202 K209q.1
        have O209 := O202.keep K209q (allS ge202 all0)
        show Own.Fin p e below (T209.setTop (mkF m 122 #[.val (.int p1), .val (.int p2), .val (.int p3), .val (.int p4), .val (.int p5), .val (.int (1 : Int32)), .val (.int (0 : Int32)), .val (.int (1 : Int32)), .val (.int (((p2 &&& (255 : Int32))).toUInt32.toUInt16.toUInt32.toInt32)), .val (.int (((p3 &&& (255 : Int32))).toUInt32.toUInt16.toUInt32.toInt32)), .val (.ref b191), .val (.ref b191), .val (.int p4), .val (.ref b194), .unset, .unset, .unset, .unset, .unset] [(.ref b202)])) _
        refine Own.go (fun t k => XS.astore X209.here hx rfl (hb hby at_122) rfl rfl (l' := #[.val (.int p1), .val (.int p2), .val (.int p3), .val (.int p4), .val (.int p5), .val (.int (1 : Int32)), .val (.int (0 : Int32)), .val (.int (1 : Int32)), .val (.int (((p2 &&& (255 : Int32))).toUInt32.toUInt16.toUInt32.toInt32)), .val (.int (((p3 &&& (255 : Int32))).toUInt32.toUInt16.toUInt32.toInt32)), .val (.ref b191), .val (.ref b191), .val (.int p4), .val (.ref b194), .val (.ref b202), .unset, .unset, .unset, .unset]) rfl k) ?_
        show Own.Fin p e below (T209.setTop (mkF m 124 #[.val (.int p1), .val (.int p2), .val (.int p3), .val (.int p4), .val (.int p5), .val (.int (1 : Int32)), .val (.int (0 : Int32)), .val (.int (1 : Int32)), .val (.int (((p2 &&& (255 : Int32))).toUInt32.toUInt16.toUInt32.toInt32)), .val (.int (((p3 &&& (255 : Int32))).toUInt32.toUInt16.toUInt32.toInt32)), .val (.ref b191), .val (.ref b191), .val (.int p4), .val (.ref b194), .val (.ref b202), .unset, .unset, .unset, .unset] [])) _
        refine Own.go (fun t k => XS.iload X209.here hx rfl (hb hby at_124) rfl k) ?_
        show Own.Fin p e below (T209.setTop (mkF m 126 #[.val (.int p1), .val (.int p2), .val (.int p3), .val (.int p4), .val (.int p5), .val (.int (1 : Int32)), .val (.int (0 : Int32)), .val (.int (1 : Int32)), .val (.int (((p2 &&& (255 : Int32))).toUInt32.toUInt16.toUInt32.toInt32)), .val (.int (((p3 &&& (255 : Int32))).toUInt32.toUInt16.toUInt32.toInt32)), .val (.ref b191), .val (.ref b191), .val (.int p4), .val (.ref b194), .val (.ref b202), .unset, .unset, .unset, .unset] [(.int (0 : Int32))])) _
        have hc126_211 : (0 : Int32) = (0 : Int32) := by decide
        refine Own.go (fun t k => XS.ifYes X209.here hx rfl (pc0 := 126) (pc' := 134) rfl (hb hby at_126) rfl ((if0 _ _).trans (teq hc126_211).1) (by decide) (by decide) k) ?_
        show Own.Fin p e below (T209.setTop (mkF m 134 #[.val (.int p1), .val (.int p2), .val (.int p3), .val (.int p4), .val (.int p5), .val (.int (1 : Int32)), .val (.int (0 : Int32)), .val (.int (1 : Int32)), .val (.int (((p2 &&& (255 : Int32))).toUInt32.toUInt16.toUInt32.toInt32)), .val (.int (((p3 &&& (255 : Int32))).toUInt32.toUInt16.toUInt32.toInt32)), .val (.ref b191), .val (.ref b191), .val (.int p4), .val (.ref b194), .val (.ref b202), .unset, .unset, .unset, .unset] [])) _
        refine Own.go (fun t k => XS.aload X209.here hx rfl (hb hby at_134) rfl rfl k) ?_
        show Own.Fin p e below (T209.setTop (mkF m 136 #[.val (.int p1), .val (.int p2), .val (.int p3), .val (.int p4), .val (.int p5), .val (.int (1 : Int32)), .val (.int (0 : Int32)), .val (.int (1 : Int32)), .val (.int (((p2 &&& (255 : Int32))).toUInt32.toUInt16.toUInt32.toInt32)), .val (.int (((p3 &&& (255 : Int32))).toUInt32.toUInt16.toUInt32.toInt32)), .val (.ref b191), .val (.ref b191), .val (.int p4), .val (.ref b194), .val (.ref b202), .unset, .unset, .unset, .unset] [(.ref b194)])) _
        refine Own.go (fun t k => XS.astore X209.here hx rfl (hb hby at_136) rfl rfl (l' := #[.val (.int p1), .val (.int p2), .val (.int p3), .val (.int p4), .val (.int p5), .val (.int (1 : Int32)), .val (.int (0 : Int32)), .val (.int (1 : Int32)), .val (.int (((p2 &&& (255 : Int32))).toUInt32.toUInt16.toUInt32.toInt32)), .val (.int (((p3 &&& (255 : Int32))).toUInt32.toUInt16.toUInt32.toInt32)), .val (.ref b191), .val (.ref b191), .val (.int p4), .val (.ref b194), .val (.ref b202), .val (.ref b194), .unset, .unset, .unset]) rfl k) ?_
        show Own.Fin p e below (T209.setTop (mkF m 138 #[.val (.int p1), .val (.int p2), .val (.int p3), .val (.int p4), .val (.int p5), .val (.int (1 : Int32)), .val (.int (0 : Int32)), .val (.int (1 : Int32)), .val (.int (((p2 &&& (255 : Int32))).toUInt32.toUInt16.toUInt32.toInt32)), .val (.int (((p3 &&& (255 : Int32))).toUInt32.toUInt16.toUInt32.toInt32)), .val (.ref b191), .val (.ref b191), .val (.int p4), .val (.ref b194), .val (.ref b202), .val (.ref b194), .unset, .unset, .unset] [])) _
        refine Own.go (fun t k => XS.iload X209.here hx rfl (hb hby at_138) rfl k) ?_
        show Own.Fin p e below (T209.setTop (mkF m 140 #[.val (.int p1), .val (.int p2), .val (.int p3), .val (.int p4), .val (.int p5), .val (.int (1 : Int32)), .val (.int (0 : Int32)), .val (.int (1 : Int32)), .val (.int (((p2 &&& (255 : Int32))).toUInt32.toUInt16.toUInt32.toInt32)), .val (.int (((p3 &&& (255 : Int32))).toUInt32.toUInt16.toUInt32.toInt32)), .val (.ref b191), .val (.ref b191), .val (.int p4), .val (.ref b194), .val (.ref b202), .val (.ref b194), .unset, .unset, .unset] [(.int (1 : Int32))])) _
        have hc140_212 : ¬ ((1 : Int32) = (0 : Int32)) := by decide
        refine Own.go (fun t k => XS.ifNo X209.here hx rfl (hb hby at_140) rfl ((if0 _ _).trans (feq hc140_212).1) k) ?_
        show Own.Fin p e below (T209.setTop (mkF m 143 #[.val (.int p1), .val (.int p2), .val (.int p3), .val (.int p4), .val (.int p5), .val (.int (1 : Int32)), .val (.int (0 : Int32)), .val (.int (1 : Int32)), .val (.int (((p2 &&& (255 : Int32))).toUInt32.toUInt16.toUInt32.toInt32)), .val (.int (((p3 &&& (255 : Int32))).toUInt32.toUInt16.toUInt32.toInt32)), .val (.ref b191), .val (.ref b191), .val (.int p4), .val (.ref b194), .val (.ref b202), .val (.ref b194), .unset, .unset, .unset] [])) _
        refine Own.go (fun t k => XS.aload X209.here hx rfl (hb hby at_143) rfl rfl k) ?_
        show Own.Fin p e below (T209.setTop (mkF m 145 #[.val (.int p1), .val (.int p2), .val (.int p3), .val (.int p4), .val (.int p5), .val (.int (1 : Int32)), .val (.int (0 : Int32)), .val (.int (1 : Int32)), .val (.int (((p2 &&& (255 : Int32))).toUInt32.toUInt16.toUInt32.toInt32)), .val (.int (((p3 &&& (255 : Int32))).toUInt32.toUInt16.toUInt32.toInt32)), .val (.ref b191), .val (.ref b191), .val (.int p4), .val (.ref b194), .val (.ref b202), .val (.ref b194), .unset, .unset, .unset] [(.ref b202)])) _
        refine Own.go (fun t k => XS.goto X209.here hx rfl (pc0 := 145) (pc' := 150) rfl (hb hby at_145) (by decide) (by decide) k) ?_
        show Own.Fin p e below (T209.setTop (mkF m 150 #[.val (.int p1), .val (.int p2), .val (.int p3), .val (.int p4), .val (.int p5), .val (.int (1 : Int32)), .val (.int (0 : Int32)), .val (.int (1 : Int32)), .val (.int (((p2 &&& (255 : Int32))).toUInt32.toUInt16.toUInt32.toInt32)), .val (.int (((p3 &&& (255 : Int32))).toUInt32.toUInt16.toUInt32.toInt32)), .val (.ref b191), .val (.ref b191), .val (.int p4), .val (.ref b194), .val (.ref b202), .val (.ref b194), .unset, .unset, .unset] [(.ref b202)])) _
        refine Own.go (fun t k => XS.astore X209.here hx rfl (hb hby at_150) rfl rfl (l' := #[.val (.int p1), .val (.int p2), .val (.int p3), .val (.int p4), .val (.int p5), .val (.int (1 : Int32)), .val (.int (0 : Int32)), .val (.int (1 : Int32)), .val (.int (((p2 &&& (255 : Int32))).toUInt32.toUInt16.toUInt32.toInt32)), .val (.int (((p3 &&& (255 : Int32))).toUInt32.toUInt16.toUInt32.toInt32)), .val (.ref b191), .val (.ref b191), .val (.int p4), .val (.ref b194), .val (.ref b202), .val (.ref b194), .val (.ref b202), .unset, .unset]) rfl k) ?_
        show Own.Fin p e below (T209.setTop (mkF m 152 #[.val (.int p1), .val (.int p2), .val (.int p3), .val (.int p4), .val (.int p5), .val (.int (1 : Int32)), .val (.int (0 : Int32)), .val (.int (1 : Int32)), .val (.int (((p2 &&& (255 : Int32))).toUInt32.toUInt16.toUInt32.toInt32)), .val (.int (((p3 &&& (255 : Int32))).toUInt32.toUInt16.toUInt32.toInt32)), .val (.ref b191), .val (.ref b191), .val (.int p4), .val (.ref b194), .val (.ref b202), .val (.ref b194), .val (.ref b202), .unset, .unset] [])) _
        obtain ⟨T214, h214, X214, e214, E214, A214, D214, -, st214⟩ := newO X209 hx hZ hown (hw _ (List.mem_of_getElem? (i := 43) rfl)) (hw _ (List.mem_of_getElem? (i := 44) rfl)) (hw _ (List.mem_of_getElem? (i := 45) rfl)) rfl (g := (mkF m 152 #[.val (.int p1), .val (.int p2), .val (.int p3), .val (.int p4), .val (.int p5), .val (.int (1 : Int32)), .val (.int (0 : Int32)), .val (.int (1 : Int32)), .val (.int (((p2 &&& (255 : Int32))).toUInt32.toUInt16.toUInt32.toInt32)), .val (.int (((p3 &&& (255 : Int32))).toUInt32.toUInt16.toUInt32.toInt32)), .val (.ref b191), .val (.ref b191), .val (.int p4), .val (.ref b194), .val (.ref b202), .val (.ref b194), .val (.ref b202), .unset, .unset] [])) rfl (hb hby at_152) (by decide) (by decide)
        obtain ⟨b214, gb214⟩ : ∃ z, z = T209.heap.size := ⟨_, rfl⟩
        rw [← gb214] at A214 D214 st214
        refine Own.go st214 ?_
        have ge214 : n0 ≤ b214 := by rw [gb214]; exact Z209
        have ne214_b194 : b194 ≠ b214 := Nat.ne_of_lt (Nat.lt_of_lt_of_le f210.lt (Nat.le_of_eq gb214.symm))
        have ne214_b202 : b202 ≠ b214 := Nat.ne_of_lt (Nat.lt_of_lt_of_le f211.lt (Nat.le_of_eq gb214.symm))
        have Z214 : n0 ≤ h214.size := Nat.le_trans Z209 E214.1
        have f215 := f210.ext E214
        have f216 := f211.ext E214
        have O214 := O209.ext E214
        have fl217 : Fld Z h214 b214 "com/example/arachne/arachne/Edge" "source" "Lcom/example/arachne/arachne/Node;" .null := D214 (Or.inr (hw _ (List.mem_of_getElem? (i := 51) rfl))) (ty := (.object "com/example/arachne/arachne/Node")) (by decide)
        have fl218 : Fld Z h214 b214 "com/example/arachne/arachne/Edge" "target" "Lcom/example/arachne/arachne/Node;" .null := D214 (Or.inr (hw _ (List.mem_of_getElem? (i := 53) rfl))) (ty := (.object "com/example/arachne/arachne/Node")) (by decide)
        have fl219 : Fld Z h214 b214 "com/example/arachne/arachne/Edge" "index" "I" (.int (0 : Int32)) := D214 (Or.inr (hw _ (List.mem_of_getElem? (i := 55) rfl))) (ty := .int) (by decide)
        show Own.Fin p e below (T214.setTop (mkF m 155 #[.val (.int p1), .val (.int p2), .val (.int p3), .val (.int p4), .val (.int p5), .val (.int (1 : Int32)), .val (.int (0 : Int32)), .val (.int (1 : Int32)), .val (.int (((p2 &&& (255 : Int32))).toUInt32.toUInt16.toUInt32.toInt32)), .val (.int (((p3 &&& (255 : Int32))).toUInt32.toUInt16.toUInt32.toInt32)), .val (.ref b191), .val (.ref b191), .val (.int p4), .val (.ref b194), .val (.ref b202), .val (.ref b194), .val (.ref b202), .unset, .unset] [(.ref b214)])) _
        refine Own.go (fun t k => XS.dup X214.here hx rfl (hb hby at_155) rfl rfl k) ?_
        show Own.Fin p e below (T214.setTop (mkF m 156 #[.val (.int p1), .val (.int p2), .val (.int p3), .val (.int p4), .val (.int p5), .val (.int (1 : Int32)), .val (.int (0 : Int32)), .val (.int (1 : Int32)), .val (.int (((p2 &&& (255 : Int32))).toUInt32.toUInt16.toUInt32.toInt32)), .val (.int (((p3 &&& (255 : Int32))).toUInt32.toUInt16.toUInt32.toInt32)), .val (.ref b191), .val (.ref b191), .val (.int p4), .val (.ref b194), .val (.ref b202), .val (.ref b194), .val (.ref b202), .unset, .unset] [(.ref b214), (.ref b214)])) _
        refine Own.go (fun t k => XS.aload X214.here hx rfl (hb hby at_156) rfl rfl k) ?_
        show Own.Fin p e below (T214.setTop (mkF m 158 #[.val (.int p1), .val (.int p2), .val (.int p3), .val (.int p4), .val (.int p5), .val (.int (1 : Int32)), .val (.int (0 : Int32)), .val (.int (1 : Int32)), .val (.int (((p2 &&& (255 : Int32))).toUInt32.toUInt16.toUInt32.toInt32)), .val (.int (((p3 &&& (255 : Int32))).toUInt32.toUInt16.toUInt32.toInt32)), .val (.ref b191), .val (.ref b191), .val (.int p4), .val (.ref b194), .val (.ref b202), .val (.ref b194), .val (.ref b202), .unset, .unset] [(.ref b194), (.ref b214), (.ref b214)])) _
        refine Own.go (fun t k => XS.aload X214.here hx rfl (hb hby at_158) rfl rfl k) ?_
        show Own.Fin p e below (T214.setTop (mkF m 160 #[.val (.int p1), .val (.int p2), .val (.int p3), .val (.int p4), .val (.int p5), .val (.int (1 : Int32)), .val (.int (0 : Int32)), .val (.int (1 : Int32)), .val (.int (((p2 &&& (255 : Int32))).toUInt32.toUInt16.toUInt32.toInt32)), .val (.int (((p3 &&& (255 : Int32))).toUInt32.toUInt16.toUInt32.toInt32)), .val (.ref b191), .val (.ref b191), .val (.int p4), .val (.ref b194), .val (.ref b202), .val (.ref b194), .val (.ref b202), .unset, .unset] [(.ref b202), (.ref b194), (.ref b214), (.ref b214)])) _
        refine Own.go (fun t k => XS.iload X214.here hx rfl (hb hby at_160) rfl k) ?_
        show Own.Fin p e below (T214.setTop (mkF m 162 #[.val (.int p1), .val (.int p2), .val (.int p3), .val (.int p4), .val (.int p5), .val (.int (1 : Int32)), .val (.int (0 : Int32)), .val (.int (1 : Int32)), .val (.int (((p2 &&& (255 : Int32))).toUInt32.toUInt16.toUInt32.toInt32)), .val (.int (((p3 &&& (255 : Int32))).toUInt32.toUInt16.toUInt32.toInt32)), .val (.ref b191), .val (.ref b191), .val (.int p4), .val (.ref b194), .val (.ref b202), .val (.ref b194), .val (.ref b202), .unset, .unset] [(.int p5), (.ref b202), (.ref b194), (.ref b214), (.ref b214)])) _
        refine Own.cI X214 hx hZ rfl hown (hw _ (List.mem_of_getElem? (i := 46) rfl)) (hw _ (List.mem_of_getElem? (i := 47) rfl)) (hw _ (List.mem_of_getElem? (i := 45) rfl)) (hw _ (List.mem_of_getElem? (i := 48) rfl)) (by decide) (rm7 l Z a0 hw [] b214 b194 b202 p5 h214 n0 Z214 A214 fl217 fl218 fl219 ge214) (by decide) (W := 1) (by decide) (argsL := [(.ref b194), (.ref b202), (.int p5)]) (rest := [(.ref b214)]) (by rw [hml]; rfl) (lenOf pd_5 rfl) rfl (Nat.le_of_eq rfl) (hb hby at_162) e214 (by decide) (by decide) ?_
        intro T220 L220 v220 X220 hQ220
        obtain ⟨rfl, N220q, K220q, FS220, FT220⟩ := hQ220
        have N220 := Fr.app N209 N220q
        have f221 := f215.keep K220q
        have f222 := f216.keep K220q
        have f223 := A214.keep K220q
        have Z220 : n0 ≤ T220.heap.size := Nat.le_trans Z214 K220q.1
        have O220 := O214.keep K220q (allS ge214 all0)
        show Own.Fin p e below (T220.setTop (mkF m 165 #[.val (.int p1), .val (.int p2), .val (.int p3), .val (.int p4), .val (.int p5), .val (.int (1 : Int32)), .val (.int (0 : Int32)), .val (.int (1 : Int32)), .val (.int (((p2 &&& (255 : Int32))).toUInt32.toUInt16.toUInt32.toInt32)), .val (.int (((p3 &&& (255 : Int32))).toUInt32.toUInt16.toUInt32.toInt32)), .val (.ref b191), .val (.ref b191), .val (.int p4), .val (.ref b194), .val (.ref b202), .val (.ref b194), .val (.ref b202), .unset, .unset] [(.ref b214)])) _
        refine Own.go (fun t k => XS.astore X220.here hx rfl (hb hby at_165) rfl rfl (l' := #[.val (.int p1), .val (.int p2), .val (.int p3), .val (.int p4), .val (.int p5), .val (.int (1 : Int32)), .val (.int (0 : Int32)), .val (.int (1 : Int32)), .val (.int (((p2 &&& (255 : Int32))).toUInt32.toUInt16.toUInt32.toInt32)), .val (.int (((p3 &&& (255 : Int32))).toUInt32.toUInt16.toUInt32.toInt32)), .val (.ref b191), .val (.ref b191), .val (.int p4), .val (.ref b194), .val (.ref b202), .val (.ref b194), .val (.ref b202), .val (.ref b214), .unset]) rfl k) ?_
        show Own.Fin p e below (T220.setTop (mkF m 167 #[.val (.int p1), .val (.int p2), .val (.int p3), .val (.int p4), .val (.int p5), .val (.int (1 : Int32)), .val (.int (0 : Int32)), .val (.int (1 : Int32)), .val (.int (((p2 &&& (255 : Int32))).toUInt32.toUInt16.toUInt32.toInt32)), .val (.int (((p3 &&& (255 : Int32))).toUInt32.toUInt16.toUInt32.toInt32)), .val (.ref b191), .val (.ref b191), .val (.int p4), .val (.ref b194), .val (.ref b202), .val (.ref b194), .val (.ref b202), .val (.ref b214), .unset] [])) _
        refine Own.go (fun t k => XS.iload X220.here hx rfl (hb hby at_167) rfl k) ?_
        show Own.Fin p e below (T220.setTop (mkF m 169 #[.val (.int p1), .val (.int p2), .val (.int p3), .val (.int p4), .val (.int p5), .val (.int (1 : Int32)), .val (.int (0 : Int32)), .val (.int (1 : Int32)), .val (.int (((p2 &&& (255 : Int32))).toUInt32.toUInt16.toUInt32.toInt32)), .val (.int (((p3 &&& (255 : Int32))).toUInt32.toUInt16.toUInt32.toInt32)), .val (.ref b191), .val (.ref b191), .val (.int p4), .val (.ref b194), .val (.ref b202), .val (.ref b194), .val (.ref b202), .val (.ref b214), .unset] [(.int (0 : Int32))])) _
        refine Own.go (fun t k => XS.iload X220.here hx rfl (hb hby at_169) rfl k) ?_
        show Own.Fin p e below (T220.setTop (mkF m 171 #[.val (.int p1), .val (.int p2), .val (.int p3), .val (.int p4), .val (.int p5), .val (.int (1 : Int32)), .val (.int (0 : Int32)), .val (.int (1 : Int32)), .val (.int (((p2 &&& (255 : Int32))).toUInt32.toUInt16.toUInt32.toInt32)), .val (.int (((p3 &&& (255 : Int32))).toUInt32.toUInt16.toUInt32.toInt32)), .val (.ref b191), .val (.ref b191), .val (.int p4), .val (.ref b194), .val (.ref b202), .val (.ref b194), .val (.ref b202), .val (.ref b214), .unset] [(.int (1 : Int32)), (.int (0 : Int32))])) _
        have hc171_223 : ¬ ((0 : Int32) = (1 : Int32)) := by decide
        refine Own.go (fun t k => XS.icmpYes X220.here hx rfl (pc0 := 171) (pc' := 178) rfl (hb hby at_171) rfl (feq hc171_223).2 (by decide) (by decide) k) ?_
        show Own.Fin p e below (T220.setTop (mkF m 178 #[.val (.int p1), .val (.int p2), .val (.int p3), .val (.int p4), .val (.int p5), .val (.int (1 : Int32)), .val (.int (0 : Int32)), .val (.int (1 : Int32)), .val (.int (((p2 &&& (255 : Int32))).toUInt32.toUInt16.toUInt32.toInt32)), .val (.int (((p3 &&& (255 : Int32))).toUInt32.toUInt16.toUInt32.toInt32)), .val (.ref b191), .val (.ref b191), .val (.int p4), .val (.ref b194), .val (.ref b202), .val (.ref b194), .val (.ref b202), .val (.ref b214), .unset] [])) _
        refine Own.go (fun t k => XS.iconst X220.here hx rfl (hb hby at_178) k) ?_
        show Own.Fin p e below (T220.setTop (mkF m 179 #[.val (.int p1), .val (.int p2), .val (.int p3), .val (.int p4), .val (.int p5), .val (.int (1 : Int32)), .val (.int (0 : Int32)), .val (.int (1 : Int32)), .val (.int (((p2 &&& (255 : Int32))).toUInt32.toUInt16.toUInt32.toInt32)), .val (.int (((p3 &&& (255 : Int32))).toUInt32.toUInt16.toUInt32.toInt32)), .val (.ref b191), .val (.ref b191), .val (.int p4), .val (.ref b194), .val (.ref b202), .val (.ref b194), .val (.ref b202), .val (.ref b214), .unset] [(.int (0 : Int32))])) _
        refine Own.go (fun t k => XS.istore X220.here hx rfl (hb hby at_179) rfl (l' := #[.val (.int p1), .val (.int p2), .val (.int p3), .val (.int p4), .val (.int p5), .val (.int (1 : Int32)), .val (.int (0 : Int32)), .val (.int (1 : Int32)), .val (.int (((p2 &&& (255 : Int32))).toUInt32.toUInt16.toUInt32.toInt32)), .val (.int (((p3 &&& (255 : Int32))).toUInt32.toUInt16.toUInt32.toInt32)), .val (.ref b191), .val (.ref b191), .val (.int p4), .val (.ref b194), .val (.ref b202), .val (.ref b194), .val (.ref b202), .val (.ref b214), .val (.int (0 : Int32))]) rfl k) ?_
        show Own.Fin p e below (T220.setTop (mkF m 181 #[.val (.int p1), .val (.int p2), .val (.int p3), .val (.int p4), .val (.int p5), .val (.int (1 : Int32)), .val (.int (0 : Int32)), .val (.int (1 : Int32)), .val (.int (((p2 &&& (255 : Int32))).toUInt32.toUInt16.toUInt32.toInt32)), .val (.int (((p3 &&& (255 : Int32))).toUInt32.toUInt16.toUInt32.toInt32)), .val (.ref b191), .val (.ref b191), .val (.int p4), .val (.ref b194), .val (.ref b202), .val (.ref b194), .val (.ref b202), .val (.ref b214), .val (.int (0 : Int32))] [])) _
        refine Own.go (fun t k => XS.aload X220.here hx rfl (hb hby at_181) rfl rfl k) ?_
        show Own.Fin p e below (T220.setTop (mkF m 183 #[.val (.int p1), .val (.int p2), .val (.int p3), .val (.int p4), .val (.int p5), .val (.int (1 : Int32)), .val (.int (0 : Int32)), .val (.int (1 : Int32)), .val (.int (((p2 &&& (255 : Int32))).toUInt32.toUInt16.toUInt32.toInt32)), .val (.int (((p3 &&& (255 : Int32))).toUInt32.toUInt16.toUInt32.toInt32)), .val (.ref b191), .val (.ref b191), .val (.int p4), .val (.ref b194), .val (.ref b202), .val (.ref b194), .val (.ref b202), .val (.ref b214), .val (.int (0 : Int32))] [(.ref b214)])) _
        refine Own.cV X220 hx hZ hown (hw _ (List.mem_of_getElem? (i := 56) rfl)) (hw _ (List.mem_of_getElem? (i := 57) rfl)) (notFace_of_selects (args := #[]) (mvT hZ (hw _ (List.mem_of_getElem? (i := 59) rfl)))) (hw _ (List.mem_of_getElem? (i := 59) rfl)) (hw _ (List.mem_of_getElem? (i := 58) rfl)) (hw _ (List.mem_of_getElem? (i := 45) rfl)) (hw _ (List.mem_of_getElem? (i := 60) rfl)) (by decide) (rm8 l Z a0 hw [] b214 b194 b202 T220.heap n0 Z220 FS220 FT220) (by decide) (W := 0) (by decide) (argsL := []) (rest := []) f223 (by rw [hml]; rfl) (lenOf pd_6 rfl) rfl (Nat.le_of_eq rfl) (hb hby at_183) rfl (by decide) (by decide) ?_
        intro T225 L225 v225 X225 hQ225
        obtain ⟨rfl, N225q, e225⟩ := hQ225
        have N225 := Fr.app N220 N225q
        rw [if_neg ne202_b194]
        show Own.Fin p e below (T225.setTop (mkF m 186 #[.val (.int p1), .val (.int p2), .val (.int p3), .val (.int p4), .val (.int p5), .val (.int (1 : Int32)), .val (.int (0 : Int32)), .val (.int (1 : Int32)), .val (.int (((p2 &&& (255 : Int32))).toUInt32.toUInt16.toUInt32.toInt32)), .val (.int (((p3 &&& (255 : Int32))).toUInt32.toUInt16.toUInt32.toInt32)), .val (.ref b191), .val (.ref b191), .val (.int p4), .val (.ref b194), .val (.ref b202), .val (.ref b194), .val (.ref b202), .val (.ref b214), .val (.int (0 : Int32))] [(.int (0 : Int32))])) _
        refine Own.go (fun t k => XS.iload X225.here hx rfl (hb hby at_186) rfl k) ?_
        show Own.Fin p e below (T225.setTop (mkF m 188 #[.val (.int p1), .val (.int p2), .val (.int p3), .val (.int p4), .val (.int p5), .val (.int (1 : Int32)), .val (.int (0 : Int32)), .val (.int (1 : Int32)), .val (.int (((p2 &&& (255 : Int32))).toUInt32.toUInt16.toUInt32.toInt32)), .val (.int (((p3 &&& (255 : Int32))).toUInt32.toUInt16.toUInt32.toInt32)), .val (.ref b191), .val (.ref b191), .val (.int p4), .val (.ref b194), .val (.ref b202), .val (.ref b194), .val (.ref b202), .val (.ref b214), .val (.int (0 : Int32))] [(.int (0 : Int32)), (.int (0 : Int32))])) _
        have hc188_225 : (0 : Int32) = (0 : Int32) := by decide
        refine Own.go (fun t k => XS.icmpNo X225.here hx rfl (hb hby at_188) rfl (teq hc188_225).2 k) ?_
        show Own.Fin p e below (T225.setTop (mkF m 191 #[.val (.int p1), .val (.int p2), .val (.int p3), .val (.int p4), .val (.int p5), .val (.int (1 : Int32)), .val (.int (0 : Int32)), .val (.int (1 : Int32)), .val (.int (((p2 &&& (255 : Int32))).toUInt32.toUInt16.toUInt32.toInt32)), .val (.int (((p3 &&& (255 : Int32))).toUInt32.toUInt16.toUInt32.toInt32)), .val (.ref b191), .val (.ref b191), .val (.int p4), .val (.ref b194), .val (.ref b202), .val (.ref b194), .val (.ref b202), .val (.ref b214), .val (.int (0 : Int32))] [])) _
        refine Own.go (fun t k => XS.iconst X225.here hx rfl (hb hby at_191) k) ?_
        show Own.Fin p e below (T225.setTop (mkF m 192 #[.val (.int p1), .val (.int p2), .val (.int p3), .val (.int p4), .val (.int p5), .val (.int (1 : Int32)), .val (.int (0 : Int32)), .val (.int (1 : Int32)), .val (.int (((p2 &&& (255 : Int32))).toUInt32.toUInt16.toUInt32.toInt32)), .val (.int (((p3 &&& (255 : Int32))).toUInt32.toUInt16.toUInt32.toInt32)), .val (.ref b191), .val (.ref b191), .val (.int p4), .val (.ref b194), .val (.ref b202), .val (.ref b194), .val (.ref b202), .val (.ref b214), .val (.int (0 : Int32))] [(.int (1 : Int32))])) _
        refine Own.go (fun t k => XS.goto X225.here hx rfl (pc0 := 192) (pc' := 196) rfl (hb hby at_192) (by decide) (by decide) k) ?_
        show Own.Fin p e below (T225.setTop (mkF m 196 #[.val (.int p1), .val (.int p2), .val (.int p3), .val (.int p4), .val (.int p5), .val (.int (1 : Int32)), .val (.int (0 : Int32)), .val (.int (1 : Int32)), .val (.int (((p2 &&& (255 : Int32))).toUInt32.toUInt16.toUInt32.toInt32)), .val (.int (((p3 &&& (255 : Int32))).toUInt32.toUInt16.toUInt32.toInt32)), .val (.ref b191), .val (.ref b191), .val (.int p4), .val (.ref b194), .val (.ref b202), .val (.ref b194), .val (.ref b202), .val (.ref b214), .val (.int (0 : Int32))] [(.int (1 : Int32))])) _
        refine Own.retN X225 hx Bd.notSynchronized (t := .boolean) Bd.returns (by simp) (hb hby at_196) (by decide) (by decide) ?_
        exact ⟨rfl, N225⟩
    · skip
      refine Own.go (fun t k => XS.ifNo X0.here hx rfl (hb hby at_16) rfl ((if0 _ _).trans (feq hc16_152).1) k) ?_
      show Own.Fin p e below (s₁.setTop (mkF m 19 #[.val (.int p1), .val (.int p2), .val (.int p3), .val (.int p4), .val (.int p5), .val (.int (1 : Int32)), .unset, .unset, .unset, .unset, .unset, .unset, .unset, .unset, .unset, .unset, .unset, .unset, .unset] [])) _
      refine Own.go (fun t k => XS.iconst X0.here hx rfl (hb hby at_19) k) ?_
      show Own.Fin p e below (s₁.setTop (mkF m 20 #[.val (.int p1), .val (.int p2), .val (.int p3), .val (.int p4), .val (.int p5), .val (.int (1 : Int32)), .unset, .unset, .unset, .unset, .unset, .unset, .unset, .unset, .unset, .unset, .unset, .unset, .unset] [(.int (1 : Int32))])) _
      refine Own.go (fun t k => XS.goto X0.here hx rfl (pc0 := 20) (pc' := 24) rfl (hb hby at_20) (by decide) (by decide) k) ?_
      show Own.Fin p e below (s₁.setTop (mkF m 24 #[.val (.int p1), .val (.int p2), .val (.int p3), .val (.int p4), .val (.int p5), .val (.int (1 : Int32)), .unset, .unset, .unset, .unset, .unset, .unset, .unset, .unset, .unset, .unset, .unset, .unset, .unset] [(.int (1 : Int32))])) _
      refine Own.go (fun t k => XS.istore X0.here hx rfl (hb hby at_24) rfl (l' := #[.val (.int p1), .val (.int p2), .val (.int p3), .val (.int p4), .val (.int p5), .val (.int (1 : Int32)), .val (.int (1 : Int32)), .unset, .unset, .unset, .unset, .unset, .unset, .unset, .unset, .unset, .unset, .unset, .unset]) rfl k) ?_
      show Own.Fin p e below (s₁.setTop (mkF m 26 #[.val (.int p1), .val (.int p2), .val (.int p3), .val (.int p4), .val (.int p5), .val (.int (1 : Int32)), .val (.int (1 : Int32)), .unset, .unset, .unset, .unset, .unset, .unset, .unset, .unset, .unset, .unset, .unset, .unset] [])) _
      refine Own.go (fun t k => XS.iloadN X0.here hx rfl (hb hby at_26) rfl k) ?_
      show Own.Fin p e below (s₁.setTop (mkF m 27 #[.val (.int p1), .val (.int p2), .val (.int p3), .val (.int p4), .val (.int p5), .val (.int (1 : Int32)), .val (.int (1 : Int32)), .unset, .unset, .unset, .unset, .unset, .unset, .unset, .unset, .unset, .unset, .unset, .unset] [(.int p1)])) _
      refine Own.go (fun t k => XS.iconst X0.here hx rfl (hb hby at_27) k) ?_
      show Own.Fin p e below (s₁.setTop (mkF m 28 #[.val (.int p1), .val (.int p2), .val (.int p3), .val (.int p4), .val (.int p5), .val (.int (1 : Int32)), .val (.int (1 : Int32)), .unset, .unset, .unset, .unset, .unset, .unset, .unset, .unset, .unset, .unset, .unset, .unset] [(.int (2 : Int32)), (.int p1)])) _
      refine Own.go (fun t k => XS.iand X0.here hx rfl (hb hby at_28) rfl k) ?_
      show Own.Fin p e below (s₁.setTop (mkF m 29 #[.val (.int p1), .val (.int p2), .val (.int p3), .val (.int p4), .val (.int p5), .val (.int (1 : Int32)), .val (.int (1 : Int32)), .unset, .unset, .unset, .unset, .unset, .unset, .unset, .unset, .unset, .unset, .unset, .unset] [(.int (p1 &&& (2 : Int32)))])) _
      by_cases hc29_226 : (p1 &&& (2 : Int32)) = (0 : Int32)
      · skip
        refine Own.go (fun t k => XS.ifYes X0.here hx rfl (pc0 := 29) (pc' := 36) rfl (hb hby at_29) rfl ((if0 _ _).trans (teq hc29_226).1) (by decide) (by decide) k) ?_
        show Own.Fin p e below (s₁.setTop (mkF m 36 #[.val (.int p1), .val (.int p2), .val (.int p3), .val (.int p4), .val (.int p5), .val (.int (1 : Int32)), .val (.int (1 : Int32)), .unset, .unset, .unset, .unset, .unset, .unset, .unset, .unset, .unset, .unset, .unset, .unset] [])) _
        refine Own.go (fun t k => XS.iconst X0.here hx rfl (hb hby at_36) k) ?_
        show Own.Fin p e below (s₁.setTop (mkF m 37 #[.val (.int p1), .val (.int p2), .val (.int p3), .val (.int p4), .val (.int p5), .val (.int (1 : Int32)), .val (.int (1 : Int32)), .unset, .unset, .unset, .unset, .unset, .unset, .unset, .unset, .unset, .unset, .unset, .unset] [(.int (0 : Int32))])) _
        refine Own.go (fun t k => XS.istore X0.here hx rfl (hb hby at_37) rfl (l' := #[.val (.int p1), .val (.int p2), .val (.int p3), .val (.int p4), .val (.int p5), .val (.int (1 : Int32)), .val (.int (1 : Int32)), .val (.int (0 : Int32)), .unset, .unset, .unset, .unset, .unset, .unset, .unset, .unset, .unset, .unset, .unset]) rfl k) ?_
        show Own.Fin p e below (s₁.setTop (mkF m 39 #[.val (.int p1), .val (.int p2), .val (.int p3), .val (.int p4), .val (.int p5), .val (.int (1 : Int32)), .val (.int (1 : Int32)), .val (.int (0 : Int32)), .unset, .unset, .unset, .unset, .unset, .unset, .unset, .unset, .unset, .unset, .unset] [])) _
        refine Own.go (fun t k => XS.iloadN X0.here hx rfl (hb hby at_39) rfl k) ?_
        show Own.Fin p e below (s₁.setTop (mkF m 40 #[.val (.int p1), .val (.int p2), .val (.int p3), .val (.int p4), .val (.int p5), .val (.int (1 : Int32)), .val (.int (1 : Int32)), .val (.int (0 : Int32)), .unset, .unset, .unset, .unset, .unset, .unset, .unset, .unset, .unset, .unset, .unset] [(.int p2)])) _
        refine Own.go (fun t k => XS.sipush X0.here hx rfl (hb hby at_40) k) ?_
        show Own.Fin p e below (s₁.setTop (mkF m 43 #[.val (.int p1), .val (.int p2), .val (.int p3), .val (.int p4), .val (.int p5), .val (.int (1 : Int32)), .val (.int (1 : Int32)), .val (.int (0 : Int32)), .unset, .unset, .unset, .unset, .unset, .unset, .unset, .unset, .unset, .unset, .unset] [(.int (255 : Int32)), (.int p2)])) _
        refine Own.go (fun t k => XS.iand X0.here hx rfl (hb hby at_43) rfl k) ?_
        show Own.Fin p e below (s₁.setTop (mkF m 44 #[.val (.int p1), .val (.int p2), .val (.int p3), .val (.int p4), .val (.int p5), .val (.int (1 : Int32)), .val (.int (1 : Int32)), .val (.int (0 : Int32)), .unset, .unset, .unset, .unset, .unset, .unset, .unset, .unset, .unset, .unset, .unset] [(.int (p2 &&& (255 : Int32)))])) _
        refine Own.go (fun t k => XS.i2c X0.here hx rfl (hb hby at_44) rfl k) ?_
        show Own.Fin p e below (s₁.setTop (mkF m 45 #[.val (.int p1), .val (.int p2), .val (.int p3), .val (.int p4), .val (.int p5), .val (.int (1 : Int32)), .val (.int (1 : Int32)), .val (.int (0 : Int32)), .unset, .unset, .unset, .unset, .unset, .unset, .unset, .unset, .unset, .unset, .unset] [(.int (((p2 &&& (255 : Int32))).toUInt32.toUInt16.toUInt32.toInt32))])) _
        refine Own.go (fun t k => XS.istore X0.here hx rfl (hb hby at_45) rfl (l' := #[.val (.int p1), .val (.int p2), .val (.int p3), .val (.int p4), .val (.int p5), .val (.int (1 : Int32)), .val (.int (1 : Int32)), .val (.int (0 : Int32)), .val (.int (((p2 &&& (255 : Int32))).toUInt32.toUInt16.toUInt32.toInt32)), .unset, .unset, .unset, .unset, .unset, .unset, .unset, .unset, .unset, .unset]) rfl k) ?_
        show Own.Fin p e below (s₁.setTop (mkF m 47 #[.val (.int p1), .val (.int p2), .val (.int p3), .val (.int p4), .val (.int p5), .val (.int (1 : Int32)), .val (.int (1 : Int32)), .val (.int (0 : Int32)), .val (.int (((p2 &&& (255 : Int32))).toUInt32.toUInt16.toUInt32.toInt32)), .unset, .unset, .unset, .unset, .unset, .unset, .unset, .unset, .unset, .unset] [])) _
        refine Own.go (fun t k => XS.iloadN X0.here hx rfl (hb hby at_47) rfl k) ?_
        show Own.Fin p e below (s₁.setTop (mkF m 48 #[.val (.int p1), .val (.int p2), .val (.int p3), .val (.int p4), .val (.int p5), .val (.int (1 : Int32)), .val (.int (1 : Int32)), .val (.int (0 : Int32)), .val (.int (((p2 &&& (255 : Int32))).toUInt32.toUInt16.toUInt32.toInt32)), .unset, .unset, .unset, .unset, .unset, .unset, .unset, .unset, .unset, .unset] [(.int p3)])) _
        refine Own.go (fun t k => XS.sipush X0.here hx rfl (hb hby at_48) k) ?_
        show Own.Fin p e below (s₁.setTop (mkF m 51 #[.val (.int p1), .val (.int p2), .val (.int p3), .val (.int p4), .val (.int p5), .val (.int (1 : Int32)), .val (.int (1 : Int32)), .val (.int (0 : Int32)), .val (.int (((p2 &&& (255 : Int32))).toUInt32.toUInt16.toUInt32.toInt32)), .unset, .unset, .unset, .unset, .unset, .unset, .unset, .unset, .unset, .unset] [(.int (255 : Int32)), (.int p3)])) _
        refine Own.go (fun t k => XS.iand X0.here hx rfl (hb hby at_51) rfl k) ?_
        show Own.Fin p e below (s₁.setTop (mkF m 52 #[.val (.int p1), .val (.int p2), .val (.int p3), .val (.int p4), .val (.int p5), .val (.int (1 : Int32)), .val (.int (1 : Int32)), .val (.int (0 : Int32)), .val (.int (((p2 &&& (255 : Int32))).toUInt32.toUInt16.toUInt32.toInt32)), .unset, .unset, .unset, .unset, .unset, .unset, .unset, .unset, .unset, .unset] [(.int (p3 &&& (255 : Int32)))])) _
        refine Own.go (fun t k => XS.i2c X0.here hx rfl (hb hby at_52) rfl k) ?_
        show Own.Fin p e below (s₁.setTop (mkF m 53 #[.val (.int p1), .val (.int p2), .val (.int p3), .val (.int p4), .val (.int p5), .val (.int (1 : Int32)), .val (.int (1 : Int32)), .val (.int (0 : Int32)), .val (.int (((p2 &&& (255 : Int32))).toUInt32.toUInt16.toUInt32.toInt32)), .unset, .unset, .unset, .unset, .unset, .unset, .unset, .unset, .unset, .unset] [(.int (((p3 &&& (255 : Int32))).toUInt32.toUInt16.toUInt32.toInt32))])) _
        refine Own.go (fun t k => XS.istore X0.here hx rfl (hb hby at_53) rfl (l' := #[.val (.int p1), .val (.int p2), .val (.int p3), .val (.int p4), .val (.int p5), .val (.int (1 : Int32)), .val (.int (1 : Int32)), .val (.int (0 : Int32)), .val (.int (((p2 &&& (255 : Int32))).toUInt32.toUInt16.toUInt32.toInt32)), .val (.int (((p3 &&& (255 : Int32))).toUInt32.toUInt16.toUInt32.toInt32)), .unset, .unset, .unset, .unset, .unset, .unset, .unset, .unset, .unset]) rfl k) ?_
        show Own.Fin p e below (s₁.setTop (mkF m 55 #[.val (.int p1), .val (.int p2), .val (.int p3), .val (.int p4), .val (.int p5), .val (.int (1 : Int32)), .val (.int (1 : Int32)), .val (.int (0 : Int32)), .val (.int (((p2 &&& (255 : Int32))).toUInt32.toUInt16.toUInt32.toInt32)), .val (.int (((p3 &&& (255 : Int32))).toUInt32.toUInt16.toUInt32.toInt32)), .unset, .unset, .unset, .unset, .unset, .unset, .unset, .unset, .unset] [])) _
        refine Own.go (fun t k => XS.iload X0.here hx rfl (hb hby at_55) rfl k) ?_
        show Own.Fin p e below (s₁.setTop (mkF m 57 #[.val (.int p1), .val (.int p2), .val (.int p3), .val (.int p4), .val (.int p5), .val (.int (1 : Int32)), .val (.int (1 : Int32)), .val (.int (0 : Int32)), .val (.int (((p2 &&& (255 : Int32))).toUInt32.toUInt16.toUInt32.toInt32)), .val (.int (((p3 &&& (255 : Int32))).toUInt32.toUInt16.toUInt32.toInt32)), .unset, .unset, .unset, .unset, .unset, .unset, .unset, .unset, .unset] [(.int (((p2 &&& (255 : Int32))).toUInt32.toUInt16.toUInt32.toInt32))])) _
        refine Own.cS X0 hx hZ hown (hw _ (List.mem_of_getElem? (i := 0) rfl)) (hw _ (List.mem_of_getElem? (i := 1) rfl)) (hw _ (List.mem_of_getElem? (i := 2) rfl)) (hw _ (List.mem_of_getElem? (i := 3) rfl)) (by decide) (rm1 l Z a0 hw [] (((p2 &&& (255 : Int32))).toUInt32.toUInt16.toUInt32.toInt32) cs h0 n0 Z0 O0 SC hcs (own_ch _)) (by decide) (W := 0) (by decide) (argsL := [(.int (((p2 &&& (255 : Int32))).toUInt32.toUInt16.toUInt32.toInt32))]) (rest := []) (by rw [hml]; rfl) (lenOf pd_3 rfl) rfl (Nat.le_of_eq rfl) (hb hby at_57) e0 (by decide) (by decide) ?_
        intro T228 L228 v228 X228 hQ228
        obtain ⟨b228, ge228, rfl, N228q, K228q⟩ := hQ228
        have N228 := Fr.app N0 N228q
        have Z228 : n0 ≤ T228.heap.size := Nat.le_trans Z0 K228q.1
        have O228 := O0.keep K228q all0
        show Own.Fin p e below (T228.setTop (mkF m 60 #[.val (.int p1), .val (.int p2), .val (.int p3), .val (.int p4), .val (.int p5), .val (.int (1 : Int32)), .val (.int (1 : Int32)), .val (.int (0 : Int32)), .val (.int (((p2 &&& (255 : Int32))).toUInt32.toUInt16.toUInt32.toInt32)), .val (.int (((p3 &&& (255 : Int32))).toUInt32.toUInt16.toUInt32.toInt32)), .unset, .unset, .unset, .unset, .unset, .unset, .unset, .unset, .unset] [(.ref b228)])) _
        refine Own.go (fun t k => XS.astore X228.here hx rfl (hb hby at_60) rfl rfl (l' := #[.val (.int p1), .val (.int p2), .val (.int p3), .val (.int p4), .val (.int p5), .val (.int (1 : Int32)), .val (.int (1 : Int32)), .val (.int (0 : Int32)), .val (.int (((p2 &&& (255 : Int32))).toUInt32.toUInt16.toUInt32.toInt32)), .val (.int (((p3 &&& (255 : Int32))).toUInt32.toUInt16.toUInt32.toInt32)), .val (.ref b228), .unset, .unset, .unset, .unset, .unset, .unset, .unset, .unset]) rfl k) ?_
        show Own.Fin p e below (T228.setTop (mkF m 62 #[.val (.int p1), .val (.int p2), .val (.int p3), .val (.int p4), .val (.int p5), .val (.int (1 : Int32)), .val (.int (1 : Int32)), .val (.int (0 : Int32)), .val (.int (((p2 &&& (255 : Int32))).toUInt32.toUInt16.toUInt32.toInt32)), .val (.int (((p3 &&& (255 : Int32))).toUInt32.toUInt16.toUInt32.toInt32)), .val (.ref b228), .unset, .unset, .unset, .unset, .unset, .unset, .unset, .unset] [])) _
        refine Own.go (fun t k => XS.iload X228.here hx rfl (hb hby at_62) rfl k) ?_
        show Own.Fin p e below (T228.setTop (mkF m 64 #[.val (.int p1), .val (.int p2), .val (.int p3), .val (.int p4), .val (.int p5), .val (.int (1 : Int32)), .val (.int (1 : Int32)), .val (.int (0 : Int32)), .val (.int (((p2 &&& (255 : Int32))).toUInt32.toUInt16.toUInt32.toInt32)), .val (.int (((p3 &&& (255 : Int32))).toUInt32.toUInt16.toUInt32.toInt32)), .val (.ref b228), .unset, .unset, .unset, .unset, .unset, .unset, .unset, .unset] [(.int (1 : Int32))])) _
        have hc64_228 : ¬ ((1 : Int32) = (0 : Int32)) := by decide
        refine Own.go (fun t k => XS.ifNo X228.here hx rfl (hb hby at_64) rfl ((if0 _ _).trans (feq hc64_228).1) k) ?_
        show Own.Fin p e below (T228.setTop (mkF m 67 #[.val (.int p1), .val (.int p2), .val (.int p3), .val (.int p4), .val (.int p5), .val (.int (1 : Int32)), .val (.int (1 : Int32)), .val (.int (0 : Int32)), .val (.int (((p2 &&& (255 : Int32))).toUInt32.toUInt16.toUInt32.toInt32)), .val (.int (((p3 &&& (255 : Int32))).toUInt32.toUInt16.toUInt32.toInt32)), .val (.ref b228), .unset, .unset, .unset, .unset, .unset, .unset, .unset, .unset] [])) _
        refine Own.go (fun t k => XS.aload X228.here hx rfl (hb hby at_67) rfl rfl k) ?_
        show Own.Fin p e below (T228.setTop (mkF m 69 #[.val (.int p1), .val (.int p2), .val (.int p3), .val (.int p4), .val (.int p5), .val (.int (1 : Int32)), .val (.int (1 : Int32)), .val (.int (0 : Int32)), .val (.int (((p2 &&& (255 : Int32))).toUInt32.toUInt16.toUInt32.toInt32)), .val (.int (((p3 &&& (255 : Int32))).toUInt32.toUInt16.toUInt32.toInt32)), .val (.ref b228), .unset, .unset, .unset, .unset, .unset, .unset, .unset, .unset] [(.ref b228)])) _
        refine Own.go (fun t k => XS.goto X228.here hx rfl (pc0 := 69) (pc' := 77) rfl (hb hby at_69) (by decide) (by decide) k) ?_
        show Own.Fin p e below (T228.setTop (mkF m 77 #[.val (.int p1), .val (.int p2), .val (.int p3), .val (.int p4), .val (.int p5), .val (.int (1 : Int32)), .val (.int (1 : Int32)), .val (.int (0 : Int32)), .val (.int (((p2 &&& (255 : Int32))).toUInt32.toUInt16.toUInt32.toInt32)), .val (.int (((p3 &&& (255 : Int32))).toUInt32.toUInt16.toUInt32.toInt32)), .val (.ref b228), .unset, .unset, .unset, .unset, .unset, .unset, .unset, .unset] [(.ref b228)])) _
        refine Own.go (fun t k => XS.astore X228.here hx rfl (hb hby at_77) rfl rfl (l' := #[.val (.int p1), .val (.int p2), .val (.int p3), .val (.int p4), .val (.int p5), .val (.int (1 : Int32)), .val (.int (1 : Int32)), .val (.int (0 : Int32)), .val (.int (((p2 &&& (255 : Int32))).toUInt32.toUInt16.toUInt32.toInt32)), .val (.int (((p3 &&& (255 : Int32))).toUInt32.toUInt16.toUInt32.toInt32)), .val (.ref b228), .val (.ref b228), .unset, .unset, .unset, .unset, .unset, .unset, .unset]) rfl k) ?_
        show Own.Fin p e below (T228.setTop (mkF m 79 #[.val (.int p1), .val (.int p2), .val (.int p3), .val (.int p4), .val (.int p5), .val (.int (1 : Int32)), .val (.int (1 : Int32)), .val (.int (0 : Int32)), .val (.int (((p2 &&& (255 : Int32))).toUInt32.toUInt16.toUInt32.toInt32)), .val (.int (((p3 &&& (255 : Int32))).toUInt32.toUInt16.toUInt32.toInt32)), .val (.ref b228), .val (.ref b228), .unset, .unset, .unset, .unset, .unset, .unset, .unset] [])) _
        refine Own.go (fun t k => XS.iload X228.here hx rfl (hb hby at_79) rfl k) ?_
        show Own.Fin p e below (T228.setTop (mkF m 81 #[.val (.int p1), .val (.int p2), .val (.int p3), .val (.int p4), .val (.int p5), .val (.int (1 : Int32)), .val (.int (1 : Int32)), .val (.int (0 : Int32)), .val (.int (((p2 &&& (255 : Int32))).toUInt32.toUInt16.toUInt32.toInt32)), .val (.int (((p3 &&& (255 : Int32))).toUInt32.toUInt16.toUInt32.toInt32)), .val (.ref b228), .val (.ref b228), .unset, .unset, .unset, .unset, .unset, .unset, .unset] [(.int (1 : Int32))])) _
        have hc81_229 : ¬ ((1 : Int32) = (0 : Int32)) := by decide
        refine Own.go (fun t k => XS.ifNo X228.here hx rfl (hb hby at_81) rfl ((if0 _ _).trans (feq hc81_229).1) k) ?_
        show Own.Fin p e below (T228.setTop (mkF m 84 #[.val (.int p1), .val (.int p2), .val (.int p3), .val (.int p4), .val (.int p5), .val (.int (1 : Int32)), .val (.int (1 : Int32)), .val (.int (0 : Int32)), .val (.int (((p2 &&& (255 : Int32))).toUInt32.toUInt16.toUInt32.toInt32)), .val (.int (((p3 &&& (255 : Int32))).toUInt32.toUInt16.toUInt32.toInt32)), .val (.ref b228), .val (.ref b228), .unset, .unset, .unset, .unset, .unset, .unset, .unset] [])) _
        refine Own.go (fun t k => XS.iloadN X228.here hx rfl (hb hby at_84) rfl k) ?_
        show Own.Fin p e below (T228.setTop (mkF m 85 #[.val (.int p1), .val (.int p2), .val (.int p3), .val (.int p4), .val (.int p5), .val (.int (1 : Int32)), .val (.int (1 : Int32)), .val (.int (0 : Int32)), .val (.int (((p2 &&& (255 : Int32))).toUInt32.toUInt16.toUInt32.toInt32)), .val (.int (((p3 &&& (255 : Int32))).toUInt32.toUInt16.toUInt32.toInt32)), .val (.ref b228), .val (.ref b228), .unset, .unset, .unset, .unset, .unset, .unset, .unset] [(.int p4)])) _
        refine Own.go (fun t k => XS.goto X228.here hx rfl (pc0 := 85) (pc' := 89) rfl (hb hby at_85) (by decide) (by decide) k) ?_
        show Own.Fin p e below (T228.setTop (mkF m 89 #[.val (.int p1), .val (.int p2), .val (.int p3), .val (.int p4), .val (.int p5), .val (.int (1 : Int32)), .val (.int (1 : Int32)), .val (.int (0 : Int32)), .val (.int (((p2 &&& (255 : Int32))).toUInt32.toUInt16.toUInt32.toInt32)), .val (.int (((p3 &&& (255 : Int32))).toUInt32.toUInt16.toUInt32.toInt32)), .val (.ref b228), .val (.ref b228), .unset, .unset, .unset, .unset, .unset, .unset, .unset] [(.int p4)])) _
        refine Own.go (fun t k => XS.istore X228.here hx rfl (hb hby at_89) rfl (l' := #[.val (.int p1), .val (.int p2), .val (.int p3), .val (.int p4), .val (.int p5), .val (.int (1 : Int32)), .val (.int (1 : Int32)), .val (.int (0 : Int32)), .val (.int (((p2 &&& (255 : Int32))).toUInt32.toUInt16.toUInt32.toInt32)), .val (.int (((p3 &&& (255 : Int32))).toUInt32.toUInt16.toUInt32.toInt32)), .val (.ref b228), .val (.ref b228), .val (.int p4), .unset, .unset, .unset, .unset, .unset, .unset]) rfl k) ?_
        show Own.Fin p e below (T228.setTop (mkF m 91 #[.val (.int p1), .val (.int p2), .val (.int p3), .val (.int p4), .val (.int p5), .val (.int (1 : Int32)), .val (.int (1 : Int32)), .val (.int (0 : Int32)), .val (.int (((p2 &&& (255 : Int32))).toUInt32.toUInt16.toUInt32.toInt32)), .val (.int (((p3 &&& (255 : Int32))).toUInt32.toUInt16.toUInt32.toInt32)), .val (.ref b228), .val (.ref b228), .val (.int p4), .unset, .unset, .unset, .unset, .unset, .unset] [])) _
        obtain ⟨T231, h231, X231, e231, E231, A231, D231, -, st231⟩ := newO X228 hx hZ hown (hw _ (List.mem_of_getElem? (i := 26) rfl)) (hw _ (List.mem_of_getElem? (i := 27) rfl)) (hw _ (List.mem_of_getElem? (i := 28) rfl)) rfl (g := (mkF m 91 #[.val (.int p1), .val (.int p2), .val (.int p3), .val (.int p4), .val (.int p5), .val (.int (1 : Int32)), .val (.int (1 : Int32)), .val (.int (0 : Int32)), .val (.int (((p2 &&& (255 : Int32))).toUInt32.toUInt16.toUInt32.toInt32)), .val (.int (((p3 &&& (255 : Int32))).toUInt32.toUInt16.toUInt32.toInt32)), .val (.ref b228), .val (.ref b228), .val (.int p4), .unset, .unset, .unset, .unset, .unset, .unset] [])) rfl (hb hby at_91) (by decide) (by decide)
        obtain ⟨b231, gb231⟩ : ∃ z, z = T228.heap.size := ⟨_, rfl⟩
        rw [← gb231] at A231 D231 st231
        refine Own.go st231 ?_
        have ge231 : n0 ≤ b231 := by rw [gb231]; exact Z228
        have Z231 : n0 ≤ h231.size := Nat.le_trans Z228 E231.1
        have O231 := O228.ext E231
        have fl232 : Fld Z h231 b231 "com/example/arachne/arachne/Node" "id" "Ljava/lang/String;" .null := D231 (Or.inr (hw _ (List.mem_of_getElem? (i := 34) rfl))) (ty := (.object "java/lang/String")) (by decide)
        have fl233 : Fld Z h231 b231 "com/example/arachne/arachne/Node" "size" "Lcom/example/arachne/arachne/NodeSize;" .null := D231 (Or.inr (hw _ (List.mem_of_getElem? (i := 36) rfl))) (ty := (.object "com/example/arachne/arachne/NodeSize")) (by decide)
        have fl234 : Fld Z h231 b231 "com/example/arachne/arachne/Node" "label" "Ljava/lang/String;" .null := D231 (Or.inr (hw _ (List.mem_of_getElem? (i := 38) rfl))) (ty := (.object "java/lang/String")) (by decide)
        have fl235 : Fld Z h231 b231 "com/example/arachne/arachne/Node" "pin" "Lcom/example/arachne/arachne/Point;" .null := D231 (Or.inr (hw _ (List.mem_of_getElem? (i := 40) rfl))) (ty := (.object "com/example/arachne/arachne/Point")) (by decide)
        have fl236 : Fld Z h231 b231 "com/example/arachne/arachne/Node" "index" "I" (.int (0 : Int32)) := D231 (Or.inr (hw _ (List.mem_of_getElem? (i := 42) rfl))) (ty := .int) (by decide)
        show Own.Fin p e below (T231.setTop (mkF m 94 #[.val (.int p1), .val (.int p2), .val (.int p3), .val (.int p4), .val (.int p5), .val (.int (1 : Int32)), .val (.int (1 : Int32)), .val (.int (0 : Int32)), .val (.int (((p2 &&& (255 : Int32))).toUInt32.toUInt16.toUInt32.toInt32)), .val (.int (((p3 &&& (255 : Int32))).toUInt32.toUInt16.toUInt32.toInt32)), .val (.ref b228), .val (.ref b228), .val (.int p4), .unset, .unset, .unset, .unset, .unset, .unset] [(.ref b231)])) _
        refine Own.go (fun t k => XS.dup X231.here hx rfl (hb hby at_94) rfl rfl k) ?_
        show Own.Fin p e below (T231.setTop (mkF m 95 #[.val (.int p1), .val (.int p2), .val (.int p3), .val (.int p4), .val (.int p5), .val (.int (1 : Int32)), .val (.int (1 : Int32)), .val (.int (0 : Int32)), .val (.int (((p2 &&& (255 : Int32))).toUInt32.toUInt16.toUInt32.toInt32)), .val (.int (((p3 &&& (255 : Int32))).toUInt32.toUInt16.toUInt32.toInt32)), .val (.ref b228), .val (.ref b228), .val (.int p4), .unset, .unset, .unset, .unset, .unset, .unset] [(.ref b231), (.ref b231)])) _
        refine Own.go (fun t k => XS.aload X231.here hx rfl (hb hby at_95) rfl rfl k) ?_
        show Own.Fin p e below (T231.setTop (mkF m 97 #[.val (.int p1), .val (.int p2), .val (.int p3), .val (.int p4), .val (.int p5), .val (.int (1 : Int32)), .val (.int (1 : Int32)), .val (.int (0 : Int32)), .val (.int (((p2 &&& (255 : Int32))).toUInt32.toUInt16.toUInt32.toInt32)), .val (.int (((p3 &&& (255 : Int32))).toUInt32.toUInt16.toUInt32.toInt32)), .val (.ref b228), .val (.ref b228), .val (.int p4), .unset, .unset, .unset, .unset, .unset, .unset] [(.ref b228), (.ref b231), (.ref b231)])) _
        refine Own.go (fun t k => XS.aconstNull X231.here hx rfl (hb hby at_97) k) ?_
        show Own.Fin p e below (T231.setTop (mkF m 98 #[.val (.int p1), .val (.int p2), .val (.int p3), .val (.int p4), .val (.int p5), .val (.int (1 : Int32)), .val (.int (1 : Int32)), .val (.int (0 : Int32)), .val (.int (((p2 &&& (255 : Int32))).toUInt32.toUInt16.toUInt32.toInt32)), .val (.int (((p3 &&& (255 : Int32))).toUInt32.toUInt16.toUInt32.toInt32)), .val (.ref b228), .val (.ref b228), .val (.int p4), .unset, .unset, .unset, .unset, .unset, .unset] [.null, (.ref b228), (.ref b231), (.ref b231)])) _
        refine Own.go (fun t k => XS.aload X231.here hx rfl (hb hby at_98) rfl rfl k) ?_
        show Own.Fin p e below (T231.setTop (mkF m 100 #[.val (.int p1), .val (.int p2), .val (.int p3), .val (.int p4), .val (.int p5), .val (.int (1 : Int32)), .val (.int (1 : Int32)), .val (.int (0 : Int32)), .val (.int (((p2 &&& (255 : Int32))).toUInt32.toUInt16.toUInt32.toInt32)), .val (.int (((p3 &&& (255 : Int32))).toUInt32.toUInt16.toUInt32.toInt32)), .val (.ref b228), .val (.ref b228), .val (.int p4), .unset, .unset, .unset, .unset, .unset, .unset] [(.ref b228), .null, (.ref b228), (.ref b231), (.ref b231)])) _
        refine Own.go (fun t k => XS.aconstNull X231.here hx rfl (hb hby at_100) k) ?_
        show Own.Fin p e below (T231.setTop (mkF m 101 #[.val (.int p1), .val (.int p2), .val (.int p3), .val (.int p4), .val (.int p5), .val (.int (1 : Int32)), .val (.int (1 : Int32)), .val (.int (0 : Int32)), .val (.int (((p2 &&& (255 : Int32))).toUInt32.toUInt16.toUInt32.toInt32)), .val (.int (((p3 &&& (255 : Int32))).toUInt32.toUInt16.toUInt32.toInt32)), .val (.ref b228), .val (.ref b228), .val (.int p4), .unset, .unset, .unset, .unset, .unset, .unset] [.null, (.ref b228), .null, (.ref b228), (.ref b231), (.ref b231)])) _
        refine Own.go (fun t k => XS.iloadN X231.here hx rfl (hb hby at_101) rfl k) ?_
        show Own.Fin p e below (T231.setTop (mkF m 102 #[.val (.int p1), .val (.int p2), .val (.int p3), .val (.int p4), .val (.int p5), .val (.int (1 : Int32)), .val (.int (1 : Int32)), .val (.int (0 : Int32)), .val (.int (((p2 &&& (255 : Int32))).toUInt32.toUInt16.toUInt32.toInt32)), .val (.int (((p3 &&& (255 : Int32))).toUInt32.toUInt16.toUInt32.toInt32)), .val (.ref b228), .val (.ref b228), .val (.int p4), .unset, .unset, .unset, .unset, .unset, .unset] [(.int p4), .null, (.ref b228), .null, (.ref b228), (.ref b231), (.ref b231)])) _
        refine Own.cI X231 hx hZ rfl hown (hw _ (List.mem_of_getElem? (i := 29) rfl)) (hw _ (List.mem_of_getElem? (i := 30) rfl)) (hw _ (List.mem_of_getElem? (i := 28) rfl)) (hw _ (List.mem_of_getElem? (i := 31) rfl)) (by decide) (rm6 l Z a0 hw [] b231 b228 b228 p4 h231 n0 Z231 A231 fl232 fl233 fl234 fl235 fl236 ge231) (by decide) (W := 1) (by decide) (argsL := [(.ref b228), .null, (.ref b228), .null, (.int p4)]) (rest := [(.ref b231)]) (by rw [hml]; rfl) (lenOf pd_4 rfl) rfl (Nat.le_of_eq rfl) (hb hby at_102) e231 (by decide) (by decide) ?_
        intro T237 L237 v237 X237 hQ237
        obtain ⟨rfl, N237q, K237q⟩ := hQ237
        have N237 := Fr.app N228 N237q
        have f238 := A231.keep K237q
        have Z237 : n0 ≤ T237.heap.size := Nat.le_trans Z231 K237q.1
        have O237 := O231.keep K237q (allS ge231 all0)
        show Own.Fin p e below (T237.setTop (mkF m 105 #[.val (.int p1), .val (.int p2), .val (.int p3), .val (.int p4), .val (.int p5), .val (.int (1 : Int32)), .val (.int (1 : Int32)), .val (.int (0 : Int32)), .val (.int (((p2 &&& (255 : Int32))).toUInt32.toUInt16.toUInt32.toInt32)), .val (.int (((p3 &&& (255 : Int32))).toUInt32.toUInt16.toUInt32.toInt32)), .val (.ref b228), .val (.ref b228), .val (.int p4), .unset, .unset, .unset, .unset, .unset, .unset] [(.ref b231)])) _
        refine Own.go (fun t k => XS.astore X237.here hx rfl (hb hby at_105) rfl rfl (l' := #[.val (.int p1), .val (.int p2), .val (.int p3), .val (.int p4), .val (.int p5), .val (.int (1 : Int32)), .val (.int (1 : Int32)), .val (.int (0 : Int32)), .val (.int (((p2 &&& (255 : Int32))).toUInt32.toUInt16.toUInt32.toInt32)), .val (.int (((p3 &&& (255 : Int32))).toUInt32.toUInt16.toUInt32.toInt32)), .val (.ref b228), .val (.ref b228), .val (.int p4), .val (.ref b231), .unset, .unset, .unset, .unset, .unset]) rfl k) ?_
        show Own.Fin p e below (T237.setTop (mkF m 107 #[.val (.int p1), .val (.int p2), .val (.int p3), .val (.int p4), .val (.int p5), .val (.int (1 : Int32)), .val (.int (1 : Int32)), .val (.int (0 : Int32)), .val (.int (((p2 &&& (255 : Int32))).toUInt32.toUInt16.toUInt32.toInt32)), .val (.int (((p3 &&& (255 : Int32))).toUInt32.toUInt16.toUInt32.toInt32)), .val (.ref b228), .val (.ref b228), .val (.int p4), .val (.ref b231), .unset, .unset, .unset, .unset, .unset] [])) _
        obtain ⟨T239, h239, X239, e239, E239, A239, D239, -, st239⟩ := newO X237 hx hZ hown (hw _ (List.mem_of_getElem? (i := 26) rfl)) (hw _ (List.mem_of_getElem? (i := 27) rfl)) (hw _ (List.mem_of_getElem? (i := 28) rfl)) rfl (g := (mkF m 107 #[.val (.int p1), .val (.int p2), .val (.int p3), .val (.int p4), .val (.int p5), .val (.int (1 : Int32)), .val (.int (1 : Int32)), .val (.int (0 : Int32)), .val (.int (((p2 &&& (255 : Int32))).toUInt32.toUInt16.toUInt32.toInt32)), .val (.int (((p3 &&& (255 : Int32))).toUInt32.toUInt16.toUInt32.toInt32)), .val (.ref b228), .val (.ref b228), .val (.int p4), .val (.ref b231), .unset, .unset, .unset, .unset, .unset] [])) rfl (hb hby at_107) (by decide) (by decide)
        obtain ⟨b239, gb239⟩ : ∃ z, z = T237.heap.size := ⟨_, rfl⟩
        rw [← gb239] at A239 D239 st239
        refine Own.go st239 ?_
        have ge239 : n0 ≤ b239 := by rw [gb239]; exact Z237
        have ne239_b231 : b231 ≠ b239 := Nat.ne_of_lt (Nat.lt_of_lt_of_le f238.lt (Nat.le_of_eq gb239.symm))
        have Z239 : n0 ≤ h239.size := Nat.le_trans Z237 E239.1
        have f240 := f238.ext E239
        have O239 := O237.ext E239
        have fl241 : Fld Z h239 b239 "com/example/arachne/arachne/Node" "id" "Ljava/lang/String;" .null := D239 (Or.inr (hw _ (List.mem_of_getElem? (i := 34) rfl))) (ty := (.object "java/lang/String")) (by decide)
        have fl242 : Fld Z h239 b239 "com/example/arachne/arachne/Node" "size" "Lcom/example/arachne/arachne/NodeSize;" .null := D239 (Or.inr (hw _ (List.mem_of_getElem? (i := 36) rfl))) (ty := (.object "com/example/arachne/arachne/NodeSize")) (by decide)
        have fl243 : Fld Z h239 b239 "com/example/arachne/arachne/Node" "label" "Ljava/lang/String;" .null := D239 (Or.inr (hw _ (List.mem_of_getElem? (i := 38) rfl))) (ty := (.object "java/lang/String")) (by decide)
        have fl244 : Fld Z h239 b239 "com/example/arachne/arachne/Node" "pin" "Lcom/example/arachne/arachne/Point;" .null := D239 (Or.inr (hw _ (List.mem_of_getElem? (i := 40) rfl))) (ty := (.object "com/example/arachne/arachne/Point")) (by decide)
        have fl245 : Fld Z h239 b239 "com/example/arachne/arachne/Node" "index" "I" (.int (0 : Int32)) := D239 (Or.inr (hw _ (List.mem_of_getElem? (i := 42) rfl))) (ty := .int) (by decide)
        show Own.Fin p e below (T239.setTop (mkF m 110 #[.val (.int p1), .val (.int p2), .val (.int p3), .val (.int p4), .val (.int p5), .val (.int (1 : Int32)), .val (.int (1 : Int32)), .val (.int (0 : Int32)), .val (.int (((p2 &&& (255 : Int32))).toUInt32.toUInt16.toUInt32.toInt32)), .val (.int (((p3 &&& (255 : Int32))).toUInt32.toUInt16.toUInt32.toInt32)), .val (.ref b228), .val (.ref b228), .val (.int p4), .val (.ref b231), .unset, .unset, .unset, .unset, .unset] [(.ref b239)])) _
        refine Own.go (fun t k => XS.dup X239.here hx rfl (hb hby at_110) rfl rfl k) ?_
        show Own.Fin p e below (T239.setTop (mkF m 111 #[.val (.int p1), .val (.int p2), .val (.int p3), .val (.int p4), .val (.int p5), .val (.int (1 : Int32)), .val (.int (1 : Int32)), .val (.int (0 : Int32)), .val (.int (((p2 &&& (255 : Int32))).toUInt32.toUInt16.toUInt32.toInt32)), .val (.int (((p3 &&& (255 : Int32))).toUInt32.toUInt16.toUInt32.toInt32)), .val (.ref b228), .val (.ref b228), .val (.int p4), .val (.ref b231), .unset, .unset, .unset, .unset, .unset] [(.ref b239), (.ref b239)])) _
        refine Own.go (fun t k => XS.aload X239.here hx rfl (hb hby at_111) rfl rfl k) ?_
        show Own.Fin p e below (T239.setTop (mkF m 113 #[.val (.int p1), .val (.int p2), .val (.int p3), .val (.int p4), .val (.int p5), .val (.int (1 : Int32)), .val (.int (1 : Int32)), .val (.int (0 : Int32)), .val (.int (((p2 &&& (255 : Int32))).toUInt32.toUInt16.toUInt32.toInt32)), .val (.int (((p3 &&& (255 : Int32))).toUInt32.toUInt16.toUInt32.toInt32)), .val (.ref b228), .val (.ref b228), .val (.int p4), .val (.ref b231), .unset, .unset, .unset, .unset, .unset] [(.ref b228), (.ref b239), (.ref b239)])) _
        refine Own.go (fun t k => XS.aconstNull X239.here hx rfl (hb hby at_113) k) ?_
        show Own.Fin p e below (T239.setTop (mkF m 114 #[.val (.int p1), .val (.int p2), .val (.int p3), .val (.int p4), .val (.int p5), .val (.int (1 : Int32)), .val (.int (1 : Int32)), .val (.int (0 : Int32)), .val (.int (((p2 &&& (255 : Int32))).toUInt32.toUInt16.toUInt32.toInt32)), .val (.int (((p3 &&& (255 : Int32))).toUInt32.toUInt16.toUInt32.toInt32)), .val (.ref b228), .val (.ref b228), .val (.int p4), .val (.ref b231), .unset, .unset, .unset, .unset, .unset] [.null, (.ref b228), (.ref b239), (.ref b239)])) _
        refine Own.go (fun t k => XS.aload X239.here hx rfl (hb hby at_114) rfl rfl k) ?_
        show Own.Fin p e below (T239.setTop (mkF m 116 #[.val (.int p1), .val (.int p2), .val (.int p3), .val (.int p4), .val (.int p5), .val (.int (1 : Int32)), .val (.int (1 : Int32)), .val (.int (0 : Int32)), .val (.int (((p2 &&& (255 : Int32))).toUInt32.toUInt16.toUInt32.toInt32)), .val (.int (((p3 &&& (255 : Int32))).toUInt32.toUInt16.toUInt32.toInt32)), .val (.ref b228), .val (.ref b228), .val (.int p4), .val (.ref b231), .unset, .unset, .unset, .unset, .unset] [(.ref b228), .null, (.ref b228), (.ref b239), (.ref b239)])) _
        refine Own.go (fun t k => XS.aconstNull X239.here hx rfl (hb hby at_116) k) ?_
        show Own.Fin p e below (T239.setTop (mkF m 117 #[.val (.int p1), .val (.int p2), .val (.int p3), .val (.int p4), .val (.int p5), .val (.int (1 : Int32)), .val (.int (1 : Int32)), .val (.int (0 : Int32)), .val (.int (((p2 &&& (255 : Int32))).toUInt32.toUInt16.toUInt32.toInt32)), .val (.int (((p3 &&& (255 : Int32))).toUInt32.toUInt16.toUInt32.toInt32)), .val (.ref b228), .val (.ref b228), .val (.int p4), .val (.ref b231), .unset, .unset, .unset, .unset, .unset] [.null, (.ref b228), .null, (.ref b228), (.ref b239), (.ref b239)])) _
        refine Own.go (fun t k => XS.iload X239.here hx rfl (hb hby at_117) rfl k) ?_
        show Own.Fin p e below (T239.setTop (mkF m 119 #[.val (.int p1), .val (.int p2), .val (.int p3), .val (.int p4), .val (.int p5), .val (.int (1 : Int32)), .val (.int (1 : Int32)), .val (.int (0 : Int32)), .val (.int (((p2 &&& (255 : Int32))).toUInt32.toUInt16.toUInt32.toInt32)), .val (.int (((p3 &&& (255 : Int32))).toUInt32.toUInt16.toUInt32.toInt32)), .val (.ref b228), .val (.ref b228), .val (.int p4), .val (.ref b231), .unset, .unset, .unset, .unset, .unset] [(.int p4), .null, (.ref b228), .null, (.ref b228), (.ref b239), (.ref b239)])) _
        refine Own.cI X239 hx hZ rfl hown (hw _ (List.mem_of_getElem? (i := 29) rfl)) (hw _ (List.mem_of_getElem? (i := 30) rfl)) (hw _ (List.mem_of_getElem? (i := 28) rfl)) (hw _ (List.mem_of_getElem? (i := 31) rfl)) (by decide) (rm6 l Z a0 hw [] b239 b228 b228 p4 h239 n0 Z239 A239 fl241 fl242 fl243 fl244 fl245 ge239) (by decide) (W := 1) (by decide) (argsL := [(.ref b228), .null, (.ref b228), .null, (.int p4)]) (rest := [(.ref b239)]) (by rw [hml]; rfl) (lenOf pd_4 rfl) rfl (Nat.le_of_eq rfl) (hb hby at_119) e239 (by decide) (by decide) ?_
        intro T246 L246 v246 X246 hQ246
        obtain ⟨rfl, N246q, K246q⟩ := hQ246
        have N246 := Fr.app N237 N246q
        have f247 := f240.keep K246q
        have f248 := A239.keep K246q
        have Z246 : n0 ≤ T246.heap.size := Nat.le_trans Z239 K246q.1
        have O246 := O239.keep K246q (allS ge239 all0)
        show Own.Fin p e below (T246.setTop (mkF m 122 #[.val (.int p1), .val (.int p2), .val (.int p3), .val (.int p4), .val (.int p5), .val (.int (1 : Int32)), .val (.int (1 : Int32)), .val (.int (0 : Int32)), .val (.int (((p2 &&& (255 : Int32))).toUInt32.toUInt16.toUInt32.toInt32)), .val (.int (((p3 &&& (255 : Int32))).toUInt32.toUInt16.toUInt32.toInt32)), .val (.ref b228), .val (.ref b228), .val (.int p4), .val (.ref b231), .unset, .unset, .unset, .unset, .unset] [(.ref b239)])) _
        refine Own.go (fun t k => XS.astore X246.here hx rfl (hb hby at_122) rfl rfl (l' := #[.val (.int p1), .val (.int p2), .val (.int p3), .val (.int p4), .val (.int p5), .val (.int (1 : Int32)), .val (.int (1 : Int32)), .val (.int (0 : Int32)), .val (.int (((p2 &&& (255 : Int32))).toUInt32.toUInt16.toUInt32.toInt32)), .val (.int (((p3 &&& (255 : Int32))).toUInt32.toUInt16.toUInt32.toInt32)), .val (.ref b228), .val (.ref b228), .val (.int p4), .val (.ref b231), .val (.ref b239), .unset, .unset, .unset, .unset]) rfl k) ?_
        show Own.Fin p e below (T246.setTop (mkF m 124 #[.val (.int p1), .val (.int p2), .val (.int p3), .val (.int p4), .val (.int p5), .val (.int (1 : Int32)), .val (.int (1 : Int32)), .val (.int (0 : Int32)), .val (.int (((p2 &&& (255 : Int32))).toUInt32.toUInt16.toUInt32.toInt32)), .val (.int (((p3 &&& (255 : Int32))).toUInt32.toUInt16.toUInt32.toInt32)), .val (.ref b228), .val (.ref b228), .val (.int p4), .val (.ref b231), .val (.ref b239), .unset, .unset, .unset, .unset] [])) _
        refine Own.go (fun t k => XS.iload X246.here hx rfl (hb hby at_124) rfl k) ?_
        show Own.Fin p e below (T246.setTop (mkF m 126 #[.val (.int p1), .val (.int p2), .val (.int p3), .val (.int p4), .val (.int p5), .val (.int (1 : Int32)), .val (.int (1 : Int32)), .val (.int (0 : Int32)), .val (.int (((p2 &&& (255 : Int32))).toUInt32.toUInt16.toUInt32.toInt32)), .val (.int (((p3 &&& (255 : Int32))).toUInt32.toUInt16.toUInt32.toInt32)), .val (.ref b228), .val (.ref b228), .val (.int p4), .val (.ref b231), .val (.ref b239), .unset, .unset, .unset, .unset] [(.int (1 : Int32))])) _
        have hc126_248 : ¬ ((1 : Int32) = (0 : Int32)) := by decide
        refine Own.go (fun t k => XS.ifNo X246.here hx rfl (hb hby at_126) rfl ((if0 _ _).trans (feq hc126_248).1) k) ?_
        show Own.Fin p e below (T246.setTop (mkF m 129 #[.val (.int p1), .val (.int p2), .val (.int p3), .val (.int p4), .val (.int p5), .val (.int (1 : Int32)), .val (.int (1 : Int32)), .val (.int (0 : Int32)), .val (.int (((p2 &&& (255 : Int32))).toUInt32.toUInt16.toUInt32.toInt32)), .val (.int (((p3 &&& (255 : Int32))).toUInt32.toUInt16.toUInt32.toInt32)), .val (.ref b228), .val (.ref b228), .val (.int p4), .val (.ref b231), .val (.ref b239), .unset, .unset, .unset, .unset] [])) _
        refine Own.go (fun t k => XS.aload X246.here hx rfl (hb hby at_129) rfl rfl k) ?_
        show Own.Fin p e below (T246.setTop (mkF m 131 #[.val (.int p1), .val (.int p2), .val (.int p3), .val (.int p4), .val (.int p5), .val (.int (1 : Int32)), .val (.int (1 : Int32)), .val (.int (0 : Int32)), .val (.int (((p2 &&& (255 : Int32))).toUInt32.toUInt16.toUInt32.toInt32)), .val (.int (((p3 &&& (255 : Int32))).toUInt32.toUInt16.toUInt32.toInt32)), .val (.ref b228), .val (.ref b228), .val (.int p4), .val (.ref b231), .val (.ref b239), .unset, .unset, .unset, .unset] [(.ref b239)])) _
        refine Own.go (fun t k => XS.goto X246.here hx rfl (pc0 := 131) (pc' := 136) rfl (hb hby at_131) (by decide) (by decide) k) ?_
        show Own.Fin p e below (T246.setTop (mkF m 136 #[.val (.int p1), .val (.int p2), .val (.int p3), .val (.int p4), .val (.int p5), .val (.int (1 : Int32)), .val (.int (1 : Int32)), .val (.int (0 : Int32)), .val (.int (((p2 &&& (255 : Int32))).toUInt32.toUInt16.toUInt32.toInt32)), .val (.int (((p3 &&& (255 : Int32))).toUInt32.toUInt16.toUInt32.toInt32)), .val (.ref b228), .val (.ref b228), .val (.int p4), .val (.ref b231), .val (.ref b239), .unset, .unset, .unset, .unset] [(.ref b239)])) _
        refine Own.go (fun t k => XS.astore X246.here hx rfl (hb hby at_136) rfl rfl (l' := #[.val (.int p1), .val (.int p2), .val (.int p3), .val (.int p4), .val (.int p5), .val (.int (1 : Int32)), .val (.int (1 : Int32)), .val (.int (0 : Int32)), .val (.int (((p2 &&& (255 : Int32))).toUInt32.toUInt16.toUInt32.toInt32)), .val (.int (((p3 &&& (255 : Int32))).toUInt32.toUInt16.toUInt32.toInt32)), .val (.ref b228), .val (.ref b228), .val (.int p4), .val (.ref b231), .val (.ref b239), .val (.ref b239), .unset, .unset, .unset]) rfl k) ?_
        show Own.Fin p e below (T246.setTop (mkF m 138 #[.val (.int p1), .val (.int p2), .val (.int p3), .val (.int p4), .val (.int p5), .val (.int (1 : Int32)), .val (.int (1 : Int32)), .val (.int (0 : Int32)), .val (.int (((p2 &&& (255 : Int32))).toUInt32.toUInt16.toUInt32.toInt32)), .val (.int (((p3 &&& (255 : Int32))).toUInt32.toUInt16.toUInt32.toInt32)), .val (.ref b228), .val (.ref b228), .val (.int p4), .val (.ref b231), .val (.ref b239), .val (.ref b239), .unset, .unset, .unset] [])) _
        refine Own.go (fun t k => XS.iload X246.here hx rfl (hb hby at_138) rfl k) ?_
        show Own.Fin p e below (T246.setTop (mkF m 140 #[.val (.int p1), .val (.int p2), .val (.int p3), .val (.int p4), .val (.int p5), .val (.int (1 : Int32)), .val (.int (1 : Int32)), .val (.int (0 : Int32)), .val (.int (((p2 &&& (255 : Int32))).toUInt32.toUInt16.toUInt32.toInt32)), .val (.int (((p3 &&& (255 : Int32))).toUInt32.toUInt16.toUInt32.toInt32)), .val (.ref b228), .val (.ref b228), .val (.int p4), .val (.ref b231), .val (.ref b239), .val (.ref b239), .unset, .unset, .unset] [(.int (0 : Int32))])) _
        have hc140_249 : (0 : Int32) = (0 : Int32) := by decide
        refine Own.go (fun t k => XS.ifYes X246.here hx rfl (pc0 := 140) (pc' := 148) rfl (hb hby at_140) rfl ((if0 _ _).trans (teq hc140_249).1) (by decide) (by decide) k) ?_
        show Own.Fin p e below (T246.setTop (mkF m 148 #[.val (.int p1), .val (.int p2), .val (.int p3), .val (.int p4), .val (.int p5), .val (.int (1 : Int32)), .val (.int (1 : Int32)), .val (.int (0 : Int32)), .val (.int (((p2 &&& (255 : Int32))).toUInt32.toUInt16.toUInt32.toInt32)), .val (.int (((p3 &&& (255 : Int32))).toUInt32.toUInt16.toUInt32.toInt32)), .val (.ref b228), .val (.ref b228), .val (.int p4), .val (.ref b231), .val (.ref b239), .val (.ref b239), .unset, .unset, .unset] [])) _
        refine Own.go (fun t k => XS.aload X246.here hx rfl (hb hby at_148) rfl rfl k) ?_
        show Own.Fin p e below (T246.setTop (mkF m 150 #[.val (.int p1), .val (.int p2), .val (.int p3), .val (.int p4), .val (.int p5), .val (.int (1 : Int32)), .val (.int (1 : Int32)), .val (.int (0 : Int32)), .val (.int (((p2 &&& (255 : Int32))).toUInt32.toUInt16.toUInt32.toInt32)), .val (.int (((p3 &&& (255 : Int32))).toUInt32.toUInt16.toUInt32.toInt32)), .val (.ref b228), .val (.ref b228), .val (.int p4), .val (.ref b231), .val (.ref b239), .val (.ref b239), .unset, .unset, .unset] [(.ref b231)])) _
        refine Own.go (fun t k => XS.astore X246.here hx rfl (hb hby at_150) rfl rfl (l' := #[.val (.int p1), .val (.int p2), .val (.int p3), .val (.int p4), .val (.int p5), .val (.int (1 : Int32)), .val (.int (1 : Int32)), .val (.int (0 : Int32)), .val (.int (((p2 &&& (255 : Int32))).toUInt32.toUInt16.toUInt32.toInt32)), .val (.int (((p3 &&& (255 : Int32))).toUInt32.toUInt16.toUInt32.toInt32)), .val (.ref b228), .val (.ref b228), .val (.int p4), .val (.ref b231), .val (.ref b239), .val (.ref b239), .val (.ref b231), .unset, .unset]) rfl k) ?_
        show Own.Fin p e below (T246.setTop (mkF m 152 #[.val (.int p1), .val (.int p2), .val (.int p3), .val (.int p4), .val (.int p5), .val (.int (1 : Int32)), .val (.int (1 : Int32)), .val (.int (0 : Int32)), .val (.int (((p2 &&& (255 : Int32))).toUInt32.toUInt16.toUInt32.toInt32)), .val (.int (((p3 &&& (255 : Int32))).toUInt32.toUInt16.toUInt32.toInt32)), .val (.ref b228), .val (.ref b228), .val (.int p4), .val (.ref b231), .val (.ref b239), .val (.ref b239), .val (.ref b231), .unset, .unset] [])) _
        obtain ⟨T251, h251, X251, e251, E251, A251, D251, -, st251⟩ := newO X246 hx hZ hown (hw _ (List.mem_of_getElem? (i := 43) rfl)) (hw _ (List.mem_of_getElem? (i := 44) rfl)) (hw _ (List.mem_of_getElem? (i := 45) rfl)) rfl (g := (mkF m 152 #[.val (.int p1), .val (.int p2), .val (.int p3), .val (.int p4), .val (.int p5), .val (.int (1 : Int32)), .val (.int (1 : Int32)), .val (.int (0 : Int32)), .val (.int (((p2 &&& (255 : Int32))).toUInt32.toUInt16.toUInt32.toInt32)), .val (.int (((p3 &&& (255 : Int32))).toUInt32.toUInt16.toUInt32.toInt32)), .val (.ref b228), .val (.ref b228), .val (.int p4), .val (.ref b231), .val (.ref b239), .val (.ref b239), .val (.ref b231), .unset, .unset] [])) rfl (hb hby at_152) (by decide) (by decide)
        obtain ⟨b251, gb251⟩ : ∃ z, z = T246.heap.size := ⟨_, rfl⟩
        rw [← gb251] at A251 D251 st251
        refine Own.go st251 ?_
        have ge251 : n0 ≤ b251 := by rw [gb251]; exact Z246
        have ne251_b231 : b231 ≠ b251 := Nat.ne_of_lt (Nat.lt_of_lt_of_le f247.lt (Nat.le_of_eq gb251.symm))
        have ne251_b239 : b239 ≠ b251 := Nat.ne_of_lt (Nat.lt_of_lt_of_le f248.lt (Nat.le_of_eq gb251.symm))
        have Z251 : n0 ≤ h251.size := Nat.le_trans Z246 E251.1
        have f252 := f247.ext E251
        have f253 := f248.ext E251
        have O251 := O246.ext E251
        have fl254 : Fld Z h251 b251 "com/example/arachne/arachne/Edge" "source" "Lcom/example/arachne/arachne/Node;" .null := D251 (Or.inr (hw _ (List.mem_of_getElem? (i := 51) rfl))) (ty := (.object "com/example/arachne/arachne/Node")) (by decide)
        have fl255 : Fld Z h251 b251 "com/example/arachne/arachne/Edge" "target" "Lcom/example/arachne/arachne/Node;" .null := D251 (Or.inr (hw _ (List.mem_of_getElem? (i := 53) rfl))) (ty := (.object "com/example/arachne/arachne/Node")) (by decide)
        have fl256 : Fld Z h251 b251 "com/example/arachne/arachne/Edge" "index" "I" (.int (0 : Int32)) := D251 (Or.inr (hw _ (List.mem_of_getElem? (i := 55) rfl))) (ty := .int) (by decide)
        show Own.Fin p e below (T251.setTop (mkF m 155 #[.val (.int p1), .val (.int p2), .val (.int p3), .val (.int p4), .val (.int p5), .val (.int (1 : Int32)), .val (.int (1 : Int32)), .val (.int (0 : Int32)), .val (.int (((p2 &&& (255 : Int32))).toUInt32.toUInt16.toUInt32.toInt32)), .val (.int (((p3 &&& (255 : Int32))).toUInt32.toUInt16.toUInt32.toInt32)), .val (.ref b228), .val (.ref b228), .val (.int p4), .val (.ref b231), .val (.ref b239), .val (.ref b239), .val (.ref b231), .unset, .unset] [(.ref b251)])) _
        refine Own.go (fun t k => XS.dup X251.here hx rfl (hb hby at_155) rfl rfl k) ?_
        show Own.Fin p e below (T251.setTop (mkF m 156 #[.val (.int p1), .val (.int p2), .val (.int p3), .val (.int p4), .val (.int p5), .val (.int (1 : Int32)), .val (.int (1 : Int32)), .val (.int (0 : Int32)), .val (.int (((p2 &&& (255 : Int32))).toUInt32.toUInt16.toUInt32.toInt32)), .val (.int (((p3 &&& (255 : Int32))).toUInt32.toUInt16.toUInt32.toInt32)), .val (.ref b228), .val (.ref b228), .val (.int p4), .val (.ref b231), .val (.ref b239), .val (.ref b239), .val (.ref b231), .unset, .unset] [(.ref b251), (.ref b251)])) _
        refine Own.go (fun t k => XS.aload X251.here hx rfl (hb hby at_156) rfl rfl k) ?_
        show Own.Fin p e below (T251.setTop (mkF m 158 #[.val (.int p1), .val (.int p2), .val (.int p3), .val (.int p4), .val (.int p5), .val (.int (1 : Int32)), .val (.int (1 : Int32)), .val (.int (0 : Int32)), .val (.int (((p2 &&& (255 : Int32))).toUInt32.toUInt16.toUInt32.toInt32)), .val (.int (((p3 &&& (255 : Int32))).toUInt32.toUInt16.toUInt32.toInt32)), .val (.ref b228), .val (.ref b228), .val (.int p4), .val (.ref b231), .val (.ref b239), .val (.ref b239), .val (.ref b231), .unset, .unset] [(.ref b239), (.ref b251), (.ref b251)])) _
        refine Own.go (fun t k => XS.aload X251.here hx rfl (hb hby at_158) rfl rfl k) ?_
        show Own.Fin p e below (T251.setTop (mkF m 160 #[.val (.int p1), .val (.int p2), .val (.int p3), .val (.int p4), .val (.int p5), .val (.int (1 : Int32)), .val (.int (1 : Int32)), .val (.int (0 : Int32)), .val (.int (((p2 &&& (255 : Int32))).toUInt32.toUInt16.toUInt32.toInt32)), .val (.int (((p3 &&& (255 : Int32))).toUInt32.toUInt16.toUInt32.toInt32)), .val (.ref b228), .val (.ref b228), .val (.int p4), .val (.ref b231), .val (.ref b239), .val (.ref b239), .val (.ref b231), .unset, .unset] [(.ref b231), (.ref b239), (.ref b251), (.ref b251)])) _
        refine Own.go (fun t k => XS.iload X251.here hx rfl (hb hby at_160) rfl k) ?_
        show Own.Fin p e below (T251.setTop (mkF m 162 #[.val (.int p1), .val (.int p2), .val (.int p3), .val (.int p4), .val (.int p5), .val (.int (1 : Int32)), .val (.int (1 : Int32)), .val (.int (0 : Int32)), .val (.int (((p2 &&& (255 : Int32))).toUInt32.toUInt16.toUInt32.toInt32)), .val (.int (((p3 &&& (255 : Int32))).toUInt32.toUInt16.toUInt32.toInt32)), .val (.ref b228), .val (.ref b228), .val (.int p4), .val (.ref b231), .val (.ref b239), .val (.ref b239), .val (.ref b231), .unset, .unset] [(.int p5), (.ref b231), (.ref b239), (.ref b251), (.ref b251)])) _
        refine Own.cI X251 hx hZ rfl hown (hw _ (List.mem_of_getElem? (i := 46) rfl)) (hw _ (List.mem_of_getElem? (i := 47) rfl)) (hw _ (List.mem_of_getElem? (i := 45) rfl)) (hw _ (List.mem_of_getElem? (i := 48) rfl)) (by decide) (rm7 l Z a0 hw [] b251 b239 b231 p5 h251 n0 Z251 A251 fl254 fl255 fl256 ge251) (by decide) (W := 1) (by decide) (argsL := [(.ref b239), (.ref b231), (.int p5)]) (rest := [(.ref b251)]) (by rw [hml]; rfl) (lenOf pd_5 rfl) rfl (Nat.le_of_eq rfl) (hb hby at_162) e251 (by decide) (by decide) ?_
        intro T257 L257 v257 X257 hQ257
        obtain ⟨rfl, N257q, K257q, FS257, FT257⟩ := hQ257
        have N257 := Fr.app N246 N257q
        have f258 := f252.keep K257q
        have f259 := f253.keep K257q
        have f260 := A251.keep K257q
        have Z257 : n0 ≤ T257.heap.size := Nat.le_trans Z251 K257q.1
        have O257 := O251.keep K257q (allS ge251 all0)
        show Own.Fin p e below (T257.setTop (mkF m 165 #[.val (.int p1), .val (.int p2), .val (.int p3), .val (.int p4), .val (.int p5), .val (.int (1 : Int32)), .val (.int (1 : Int32)), .val (.int (0 : Int32)), .val (.int (((p2 &&& (255 : Int32))).toUInt32.toUInt16.toUInt32.toInt32)), .val (.int (((p3 &&& (255 : Int32))).toUInt32.toUInt16.toUInt32.toInt32)), .val (.ref b228), .val (.ref b228), .val (.int p4), .val (.ref b231), .val (.ref b239), .val (.ref b239), .val (.ref b231), .unset, .unset] [(.ref b251)])) _
        refine Own.go (fun t k => XS.astore X257.here hx rfl (hb hby at_165) rfl rfl (l' := #[.val (.int p1), .val (.int p2), .val (.int p3), .val (.int p4), .val (.int p5), .val (.int (1 : Int32)), .val (.int (1 : Int32)), .val (.int (0 : Int32)), .val (.int (((p2 &&& (255 : Int32))).toUInt32.toUInt16.toUInt32.toInt32)), .val (.int (((p3 &&& (255 : Int32))).toUInt32.toUInt16.toUInt32.toInt32)), .val (.ref b228), .val (.ref b228), .val (.int p4), .val (.ref b231), .val (.ref b239), .val (.ref b239), .val (.ref b231), .val (.ref b251), .unset]) rfl k) ?_
        show Own.Fin p e below (T257.setTop (mkF m 167 #[.val (.int p1), .val (.int p2), .val (.int p3), .val (.int p4), .val (.int p5), .val (.int (1 : Int32)), .val (.int (1 : Int32)), .val (.int (0 : Int32)), .val (.int (((p2 &&& (255 : Int32))).toUInt32.toUInt16.toUInt32.toInt32)), .val (.int (((p3 &&& (255 : Int32))).toUInt32.toUInt16.toUInt32.toInt32)), .val (.ref b228), .val (.ref b228), .val (.int p4), .val (.ref b231), .val (.ref b239), .val (.ref b239), .val (.ref b231), .val (.ref b251), .unset] [])) _
        refine Own.go (fun t k => XS.iload X257.here hx rfl (hb hby at_167) rfl k) ?_
        show Own.Fin p e below (T257.setTop (mkF m 169 #[.val (.int p1), .val (.int p2), .val (.int p3), .val (.int p4), .val (.int p5), .val (.int (1 : Int32)), .val (.int (1 : Int32)), .val (.int (0 : Int32)), .val (.int (((p2 &&& (255 : Int32))).toUInt32.toUInt16.toUInt32.toInt32)), .val (.int (((p3 &&& (255 : Int32))).toUInt32.toUInt16.toUInt32.toInt32)), .val (.ref b228), .val (.ref b228), .val (.int p4), .val (.ref b231), .val (.ref b239), .val (.ref b239), .val (.ref b231), .val (.ref b251), .unset] [(.int (1 : Int32))])) _
        refine Own.go (fun t k => XS.iload X257.here hx rfl (hb hby at_169) rfl k) ?_
        show Own.Fin p e below (T257.setTop (mkF m 171 #[.val (.int p1), .val (.int p2), .val (.int p3), .val (.int p4), .val (.int p5), .val (.int (1 : Int32)), .val (.int (1 : Int32)), .val (.int (0 : Int32)), .val (.int (((p2 &&& (255 : Int32))).toUInt32.toUInt16.toUInt32.toInt32)), .val (.int (((p3 &&& (255 : Int32))).toUInt32.toUInt16.toUInt32.toInt32)), .val (.ref b228), .val (.ref b228), .val (.int p4), .val (.ref b231), .val (.ref b239), .val (.ref b239), .val (.ref b231), .val (.ref b251), .unset] [(.int (0 : Int32)), (.int (1 : Int32))])) _
        have hc171_260 : ¬ ((1 : Int32) = (0 : Int32)) := by decide
        refine Own.go (fun t k => XS.icmpYes X257.here hx rfl (pc0 := 171) (pc' := 178) rfl (hb hby at_171) rfl (feq hc171_260).2 (by decide) (by decide) k) ?_
        show Own.Fin p e below (T257.setTop (mkF m 178 #[.val (.int p1), .val (.int p2), .val (.int p3), .val (.int p4), .val (.int p5), .val (.int (1 : Int32)), .val (.int (1 : Int32)), .val (.int (0 : Int32)), .val (.int (((p2 &&& (255 : Int32))).toUInt32.toUInt16.toUInt32.toInt32)), .val (.int (((p3 &&& (255 : Int32))).toUInt32.toUInt16.toUInt32.toInt32)), .val (.ref b228), .val (.ref b228), .val (.int p4), .val (.ref b231), .val (.ref b239), .val (.ref b239), .val (.ref b231), .val (.ref b251), .unset] [])) _
        refine Own.go (fun t k => XS.iconst X257.here hx rfl (hb hby at_178) k) ?_
        show Own.Fin p e below (T257.setTop (mkF m 179 #[.val (.int p1), .val (.int p2), .val (.int p3), .val (.int p4), .val (.int p5), .val (.int (1 : Int32)), .val (.int (1 : Int32)), .val (.int (0 : Int32)), .val (.int (((p2 &&& (255 : Int32))).toUInt32.toUInt16.toUInt32.toInt32)), .val (.int (((p3 &&& (255 : Int32))).toUInt32.toUInt16.toUInt32.toInt32)), .val (.ref b228), .val (.ref b228), .val (.int p4), .val (.ref b231), .val (.ref b239), .val (.ref b239), .val (.ref b231), .val (.ref b251), .unset] [(.int (0 : Int32))])) _
        refine Own.go (fun t k => XS.istore X257.here hx rfl (hb hby at_179) rfl (l' := #[.val (.int p1), .val (.int p2), .val (.int p3), .val (.int p4), .val (.int p5), .val (.int (1 : Int32)), .val (.int (1 : Int32)), .val (.int (0 : Int32)), .val (.int (((p2 &&& (255 : Int32))).toUInt32.toUInt16.toUInt32.toInt32)), .val (.int (((p3 &&& (255 : Int32))).toUInt32.toUInt16.toUInt32.toInt32)), .val (.ref b228), .val (.ref b228), .val (.int p4), .val (.ref b231), .val (.ref b239), .val (.ref b239), .val (.ref b231), .val (.ref b251), .val (.int (0 : Int32))]) rfl k) ?_
        show Own.Fin p e below (T257.setTop (mkF m 181 #[.val (.int p1), .val (.int p2), .val (.int p3), .val (.int p4), .val (.int p5), .val (.int (1 : Int32)), .val (.int (1 : Int32)), .val (.int (0 : Int32)), .val (.int (((p2 &&& (255 : Int32))).toUInt32.toUInt16.toUInt32.toInt32)), .val (.int (((p3 &&& (255 : Int32))).toUInt32.toUInt16.toUInt32.toInt32)), .val (.ref b228), .val (.ref b228), .val (.int p4), .val (.ref b231), .val (.ref b239), .val (.ref b239), .val (.ref b231), .val (.ref b251), .val (.int (0 : Int32))] [])) _
        refine Own.go (fun t k => XS.aload X257.here hx rfl (hb hby at_181) rfl rfl k) ?_
        show Own.Fin p e below (T257.setTop (mkF m 183 #[.val (.int p1), .val (.int p2), .val (.int p3), .val (.int p4), .val (.int p5), .val (.int (1 : Int32)), .val (.int (1 : Int32)), .val (.int (0 : Int32)), .val (.int (((p2 &&& (255 : Int32))).toUInt32.toUInt16.toUInt32.toInt32)), .val (.int (((p3 &&& (255 : Int32))).toUInt32.toUInt16.toUInt32.toInt32)), .val (.ref b228), .val (.ref b228), .val (.int p4), .val (.ref b231), .val (.ref b239), .val (.ref b239), .val (.ref b231), .val (.ref b251), .val (.int (0 : Int32))] [(.ref b251)])) _
        refine Own.cV X257 hx hZ hown (hw _ (List.mem_of_getElem? (i := 56) rfl)) (hw _ (List.mem_of_getElem? (i := 57) rfl)) (notFace_of_selects (args := #[]) (mvT hZ (hw _ (List.mem_of_getElem? (i := 59) rfl)))) (hw _ (List.mem_of_getElem? (i := 59) rfl)) (hw _ (List.mem_of_getElem? (i := 58) rfl)) (hw _ (List.mem_of_getElem? (i := 45) rfl)) (hw _ (List.mem_of_getElem? (i := 60) rfl)) (by decide) (rm8 l Z a0 hw [] b251 b239 b231 T257.heap n0 Z257 FS257 FT257) (by decide) (W := 0) (by decide) (argsL := []) (rest := []) f260 (by rw [hml]; rfl) (lenOf pd_6 rfl) rfl (Nat.le_of_eq rfl) (hb hby at_183) rfl (by decide) (by decide) ?_
        intro T262 L262 v262 X262 hQ262
        obtain ⟨rfl, N262q, e262⟩ := hQ262
        have N262 := Fr.app N257 N262q
        rw [if_neg (Ne.symm ne239_b231)]
        show Own.Fin p e below (T262.setTop (mkF m 186 #[.val (.int p1), .val (.int p2), .val (.int p3), .val (.int p4), .val (.int p5), .val (.int (1 : Int32)), .val (.int (1 : Int32)), .val (.int (0 : Int32)), .val (.int (((p2 &&& (255 : Int32))).toUInt32.toUInt16.toUInt32.toInt32)), .val (.int (((p3 &&& (255 : Int32))).toUInt32.toUInt16.toUInt32.toInt32)), .val (.ref b228), .val (.ref b228), .val (.int p4), .val (.ref b231), .val (.ref b239), .val (.ref b239), .val (.ref b231), .val (.ref b251), .val (.int (0 : Int32))] [(.int (0 : Int32))])) _
        refine Own.go (fun t k => XS.iload X262.here hx rfl (hb hby at_186) rfl k) ?_
        show Own.Fin p e below (T262.setTop (mkF m 188 #[.val (.int p1), .val (.int p2), .val (.int p3), .val (.int p4), .val (.int p5), .val (.int (1 : Int32)), .val (.int (1 : Int32)), .val (.int (0 : Int32)), .val (.int (((p2 &&& (255 : Int32))).toUInt32.toUInt16.toUInt32.toInt32)), .val (.int (((p3 &&& (255 : Int32))).toUInt32.toUInt16.toUInt32.toInt32)), .val (.ref b228), .val (.ref b228), .val (.int p4), .val (.ref b231), .val (.ref b239), .val (.ref b239), .val (.ref b231), .val (.ref b251), .val (.int (0 : Int32))] [(.int (0 : Int32)), (.int (0 : Int32))])) _
        have hc188_262 : (0 : Int32) = (0 : Int32) := by decide
        refine Own.go (fun t k => XS.icmpNo X262.here hx rfl (hb hby at_188) rfl (teq hc188_262).2 k) ?_
        show Own.Fin p e below (T262.setTop (mkF m 191 #[.val (.int p1), .val (.int p2), .val (.int p3), .val (.int p4), .val (.int p5), .val (.int (1 : Int32)), .val (.int (1 : Int32)), .val (.int (0 : Int32)), .val (.int (((p2 &&& (255 : Int32))).toUInt32.toUInt16.toUInt32.toInt32)), .val (.int (((p3 &&& (255 : Int32))).toUInt32.toUInt16.toUInt32.toInt32)), .val (.ref b228), .val (.ref b228), .val (.int p4), .val (.ref b231), .val (.ref b239), .val (.ref b239), .val (.ref b231), .val (.ref b251), .val (.int (0 : Int32))] [])) _
        refine Own.go (fun t k => XS.iconst X262.here hx rfl (hb hby at_191) k) ?_
        show Own.Fin p e below (T262.setTop (mkF m 192 #[.val (.int p1), .val (.int p2), .val (.int p3), .val (.int p4), .val (.int p5), .val (.int (1 : Int32)), .val (.int (1 : Int32)), .val (.int (0 : Int32)), .val (.int (((p2 &&& (255 : Int32))).toUInt32.toUInt16.toUInt32.toInt32)), .val (.int (((p3 &&& (255 : Int32))).toUInt32.toUInt16.toUInt32.toInt32)), .val (.ref b228), .val (.ref b228), .val (.int p4), .val (.ref b231), .val (.ref b239), .val (.ref b239), .val (.ref b231), .val (.ref b251), .val (.int (0 : Int32))] [(.int (1 : Int32))])) _
        refine Own.go (fun t k => XS.goto X262.here hx rfl (pc0 := 192) (pc' := 196) rfl (hb hby at_192) (by decide) (by decide) k) ?_
        show Own.Fin p e below (T262.setTop (mkF m 196 #[.val (.int p1), .val (.int p2), .val (.int p3), .val (.int p4), .val (.int p5), .val (.int (1 : Int32)), .val (.int (1 : Int32)), .val (.int (0 : Int32)), .val (.int (((p2 &&& (255 : Int32))).toUInt32.toUInt16.toUInt32.toInt32)), .val (.int (((p3 &&& (255 : Int32))).toUInt32.toUInt16.toUInt32.toInt32)), .val (.ref b228), .val (.ref b228), .val (.int p4), .val (.ref b231), .val (.ref b239), .val (.ref b239), .val (.ref b231), .val (.ref b251), .val (.int (0 : Int32))] [(.int (1 : Int32))])) _
        refine Own.retN X262 hx Bd.notSynchronized (t := .boolean) Bd.returns (by simp) (hb hby at_196) (by decide) (by decide) ?_
        exact ⟨rfl, N262⟩
      · skip
        refine Own.go (fun t k => XS.ifNo X0.here hx rfl (hb hby at_29) rfl ((if0 _ _).trans (feq hc29_226).1) k) ?_
        show Own.Fin p e below (s₁.setTop (mkF m 32 #[.val (.int p1), .val (.int p2), .val (.int p3), .val (.int p4), .val (.int p5), .val (.int (1 : Int32)), .val (.int (1 : Int32)), .unset, .unset, .unset, .unset, .unset, .unset, .unset, .unset, .unset, .unset, .unset, .unset] [])) _
        refine Own.go (fun t k => XS.iconst X0.here hx rfl (hb hby at_32) k) ?_
        show Own.Fin p e below (s₁.setTop (mkF m 33 #[.val (.int p1), .val (.int p2), .val (.int p3), .val (.int p4), .val (.int p5), .val (.int (1 : Int32)), .val (.int (1 : Int32)), .unset, .unset, .unset, .unset, .unset, .unset, .unset, .unset, .unset, .unset, .unset, .unset] [(.int (1 : Int32))])) _
        refine Own.go (fun t k => XS.goto X0.here hx rfl (pc0 := 33) (pc' := 37) rfl (hb hby at_33) (by decide) (by decide) k) ?_
        show Own.Fin p e below (s₁.setTop (mkF m 37 #[.val (.int p1), .val (.int p2), .val (.int p3), .val (.int p4), .val (.int p5), .val (.int (1 : Int32)), .val (.int (1 : Int32)), .unset, .unset, .unset, .unset, .unset, .unset, .unset, .unset, .unset, .unset, .unset, .unset] [(.int (1 : Int32))])) _
        refine Own.go (fun t k => XS.istore X0.here hx rfl (hb hby at_37) rfl (l' := #[.val (.int p1), .val (.int p2), .val (.int p3), .val (.int p4), .val (.int p5), .val (.int (1 : Int32)), .val (.int (1 : Int32)), .val (.int (1 : Int32)), .unset, .unset, .unset, .unset, .unset, .unset, .unset, .unset, .unset, .unset, .unset]) rfl k) ?_
        show Own.Fin p e below (s₁.setTop (mkF m 39 #[.val (.int p1), .val (.int p2), .val (.int p3), .val (.int p4), .val (.int p5), .val (.int (1 : Int32)), .val (.int (1 : Int32)), .val (.int (1 : Int32)), .unset, .unset, .unset, .unset, .unset, .unset, .unset, .unset, .unset, .unset, .unset] [])) _
        refine Own.go (fun t k => XS.iloadN X0.here hx rfl (hb hby at_39) rfl k) ?_
        show Own.Fin p e below (s₁.setTop (mkF m 40 #[.val (.int p1), .val (.int p2), .val (.int p3), .val (.int p4), .val (.int p5), .val (.int (1 : Int32)), .val (.int (1 : Int32)), .val (.int (1 : Int32)), .unset, .unset, .unset, .unset, .unset, .unset, .unset, .unset, .unset, .unset, .unset] [(.int p2)])) _
        refine Own.go (fun t k => XS.sipush X0.here hx rfl (hb hby at_40) k) ?_
        show Own.Fin p e below (s₁.setTop (mkF m 43 #[.val (.int p1), .val (.int p2), .val (.int p3), .val (.int p4), .val (.int p5), .val (.int (1 : Int32)), .val (.int (1 : Int32)), .val (.int (1 : Int32)), .unset, .unset, .unset, .unset, .unset, .unset, .unset, .unset, .unset, .unset, .unset] [(.int (255 : Int32)), (.int p2)])) _
        refine Own.go (fun t k => XS.iand X0.here hx rfl (hb hby at_43) rfl k) ?_
        show Own.Fin p e below (s₁.setTop (mkF m 44 #[.val (.int p1), .val (.int p2), .val (.int p3), .val (.int p4), .val (.int p5), .val (.int (1 : Int32)), .val (.int (1 : Int32)), .val (.int (1 : Int32)), .unset, .unset, .unset, .unset, .unset, .unset, .unset, .unset, .unset, .unset, .unset] [(.int (p2 &&& (255 : Int32)))])) _
        refine Own.go (fun t k => XS.i2c X0.here hx rfl (hb hby at_44) rfl k) ?_
        show Own.Fin p e below (s₁.setTop (mkF m 45 #[.val (.int p1), .val (.int p2), .val (.int p3), .val (.int p4), .val (.int p5), .val (.int (1 : Int32)), .val (.int (1 : Int32)), .val (.int (1 : Int32)), .unset, .unset, .unset, .unset, .unset, .unset, .unset, .unset, .unset, .unset, .unset] [(.int (((p2 &&& (255 : Int32))).toUInt32.toUInt16.toUInt32.toInt32))])) _
        refine Own.go (fun t k => XS.istore X0.here hx rfl (hb hby at_45) rfl (l' := #[.val (.int p1), .val (.int p2), .val (.int p3), .val (.int p4), .val (.int p5), .val (.int (1 : Int32)), .val (.int (1 : Int32)), .val (.int (1 : Int32)), .val (.int (((p2 &&& (255 : Int32))).toUInt32.toUInt16.toUInt32.toInt32)), .unset, .unset, .unset, .unset, .unset, .unset, .unset, .unset, .unset, .unset]) rfl k) ?_
        show Own.Fin p e below (s₁.setTop (mkF m 47 #[.val (.int p1), .val (.int p2), .val (.int p3), .val (.int p4), .val (.int p5), .val (.int (1 : Int32)), .val (.int (1 : Int32)), .val (.int (1 : Int32)), .val (.int (((p2 &&& (255 : Int32))).toUInt32.toUInt16.toUInt32.toInt32)), .unset, .unset, .unset, .unset, .unset, .unset, .unset, .unset, .unset, .unset] [])) _
        refine Own.go (fun t k => XS.iloadN X0.here hx rfl (hb hby at_47) rfl k) ?_
        show Own.Fin p e below (s₁.setTop (mkF m 48 #[.val (.int p1), .val (.int p2), .val (.int p3), .val (.int p4), .val (.int p5), .val (.int (1 : Int32)), .val (.int (1 : Int32)), .val (.int (1 : Int32)), .val (.int (((p2 &&& (255 : Int32))).toUInt32.toUInt16.toUInt32.toInt32)), .unset, .unset, .unset, .unset, .unset, .unset, .unset, .unset, .unset, .unset] [(.int p3)])) _
        refine Own.go (fun t k => XS.sipush X0.here hx rfl (hb hby at_48) k) ?_
        show Own.Fin p e below (s₁.setTop (mkF m 51 #[.val (.int p1), .val (.int p2), .val (.int p3), .val (.int p4), .val (.int p5), .val (.int (1 : Int32)), .val (.int (1 : Int32)), .val (.int (1 : Int32)), .val (.int (((p2 &&& (255 : Int32))).toUInt32.toUInt16.toUInt32.toInt32)), .unset, .unset, .unset, .unset, .unset, .unset, .unset, .unset, .unset, .unset] [(.int (255 : Int32)), (.int p3)])) _
        refine Own.go (fun t k => XS.iand X0.here hx rfl (hb hby at_51) rfl k) ?_
        show Own.Fin p e below (s₁.setTop (mkF m 52 #[.val (.int p1), .val (.int p2), .val (.int p3), .val (.int p4), .val (.int p5), .val (.int (1 : Int32)), .val (.int (1 : Int32)), .val (.int (1 : Int32)), .val (.int (((p2 &&& (255 : Int32))).toUInt32.toUInt16.toUInt32.toInt32)), .unset, .unset, .unset, .unset, .unset, .unset, .unset, .unset, .unset, .unset] [(.int (p3 &&& (255 : Int32)))])) _
        refine Own.go (fun t k => XS.i2c X0.here hx rfl (hb hby at_52) rfl k) ?_
        show Own.Fin p e below (s₁.setTop (mkF m 53 #[.val (.int p1), .val (.int p2), .val (.int p3), .val (.int p4), .val (.int p5), .val (.int (1 : Int32)), .val (.int (1 : Int32)), .val (.int (1 : Int32)), .val (.int (((p2 &&& (255 : Int32))).toUInt32.toUInt16.toUInt32.toInt32)), .unset, .unset, .unset, .unset, .unset, .unset, .unset, .unset, .unset, .unset] [(.int (((p3 &&& (255 : Int32))).toUInt32.toUInt16.toUInt32.toInt32))])) _
        refine Own.go (fun t k => XS.istore X0.here hx rfl (hb hby at_53) rfl (l' := #[.val (.int p1), .val (.int p2), .val (.int p3), .val (.int p4), .val (.int p5), .val (.int (1 : Int32)), .val (.int (1 : Int32)), .val (.int (1 : Int32)), .val (.int (((p2 &&& (255 : Int32))).toUInt32.toUInt16.toUInt32.toInt32)), .val (.int (((p3 &&& (255 : Int32))).toUInt32.toUInt16.toUInt32.toInt32)), .unset, .unset, .unset, .unset, .unset, .unset, .unset, .unset, .unset]) rfl k) ?_
        show Own.Fin p e below (s₁.setTop (mkF m 55 #[.val (.int p1), .val (.int p2), .val (.int p3), .val (.int p4), .val (.int p5), .val (.int (1 : Int32)), .val (.int (1 : Int32)), .val (.int (1 : Int32)), .val (.int (((p2 &&& (255 : Int32))).toUInt32.toUInt16.toUInt32.toInt32)), .val (.int (((p3 &&& (255 : Int32))).toUInt32.toUInt16.toUInt32.toInt32)), .unset, .unset, .unset, .unset, .unset, .unset, .unset, .unset, .unset] [])) _
        refine Own.go (fun t k => XS.iload X0.here hx rfl (hb hby at_55) rfl k) ?_
        show Own.Fin p e below (s₁.setTop (mkF m 57 #[.val (.int p1), .val (.int p2), .val (.int p3), .val (.int p4), .val (.int p5), .val (.int (1 : Int32)), .val (.int (1 : Int32)), .val (.int (1 : Int32)), .val (.int (((p2 &&& (255 : Int32))).toUInt32.toUInt16.toUInt32.toInt32)), .val (.int (((p3 &&& (255 : Int32))).toUInt32.toUInt16.toUInt32.toInt32)), .unset, .unset, .unset, .unset, .unset, .unset, .unset, .unset, .unset] [(.int (((p2 &&& (255 : Int32))).toUInt32.toUInt16.toUInt32.toInt32))])) _
        refine Own.cS X0 hx hZ hown (hw _ (List.mem_of_getElem? (i := 0) rfl)) (hw _ (List.mem_of_getElem? (i := 1) rfl)) (hw _ (List.mem_of_getElem? (i := 2) rfl)) (hw _ (List.mem_of_getElem? (i := 3) rfl)) (by decide) (rm1 l Z a0 hw [] (((p2 &&& (255 : Int32))).toUInt32.toUInt16.toUInt32.toInt32) cs h0 n0 Z0 O0 SC hcs (own_ch _)) (by decide) (W := 0) (by decide) (argsL := [(.int (((p2 &&& (255 : Int32))).toUInt32.toUInt16.toUInt32.toInt32))]) (rest := []) (by rw [hml]; rfl) (lenOf pd_3 rfl) rfl (Nat.le_of_eq rfl) (hb hby at_57) e0 (by decide) (by decide) ?_
        intro T264 L264 v264 X264 hQ264
        obtain ⟨b264, ge264, rfl, N264q, K264q⟩ := hQ264
        have N264 := Fr.app N0 N264q
        have Z264 : n0 ≤ T264.heap.size := Nat.le_trans Z0 K264q.1
        have O264 := O0.keep K264q all0
        show Own.Fin p e below (T264.setTop (mkF m 60 #[.val (.int p1), .val (.int p2), .val (.int p3), .val (.int p4), .val (.int p5), .val (.int (1 : Int32)), .val (.int (1 : Int32)), .val (.int (1 : Int32)), .val (.int (((p2 &&& (255 : Int32))).toUInt32.toUInt16.toUInt32.toInt32)), .val (.int (((p3 &&& (255 : Int32))).toUInt32.toUInt16.toUInt32.toInt32)), .unset, .unset, .unset, .unset, .unset, .unset, .unset, .unset, .unset] [(.ref b264)])) _
        refine Own.go (fun t k => XS.astore X264.here hx rfl (hb hby at_60) rfl rfl (l' := #[.val (.int p1), .val (.int p2), .val (.int p3), .val (.int p4), .val (.int p5), .val (.int (1 : Int32)), .val (.int (1 : Int32)), .val (.int (1 : Int32)), .val (.int (((p2 &&& (255 : Int32))).toUInt32.toUInt16.toUInt32.toInt32)), .val (.int (((p3 &&& (255 : Int32))).toUInt32.toUInt16.toUInt32.toInt32)), .val (.ref b264), .unset, .unset, .unset, .unset, .unset, .unset, .unset, .unset]) rfl k) ?_
        show Own.Fin p e below (T264.setTop (mkF m 62 #[.val (.int p1), .val (.int p2), .val (.int p3), .val (.int p4), .val (.int p5), .val (.int (1 : Int32)), .val (.int (1 : Int32)), .val (.int (1 : Int32)), .val (.int (((p2 &&& (255 : Int32))).toUInt32.toUInt16.toUInt32.toInt32)), .val (.int (((p3 &&& (255 : Int32))).toUInt32.toUInt16.toUInt32.toInt32)), .val (.ref b264), .unset, .unset, .unset, .unset, .unset, .unset, .unset, .unset] [])) _
        refine Own.go (fun t k => XS.iload X264.here hx rfl (hb hby at_62) rfl k) ?_
        show Own.Fin p e below (T264.setTop (mkF m 64 #[.val (.int p1), .val (.int p2), .val (.int p3), .val (.int p4), .val (.int p5), .val (.int (1 : Int32)), .val (.int (1 : Int32)), .val (.int (1 : Int32)), .val (.int (((p2 &&& (255 : Int32))).toUInt32.toUInt16.toUInt32.toInt32)), .val (.int (((p3 &&& (255 : Int32))).toUInt32.toUInt16.toUInt32.toInt32)), .val (.ref b264), .unset, .unset, .unset, .unset, .unset, .unset, .unset, .unset] [(.int (1 : Int32))])) _
        have hc64_264 : ¬ ((1 : Int32) = (0 : Int32)) := by decide
        refine Own.go (fun t k => XS.ifNo X264.here hx rfl (hb hby at_64) rfl ((if0 _ _).trans (feq hc64_264).1) k) ?_
        show Own.Fin p e below (T264.setTop (mkF m 67 #[.val (.int p1), .val (.int p2), .val (.int p3), .val (.int p4), .val (.int p5), .val (.int (1 : Int32)), .val (.int (1 : Int32)), .val (.int (1 : Int32)), .val (.int (((p2 &&& (255 : Int32))).toUInt32.toUInt16.toUInt32.toInt32)), .val (.int (((p3 &&& (255 : Int32))).toUInt32.toUInt16.toUInt32.toInt32)), .val (.ref b264), .unset, .unset, .unset, .unset, .unset, .unset, .unset, .unset] [])) _
        refine Own.go (fun t k => XS.aload X264.here hx rfl (hb hby at_67) rfl rfl k) ?_
        show Own.Fin p e below (T264.setTop (mkF m 69 #[.val (.int p1), .val (.int p2), .val (.int p3), .val (.int p4), .val (.int p5), .val (.int (1 : Int32)), .val (.int (1 : Int32)), .val (.int (1 : Int32)), .val (.int (((p2 &&& (255 : Int32))).toUInt32.toUInt16.toUInt32.toInt32)), .val (.int (((p3 &&& (255 : Int32))).toUInt32.toUInt16.toUInt32.toInt32)), .val (.ref b264), .unset, .unset, .unset, .unset, .unset, .unset, .unset, .unset] [(.ref b264)])) _
        refine Own.go (fun t k => XS.goto X264.here hx rfl (pc0 := 69) (pc' := 77) rfl (hb hby at_69) (by decide) (by decide) k) ?_
        show Own.Fin p e below (T264.setTop (mkF m 77 #[.val (.int p1), .val (.int p2), .val (.int p3), .val (.int p4), .val (.int p5), .val (.int (1 : Int32)), .val (.int (1 : Int32)), .val (.int (1 : Int32)), .val (.int (((p2 &&& (255 : Int32))).toUInt32.toUInt16.toUInt32.toInt32)), .val (.int (((p3 &&& (255 : Int32))).toUInt32.toUInt16.toUInt32.toInt32)), .val (.ref b264), .unset, .unset, .unset, .unset, .unset, .unset, .unset, .unset] [(.ref b264)])) _
        refine Own.go (fun t k => XS.astore X264.here hx rfl (hb hby at_77) rfl rfl (l' := #[.val (.int p1), .val (.int p2), .val (.int p3), .val (.int p4), .val (.int p5), .val (.int (1 : Int32)), .val (.int (1 : Int32)), .val (.int (1 : Int32)), .val (.int (((p2 &&& (255 : Int32))).toUInt32.toUInt16.toUInt32.toInt32)), .val (.int (((p3 &&& (255 : Int32))).toUInt32.toUInt16.toUInt32.toInt32)), .val (.ref b264), .val (.ref b264), .unset, .unset, .unset, .unset, .unset, .unset, .unset]) rfl k) ?_
        show Own.Fin p e below (T264.setTop (mkF m 79 #[.val (.int p1), .val (.int p2), .val (.int p3), .val (.int p4), .val (.int p5), .val (.int (1 : Int32)), .val (.int (1 : Int32)), .val (.int (1 : Int32)), .val (.int (((p2 &&& (255 : Int32))).toUInt32.toUInt16.toUInt32.toInt32)), .val (.int (((p3 &&& (255 : Int32))).toUInt32.toUInt16.toUInt32.toInt32)), .val (.ref b264), .val (.ref b264), .unset, .unset, .unset, .unset, .unset, .unset, .unset] [])) _
        refine Own.go (fun t k => XS.iload X264.here hx rfl (hb hby at_79) rfl k) ?_
        show Own.Fin p e below (T264.setTop (mkF m 81 #[.val (.int p1), .val (.int p2), .val (.int p3), .val (.int p4), .val (.int p5), .val (.int (1 : Int32)), .val (.int (1 : Int32)), .val (.int (1 : Int32)), .val (.int (((p2 &&& (255 : Int32))).toUInt32.toUInt16.toUInt32.toInt32)), .val (.int (((p3 &&& (255 : Int32))).toUInt32.toUInt16.toUInt32.toInt32)), .val (.ref b264), .val (.ref b264), .unset, .unset, .unset, .unset, .unset, .unset, .unset] [(.int (1 : Int32))])) _
        have hc81_265 : ¬ ((1 : Int32) = (0 : Int32)) := by decide
        refine Own.go (fun t k => XS.ifNo X264.here hx rfl (hb hby at_81) rfl ((if0 _ _).trans (feq hc81_265).1) k) ?_
        show Own.Fin p e below (T264.setTop (mkF m 84 #[.val (.int p1), .val (.int p2), .val (.int p3), .val (.int p4), .val (.int p5), .val (.int (1 : Int32)), .val (.int (1 : Int32)), .val (.int (1 : Int32)), .val (.int (((p2 &&& (255 : Int32))).toUInt32.toUInt16.toUInt32.toInt32)), .val (.int (((p3 &&& (255 : Int32))).toUInt32.toUInt16.toUInt32.toInt32)), .val (.ref b264), .val (.ref b264), .unset, .unset, .unset, .unset, .unset, .unset, .unset] [])) _
        refine Own.go (fun t k => XS.iloadN X264.here hx rfl (hb hby at_84) rfl k) ?_
        show Own.Fin p e below (T264.setTop (mkF m 85 #[.val (.int p1), .val (.int p2), .val (.int p3), .val (.int p4), .val (.int p5), .val (.int (1 : Int32)), .val (.int (1 : Int32)), .val (.int (1 : Int32)), .val (.int (((p2 &&& (255 : Int32))).toUInt32.toUInt16.toUInt32.toInt32)), .val (.int (((p3 &&& (255 : Int32))).toUInt32.toUInt16.toUInt32.toInt32)), .val (.ref b264), .val (.ref b264), .unset, .unset, .unset, .unset, .unset, .unset, .unset] [(.int p4)])) _
        refine Own.go (fun t k => XS.goto X264.here hx rfl (pc0 := 85) (pc' := 89) rfl (hb hby at_85) (by decide) (by decide) k) ?_
        show Own.Fin p e below (T264.setTop (mkF m 89 #[.val (.int p1), .val (.int p2), .val (.int p3), .val (.int p4), .val (.int p5), .val (.int (1 : Int32)), .val (.int (1 : Int32)), .val (.int (1 : Int32)), .val (.int (((p2 &&& (255 : Int32))).toUInt32.toUInt16.toUInt32.toInt32)), .val (.int (((p3 &&& (255 : Int32))).toUInt32.toUInt16.toUInt32.toInt32)), .val (.ref b264), .val (.ref b264), .unset, .unset, .unset, .unset, .unset, .unset, .unset] [(.int p4)])) _
        refine Own.go (fun t k => XS.istore X264.here hx rfl (hb hby at_89) rfl (l' := #[.val (.int p1), .val (.int p2), .val (.int p3), .val (.int p4), .val (.int p5), .val (.int (1 : Int32)), .val (.int (1 : Int32)), .val (.int (1 : Int32)), .val (.int (((p2 &&& (255 : Int32))).toUInt32.toUInt16.toUInt32.toInt32)), .val (.int (((p3 &&& (255 : Int32))).toUInt32.toUInt16.toUInt32.toInt32)), .val (.ref b264), .val (.ref b264), .val (.int p4), .unset, .unset, .unset, .unset, .unset, .unset]) rfl k) ?_
        show Own.Fin p e below (T264.setTop (mkF m 91 #[.val (.int p1), .val (.int p2), .val (.int p3), .val (.int p4), .val (.int p5), .val (.int (1 : Int32)), .val (.int (1 : Int32)), .val (.int (1 : Int32)), .val (.int (((p2 &&& (255 : Int32))).toUInt32.toUInt16.toUInt32.toInt32)), .val (.int (((p3 &&& (255 : Int32))).toUInt32.toUInt16.toUInt32.toInt32)), .val (.ref b264), .val (.ref b264), .val (.int p4), .unset, .unset, .unset, .unset, .unset, .unset] [])) _
        obtain ⟨T267, h267, X267, e267, E267, A267, D267, -, st267⟩ := newO X264 hx hZ hown (hw _ (List.mem_of_getElem? (i := 26) rfl)) (hw _ (List.mem_of_getElem? (i := 27) rfl)) (hw _ (List.mem_of_getElem? (i := 28) rfl)) rfl (g := (mkF m 91 #[.val (.int p1), .val (.int p2), .val (.int p3), .val (.int p4), .val (.int p5), .val (.int (1 : Int32)), .val (.int (1 : Int32)), .val (.int (1 : Int32)), .val (.int (((p2 &&& (255 : Int32))).toUInt32.toUInt16.toUInt32.toInt32)), .val (.int (((p3 &&& (255 : Int32))).toUInt32.toUInt16.toUInt32.toInt32)), .val (.ref b264), .val (.ref b264), .val (.int p4), .unset, .unset, .unset, .unset, .unset, .unset] [])) rfl (hb hby at_91) (by decide) (by decide)
        obtain ⟨b267, gb267⟩ : ∃ z, z = T264.heap.size := ⟨_, rfl⟩
        rw [← gb267] at A267 D267 st267
        refine Own.go st267 ?_
        have ge267 : n0 ≤ b267 := by rw [gb267]; exact Z264
        have Z267 : n0 ≤ h267.size := Nat.le_trans Z264 E267.1
        have O267 := O264.ext E267
        have fl268 : Fld Z h267 b267 "com/example/arachne/arachne/Node" "id" "Ljava/lang/String;" .null := D267 (Or.inr (hw _ (List.mem_of_getElem? (i := 34) rfl))) (ty := (.object "java/lang/String")) (by decide)
        have fl269 : Fld Z h267 b267 "com/example/arachne/arachne/Node" "size" "Lcom/example/arachne/arachne/NodeSize;" .null := D267 (Or.inr (hw _ (List.mem_of_getElem? (i := 36) rfl))) (ty := (.object "com/example/arachne/arachne/NodeSize")) (by decide)
        have fl270 : Fld Z h267 b267 "com/example/arachne/arachne/Node" "label" "Ljava/lang/String;" .null := D267 (Or.inr (hw _ (List.mem_of_getElem? (i := 38) rfl))) (ty := (.object "java/lang/String")) (by decide)
        have fl271 : Fld Z h267 b267 "com/example/arachne/arachne/Node" "pin" "Lcom/example/arachne/arachne/Point;" .null := D267 (Or.inr (hw _ (List.mem_of_getElem? (i := 40) rfl))) (ty := (.object "com/example/arachne/arachne/Point")) (by decide)
        have fl272 : Fld Z h267 b267 "com/example/arachne/arachne/Node" "index" "I" (.int (0 : Int32)) := D267 (Or.inr (hw _ (List.mem_of_getElem? (i := 42) rfl))) (ty := .int) (by decide)
        show Own.Fin p e below (T267.setTop (mkF m 94 #[.val (.int p1), .val (.int p2), .val (.int p3), .val (.int p4), .val (.int p5), .val (.int (1 : Int32)), .val (.int (1 : Int32)), .val (.int (1 : Int32)), .val (.int (((p2 &&& (255 : Int32))).toUInt32.toUInt16.toUInt32.toInt32)), .val (.int (((p3 &&& (255 : Int32))).toUInt32.toUInt16.toUInt32.toInt32)), .val (.ref b264), .val (.ref b264), .val (.int p4), .unset, .unset, .unset, .unset, .unset, .unset] [(.ref b267)])) _
        refine Own.go (fun t k => XS.dup X267.here hx rfl (hb hby at_94) rfl rfl k) ?_
        show Own.Fin p e below (T267.setTop (mkF m 95 #[.val (.int p1), .val (.int p2), .val (.int p3), .val (.int p4), .val (.int p5), .val (.int (1 : Int32)), .val (.int (1 : Int32)), .val (.int (1 : Int32)), .val (.int (((p2 &&& (255 : Int32))).toUInt32.toUInt16.toUInt32.toInt32)), .val (.int (((p3 &&& (255 : Int32))).toUInt32.toUInt16.toUInt32.toInt32)), .val (.ref b264), .val (.ref b264), .val (.int p4), .unset, .unset, .unset, .unset, .unset, .unset] [(.ref b267), (.ref b267)])) _
        refine Own.go (fun t k => XS.aload X267.here hx rfl (hb hby at_95) rfl rfl k) ?_
        show Own.Fin p e below (T267.setTop (mkF m 97 #[.val (.int p1), .val (.int p2), .val (.int p3), .val (.int p4), .val (.int p5), .val (.int (1 : Int32)), .val (.int (1 : Int32)), .val (.int (1 : Int32)), .val (.int (((p2 &&& (255 : Int32))).toUInt32.toUInt16.toUInt32.toInt32)), .val (.int (((p3 &&& (255 : Int32))).toUInt32.toUInt16.toUInt32.toInt32)), .val (.ref b264), .val (.ref b264), .val (.int p4), .unset, .unset, .unset, .unset, .unset, .unset] [(.ref b264), (.ref b267), (.ref b267)])) _
        refine Own.go (fun t k => XS.aconstNull X267.here hx rfl (hb hby at_97) k) ?_
        show Own.Fin p e below (T267.setTop (mkF m 98 #[.val (.int p1), .val (.int p2), .val (.int p3), .val (.int p4), .val (.int p5), .val (.int (1 : Int32)), .val (.int (1 : Int32)), .val (.int (1 : Int32)), .val (.int (((p2 &&& (255 : Int32))).toUInt32.toUInt16.toUInt32.toInt32)), .val (.int (((p3 &&& (255 : Int32))).toUInt32.toUInt16.toUInt32.toInt32)), .val (.ref b264), .val (.ref b264), .val (.int p4), .unset, .unset, .unset, .unset, .unset, .unset] [.null, (.ref b264), (.ref b267), (.ref b267)])) _
        refine Own.go (fun t k => XS.aload X267.here hx rfl (hb hby at_98) rfl rfl k) ?_
        show Own.Fin p e below (T267.setTop (mkF m 100 #[.val (.int p1), .val (.int p2), .val (.int p3), .val (.int p4), .val (.int p5), .val (.int (1 : Int32)), .val (.int (1 : Int32)), .val (.int (1 : Int32)), .val (.int (((p2 &&& (255 : Int32))).toUInt32.toUInt16.toUInt32.toInt32)), .val (.int (((p3 &&& (255 : Int32))).toUInt32.toUInt16.toUInt32.toInt32)), .val (.ref b264), .val (.ref b264), .val (.int p4), .unset, .unset, .unset, .unset, .unset, .unset] [(.ref b264), .null, (.ref b264), (.ref b267), (.ref b267)])) _
        refine Own.go (fun t k => XS.aconstNull X267.here hx rfl (hb hby at_100) k) ?_
        show Own.Fin p e below (T267.setTop (mkF m 101 #[.val (.int p1), .val (.int p2), .val (.int p3), .val (.int p4), .val (.int p5), .val (.int (1 : Int32)), .val (.int (1 : Int32)), .val (.int (1 : Int32)), .val (.int (((p2 &&& (255 : Int32))).toUInt32.toUInt16.toUInt32.toInt32)), .val (.int (((p3 &&& (255 : Int32))).toUInt32.toUInt16.toUInt32.toInt32)), .val (.ref b264), .val (.ref b264), .val (.int p4), .unset, .unset, .unset, .unset, .unset, .unset] [.null, (.ref b264), .null, (.ref b264), (.ref b267), (.ref b267)])) _
        refine Own.go (fun t k => XS.iloadN X267.here hx rfl (hb hby at_101) rfl k) ?_
        show Own.Fin p e below (T267.setTop (mkF m 102 #[.val (.int p1), .val (.int p2), .val (.int p3), .val (.int p4), .val (.int p5), .val (.int (1 : Int32)), .val (.int (1 : Int32)), .val (.int (1 : Int32)), .val (.int (((p2 &&& (255 : Int32))).toUInt32.toUInt16.toUInt32.toInt32)), .val (.int (((p3 &&& (255 : Int32))).toUInt32.toUInt16.toUInt32.toInt32)), .val (.ref b264), .val (.ref b264), .val (.int p4), .unset, .unset, .unset, .unset, .unset, .unset] [(.int p4), .null, (.ref b264), .null, (.ref b264), (.ref b267), (.ref b267)])) _
        refine Own.cI X267 hx hZ rfl hown (hw _ (List.mem_of_getElem? (i := 29) rfl)) (hw _ (List.mem_of_getElem? (i := 30) rfl)) (hw _ (List.mem_of_getElem? (i := 28) rfl)) (hw _ (List.mem_of_getElem? (i := 31) rfl)) (by decide) (rm6 l Z a0 hw [] b267 b264 b264 p4 h267 n0 Z267 A267 fl268 fl269 fl270 fl271 fl272 ge267) (by decide) (W := 1) (by decide) (argsL := [(.ref b264), .null, (.ref b264), .null, (.int p4)]) (rest := [(.ref b267)]) (by rw [hml]; rfl) (lenOf pd_4 rfl) rfl (Nat.le_of_eq rfl) (hb hby at_102) e267 (by decide) (by decide) ?_
        intro T273 L273 v273 X273 hQ273
        obtain ⟨rfl, N273q, K273q⟩ := hQ273
        have N273 := Fr.app N264 N273q
        have f274 := A267.keep K273q
        have Z273 : n0 ≤ T273.heap.size := Nat.le_trans Z267 K273q.1
        have O273 := O267.keep K273q (allS ge267 all0)
        show Own.Fin p e below (T273.setTop (mkF m 105 #[.val (.int p1), .val (.int p2), .val (.int p3), .val (.int p4), .val (.int p5), .val (.int (1 : Int32)), .val (.int (1 : Int32)), .val (.int (1 : Int32)), .val (.int (((p2 &&& (255 : Int32))).toUInt32.toUInt16.toUInt32.toInt32)), .val (.int (((p3 &&& (255 : Int32))).toUInt32.toUInt16.toUInt32.toInt32)), .val (.ref b264), .val (.ref b264), .val (.int p4), .unset, .unset, .unset, .unset, .unset, .unset] [(.ref b267)])) _
        refine Own.go (fun t k => XS.astore X273.here hx rfl (hb hby at_105) rfl rfl (l' := #[.val (.int p1), .val (.int p2), .val (.int p3), .val (.int p4), .val (.int p5), .val (.int (1 : Int32)), .val (.int (1 : Int32)), .val (.int (1 : Int32)), .val (.int (((p2 &&& (255 : Int32))).toUInt32.toUInt16.toUInt32.toInt32)), .val (.int (((p3 &&& (255 : Int32))).toUInt32.toUInt16.toUInt32.toInt32)), .val (.ref b264), .val (.ref b264), .val (.int p4), .val (.ref b267), .unset, .unset, .unset, .unset, .unset]) rfl k) ?_
        show Own.Fin p e below (T273.setTop (mkF m 107 #[.val (.int p1), .val (.int p2), .val (.int p3), .val (.int p4), .val (.int p5), .val (.int (1 : Int32)), .val (.int (1 : Int32)), .val (.int (1 : Int32)), .val (.int (((p2 &&& (255 : Int32))).toUInt32.toUInt16.toUInt32.toInt32)), .val (.int (((p3 &&& (255 : Int32))).toUInt32.toUInt16.toUInt32.toInt32)), .val (.ref b264), .val (.ref b264), .val (.int p4), .val (.ref b267), .unset, .unset, .unset, .unset, .unset] [])) _
        obtain ⟨T275, h275, X275, e275, E275, A275, D275, -, st275⟩ := newO X273 hx hZ hown (hw _ (List.mem_of_getElem? (i := 26) rfl)) (hw _ (List.mem_of_getElem? (i := 27) rfl)) (hw _ (List.mem_of_getElem? (i := 28) rfl)) rfl (g := (mkF m 107 #[.val (.int p1), .val (.int p2), .val (.int p3), .val (.int p4), .val (.int p5), .val (.int (1 : Int32)), .val (.int (1 : Int32)), .val (.int (1 : Int32)), .val (.int (((p2 &&& (255 : Int32))).toUInt32.toUInt16.toUInt32.toInt32)), .val (.int (((p3 &&& (255 : Int32))).toUInt32.toUInt16.toUInt32.toInt32)), .val (.ref b264), .val (.ref b264), .val (.int p4), .val (.ref b267), .unset, .unset, .unset, .unset, .unset] [])) rfl (hb hby at_107) (by decide) (by decide)
        obtain ⟨b275, gb275⟩ : ∃ z, z = T273.heap.size := ⟨_, rfl⟩
        rw [← gb275] at A275 D275 st275
        refine Own.go st275 ?_
        have ge275 : n0 ≤ b275 := by rw [gb275]; exact Z273
        have ne275_b267 : b267 ≠ b275 := Nat.ne_of_lt (Nat.lt_of_lt_of_le f274.lt (Nat.le_of_eq gb275.symm))
        have Z275 : n0 ≤ h275.size := Nat.le_trans Z273 E275.1
        have f276 := f274.ext E275
        have O275 := O273.ext E275
        have fl277 : Fld Z h275 b275 "com/example/arachne/arachne/Node" "id" "Ljava/lang/String;" .null := D275 (Or.inr (hw _ (List.mem_of_getElem? (i := 34) rfl))) (ty := (.object "java/lang/String")) (by decide)
        have fl278 : Fld Z h275 b275 "com/example/arachne/arachne/Node" "size" "Lcom/example/arachne/arachne/NodeSize;" .null := D275 (Or.inr (hw _ (List.mem_of_getElem? (i := 36) rfl))) (ty := (.object "com/example/arachne/arachne/NodeSize")) (by decide)
        have fl279 : Fld Z h275 b275 "com/example/arachne/arachne/Node" "label" "Ljava/lang/String;" .null := D275 (Or.inr (hw _ (List.mem_of_getElem? (i := 38) rfl))) (ty := (.object "java/lang/String")) (by decide)
        have fl280 : Fld Z h275 b275 "com/example/arachne/arachne/Node" "pin" "Lcom/example/arachne/arachne/Point;" .null := D275 (Or.inr (hw _ (List.mem_of_getElem? (i := 40) rfl))) (ty := (.object "com/example/arachne/arachne/Point")) (by decide)
        have fl281 : Fld Z h275 b275 "com/example/arachne/arachne/Node" "index" "I" (.int (0 : Int32)) := D275 (Or.inr (hw _ (List.mem_of_getElem? (i := 42) rfl))) (ty := .int) (by decide)
        show Own.Fin p e below (T275.setTop (mkF m 110 #[.val (.int p1), .val (.int p2), .val (.int p3), .val (.int p4), .val (.int p5), .val (.int (1 : Int32)), .val (.int (1 : Int32)), .val (.int (1 : Int32)), .val (.int (((p2 &&& (255 : Int32))).toUInt32.toUInt16.toUInt32.toInt32)), .val (.int (((p3 &&& (255 : Int32))).toUInt32.toUInt16.toUInt32.toInt32)), .val (.ref b264), .val (.ref b264), .val (.int p4), .val (.ref b267), .unset, .unset, .unset, .unset, .unset] [(.ref b275)])) _
        refine Own.go (fun t k => XS.dup X275.here hx rfl (hb hby at_110) rfl rfl k) ?_
        show Own.Fin p e below (T275.setTop (mkF m 111 #[.val (.int p1), .val (.int p2), .val (.int p3), .val (.int p4), .val (.int p5), .val (.int (1 : Int32)), .val (.int (1 : Int32)), .val (.int (1 : Int32)), .val (.int (((p2 &&& (255 : Int32))).toUInt32.toUInt16.toUInt32.toInt32)), .val (.int (((p3 &&& (255 : Int32))).toUInt32.toUInt16.toUInt32.toInt32)), .val (.ref b264), .val (.ref b264), .val (.int p4), .val (.ref b267), .unset, .unset, .unset, .unset, .unset] [(.ref b275), (.ref b275)])) _
        refine Own.go (fun t k => XS.aload X275.here hx rfl (hb hby at_111) rfl rfl k) ?_
        show Own.Fin p e below (T275.setTop (mkF m 113 #[.val (.int p1), .val (.int p2), .val (.int p3), .val (.int p4), .val (.int p5), .val (.int (1 : Int32)), .val (.int (1 : Int32)), .val (.int (1 : Int32)), .val (.int (((p2 &&& (255 : Int32))).toUInt32.toUInt16.toUInt32.toInt32)), .val (.int (((p3 &&& (255 : Int32))).toUInt32.toUInt16.toUInt32.toInt32)), .val (.ref b264), .val (.ref b264), .val (.int p4), .val (.ref b267), .unset, .unset, .unset, .unset, .unset] [(.ref b264), (.ref b275), (.ref b275)])) _
        refine Own.go (fun t k => XS.aconstNull X275.here hx rfl (hb hby at_113) k) ?_
        show Own.Fin p e below (T275.setTop (mkF m 114 #[.val (.int p1), .val (.int p2), .val (.int p3), .val (.int p4), .val (.int p5), .val (.int (1 : Int32)), .val (.int (1 : Int32)), .val (.int (1 : Int32)), .val (.int (((p2 &&& (255 : Int32))).toUInt32.toUInt16.toUInt32.toInt32)), .val (.int (((p3 &&& (255 : Int32))).toUInt32.toUInt16.toUInt32.toInt32)), .val (.ref b264), .val (.ref b264), .val (.int p4), .val (.ref b267), .unset, .unset, .unset, .unset, .unset] [.null, (.ref b264), (.ref b275), (.ref b275)])) _
        refine Own.go (fun t k => XS.aload X275.here hx rfl (hb hby at_114) rfl rfl k) ?_
        show Own.Fin p e below (T275.setTop (mkF m 116 #[.val (.int p1), .val (.int p2), .val (.int p3), .val (.int p4), .val (.int p5), .val (.int (1 : Int32)), .val (.int (1 : Int32)), .val (.int (1 : Int32)), .val (.int (((p2 &&& (255 : Int32))).toUInt32.toUInt16.toUInt32.toInt32)), .val (.int (((p3 &&& (255 : Int32))).toUInt32.toUInt16.toUInt32.toInt32)), .val (.ref b264), .val (.ref b264), .val (.int p4), .val (.ref b267), .unset, .unset, .unset, .unset, .unset] [(.ref b264), .null, (.ref b264), (.ref b275), (.ref b275)])) _
        refine Own.go (fun t k => XS.aconstNull X275.here hx rfl (hb hby at_116) k) ?_
        show Own.Fin p e below (T275.setTop (mkF m 117 #[.val (.int p1), .val (.int p2), .val (.int p3), .val (.int p4), .val (.int p5), .val (.int (1 : Int32)), .val (.int (1 : Int32)), .val (.int (1 : Int32)), .val (.int (((p2 &&& (255 : Int32))).toUInt32.toUInt16.toUInt32.toInt32)), .val (.int (((p3 &&& (255 : Int32))).toUInt32.toUInt16.toUInt32.toInt32)), .val (.ref b264), .val (.ref b264), .val (.int p4), .val (.ref b267), .unset, .unset, .unset, .unset, .unset] [.null, (.ref b264), .null, (.ref b264), (.ref b275), (.ref b275)])) _
        refine Own.go (fun t k => XS.iload X275.here hx rfl (hb hby at_117) rfl k) ?_
        show Own.Fin p e below (T275.setTop (mkF m 119 #[.val (.int p1), .val (.int p2), .val (.int p3), .val (.int p4), .val (.int p5), .val (.int (1 : Int32)), .val (.int (1 : Int32)), .val (.int (1 : Int32)), .val (.int (((p2 &&& (255 : Int32))).toUInt32.toUInt16.toUInt32.toInt32)), .val (.int (((p3 &&& (255 : Int32))).toUInt32.toUInt16.toUInt32.toInt32)), .val (.ref b264), .val (.ref b264), .val (.int p4), .val (.ref b267), .unset, .unset, .unset, .unset, .unset] [(.int p4), .null, (.ref b264), .null, (.ref b264), (.ref b275), (.ref b275)])) _
        refine Own.cI X275 hx hZ rfl hown (hw _ (List.mem_of_getElem? (i := 29) rfl)) (hw _ (List.mem_of_getElem? (i := 30) rfl)) (hw _ (List.mem_of_getElem? (i := 28) rfl)) (hw _ (List.mem_of_getElem? (i := 31) rfl)) (by decide) (rm6 l Z a0 hw [] b275 b264 b264 p4 h275 n0 Z275 A275 fl277 fl278 fl279 fl280 fl281 ge275) (by decide) (W := 1) (by decide) (argsL := [(.ref b264), .null, (.ref b264), .null, (.int p4)]) (rest := [(.ref b275)]) (by rw [hml]; rfl) (lenOf pd_4 rfl) rfl (Nat.le_of_eq rfl) (hb hby at_119) e275 (by decide) (by decide) ?_
        intro T282 L282 v282 X282 hQ282
        obtain ⟨rfl, N282q, K282q⟩ := hQ282
        have N282 := Fr.app N273 N282q
        have f283 := f276.keep K282q
        have f284 := A275.keep K282q
        have Z282 : n0 ≤ T282.heap.size := Nat.le_trans Z275 K282q.1
        have O282 := O275.keep K282q (allS ge275 all0)
        show Own.Fin p e below (T282.setTop (mkF m 122 #[.val (.int p1), .val (.int p2), .val (.int p3), .val (.int p4), .val (.int p5), .val (.int (1 : Int32)), .val (.int (1 : Int32)), .val (.int (1 : Int32)), .val (.int (((p2 &&& (255 : Int32))).toUInt32.toUInt16.toUInt32.toInt32)), .val (.int (((p3 &&& (255 : Int32))).toUInt32.toUInt16.toUInt32.toInt32)), .val (.ref b264), .val (.ref b264), .val (.int p4), .val (.ref b267), .unset, .unset, .unset, .unset, .unset] [(.ref b275)])) _
        refine Own.go (fun t k => XS.astore X282.here hx rfl (hb hby at_122) rfl rfl (l' := #[.val (.int p1), .val (.int p2), .val (.int p3), .val (.int p4), .val (.int p5), .val (.int (1 : Int32)), .val (.int (1 : Int32)), .val (.int (1 : Int32)), .val (.int (((p2 &&& (255 : Int32))).toUInt32.toUInt16.toUInt32.toInt32)), .val (.int (((p3 &&& (255 : Int32))).toUInt32.toUInt16.toUInt32.toInt32)), .val (.ref b264), .val (.ref b264), .val (.int p4), .val (.ref b267), .val (.ref b275), .unset, .unset, .unset, .unset]) rfl k) ?_
        show Own.Fin p e below (T282.setTop (mkF m 124 #[.val (.int p1), .val (.int p2), .val (.int p3), .val (.int p4), .val (.int p5), .val (.int (1 : Int32)), .val (.int (1 : Int32)), .val (.int (1 : Int32)), .val (.int (((p2 &&& (255 : Int32))).toUInt32.toUInt16.toUInt32.toInt32)), .val (.int (((p3 &&& (255 : Int32))).toUInt32.toUInt16.toUInt32.toInt32)), .val (.ref b264), .val (.ref b264), .val (.int p4), .val (.ref b267), .val (.ref b275), .unset, .unset, .unset, .unset] [])) _
        refine Own.go (fun t k => XS.iload X282.here hx rfl (hb hby at_124) rfl k) ?_
        show Own.Fin p e below (T282.setTop (mkF m 126 #[.val (.int p1), .val (.int p2), .val (.int p3), .val (.int p4), .val (.int p5), .val (.int (1 : Int32)), .val (.int (1 : Int32)), .val (.int (1 : Int32)), .val (.int (((p2 &&& (255 : Int32))).toUInt32.toUInt16.toUInt32.toInt32)), .val (.int (((p3 &&& (255 : Int32))).toUInt32.toUInt16.toUInt32.toInt32)), .val (.ref b264), .val (.ref b264), .val (.int p4), .val (.ref b267), .val (.ref b275), .unset, .unset, .unset, .unset] [(.int (1 : Int32))])) _
        have hc126_284 : ¬ ((1 : Int32) = (0 : Int32)) := by decide
        refine Own.go (fun t k => XS.ifNo X282.here hx rfl (hb hby at_126) rfl ((if0 _ _).trans (feq hc126_284).1) k) ?_
        show Own.Fin p e below (T282.setTop (mkF m 129 #[.val (.int p1), .val (.int p2), .val (.int p3), .val (.int p4), .val (.int p5), .val (.int (1 : Int32)), .val (.int (1 : Int32)), .val (.int (1 : Int32)), .val (.int (((p2 &&& (255 : Int32))).toUInt32.toUInt16.toUInt32.toInt32)), .val (.int (((p3 &&& (255 : Int32))).toUInt32.toUInt16.toUInt32.toInt32)), .val (.ref b264), .val (.ref b264), .val (.int p4), .val (.ref b267), .val (.ref b275), .unset, .unset, .unset, .unset] [])) _
        refine Own.go (fun t k => XS.aload X282.here hx rfl (hb hby at_129) rfl rfl k) ?_
        show Own.Fin p e below (T282.setTop (mkF m 131 #[.val (.int p1), .val (.int p2), .val (.int p3), .val (.int p4), .val (.int p5), .val (.int (1 : Int32)), .val (.int (1 : Int32)), .val (.int (1 : Int32)), .val (.int (((p2 &&& (255 : Int32))).toUInt32.toUInt16.toUInt32.toInt32)), .val (.int (((p3 &&& (255 : Int32))).toUInt32.toUInt16.toUInt32.toInt32)), .val (.ref b264), .val (.ref b264), .val (.int p4), .val (.ref b267), .val (.ref b275), .unset, .unset, .unset, .unset] [(.ref b275)])) _
        refine Own.go (fun t k => XS.goto X282.here hx rfl (pc0 := 131) (pc' := 136) rfl (hb hby at_131) (by decide) (by decide) k) ?_
        show Own.Fin p e below (T282.setTop (mkF m 136 #[.val (.int p1), .val (.int p2), .val (.int p3), .val (.int p4), .val (.int p5), .val (.int (1 : Int32)), .val (.int (1 : Int32)), .val (.int (1 : Int32)), .val (.int (((p2 &&& (255 : Int32))).toUInt32.toUInt16.toUInt32.toInt32)), .val (.int (((p3 &&& (255 : Int32))).toUInt32.toUInt16.toUInt32.toInt32)), .val (.ref b264), .val (.ref b264), .val (.int p4), .val (.ref b267), .val (.ref b275), .unset, .unset, .unset, .unset] [(.ref b275)])) _
        refine Own.go (fun t k => XS.astore X282.here hx rfl (hb hby at_136) rfl rfl (l' := #[.val (.int p1), .val (.int p2), .val (.int p3), .val (.int p4), .val (.int p5), .val (.int (1 : Int32)), .val (.int (1 : Int32)), .val (.int (1 : Int32)), .val (.int (((p2 &&& (255 : Int32))).toUInt32.toUInt16.toUInt32.toInt32)), .val (.int (((p3 &&& (255 : Int32))).toUInt32.toUInt16.toUInt32.toInt32)), .val (.ref b264), .val (.ref b264), .val (.int p4), .val (.ref b267), .val (.ref b275), .val (.ref b275), .unset, .unset, .unset]) rfl k) ?_
        show Own.Fin p e below (T282.setTop (mkF m 138 #[.val (.int p1), .val (.int p2), .val (.int p3), .val (.int p4), .val (.int p5), .val (.int (1 : Int32)), .val (.int (1 : Int32)), .val (.int (1 : Int32)), .val (.int (((p2 &&& (255 : Int32))).toUInt32.toUInt16.toUInt32.toInt32)), .val (.int (((p3 &&& (255 : Int32))).toUInt32.toUInt16.toUInt32.toInt32)), .val (.ref b264), .val (.ref b264), .val (.int p4), .val (.ref b267), .val (.ref b275), .val (.ref b275), .unset, .unset, .unset] [])) _
        refine Own.go (fun t k => XS.iload X282.here hx rfl (hb hby at_138) rfl k) ?_
        show Own.Fin p e below (T282.setTop (mkF m 140 #[.val (.int p1), .val (.int p2), .val (.int p3), .val (.int p4), .val (.int p5), .val (.int (1 : Int32)), .val (.int (1 : Int32)), .val (.int (1 : Int32)), .val (.int (((p2 &&& (255 : Int32))).toUInt32.toUInt16.toUInt32.toInt32)), .val (.int (((p3 &&& (255 : Int32))).toUInt32.toUInt16.toUInt32.toInt32)), .val (.ref b264), .val (.ref b264), .val (.int p4), .val (.ref b267), .val (.ref b275), .val (.ref b275), .unset, .unset, .unset] [(.int (1 : Int32))])) _
        have hc140_285 : ¬ ((1 : Int32) = (0 : Int32)) := by decide
        refine Own.go (fun t k => XS.ifNo X282.here hx rfl (hb hby at_140) rfl ((if0 _ _).trans (feq hc140_285).1) k) ?_
        show Own.Fin p e below (T282.setTop (mkF m 143 #[.val (.int p1), .val (.int p2), .val (.int p3), .val (.int p4), .val (.int p5), .val (.int (1 : Int32)), .val (.int (1 : Int32)), .val (.int (1 : Int32)), .val (.int (((p2 &&& (255 : Int32))).toUInt32.toUInt16.toUInt32.toInt32)), .val (.int (((p3 &&& (255 : Int32))).toUInt32.toUInt16.toUInt32.toInt32)), .val (.ref b264), .val (.ref b264), .val (.int p4), .val (.ref b267), .val (.ref b275), .val (.ref b275), .unset, .unset, .unset] [])) _
        refine Own.go (fun t k => XS.aload X282.here hx rfl (hb hby at_143) rfl rfl k) ?_
        show Own.Fin p e below (T282.setTop (mkF m 145 #[.val (.int p1), .val (.int p2), .val (.int p3), .val (.int p4), .val (.int p5), .val (.int (1 : Int32)), .val (.int (1 : Int32)), .val (.int (1 : Int32)), .val (.int (((p2 &&& (255 : Int32))).toUInt32.toUInt16.toUInt32.toInt32)), .val (.int (((p3 &&& (255 : Int32))).toUInt32.toUInt16.toUInt32.toInt32)), .val (.ref b264), .val (.ref b264), .val (.int p4), .val (.ref b267), .val (.ref b275), .val (.ref b275), .unset, .unset, .unset] [(.ref b275)])) _
        refine Own.go (fun t k => XS.goto X282.here hx rfl (pc0 := 145) (pc' := 150) rfl (hb hby at_145) (by decide) (by decide) k) ?_
        show Own.Fin p e below (T282.setTop (mkF m 150 #[.val (.int p1), .val (.int p2), .val (.int p3), .val (.int p4), .val (.int p5), .val (.int (1 : Int32)), .val (.int (1 : Int32)), .val (.int (1 : Int32)), .val (.int (((p2 &&& (255 : Int32))).toUInt32.toUInt16.toUInt32.toInt32)), .val (.int (((p3 &&& (255 : Int32))).toUInt32.toUInt16.toUInt32.toInt32)), .val (.ref b264), .val (.ref b264), .val (.int p4), .val (.ref b267), .val (.ref b275), .val (.ref b275), .unset, .unset, .unset] [(.ref b275)])) _
        refine Own.go (fun t k => XS.astore X282.here hx rfl (hb hby at_150) rfl rfl (l' := #[.val (.int p1), .val (.int p2), .val (.int p3), .val (.int p4), .val (.int p5), .val (.int (1 : Int32)), .val (.int (1 : Int32)), .val (.int (1 : Int32)), .val (.int (((p2 &&& (255 : Int32))).toUInt32.toUInt16.toUInt32.toInt32)), .val (.int (((p3 &&& (255 : Int32))).toUInt32.toUInt16.toUInt32.toInt32)), .val (.ref b264), .val (.ref b264), .val (.int p4), .val (.ref b267), .val (.ref b275), .val (.ref b275), .val (.ref b275), .unset, .unset]) rfl k) ?_
        show Own.Fin p e below (T282.setTop (mkF m 152 #[.val (.int p1), .val (.int p2), .val (.int p3), .val (.int p4), .val (.int p5), .val (.int (1 : Int32)), .val (.int (1 : Int32)), .val (.int (1 : Int32)), .val (.int (((p2 &&& (255 : Int32))).toUInt32.toUInt16.toUInt32.toInt32)), .val (.int (((p3 &&& (255 : Int32))).toUInt32.toUInt16.toUInt32.toInt32)), .val (.ref b264), .val (.ref b264), .val (.int p4), .val (.ref b267), .val (.ref b275), .val (.ref b275), .val (.ref b275), .unset, .unset] [])) _
        obtain ⟨T287, h287, X287, e287, E287, A287, D287, -, st287⟩ := newO X282 hx hZ hown (hw _ (List.mem_of_getElem? (i := 43) rfl)) (hw _ (List.mem_of_getElem? (i := 44) rfl)) (hw _ (List.mem_of_getElem? (i := 45) rfl)) rfl (g := (mkF m 152 #[.val (.int p1), .val (.int p2), .val (.int p3), .val (.int p4), .val (.int p5), .val (.int (1 : Int32)), .val (.int (1 : Int32)), .val (.int (1 : Int32)), .val (.int (((p2 &&& (255 : Int32))).toUInt32.toUInt16.toUInt32.toInt32)), .val (.int (((p3 &&& (255 : Int32))).toUInt32.toUInt16.toUInt32.toInt32)), .val (.ref b264), .val (.ref b264), .val (.int p4), .val (.ref b267), .val (.ref b275), .val (.ref b275), .val (.ref b275), .unset, .unset] [])) rfl (hb hby at_152) (by decide) (by decide)
        obtain ⟨b287, gb287⟩ : ∃ z, z = T282.heap.size := ⟨_, rfl⟩
        rw [← gb287] at A287 D287 st287
        refine Own.go st287 ?_
        have ge287 : n0 ≤ b287 := by rw [gb287]; exact Z282
        have ne287_b267 : b267 ≠ b287 := Nat.ne_of_lt (Nat.lt_of_lt_of_le f283.lt (Nat.le_of_eq gb287.symm))
        have ne287_b275 : b275 ≠ b287 := Nat.ne_of_lt (Nat.lt_of_lt_of_le f284.lt (Nat.le_of_eq gb287.symm))
        have Z287 : n0 ≤ h287.size := Nat.le_trans Z282 E287.1
        have f288 := f283.ext E287
        have f289 := f284.ext E287
        have O287 := O282.ext E287
        have fl290 : Fld Z h287 b287 "com/example/arachne/arachne/Edge" "source" "Lcom/example/arachne/arachne/Node;" .null := D287 (Or.inr (hw _ (List.mem_of_getElem? (i := 51) rfl))) (ty := (.object "com/example/arachne/arachne/Node")) (by decide)
        have fl291 : Fld Z h287 b287 "com/example/arachne/arachne/Edge" "target" "Lcom/example/arachne/arachne/Node;" .null := D287 (Or.inr (hw _ (List.mem_of_getElem? (i := 53) rfl))) (ty := (.object "com/example/arachne/arachne/Node")) (by decide)
        have fl292 : Fld Z h287 b287 "com/example/arachne/arachne/Edge" "index" "I" (.int (0 : Int32)) := D287 (Or.inr (hw _ (List.mem_of_getElem? (i := 55) rfl))) (ty := .int) (by decide)
        show Own.Fin p e below (T287.setTop (mkF m 155 #[.val (.int p1), .val (.int p2), .val (.int p3), .val (.int p4), .val (.int p5), .val (.int (1 : Int32)), .val (.int (1 : Int32)), .val (.int (1 : Int32)), .val (.int (((p2 &&& (255 : Int32))).toUInt32.toUInt16.toUInt32.toInt32)), .val (.int (((p3 &&& (255 : Int32))).toUInt32.toUInt16.toUInt32.toInt32)), .val (.ref b264), .val (.ref b264), .val (.int p4), .val (.ref b267), .val (.ref b275), .val (.ref b275), .val (.ref b275), .unset, .unset] [(.ref b287)])) _
        refine Own.go (fun t k => XS.dup X287.here hx rfl (hb hby at_155) rfl rfl k) ?_
        show Own.Fin p e below (T287.setTop (mkF m 156 #[.val (.int p1), .val (.int p2), .val (.int p3), .val (.int p4), .val (.int p5), .val (.int (1 : Int32)), .val (.int (1 : Int32)), .val (.int (1 : Int32)), .val (.int (((p2 &&& (255 : Int32))).toUInt32.toUInt16.toUInt32.toInt32)), .val (.int (((p3 &&& (255 : Int32))).toUInt32.toUInt16.toUInt32.toInt32)), .val (.ref b264), .val (.ref b264), .val (.int p4), .val (.ref b267), .val (.ref b275), .val (.ref b275), .val (.ref b275), .unset, .unset] [(.ref b287), (.ref b287)])) _
        refine Own.go (fun t k => XS.aload X287.here hx rfl (hb hby at_156) rfl rfl k) ?_
        show Own.Fin p e below (T287.setTop (mkF m 158 #[.val (.int p1), .val (.int p2), .val (.int p3), .val (.int p4), .val (.int p5), .val (.int (1 : Int32)), .val (.int (1 : Int32)), .val (.int (1 : Int32)), .val (.int (((p2 &&& (255 : Int32))).toUInt32.toUInt16.toUInt32.toInt32)), .val (.int (((p3 &&& (255 : Int32))).toUInt32.toUInt16.toUInt32.toInt32)), .val (.ref b264), .val (.ref b264), .val (.int p4), .val (.ref b267), .val (.ref b275), .val (.ref b275), .val (.ref b275), .unset, .unset] [(.ref b275), (.ref b287), (.ref b287)])) _
        refine Own.go (fun t k => XS.aload X287.here hx rfl (hb hby at_158) rfl rfl k) ?_
        show Own.Fin p e below (T287.setTop (mkF m 160 #[.val (.int p1), .val (.int p2), .val (.int p3), .val (.int p4), .val (.int p5), .val (.int (1 : Int32)), .val (.int (1 : Int32)), .val (.int (1 : Int32)), .val (.int (((p2 &&& (255 : Int32))).toUInt32.toUInt16.toUInt32.toInt32)), .val (.int (((p3 &&& (255 : Int32))).toUInt32.toUInt16.toUInt32.toInt32)), .val (.ref b264), .val (.ref b264), .val (.int p4), .val (.ref b267), .val (.ref b275), .val (.ref b275), .val (.ref b275), .unset, .unset] [(.ref b275), (.ref b275), (.ref b287), (.ref b287)])) _
        refine Own.go (fun t k => XS.iload X287.here hx rfl (hb hby at_160) rfl k) ?_
        show Own.Fin p e below (T287.setTop (mkF m 162 #[.val (.int p1), .val (.int p2), .val (.int p3), .val (.int p4), .val (.int p5), .val (.int (1 : Int32)), .val (.int (1 : Int32)), .val (.int (1 : Int32)), .val (.int (((p2 &&& (255 : Int32))).toUInt32.toUInt16.toUInt32.toInt32)), .val (.int (((p3 &&& (255 : Int32))).toUInt32.toUInt16.toUInt32.toInt32)), .val (.ref b264), .val (.ref b264), .val (.int p4), .val (.ref b267), .val (.ref b275), .val (.ref b275), .val (.ref b275), .unset, .unset] [(.int p5), (.ref b275), (.ref b275), (.ref b287), (.ref b287)])) _
        refine Own.cI X287 hx hZ rfl hown (hw _ (List.mem_of_getElem? (i := 46) rfl)) (hw _ (List.mem_of_getElem? (i := 47) rfl)) (hw _ (List.mem_of_getElem? (i := 45) rfl)) (hw _ (List.mem_of_getElem? (i := 48) rfl)) (by decide) (rm7 l Z a0 hw [] b287 b275 b275 p5 h287 n0 Z287 A287 fl290 fl291 fl292 ge287) (by decide) (W := 1) (by decide) (argsL := [(.ref b275), (.ref b275), (.int p5)]) (rest := [(.ref b287)]) (by rw [hml]; rfl) (lenOf pd_5 rfl) rfl (Nat.le_of_eq rfl) (hb hby at_162) e287 (by decide) (by decide) ?_
        intro T293 L293 v293 X293 hQ293
        obtain ⟨rfl, N293q, K293q, FS293, FT293⟩ := hQ293
        have N293 := Fr.app N282 N293q
        have f294 := f288.keep K293q
        have f295 := f289.keep K293q
        have f296 := A287.keep K293q
        have Z293 : n0 ≤ T293.heap.size := Nat.le_trans Z287 K293q.1
        have O293 := O287.keep K293q (allS ge287 all0)
        show Own.Fin p e below (T293.setTop (mkF m 165 #[.val (.int p1), .val (.int p2), .val (.int p3), .val (.int p4), .val (.int p5), .val (.int (1 : Int32)), .val (.int (1 : Int32)), .val (.int (1 : Int32)), .val (.int (((p2 &&& (255 : Int32))).toUInt32.toUInt16.toUInt32.toInt32)), .val (.int (((p3 &&& (255 : Int32))).toUInt32.toUInt16.toUInt32.toInt32)), .val (.ref b264), .val (.ref b264), .val (.int p4), .val (.ref b267), .val (.ref b275), .val (.ref b275), .val (.ref b275), .unset, .unset] [(.ref b287)])) _
        refine Own.go (fun t k => XS.astore X293.here hx rfl (hb hby at_165) rfl rfl (l' := #[.val (.int p1), .val (.int p2), .val (.int p3), .val (.int p4), .val (.int p5), .val (.int (1 : Int32)), .val (.int (1 : Int32)), .val (.int (1 : Int32)), .val (.int (((p2 &&& (255 : Int32))).toUInt32.toUInt16.toUInt32.toInt32)), .val (.int (((p3 &&& (255 : Int32))).toUInt32.toUInt16.toUInt32.toInt32)), .val (.ref b264), .val (.ref b264), .val (.int p4), .val (.ref b267), .val (.ref b275), .val (.ref b275), .val (.ref b275), .val (.ref b287), .unset]) rfl k) ?_
        show Own.Fin p e below (T293.setTop (mkF m 167 #[.val (.int p1), .val (.int p2), .val (.int p3), .val (.int p4), .val (.int p5), .val (.int (1 : Int32)), .val (.int (1 : Int32)), .val (.int (1 : Int32)), .val (.int (((p2 &&& (255 : Int32))).toUInt32.toUInt16.toUInt32.toInt32)), .val (.int (((p3 &&& (255 : Int32))).toUInt32.toUInt16.toUInt32.toInt32)), .val (.ref b264), .val (.ref b264), .val (.int p4), .val (.ref b267), .val (.ref b275), .val (.ref b275), .val (.ref b275), .val (.ref b287), .unset] [])) _
        refine Own.go (fun t k => XS.iload X293.here hx rfl (hb hby at_167) rfl k) ?_
        show Own.Fin p e below (T293.setTop (mkF m 169 #[.val (.int p1), .val (.int p2), .val (.int p3), .val (.int p4), .val (.int p5), .val (.int (1 : Int32)), .val (.int (1 : Int32)), .val (.int (1 : Int32)), .val (.int (((p2 &&& (255 : Int32))).toUInt32.toUInt16.toUInt32.toInt32)), .val (.int (((p3 &&& (255 : Int32))).toUInt32.toUInt16.toUInt32.toInt32)), .val (.ref b264), .val (.ref b264), .val (.int p4), .val (.ref b267), .val (.ref b275), .val (.ref b275), .val (.ref b275), .val (.ref b287), .unset] [(.int (1 : Int32))])) _
        refine Own.go (fun t k => XS.iload X293.here hx rfl (hb hby at_169) rfl k) ?_
        show Own.Fin p e below (T293.setTop (mkF m 171 #[.val (.int p1), .val (.int p2), .val (.int p3), .val (.int p4), .val (.int p5), .val (.int (1 : Int32)), .val (.int (1 : Int32)), .val (.int (1 : Int32)), .val (.int (((p2 &&& (255 : Int32))).toUInt32.toUInt16.toUInt32.toInt32)), .val (.int (((p3 &&& (255 : Int32))).toUInt32.toUInt16.toUInt32.toInt32)), .val (.ref b264), .val (.ref b264), .val (.int p4), .val (.ref b267), .val (.ref b275), .val (.ref b275), .val (.ref b275), .val (.ref b287), .unset] [(.int (1 : Int32)), (.int (1 : Int32))])) _
        have hc171_296 : (1 : Int32) = (1 : Int32) := by decide
        refine Own.go (fun t k => XS.icmpNo X293.here hx rfl (hb hby at_171) rfl (teq hc171_296).2 k) ?_
        show Own.Fin p e below (T293.setTop (mkF m 174 #[.val (.int p1), .val (.int p2), .val (.int p3), .val (.int p4), .val (.int p5), .val (.int (1 : Int32)), .val (.int (1 : Int32)), .val (.int (1 : Int32)), .val (.int (((p2 &&& (255 : Int32))).toUInt32.toUInt16.toUInt32.toInt32)), .val (.int (((p3 &&& (255 : Int32))).toUInt32.toUInt16.toUInt32.toInt32)), .val (.ref b264), .val (.ref b264), .val (.int p4), .val (.ref b267), .val (.ref b275), .val (.ref b275), .val (.ref b275), .val (.ref b287), .unset] [])) _
        refine Own.go (fun t k => XS.iconst X293.here hx rfl (hb hby at_174) k) ?_
        show Own.Fin p e below (T293.setTop (mkF m 175 #[.val (.int p1), .val (.int p2), .val (.int p3), .val (.int p4), .val (.int p5), .val (.int (1 : Int32)), .val (.int (1 : Int32)), .val (.int (1 : Int32)), .val (.int (((p2 &&& (255 : Int32))).toUInt32.toUInt16.toUInt32.toInt32)), .val (.int (((p3 &&& (255 : Int32))).toUInt32.toUInt16.toUInt32.toInt32)), .val (.ref b264), .val (.ref b264), .val (.int p4), .val (.ref b267), .val (.ref b275), .val (.ref b275), .val (.ref b275), .val (.ref b287), .unset] [(.int (1 : Int32))])) _
        refine Own.go (fun t k => XS.goto X293.here hx rfl (pc0 := 175) (pc' := 179) rfl (hb hby at_175) (by decide) (by decide) k) ?_
        show Own.Fin p e below (T293.setTop (mkF m 179 #[.val (.int p1), .val (.int p2), .val (.int p3), .val (.int p4), .val (.int p5), .val (.int (1 : Int32)), .val (.int (1 : Int32)), .val (.int (1 : Int32)), .val (.int (((p2 &&& (255 : Int32))).toUInt32.toUInt16.toUInt32.toInt32)), .val (.int (((p3 &&& (255 : Int32))).toUInt32.toUInt16.toUInt32.toInt32)), .val (.ref b264), .val (.ref b264), .val (.int p4), .val (.ref b267), .val (.ref b275), .val (.ref b275), .val (.ref b275), .val (.ref b287), .unset] [(.int (1 : Int32))])) _
        refine Own.go (fun t k => XS.istore X293.here hx rfl (hb hby at_179) rfl (l' := #[.val (.int p1), .val (.int p2), .val (.int p3), .val (.int p4), .val (.int p5), .val (.int (1 : Int32)), .val (.int (1 : Int32)), .val (.int (1 : Int32)), .val (.int (((p2 &&& (255 : Int32))).toUInt32.toUInt16.toUInt32.toInt32)), .val (.int (((p3 &&& (255 : Int32))).toUInt32.toUInt16.toUInt32.toInt32)), .val (.ref b264), .val (.ref b264), .val (.int p4), .val (.ref b267), .val (.ref b275), .val (.ref b275), .val (.ref b275), .val (.ref b287), .val (.int (1 : Int32))]) rfl k) ?_
        show Own.Fin p e below (T293.setTop (mkF m 181 #[.val (.int p1), .val (.int p2), .val (.int p3), .val (.int p4), .val (.int p5), .val (.int (1 : Int32)), .val (.int (1 : Int32)), .val (.int (1 : Int32)), .val (.int (((p2 &&& (255 : Int32))).toUInt32.toUInt16.toUInt32.toInt32)), .val (.int (((p3 &&& (255 : Int32))).toUInt32.toUInt16.toUInt32.toInt32)), .val (.ref b264), .val (.ref b264), .val (.int p4), .val (.ref b267), .val (.ref b275), .val (.ref b275), .val (.ref b275), .val (.ref b287), .val (.int (1 : Int32))] [])) _
        refine Own.go (fun t k => XS.aload X293.here hx rfl (hb hby at_181) rfl rfl k) ?_
        show Own.Fin p e below (T293.setTop (mkF m 183 #[.val (.int p1), .val (.int p2), .val (.int p3), .val (.int p4), .val (.int p5), .val (.int (1 : Int32)), .val (.int (1 : Int32)), .val (.int (1 : Int32)), .val (.int (((p2 &&& (255 : Int32))).toUInt32.toUInt16.toUInt32.toInt32)), .val (.int (((p3 &&& (255 : Int32))).toUInt32.toUInt16.toUInt32.toInt32)), .val (.ref b264), .val (.ref b264), .val (.int p4), .val (.ref b267), .val (.ref b275), .val (.ref b275), .val (.ref b275), .val (.ref b287), .val (.int (1 : Int32))] [(.ref b287)])) _
        refine Own.cV X293 hx hZ hown (hw _ (List.mem_of_getElem? (i := 56) rfl)) (hw _ (List.mem_of_getElem? (i := 57) rfl)) (notFace_of_selects (args := #[]) (mvT hZ (hw _ (List.mem_of_getElem? (i := 59) rfl)))) (hw _ (List.mem_of_getElem? (i := 59) rfl)) (hw _ (List.mem_of_getElem? (i := 58) rfl)) (hw _ (List.mem_of_getElem? (i := 45) rfl)) (hw _ (List.mem_of_getElem? (i := 60) rfl)) (by decide) (rm8 l Z a0 hw [] b287 b275 b275 T293.heap n0 Z293 FS293 FT293) (by decide) (W := 0) (by decide) (argsL := []) (rest := []) f296 (by rw [hml]; rfl) (lenOf pd_6 rfl) rfl (Nat.le_of_eq rfl) (hb hby at_183) rfl (by decide) (by decide) ?_
        intro T298 L298 v298 X298 hQ298
        obtain ⟨rfl, N298q, e298⟩ := hQ298
        have N298 := Fr.app N293 N298q
        rw [if_pos rfl]
        show Own.Fin p e below (T298.setTop (mkF m 186 #[.val (.int p1), .val (.int p2), .val (.int p3), .val (.int p4), .val (.int p5), .val (.int (1 : Int32)), .val (.int (1 : Int32)), .val (.int (1 : Int32)), .val (.int (((p2 &&& (255 : Int32))).toUInt32.toUInt16.toUInt32.toInt32)), .val (.int (((p3 &&& (255 : Int32))).toUInt32.toUInt16.toUInt32.toInt32)), .val (.ref b264), .val (.ref b264), .val (.int p4), .val (.ref b267), .val (.ref b275), .val (.ref b275), .val (.ref b275), .val (.ref b287), .val (.int (1 : Int32))] [(.int (1 : Int32))])) _
        refine Own.go (fun t k => XS.iload X298.here hx rfl (hb hby at_186) rfl k) ?_
        show Own.Fin p e below (T298.setTop (mkF m 188 #[.val (.int p1), .val (.int p2), .val (.int p3), .val (.int p4), .val (.int p5), .val (.int (1 : Int32)), .val (.int (1 : Int32)), .val (.int (1 : Int32)), .val (.int (((p2 &&& (255 : Int32))).toUInt32.toUInt16.toUInt32.toInt32)), .val (.int (((p3 &&& (255 : Int32))).toUInt32.toUInt16.toUInt32.toInt32)), .val (.ref b264), .val (.ref b264), .val (.int p4), .val (.ref b267), .val (.ref b275), .val (.ref b275), .val (.ref b275), .val (.ref b287), .val (.int (1 : Int32))] [(.int (1 : Int32)), (.int (1 : Int32))])) _
        have hc188_298 : (1 : Int32) = (1 : Int32) := by decide
        refine Own.go (fun t k => XS.icmpNo X298.here hx rfl (hb hby at_188) rfl (teq hc188_298).2 k) ?_
        show Own.Fin p e below (T298.setTop (mkF m 191 #[.val (.int p1), .val (.int p2), .val (.int p3), .val (.int p4), .val (.int p5), .val (.int (1 : Int32)), .val (.int (1 : Int32)), .val (.int (1 : Int32)), .val (.int (((p2 &&& (255 : Int32))).toUInt32.toUInt16.toUInt32.toInt32)), .val (.int (((p3 &&& (255 : Int32))).toUInt32.toUInt16.toUInt32.toInt32)), .val (.ref b264), .val (.ref b264), .val (.int p4), .val (.ref b267), .val (.ref b275), .val (.ref b275), .val (.ref b275), .val (.ref b287), .val (.int (1 : Int32))] [])) _
        refine Own.go (fun t k => XS.iconst X298.here hx rfl (hb hby at_191) k) ?_
        show Own.Fin p e below (T298.setTop (mkF m 192 #[.val (.int p1), .val (.int p2), .val (.int p3), .val (.int p4), .val (.int p5), .val (.int (1 : Int32)), .val (.int (1 : Int32)), .val (.int (1 : Int32)), .val (.int (((p2 &&& (255 : Int32))).toUInt32.toUInt16.toUInt32.toInt32)), .val (.int (((p3 &&& (255 : Int32))).toUInt32.toUInt16.toUInt32.toInt32)), .val (.ref b264), .val (.ref b264), .val (.int p4), .val (.ref b267), .val (.ref b275), .val (.ref b275), .val (.ref b275), .val (.ref b287), .val (.int (1 : Int32))] [(.int (1 : Int32))])) _
        refine Own.go (fun t k => XS.goto X298.here hx rfl (pc0 := 192) (pc' := 196) rfl (hb hby at_192) (by decide) (by decide) k) ?_
        show Own.Fin p e below (T298.setTop (mkF m 196 #[.val (.int p1), .val (.int p2), .val (.int p3), .val (.int p4), .val (.int p5), .val (.int (1 : Int32)), .val (.int (1 : Int32)), .val (.int (1 : Int32)), .val (.int (((p2 &&& (255 : Int32))).toUInt32.toUInt16.toUInt32.toInt32)), .val (.int (((p3 &&& (255 : Int32))).toUInt32.toUInt16.toUInt32.toInt32)), .val (.ref b264), .val (.ref b264), .val (.int p4), .val (.ref b267), .val (.ref b275), .val (.ref b275), .val (.ref b275), .val (.ref b287), .val (.int (1 : Int32))] [(.int (1 : Int32))])) _
        refine Own.retN X298 hx Bd.notSynchronized (t := .boolean) Bd.returns (by simp) (hb hby at_196) (by decide) (by decide) ?_
        exact ⟨rfl, N298⟩
set_option maxRecDepth 65536 in
set_option maxHeartbeats 40000000 in
theorem comes_1 {Post : Tables → Env → Array Value → State → Outcome → State → Prop} (hpost : ∀ tb e args s v u, (limb_1_1.after args s (.returned v) u = true ∧ limb_1_2.after args s (.returned v) u = true ∧ True) → FrameEnd s (.returned v) u (Jvm.fieldLocs frame_1_writes args s ++ Jvm.arrayLocs frame_1_arrays args s ++ Jvm.staticLocs frame_1_statics s) 24 128 → Post tb e args s (.returned v) u) :
    ArmFor flags0 classFile x code maxLocals ret World_1 tables_1 room_1 Calls_1 rest_1 Pre_1 Post := by
  intro l hfl _ _ p e ha hc hk s m args below hf hA hF happ hP
  obtain ⟨hcalls, hrest, hpre⟩ := hP
  obtain ⟨-, -, -, hnamed, -, -, -, hat⟩ := (Spec.applies_iff hf).mp happ
  obtain ⟨hg, hn⟩ := and_e (Cond.before_iff.mp (show (Jvm.Cond.and given_1 narrow_1).before args s = true from hpre))
  obtain ⟨g1, g2⟩ := and_e hg
  obtain ⟨g3, g4⟩ := and_e g2
  obtain ⟨g5, g6⟩ := and_e g4
  obtain ⟨g7, g8⟩ := and_e g6
  obtain ⟨g9, g10⟩ := and_e g8
  obtain ⟨w0, w1, w2, w3, w4, rfl⟩ : ∃ w0 w1 w2 w3 w4 : Value, args = #[w0, w1, w2, w3, w4] := by
    have hs : args.size = 5 := by simpa [Cond.value, given_1] using g1
    obtain ⟨L⟩ := args
    match L, hs with
    | [w0, w1, w2, w3, w4], _ => exact ⟨w0, w1, w2, w3, w4, rfl⟩
  have hw := fun d (hd : d ∈ tables_1) => atoms_spec (ws := Jvm.Cond.code x code maxLocals ret :: tables_1) hat d (List.mem_cons_of_mem _ hd)
  have hfit : Fit s := fun {y c} hc i hi => by
    obtain ⟨ha, rfl⟩ := Array.getElem?_eq_some_iff.mp hc
    have q := List.all_eq_true.mp ((Array.all_eq_true_iff_forall_mem.mp hF) _ (Array.getElem_mem ha)) i (List.mem_range.mpr hi)
    simpa [Array.getElem?_eq_getElem hi] using q
  obtain ⟨hsets, hown0⟩ := atoms_of _ (rest_1_c_eq ▸ (show rest_1_c.before _ s = true from hrest))
  have hr0 := Cond.before_iff.mp hown0
  obtain ⟨i0, ei0⟩ := is_v g3
  obtain rfl : w0 = (.int i0) := Option.some.inj ei0
  obtain ⟨i1, ei1⟩ := is_v g5
  obtain rfl : w1 = (.int i1) := Option.some.inj ei1
  obtain ⟨i2, ei2⟩ := is_v g7
  obtain rfl : w2 = (.int i2) := Option.some.inj ei2
  obtain ⟨i3, ei3⟩ := is_v g9
  obtain rfl : w3 = (.int i3) := Option.some.inj ei3
  obtain ⟨i4, ei4⟩ := is_v g10
  obtain rfl : w4 = (.int i4) := Option.some.inj ei4
  obtain ⟨cs, ecs⟩ := is_v (Cond.before_iff.mp (hsets _ (List.mem_of_getElem? (i := 1) rfl)))
  have SC : Sta s s.heap "java/lang/String" "COMPACT_STRINGS" "Z" (.int cs) := Sta.start ecs (Or.inl (hsets _ (List.mem_of_getElem? (i := 0) rfl)))
  have hcs : ¬ cs = (0 : Int32) := by
    intro q
    have hn := Cond.before_iff.mp (hsets _ (List.mem_of_getElem? (i := 2) rfl))
    have hq := not_v hn
    rw [Cond.eq_ints ecs (Term.int_eval 0)] at hq
    simp [q] at hq
  obtain ⟨n, o, h1, h2, h3, _, L, rfl, ⟨rfl, N⟩, hq⟩ := rm0 l s _ hw tables_1 i0 i1 i2 i3 i4 cs s.heap s.heap.size (Nat.le_refl _) (Old.start s) SC hcs p e ha hc hk s m _ below hf ((Spec.applies_iff_loose hf).mp happ).1 ⟨rfl, State.Warmed39.refl s, rfl⟩ trivial
  refine ⟨n, _, h1, h2, h3, hpost _ _ _ _ _ _ ⟨Cond.after_iff.mpr rfl, Cond.after_iff.mpr (eq_i res_at (Term.int_eval (1)) rfl), trivial⟩ ⟨hq.1, hq.2.1, (hq.2.2.sift fun y hy => Or.inr (N y hy)).mono (by decide) (by decide)⟩⟩
theorem main_1_1 : Claimed_1_1 := comes_1 fun _ _ _ _ _ _ h hF => ⟨h.1, hF⟩
theorem main_1_2 : Claimed_1_2 := comes_1 fun _ _ _ _ _ _ h hF => ⟨h.2.1, hF⟩
end Jvm.Pilot.@@N@@
namespace Jvm.Pilot.@@N@@
open Jvm Jvm.ClassFile Sem Op Lib Jvm.Free Jvm.Stand Jvm.Pilot.@@N@@.Jvm.D
/-! MADE BY PROGRAM (witnessworld.py) out of the Statement's table words and the real class files: 18 classes; the members and pool entries that the words name. The judged class is class 1, her method 1. -/
namespace start1
open Jvm.ClassFile
def u (s : String) : CpInfo := .utf8 (stringToUtf16 s)
/-- a pool by its gaps: so many unusable entries, then the entry; so many at the end -/
def gap : Nat → List CpInfo → List CpInfo
  | 0, r => r
  | n + 1, r => .unusable :: gap n r
def poolList (es : List (Nat × CpInfo)) (last : Nat) : List CpInfo := es.foldr (fun e r => gap e.1 (e.2 :: r)) (gap last [])
def pool (es : List (Nat × CpInfo)) (last : Nat) : Array CpInfo := ⟨poolList es last⟩
def fileOf (pool : Array CpInfo) (this : Nat) (attrs : Array Attribute := #[]) (ms : Array MethodInfo := #[]) (fl : Nat := 33) (sup : Nat := 0) (ifs : Array Nat := #[]) (fds : Array FieldInfo := #[]) : ClassFile where
  minorVersion := 0
  majorVersion := 65
  constantPool := pool
  accessFlags := fl
  thisClass := this
  superClass := sup
  interfaces := ifs
  fields := fds
  methods := ms
  attributes := attrs
def plain (name : String) (sup : Option ClassId) : Class where
  name := name
  kind := .ordinary
  loader := none
  accessFlags := 33
  super := sup
  interfaces := #[]
  cf := none
  fields := #[]
  methods := #[]
  instanceTypes := #[]
  staticTypes := #[]
  resolved := #[]
  callSites := []
  init := .initialized
  statics := none
  mirror := none

def pool0 : Array CpInfo := pool [(5, u "<init>"), (0, u "()V"), (1, .class_ 10), (1, u "java/lang/Object")] 113

def k0c0 : Code := { maxStack := 0, maxLocals := 1, code := object_method_1_code, exceptionTable := #[], attributes := #[] }
def k0m0 : Method := { name := "<init>", desc := "()V", sig := { parameters := [], returnType := none }, accessFlags := 1, code := some k0c0 }
/-- java/lang/Object -/
def k0 : Class := { plain "java/lang/Object" none with
  accessFlags := 33
  interfaces := #[]
  cf := some (fileOf pool0 8 #[] #[{ accessFlags := 1, nameIndex := 5, descriptorIndex := 6, attributes := #[] }] 33 0 #[] #[])
  fields := #[]
  methods := #[k0m0]
  instanceTypes := #[]
  staticTypes := #[]
  resolved := Array.replicate 124 none
  statics := none }

def pool1 : Array CpInfo := pool [(2, .class_ 4), (1, u "java/lang/Object"), (0, u "<init>"), (0, u "()V"), (0, .methodref 8 9), (0, .class_ 10), (0, .nameAndType 11 12), (0, u "java/lang/String"), (0, u "valueOf"), (0, u "(C)Ljava/lang/String;"), (0, .class_ 14), (0, u "com/example/arachne/arachne/Node"), (0, .methodref 13 16), (0, .nameAndType 5 17), (0, u "(Ljava/lang/String;Lcom/example/arachne/arachne/NodeSize;Ljava/lang/String;Lcom/example/arachne/arachne/Point;I)V"), (0, .class_ 19), (0, u "com/example/arachne/arachne/Edge"), (0, .methodref 18 21), (0, .nameAndType 5 22), (0, u "(Lcom/example/arachne/arachne/Node;Lcom/example/arachne/arachne/Node;I)V"), (0, .methodref 18 24), (0, .nameAndType 25 26), (0, u "isSelfLoop"), (0, u "()Z"), (0, .class_ 28), (0, u "com/example/arachne/arachne/EdgeIsSelfLoopPinLaw"), (2, u "law"), (0, u "(IIIII)Z")] 3

def k1m0 : Method := { name := "<init>", desc := "()V", sig := { parameters := [], returnType := none }, accessFlags := 2, code := none }
def k1c1 : Code := { maxStack := 7, maxLocals := 19, code := code, exceptionTable := #[], attributes := #[] }
def k1m1 : Method := { name := "law", desc := "(IIIII)Z", sig := { parameters := [.int, .int, .int, .int, .int], returnType := some .boolean }, accessFlags := 9, code := some k1c1 }
/-- com/example/arachne/arachne/EdgeIsSelfLoopPinLaw -/
def k1 : Class := { plain "com/example/arachne/arachne/EdgeIsSelfLoopPinLaw" (some 0) with
  accessFlags := 49
  interfaces := #[]
  cf := some (fileOf pool1 27 #[] #[{ accessFlags := 2, nameIndex := 5, descriptorIndex := 6, attributes := #[] }, { accessFlags := 9, nameIndex := 31, descriptorIndex := 32, attributes := #[] }] 49 2 #[] #[])
  fields := #[]
  methods := #[k1m0, k1m1]
  instanceTypes := #[]
  staticTypes := #[]
  resolved := Array.replicate 36 none
  statics := none }

def pool2 : Array CpInfo := pool [(1, .class_ 2), (0, u "java/io/Serializable"), (0, .class_ 4), (0, u "java/lang/Object")] 2

/-- java/io/Serializable -/
def k2 : Class := { plain "java/io/Serializable" (some 0) with
  accessFlags := 1537
  interfaces := #[]
  cf := some (fileOf pool2 1 #[] #[] 1537 3 #[] #[])
  fields := #[]
  methods := #[]
  instanceTypes := #[]
  staticTypes := #[]
  resolved := Array.replicate 7 none
  statics := none }

def pool3 : Array CpInfo := pool [(1, .class_ 2), (0, u "java/lang/Comparable"), (0, .class_ 4), (0, u "java/lang/Object")] 7

/-- java/lang/Comparable -/
def k3 : Class := { plain "java/lang/Comparable" (some 0) with
  accessFlags := 1537
  interfaces := #[]
  cf := some (fileOf pool3 1 #[] #[] 1537 3 #[] #[])
  fields := #[]
  methods := #[]
  instanceTypes := #[]
  staticTypes := #[]
  resolved := Array.replicate 12 none
  statics := none }

def pool4 : Array CpInfo := pool [(2, .class_ 4), (1, u "java/lang/CharSequence"), (42, .class_ 48), (0, u "java/lang/CharSequence$1CodePointIterator"), (10, .class_ 60), (0, u "java/lang/CharSequence$1CharIterator"), (5, .class_ 67), (0, u "java/lang/Object")] 63

/-- java/lang/CharSequence -/
def k4 : Class := { plain "java/lang/CharSequence" (some 0) with
  accessFlags := 1537
  interfaces := #[]
  cf := some (fileOf pool4 2 #[.nestMembers #[47, 59]] #[] 1537 66 #[] #[])
  fields := #[]
  methods := #[]
  instanceTypes := #[]
  staticTypes := #[]
  resolved := Array.replicate 131 none
  statics := none }

def pool5 : Array CpInfo := pool [(1, .class_ 2), (0, u "java/lang/constant/Constable"), (0, .class_ 4), (0, u "java/lang/Object")] 6

/-- java/lang/constant/Constable -/
def k5 : Class := { plain "java/lang/constant/Constable" (some 0) with
  accessFlags := 1537
  interfaces := #[]
  cf := some (fileOf pool5 1 #[] #[] 1537 3 #[] #[])
  fields := #[]
  methods := #[]
  instanceTypes := #[]
  staticTypes := #[]
  resolved := Array.replicate 11 none
  statics := none }

def pool6 : Array CpInfo := pool [(1, .class_ 2), (0, u "java/lang/constant/ConstantDesc"), (0, .class_ 4), (0, u "java/lang/Object")] 32

/-- java/lang/constant/ConstantDesc -/
def k6 : Class := { plain "java/lang/constant/ConstantDesc" (some 0) with
  accessFlags := 1537
  interfaces := #[]
  cf := some (fileOf pool6 1 #[] #[] 1537 3 #[] #[])
  fields := #[]
  methods := #[]
  instanceTypes := #[]
  staticTypes := #[]
  resolved := Array.replicate 37 none
  statics := none }

def pool7 : Array CpInfo := pool [(1, .methodref 2 3), (0, .class_ 4), (0, .nameAndType 5 6), (0, u "java/lang/Object"), (0, u "<init>"), (0, u "()V"), (2, .fieldref 10 11), (0, .class_ 12), (0, .nameAndType 13 14), (0, u "java/lang/String"), (0, u "value"), (0, u "[B"), (0, .fieldref 10 16), (0, .nameAndType 17 18), (0, u "coder"), (0, u "B"), (2, u "hash"), (0, u "I"), (2, u "hashIsZero"), (0, u "Z"), (11, .fieldref 10 39), (0, .nameAndType 40 26), (0, u "COMPACT_STRINGS"), (12, u "toBytes"), (53, .class_ 109), (1, u "java/lang/StringLatin1"), (99, .methodref 10 210), (0, .nameAndType 5 211), (0, u "([BB)V"), (157, u "(C)Z"), (205, .class_ 576), (0, u "java/lang/CharSequence"), (22, u "CASE_INSENSITIVE_ORDER"), (0, u "Ljava/util/Comparator;"), (181, u "valueOf"), (0, u "(C)Ljava/lang/String;"), (231, .methodref 107 1016), (0, .nameAndType 1017 369), (0, u "canEncode"), (0, .methodref 107 1019), (0, .nameAndType 53 1020), (0, u "(C)[B"), (80, u "serialPersistentFields"), (0, u "[Ljava/io/ObjectStreamField;"), (0, .class_ 1104), (0, u "java/lang/String$CaseInsensitiveComparator"), (1, .class_ 1107), (0, u "java/io/Serializable"), (0, .class_ 1109), (0, u "java/lang/Comparable"), (0, .class_ 1111), (0, u "java/lang/constant/Constable"), (0, .class_ 1113), (0, u "java/lang/constant/ConstantDesc"), (2, u "serialVersionUID"), (0, u "J"), (3, u "REPL"), (0, u "C"), (2, u "LATIN1"), (1, u "UTF16")] 323

def k7m0 : Method := { name := "<init>", desc := "()V", sig := { parameters := [], returnType := none }, accessFlags := 1, code := none }
def k7c1 : Code := { maxStack := 4, maxLocals := 1, code := jdk_42_method_139_code, exceptionTable := #[], attributes := #[] }
def k7m1 : Method := { name := "valueOf", desc := "(C)Ljava/lang/String;", sig := { parameters := [.char], returnType := some (.object "java/lang/String") }, accessFlags := 9, code := some k7c1 }
def k7c2 : Code := { maxStack := 2, maxLocals := 3, code := jdk_42_method_151_code, exceptionTable := #[], attributes := #[] }
def k7m2 : Method := { name := "<init>", desc := "([BB)V", sig := { parameters := [(.array .byte), .byte], returnType := none }, accessFlags := 0, code := some k7c2 }
/-- java/lang/String -/
def k7 : Class := { plain "java/lang/String" (some 0) with
  accessFlags := 49
  interfaces := #[2, 3, 4, 5, 6]
  cf := some (fileOf pool7 10 #[.nestMembers #[1103]] #[{ accessFlags := 1, nameIndex := 5, descriptorIndex := 6, attributes := #[] }, { accessFlags := 9, nameIndex := 782, descriptorIndex := 783, attributes := #[] }, { accessFlags := 0, nameIndex := 5, descriptorIndex := 211, attributes := #[] }] 49 2 #[1106, 1108, 575, 1110, 1112] #[{ accessFlags := 18, nameIndex := 13, descriptorIndex := 14, attributes := #[] }, { accessFlags := 18, nameIndex := 17, descriptorIndex := 18, attributes := #[] }, { accessFlags := 2, nameIndex := 21, descriptorIndex := 22, attributes := #[] }, { accessFlags := 2, nameIndex := 25, descriptorIndex := 26, attributes := #[] }, { accessFlags := 26, nameIndex := 1116, descriptorIndex := 1117, attributes := #[] }, { accessFlags := 24, nameIndex := 40, descriptorIndex := 26, attributes := #[] }, { accessFlags := 26, nameIndex := 1101, descriptorIndex := 1102, attributes := #[] }, { accessFlags := 26, nameIndex := 1121, descriptorIndex := 1122, attributes := #[] }, { accessFlags := 25, nameIndex := 599, descriptorIndex := 600, attributes := #[] }, { accessFlags := 24, nameIndex := 1125, descriptorIndex := 18, attributes := #[] }, { accessFlags := 24, nameIndex := 1127, descriptorIndex := 18, attributes := #[] }])
  fields := #[{ name := "value", type := (.array .byte), accessFlags := 18, slot := 0, constantValue := 0 }, { name := "coder", type := .byte, accessFlags := 18, slot := 1, constantValue := 0 }, { name := "hash", type := .int, accessFlags := 2, slot := 2, constantValue := 0 }, { name := "hashIsZero", type := .boolean, accessFlags := 2, slot := 3, constantValue := 0 }, { name := "serialVersionUID", type := .long, accessFlags := 26, slot := 0, constantValue := 0 }, { name := "COMPACT_STRINGS", type := .boolean, accessFlags := 24, slot := 1, constantValue := 0 }, { name := "serialPersistentFields", type := (.array (.object "java/io/ObjectStreamField")), accessFlags := 26, slot := 2, constantValue := 0 }, { name := "REPL", type := .char, accessFlags := 26, slot := 3, constantValue := 0 }, { name := "CASE_INSENSITIVE_ORDER", type := (.object "java/util/Comparator"), accessFlags := 25, slot := 4, constantValue := 0 }, { name := "LATIN1", type := .byte, accessFlags := 24, slot := 5, constantValue := 0 }, { name := "UTF16", type := .byte, accessFlags := 24, slot := 6, constantValue := 0 }]
  methods := #[k7m0, k7m1, k7m2]
  instanceTypes := #[(.array .byte), .byte, .int, .boolean]
  staticTypes := #[.long, .boolean, (.array (.object "java/io/ObjectStreamField")), .char, (.object "java/util/Comparator"), .byte, .byte]
  resolved := Array.replicate 1451 none
  statics := some 0 }

def pool8 : Array CpInfo := pool [(4, .class_ 6), (1, u "java/lang/Object"), (0, u "<init>"), (0, u "()V"), (5, .class_ 16), (1, u "java/lang/StringLatin1"), (73, u "canEncode"), (14, u "(C)Z"), (15, u "$assertionsDisabled"), (0, u "Z"), (98, .class_ 223), (1, u "java/lang/StringLatin1$LinesSpliterator"), (156, u "toBytes"), (1, u "(C)[B"), (7, .class_ 391), (0, u "java/lang/StringLatin1$CharsSpliterator")] 3

def k8m0 : Method := { name := "<init>", desc := "()V", sig := { parameters := [], returnType := none }, accessFlags := 0, code := none }
def k8c1 : Code := { maxStack := 2, maxLocals := 1, code := jdk_43_method_3_code, exceptionTable := #[], attributes := #[] }
def k8m1 : Method := { name := "canEncode", desc := "(C)Z", sig := { parameters := [.char], returnType := some .boolean }, accessFlags := 9, code := some k8c1 }
def k8c2 : Code := { maxStack := 4, maxLocals := 1, code := jdk_43_method_46_code, exceptionTable := #[], attributes := #[] }
def k8m2 : Method := { name := "toBytes", desc := "(C)[B", sig := { parameters := [.char], returnType := some (.array .byte) }, accessFlags := 9, code := some k8c2 }
/-- java/lang/StringLatin1 -/
def k8 : Class := { plain "java/lang/StringLatin1" (some 0) with
  accessFlags := 48
  interfaces := #[]
  cf := some (fileOf pool8 14 #[.nestMembers #[390, 221]] #[{ accessFlags := 0, nameIndex := 7, descriptorIndex := 8, attributes := #[] }, { accessFlags := 9, nameIndex := 90, descriptorIndex := 105, attributes := #[] }, { accessFlags := 9, nameIndex := 380, descriptorIndex := 382, attributes := #[] }] 48 4 #[] #[{ accessFlags := 4120, nameIndex := 121, descriptorIndex := 122, attributes := #[] }])
  fields := #[{ name := "$assertionsDisabled", type := .boolean, accessFlags := 4120, slot := 0, constantValue := 0 }]
  methods := #[k8m0, k8m1, k8m2]
  instanceTypes := #[]
  staticTypes := #[.boolean]
  resolved := Array.replicate 395 none
  statics := none }

def pool9 : Array CpInfo := pool [(1, .methodref 2 3), (0, .class_ 4), (0, .nameAndType 5 6), (0, u "java/lang/Object"), (0, u "<init>"), (0, u "()V"), (0, .fieldref 8 9), (0, .class_ 10), (0, .nameAndType 11 12), (0, u "com/example/arachne/arachne/Node"), (0, u "id"), (0, u "Ljava/lang/String;"), (0, .fieldref 8 14), (0, .nameAndType 15 16), (0, u "size"), (0, u "Lcom/example/arachne/arachne/NodeSize;"), (0, .fieldref 8 18), (0, .nameAndType 19 12), (0, u "label"), (0, .fieldref 8 21), (0, .nameAndType 22 23), (0, u "pin"), (0, u "Lcom/example/arachne/arachne/Point;"), (0, .fieldref 8 25), (0, .nameAndType 26 27), (0, u "index"), (0, u "I"), (0, u "(Ljava/lang/String;Lcom/example/arachne/arachne/NodeSize;Ljava/lang/String;Lcom/example/arachne/arachne/Point;I)V")] 12

def k9c0 : Code := { maxStack := 2, maxLocals := 6, code := prog_12_method_1_code, exceptionTable := #[], attributes := #[] }
def k9m0 : Method := { name := "<init>", desc := "(Ljava/lang/String;Lcom/example/arachne/arachne/NodeSize;Ljava/lang/String;Lcom/example/arachne/arachne/Point;I)V", sig := { parameters := [(.object "java/lang/String"), (.object "com/example/arachne/arachne/NodeSize"), (.object "java/lang/String"), (.object "com/example/arachne/arachne/Point"), .int], returnType := none }, accessFlags := 0, code := some k9c0 }
/-- com/example/arachne/arachne/Node -/
def k9 : Class := { plain "com/example/arachne/arachne/Node" (some 0) with
  accessFlags := 33
  interfaces := #[]
  cf := some (fileOf pool9 8 #[] #[{ accessFlags := 0, nameIndex := 5, descriptorIndex := 28, attributes := #[] }] 33 2 #[] #[{ accessFlags := 18, nameIndex := 11, descriptorIndex := 12, attributes := #[] }, { accessFlags := 18, nameIndex := 15, descriptorIndex := 16, attributes := #[] }, { accessFlags := 18, nameIndex := 19, descriptorIndex := 12, attributes := #[] }, { accessFlags := 18, nameIndex := 22, descriptorIndex := 23, attributes := #[] }, { accessFlags := 18, nameIndex := 26, descriptorIndex := 27, attributes := #[] }])
  fields := #[{ name := "id", type := (.object "java/lang/String"), accessFlags := 18, slot := 0, constantValue := 0 }, { name := "size", type := (.object "com/example/arachne/arachne/NodeSize"), accessFlags := 18, slot := 1, constantValue := 0 }, { name := "label", type := (.object "java/lang/String"), accessFlags := 18, slot := 2, constantValue := 0 }, { name := "pin", type := (.object "com/example/arachne/arachne/Point"), accessFlags := 18, slot := 3, constantValue := 0 }, { name := "index", type := .int, accessFlags := 18, slot := 4, constantValue := 0 }]
  methods := #[k9m0]
  instanceTypes := #[(.object "java/lang/String"), (.object "com/example/arachne/arachne/NodeSize"), (.object "java/lang/String"), (.object "com/example/arachne/arachne/Point"), .int]
  staticTypes := #[]
  resolved := Array.replicate 41 none
  statics := none }

def pool10 : Array CpInfo := pool [(1, .methodref 2 3), (0, .class_ 4), (0, .nameAndType 5 6), (0, u "java/lang/Object"), (0, u "<init>"), (0, u "()V"), (0, .fieldref 8 9), (0, .class_ 10), (0, .nameAndType 11 12), (0, u "com/example/arachne/arachne/Edge"), (0, u "source"), (0, u "Lcom/example/arachne/arachne/Node;"), (0, .fieldref 8 14), (0, .nameAndType 15 12), (0, u "target"), (0, .fieldref 8 17), (0, .nameAndType 18 19), (0, u "index"), (0, u "I"), (10, u "(Lcom/example/arachne/arachne/Node;Lcom/example/arachne/arachne/Node;I)V"), (4, u "isSelfLoop"), (0, u "()Z")] 20

def k10c0 : Code := { maxStack := 2, maxLocals := 4, code := prog_5_method_1_code, exceptionTable := #[], attributes := #[] }
def k10m0 : Method := { name := "<init>", desc := "(Lcom/example/arachne/arachne/Node;Lcom/example/arachne/arachne/Node;I)V", sig := { parameters := [(.object "com/example/arachne/arachne/Node"), (.object "com/example/arachne/arachne/Node"), .int], returnType := none }, accessFlags := 0, code := some k10c0 }
def k10c1 : Code := { maxStack := 2, maxLocals := 1, code := prog_5_method_5_code, exceptionTable := #[], attributes := #[] }
def k10m1 : Method := { name := "isSelfLoop", desc := "()Z", sig := { parameters := [], returnType := some .boolean }, accessFlags := 1, code := some k10c1 }
/-- com/example/arachne/arachne/Edge -/
def k10 : Class := { plain "com/example/arachne/arachne/Edge" (some 0) with
  accessFlags := 33
  interfaces := #[]
  cf := some (fileOf pool10 8 #[] #[{ accessFlags := 0, nameIndex := 5, descriptorIndex := 30, attributes := #[] }, { accessFlags := 1, nameIndex := 35, descriptorIndex := 36, attributes := #[] }] 33 2 #[] #[{ accessFlags := 18, nameIndex := 11, descriptorIndex := 12, attributes := #[] }, { accessFlags := 18, nameIndex := 15, descriptorIndex := 12, attributes := #[] }, { accessFlags := 18, nameIndex := 18, descriptorIndex := 19, attributes := #[] }])
  fields := #[{ name := "source", type := (.object "com/example/arachne/arachne/Node"), accessFlags := 18, slot := 0, constantValue := 0 }, { name := "target", type := (.object "com/example/arachne/arachne/Node"), accessFlags := 18, slot := 1, constantValue := 0 }, { name := "index", type := .int, accessFlags := 18, slot := 2, constantValue := 0 }]
  methods := #[k10m0, k10m1]
  instanceTypes := #[(.object "com/example/arachne/arachne/Node"), (.object "com/example/arachne/arachne/Node"), .int]
  staticTypes := #[]
  resolved := Array.replicate 57 none
  statics := none }

def pool11 : Array CpInfo := pool [(2, .class_ 4), (1, u "java/lang/Object"), (0, u "<init>"), (0, u "()V"), (17, .class_ 26), (1, u "jdk/internal/util/Preconditions"), (28, .class_ 56), (0, u "jdk/internal/util/Preconditions$4"), (57, .class_ 115), (0, u "jdk/internal/util/Preconditions$1"), (7, u "SIOOBE_FORMATTER"), (0, u "Ljava/util/function/BiFunction;"), (0, .class_ 126), (0, u "jdk/internal/util/Preconditions$2"), (3, u "AIOOBE_FORMATTER"), (0, .class_ 132), (0, u "jdk/internal/util/Preconditions$3"), (3, u "IOOBE_FORMATTER")] 57

def k11m0 : Method := { name := "<init>", desc := "()V", sig := { parameters := [], returnType := none }, accessFlags := 1, code := none }
/-- jdk/internal/util/Preconditions -/
def k11 : Class := { plain "jdk/internal/util/Preconditions" (some 0) with
  accessFlags := 33
  interfaces := #[]
  cf := some (fileOf pool11 24 #[.nestMembers #[55, 131, 125, 114]] #[{ accessFlags := 1, nameIndex := 5, descriptorIndex := 6, attributes := #[] }] 33 2 #[] #[{ accessFlags := 25, nameIndex := 123, descriptorIndex := 124, attributes := #[] }, { accessFlags := 25, nameIndex := 130, descriptorIndex := 124, attributes := #[] }, { accessFlags := 25, nameIndex := 136, descriptorIndex := 124, attributes := #[] }])
  fields := #[{ name := "SIOOBE_FORMATTER", type := (.object "java/util/function/BiFunction"), accessFlags := 25, slot := 0, constantValue := 0 }, { name := "AIOOBE_FORMATTER", type := (.object "java/util/function/BiFunction"), accessFlags := 25, slot := 1, constantValue := 0 }, { name := "IOOBE_FORMATTER", type := (.object "java/util/function/BiFunction"), accessFlags := 25, slot := 2, constantValue := 0 }]
  methods := #[k11m0]
  instanceTypes := #[]
  staticTypes := #[(.object "java/util/function/BiFunction"), (.object "java/util/function/BiFunction"), (.object "java/util/function/BiFunction")]
  resolved := Array.replicate 194 none
  statics := some 1 }

def pool12 : Array CpInfo := pool [(9, u "<init>"), (6, .class_ 18), (1, u "java/lang/Object"), (0, u "()V"), (1, .class_ 23), (1, u "jdk/internal/util/ArraysSupport"), (0, u "LOG2_ARRAY_LONG_INDEX_SCALE"), (0, u "I"), (2, u "U"), (0, u "Ljdk/internal/misc/Unsafe;"), (8, u "BIG_ENDIAN"), (0, u "Z"), (8, u "LOG2_BYTE_BIT_SIZE"), (4, u "LOG2_ARRAY_INT_INDEX_SCALE"), (54, u "JLA"), (0, u "Ljdk/internal/access/JavaLangAccess;"), (11, u "LOG2_ARRAY_BOOLEAN_INDEX_SCALE"), (9, u "LOG2_ARRAY_BYTE_INDEX_SCALE"), (5, u "LOG2_ARRAY_CHAR_INDEX_SCALE"), (5, u "LOG2_ARRAY_SHORT_INDEX_SCALE"), (18, u "LOG2_ARRAY_FLOAT_INDEX_SCALE"), (24, u "LOG2_ARRAY_DOUBLE_INDEX_SCALE"), (89, u "T_BOOLEAN"), (2, u "T_CHAR"), (1, u "T_FLOAT"), (1, u "T_DOUBLE"), (1, u "T_BYTE"), (1, u "T_SHORT"), (1, u "T_INT"), (1, u "T_LONG"), (1, u "SOFT_MAX_ARRAY_LENGTH")] 83

def k12m0 : Method := { name := "<init>", desc := "()V", sig := { parameters := [], returnType := none }, accessFlags := 2, code := none }
/-- jdk/internal/util/ArraysSupport -/
def k12 : Class := { plain "jdk/internal/util/ArraysSupport" (some 0) with
  accessFlags := 33
  interfaces := #[]
  cf := some (fileOf pool12 21 #[] #[{ accessFlags := 2, nameIndex := 9, descriptorIndex := 19, attributes := #[] }] 33 16 #[] #[{ accessFlags := 24, nameIndex := 28, descriptorIndex := 29, attributes := #[] }, { accessFlags := 26, nameIndex := 38, descriptorIndex := 39, attributes := #[] }, { accessFlags := 25, nameIndex := 121, descriptorIndex := 25, attributes := #[] }, { accessFlags := 25, nameIndex := 131, descriptorIndex := 25, attributes := #[] }, { accessFlags := 25, nameIndex := 137, descriptorIndex := 25, attributes := #[] }, { accessFlags := 25, nameIndex := 143, descriptorIndex := 25, attributes := #[] }, { accessFlags := 25, nameIndex := 53, descriptorIndex := 25, attributes := #[] }, { accessFlags := 25, nameIndex := 24, descriptorIndex := 25, attributes := #[] }, { accessFlags := 25, nameIndex := 162, descriptorIndex := 25, attributes := #[] }, { accessFlags := 25, nameIndex := 187, descriptorIndex := 25, attributes := #[] }, { accessFlags := 26, nameIndex := 48, descriptorIndex := 25, attributes := #[] }, { accessFlags := 25, nameIndex := 277, descriptorIndex := 25, attributes := #[] }, { accessFlags := 25, nameIndex := 280, descriptorIndex := 25, attributes := #[] }, { accessFlags := 25, nameIndex := 282, descriptorIndex := 25, attributes := #[] }, { accessFlags := 25, nameIndex := 284, descriptorIndex := 25, attributes := #[] }, { accessFlags := 25, nameIndex := 286, descriptorIndex := 25, attributes := #[] }, { accessFlags := 25, nameIndex := 288, descriptorIndex := 25, attributes := #[] }, { accessFlags := 25, nameIndex := 290, descriptorIndex := 25, attributes := #[] }, { accessFlags := 25, nameIndex := 292, descriptorIndex := 25, attributes := #[] }, { accessFlags := 26, nameIndex := 108, descriptorIndex := 109, attributes := #[] }, { accessFlags := 25, nameIndex := 294, descriptorIndex := 25, attributes := #[] }])
  fields := #[{ name := "U", type := (.object "jdk/internal/misc/Unsafe"), accessFlags := 24, slot := 0, constantValue := 0 }, { name := "BIG_ENDIAN", type := .boolean, accessFlags := 26, slot := 1, constantValue := 0 }, { name := "LOG2_ARRAY_BOOLEAN_INDEX_SCALE", type := .int, accessFlags := 25, slot := 2, constantValue := 0 }, { name := "LOG2_ARRAY_BYTE_INDEX_SCALE", type := .int, accessFlags := 25, slot := 3, constantValue := 0 }, { name := "LOG2_ARRAY_CHAR_INDEX_SCALE", type := .int, accessFlags := 25, slot := 4, constantValue := 0 }, { name := "LOG2_ARRAY_SHORT_INDEX_SCALE", type := .int, accessFlags := 25, slot := 5, constantValue := 0 }, { name := "LOG2_ARRAY_INT_INDEX_SCALE", type := .int, accessFlags := 25, slot := 6, constantValue := 0 }, { name := "LOG2_ARRAY_LONG_INDEX_SCALE", type := .int, accessFlags := 25, slot := 7, constantValue := 0 }, { name := "LOG2_ARRAY_FLOAT_INDEX_SCALE", type := .int, accessFlags := 25, slot := 8, constantValue := 0 }, { name := "LOG2_ARRAY_DOUBLE_INDEX_SCALE", type := .int, accessFlags := 25, slot := 9, constantValue := 0 }, { name := "LOG2_BYTE_BIT_SIZE", type := .int, accessFlags := 26, slot := 10, constantValue := 0 }, { name := "T_BOOLEAN", type := .int, accessFlags := 25, slot := 11, constantValue := 0 }, { name := "T_CHAR", type := .int, accessFlags := 25, slot := 12, constantValue := 0 }, { name := "T_FLOAT", type := .int, accessFlags := 25, slot := 13, constantValue := 0 }, { name := "T_DOUBLE", type := .int, accessFlags := 25, slot := 14, constantValue := 0 }, { name := "T_BYTE", type := .int, accessFlags := 25, slot := 15, constantValue := 0 }, { name := "T_SHORT", type := .int, accessFlags := 25, slot := 16, constantValue := 0 }, { name := "T_INT", type := .int, accessFlags := 25, slot := 17, constantValue := 0 }, { name := "T_LONG", type := .int, accessFlags := 25, slot := 18, constantValue := 0 }, { name := "JLA", type := (.object "jdk/internal/access/JavaLangAccess"), accessFlags := 26, slot := 19, constantValue := 0 }, { name := "SOFT_MAX_ARRAY_LENGTH", type := .int, accessFlags := 25, slot := 20, constantValue := 0 }]
  methods := #[k12m0]
  instanceTypes := #[]
  staticTypes := #[(.object "jdk/internal/misc/Unsafe"), .boolean, .int, .int, .int, .int, .int, .int, .int, .int, .int, .int, .int, .int, .int, .int, .int, .int, .int, (.object "jdk/internal/access/JavaLangAccess"), .int]
  resolved := Array.replicate 378 none
  statics := none }

def pool13 : Array CpInfo := pool [(1, u "java/lang/Cloneable"), (0, .class_ 1), (0, u "java/lang/Object"), (0, .class_ 3)] 3

/-- java/lang/Cloneable -/
def k13 : Class := { plain "java/lang/Cloneable" (some 0) with
  accessFlags := 1537
  interfaces := #[]
  cf := some (fileOf pool13 2 #[] #[] 1537 4 #[] #[])
  fields := #[]
  methods := #[]
  instanceTypes := #[]
  staticTypes := #[]
  resolved := Array.replicate 8 none
  statics := none }

/-- the primitive byte -/
def k14 : Class := { plain "byte" none with kind := .primitive 'B', accessFlags := 0x411 }
/-- [B -/
def k15 : Class := { plain "[B" (some 0) with kind := .array 14 .byte, interfaces := #[13, 2], accessFlags := 1041 }

/-- the primitive int -/
def k16 : Class := { plain "int" none with kind := .primitive 'I', accessFlags := 0x411 }
/-- [I -/
def k17 : Class := { plain "[I" (some 0) with kind := .array 16 .int, interfaces := #[13, 2], accessFlags := 1041 }

def heap : Heap := #[{ cls := 7, slots := #[.long 0, .int 1, .null, .int 0, .null, .int 0, .int 0], vm := .statics 7 },
  { cls := 11, slots := #[.null, .null, .null], vm := .statics 11 }]
def classes : Array Class := #[k0, k1, k2, k3, k4, k5, k6, k7, k8, k9, k10, k11, k12, k13, k14, k15, k16, k17]
def interned : List (Array UInt16 × Addr) := []
def slotsUsed : Nat := 10
def theMethod : MethodId := ⟨1, 1⟩
def args0 : Array Value := #[.int 5, .int 65, .int 66, .int 2, .int 3]
def aboutOver (below : List Frame) : State where
  vm := { classes := classes, interned := interned.toArray }
  heap := heap
  slotsUsed := slotsUsed
  threads := #[{ frames := .invoking theMethod args0 :: below }]
def below0 : List Frame := [.native { method := ⟨0, 0⟩, args := #[] }]
def about1 : State := aboutOver below0
def p0 : Program := .bare "" "" ""
def e0 : Env := launch0.env 0 0 0
theorem w_frames : about1.frames = Frame.invoking theMethod args0 :: below0 := rfl
set_option maxRecDepth 65536 in
theorem w_args : argsFit about1.vm theMethod args0 = true := by decide +kernel
set_option maxRecDepth 65536 in
theorem w_heap : heapFits about1 = true := by decide +kernel
set_option maxRecDepth 65536 in
theorem w_runnable : about1.curStatus? = some .runnable := by decide +kernel
set_option maxRecDepth 65536 in
theorem w_alone : about1.alone = true := by decide +kernel
set_option maxRecDepth 65536 in
theorem w_named : about1.methodNamed? x = some theMethod := by decide +kernel
set_option maxRecDepth 65536 in
theorem w_hears : about1.hears theMethod below0 = true := by decide +kernel
set_option maxRecDepth 65536 in
theorem w_ripe : about1.ripe theMethod args0 below0 = true := by decide +kernel
theorem w_running : about1.status = .running := rfl
set_option maxRecDepth 65536 in
theorem w_room : about1.hasRoom e0.platform room_1 = true :=
  launch0.hasRoom_least _ room_1 (by decide +kernel) (by decide +kernel) (by decide +kernel) (by decide +kernel) (by decide +kernel) (by decide +kernel)
theorem allAtoms_all (ts : List Jvm.Cond) (a : Array Jvm.Value) (st : Jvm.State) : (allAtoms ts).before a st = ts.all (fun c => c.before a st) := by
  induction ts with
  | nil => rfl
  | cons c t ih =>
    show (Jvm.Cond.and c (allAtoms t)).before a st = _
    rw [Jvm.Cond.before_and, ih, List.all_cons]
def words1 : List Jvm.Cond := Jvm.Cond.code x code maxLocals ret :: tables_1
/-- a 'code' word, met by the world's own term for the bytes: nothing is compared byte by byte -/
theorem code_word {y : MethodName} {bytes : ByteArray} {mx : Nat} {rt : Option FieldType} {a : Array Value} {s : State} {m : MethodId} {meth : Method} {c : Code} (h1 : s.methodNamed? y = some m) (h2 : s.vm.method? m = some meth) (h3 : meth.code = some c) (h4 : c.code = bytes)
    (h5 : (c.maxLocals == mx && c.exceptionTable.isEmpty && decide (c.maxStack ≤ mostOperands) && decide (meth.sig.returnType = rt) && !meth.locks && decide (parseMethodDescriptor y.desc = some meth.sig)) = true) : (Jvm.Cond.code y bytes mx rt).before a s = true := by
  simp only [Bool.and_eq_true, beq_iff_eq, Bool.not_eq_true', decide_eq_true_eq] at h5
  obtain ⟨⟨⟨⟨⟨g1, g2⟩, g3⟩, g4⟩, g5⟩, g6⟩ := h5
  simp [Cond.before, Cond.holds, Cond.value, h1, h2, h3, h4, g1, g2, g3, g4, g5, g6]
def isCode : Jvm.Cond → Bool
  | .code _ _ _ _ => true
  | _ => false
theorem all_split {L : List Jvm.Cond} {P : Jvm.Cond → Bool} (h1 : L.all (fun c => isCode c || P c) = true) (h2 : ∀ c ∈ L.filter isCode, P c = true) : L.all P = true := by
  refine List.all_eq_true.mpr fun c hc => ?_
  have h := List.all_eq_true.mp h1 c hc
  rcases Bool.eq_false_or_eq_true (isCode c) with hi | hi
  · exact h2 c (List.mem_filter.mpr ⟨hc, hi⟩)
  · simpa [hi] using h
set_option maxRecDepth 65536 in
theorem w_c0 : (Jvm.Cond.code x code maxLocals ret).before args0 about1 = true := code_word (m := ⟨1, 1⟩) (meth := k1m1) (c := k1c1) (by decide +kernel) rfl rfl rfl (by decide +kernel)
set_option maxRecDepth 65536 in
theorem w_c1 : (Jvm.Cond.code ({ cls := "java/lang/String", name := "valueOf", desc := "(C)Ljava/lang/String;" } : Jvm.MethodName) jdk_42_method_139_code (1 : Nat) (Option.some (Jvm.ClassFile.FieldType.object "java/lang/String"))).before args0 about1 = true := code_word (m := ⟨7, 1⟩) (meth := k7m1) (c := k7c1) (by decide +kernel) rfl rfl rfl (by decide +kernel)
set_option maxRecDepth 65536 in
theorem w_c2 : (Jvm.Cond.code ({ cls := "java/lang/StringLatin1", name := "canEncode", desc := "(C)Z" } : Jvm.MethodName) jdk_43_method_3_code (1 : Nat) (Option.some Jvm.ClassFile.FieldType.boolean)).before args0 about1 = true := code_word (m := ⟨8, 1⟩) (meth := k8m1) (c := k8c1) (by decide +kernel) rfl rfl rfl (by decide +kernel)
set_option maxRecDepth 65536 in
theorem w_c3 : (Jvm.Cond.code ({ cls := "java/lang/StringLatin1", name := "toBytes", desc := "(C)[B" } : Jvm.MethodName) jdk_43_method_46_code (1 : Nat) (Option.some (Jvm.ClassFile.FieldType.array Jvm.ClassFile.FieldType.byte))).before args0 about1 = true := code_word (m := ⟨8, 2⟩) (meth := k8m2) (c := k8c2) (by decide +kernel) rfl rfl rfl (by decide +kernel)
set_option maxRecDepth 65536 in
theorem w_c4 : (Jvm.Cond.code ({ cls := "java/lang/String", name := "<init>", desc := "([BB)V" } : Jvm.MethodName) jdk_42_method_151_code (3 : Nat) (Option.none : Option Jvm.ClassFile.FieldType)).before args0 about1 = true := code_word (m := ⟨7, 2⟩) (meth := k7m2) (c := k7c2) (by decide +kernel) rfl rfl rfl (by decide +kernel)
set_option maxRecDepth 65536 in
theorem w_c5 : (Jvm.Cond.code ({ cls := "java/lang/Object", name := "<init>", desc := "()V" } : Jvm.MethodName) object_method_1_code (1 : Nat) (Option.none : Option Jvm.ClassFile.FieldType)).before args0 about1 = true := code_word (m := ⟨0, 0⟩) (meth := k0m0) (c := k0c0) (by decide +kernel) rfl rfl rfl (by decide +kernel)
set_option maxRecDepth 65536 in
theorem w_c6 : (Jvm.Cond.code ({ cls := "com/example/arachne/arachne/Node", name := "<init>", desc := "(Ljava/lang/String;Lcom/example/arachne/arachne/NodeSize;Ljava/lang/String;Lcom/example/arachne/arachne/Point;I)V" } : Jvm.MethodName) prog_12_method_1_code (6 : Nat) (Option.none : Option Jvm.ClassFile.FieldType)).before args0 about1 = true := code_word (m := ⟨9, 0⟩) (meth := k9m0) (c := k9c0) (by decide +kernel) rfl rfl rfl (by decide +kernel)
set_option maxRecDepth 65536 in
theorem w_c7 : (Jvm.Cond.code ({ cls := "com/example/arachne/arachne/Edge", name := "<init>", desc := "(Lcom/example/arachne/arachne/Node;Lcom/example/arachne/arachne/Node;I)V" } : Jvm.MethodName) prog_5_method_1_code (4 : Nat) (Option.none : Option Jvm.ClassFile.FieldType)).before args0 about1 = true := code_word (m := ⟨10, 0⟩) (meth := k10m0) (c := k10c0) (by decide +kernel) rfl rfl rfl (by decide +kernel)
set_option maxRecDepth 65536 in
theorem w_c8 : (Jvm.Cond.code ({ cls := "com/example/arachne/arachne/Edge", name := "isSelfLoop", desc := "()Z" } : Jvm.MethodName) prog_5_method_5_code (1 : Nat) (Option.some Jvm.ClassFile.FieldType.boolean)).before args0 about1 = true := code_word (m := ⟨10, 1⟩) (meth := k10m1) (c := k10c1) (by decide +kernel) rfl rfl rfl (by decide +kernel)
def codes1 : List Jvm.Cond := [Jvm.Cond.code x code maxLocals ret, Jvm.Cond.code ({ cls := "java/lang/String", name := "valueOf", desc := "(C)Ljava/lang/String;" } : Jvm.MethodName) jdk_42_method_139_code (1 : Nat) (Option.some (Jvm.ClassFile.FieldType.object "java/lang/String")), Jvm.Cond.code ({ cls := "java/lang/StringLatin1", name := "canEncode", desc := "(C)Z" } : Jvm.MethodName) jdk_43_method_3_code (1 : Nat) (Option.some Jvm.ClassFile.FieldType.boolean), Jvm.Cond.code ({ cls := "java/lang/StringLatin1", name := "toBytes", desc := "(C)[B" } : Jvm.MethodName) jdk_43_method_46_code (1 : Nat) (Option.some (Jvm.ClassFile.FieldType.array Jvm.ClassFile.FieldType.byte)), Jvm.Cond.code ({ cls := "java/lang/String", name := "<init>", desc := "([BB)V" } : Jvm.MethodName) jdk_42_method_151_code (3 : Nat) (Option.none : Option Jvm.ClassFile.FieldType), Jvm.Cond.code ({ cls := "java/lang/Object", name := "<init>", desc := "()V" } : Jvm.MethodName) object_method_1_code (1 : Nat) (Option.none : Option Jvm.ClassFile.FieldType), Jvm.Cond.code ({ cls := "com/example/arachne/arachne/Node", name := "<init>", desc := "(Ljava/lang/String;Lcom/example/arachne/arachne/NodeSize;Ljava/lang/String;Lcom/example/arachne/arachne/Point;I)V" } : Jvm.MethodName) prog_12_method_1_code (6 : Nat) (Option.none : Option Jvm.ClassFile.FieldType), Jvm.Cond.code ({ cls := "com/example/arachne/arachne/Edge", name := "<init>", desc := "(Lcom/example/arachne/arachne/Node;Lcom/example/arachne/arachne/Node;I)V" } : Jvm.MethodName) prog_5_method_1_code (4 : Nat) (Option.none : Option Jvm.ClassFile.FieldType), Jvm.Cond.code ({ cls := "com/example/arachne/arachne/Edge", name := "isSelfLoop", desc := "()Z" } : Jvm.MethodName) prog_5_method_5_code (1 : Nat) (Option.some Jvm.ClassFile.FieldType.boolean)]
set_option maxRecDepth 65536 in
theorem codes_eq : words1.filter isCode = codes1 := rfl
theorem w_codes : ∀ c ∈ words1.filter isCode, c.before args0 about1 = true := by
  rw [codes_eq]
  intro c hc
  simp only [codes1, List.mem_cons, List.not_mem_nil, or_false] at hc
  rcases hc with rfl | rfl | rfl | rfl | rfl | rfl | rfl | rfl | rfl
  · exact w_c0
  · exact w_c1
  · exact w_c2
  · exact w_c3
  · exact w_c4
  · exact w_c5
  · exact w_c6
  · exact w_c7
  · exact w_c8
set_option maxRecDepth 65536 in
theorem w_t1 : (words1.take 24).all (fun c => isCode c || c.before args0 about1) = true := by decide +kernel
set_option maxRecDepth 65536 in
theorem w_t2 : ((words1.drop 24).take 24).all (fun c => isCode c || c.before args0 about1) = true := by decide +kernel
set_option maxRecDepth 65536 in
theorem w_t3 : ((words1.drop 24).drop 24).all (fun c => isCode c || c.before args0 about1) = true := by decide +kernel
theorem w_tables : (allAtoms (Jvm.Cond.code x code maxLocals ret :: tables_1)).before args0 about1 = true := by
  rw [allAtoms_all]
  show words1.all (fun c => c.before args0 about1) = true
  refine all_split ?_ w_codes
  rw [← List.take_append_drop 24 words1, List.all_append, w_t1, ← List.take_append_drop 24 (words1.drop 24), List.all_append, w_t2, w_t3]
  rfl
set_option maxRecDepth 65536 in
theorem w_rest : rest_1_c.before args0 about1 = true := by decide +kernel
set_option maxRecDepth 65536 in
theorem w_case : (Jvm.Cond.and given_1 narrow_1).before args0 about1 = true := by decide +kernel
theorem w_applies : (headSpec (Jvm.Cond.code x code maxLocals ret :: tables_1) room_1).applies x e0.platform about1 = true :=
  (Spec.applies_iff w_frames).mpr ⟨w_running, w_runnable, w_alone, w_named, w_hears, w_ripe, w_room, w_tables⟩
theorem atStart : AtStart classFile x code maxLocals ret World_1 tables_1 room_1 Calls_1 rest_1 Pre_1 launch0 p0 e0 about1 theMethod args0 below0 :=
  ⟨lists_1, trivial, launch0.admits_env _ _ _, launch0.least_env, fairChoices_fair.cas, fairChoices_fair.clock, w_frames, w_args, w_heap, w_applies, trivial, w_rest, w_case⟩
end start1
theorem witness_1 : WitnessClaimed_1 := ⟨start1.p0, start1.e0, start1.about1, start1.theMethod, start1.args0, start1.below0, start1.atStart⟩
end Jvm.Pilot.@@N@@
