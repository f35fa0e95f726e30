import JvmDerived
import JvmDerived.Pilot.@@N@@Statement
import JvmDerived.Pilot.@@N@@Code
set_option linter.unusedVariables false
set_option linter.unusedSimpArgs false
namespace Own
open Jvm Jvm.ClassFile Sem Op Lib Jvm.Stand Jvm.Free Jvm.LawKit Jvm.RoadKit
def Fin (p : Program) (e : Env) (below : List Frame) (G : State) (Q : Outcome → State → Prop) : Prop :=
  ∃ s₂ o, Steps p.tables e below G s₂ ∧ s₂.status = .running ∧ Ended s₂ below o ∧ Q o s₂
def Post (s : State) (K : Option Value → Heap → List Loc → Prop) (cc ss : Nat) (o : Outcome) (U : State) : Prop :=
  ∃ v L, o = .returned v ∧ K v U.heap L ∧ FrameEnd s o U L cc ss
theorem go {p : Program} {e : Env} {below : List Frame} {G G' : State} {Q : Outcome → State → Prop} (h : ∀ t, Steps p.tables e below G' t → Steps p.tables e below G t) (k : Fin p e below G' Q) : Fin p e below G Q := by
  obtain ⟨s₂, o, h1, h2⟩ := k
  exact ⟨s₂, o, h _ h1, h2⟩
theorem start {p : Program} {e : Env} {below : List Frame} {T : State} {g g' : JFrame} {Q : Outcome → State → Prop} (q : g = g') (k : Fin p e below (T.setTop g') Q) : Fin p e below (T.setTop g) Q := q ▸ k
theorem clamp_lt {j z : Int32} {n : Nat} (hj : ¬ j < 0 ∧ j < z) (hz : z.toNatClampNeg = n) : j.toNatClampNeg < n := by
  subst hz
  have h1 := hj.1; have h2 := hj.2
  rw [Int32.lt_iff_toInt_lt] at h1 h2
  have h0 : (0 : Int32).toInt = 0 := by decide
  rw [h0] at h1
  show j.toInt.toNat < z.toInt.toNat
  omega
section A
variable {p : Program} {l : Launch} {e : Env} {R : Room} {s : State} {m : MethodId} {args : Array Value} {below : List Frame} {meth : Method} {c : Code} {T : State} {locs : List Loc} {cells slots : Nat}
theorem retAny (X : Stand p l e R s m args below meth c T locs cells slots) {v : Option Value} (hlk : meth.locks = false) (hv : meth.sig.returnType = none → v = none) {g : JFrame}
    (hstep : ∀ fs, (∀ (f : JFrame) (acts : List Action), f.method = m → f.locked = none → f.entered = [] → (doReturn e (T.setTop f) acts v).1 = T.setFrames fs) → Steps p.tables e below (T.setTop g) (T.setFrames fs))
    {K : Option Value → Heap → List Loc → Prop} {cc ss : Nat} (hc : cells ≤ cc) (hs : slots ≤ ss) (hk : K v T.heap locs) : Fin p e below (T.setTop g) (Post s K cc ss) := by
  obtain ⟨fs, hr, hrun, hended, hW, hsame⟩ := X.leave (v := v) hv hlk
  exact ⟨_, _, hstep fs hr, hrun, hended, _, _, rfl, hk, ⟨_, rfl⟩, hW, hsame.mono hc hs⟩
theorem retI (X : Stand p l e R s m args below meth c T locs cells slots) (hx : p.tables.exec = Jvm.exec) (hlk : meth.locks = false) (hret : meth.sig.returnType = some .int) {pc : Nat} {Ls : Array Slot} {z : Int32} {rest : List Value} (hd : decode c.code pc = .ok (.ireturn, 1))
    {K : Option Value → Heap → List Loc → Prop} {cc ss : Nat} (hc : cells ≤ cc) (hs : slots ≤ ss) (hk : K (some (.int z)) T.heap locs) : Fin p e below (T.setTop (mkF m pc Ls (.int z :: rest))) (Post s K cc ss) := by
  refine retAny X (v := some (.int z)) hlk (fun h => by rw [hret] at h; cases h) (fun fs hl => ?_) hc hs hk
  have hm' : T.vm.method? m = some meth := X.method'
  have hn : narrow .int (.int z) = .int z := rfl
  show Steps p.tables e below (T.setTop { method := m, pc := pc, locals := Ls, stack := _ :: rest, locked := none }) _
  jvm_step X.here [X.here.top, hx, hd, hm', hret, hn]
  first | (intro acts; rw [hl _ acts rfl rfl rfl]) | rw [hl _ _ rfl rfl rfl]
  exact Steps.refl _
theorem retN (X : Stand p l e R s m args below meth c T locs cells slots) (hx : p.tables.exec = Jvm.exec) (hlk : meth.locks = false) {t : FieldType} (hret : meth.sig.returnType = some t) (ht : t = .boolean ∨ t = .byte ∨ t = .char ∨ t = .short) {pc : Nat} {Ls : Array Slot} {z : Int32} {rest : List Value} (hd : decode c.code pc = .ok (.ireturn, 1))
    {K : Option Value → Heap → List Loc → Prop} {cc ss : Nat} (hc : cells ≤ cc) (hs : slots ≤ ss) (hk : K (some (.int (nar t z))) T.heap locs) : Fin p e below (T.setTop (mkF m pc Ls (.int z :: rest))) (Post s K cc ss) :=
  retAny X (v := some (.int (nar t z))) hlk (fun h => by rw [hret] at h; cases h) (fun fs hl => RoadKit.retN X hx hret ht hd hl) hc hs hk
theorem retJ (X : Stand p l e R s m args below meth c T locs cells slots) (hx : p.tables.exec = Jvm.exec) (hlk : meth.locks = false) (hret : meth.sig.returnType = some .long) {pc : Nat} {Ls : Array Slot} {z : Int64} {rest : List Value} (hd : decode c.code pc = .ok (.lreturn, 1))
    {K : Option Value → Heap → List Loc → Prop} {cc ss : Nat} (hc : cells ≤ cc) (hs : slots ≤ ss) (hk : K (some (.long z)) T.heap locs) : Fin p e below (T.setTop (mkF m pc Ls (.long z :: rest))) (Post s K cc ss) := by
  refine retAny X (v := some (.long z)) hlk (fun h => by rw [hret] at h; cases h) (fun fs hl => ?_) hc hs hk
  have hm' : T.vm.method? m = some meth := X.method'
  show Steps p.tables e below (T.setTop { method := m, pc := pc, locals := Ls, stack := _ :: rest, locked := none }) _
  jvm_step X.here [X.here.top, hx, hd, hm', hret, narrow]
  first | (intro acts; rw [hl _ acts rfl rfl rfl]) | rw [hl _ _ rfl rfl rfl]
  exact Steps.refl _
theorem retV (X : Stand p l e R s m args below meth c T locs cells slots) (hx : p.tables.exec = Jvm.exec) (hlk : meth.locks = false) (hret : meth.sig.returnType = none) {pc : Nat} {Ls : Array Slot} (hd : decode c.code pc = .ok (.return_, 1))
    {K : Option Value → Heap → List Loc → Prop} {cc ss : Nat} (hc : cells ≤ cc) (hs : slots ≤ ss) (hk : K none T.heap locs) : Fin p e below (T.setTop (mkF m pc Ls [])) (Post s K cc ss) :=
  retAny X (v := none) hlk (fun _ => rfl) (fun fs hl => X.returnOut hx hret hd hl) hc hs hk
theorem cS {Z : State} {a0 : Array Value} {h : Heap} (X : Stand p l e R s m args below meth c T locs cells slots) (hx : p.tables.exec = Jvm.exec) (hZ : Z.Warmed39 s.vm) {own : String} {index : Nat} {y : MethodName} {bytes : ByteArray} {maxL : Nat} {ret : Option FieldType} {rm : Room} {as' : Array Value} {Q : Option Value → Heap → List Loc → Prop}
    (hown : s.vm.findClass own = some m.cls) (w1 : (Cond.methodLink own index y).before a0 Z = true) (w2 : (Cond.static y).before a0 Z = true) (w3 : (Cond.initialized y.cls).before a0 Z = true) (w4 : (Cond.code y bytes maxL ret).before a0 Z = true)
    (hy : y.cls ≠ "java/lang/invoke/MethodHandle" ∧ y.cls ≠ "java/lang/invoke/VarHandle")
    (hM : MetFree l y (head1 [Cond.code y bytes maxL ret] rm) (fun a U => a = as' ∧ Z.Warmed39 U.vm ∧ U.heap = h) (fun _ _ _ _ _ => True) (fun _ U o U' => ∃ v L, o = .returned v ∧ Q v U'.heap L ∧ FrameEnd U o U' L rm.cells rm.slots))
    (hf : rm.frames + 1 ≤ R.frames) {W : Nat} (hl : W + (maxL + 11) + rm.locals ≤ R.locals) {pc : Nat} {ls : Array Slot} {argsL rest : List Value} (hsize : ls.size = c.maxLocals) (hlen : ∀ sig, parseMethodDescriptor y.desc = some sig → argsL.length = sig.parameters.length)
    (has : argsL.toArray = as') (hW : (rest.map fun v => v.category).sum ≤ W) (hd : decode c.code pc = .ok (.invokestatic index, 3)) (eT : T.heap = h) (hcc : cells + rm.cells ≤ R.cells) (hss : slots + rm.slots ≤ R.slots) {P : Outcome → State → Prop}
    (k : ∀ T' L v, Stand p l e R s m args below meth c T' (locs ++ L) (cells + rm.cells) (slots + rm.slots) → Q v T'.heap L → Fin p e below (T'.setTop (mkF m (pc + 3) ls (v.toList ++ rest))) P) :
    Fin p e below (T.setTop (mkF m pc ls (argsL.reverse ++ rest))) P := by
  obtain ⟨v, _, ⟨T', L', k', n'⟩, -, X', ⟨L, hQ, e1, e2, e3⟩, st⟩ := Jvm.LawKit.callS X hx (y := y) hown (mvT hZ w1) (mvT hZ w2) (mvT hZ w3) (mvT hZ w4) hy (backOf (W := W) hM hZ w4 w3 hf hl) (g := mkF m pc ls (argsL.reverse ++ rest)) rfl hsize (argsL := argsL) (rest := rest) hlen rfl
    (by show 2 * 0 + _ ≤ _; omega) hd (fun _ _ => ⟨has, eT, hcc, hss⟩)
  dsimp only [Pt.U, Pt.locs, Pt.cells, Pt.slots] at X' e1 e2 e3 st hQ
  subst e1 e2 e3
  exact go st (k T' L v X' hQ)
theorem cI {Z : State} {a0 : Array Value} {h : Heap} (X : Stand p l e R s m args below meth c T locs cells slots) (hx : p.tables.exec = Jvm.exec) (hZ : Z.Warmed39 s.vm) {own : String} {index : Nat} {y : MethodName} {bytes : ByteArray} {maxL : Nat} {rm : Room} {as' : Array Value} {Q : Option Value → Heap → List Loc → Prop}
    (hy1 : y.name = "<init>") (hown : s.vm.findClass own = some m.cls) (w1 : (Cond.methodLink own index y).before a0 Z = true) (w2 : (Cond.instanceMethod y).before a0 Z = true) (w3 : (Cond.initialized y.cls).before a0 Z = true) (w4 : (Cond.code y bytes maxL none).before a0 Z = true)
    (hy : y.cls ≠ "java/lang/invoke/MethodHandle" ∧ y.cls ≠ "java/lang/invoke/VarHandle")
    (hM : MetFree l y (head1 [Cond.code y bytes maxL none] rm) (fun a U => a = as' ∧ Z.Warmed39 U.vm ∧ U.heap = h) (fun _ _ _ _ _ => True) (fun _ U o U' => ∃ v L, o = .returned v ∧ Q v U'.heap L ∧ FrameEnd U o U' L rm.cells rm.slots))
    (hf : rm.frames + 1 ≤ R.frames) {W : Nat} (hl : W + (maxL + 11) + rm.locals ≤ R.locals) {pc : Nat} {ls : Array Slot} {a : Addr} {argsL rest : List Value} (hsize : ls.size = c.maxLocals) (hlen : ∀ sig, parseMethodDescriptor y.desc = some sig → argsL.length = sig.parameters.length)
    (has : (Value.ref a :: argsL).toArray = as') (hW : (rest.map fun v => v.category).sum ≤ W) (hd : decode c.code pc = .ok (.invokespecial index, 3)) (eT : T.heap = h) (hcc : cells + rm.cells ≤ R.cells) (hss : slots + rm.slots ≤ R.slots) {P : Outcome → State → Prop}
    (k : ∀ T' L v, Stand p l e R s m args below meth c T' (locs ++ L) (cells + rm.cells) (slots + rm.slots) → Q v T'.heap L → Fin p e below (T'.setTop (mkF m (pc + 3) ls (v.toList ++ rest))) P) :
    Fin p e below (T.setTop (mkF m pc ls (argsL.reverse ++ .ref a :: rest))) P := by
  obtain ⟨v, _, ⟨T', L', k', n'⟩, -, X', ⟨L, hQ, e1, e2, e3⟩, st⟩ := X.specialBack hx (y := y) hy1 hown (mvT hZ w1) (mvT hZ w2) (mvT hZ w4) hy (backOf (W := W) hM hZ w4 w3 hf hl) (g := mkF m pc ls (argsL.reverse ++ .ref a :: rest)) rfl hsize (Steps.refl _) (a := a) (argsL := argsL) (rest := rest) hlen rfl
    (by show 2 * 0 + _ ≤ _; omega) hd (fun _ _ => ⟨has, eT, hcc, hss⟩)
  dsimp only [Pt.U, Pt.locs, Pt.cells, Pt.slots] at X' e1 e2 e3 st hQ
  subst e1 e2 e3
  exact go (fun t kt => st.trans kt) (k T' L v X' hQ)
theorem cV {Z : State} {a0 : Array Value} {h : Heap} (X : Stand p l e R s m args below meth c T locs cells slots) (hx : p.tables.exec = Jvm.exec) (hZ : Z.Warmed39 s.vm) {own C : String} {index : Nat} {y z : MethodName} {bytes : ByteArray} {maxL : Nat} {ret : Option FieldType} {rm : Room} {as' : Array Value} {Q : Option Value → Heap → List Loc → Prop}
    (hown : s.vm.findClass own = some m.cls) (w1 : (Cond.methodLink own index y).before a0 Z = true) (w2 : (Cond.declares y).before a0 Z = true) (hnf : NotFace s y) (w5 : (Cond.selects C y z).before a0 Z = true) (w6 : (Cond.instanceMethod z).before a0 Z = true) (w3 : (Cond.initialized z.cls).before a0 Z = true) (w4 : (Cond.code z bytes maxL ret).before a0 Z = true)
    (hy : y.cls ≠ "java/lang/invoke/MethodHandle" ∧ y.cls ≠ "java/lang/invoke/VarHandle")
    (hM : MetFree l z (head1 [Cond.code z bytes maxL ret] rm) (fun a U => a = as' ∧ Z.Warmed39 U.vm ∧ U.heap = h) (fun _ _ _ _ _ => True) (fun _ U o U' => ∃ v L, o = .returned v ∧ Q v U'.heap L ∧ FrameEnd U o U' L rm.cells rm.slots))
    (hf : rm.frames + 1 ≤ R.frames) {W : Nat} (hl : W + (maxL + 11) + rm.locals ≤ R.locals) {pc : Nat} {ls : Array Slot} {a : Addr} {argsL rest : List Value} (E : Exa Z h a C) (hsize : ls.size = c.maxLocals) (hlen : ∀ sig, parseMethodDescriptor y.desc = some sig → argsL.length = sig.parameters.length)
    (has : (Value.ref a :: argsL).toArray = as') (hW : (rest.map fun v => v.category).sum ≤ W) (hd : decode c.code pc = .ok (.invokevirtual index, 3)) (eT : T.heap = h) (hcc : cells + rm.cells ≤ R.cells) (hss : slots + rm.slots ≤ R.slots) {P : Outcome → State → Prop}
    (k : ∀ T' L v, Stand p l e R s m args below meth c T' (locs ++ L) (cells + rm.cells) (slots + rm.slots) → Q v T'.heap L → Fin p e below (T'.setTop (mkF m (pc + 3) ls (v.toList ++ rest))) P) :
    Fin p e below (T.setTop (mkF m pc ls (argsL.reverse ++ .ref a :: rest))) P := by
  obtain ⟨cq, kq, qa, qb, qc⟩ := isOf hZ eT E
  obtain ⟨v, _, ⟨T', L', k', n'⟩, -, X', ⟨L, hQ, e1, e2, e3⟩, st⟩ := X.virtualBack hx (y := y) (z := z) hown (mvT hZ w1) (mvT hZ w2) hnf (mvT hZ w5) (mvT hZ w6) hy (backOf (W := W) hM hZ w4 w3 hf hl) qa qc (g := mkF m pc ls (argsL.reverse ++ .ref a :: rest)) rfl hsize (Steps.refl _) (argsL := argsL) (rest := rest) hlen rfl
    (by show 2 * 0 + _ ≤ _; omega) hd (fun _ _ => ⟨has, eT, hcc, hss⟩)
  dsimp only [Pt.U, Pt.locs, Pt.cells, Pt.slots] at X' e1 e2 e3 st hQ
  subst e1 e2 e3
  exact go (fun t kt => st.trans kt) (k T' L v X' hQ)
theorem newA {Z : State} {a0 : Array Value} {h : Heap} (X : Stand p l e R s m args below meth c T locs cells slots) (hx : p.tables.exec = Jvm.exec) (hZ : Z.Warmed39 s.vm) {aty : ArrayType} (w : (Cond.arrayClass (newarray.typeOf aty)).before a0 Z = true) (eT : T.heap = h)
    {pc : Nat} {ls : Array Slot} {n : Int32} {rest : List Value} (hd : decode c.code pc = .ok (.newarray aty, 2)) (hn : ¬ n < 0) (cap : Nat) (hcap : n.toNatClampNeg ≤ cap) (hb : cap * 8 ≤ 536870912) (hc : cells + 1 ≤ R.cells) (hl : slots + cap ≤ R.slots) {P : Outcome → State → Prop}
    (k : ∀ T' h' b kA, Stand p l e R s m args below meth c T' locs (cells + 1) (slots + cap) → T'.heap = h' → Ext h h' → b = h.size → Arv Z h' b kA (newarray.typeOf aty) n [] (defaultValue (newarray.typeOf aty)) → Fin p e below (T'.setTop (mkF m (pc + 2) ls (.ref b :: rest))) P) :
    Fin p e below (T.setTop (mkF m pc ls (.int n :: rest))) P := by
  obtain ⟨T', h', kA, X', e', E', A', st⟩ := newP X hx hZ w eT (g := mkF m pc ls (.int n :: rest)) rfl hd rfl hn hcap hb hc hl
  exact go st (k T' h' _ kA X' e' E' rfl (Arv.new A' hn))
theorem stI {Z : State} {h : Heap} {a : Addr} {kA : ClassId} {z : Int32} {vs : List Value} {dv : Value} (X : Stand p l e R s m args below meth c T locs cells slots) (hx : p.tables.exec = Jvm.exec) (hZ : Z.Warmed39 s.vm) (eT : T.heap = h) (V : Arv Z h a kA .int z vs dv)
    {pc : Nat} {ls : Array Slot} {j x : Int32} {rest : List Value} (hd : decode c.code pc = .ok (.iastore, 1)) (hj : ¬ j < 0 ∧ j < z) (i : Nat) (hi : j.toNatClampNeg = i) (hlen : i < vs.length) {P : Outcome → State → Prop}
    (k : ∀ T' h', Stand p l e R s m args below meth c T' (locs ++ [⟨a, j.toNatClampNeg⟩]) cells slots → T'.heap = h' → Wr h h' a j.toNatClampNeg (.int x) → Arv Z h' a kA .int z (vs.set i (.int x)) dv → Fin p e below (T'.setTop (mkF m (pc + 1) ls rest)) P) :
    Fin p e below (T.setTop (mkF m pc ls (.int x :: .int j :: .ref a :: rest))) P := by
  obtain ⟨cl, Ar, q, S, N, H, G⟩ := V
  obtain ⟨T', h', X', e', W', st⟩ := RoadKit.stI X hx hZ eT Ar (j := j) (inb_of S hj) (g := mkF m pc ls (.int x :: .int j :: .ref a :: rest)) rfl rfl hd
  exact go st (k T' h' X' e' W' (Arv.set Ar q S N H G rfl W' i hi hlen))
theorem stJ {Z : State} {h : Heap} {a : Addr} {kA : ClassId} {z : Int32} {vs : List Value} {dv : Value} (X : Stand p l e R s m args below meth c T locs cells slots) (hx : p.tables.exec = Jvm.exec) (hZ : Z.Warmed39 s.vm) (eT : T.heap = h) (V : Arv Z h a kA .long z vs dv)
    {pc : Nat} {ls : Array Slot} {j : Int32} {x : Int64} {rest : List Value} (hd : decode c.code pc = .ok (.lastore, 1)) (hj : ¬ j < 0 ∧ j < z) (i : Nat) (hi : j.toNatClampNeg = i) (hlen : i < vs.length) {P : Outcome → State → Prop}
    (k : ∀ T' h', Stand p l e R s m args below meth c T' (locs ++ [⟨a, j.toNatClampNeg⟩]) cells slots → T'.heap = h' → Wr h h' a j.toNatClampNeg (.long x) → Arv Z h' a kA .long z (vs.set i (.long x)) dv → Fin p e below (T'.setTop (mkF m (pc + 1) ls rest)) P) :
    Fin p e below (T.setTop (mkF m pc ls (.long x :: .int j :: .ref a :: rest))) P := by
  obtain ⟨cl, Ar, q, S, N, H, G⟩ := V
  obtain ⟨T', h', X', e', W', st⟩ := RoadKit.stJ X hx hZ eT Ar (j := j) (inb_of S hj) (g := mkF m pc ls (.long x :: .int j :: .ref a :: rest)) rfl rfl hd
  exact go st (k T' h' X' e' W' (Arv.set Ar q S N H G rfl W' i hi hlen))
theorem stB {Z : State} {h : Heap} {a : Addr} {kA : ClassId} {z : Int32} {vs : List Value} {dv : Value} (X : Stand p l e R s m args below meth c T locs cells slots) (hx : p.tables.exec = Jvm.exec) (hZ : Z.Warmed39 s.vm) (eT : T.heap = h) (V : Arv Z h a kA .byte z vs dv)
    {pc : Nat} {ls : Array Slot} {j x : Int32} {rest : List Value} (hd : decode c.code pc = .ok (.bastore, 1)) (hj : ¬ j < 0 ∧ j < z) (i : Nat) (hi : j.toNatClampNeg = i) (hlen : i < vs.length) {P : Outcome → State → Prop}
    (k : ∀ T' h', Stand p l e R s m args below meth c T' (locs ++ [⟨a, j.toNatClampNeg⟩]) cells slots → T'.heap = h' → Wr h h' a j.toNatClampNeg (.int (nar .byte x)) → Arv Z h' a kA .byte z (vs.set i (.int (nar .byte x))) dv → Fin p e below (T'.setTop (mkF m (pc + 1) ls rest)) P) :
    Fin p e below (T.setTop (mkF m pc ls (.int x :: .int j :: .ref a :: rest))) P := by
  obtain ⟨cl, Ar, q, S, N, H, G⟩ := V
  obtain ⟨T', h', X', e', W', st⟩ := RoadKit.stB X hx hZ eT Ar (j := j) (inb_of S hj) (g := mkF m pc ls (.int x :: .int j :: .ref a :: rest)) rfl rfl hd
  exact go st (k T' h' X' e' W' (Arv.set Ar q S N H G (fits_nar_byte _) W' i hi hlen))
theorem stC {Z : State} {h : Heap} {a : Addr} {kA : ClassId} {z : Int32} {vs : List Value} {dv : Value} (X : Stand p l e R s m args below meth c T locs cells slots) (hx : p.tables.exec = Jvm.exec) (hZ : Z.Warmed39 s.vm) (eT : T.heap = h) (V : Arv Z h a kA .char z vs dv)
    {pc : Nat} {ls : Array Slot} {j x : Int32} {rest : List Value} (hd : decode c.code pc = .ok (.castore, 1)) (hj : ¬ j < 0 ∧ j < z) (i : Nat) (hi : j.toNatClampNeg = i) (hlen : i < vs.length) {P : Outcome → State → Prop}
    (k : ∀ T' h', Stand p l e R s m args below meth c T' (locs ++ [⟨a, j.toNatClampNeg⟩]) cells slots → T'.heap = h' → Wr h h' a j.toNatClampNeg (.int (nar .char x)) → Arv Z h' a kA .char z (vs.set i (.int (nar .char x))) dv → Fin p e below (T'.setTop (mkF m (pc + 1) ls rest)) P) :
    Fin p e below (T.setTop (mkF m pc ls (.int x :: .int j :: .ref a :: rest))) P := by
  obtain ⟨cl, Ar, q, S, N, H, G⟩ := V
  obtain ⟨T', h', X', e', W', st⟩ := RoadKit.stC X hx hZ eT Ar (j := j) (inb_of S hj) (g := mkF m pc ls (.int x :: .int j :: .ref a :: rest)) rfl rfl hd
  exact go st (k T' h' X' e' W' (Arv.set Ar q S N H G (fits_nar_char _) W' i hi hlen))
theorem alen {Z : State} {h : Heap} {a : Addr} {kA : ClassId} {ty : FieldType} {z : Int32} {vs : List Value} {dv : Value} (X : Stand p l e R s m args below meth c T locs cells slots) (hx : p.tables.exec = Jvm.exec) (hZ : Z.Warmed39 s.vm) (eT : T.heap = h) (V : Arv Z h a kA ty z vs dv)
    {pc : Nat} {ls : Array Slot} {rest : List Value} (hd : decode c.code pc = .ok (.arraylength, 1)) {P : Outcome → State → Prop} (k : Fin p e below (T.setTop (mkF m (pc + 1) ls (.int z :: rest))) P) :
    Fin p e below (T.setTop (mkF m pc ls (.ref a :: rest))) P := by
  obtain ⟨cl, Ar, q, S, N, H, G⟩ := V
  refine go (fun t kt => X.arraylength hx (by rw [eT]; exact Ar.1) (State.isArrayOf_alike hZ.alike Ar.2.1) (g := mkF m pc ls (.ref a :: rest)) rfl rfl hd t kt) ?_
  rw [len_of S N]
  exact k
theorem arv_at {Z : State} {h : Heap} {a : Addr} {kA : ClassId} {ty : FieldType} {z : Int32} {vs : List Value} {dv : Value} (V : Arv Z h a kA ty z vs dv) {j : Int32} (hj : ¬ j < 0 ∧ j < z) :
    ∃ cl, Arr Z h a cl ty ∧ ¬ (j < 0 ∨ cl.slots.size ≤ j.toNatClampNeg) ∧ cl.slots[j.toNatClampNeg]? = some (vs.getD j.toNatClampNeg dv) ∧ fits ty (vs.getD j.toNatClampNeg dv) = true := by
  obtain ⟨cl, Ar, q, S, N, H, G⟩ := V
  have hin := inb_of S hj
  have hlt : j.toNatClampNeg < cl.slots.size := Nat.lt_of_not_le fun q => hin (Or.inr q)
  exact ⟨cl, Ar, hin, H _ hlt, G _ hlt⟩
theorem ldI {Z : State} {h : Heap} {a : Addr} {kA : ClassId} {z : Int32} {vs : List Value} {dv : Value} (X : Stand p l e R s m args below meth c T locs cells slots) (hx : p.tables.exec = Jvm.exec) (hZ : Z.Warmed39 s.vm) (eT : T.heap = h) (V : Arv Z h a kA .int z vs dv)
    {pc : Nat} {ls : Array Slot} {j : Int32} {rest : List Value} (hd : decode c.code pc = .ok (.iaload, 1)) (hj : ¬ j < 0 ∧ j < z) {P : Outcome → State → Prop} (k : ∀ x, vs.getD j.toNatClampNeg dv = .int x → Fin p e below (T.setTop (mkF m (pc + 1) ls (.int x :: rest))) P) :
    Fin p e below (T.setTop (mkF m pc ls (.int j :: .ref a :: rest))) P := by
  obtain ⟨cl, Ar, hin, hat, hf⟩ := arv_at V hj
  obtain ⟨x, hx'⟩ := fit_I hf (Or.inl rfl)
  refine go (fun t kt => X.iaload hx (j := j) (v := .int x) (by rw [eT]; exact Ar.1) (State.isArrayOf_alike hZ.alike Ar.2.1) Ar.2.2 hin (by rw [hat, hx']) (g := mkF m pc ls (.int j :: .ref a :: rest)) rfl rfl hd t kt) (k x hx')
theorem ldJ {Z : State} {h : Heap} {a : Addr} {kA : ClassId} {z : Int32} {vs : List Value} {dv : Value} (X : Stand p l e R s m args below meth c T locs cells slots) (hx : p.tables.exec = Jvm.exec) (hZ : Z.Warmed39 s.vm) (eT : T.heap = h) (V : Arv Z h a kA .long z vs dv)
    {pc : Nat} {ls : Array Slot} {j : Int32} {rest : List Value} (hd : decode c.code pc = .ok (.laload, 1)) (hj : ¬ j < 0 ∧ j < z) {P : Outcome → State → Prop} (k : ∀ x, vs.getD j.toNatClampNeg dv = .long x → Fin p e below (T.setTop (mkF m (pc + 1) ls (.long x :: rest))) P) :
    Fin p e below (T.setTop (mkF m pc ls (.int j :: .ref a :: rest))) P := by
  obtain ⟨cl, Ar, hin, hat, hf⟩ := arv_at V hj
  obtain ⟨x, hx'⟩ := fit_J hf
  refine go (fun t kt => X.laload hx (j := j) (v := .long x) (by rw [eT]; exact Ar.1) (State.isArrayOf_alike hZ.alike Ar.2.1) Ar.2.2 hin (by rw [hat, hx']) (g := mkF m pc ls (.int j :: .ref a :: rest)) rfl rfl hd t kt) (k x hx')
theorem ldB {Z : State} {h : Heap} {a : Addr} {kA : ClassId} {z : Int32} {vs : List Value} {dv : Value} (X : Stand p l e R s m args below meth c T locs cells slots) (hx : p.tables.exec = Jvm.exec) (hZ : Z.Warmed39 s.vm) (eT : T.heap = h) (V : Arv Z h a kA .byte z vs dv)
    {pc : Nat} {ls : Array Slot} {j : Int32} {rest : List Value} (hd : decode c.code pc = .ok (.baload, 1)) (hj : ¬ j < 0 ∧ j < z) {P : Outcome → State → Prop} (k : ∀ x, vs.getD j.toNatClampNeg dv = .int x → Fin p e below (T.setTop (mkF m (pc + 1) ls (.int x :: rest))) P) :
    Fin p e below (T.setTop (mkF m pc ls (.int j :: .ref a :: rest))) P := by
  obtain ⟨cl, Ar, hin, hat, hf⟩ := arv_at V hj
  obtain ⟨x, hx'⟩ := fit_I hf (Or.inr (Or.inr (Or.inl rfl)))
  refine go (fun t kt => X.baloadBytes hx (j := j) (v := .int x) (by rw [eT]; exact Ar.1) (State.isArrayOf_alike hZ.alike Ar.2.1) Ar.2.2 hin (by rw [hat, hx']) (g := mkF m pc ls (.int j :: .ref a :: rest)) rfl rfl hd t kt) (k x hx')
theorem ldC {Z : State} {h : Heap} {a : Addr} {kA : ClassId} {z : Int32} {vs : List Value} {dv : Value} (X : Stand p l e R s m args below meth c T locs cells slots) (hx : p.tables.exec = Jvm.exec) (hZ : Z.Warmed39 s.vm) (eT : T.heap = h) (V : Arv Z h a kA .char z vs dv)
    {pc : Nat} {ls : Array Slot} {j : Int32} {rest : List Value} (hd : decode c.code pc = .ok (.caload, 1)) (hj : ¬ j < 0 ∧ j < z) {P : Outcome → State → Prop} (k : ∀ x, vs.getD j.toNatClampNeg dv = .int x → Fin p e below (T.setTop (mkF m (pc + 1) ls (.int x :: rest))) P) :
    Fin p e below (T.setTop (mkF m pc ls (.int j :: .ref a :: rest))) P := by
  obtain ⟨cl, Ar, hin, hat, hf⟩ := arv_at V hj
  obtain ⟨x, hx'⟩ := fit_I hf (Or.inr (Or.inr (Or.inr (Or.inl rfl))))
  refine go (fun t kt => X.caload hx (j := j) (v := .int x) (by rw [eT]; exact Ar.1) (State.isArrayOf_alike hZ.alike Ar.2.1) Ar.2.2 hin (by rw [hat, hx']) (g := mkF m pc ls (.int j :: .ref a :: rest)) rfl rfl hd t kt) (k x hx')
theorem ldR {Z : State} {h : Heap} {a : Addr} {kA : ClassId} {ty : FieldType} {z : Int32} {vs : List Value} {dv : Value} (X : Stand p l e R s m args below meth c T locs cells slots) (hx : p.tables.exec = Jvm.exec) (hZ : Z.Warmed39 s.vm) (eT : T.heap = h) (V : Arv Z h a kA ty z vs dv) (ht : ty.isReference = true)
    {pc : Nat} {ls : Array Slot} {j : Int32} {rest : List Value} (hd : decode c.code pc = .ok (.aaload, 1)) (hj : ¬ j < 0 ∧ j < z) {w : Value} (hv : vs.getD j.toNatClampNeg dv = w) {P : Outcome → State → Prop} (k : Fin p e below (T.setTop (mkF m (pc + 1) ls (w :: rest))) P) :
    Fin p e below (T.setTop (mkF m pc ls (.int j :: .ref a :: rest))) P := by
  obtain ⟨cl, Ar, hin, hat, hf⟩ := arv_at V hj
  exact go (fun t kt => X.aaload hx (j := j) (v := w) (by rw [eT]; exact Ar.1) (State.isArrayOf_alike hZ.alike Ar.2.1) ht Ar.2.2 hin (by rw [hat, hv]) (g := mkF m pc ls (.int j :: .ref a :: rest)) rfl rfl hd t kt) k
theorem ldBc {Z : State} {h : Heap} {a : Addr} {cl : Cell} (X : Stand p l e R s m args below meth c T locs cells slots) (hx : p.tables.exec = Jvm.exec) (hZ : Z.Warmed39 s.vm) (eT : T.heap = h) (A : Arr Z h a cl .byte)
    {pc : Nat} {ls : Array Slot} {j x : Int32} {rest : List Value} (hd : decode c.code pc = .ok (.baload, 1)) (hin : ¬ (j < 0 ∨ cl.slots.size ≤ j.toNatClampNeg)) (hv : cl.slots[j.toNatClampNeg]? = some (.int x)) {P : Outcome → State → Prop} (k : Fin p e below (T.setTop (mkF m (pc + 1) ls (.int x :: rest))) P) :
    Fin p e below (T.setTop (mkF m pc ls (.int j :: .ref a :: rest))) P :=
  go (fun t kt => X.baloadBytes hx (j := j) (v := .int x) (by rw [eT]; exact A.1) (State.isArrayOf_alike hZ.alike A.2.1) A.2.2 hin hv (g := mkF m pc ls (.int j :: .ref a :: rest)) rfl rfl hd t kt) k
theorem alenC {Z : State} {h : Heap} {a : Addr} {cl : Cell} {ty : FieldType} {z : Int32} (X : Stand p l e R s m args below meth c T locs cells slots) (hx : p.tables.exec = Jvm.exec) (hZ : Z.Warmed39 s.vm) (eT : T.heap = h) (A : Arr Z h a cl ty) (hz : cl.slots.size.toInt32 = z)
    {pc : Nat} {ls : Array Slot} {rest : List Value} (hd : decode c.code pc = .ok (.arraylength, 1)) {P : Outcome → State → Prop} (k : Fin p e below (T.setTop (mkF m (pc + 1) ls (.int z :: rest))) P) :
    Fin p e below (T.setTop (mkF m pc ls (.ref a :: rest))) P := by
  refine go (fun t kt => X.arraylength hx (by rw [eT]; exact A.1) (State.isArrayOf_alike hZ.alike A.2.1) (g := mkF m pc ls (.ref a :: rest)) rfl rfl hd t kt) ?_
  rw [hz]
  exact k
theorem retR (X : Stand p l e R s m args below meth c T locs cells slots) (hx : p.tables.exec = Jvm.exec) (hlk : meth.locks = false) {t : FieldType} (hret : meth.sig.returnType = some t) (ht : t.isReference = true) {pc : Nat} {Ls : Array Slot} {z : Value} (hz : z.isRef = true) {rest : List Value} (hd : decode c.code pc = .ok (.areturn, 1))
    {K : Option Value → Heap → List Loc → Prop} {cc ss : Nat} (hc : cells ≤ cc) (hs : slots ≤ ss) (hk : K (some z) T.heap locs) : Fin p e below (T.setTop (mkF m pc Ls (z :: rest))) (Post s K cc ss) := by
  refine retAny X (v := some z) hlk (fun h => by rw [hret] at h; cases h) (fun fs hl => ?_) hc hs hk
  have hm' : T.vm.method? m = some meth := X.method'
  show Steps p.tables e below (T.setTop { method := m, pc := pc, locals := Ls, stack := _ :: rest, locked := none }) _
  jvm_step X.here [X.here.top, hx, hd, hm', hret, ht, hz]
  first | (intro acts; rw [hl _ acts rfl rfl rfl]) | rw [hl _ _ rfl rfl rfl]
  exact Steps.refl _
theorem cP {Z : State} {a0 : Array Value} {h : Heap} (X : Stand p l e R s m args below meth c T locs cells slots) (hx : p.tables.exec = Jvm.exec) (hZ : Z.Warmed39 s.vm) {own C : String} {index : Nat} {y y' : MethodName} {bytes : ByteArray} {maxL : Nat} {ret : Option FieldType} {rm : Room} {as' : Array Value} {Q : Option Value → Heap → List Loc → Prop}
    (hown : s.vm.findClass own = some m.cls) (w1 : (Cond.methodLink own index y).before a0 Z = true) (w2 : (Cond.instanceMethod y).before a0 Z = true) (w5 : (Cond.privateMethod y).before a0 Z = true) (w7 : (Cond.selects C y' y').before a0 Z = true) (hcl : y'.cls = y.cls) (w3 : (Cond.initialized y.cls).before a0 Z = true) (w4 : (Cond.code y bytes maxL ret).before a0 Z = true)
    (hy : y.cls ≠ "java/lang/invoke/MethodHandle" ∧ y.cls ≠ "java/lang/invoke/VarHandle")
    (hM : MetFree l y (head1 [Cond.code y bytes maxL ret] rm) (fun a U => a = as' ∧ Z.Warmed39 U.vm ∧ U.heap = h) (fun _ _ _ _ _ => True) (fun _ U o U' => ∃ v L, o = .returned v ∧ Q v U'.heap L ∧ FrameEnd U o U' L rm.cells rm.slots))
    (hf : rm.frames + 1 ≤ R.frames) {W : Nat} (hl : W + (maxL + 11) + rm.locals ≤ R.locals) {pc : Nat} {ls : Array Slot} {a : Addr} {argsL rest : List Value} {C' : String} (E : Exa Z h a C') (hsize : ls.size = c.maxLocals) (hlen : ∀ sig, parseMethodDescriptor y.desc = some sig → argsL.length = sig.parameters.length)
    (has : (Value.ref a :: argsL).toArray = as') (hW : (rest.map fun v => v.category).sum ≤ W) (hd : decode c.code pc = .ok (.invokevirtual index, 3)) (eT : T.heap = h) (hcc : cells + rm.cells ≤ R.cells) (hss : slots + rm.slots ≤ R.slots) {P : Outcome → State → Prop}
    (k : ∀ T' L v, Stand p l e R s m args below meth c T' (locs ++ L) (cells + rm.cells) (slots + rm.slots) → Q v T'.heap L → Fin p e below (T'.setTop (mkF m (pc + 3) ls (v.toList ++ rest))) P) :
    Fin p e below (T.setTop (mkF m pc ls (argsL.reverse ++ .ref a :: rest))) P := by
  have hpr : s.PrivateAt y := Cond.privateMethod_at (mvP hZ w5 (args := #[]))
  have hsel : (Cond.selects y.cls y y).before args s = true := by
    obtain ⟨c2, r2, m2, q1, q2, q3, q4, kP, hkP, hkPi⟩ := Cond.selects_spec (mvT (args := args) hZ w7)
    exact selects_self_of_private (hcl ▸ findClass_of_methodNamed q3) hkP hkPi hpr (mvT hZ w2) hy
  obtain ⟨cq, q1, q2⟩ := E.cell
  obtain ⟨v, _, ⟨T', L', k', n'⟩, -, X', ⟨L, hQ, e1, e2, e3⟩, st⟩ := X.privateBack hx (y := y) hown (mvT hZ w1) (mvT hZ w2) hsel hpr (mvT hZ w4) hy (backOf (W := W) hM hZ w4 w3 hf hl) (g := mkF m pc ls (argsL.reverse ++ .ref a :: rest)) rfl hsize (Steps.refl _) (a := a) (by rw [eT]; exact q1) q2 (argsL := argsL) (rest := rest) hlen rfl
    (by show 2 * 0 + _ ≤ _; omega) hd (fun _ _ => ⟨has, eT, hcc, hss⟩)
  dsimp only [Pt.U, Pt.locs, Pt.cells, Pt.slots] at X' e1 e2 e3 st hQ
  subst e1 e2 e3
  exact go (fun t kt => st.trans kt) (k T' L v X' hQ)
end A
section B
variable {args : Array Value} {first s : State} {o : Option Outcome} {idx : List Nat} {a b : Term}
theorem eqR {y : Addr} (h : (Cond.eq a b).value args first o s idx = some true) (hb : b.eval args first o idx s = some (.ref y)) : a.eval args first o idx s = some (.ref y) := by
  obtain ⟨x', y', h1, h2, k1, k2⟩ := cmp_v (Or.inl h)
  cases hb.symm.trans h2
  have hx : x'.isRef = true := k2.2
  rw [h1, gotT (eq_R h1 hb hx rfl) h]
theorem eqI {y : Int32} (h : (Cond.eq a b).value args first o s idx = some true) (hb : b.eval args first o idx s = some (.int y)) : a.eval args first o idx s = some (.int y) := by
  obtain ⟨x', y', h1, h2, k1, k2⟩ := cmp_v (Or.inl h)
  cases hb.symm.trans h2
  obtain ⟨z, rfl⟩ := k2
  rw [h1, gotT (Cond.eq_ints h1 hb) h]
theorem len_at {y : Int32} (h : (Term.length a).eval args first o idx s = some (.int y)) : ∃ (x : Addr) (cell : Cell), a.eval args first o idx s = some (.ref x) ∧ s.arrayAt? x = some cell ∧ cell.slots.size < 2 ^ 31 ∧ cell.slots.size.toInt32 = y := by
  obtain ⟨b, cell, h1, h2, h3, h4⟩ := Jvm.Lib.length_spec h
  exact ⟨b, cell, h1, h2, h3, (Value.int.inj h4).symm⟩
end B
end Own
namespace Jvm.Pilot.@@N@@
open Jvm Jvm.ClassFile Sem Op Lib Jvm.Free Jvm.Stand Jvm.LawKit Jvm.RoadKit Bundle Jvm.Pilot.@@N@@.Jvm.D
def F_w (x : Int32) : Int32 := (x &&& (2147483647 : Int32)) - ((x &&& (2147483647 : Int32)) / (65 : Int32)) * (65 : Int32)
def F_low (x : Int64) (w : Int32) : Int64 := if w = (0 : Int32) then (0 : Int64) else ((x <<< (((64 : Int32) - w) &&& 0x3f).toInt64).toUInt64 >>> (((64 : Int32) - w) &&& 0x3f).toInt64.toUInt64).toInt64
def F_or (ws : List Int64) (n : Nat) (x : Int64) : List Int64 := ws.set n (ws.getD n 0 ||| x)
def F_wr (ws : List Int64) (en : Int64) (v : Int64) (w : Int32) : List Int64 :=
  if w = (0 : Int32) then ws else
  if (64 : Int32) < (((en).toInt32 &&& (63 : Int32)) + w) then
    F_or (F_or ws (((en).toUInt64 >>> ((6 : Int32) &&& 0x3f).toInt64.toUInt64).toInt64).toInt.toNat (v <<< (((en).toInt32 &&& (63 : Int32)) &&& 0x3f).toInt64)) ((((en).toUInt64 >>> ((6 : Int32) &&& 0x3f).toInt64.toUInt64).toInt64 + (1 : Int64))).toInt.toNat ((v).toUInt64 >>> (((64 : Int32) - ((en).toInt32 &&& (63 : Int32))) &&& 0x3f).toInt64.toUInt64).toInt64
  else F_or ws (((en).toUInt64 >>> ((6 : Int32) &&& 0x3f).toInt64.toUInt64).toInt64).toInt.toNat (v <<< (((en).toInt32 &&& (63 : Int32)) &&& 0x3f).toInt64)
def F_x (ws : List Int64) (po : Int64) : Int64 := ((ws.getD (((po).toUInt64 >>> ((6 : Int32) &&& 0x3f).toInt64.toUInt64).toInt64).toInt.toNat 0).toUInt64 >>> (((po).toInt32 &&& (63 : Int32)) &&& 0x3f).toInt64.toUInt64).toInt64
def F_rd (ws : List Int64) (po : Int64) (w : Int32) : Int64 :=
  if w = (0 : Int32) then (0 : Int64) else
  if (64 : Int32) < (((po).toInt32 &&& (63 : Int32)) + w) then
    (if w = (64 : Int32) then (((ws.getD (((po).toUInt64 >>> ((6 : Int32) &&& 0x3f).toInt64.toUInt64).toInt64).toInt.toNat 0).toUInt64 >>> (((po).toInt32 &&& (63 : Int32)) &&& 0x3f).toInt64.toUInt64).toInt64 ||| ((ws.getD ((((po).toUInt64 >>> ((6 : Int32) &&& 0x3f).toInt64.toUInt64).toInt64 + (1 : Int64))).toInt.toNat 0) <<< (((64 : Int32) - ((po).toInt32 &&& (63 : Int32))) &&& 0x3f).toInt64))
     else ((((ws.getD (((po).toUInt64 >>> ((6 : Int32) &&& 0x3f).toInt64.toUInt64).toInt64).toInt.toNat 0).toUInt64 >>> (((po).toInt32 &&& (63 : Int32)) &&& 0x3f).toInt64.toUInt64).toInt64 ||| ((ws.getD ((((po).toUInt64 >>> ((6 : Int32) &&& 0x3f).toInt64.toUInt64).toInt64 + (1 : Int64))).toInt.toNat 0) <<< (((64 : Int32) - ((po).toInt32 &&& (63 : Int32))) &&& 0x3f).toInt64)) &&& (((1 : Int64) <<< (w &&& 0x3f).toInt64) - (1 : Int64))))
  else
    (if w = (64 : Int32) then ((ws.getD (((po).toUInt64 >>> ((6 : Int32) &&& 0x3f).toInt64.toUInt64).toInt64).toInt.toNat 0).toUInt64 >>> (((po).toInt32 &&& (63 : Int32)) &&& 0x3f).toInt64.toUInt64).toInt64
     else (((ws.getD (((po).toUInt64 >>> ((6 : Int32) &&& 0x3f).toInt64.toUInt64).toInt64).toInt.toNat 0).toUInt64 >>> (((po).toInt32 &&& (63 : Int32)) &&& 0x3f).toInt64.toUInt64).toInt64 &&& (((1 : Int64) <<< (w &&& 0x3f).toInt64) - (1 : Int64))))
theorem own_hi (q2 : Int64) (hq : 0 ≤ q2.toInt ∧ q2.toInt < 8) : (((q2).toUInt64 >>> ((13 : Int32) &&& 0x3f).toInt64.toUInt64).toInt64).toInt32 = (0 : Int32) := by
  have h1 := c_lushr q2 13 13 (by decide) (by decide)
  have h2 := c_l2i (((q2).toUInt64 >>> ((13 : Int32) &&& 0x3f).toInt64.toUInt64).toInt64)
  apply Int32.toInt_inj.mp
  have b1 := ((((q2).toUInt64 >>> ((13 : Int32) &&& 0x3f).toInt64.toUInt64).toInt64).toInt32).toInt_lt
  have b2 := ((((q2).toUInt64 >>> ((13 : Int32) &&& 0x3f).toInt64.toUInt64).toInt64).toInt32).le_toInt
  rw [h1] at h2
  rw [show (0 : Int32).toInt = 0 by decide]
  omega
theorem own_lo (q2 : Int64) (hq : 0 ≤ q2.toInt ∧ q2.toInt < 8) : ((q2).toInt32 &&& (8191 : Int32)).toInt = q2.toInt := by
  have h1 := c_mask q2.toInt32 8191 13 (by decide) (by decide)
  have h2 := c_l2i q2
  have b1 := (q2.toInt32).toInt_lt
  have b2 := (q2.toInt32).le_toInt
  rw [h1]
  omega
theorem own_u6 (u6 : Int32) (q2 : Int64) (hu : u6.toInt = q2.toInt) (hq : 0 ≤ q2.toInt ∧ q2.toInt < 8) : ¬ u6 < 0 ∧ u6 < (8 : Int32) := by
  rw [Int32.lt_iff_toInt_lt, Int32.lt_iff_toInt_lt, hu, show (0 : Int32).toInt = 0 by decide, show (8 : Int32).toInt = 8 by decide]
  omega
theorem own_ne8 (u6 : Int32) (q2 : Int64) (hu : u6.toInt = q2.toInt) (hq : 0 ≤ q2.toInt ∧ q2.toInt < 8) : ¬ u6 = (8 : Int32) := by
  rw [← Int32.toInt_inj, hu, show (8 : Int32).toInt = 8 by decide]
  omega
theorem own_clu {u6 : Int32} {q2 : Int64} (hu : u6.toInt = q2.toInt) (hq : 0 ≤ q2.toInt ∧ q2.toInt < 8) : u6.toNatClampNeg = q2.toInt.toNat := by
  show u6.toInt.toNat = _
  rw [hu]
theorem own_val {ws : List Int64} {i : Nat} {y : Int64} (h : (List.map Value.long ws).getD i (.long (0 : Int64)) = .long y) : y = ws.getD i 0 := by
  rw [List.getD_eq_getElem?_getD, List.getElem?_map] at h
  rw [List.getD_eq_getElem?_getD]
  cases hw : ws[i]? with
  | none => rw [hw] at h; exact (Value.long.inj h).symm
  | some z => rw [hw] at h; exact (Value.long.inj h).symm
theorem own_len {ws : List Int64} {n : Nat} {x : Int64} (h : ws.length = 8) : (F_or ws n x).length = 8 := by rw [F_or, List.length_set, h]
theorem own_iwv (en : Int64) (he : 0 ≤ en.toInt ∧ en.toInt ≤ 128) : (((en).toUInt64 >>> ((6 : Int32) &&& 0x3f).toInt64.toUInt64).toInt64).toInt = en.toInt / 64 := by
  have h1 := c_lushr en 6 6 (by decide) (by decide)
  rw [h1]
  omega
theorem own_iw (en : Int64) (he : 0 ≤ en.toInt ∧ en.toInt ≤ 128) : 0 ≤ (((en).toUInt64 >>> ((6 : Int32) &&& 0x3f).toInt64.toUInt64).toInt64).toInt ∧ (((en).toUInt64 >>> ((6 : Int32) &&& 0x3f).toInt64.toUInt64).toInt64).toInt < 8 := by
  rw [own_iwv en he]; omega
theorem own_iw1v (en : Int64) (he : 0 ≤ en.toInt ∧ en.toInt ≤ 128) : ((((en).toUInt64 >>> ((6 : Int32) &&& 0x3f).toInt64.toUInt64).toInt64 + (1 : Int64))).toInt = en.toInt / 64 + 1 := by
  have h1 := own_iwv en he
  generalize ((en).toUInt64 >>> ((6 : Int32) &&& 0x3f).toInt64.toUInt64).toInt64 = u at h1 ⊢
  have h2 := c_ladd u 1
  have b1 := (u + 1).toInt_lt; have b2 := (u + 1).le_toInt
  rw [show (1 : Int64).toInt = 1 by decide] at h2
  omega
theorem own_iw1 (en : Int64) (he : 0 ≤ en.toInt ∧ en.toInt ≤ 128) : 0 ≤ ((((en).toUInt64 >>> ((6 : Int32) &&& 0x3f).toInt64.toUInt64).toInt64 + (1 : Int64))).toInt ∧ ((((en).toUInt64 >>> ((6 : Int32) &&& 0x3f).toInt64.toUInt64).toInt64 + (1 : Int64))).toInt < 8 := by
  rw [own_iw1v en he]; omega
theorem own_shv (en : Int64) (he : 0 ≤ en.toInt ∧ en.toInt ≤ 128) : ((en).toInt32 &&& (63 : Int32)).toInt = en.toInt % 64 := by
  have h1 := c_mask en.toInt32 63 6 (by decide) (by decide)
  have h2 := c_l2i en
  have b1 := (en.toInt32).toInt_lt; have b2 := (en.toInt32).le_toInt
  rw [h1]
  omega
theorem own_zero (en : Int64) : en + ((0 : Int32)).toInt64 = en := by
  rw [show ((0 : Int32)).toInt64 = (0 : Int64) by decide, Int64.add_zero]
theorem own_e0 : 0 ≤ (0 : Int64).toInt ∧ (0 : Int64).toInt ≤ 128 := by decide
theorem own_z0 : 0 ≤ (0 : Int64).toInt ∧ (0 : Int64).toInt ≤ 0 := by decide
theorem own_wlen {ws : List Int64} {en v : Int64} {w : Int32} (h : ws.length = 8) : (F_wr ws en v w).length = 8 := by
  unfold F_wr
  split
  · exact h
  · split
    · exact own_len (own_len h)
    · exact own_len h
theorem own_wb (x : Int32) : 0 ≤ (F_w x).toInt ∧ (F_w x).toInt ≤ 64 := by
  have h0 := c_and x 2147483647 (by decide)
  unfold F_w
  generalize x &&& (2147483647 : Int32) = a at h0 ⊢
  rw [irem_eq_mod]
  have h1 := (c_irem a 65 65 (by decide)).1 h0.1
  rw [h1]
  omega
theorem own_en {en : Int64} {w : Int32} {K M : Int} (he : 0 ≤ en.toInt ∧ en.toInt ≤ K) (hw : 0 ≤ w.toInt ∧ w.toInt ≤ 64) (hM : K + 64 ≤ M) (hM2 : M ≤ 192) : 0 ≤ (en + (w).toInt64).toInt ∧ (en + (w).toInt64).toInt ≤ M := by
  have h1 := c_ladd en w.toInt64
  have h2 := c_i2l w
  have b1 := (en + (w).toInt64).toInt_lt; have b2 := (en + (w).toInt64).le_toInt
  rw [h2] at h1
  omega
theorem own_st1 (x : Int32) : 0 ≤ ((F_w x).toInt64).toInt ∧ ((F_w x).toInt64).toInt ≤ 128 := by
  have h1 := own_wb x
  rw [c_i2l]; omega
theorem own_st2v (x y : Int32) : ((F_w x).toInt64 + (F_w y).toInt64).toInt = (F_w x).toInt + (F_w y).toInt := by
  have h1 := own_wb x; have h2 := own_wb y
  have h3 := c_ladd (F_w x).toInt64 (F_w y).toInt64
  rw [c_i2l, c_i2l] at h3
  have b1 := ((F_w x).toInt64 + (F_w y).toInt64).toInt_lt; have b2 := ((F_w x).toInt64 + (F_w y).toInt64).le_toInt
  omega
theorem own_st2 (x y : Int32) : 0 ≤ ((F_w x).toInt64 + (F_w y).toInt64).toInt ∧ ((F_w x).toInt64 + (F_w y).toInt64).toInt ≤ 128 := by
  have h1 := own_wb x; have h2 := own_wb y
  rw [own_st2v]; omega
-- bits
theorem own_k (k : Int32) (n : Nat) (h : k.toInt = n) (hn : n < 64) : k = Int32.ofNat n := by
  apply Int32.toInt_inj.mp
  rw [Int32.toInt_ofNat_small (by omega), h]
theorem own_kl : ∀ n : Nat, n < 64 → (Int32.ofNat n &&& 0x3f).toInt64.toBitVec.smod 64 = BitVec.ofNat 64 n := by decide +kernel
theorem own_kr : ∀ n : Nat, n < 64 → (Int32.ofNat n &&& 0x3f).toInt64.toUInt64.toNat = n := by decide +kernel
theorem own_shl (x : Int64) (k : Int32) (n : Nat) (h : k.toInt = n) (hn : n < 64) : (x <<< (k &&& 0x3f).toInt64).toBitVec = x.toBitVec <<< n := by
  rw [own_k k n h hn, Int64.toBitVec_shiftLeft, own_kl n hn, BitVec.shiftLeft_eq']
  congr 1
  simp only [BitVec.toNat_ofNat]
  omega
theorem own_shr (x : Int64) (k : Int32) (n : Nat) (h : k.toInt = n) (hn : n < 64) : (((x).toUInt64 >>> (k &&& 0x3f).toInt64.toUInt64).toInt64).toBitVec = x.toBitVec >>> n := by
  rw [own_k k n h hn]
  have hu := own_kr n hn
  generalize (Int32.ofNat n &&& 0x3f).toInt64.toUInt64 = u at hu ⊢
  show (x.toUInt64 >>> u).toBitVec = _
  rw [UInt64.toBitVec_shiftRight]
  show x.toBitVec >>> (u.toBitVec % 64) = _
  rw [BitVec.ushiftRight_eq', BitVec.toNat_umod]
  congr 1
  show u.toNat % 64 = n
  rw [hu]; exact Nat.mod_eq_of_lt hn
def F_bit (ws : List Int64) (i : Nat) : Bool := (ws.getD (i / 64) 0).toBitVec.getLsbD (i % 64)
theorem own_or_bit (ws : List Int64) (n : Nat) (x : Int64) (hn : n < ws.length) (i : Nat) : F_bit (F_or ws n x) i = (F_bit ws i || (decide (i / 64 = n) && x.toBitVec.getLsbD (i % 64))) := by
  unfold F_bit F_or
  by_cases h : i / 64 = n
  · subst h
    simp [List.getD_eq_getElem?_getD, List.getElem?_set, hn]
  · simp [List.getD_eq_getElem?_getD, List.getElem?_set, h, Ne.symm h]
theorem own_wr_bit (ws : List Int64) (en v : Int64) (w : Int32) (E W : Nat) (hE : en.toInt = E) (hE2 : E ≤ 128) (hW : w.toInt = W) (hW2 : W ≤ 64) (h8 : ws.length = 8) (hv : ∀ j, W ≤ j → v.toBitVec.getLsbD j = false) (i : Nat) :
    F_bit (F_wr ws en v w) i = (F_bit ws i || (decide (E ≤ i) && v.toBitVec.getLsbD (i - E))) := by
  have he : 0 ≤ en.toInt ∧ en.toInt ≤ 128 := by omega
  have e1 : (((en).toUInt64 >>> ((6 : Int32) &&& 0x3f).toInt64.toUInt64).toInt64).toInt.toNat = E / 64 := by rw [own_iwv en he]; omega
  have e2 : ((((en).toUInt64 >>> ((6 : Int32) &&& 0x3f).toInt64.toUInt64).toInt64 + (1 : Int64))).toInt.toNat = E / 64 + 1 := by rw [own_iw1v en he]; omega
  have e3 : ((en).toInt32 &&& (63 : Int32)).toInt = ((E % 64 : Nat) : Int) := by rw [own_shv en he]; omega
  have x1 := own_shl v ((en).toInt32 &&& (63 : Int32)) (E % 64) e3 (by omega)
  unfold F_wr
  rw [e1, e2]
  split
  · rename_i h0
    have : W = 0 := by rw [h0] at hW; have : (0 : Int32).toInt = 0 := by decide
                       omega
    subst this
    simp [hv]
  · have hl1 := own_len (n := E / 64) (x := (v <<< (((en).toInt32 &&& (63 : Int32)) &&& 0x3f).toInt64)) h8
    have hsum : (((en).toInt32 &&& (63 : Int32)) + w).toInt = ((E % 64 : Nat) : Int) + W := by
      have h1 := c_iadd ((en).toInt32 &&& (63 : Int32)) w
      have b1 := (((en).toInt32 &&& (63 : Int32)) + w).toInt_lt; have b2 := (((en).toInt32 &&& (63 : Int32)) + w).le_toInt
      omega
    split
    · rename_i h0 h64
      rw [Int32.lt_iff_toInt_lt, hsum, show (64 : Int32).toInt = 64 by decide] at h64
      have hd : ((64 : Int32) - ((en).toInt32 &&& (63 : Int32))).toInt = ((64 - E % 64 : Nat) : Int) := by
        have h1 := c_isub 64 ((en).toInt32 &&& (63 : Int32))
        have b1 := ((64 : Int32) - ((en).toInt32 &&& (63 : Int32))).toInt_lt; have b2 := ((64 : Int32) - ((en).toInt32 &&& (63 : Int32))).le_toInt
        rw [show (64 : Int32).toInt = 64 by decide] at h1
        omega
      have x2 := own_shr v ((64 : Int32) - ((en).toInt32 &&& (63 : Int32))) (64 - E % 64) hd (by omega)
      rw [own_or_bit _ _ _ (by omega), own_or_bit _ _ _ (by omega), x1, x2]
      simp only [BitVec.getLsbD_shiftLeft, BitVec.getLsbD_ushiftRight]
      cases F_bit ws i
      · simp only [Bool.false_or]
        by_cases q1 : i / 64 = E / 64
        · have q2 : ¬ i / 64 = E / 64 + 1 := by omega
          by_cases q3 : E ≤ i
          · have q4 : ¬ i % 64 < E % 64 := by omega
            have q5 : i % 64 - E % 64 = i - E := by omega
            have q6 : i % 64 < 64 := by omega
            simp [q1, q2, q3, q4, q5, q6]
          · have q4 : i % 64 < E % 64 := by omega
            simp [q1, q2, q3, q4]
        · by_cases q2 : i / 64 = E / 64 + 1
          · have q3 : E ≤ i := by omega
            have q5 : 64 - E % 64 + i % 64 = i - E := by omega
            simp [q1, q2, q3, q5]
          · by_cases q3 : E ≤ i
            · have q4 : v.toBitVec.getLsbD (i - E) = false := BitVec.getLsbD_of_ge _ _ (by omega)
              simp [q1, q2, q4]
            · simp [q1, q2, q3]
      · simp
    · rename_i h0 h64
      rw [Int32.lt_iff_toInt_lt, hsum, show (64 : Int32).toInt = 64 by decide] at h64
      rw [own_or_bit _ _ _ (by omega), x1]
      simp only [BitVec.getLsbD_shiftLeft]
      cases F_bit ws i
      · simp only [Bool.false_or]
        by_cases q1 : i / 64 = E / 64
        · by_cases q3 : E ≤ i
          · have q4 : ¬ i % 64 < E % 64 := by omega
            have q5 : i % 64 - E % 64 = i - E := by omega
            have q6 : i % 64 < 64 := by omega
            simp [q1, q3, q4, q5, q6]
          · have q4 : i % 64 < E % 64 := by omega
            simp [q1, q3, q4]
        · by_cases q3 : E ≤ i
          · have q4 : v.toBitVec.getLsbD (i - E) = false := hv _ (by omega)
            simp [q1, q4]
          · simp [q1, q3]
      · simp
theorem own_mask (w : Int32) (W : Nat) (hW : w.toInt = W) (h : W < 64) (j : Nat) (hj : j < 64) : (((1 : Int64) <<< (w &&& 0x3f).toInt64) - (1 : Int64)).toBitVec.getLsbD j = decide (j < W) := by
  rw [Int64.toBitVec_sub, own_shl _ _ W hW h]
  show ((1#64 <<< W) - 1#64).getLsbD j = _
  have e : ((1#64 <<< W) - 1#64) = BitVec.ofNat 64 (2 ^ W - 1) := by
    apply BitVec.eq_of_toNat_eq
    have hp : 2 ^ W < 2 ^ 64 := Nat.pow_lt_pow_right (by decide) h
    have h1 : 0 < 2 ^ W := Nat.pow_pos (by decide)
    rw [BitVec.toNat_sub, BitVec.toNat_shiftLeft, BitVec.toNat_ofNat, BitVec.toNat_ofNat, Nat.shiftLeft_eq]
    rw [show 1 % 2 ^ 64 = 1 from rfl, Nat.one_mul, Nat.mod_eq_of_lt hp, Nat.mod_eq_of_lt (show 2 ^ W - 1 < 2 ^ 64 by omega)]
    omega
  rw [e, BitVec.getLsbD_ofNat, Nat.testBit_two_pow_sub_one]
  simp [hj]
theorem own_rd_bit (ws : List Int64) (po : Int64) (w : Int32) (E W : Nat) (hE : po.toInt = E) (hE2 : E ≤ 128) (hW : w.toInt = W) (hW2 : W ≤ 64) (j : Nat) (hj : j < 64) :
    (F_rd ws po w).toBitVec.getLsbD j = (decide (j < W) && F_bit ws (E + j)) := by
  have he : 0 ≤ po.toInt ∧ po.toInt ≤ 128 := by omega
  have e1 : (((po).toUInt64 >>> ((6 : Int32) &&& 0x3f).toInt64.toUInt64).toInt64).toInt.toNat = E / 64 := by rw [own_iwv po he]; omega
  have e2 : ((((po).toUInt64 >>> ((6 : Int32) &&& 0x3f).toInt64.toUInt64).toInt64 + (1 : Int64))).toInt.toNat = E / 64 + 1 := by rw [own_iw1v po he]; omega
  have e3 : ((po).toInt32 &&& (63 : Int32)).toInt = ((E % 64 : Nat) : Int) := by rw [own_shv po he]; omega
  have x1 := fun v => own_shr v ((po).toInt32 &&& (63 : Int32)) (E % 64) e3 (by omega)
  have hsum : (((po).toInt32 &&& (63 : Int32)) + w).toInt = ((E % 64 : Nat) : Int) + W := by
    have h1 := c_iadd ((po).toInt32 &&& (63 : Int32)) w
    have b1 := (((po).toInt32 &&& (63 : Int32)) + w).toInt_lt; have b2 := (((po).toInt32 &&& (63 : Int32)) + w).le_toInt
    omega
  have h64w : (w = (64 : Int32)) ↔ W = 64 := by rw [← Int32.toInt_inj, hW, show (64 : Int32).toInt = 64 by decide]; omega
  unfold F_rd
  rw [e1, e2]
  split
  · rename_i h0
    have : W = 0 := by rw [h0] at hW; have : (0 : Int32).toInt = 0 := by decide
                       omega
    subst this
    simp
  · rename_i h0
    -- the body without the mask
    have key : ∀ z : Int64, (z.toBitVec.getLsbD j = F_bit ws (E + j) ∨ ¬ j < W) → (if w = (64 : Int32) then z else z &&& (((1 : Int64) <<< (w &&& 0x3f).toInt64) - (1 : Int64))).toBitVec.getLsbD j = (decide (j < W) && F_bit ws (E + j)) := by
      intro z hz
      split
      · rename_i h6
        have := h64w.mp h6
        have hjw : j < W := by omega
        rcases hz with hz | hz
        · simp [hz, hjw]
        · exact absurd hjw hz
      · rename_i h6
        have hW3 : W < 64 := by
          have hne : ¬ W = 64 := fun q => h6 (h64w.mpr q)
          omega
        rw [Int64.toBitVec_and, BitVec.getLsbD_and, own_mask w W hW hW3 j hj]
        by_cases hjw : j < W
        · rcases hz with hz | hz
          · simp [hz, hjw]
          · exact absurd hjw hz
        · simp [hjw]
    split
    · rename_i h64
      rw [Int32.lt_iff_toInt_lt, hsum, show (64 : Int32).toInt = 64 by decide] at h64
      have hd : ((64 : Int32) - ((po).toInt32 &&& (63 : Int32))).toInt = ((64 - E % 64 : Nat) : Int) := by
        have h1 := c_isub 64 ((po).toInt32 &&& (63 : Int32))
        have b1 := ((64 : Int32) - ((po).toInt32 &&& (63 : Int32))).toInt_lt; have b2 := ((64 : Int32) - ((po).toInt32 &&& (63 : Int32))).le_toInt
        rw [show (64 : Int32).toInt = 64 by decide] at h1
        omega
      have x2 := fun v => own_shl v ((64 : Int32) - ((po).toInt32 &&& (63 : Int32))) (64 - E % 64) hd (by omega)
      apply key
      left
      rw [Int64.toBitVec_or, BitVec.getLsbD_or, x1, x2]
      unfold F_bit
      simp only [BitVec.getLsbD_shiftLeft, BitVec.getLsbD_ushiftRight]
      by_cases q1 : E % 64 + j < 64
      · have q2 : (E + j) / 64 = E / 64 := by omega
        have q3 : (E + j) % 64 = E % 64 + j := by omega
        have q4 : j < 64 - E % 64 := by omega
        simp [q2, q3, q4]
      · have q2 : (E + j) / 64 = E / 64 + 1 := by omega
        have q3 : (E + j) % 64 = j - (64 - E % 64) := by omega
        have q4 : ¬ j < 64 - E % 64 := by omega
        have q5 : ((ws.getD (E / 64) 0).toBitVec).getLsbD (E % 64 + j) = false := BitVec.getLsbD_of_ge _ _ (by omega)
        rw [q5, q2, q3]
        simp [q4, hj]
    · rename_i h64
      rw [Int32.lt_iff_toInt_lt, hsum, show (64 : Int32).toInt = 64 by decide] at h64
      apply key
      rw [x1]
      unfold F_bit
      simp only [BitVec.getLsbD_ushiftRight]
      by_cases hjw : j < W
      · left
        have q2 : (E + j) / 64 = E / 64 := by omega
        have q3 : (E + j) % 64 = E % 64 + j := by omega
        rw [q2, q3]
      · right; exact hjw
theorem own_low_bit (x : Int64) (w : Int32) (W : Nat) (hW : w.toInt = W) (hW2 : W ≤ 64) (j : Nat) (hj : W ≤ j) : (F_low x w).toBitVec.getLsbD j = false := by
  unfold F_low
  split
  · simp
  · rename_i h0
    have hW0 : W ≠ 0 := by
      intro q
      apply h0
      apply Int32.toInt_inj.mp
      rw [hW, q]; decide
    have hd : ((64 : Int32) - w).toInt = ((64 - W : Nat) : Int) := by
      have h1 := c_isub 64 w
      have b1 := ((64 : Int32) - w).toInt_lt; have b2 := ((64 : Int32) - w).le_toInt
      rw [show (64 : Int32).toInt = 64 by decide] at h1
      omega
    rw [own_shr _ _ (64 - W) hd (by omega), BitVec.getLsbD_ushiftRight]
    exact BitVec.getLsbD_of_ge _ _ (by omega)
theorem own_zero_bit (i : Nat) : F_bit [0, 0, 0, 0, 0, 0, 0, 0] i = false := by
  unfold F_bit
  have : ([0, 0, 0, 0, 0, 0, 0, 0] : List Int64).getD (i / 64) 0 = 0 := by
    rcases i / 64 with _ | _ | _ | _ | _ | _ | _ | _ | n <;> rfl
  rw [this]
  simp
theorem own_nat (x : Int32) : ∃ W : Nat, (F_w x).toInt = W ∧ W ≤ 64 := ⟨(F_w x).toInt.toNat, by have := own_wb x; omega, by have := own_wb x; omega⟩
theorem own_all (p1 : Int32) (q2 : Int64) (p3 : Int32) (q4 : Int64) (p5 : Int32) (q6 : Int64) (A B D : Nat) (hA : (F_w p1).toInt = A) (hB : (F_w p3).toInt = B) (hD : (F_w p5).toInt = D) (i : Nat) :
    F_bit (F_wr (F_wr (F_wr ([0, 0, 0, 0, 0, 0, 0, 0]) (0 : Int64) (F_low q2 (F_w p1)) (F_w p1)) ((0 : Int64) + ((F_w p1)).toInt64) (F_low q4 (F_w p3)) (F_w p3)) (((0 : Int64) + ((F_w p1)).toInt64) + ((F_w p3)).toInt64) (F_low q6 (F_w p5)) (F_w p5)) i
      = (((F_low q2 (F_w p1)).toBitVec.getLsbD i || (decide (A ≤ i) && (F_low q4 (F_w p3)).toBitVec.getLsbD (i - A))) || (decide (A + B ≤ i) && (F_low q6 (F_w p5)).toBitVec.getLsbD (i - (A + B)))) := by
  have b1 := own_wb p1; have b2 := own_wb p3; have b3 := own_wb p5
  have z : (0 : Int64) + ((F_w p1)).toInt64 = ((F_w p1)).toInt64 := Int64.zero_add _
  rw [z]
  have l1 := own_wlen (ws := [0, 0, 0, 0, 0, 0, 0, 0]) (en := 0) (v := F_low q2 (F_w p1)) (w := F_w p1) rfl
  have l2 := own_wlen (en := ((F_w p1)).toInt64) (v := F_low q4 (F_w p3)) (w := F_w p3) l1
  rw [own_wr_bit _ _ _ _ (A + B) D (by rw [own_st2v]; omega) (by omega) hD (by omega) l2 (fun j hj => own_low_bit _ _ D hD (by omega) j hj),
    own_wr_bit _ _ _ _ A B (by rw [c_i2l]; exact hA) (by omega) hB (by omega) l1 (fun j hj => own_low_bit _ _ B hB (by omega) j hj),
    own_wr_bit _ _ _ _ 0 A (by decide) (by omega) hA (by omega) rfl (fun j hj => own_low_bit _ _ A hA (by omega) j hj), own_zero_bit]
  simp
theorem own_law1 (p1 : Int32) (q2 : Int64) (p3 : Int32) (q4 : Int64) (p5 : Int32) (q6 : Int64) : F_rd (F_wr (F_wr (F_wr ([0, 0, 0, 0, 0, 0, 0, 0]) (0 : Int64) (F_low q2 (F_w p1)) (F_w p1)) ((0 : Int64) + ((F_w p1)).toInt64) (F_low q4 (F_w p3)) (F_w p3)) (((0 : Int64) + ((F_w p1)).toInt64) + ((F_w p3)).toInt64) (F_low q6 (F_w p5)) (F_w p5)) ((F_w p1)).toInt64 (F_w p3) = F_low q4 (F_w p3) := by
  obtain ⟨A, hA, hA2⟩ := own_nat p1; obtain ⟨B, hB, hB2⟩ := own_nat p3; obtain ⟨D, hD, hD2⟩ := own_nat p5
  apply Int64.toBitVec_inj.mp
  apply BitVec.eq_of_getLsbD_eq
  intro j hj
  rw [own_rd_bit _ _ _ A B (by rw [c_i2l]; exact hA) (by omega) hB hB2 j hj, own_all _ _ _ _ _ _ A B D hA hB hD]
  by_cases hjB : j < B
  · have q1 := own_low_bit q2 _ A hA hA2 (A + j) (by omega)
    have q2' : A ≤ A + j := by omega
    have q3 : A + j - A = j := by omega
    have q4' : ¬ A + B ≤ A + j := by omega
    rw [q1, q3]
    simp [hjB, q2', q4']
  · rw [own_low_bit q4 _ B hB hB2 j (by omega)]
    simp [hjB]
theorem own_law2 (p1 : Int32) (q2 : Int64) (p3 : Int32) (q4 : Int64) (p5 : Int32) (q6 : Int64) : F_rd (F_wr (F_wr (F_wr ([0, 0, 0, 0, 0, 0, 0, 0]) (0 : Int64) (F_low q2 (F_w p1)) (F_w p1)) ((0 : Int64) + ((F_w p1)).toInt64) (F_low q4 (F_w p3)) (F_w p3)) (((0 : Int64) + ((F_w p1)).toInt64) + ((F_w p3)).toInt64) (F_low q6 (F_w p5)) (F_w p5)) (0 : Int64) (F_w p1) = F_low q2 (F_w p1) := by
  obtain ⟨A, hA, hA2⟩ := own_nat p1; obtain ⟨B, hB, hB2⟩ := own_nat p3; obtain ⟨D, hD, hD2⟩ := own_nat p5
  apply Int64.toBitVec_inj.mp
  apply BitVec.eq_of_getLsbD_eq
  intro j hj
  rw [own_rd_bit _ _ _ 0 A (by decide) (by omega) hA hA2 j hj, own_all _ _ _ _ _ _ A B D hA hB hD, Nat.zero_add]
  by_cases hjA : j < A
  · have q2' : ¬ A ≤ j := by omega
    have q4' : ¬ A + B ≤ j := by omega
    simp [hjA, q2', q4']
  · rw [own_low_bit q2 _ A hA hA2 j (by omega)]
    simp [hjA]
theorem own_law3 (p1 : Int32) (q2 : Int64) (p3 : Int32) (q4 : Int64) (p5 : Int32) (q6 : Int64) : F_rd (F_wr (F_wr (F_wr ([0, 0, 0, 0, 0, 0, 0, 0]) (0 : Int64) (F_low q2 (F_w p1)) (F_w p1)) ((0 : Int64) + ((F_w p1)).toInt64) (F_low q4 (F_w p3)) (F_w p3)) (((0 : Int64) + ((F_w p1)).toInt64) + ((F_w p3)).toInt64) (F_low q6 (F_w p5)) (F_w p5)) (((F_w p1)).toInt64 + ((F_w p3)).toInt64) (F_w p5) = F_low q6 (F_w p5) := by
  obtain ⟨A, hA, hA2⟩ := own_nat p1; obtain ⟨B, hB, hB2⟩ := own_nat p3; obtain ⟨D, hD, hD2⟩ := own_nat p5
  apply Int64.toBitVec_inj.mp
  apply BitVec.eq_of_getLsbD_eq
  intro j hj
  rw [own_rd_bit _ _ _ (A + B) D (by rw [own_st2v]; omega) (by omega) hD hD2 j hj, own_all _ _ _ _ _ _ A B D hA hB hD]
  by_cases hjD : j < D
  · have q1 := own_low_bit q2 _ A hA hA2 (A + B + j) (by omega)
    have q2' := own_low_bit q4 _ B hB hB2 (A + B + j - A) (by omega)
    have q3 : A + B + j - (A + B) = j := by omega
    have q4' : A + B ≤ A + B + j := by omega
    rw [q1, q2', q3]
    simp [hjD, q4']
  · rw [own_low_bit q6 _ D hD hD2 j (by omega)]
    simp [hjD]
theorem d1_0 : decode method_2_code 0 = .ok (.iload_n 0, 1) := by decide +kernel
theorem d1_1 : decode method_2_code 1 = .ok (.ldc 7, 2) := by decide +kernel
theorem d1_3 : decode method_2_code 3 = .ok (.iand, 1) := by decide +kernel
theorem d1_4 : decode method_2_code 4 = .ok (.bipush 65, 2) := by decide +kernel
theorem d1_6 : decode method_2_code 6 = .ok (.irem, 1) := by decide +kernel
theorem d1_7 : decode method_2_code 7 = .ok (.ireturn, 1) := by decide +kernel
theorem pn_1 : plainName "org/laneweave/lanes/BitRowReadPinLaw" = true := by first | (simp [plainName, overriddenIn]; done) | decide +kernel
theorem ef_1 (m : MethodId) (p1 : Int32) : entryFrame m #[(.int p1)] 1 = mkF m 0 #[.val (.int p1)] [] := by first | (simp [entryFrame, mkF, argsToLocals, Value.category]; done) | rfl
def Q1 (Z : State) (p1 : Int32)  (h0 : Heap) (n0 : Nat) : Option Value → Heap → List Loc → Prop := fun v h L => v = some (.int (F_w p1)) ∧ Fr n0 L ∧ h = h0
set_option maxRecDepth 65536 in
set_option maxHeartbeats 40000000 in
theorem rm1 (l : Launch) (Z : State) (a0 : Array Value) (hw : ∀ d ∈ tables_1, d.before a0 Z = true) (ws : List Jvm.Cond) (p1 : Int32)  (h0 : Heap) (n0 : Nat) (Z0 : n0 ≤ h0.size)  :
    MetFree l (⟨"org/laneweave/lanes/BitRowReadPinLaw", "width", "(I)I"⟩ : MethodName) (head1 (Jvm.Cond.code (⟨"org/laneweave/lanes/BitRowReadPinLaw", "width", "(I)I"⟩ : MethodName) method_2_code 1 (some .int) :: ws) ({ frames := 0, cells := 0, slots := 0, locals := 0 } : Room)) (fun a U => a = #[(.int p1)] ∧ Z.Warmed39 U.vm ∧ U.heap = h0) (fun _ _ _ _ _ => True) (fun _ U o U' => ∃ v L, o = .returned v ∧ (Q1 Z p1 h0 n0) v U'.heap L ∧ FrameEnd U o U' L ({ frames := 0, cells := 0, slots := 0, locals := 0 } : Room).cells ({ frames := 0, cells := 0, slots := 0, locals := 0 } : Room).slots) := by
  refine MetFree.of_bodySF (plainFor_of_name pn_1) hisR ?_
  intro p e s m args below meth c s₁ Bd hml0 hP hK
  obtain ⟨rfl, hZ, hh⟩ := hP
  have hx := Bd.exec
  have hby := Bd.bytes
  have hml : c.maxLocals = 1 := hml0
  have hown : s.vm.findClass "org/laneweave/lanes/BitRowReadPinLaw" = some m.cls := findClass_of_methodNamed Bd.named
  have hnm := (name_of_methodNamed Bd.named Bd.method).1
  have X0 : Stand p l e ({ frames := 0, cells := 0, slots := 0, locals := 0 } : Room) s m #[(.int p1)] below meth c s₁ [] 0 0 := Stand.of_body Bd
  have e0 : s₁.heap = h0 := by rw [← hh, Bd.state]; rfl
  have N0 := Fr.nil n0
  show Own.Fin p e below _ (Own.Post s (Q1 Z p1 h0 n0) ({ frames := 0, cells := 0, slots := 0, locals := 0 } : Room).cells ({ frames := 0, cells := 0, slots := 0, locals := 0 } : Room).slots)
  refine Own.start (ef_1 m p1) ?_
  show Own.Fin p e below (s₁.setTop (mkF m 0 #[.val (.int p1)] [])) _
  refine Own.go (fun t k => XS.iloadN X0.here hx rfl (hb hby d1_0) rfl k) ?_
  show Own.Fin p e below (s₁.setTop (mkF m 1 #[.val (.int p1)] [(.int p1)])) _
  refine Own.go (fun t k => X0.ldcInt hx hown (mvT hZ (hw _ (List.mem_of_getElem? (i := 4) rfl))) (g := (mkF m 1 #[.val (.int p1)] [(.int p1)])) rfl (hb hby d1_1) _ k) ?_
  show Own.Fin p e below (s₁.setTop (mkF m 3 #[.val (.int p1)] [(.int (2147483647 : Int32)), (.int p1)])) _
  refine Own.go (fun t k => XS.iand X0.here hx rfl (hb hby d1_3) rfl k) ?_
  show Own.Fin p e below (s₁.setTop (mkF m 4 #[.val (.int p1)] [(.int (p1 &&& (2147483647 : Int32)))])) _
  refine Own.go (fun t k => XS.bipush X0.here hx rfl (hb hby d1_4) k) ?_
  show Own.Fin p e below (s₁.setTop (mkF m 6 #[.val (.int p1)] [(.int (65 : Int32)), (.int (p1 &&& (2147483647 : Int32)))])) _
  refine Own.go (fun t k => XS.irem X0.here hx rfl (hb hby d1_6) rfl (by decide) k) ?_
  show Own.Fin p e below (s₁.setTop (mkF m 7 #[.val (.int p1)] [(.int ((p1 &&& (2147483647 : Int32)) - ((p1 &&& (2147483647 : Int32)) / (65 : Int32)) * (65 : Int32)))])) _
  refine Own.retI X0 hx Bd.notSynchronized Bd.returns (hb hby d1_7) (by decide) (by decide) ?_
  exact ⟨rfl, N0, e0⟩
theorem d2_0 : decode method_3_code 0 = .ok (.iload_n 2, 1) := by decide +kernel
theorem d2_1 : decode method_3_code 1 = .ok (.ifCond .ne 5, 3) := by decide +kernel
theorem d2_4 : decode method_3_code 4 = .ok (.lconst 0, 1) := by decide +kernel
theorem d2_5 : decode method_3_code 5 = .ok (.lreturn, 1) := by decide +kernel
theorem d2_6 : decode method_3_code 6 = .ok (.bipush 64, 2) := by decide +kernel
theorem d2_8 : decode method_3_code 8 = .ok (.iload_n 2, 1) := by decide +kernel
theorem d2_9 : decode method_3_code 9 = .ok (.isub, 1) := by decide +kernel
theorem d2_10 : decode method_3_code 10 = .ok (.istore_n 3, 1) := by decide +kernel
theorem d2_11 : decode method_3_code 11 = .ok (.lload_n 0, 1) := by decide +kernel
theorem d2_12 : decode method_3_code 12 = .ok (.iload_n 3, 1) := by decide +kernel
theorem d2_13 : decode method_3_code 13 = .ok (.lshl, 1) := by decide +kernel
theorem d2_14 : decode method_3_code 14 = .ok (.iload_n 3, 1) := by decide +kernel
theorem d2_15 : decode method_3_code 15 = .ok (.lushr, 1) := by decide +kernel
theorem d2_16 : decode method_3_code 16 = .ok (.lreturn, 1) := by decide +kernel
theorem pn_2 : plainName "org/laneweave/lanes/BitRowReadPinLaw" = true := by first | (simp [plainName, overriddenIn]; done) | decide +kernel
theorem ef_2 (m : MethodId) (q1 : Int64) (p2 : Int32) : entryFrame m #[(.long q1), (.int p2)] 4 = mkF m 0 #[.val (.long q1), .second, .val (.int p2), .unset] [] := by first | (simp [entryFrame, mkF, argsToLocals, Value.category]; done) | rfl
def Q2 (Z : State) (q1 : Int64) (p2 : Int32)  (h0 : Heap) (n0 : Nat) : Option Value → Heap → List Loc → Prop := fun v h L => v = some (.long (F_low q1 p2)) ∧ Fr n0 L ∧ h = h0
set_option maxRecDepth 65536 in
set_option maxHeartbeats 40000000 in
theorem rm2 (l : Launch) (Z : State) (a0 : Array Value) (hw : ∀ d ∈ tables_1, d.before a0 Z = true) (ws : List Jvm.Cond) (q1 : Int64) (p2 : Int32)  (h0 : Heap) (n0 : Nat) (Z0 : n0 ≤ h0.size)  :
    MetFree l (⟨"org/laneweave/lanes/BitRowReadPinLaw", "low", "(JI)J"⟩ : MethodName) (head1 (Jvm.Cond.code (⟨"org/laneweave/lanes/BitRowReadPinLaw", "low", "(JI)J"⟩ : MethodName) method_3_code 4 (some .long) :: ws) ({ frames := 0, cells := 0, slots := 0, locals := 0 } : Room)) (fun a U => a = #[(.long q1), (.int p2)] ∧ Z.Warmed39 U.vm ∧ U.heap = h0) (fun _ _ _ _ _ => True) (fun _ U o U' => ∃ v L, o = .returned v ∧ (Q2 Z q1 p2 h0 n0) v U'.heap L ∧ FrameEnd U o U' L ({ frames := 0, cells := 0, slots := 0, locals := 0 } : Room).cells ({ frames := 0, cells := 0, slots := 0, locals := 0 } : Room).slots) := by
  refine MetFree.of_bodySF (plainFor_of_name pn_2) hisR ?_
  intro p e s m args below meth c s₁ Bd hml0 hP hK
  obtain ⟨rfl, hZ, hh⟩ := hP
  have hx := Bd.exec
  have hby := Bd.bytes
  have hml : c.maxLocals = 4 := hml0
  have hown : s.vm.findClass "org/laneweave/lanes/BitRowReadPinLaw" = some m.cls := findClass_of_methodNamed Bd.named
  have hnm := (name_of_methodNamed Bd.named Bd.method).1
  have X0 : Stand p l e ({ frames := 0, cells := 0, slots := 0, locals := 0 } : Room) s m #[(.long q1), (.int p2)] below meth c s₁ [] 0 0 := Stand.of_body Bd
  have e0 : s₁.heap = h0 := by rw [← hh, Bd.state]; rfl
  have N0 := Fr.nil n0
  show Own.Fin p e below _ (Own.Post s (Q2 Z q1 p2 h0 n0) ({ frames := 0, cells := 0, slots := 0, locals := 0 } : Room).cells ({ frames := 0, cells := 0, slots := 0, locals := 0 } : Room).slots)
  refine Own.start (ef_2 m q1 p2) ?_
  show Own.Fin p e below (s₁.setTop (mkF m 0 #[.val (.long q1), .second, .val (.int p2), .unset] [])) _
  refine Own.go (fun t k => XS.iloadN X0.here hx rfl (hb hby d2_0) rfl k) ?_
  show Own.Fin p e below (s₁.setTop (mkF m 1 #[.val (.long q1), .second, .val (.int p2), .unset] [(.int p2)])) _
  by_cases hc1_0 : p2 = (0 : Int32)
  · skip
    refine Own.go (fun t k => XS.ifNo X0.here hx rfl (hb hby d2_1) rfl ((if0 _ _).trans (teq hc1_0).2) k) ?_
    show Own.Fin p e below (s₁.setTop (mkF m 4 #[.val (.long q1), .second, .val (.int p2), .unset] [])) _
    refine Own.go (fun t k => XS.lconst X0.here hx rfl (hb hby d2_4) k) ?_
    show Own.Fin p e below (s₁.setTop (mkF m 5 #[.val (.long q1), .second, .val (.int p2), .unset] [(.long (0 : Int64))])) _
    refine Own.retJ X0 hx Bd.notSynchronized Bd.returns (hb hby d2_5) (by decide) (by decide) ?_
    exact ⟨by rw [show F_low q1 p2 = (0 : Int64) by simp only [F_low, hc1_0, if_true, if_false]], N0, e0⟩
  · skip
    refine Own.go (fun t k => XS.ifYes X0.here hx rfl (pc0 := 1) (pc' := 6) rfl (hb hby d2_1) rfl ((if0 _ _).trans (feq hc1_0).2) (by decide) (by decide) k) ?_
    show Own.Fin p e below (s₁.setTop (mkF m 6 #[.val (.long q1), .second, .val (.int p2), .unset] [])) _
    refine Own.go (fun t k => XS.bipush X0.here hx rfl (hb hby d2_6) k) ?_
    show Own.Fin p e below (s₁.setTop (mkF m 8 #[.val (.long q1), .second, .val (.int p2), .unset] [(.int (64 : Int32))])) _
    refine Own.go (fun t k => XS.iloadN X0.here hx rfl (hb hby d2_8) rfl k) ?_
    show Own.Fin p e below (s₁.setTop (mkF m 9 #[.val (.long q1), .second, .val (.int p2), .unset] [(.int p2), (.int (64 : Int32))])) _
    refine Own.go (fun t k => XS.isub X0.here hx rfl (hb hby d2_9) rfl k) ?_
    show Own.Fin p e below (s₁.setTop (mkF m 10 #[.val (.long q1), .second, .val (.int p2), .unset] [(.int ((64 : Int32) - p2))])) _
    refine Own.go (fun t k => XS.istoreN X0.here hx rfl (hb hby d2_10) rfl (l' := #[.val (.long q1), .second, .val (.int p2), .val (.int ((64 : Int32) - p2))]) rfl k) ?_
    show Own.Fin p e below (s₁.setTop (mkF m 11 #[.val (.long q1), .second, .val (.int p2), .val (.int ((64 : Int32) - p2))] [])) _
    refine Own.go (fun t k => XS.lloadN X0.here hx rfl (hb hby d2_11) rfl k) ?_
    show Own.Fin p e below (s₁.setTop (mkF m 12 #[.val (.long q1), .second, .val (.int p2), .val (.int ((64 : Int32) - p2))] [(.long q1)])) _
    refine Own.go (fun t k => XS.iloadN X0.here hx rfl (hb hby d2_12) rfl k) ?_
    show Own.Fin p e below (s₁.setTop (mkF m 13 #[.val (.long q1), .second, .val (.int p2), .val (.int ((64 : Int32) - p2))] [(.int ((64 : Int32) - p2)), (.long q1)])) _
    refine Own.go (fun t k => XS.lshl X0.here hx rfl (hb hby d2_13) rfl k) ?_
    show Own.Fin p e below (s₁.setTop (mkF m 14 #[.val (.long q1), .second, .val (.int p2), .val (.int ((64 : Int32) - p2))] [(.long ((q1 <<< (((64 : Int32) - p2) &&& 0x3f).toInt64)))])) _
    refine Own.go (fun t k => XS.iloadN X0.here hx rfl (hb hby d2_14) rfl k) ?_
    show Own.Fin p e below (s₁.setTop (mkF m 15 #[.val (.long q1), .second, .val (.int p2), .val (.int ((64 : Int32) - p2))] [(.int ((64 : Int32) - p2)), (.long ((q1 <<< (((64 : Int32) - p2) &&& 0x3f).toInt64)))])) _
    refine Own.go (fun t k => XS.lushr X0.here hx rfl (hb hby d2_15) rfl k) ?_
    show Own.Fin p e below (s₁.setTop (mkF m 16 #[.val (.long q1), .second, .val (.int p2), .val (.int ((64 : Int32) - p2))] [(.long (((((q1 <<< (((64 : Int32) - p2) &&& 0x3f).toInt64))).toUInt64 >>> (((64 : Int32) - p2) &&& 0x3f).toInt64.toUInt64).toInt64))])) _
    refine Own.retJ X0 hx Bd.notSynchronized Bd.returns (hb hby d2_16) (by decide) (by decide) ?_
    exact ⟨by rw [show F_low q1 p2 = (((((q1 <<< (((64 : Int32) - p2) &&& 0x3f).toInt64))).toUInt64 >>> (((64 : Int32) - p2) &&& 0x3f).toInt64.toUInt64).toInt64) by simp only [F_low, hc1_0, if_true, if_false]], N0, e0⟩
theorem d4_0 : decode prog_10_method_2_code 0 = .ok (.aload_n 0, 1) := by decide +kernel
theorem d4_1 : decode prog_10_method_2_code 1 = .ok (.invokespecial 9, 3) := by decide +kernel
theorem d4_4 : decode prog_10_method_2_code 4 = .ok (.aload_n 0, 1) := by decide +kernel
theorem d4_5 : decode prog_10_method_2_code 5 = .ok (.aload_n 1, 1) := by decide +kernel
theorem d4_6 : decode prog_10_method_2_code 6 = .ok (.putfield 14, 3) := by decide +kernel
theorem d4_9 : decode prog_10_method_2_code 9 = .ok (.aload_n 0, 1) := by decide +kernel
theorem d4_10 : decode prog_10_method_2_code 10 = .ok (.lload_n 2, 1) := by decide +kernel
theorem d4_11 : decode prog_10_method_2_code 11 = .ok (.putfield 18, 3) := by decide +kernel
theorem d4_14 : decode prog_10_method_2_code 14 = .ok (.return_, 1) := by decide +kernel
theorem pn_4 : plainName "org/laneweave/lanes/BitRow" = true := by first | (simp [plainName, overriddenIn]; done) | decide +kernel
theorem ef_4 (m : MethodId) (a1 : Addr) (a2 : Addr) (q3 : Int64) : entryFrame m #[(.ref a1), (.ref a2), (.long q3)] 4 = mkF m 0 #[.val (.ref a1), .val (.ref a2), .val (.long q3), .second] [] := by first | (simp [entryFrame, mkF, argsToLocals, Value.category]; done) | rfl
def Q4 (Z : State) (a1 : Addr) (a2 : Addr) (q3 : Int64)  (h0 : Heap) (n0 : Nat) : Option Value → Heap → List Loc → Prop := fun v h L => v = none ∧ Fr n0 L ∧ Keep h0 h [a1] ∧ Fld Z h a1 "org/laneweave/lanes/BitRow" "chunks" "[[J" (.ref a2) ∧ Fld Z h a1 "org/laneweave/lanes/BitRow" "end" "J" (.long q3)
set_option maxRecDepth 65536 in
set_option maxHeartbeats 40000000 in
theorem rm4 (l : Launch) (Z : State) (a0 : Array Value) (hw : ∀ d ∈ tables_1, d.before a0 Z = true) (ws : List Jvm.Cond) (a1 : Addr) (a2 : Addr) (q3 : Int64)  (h0 : Heap) (n0 : Nat) (Z0 : n0 ≤ h0.size) (EA : Exa Z h0 a1 "org/laneweave/lanes/BitRow") (FC : Fld Z h0 a1 "org/laneweave/lanes/BitRow" "chunks" "[[J" .null) (FE : Fld Z h0 a1 "org/laneweave/lanes/BitRow" "end" "J" (.long (0 : Int64))) (ga : n0 ≤ a1) :
    MetFree l (⟨"org/laneweave/lanes/BitRow", "<init>", "([[JJ)V"⟩ : MethodName) (head1 (Jvm.Cond.code (⟨"org/laneweave/lanes/BitRow", "<init>", "([[JJ)V"⟩ : MethodName) prog_10_method_2_code 4 none :: ws) ({ frames := 1, cells := 0, slots := 0, locals := 12 } : Room)) (fun a U => a = #[(.ref a1), (.ref a2), (.long q3)] ∧ Z.Warmed39 U.vm ∧ U.heap = h0) (fun _ _ _ _ _ => True) (fun _ U o U' => ∃ v L, o = .returned v ∧ (Q4 Z a1 a2 q3 h0 n0) v U'.heap L ∧ FrameEnd U o U' L ({ frames := 1, cells := 0, slots := 0, locals := 12 } : Room).cells ({ frames := 1, cells := 0, slots := 0, locals := 12 } : Room).slots) := by
  refine MetFree.of_bodySF (plainFor_of_name pn_4) hisR ?_
  intro p e s m args below meth c s₁ Bd hml0 hP hK
  obtain ⟨rfl, hZ, hh⟩ := hP
  have hx := Bd.exec
  have hby := Bd.bytes
  have hml : c.maxLocals = 4 := hml0
  have hown : s.vm.findClass "org/laneweave/lanes/BitRow" = some m.cls := findClass_of_methodNamed Bd.named
  have hnm := (name_of_methodNamed Bd.named Bd.method).1
  have X0 : Stand p l e ({ frames := 1, cells := 0, slots := 0, locals := 12 } : Room) s m #[(.ref a1), (.ref a2), (.long q3)] below meth c s₁ [] 0 0 := Stand.of_body Bd
  have e0 : s₁.heap = h0 := by rw [← hh, Bd.state]; rfl
  have N0 := Fr.nil n0
  show Own.Fin p e below _ (Own.Post s (Q4 Z a1 a2 q3 h0 n0) ({ frames := 1, cells := 0, slots := 0, locals := 12 } : Room).cells ({ frames := 1, cells := 0, slots := 0, locals := 12 } : Room).slots)
  refine Own.start (ef_4 m a1 a2 q3) ?_
  show Own.Fin p e below (s₁.setTop (mkF m 0 #[.val (.ref a1), .val (.ref a2), .val (.long q3), .second] [])) _
  refine Own.go (fun t k => XS.aloadN X0.here hx rfl (hb hby d4_0) rfl rfl k) ?_
  show Own.Fin p e below (s₁.setTop (mkF m 1 #[.val (.ref a1), .val (.ref a2), .val (.long q3), .second] [(.ref a1)])) _
  obtain ⟨T1, X1, e1, st1⟩ := initO X0 hx hZ hown (hw _ (List.mem_of_getElem? (i := 21) rfl)) (hw _ (List.mem_of_getElem? (i := 22) rfl)) (hw _ (List.mem_of_getElem? (i := 23) rfl)) e0 (g := (mkF m 1 #[.val (.ref a1), .val (.ref a2), .val (.long q3), .second] [(.ref a1)])) rfl (by rw [hml]; rfl) rfl (hb hby d4_1) (by decide) (W := 0) (by show 2 * 0 + _ ≤ _; exact Nat.le_of_eq rfl) (by decide)
  refine Own.go st1 ?_
  show Own.Fin p e below (T1.setTop (mkF m 4 #[.val (.ref a1), .val (.ref a2), .val (.long q3), .second] [])) _
  refine Own.go (fun t k => XS.aloadN X1.here hx rfl (hb hby d4_4) rfl rfl k) ?_
  show Own.Fin p e below (T1.setTop (mkF m 5 #[.val (.ref a1), .val (.ref a2), .val (.long q3), .second] [(.ref a1)])) _
  refine Own.go (fun t k => XS.aloadN X1.here hx rfl (hb hby d4_5) rfl rfl k) ?_
  show Own.Fin p e below (T1.setTop (mkF m 6 #[.val (.ref a1), .val (.ref a2), .val (.long q3), .second] [(.ref a2), (.ref a1)])) _
  obtain ⟨T2, h2, X2, e2, W2, st2⟩ := putF X1 hx hZ hown (host := "") (Or.inl (hw _ (List.mem_of_getElem? (i := 24) rfl))) Via.refl e1 FC EA (Or.inl (hw _ (List.mem_of_getElem? (i := 25) rfl))) (hw _ (List.mem_of_getElem? (i := 9) rfl)) (ty := (.array (.array .long))) (by decide) rfl rfl (g := (mkF m 6 #[.val (.ref a1), .val (.ref a2), .val (.long q3), .second] [(.ref a2), (.ref a1)])) rfl rfl (hb hby d4_6)
  refine Own.go st2 ?_
  have f3 := FC.same W2
  have N2 := Fr.snoc X2 N0 ga
  have Z2 : n0 ≤ h2.size := by rw [W2.size]; exact Z0
  have f4 := EA.wr W2
  have f5 := FE.other W2 (Or.inr (slot_ne (Or.inl (hw _ (List.mem_of_getElem? (i := 27) rfl))) (Or.inl (hw _ (List.mem_of_getElem? (i := 25) rfl))) (by decide) (t := .long) (t' := (.array (.array .long))) (by decide) (by decide)))
  have K2 := (Keep.refl h0 [a1]).wr W2 (Or.inl (List.mem_cons_self ..))
  show Own.Fin p e below (T2.setTop (mkF m 9 #[.val (.ref a1), .val (.ref a2), .val (.long q3), .second] [])) _
  refine Own.go (fun t k => XS.aloadN X2.here hx rfl (hb hby d4_9) rfl rfl k) ?_
  show Own.Fin p e below (T2.setTop (mkF m 10 #[.val (.ref a1), .val (.ref a2), .val (.long q3), .second] [(.ref a1)])) _
  refine Own.go (fun t k => XS.lloadN X2.here hx rfl (hb hby d4_10) rfl k) ?_
  show Own.Fin p e below (T2.setTop (mkF m 11 #[.val (.ref a1), .val (.ref a2), .val (.long q3), .second] [(.long q3), (.ref a1)])) _
  obtain ⟨T6, h6, X6, e6, W6, st6⟩ := putF X2 hx hZ hown (host := "") (Or.inl (hw _ (List.mem_of_getElem? (i := 26) rfl))) Via.refl e2 f5 f4 (Or.inl (hw _ (List.mem_of_getElem? (i := 27) rfl))) (hw _ (List.mem_of_getElem? (i := 9) rfl)) (ty := .long) (by decide) rfl rfl (g := (mkF m 11 #[.val (.ref a1), .val (.ref a2), .val (.long q3), .second] [(.long q3), (.ref a1)])) rfl rfl (hb hby d4_11)
  refine Own.go st6 ?_
  have f7 := f5.same W6
  have N6 := Fr.snoc X6 N2 ga
  have Z6 : n0 ≤ h6.size := by rw [W6.size]; exact Z2
  have f8 := f4.wr W6
  have f9 := f3.other W6 (Or.inr (slot_ne (Or.inl (hw _ (List.mem_of_getElem? (i := 25) rfl))) (Or.inl (hw _ (List.mem_of_getElem? (i := 27) rfl))) (by decide) (t := (.array (.array .long))) (t' := .long) (by decide) (by decide)))
  have K6 := K2.wr W6 (Or.inl (List.mem_cons_self ..))
  show Own.Fin p e below (T6.setTop (mkF m 14 #[.val (.ref a1), .val (.ref a2), .val (.long q3), .second] [])) _
  refine Own.retV X6 hx Bd.notSynchronized Bd.returns (hb hby d4_14) (by decide) (by decide) ?_
  rw [e6]; exact ⟨rfl, N6, K6, f9, f7⟩
theorem d3_0 : decode prog_10_method_1_code 0 = .ok (.aload_n 0, 1) := by decide +kernel
theorem d3_1 : decode prog_10_method_1_code 1 = .ok (.iconst 1, 1) := by decide +kernel
theorem d3_2 : decode prog_10_method_1_code 2 = .ok (.anewarray 3, 3) := by decide +kernel
theorem d3_5 : decode prog_10_method_1_code 5 = .ok (.dup, 1) := by decide +kernel
theorem d3_6 : decode prog_10_method_1_code 6 = .ok (.iconst 0, 1) := by decide +kernel
theorem d3_7 : decode prog_10_method_1_code 7 = .ok (.bipush 8, 2) := by decide +kernel
theorem d3_9 : decode prog_10_method_1_code 9 = .ok (.newarray .long, 2) := by decide +kernel
theorem d3_11 : decode prog_10_method_1_code 11 = .ok (.aastore, 1) := by decide +kernel
theorem d3_12 : decode prog_10_method_1_code 12 = .ok (.lconst 0, 1) := by decide +kernel
theorem d3_13 : decode prog_10_method_1_code 13 = .ok (.invokespecial 5, 3) := by decide +kernel
theorem d3_16 : decode prog_10_method_1_code 16 = .ok (.return_, 1) := by decide +kernel
theorem pd_0 : parseMethodDescriptor "([[JJ)V" = some ⟨[(.array (.array .long)), .long], none⟩ := by decide +kernel
theorem pn_3 : plainName "org/laneweave/lanes/BitRow" = true := by first | (simp [plainName, overriddenIn]; done) | decide +kernel
theorem ef_3 (m : MethodId) (a1 : Addr) : entryFrame m #[(.ref a1)] 1 = mkF m 0 #[.val (.ref a1)] [] := by first | (simp [entryFrame, mkF, argsToLocals, Value.category]; done) | rfl
def Q3 (Z : State) (a1 : Addr)  (h0 : Heap) (n0 : Nat) : Option Value → Heap → List Loc → Prop := fun v h L => ∃ (c1 c2 : Addr) (k1 k2 : ClassId), v = none ∧ Fr n0 L ∧ Keep h0 h [a1] ∧ Fld Z h a1 "org/laneweave/lanes/BitRow" "chunks" "[[J" (.ref c1) ∧ Fld Z h a1 "org/laneweave/lanes/BitRow" "end" "J" (.long (0 : Int64)) ∧ Arv Z h c1 k1 (.array .long) (1 : Int32) [Value.ref c2] .null ∧ Arv Z h c2 k2 .long (8 : Int32) (List.map Value.long ([0, 0, 0, 0, 0, 0, 0, 0])) (.long (0 : Int64)) ∧ n0 ≤ c1 ∧ n0 ≤ c2 ∧ a1 ≠ c1 ∧ a1 ≠ c2 ∧ c1 ≠ c2
set_option maxRecDepth 65536 in
set_option maxHeartbeats 40000000 in
theorem rm3 (l : Launch) (Z : State) (a0 : Array Value) (hw : ∀ d ∈ tables_1, d.before a0 Z = true) (ws : List Jvm.Cond) (a1 : Addr)  (h0 : Heap) (n0 : Nat) (Z0 : n0 ≤ h0.size) (EA : Exa Z h0 a1 "org/laneweave/lanes/BitRow") (FC : Fld Z h0 a1 "org/laneweave/lanes/BitRow" "chunks" "[[J" .null) (FE : Fld Z h0 a1 "org/laneweave/lanes/BitRow" "end" "J" (.long (0 : Int64))) (ga : n0 ≤ a1) :
    MetFree l (⟨"org/laneweave/lanes/BitRow", "<init>", "()V"⟩ : MethodName) (head1 (Jvm.Cond.code (⟨"org/laneweave/lanes/BitRow", "<init>", "()V"⟩ : MethodName) prog_10_method_1_code 1 none :: ws) ({ frames := 2, cells := 2, slots := 9, locals := 27 } : Room)) (fun a U => a = #[(.ref a1)] ∧ Z.Warmed39 U.vm ∧ U.heap = h0) (fun _ _ _ _ _ => True) (fun _ U o U' => ∃ v L, o = .returned v ∧ (Q3 Z a1 h0 n0) v U'.heap L ∧ FrameEnd U o U' L ({ frames := 2, cells := 2, slots := 9, locals := 27 } : Room).cells ({ frames := 2, cells := 2, slots := 9, locals := 27 } : Room).slots) := by
  refine MetFree.of_bodySF (plainFor_of_name pn_3) hisR ?_
  intro p e s m args below meth c s₁ Bd hml0 hP hK
  obtain ⟨rfl, hZ, hh⟩ := hP
  have hx := Bd.exec
  have hby := Bd.bytes
  have hml : c.maxLocals = 1 := hml0
  have hown : s.vm.findClass "org/laneweave/lanes/BitRow" = some m.cls := findClass_of_methodNamed Bd.named
  have hnm := (name_of_methodNamed Bd.named Bd.method).1
  have X0 : Stand p l e ({ frames := 2, cells := 2, slots := 9, locals := 27 } : Room) s m #[(.ref a1)] below meth c s₁ [] 0 0 := Stand.of_body Bd
  have e0 : s₁.heap = h0 := by rw [← hh, Bd.state]; rfl
  have N0 := Fr.nil n0
  show Own.Fin p e below _ (Own.Post s (Q3 Z a1 h0 n0) ({ frames := 2, cells := 2, slots := 9, locals := 27 } : Room).cells ({ frames := 2, cells := 2, slots := 9, locals := 27 } : Room).slots)
  refine Own.start (ef_3 m a1) ?_
  show Own.Fin p e below (s₁.setTop (mkF m 0 #[.val (.ref a1)] [])) _
  refine Own.go (fun t k => XS.aloadN X0.here hx rfl (hb hby d3_0) rfl rfl k) ?_
  show Own.Fin p e below (s₁.setTop (mkF m 1 #[.val (.ref a1)] [(.ref a1)])) _
  refine Own.go (fun t k => XS.iconst X0.here hx rfl (hb hby d3_1) k) ?_
  show Own.Fin p e below (s₁.setTop (mkF m 2 #[.val (.ref a1)] [(.int (1 : Int32)), (.ref a1)])) _
  obtain ⟨T1, h1, k1, X1, e1, E1, A1, Q1, O1, st1⟩ := newRA X0 hx hZ hown (ty := .long) (by decide) (hw _ (List.mem_of_getElem? (i := 14) rfl)) (hw _ (List.mem_of_getElem? (i := 15) rfl)) e0 (g := (mkF m 2 #[.val (.ref a1)] [(.int (1 : Int32)), (.ref a1)])) rfl (hb hby d3_2) rfl (by decide) (cap := 1) (by decide) (by decide) (by decide) (by decide) rfl
  obtain ⟨b1, gb1⟩ : ∃ z, z = h0.size := ⟨_, rfl⟩
  rw [← gb1] at A1 Q1 st1
  refine Own.go st1 ?_
  have ge1 : n0 ≤ b1 := by rw [gb1]; exact Z0
  have sz_b1 : h0.size ≤ b1 := Nat.le_trans (Keep.refl h0 [a1]).1 (Nat.le_of_eq gb1.symm)
  have ne1_a1 : a1 ≠ b1 := Nat.ne_of_lt (Nat.lt_of_lt_of_le EA.lt (Nat.le_of_eq gb1.symm))
  have Z1 : n0 ≤ h1.size := Nat.le_trans Z0 E1.1
  have f2 := EA.ext E1
  have f3 := FC.ext E1
  have f4 := FE.ext E1
  have K1 := (Keep.refl h0 [a1]).ext E1
  have V1 := Arv.pad (vs' := [.null]) (Arv.new A1 (by decide)) (pad_rep [] .null 1)
  show Own.Fin p e below (T1.setTop (mkF m 5 #[.val (.ref a1)] [(.ref b1), (.ref a1)])) _
  refine Own.go (fun t k => XS.dup X1.here hx rfl (hb hby d3_5) rfl rfl k) ?_
  show Own.Fin p e below (T1.setTop (mkF m 6 #[.val (.ref a1)] [(.ref b1), (.ref b1), (.ref a1)])) _
  refine Own.go (fun t k => XS.iconst X1.here hx rfl (hb hby d3_6) k) ?_
  show Own.Fin p e below (T1.setTop (mkF m 7 #[.val (.ref a1)] [(.int (0 : Int32)), (.ref b1), (.ref b1), (.ref a1)])) _
  refine Own.go (fun t k => XS.bipush X1.here hx rfl (hb hby d3_7) k) ?_
  show Own.Fin p e below (T1.setTop (mkF m 9 #[.val (.ref a1)] [(.int (8 : Int32)), (.int (0 : Int32)), (.ref b1), (.ref b1), (.ref a1)])) _
  obtain ⟨T5, h5, k5, X5, e5, E5, A5, Q5, st5⟩ := newPE X1 hx hZ (hw _ (List.mem_of_getElem? (i := 16) rfl)) e1 (g := (mkF m 9 #[.val (.ref a1)] [(.int (8 : Int32)), (.int (0 : Int32)), (.ref b1), (.ref b1), (.ref a1)])) rfl (hb hby d3_9) rfl (by decide) (cap := 8) (by decide) (by decide) (by decide) (by decide) (ad := "[J") (by decide)
  obtain ⟨b5, gb5⟩ : ∃ z, z = h1.size := ⟨_, rfl⟩
  rw [← gb5] at A5 Q5 st5
  refine Own.go st5 ?_
  have ge5 : n0 ≤ b5 := by rw [gb5]; exact Z1
  have sz_b5 : h0.size ≤ b5 := Nat.le_trans K1.1 (Nat.le_of_eq gb5.symm)
  have ne5_a1 : a1 ≠ b5 := Nat.ne_of_lt (Nat.lt_of_lt_of_le f2.lt (Nat.le_of_eq gb5.symm))
  have ne5_b1 : b1 ≠ b5 := Nat.ne_of_lt (Nat.lt_of_lt_of_le V1.lt (Nat.le_of_eq gb5.symm))
  have Z5 : n0 ≤ h5.size := Nat.le_trans Z1 E5.1
  have f6 := f2.ext E5
  have f7 := f3.ext E5
  have f8 := f4.ext E5
  have f9 := V1.ext E5
  have K5 := K1.ext E5
  have V5 : Arv Z h5 b5 k5 .long (8 : Int32) (List.map Value.long [0, 0, 0, 0, 0, 0, 0, 0]) (.long (0 : Int64)) := Arv.pad (Arv.new A5 (by decide)) (pad_rep [] (.long (0 : Int64)) 8)
  show Own.Fin p e below (T5.setTop (mkF m 11 #[.val (.ref a1)] [(.ref b5), (.int (0 : Int32)), (.ref b1), (.ref b1), (.ref a1)])) _
  obtain ⟨cl, Ar, qk, Sz, Ng, Hs, Gf⟩ := f9
  have hin : ¬ ((0 : Int32) < 0 ∨ cl.slots.size ≤ (0 : Int32).toNatClampNeg) := inb_of Sz ⟨by decide, by decide⟩
  obtain ⟨T10, h10, X10, e10, W10, st10⟩ := stR X5 hx hZ e5 Ar (j := (0 : Int32)) hin rfl (Sto.ofVA Ar qk O1 (Ins.self Q5)) (g := (mkF m 11 #[.val (.ref a1)] [(.ref b5), (.int (0 : Int32)), (.ref b1), (.ref b1), (.ref a1)])) rfl rfl (hb hby d3_11)
  refine Own.go st10 ?_
  have V10 : Arv Z h10 b1 k1 (.array .long) (1 : Int32) [Value.ref b5] .null := Arv.set Ar qk Sz Ng Hs Gf rfl W10 0 rfl (by decide)
  have N10 := Fr.snoc X10 N0 ge1
  have Z10 : n0 ≤ h10.size := by rw [W10.size]; exact Z5
  have f11 := f6.wr W10
  have f12 := f7.other W10 (Or.inl ne1_a1)
  have f13 := f8.other W10 (Or.inl ne1_a1)
  have f14 := V5.other W10 (Ne.symm ne5_b1)
  have f15 := Q5.wr W10
  have K10 := K5.wr W10 (Or.inr sz_b1)
  show Own.Fin p e below (T10.setTop (mkF m 12 #[.val (.ref a1)] [(.ref b1), (.ref a1)])) _
  refine Own.go (fun t k => XS.lconst X10.here hx rfl (hb hby d3_12) k) ?_
  show Own.Fin p e below (T10.setTop (mkF m 13 #[.val (.ref a1)] [(.long (0 : Int64)), (.ref b1), (.ref a1)])) _
  refine Own.cI X10 hx hZ rfl hown (hw _ (List.mem_of_getElem? (i := 18) rfl)) (hw _ (List.mem_of_getElem? (i := 19) rfl)) (hw _ (List.mem_of_getElem? (i := 10) rfl)) (hw _ (List.mem_of_getElem? (i := 20) rfl)) (by decide) (rm4 l Z a0 hw [] a1 b1 (0 : Int64) h10 n0 Z10 f11 f12 f13 ga) (by decide) (W := 0) (by decide) (argsL := [(.ref b1), (.long (0 : Int64))]) (rest := []) (by rw [hml]; rfl) (lenOf pd_0 rfl) rfl (Nat.le_of_eq rfl) (hb hby d3_13) e10 (by decide) (by decide) ?_
  intro T16 L16 v16 X16 hQ16
  obtain ⟨rfl, N16q, K16q, FC16, FE16⟩ := hQ16
  have N16 := Fr.app N10 N16q
  have f17 := f11.keep K16q
  have f18 := V10.keep K16q (ninS (Ne.symm ne1_a1) nin0)
  have f19 := f14.keep K16q (ninS (Ne.symm ne5_a1) nin0)
  have f20 := f15.keep K16q
  have Z16 : n0 ≤ T16.heap.size := Nat.le_trans Z10 K16q.1
  have KK16 := K10.trans K16q (allS (Or.inl (List.mem_cons_self ..)) all0)
  show Own.Fin p e below (T16.setTop (mkF m 16 #[.val (.ref a1)] [])) _
  refine Own.retV X16 hx Bd.notSynchronized Bd.returns (hb hby d3_16) (by decide) (by decide) ?_
  exact ⟨b1, b5, k1, k5, rfl, N16, KK16, FC16, FE16, f18, f19, ge1, ge5, ne1_a1, ne5_a1, ne5_b1⟩
theorem d9_0 : decode prog_10_method_7_code 0 = .ok (.aload_n 0, 1) := by decide +kernel
theorem d9_1 : decode prog_10_method_7_code 1 = .ok (.getfield 14, 3) := by decide +kernel
theorem d9_4 : decode prog_10_method_7_code 4 = .ok (.lload_n 1, 1) := by decide +kernel
theorem d9_5 : decode prog_10_method_7_code 5 = .ok (.bipush 13, 2) := by decide +kernel
theorem d9_7 : decode prog_10_method_7_code 7 = .ok (.lushr, 1) := by decide +kernel
theorem d9_8 : decode prog_10_method_7_code 8 = .ok (.l2i, 1) := by decide +kernel
theorem d9_9 : decode prog_10_method_7_code 9 = .ok (.aaload, 1) := by decide +kernel
theorem d9_10 : decode prog_10_method_7_code 10 = .ok (.lload_n 1, 1) := by decide +kernel
theorem d9_11 : decode prog_10_method_7_code 11 = .ok (.l2i, 1) := by decide +kernel
theorem d9_12 : decode prog_10_method_7_code 12 = .ok (.sipush 8191, 3) := by decide +kernel
theorem d9_15 : decode prog_10_method_7_code 15 = .ok (.iand, 1) := by decide +kernel
theorem d9_16 : decode prog_10_method_7_code 16 = .ok (.laload, 1) := by decide +kernel
theorem d9_17 : decode prog_10_method_7_code 17 = .ok (.lreturn, 1) := by decide +kernel
theorem pn_9 : plainName "org/laneweave/lanes/BitRow" = true := by first | (simp [plainName, overriddenIn]; done) | decide +kernel
theorem ef_9 (m : MethodId) (a1 : Addr) (q2 : Int64) : entryFrame m #[(.ref a1), (.long q2)] 3 = mkF m 0 #[.val (.ref a1), .val (.long q2), .second] [] := by first | (simp [entryFrame, mkF, argsToLocals, Value.category]; done) | rfl
def Q9 (Z : State) (a1 : Addr) (q2 : Int64) (c1 c2 : Addr) (k1 k2 : ClassId) (lw : List Int64) (h0 : Heap) (n0 : Nat) : Option Value → Heap → List Loc → Prop := fun v h L => v = some (.long (lw.getD q2.toInt.toNat 0)) ∧ Fr n0 L ∧ h = h0
set_option maxRecDepth 65536 in
set_option maxHeartbeats 40000000 in
theorem rm9 (l : Launch) (Z : State) (a0 : Array Value) (hw : ∀ d ∈ tables_1, d.before a0 Z = true) (ws : List Jvm.Cond) (a1 : Addr) (q2 : Int64) (c1 c2 : Addr) (k1 k2 : ClassId) (lw : List Int64) (h0 : Heap) (n0 : Nat) (Z0 : n0 ≤ h0.size) (FC : Fld Z h0 a1 "org/laneweave/lanes/BitRow" "chunks" "[[J" (.ref c1)) (V1 : Arv Z h0 c1 k1 (.array .long) (1 : Int32) [Value.ref c2] .null) (V2 : Arv Z h0 c2 k2 .long (8 : Int32) (List.map Value.long (lw)) (.long (0 : Int64))) (h8 : lw.length = 8) (hq : 0 ≤ q2.toInt ∧ q2.toInt < 8) :
    MetFree l (⟨"org/laneweave/lanes/BitRow", "word", "(J)J"⟩ : MethodName) (head1 (Jvm.Cond.code (⟨"org/laneweave/lanes/BitRow", "word", "(J)J"⟩ : MethodName) prog_10_method_7_code 3 (some .long) :: ws) ({ frames := 0, cells := 0, slots := 0, locals := 0 } : Room)) (fun a U => a = #[(.ref a1), (.long q2)] ∧ Z.Warmed39 U.vm ∧ U.heap = h0) (fun _ _ _ _ _ => True) (fun _ U o U' => ∃ v L, o = .returned v ∧ (Q9 Z a1 q2 c1 c2 k1 k2 lw h0 n0) v U'.heap L ∧ FrameEnd U o U' L ({ frames := 0, cells := 0, slots := 0, locals := 0 } : Room).cells ({ frames := 0, cells := 0, slots := 0, locals := 0 } : Room).slots) := by
  refine MetFree.of_bodySF (plainFor_of_name pn_9) hisR ?_
  intro p e s m args below meth c s₁ Bd hml0 hP hK
  obtain ⟨rfl, hZ, hh⟩ := hP
  have hx := Bd.exec
  have hby := Bd.bytes
  have hml : c.maxLocals = 3 := hml0
  have hown : s.vm.findClass "org/laneweave/lanes/BitRow" = some m.cls := findClass_of_methodNamed Bd.named
  have hnm := (name_of_methodNamed Bd.named Bd.method).1
  have X0 : Stand p l e ({ frames := 0, cells := 0, slots := 0, locals := 0 } : Room) s m #[(.ref a1), (.long q2)] below meth c s₁ [] 0 0 := Stand.of_body Bd
  have e0 : s₁.heap = h0 := by rw [← hh, Bd.state]; rfl
  have N0 := Fr.nil n0
  show Own.Fin p e below _ (Own.Post s (Q9 Z a1 q2 c1 c2 k1 k2 lw h0 n0) ({ frames := 0, cells := 0, slots := 0, locals := 0 } : Room).cells ({ frames := 0, cells := 0, slots := 0, locals := 0 } : Room).slots)
  refine Own.start (ef_9 m a1 q2) ?_
  show Own.Fin p e below (s₁.setTop (mkF m 0 #[.val (.ref a1), .val (.long q2), .second] [])) _
  refine Own.go (fun t k => XS.aloadN X0.here hx rfl (hb hby d9_0) rfl rfl k) ?_
  show Own.Fin p e below (s₁.setTop (mkF m 1 #[.val (.ref a1), .val (.long q2), .second] [(.ref a1)])) _
  obtain ⟨T1, X1, e1, st1⟩ := getF X0 hx hZ hown (host := "") (Or.inl (hw _ (List.mem_of_getElem? (i := 24) rfl))) Via.refl e0 FC (g := (mkF m 1 #[.val (.ref a1), .val (.long q2), .second] [(.ref a1)])) rfl rfl (hb hby d9_1)
  refine Own.go st1 ?_
  show Own.Fin p e below (T1.setTop (mkF m 4 #[.val (.ref a1), .val (.long q2), .second] [(.ref c1)])) _
  refine Own.go (fun t k => XS.lloadN X1.here hx rfl (hb hby d9_4) rfl k) ?_
  show Own.Fin p e below (T1.setTop (mkF m 5 #[.val (.ref a1), .val (.long q2), .second] [(.long q2), (.ref c1)])) _
  refine Own.go (fun t k => XS.bipush X1.here hx rfl (hb hby d9_5) k) ?_
  show Own.Fin p e below (T1.setTop (mkF m 7 #[.val (.ref a1), .val (.long q2), .second] [(.int (13 : Int32)), (.long q2), (.ref c1)])) _
  refine Own.go (fun t k => XS.lushr X1.here hx rfl (hb hby d9_7) rfl k) ?_
  show Own.Fin p e below (T1.setTop (mkF m 8 #[.val (.ref a1), .val (.long q2), .second] [(.long (((q2).toUInt64 >>> ((13 : Int32) &&& 0x3f).toInt64.toUInt64).toInt64)), (.ref c1)])) _
  refine Own.go (fun t k => XS.l2i X1.here hx rfl (hb hby d9_8) rfl k) ?_
  show Own.Fin p e below (T1.setTop (mkF m 9 #[.val (.ref a1), .val (.long q2), .second] [(.int (((((q2).toUInt64 >>> ((13 : Int32) &&& 0x3f).toInt64.toUInt64).toInt64)).toInt32)), (.ref c1)])) _
  rw [show (((((q2).toUInt64 >>> ((13 : Int32) &&& 0x3f).toInt64.toUInt64).toInt64)).toInt32) = (0 : Int32) from own_hi q2 hq]
  show Own.Fin p e below (T1.setTop (mkF m 9 #[.val (.ref a1), .val (.long q2), .second] [(.int (0 : Int32)), (.ref c1)])) _
  refine Own.ldR X1 hx hZ e1 V1 rfl (hb hby d9_9) ⟨by decide, by decide⟩ (w := (.ref c2)) rfl ?_
  show Own.Fin p e below (T1.setTop (mkF m 10 #[.val (.ref a1), .val (.long q2), .second] [(.ref c2)])) _
  refine Own.go (fun t k => XS.lloadN X1.here hx rfl (hb hby d9_10) rfl k) ?_
  show Own.Fin p e below (T1.setTop (mkF m 11 #[.val (.ref a1), .val (.long q2), .second] [(.long q2), (.ref c2)])) _
  refine Own.go (fun t k => XS.l2i X1.here hx rfl (hb hby d9_11) rfl k) ?_
  show Own.Fin p e below (T1.setTop (mkF m 12 #[.val (.ref a1), .val (.long q2), .second] [(.int ((q2).toInt32)), (.ref c2)])) _
  refine Own.go (fun t k => XS.sipush X1.here hx rfl (hb hby d9_12) k) ?_
  show Own.Fin p e below (T1.setTop (mkF m 15 #[.val (.ref a1), .val (.long q2), .second] [(.int (8191 : Int32)), (.int ((q2).toInt32)), (.ref c2)])) _
  refine Own.go (fun t k => XS.iand X1.here hx rfl (hb hby d9_15) rfl k) ?_
  show Own.Fin p e below (T1.setTop (mkF m 16 #[.val (.ref a1), .val (.long q2), .second] [(.int (((q2).toInt32) &&& (8191 : Int32))), (.ref c2)])) _
  have hu : ((((q2).toInt32) &&& (8191 : Int32))).toInt = q2.toInt := own_lo q2 hq
  generalize hu_ : (((q2).toInt32) &&& (8191 : Int32)) = u6 at hu ⊢
  refine Own.ldJ X1 hx hZ e1 V2 (hb hby d9_16) (own_u6 u6 q2 hu hq) ?_
  intro y2 hy2
  show Own.Fin p e below (T1.setTop (mkF m 17 #[.val (.ref a1), .val (.long q2), .second] [(.long y2)])) _
  refine Own.retJ X1 hx Bd.notSynchronized Bd.returns (hb hby d9_17) (by decide) (by decide) ?_
  exact ⟨by rw [own_val hy2, own_clu hu hq], N0, e1⟩
theorem d7_0 : decode prog_10_method_8_code 0 = .ok (.lload_n 1, 1) := by decide +kernel
theorem d7_1 : decode prog_10_method_8_code 1 = .ok (.bipush 13, 2) := by decide +kernel
theorem d7_3 : decode prog_10_method_8_code 3 = .ok (.lushr, 1) := by decide +kernel
theorem d7_4 : decode prog_10_method_8_code 4 = .ok (.l2i, 1) := by decide +kernel
theorem d7_5 : decode prog_10_method_8_code 5 = .ok (.istore 5, 2) := by decide +kernel
theorem d7_7 : decode prog_10_method_8_code 7 = .ok (.lload_n 1, 1) := by decide +kernel
theorem d7_8 : decode prog_10_method_8_code 8 = .ok (.l2i, 1) := by decide +kernel
theorem d7_9 : decode prog_10_method_8_code 9 = .ok (.sipush 8191, 3) := by decide +kernel
theorem d7_12 : decode prog_10_method_8_code 12 = .ok (.iand, 1) := by decide +kernel
theorem d7_13 : decode prog_10_method_8_code 13 = .ok (.istore 6, 2) := by decide +kernel
theorem d7_15 : decode prog_10_method_8_code 15 = .ok (.iload 5, 2) := by decide +kernel
theorem d7_17 : decode prog_10_method_8_code 17 = .ok (.aload_n 0, 1) := by decide +kernel
theorem d7_18 : decode prog_10_method_8_code 18 = .ok (.getfield 14, 3) := by decide +kernel
theorem d7_21 : decode prog_10_method_8_code 21 = .ok (.arraylength, 1) := by decide +kernel
theorem d7_22 : decode prog_10_method_8_code 22 = .ok (.if_icmp .eq 16, 3) := by decide +kernel
theorem d7_25 : decode prog_10_method_8_code 25 = .ok (.iload 6, 2) := by decide +kernel
theorem d7_27 : decode prog_10_method_8_code 27 = .ok (.aload_n 0, 1) := by decide +kernel
theorem d7_28 : decode prog_10_method_8_code 28 = .ok (.getfield 14, 3) := by decide +kernel
theorem d7_31 : decode prog_10_method_8_code 31 = .ok (.iload 5, 2) := by decide +kernel
theorem d7_33 : decode prog_10_method_8_code 33 = .ok (.aaload, 1) := by decide +kernel
theorem d7_34 : decode prog_10_method_8_code 34 = .ok (.arraylength, 1) := by decide +kernel
theorem d7_35 : decode prog_10_method_8_code 35 = .ok (.if_icmp .ne 11, 3) := by decide +kernel
theorem d7_46 : decode prog_10_method_8_code 46 = .ok (.aload_n 0, 1) := by decide +kernel
theorem d7_47 : decode prog_10_method_8_code 47 = .ok (.getfield 14, 3) := by decide +kernel
theorem d7_50 : decode prog_10_method_8_code 50 = .ok (.iload 5, 2) := by decide +kernel
theorem d7_52 : decode prog_10_method_8_code 52 = .ok (.aaload, 1) := by decide +kernel
theorem d7_53 : decode prog_10_method_8_code 53 = .ok (.iload 6, 2) := by decide +kernel
theorem d7_55 : decode prog_10_method_8_code 55 = .ok (.dup2, 1) := by decide +kernel
theorem d7_56 : decode prog_10_method_8_code 56 = .ok (.laload, 1) := by decide +kernel
theorem d7_57 : decode prog_10_method_8_code 57 = .ok (.lload_n 3, 1) := by decide +kernel
theorem d7_58 : decode prog_10_method_8_code 58 = .ok (.lor, 1) := by decide +kernel
theorem d7_59 : decode prog_10_method_8_code 59 = .ok (.lastore, 1) := by decide +kernel
theorem d7_60 : decode prog_10_method_8_code 60 = .ok (.return_, 1) := by decide +kernel
theorem pn_7 : plainName "org/laneweave/lanes/BitRow" = true := by first | (simp [plainName, overriddenIn]; done) | decide +kernel
theorem ef_7 (m : MethodId) (a1 : Addr) (q2 : Int64) (q3 : Int64) : entryFrame m #[(.ref a1), (.long q2), (.long q3)] 7 = mkF m 0 #[.val (.ref a1), .val (.long q2), .second, .val (.long q3), .second, .unset, .unset] [] := by first | (simp [entryFrame, mkF, argsToLocals, Value.category]; done) | rfl
def Q7 (Z : State) (a1 : Addr) (q2 : Int64) (q3 : Int64) (c1 c2 : Addr) (k1 k2 : ClassId) (lw : List Int64) (h0 : Heap) (n0 : Nat) : Option Value → Heap → List Loc → Prop := fun v h L => v = none ∧ Fr n0 L ∧ Keep h0 h [c2] ∧ Arv Z h c2 k2 .long (8 : Int32) (List.map Value.long (F_or lw q2.toInt.toNat q3)) (.long (0 : Int64))
set_option maxRecDepth 65536 in
set_option maxHeartbeats 40000000 in
theorem rm7 (l : Launch) (Z : State) (a0 : Array Value) (hw : ∀ d ∈ tables_1, d.before a0 Z = true) (ws : List Jvm.Cond) (a1 : Addr) (q2 : Int64) (q3 : Int64) (c1 c2 : Addr) (k1 k2 : ClassId) (lw : List Int64) (h0 : Heap) (n0 : Nat) (Z0 : n0 ≤ h0.size) (FC : Fld Z h0 a1 "org/laneweave/lanes/BitRow" "chunks" "[[J" (.ref c1)) (V1 : Arv Z h0 c1 k1 (.array .long) (1 : Int32) [Value.ref c2] .null) (V2 : Arv Z h0 c2 k2 .long (8 : Int32) (List.map Value.long (lw)) (.long (0 : Int64))) (h8 : lw.length = 8) (hq : 0 ≤ q2.toInt ∧ q2.toInt < 8) (g2 : n0 ≤ c2) (na2 : a1 ≠ c2) (n12 : c1 ≠ c2) :
    MetFree l (⟨"org/laneweave/lanes/BitRow", "or", "(JJ)V"⟩ : MethodName) (head1 (Jvm.Cond.code (⟨"org/laneweave/lanes/BitRow", "or", "(JJ)V"⟩ : MethodName) prog_10_method_8_code 7 none :: ws) ({ frames := 0, cells := 0, slots := 0, locals := 0 } : Room)) (fun a U => a = #[(.ref a1), (.long q2), (.long q3)] ∧ Z.Warmed39 U.vm ∧ U.heap = h0) (fun _ _ _ _ _ => True) (fun _ U o U' => ∃ v L, o = .returned v ∧ (Q7 Z a1 q2 q3 c1 c2 k1 k2 lw h0 n0) v U'.heap L ∧ FrameEnd U o U' L ({ frames := 0, cells := 0, slots := 0, locals := 0 } : Room).cells ({ frames := 0, cells := 0, slots := 0, locals := 0 } : Room).slots) := by
  refine MetFree.of_bodySF (plainFor_of_name pn_7) hisR ?_
  intro p e s m args below meth c s₁ Bd hml0 hP hK
  obtain ⟨rfl, hZ, hh⟩ := hP
  have hx := Bd.exec
  have hby := Bd.bytes
  have hml : c.maxLocals = 7 := hml0
  have hown : s.vm.findClass "org/laneweave/lanes/BitRow" = some m.cls := findClass_of_methodNamed Bd.named
  have hnm := (name_of_methodNamed Bd.named Bd.method).1
  have X0 : Stand p l e ({ frames := 0, cells := 0, slots := 0, locals := 0 } : Room) s m #[(.ref a1), (.long q2), (.long q3)] below meth c s₁ [] 0 0 := Stand.of_body Bd
  have e0 : s₁.heap = h0 := by rw [← hh, Bd.state]; rfl
  have N0 := Fr.nil n0
  show Own.Fin p e below _ (Own.Post s (Q7 Z a1 q2 q3 c1 c2 k1 k2 lw h0 n0) ({ frames := 0, cells := 0, slots := 0, locals := 0 } : Room).cells ({ frames := 0, cells := 0, slots := 0, locals := 0 } : Room).slots)
  refine Own.start (ef_7 m a1 q2 q3) ?_
  show Own.Fin p e below (s₁.setTop (mkF m 0 #[.val (.ref a1), .val (.long q2), .second, .val (.long q3), .second, .unset, .unset] [])) _
  refine Own.go (fun t k => XS.lloadN X0.here hx rfl (hb hby d7_0) rfl k) ?_
  show Own.Fin p e below (s₁.setTop (mkF m 1 #[.val (.ref a1), .val (.long q2), .second, .val (.long q3), .second, .unset, .unset] [(.long q2)])) _
  refine Own.go (fun t k => XS.bipush X0.here hx rfl (hb hby d7_1) k) ?_
  show Own.Fin p e below (s₁.setTop (mkF m 3 #[.val (.ref a1), .val (.long q2), .second, .val (.long q3), .second, .unset, .unset] [(.int (13 : Int32)), (.long q2)])) _
  refine Own.go (fun t k => XS.lushr X0.here hx rfl (hb hby d7_3) rfl k) ?_
  show Own.Fin p e below (s₁.setTop (mkF m 4 #[.val (.ref a1), .val (.long q2), .second, .val (.long q3), .second, .unset, .unset] [(.long (((q2).toUInt64 >>> ((13 : Int32) &&& 0x3f).toInt64.toUInt64).toInt64))])) _
  refine Own.go (fun t k => XS.l2i X0.here hx rfl (hb hby d7_4) rfl k) ?_
  show Own.Fin p e below (s₁.setTop (mkF m 5 #[.val (.ref a1), .val (.long q2), .second, .val (.long q3), .second, .unset, .unset] [(.int (((((q2).toUInt64 >>> ((13 : Int32) &&& 0x3f).toInt64.toUInt64).toInt64)).toInt32))])) _
  rw [show (((((q2).toUInt64 >>> ((13 : Int32) &&& 0x3f).toInt64.toUInt64).toInt64)).toInt32) = (0 : Int32) from own_hi q2 hq]
  show Own.Fin p e below (s₁.setTop (mkF m 5 #[.val (.ref a1), .val (.long q2), .second, .val (.long q3), .second, .unset, .unset] [(.int (0 : Int32))])) _
  refine Own.go (fun t k => XS.istore X0.here hx rfl (hb hby d7_5) rfl (l' := #[.val (.ref a1), .val (.long q2), .second, .val (.long q3), .second, .val (.int (0 : Int32)), .unset]) rfl k) ?_
  show Own.Fin p e below (s₁.setTop (mkF m 7 #[.val (.ref a1), .val (.long q2), .second, .val (.long q3), .second, .val (.int (0 : Int32)), .unset] [])) _
  refine Own.go (fun t k => XS.lloadN X0.here hx rfl (hb hby d7_7) rfl k) ?_
  show Own.Fin p e below (s₁.setTop (mkF m 8 #[.val (.ref a1), .val (.long q2), .second, .val (.long q3), .second, .val (.int (0 : Int32)), .unset] [(.long q2)])) _
  refine Own.go (fun t k => XS.l2i X0.here hx rfl (hb hby d7_8) rfl k) ?_
  show Own.Fin p e below (s₁.setTop (mkF m 9 #[.val (.ref a1), .val (.long q2), .second, .val (.long q3), .second, .val (.int (0 : Int32)), .unset] [(.int ((q2).toInt32))])) _
  refine Own.go (fun t k => XS.sipush X0.here hx rfl (hb hby d7_9) k) ?_
  show Own.Fin p e below (s₁.setTop (mkF m 12 #[.val (.ref a1), .val (.long q2), .second, .val (.long q3), .second, .val (.int (0 : Int32)), .unset] [(.int (8191 : Int32)), (.int ((q2).toInt32))])) _
  refine Own.go (fun t k => XS.iand X0.here hx rfl (hb hby d7_12) rfl k) ?_
  show Own.Fin p e below (s₁.setTop (mkF m 13 #[.val (.ref a1), .val (.long q2), .second, .val (.long q3), .second, .val (.int (0 : Int32)), .unset] [(.int (((q2).toInt32) &&& (8191 : Int32)))])) _
  have hu : ((((q2).toInt32) &&& (8191 : Int32))).toInt = q2.toInt := own_lo q2 hq
  generalize hu_ : (((q2).toInt32) &&& (8191 : Int32)) = u6 at hu ⊢
  refine Own.go (fun t k => XS.istore X0.here hx rfl (hb hby d7_13) rfl (l' := #[.val (.ref a1), .val (.long q2), .second, .val (.long q3), .second, .val (.int (0 : Int32)), .val (.int u6)]) rfl k) ?_
  show Own.Fin p e below (s₁.setTop (mkF m 15 #[.val (.ref a1), .val (.long q2), .second, .val (.long q3), .second, .val (.int (0 : Int32)), .val (.int u6)] [])) _
  refine Own.go (fun t k => XS.iload X0.here hx rfl (hb hby d7_15) rfl k) ?_
  show Own.Fin p e below (s₁.setTop (mkF m 17 #[.val (.ref a1), .val (.long q2), .second, .val (.long q3), .second, .val (.int (0 : Int32)), .val (.int u6)] [(.int (0 : Int32))])) _
  refine Own.go (fun t k => XS.aloadN X0.here hx rfl (hb hby d7_17) rfl rfl k) ?_
  show Own.Fin p e below (s₁.setTop (mkF m 18 #[.val (.ref a1), .val (.long q2), .second, .val (.long q3), .second, .val (.int (0 : Int32)), .val (.int u6)] [(.ref a1), (.int (0 : Int32))])) _
  obtain ⟨T1, X1, e1, st1⟩ := getF X0 hx hZ hown (host := "") (Or.inl (hw _ (List.mem_of_getElem? (i := 24) rfl))) Via.refl e0 FC (g := (mkF m 18 #[.val (.ref a1), .val (.long q2), .second, .val (.long q3), .second, .val (.int (0 : Int32)), .val (.int u6)] [(.ref a1), (.int (0 : Int32))])) rfl rfl (hb hby d7_18)
  refine Own.go st1 ?_
  show Own.Fin p e below (T1.setTop (mkF m 21 #[.val (.ref a1), .val (.long q2), .second, .val (.long q3), .second, .val (.int (0 : Int32)), .val (.int u6)] [(.ref c1), (.int (0 : Int32))])) _
  refine Own.alen X1 hx hZ e1 V1 (hb hby d7_21) ?_
  show Own.Fin p e below (T1.setTop (mkF m 22 #[.val (.ref a1), .val (.long q2), .second, .val (.long q3), .second, .val (.int (0 : Int32)), .val (.int u6)] [(.int (1 : Int32)), (.int (0 : Int32))])) _
  have hc22_1 : ¬ ((0 : Int32) = (1 : Int32)) := by decide
  refine Own.go (fun t k => XS.icmpNo X1.here hx rfl (hb hby d7_22) rfl (feq hc22_1).1 k) ?_
  show Own.Fin p e below (T1.setTop (mkF m 25 #[.val (.ref a1), .val (.long q2), .second, .val (.long q3), .second, .val (.int (0 : Int32)), .val (.int u6)] [])) _
  refine Own.go (fun t k => XS.iload X1.here hx rfl (hb hby d7_25) rfl k) ?_
  show Own.Fin p e below (T1.setTop (mkF m 27 #[.val (.ref a1), .val (.long q2), .second, .val (.long q3), .second, .val (.int (0 : Int32)), .val (.int u6)] [(.int u6)])) _
  refine Own.go (fun t k => XS.aloadN X1.here hx rfl (hb hby d7_27) rfl rfl k) ?_
  show Own.Fin p e below (T1.setTop (mkF m 28 #[.val (.ref a1), .val (.long q2), .second, .val (.long q3), .second, .val (.int (0 : Int32)), .val (.int u6)] [(.ref a1), (.int u6)])) _
  obtain ⟨T3, X3, e3, st3⟩ := getF X1 hx hZ hown (host := "") (Or.inl (hw _ (List.mem_of_getElem? (i := 24) rfl))) Via.refl e1 FC (g := (mkF m 28 #[.val (.ref a1), .val (.long q2), .second, .val (.long q3), .second, .val (.int (0 : Int32)), .val (.int u6)] [(.ref a1), (.int u6)])) rfl rfl (hb hby d7_28)
  refine Own.go st3 ?_
  show Own.Fin p e below (T3.setTop (mkF m 31 #[.val (.ref a1), .val (.long q2), .second, .val (.long q3), .second, .val (.int (0 : Int32)), .val (.int u6)] [(.ref c1), (.int u6)])) _
  refine Own.go (fun t k => XS.iload X3.here hx rfl (hb hby d7_31) rfl k) ?_
  show Own.Fin p e below (T3.setTop (mkF m 33 #[.val (.ref a1), .val (.long q2), .second, .val (.long q3), .second, .val (.int (0 : Int32)), .val (.int u6)] [(.int (0 : Int32)), (.ref c1), (.int u6)])) _
  refine Own.ldR X3 hx hZ e3 V1 rfl (hb hby d7_33) ⟨by decide, by decide⟩ (w := (.ref c2)) rfl ?_
  show Own.Fin p e below (T3.setTop (mkF m 34 #[.val (.ref a1), .val (.long q2), .second, .val (.long q3), .second, .val (.int (0 : Int32)), .val (.int u6)] [(.ref c2), (.int u6)])) _
  refine Own.alen X3 hx hZ e3 V2 (hb hby d7_34) ?_
  show Own.Fin p e below (T3.setTop (mkF m 35 #[.val (.ref a1), .val (.long q2), .second, .val (.long q3), .second, .val (.int (0 : Int32)), .val (.int u6)] [(.int (8 : Int32)), (.int u6)])) _
  have hc35_3 : ¬ (u6 = (8 : Int32)) := own_ne8 u6 q2 hu hq
  refine Own.go (fun t k => XS.icmpYes X3.here hx rfl (pc0 := 35) (pc' := 46) rfl (hb hby d7_35) rfl (feq hc35_3).2 (by decide) (by decide) k) ?_
  show Own.Fin p e below (T3.setTop (mkF m 46 #[.val (.ref a1), .val (.long q2), .second, .val (.long q3), .second, .val (.int (0 : Int32)), .val (.int u6)] [])) _
  refine Own.go (fun t k => XS.aloadN X3.here hx rfl (hb hby d7_46) rfl rfl k) ?_
  show Own.Fin p e below (T3.setTop (mkF m 47 #[.val (.ref a1), .val (.long q2), .second, .val (.long q3), .second, .val (.int (0 : Int32)), .val (.int u6)] [(.ref a1)])) _
  obtain ⟨T5, X5, e5, st5⟩ := getF X3 hx hZ hown (host := "") (Or.inl (hw _ (List.mem_of_getElem? (i := 24) rfl))) Via.refl e3 FC (g := (mkF m 47 #[.val (.ref a1), .val (.long q2), .second, .val (.long q3), .second, .val (.int (0 : Int32)), .val (.int u6)] [(.ref a1)])) rfl rfl (hb hby d7_47)
  refine Own.go st5 ?_
  show Own.Fin p e below (T5.setTop (mkF m 50 #[.val (.ref a1), .val (.long q2), .second, .val (.long q3), .second, .val (.int (0 : Int32)), .val (.int u6)] [(.ref c1)])) _
  refine Own.go (fun t k => XS.iload X5.here hx rfl (hb hby d7_50) rfl k) ?_
  show Own.Fin p e below (T5.setTop (mkF m 52 #[.val (.ref a1), .val (.long q2), .second, .val (.long q3), .second, .val (.int (0 : Int32)), .val (.int u6)] [(.int (0 : Int32)), (.ref c1)])) _
  refine Own.ldR X5 hx hZ e5 V1 rfl (hb hby d7_52) ⟨by decide, by decide⟩ (w := (.ref c2)) rfl ?_
  show Own.Fin p e below (T5.setTop (mkF m 53 #[.val (.ref a1), .val (.long q2), .second, .val (.long q3), .second, .val (.int (0 : Int32)), .val (.int u6)] [(.ref c2)])) _
  refine Own.go (fun t k => XS.iload X5.here hx rfl (hb hby d7_53) rfl k) ?_
  show Own.Fin p e below (T5.setTop (mkF m 55 #[.val (.ref a1), .val (.long q2), .second, .val (.long q3), .second, .val (.int (0 : Int32)), .val (.int u6)] [(.int u6), (.ref c2)])) _
  refine Own.go (fun t k => Jvm.Free.XT.dup2 X5.here hx rfl (hb hby d7_55) rfl rfl rfl k) ?_
  show Own.Fin p e below (T5.setTop (mkF m 56 #[.val (.ref a1), .val (.long q2), .second, .val (.long q3), .second, .val (.int (0 : Int32)), .val (.int u6)] [(.int u6), (.ref c2), (.int u6), (.ref c2)])) _
  refine Own.ldJ X5 hx hZ e5 V2 (hb hby d7_56) (own_u6 u6 q2 hu hq) ?_
  intro y6 hy6
  show Own.Fin p e below (T5.setTop (mkF m 57 #[.val (.ref a1), .val (.long q2), .second, .val (.long q3), .second, .val (.int (0 : Int32)), .val (.int u6)] [(.long y6), (.int u6), (.ref c2)])) _
  refine Own.go (fun t k => XS.lloadN X5.here hx rfl (hb hby d7_57) rfl k) ?_
  show Own.Fin p e below (T5.setTop (mkF m 58 #[.val (.ref a1), .val (.long q2), .second, .val (.long q3), .second, .val (.int (0 : Int32)), .val (.int u6)] [(.long q3), (.long y6), (.int u6), (.ref c2)])) _
  refine Own.go (fun t k => XS.lor X5.here hx rfl (hb hby d7_58) rfl k) ?_
  show Own.Fin p e below (T5.setTop (mkF m 59 #[.val (.ref a1), .val (.long q2), .second, .val (.long q3), .second, .val (.int (0 : Int32)), .val (.int u6)] [(.long (y6 ||| q3)), (.int u6), (.ref c2)])) _
  refine Own.stJ X5 hx hZ e5 V2 (hb hby d7_59) (own_u6 u6 q2 hu hq) _ rfl (by rw [List.length_map, h8]; exact Own.clamp_lt (own_u6 u6 q2 hu hq) (by decide)) ?_
  intro T7 h7 X7 e7 W7 V7
  have N7 := Fr.snoc X7 N0 g2
  have Z7 : n0 ≤ h7.size := by rw [W7.size]; exact Z0
  have f8 := FC.other W7 (Or.inl na2)
  have f9 := V1.other W7 n12
  have K7 := (Keep.refl h0 [c2]).wr W7 (Or.inl (List.mem_cons_self ..))
  show Own.Fin p e below (T7.setTop (mkF m 60 #[.val (.ref a1), .val (.long q2), .second, .val (.long q3), .second, .val (.int (0 : Int32)), .val (.int u6)] [])) _
  refine Own.retV X7 hx Bd.notSynchronized Bd.returns (hb hby d7_60) (by decide) (by decide) ?_
  rw [e7]; rw [own_val hy6, own_clu hu hq] at V7; exact ⟨rfl, N7, K7, by rw [F_or, List.map_set]; exact V7⟩
theorem d6_0 : decode prog_10_method_4_code 0 = .ok (.iload_n 3, 1) := by decide +kernel
theorem d6_1 : decode prog_10_method_4_code 1 = .ok (.ifCond .ne 4, 3) := by decide +kernel
theorem d6_4 : decode prog_10_method_4_code 4 = .ok (.return_, 1) := by decide +kernel
theorem d6_5 : decode prog_10_method_4_code 5 = .ok (.aload_n 0, 1) := by decide +kernel
theorem d6_6 : decode prog_10_method_4_code 6 = .ok (.getfield 18, 3) := by decide +kernel
theorem d6_9 : decode prog_10_method_4_code 9 = .ok (.bipush 6, 2) := by decide +kernel
theorem d6_11 : decode prog_10_method_4_code 11 = .ok (.lushr, 1) := by decide +kernel
theorem d6_12 : decode prog_10_method_4_code 12 = .ok (.lstore 4, 2) := by decide +kernel
theorem d6_14 : decode prog_10_method_4_code 14 = .ok (.aload_n 0, 1) := by decide +kernel
theorem d6_15 : decode prog_10_method_4_code 15 = .ok (.getfield 18, 3) := by decide +kernel
theorem d6_18 : decode prog_10_method_4_code 18 = .ok (.l2i, 1) := by decide +kernel
theorem d6_19 : decode prog_10_method_4_code 19 = .ok (.bipush 63, 2) := by decide +kernel
theorem d6_21 : decode prog_10_method_4_code 21 = .ok (.iand, 1) := by decide +kernel
theorem d6_22 : decode prog_10_method_4_code 22 = .ok (.istore 6, 2) := by decide +kernel
theorem d6_24 : decode prog_10_method_4_code 24 = .ok (.aload_n 0, 1) := by decide +kernel
theorem d6_25 : decode prog_10_method_4_code 25 = .ok (.lload 4, 2) := by decide +kernel
theorem d6_27 : decode prog_10_method_4_code 27 = .ok (.lload_n 1, 1) := by decide +kernel
theorem d6_28 : decode prog_10_method_4_code 28 = .ok (.iload 6, 2) := by decide +kernel
theorem d6_30 : decode prog_10_method_4_code 30 = .ok (.lshl, 1) := by decide +kernel
theorem d6_31 : decode prog_10_method_4_code 31 = .ok (.invokevirtual 22, 3) := by decide +kernel
theorem d6_34 : decode prog_10_method_4_code 34 = .ok (.iload 6, 2) := by decide +kernel
theorem d6_36 : decode prog_10_method_4_code 36 = .ok (.iload_n 3, 1) := by decide +kernel
theorem d6_37 : decode prog_10_method_4_code 37 = .ok (.iadd, 1) := by decide +kernel
theorem d6_38 : decode prog_10_method_4_code 38 = .ok (.bipush 64, 2) := by decide +kernel
theorem d6_40 : decode prog_10_method_4_code 40 = .ok (.if_icmp .le 18, 3) := by decide +kernel
theorem d6_43 : decode prog_10_method_4_code 43 = .ok (.aload_n 0, 1) := by decide +kernel
theorem d6_44 : decode prog_10_method_4_code 44 = .ok (.lload 4, 2) := by decide +kernel
theorem d6_46 : decode prog_10_method_4_code 46 = .ok (.lconst 1, 1) := by decide +kernel
theorem d6_47 : decode prog_10_method_4_code 47 = .ok (.ladd, 1) := by decide +kernel
theorem d6_48 : decode prog_10_method_4_code 48 = .ok (.lload_n 1, 1) := by decide +kernel
theorem d6_49 : decode prog_10_method_4_code 49 = .ok (.bipush 64, 2) := by decide +kernel
theorem d6_51 : decode prog_10_method_4_code 51 = .ok (.iload 6, 2) := by decide +kernel
theorem d6_53 : decode prog_10_method_4_code 53 = .ok (.isub, 1) := by decide +kernel
theorem d6_54 : decode prog_10_method_4_code 54 = .ok (.lushr, 1) := by decide +kernel
theorem d6_55 : decode prog_10_method_4_code 55 = .ok (.invokevirtual 22, 3) := by decide +kernel
theorem d6_58 : decode prog_10_method_4_code 58 = .ok (.aload_n 0, 1) := by decide +kernel
theorem d6_59 : decode prog_10_method_4_code 59 = .ok (.dup, 1) := by decide +kernel
theorem d6_60 : decode prog_10_method_4_code 60 = .ok (.getfield 18, 3) := by decide +kernel
theorem d6_63 : decode prog_10_method_4_code 63 = .ok (.iload_n 3, 1) := by decide +kernel
theorem d6_64 : decode prog_10_method_4_code 64 = .ok (.i2l, 1) := by decide +kernel
theorem d6_65 : decode prog_10_method_4_code 65 = .ok (.ladd, 1) := by decide +kernel
theorem d6_66 : decode prog_10_method_4_code 66 = .ok (.putfield 18, 3) := by decide +kernel
theorem d6_69 : decode prog_10_method_4_code 69 = .ok (.return_, 1) := by decide +kernel
theorem pd_1 : parseMethodDescriptor "(JJ)V" = some ⟨[.long, .long], none⟩ := by decide +kernel
theorem pn_6 : plainName "org/laneweave/lanes/BitRow" = true := by first | (simp [plainName, overriddenIn]; done) | decide +kernel
theorem ef_6 (m : MethodId) (a1 : Addr) (q2 : Int64) (p3 : Int32) : entryFrame m #[(.ref a1), (.long q2), (.int p3)] 7 = mkF m 0 #[.val (.ref a1), .val (.long q2), .second, .val (.int p3), .unset, .unset, .unset] [] := by first | (simp [entryFrame, mkF, argsToLocals, Value.category]; done) | rfl
def Q6 (Z : State) (a1 : Addr) (q2 : Int64) (p3 : Int32) (c1 c2 : Addr) (k1 k2 : ClassId) (lw : List Int64) (en : Int64) (h0 : Heap) (n0 : Nat) : Option Value → Heap → List Loc → Prop := fun v h L => v = none ∧ Fr n0 L ∧ Keep h0 h [a1, c2] ∧ Fld Z h a1 "org/laneweave/lanes/BitRow" "chunks" "[[J" (.ref c1) ∧ Fld Z h a1 "org/laneweave/lanes/BitRow" "end" "J" (.long (en + (p3).toInt64)) ∧ Arv Z h c1 k1 (.array .long) (1 : Int32) [Value.ref c2] .null ∧ Arv Z h c2 k2 .long (8 : Int32) (List.map Value.long (F_wr lw en q2 p3)) (.long (0 : Int64))
set_option maxRecDepth 65536 in
set_option maxHeartbeats 40000000 in
theorem rm6 (l : Launch) (Z : State) (a0 : Array Value) (hw : ∀ d ∈ tables_1, d.before a0 Z = true) (ws : List Jvm.Cond) (a1 : Addr) (q2 : Int64) (p3 : Int32) (c1 c2 : Addr) (k1 k2 : ClassId) (lw : List Int64) (en : Int64) (h0 : Heap) (n0 : Nat) (Z0 : n0 ≤ h0.size) (FC : Fld Z h0 a1 "org/laneweave/lanes/BitRow" "chunks" "[[J" (.ref c1)) (V1 : Arv Z h0 c1 k1 (.array .long) (1 : Int32) [Value.ref c2] .null) (V2 : Arv Z h0 c2 k2 .long (8 : Int32) (List.map Value.long (lw)) (.long (0 : Int64))) (h8 : lw.length = 8) (EA : Exa Z h0 a1 "org/laneweave/lanes/BitRow") (FE : Fld Z h0 a1 "org/laneweave/lanes/BitRow" "end" "J" (.long en)) (he : 0 ≤ en.toInt ∧ en.toInt ≤ 128) (ga : n0 ≤ a1) (g2 : n0 ≤ c2) (na1 : a1 ≠ c1) (na2 : a1 ≠ c2) (n12 : c1 ≠ c2) :
    MetFree l (⟨"org/laneweave/lanes/BitRow", "write", "(JI)V"⟩ : MethodName) (head1 (Jvm.Cond.code (⟨"org/laneweave/lanes/BitRow", "write", "(JI)V"⟩ : MethodName) prog_10_method_4_code 7 none :: ws) ({ frames := 1, cells := 0, slots := 0, locals := 20 } : Room)) (fun a U => a = #[(.ref a1), (.long q2), (.int p3)] ∧ Z.Warmed39 U.vm ∧ U.heap = h0) (fun _ _ _ _ _ => True) (fun _ U o U' => ∃ v L, o = .returned v ∧ (Q6 Z a1 q2 p3 c1 c2 k1 k2 lw en h0 n0) v U'.heap L ∧ FrameEnd U o U' L ({ frames := 1, cells := 0, slots := 0, locals := 20 } : Room).cells ({ frames := 1, cells := 0, slots := 0, locals := 20 } : Room).slots) := by
  refine MetFree.of_bodySF (plainFor_of_name pn_6) hisR ?_
  intro p e s m args below meth c s₁ Bd hml0 hP hK
  obtain ⟨rfl, hZ, hh⟩ := hP
  have hx := Bd.exec
  have hby := Bd.bytes
  have hml : c.maxLocals = 7 := hml0
  have hown : s.vm.findClass "org/laneweave/lanes/BitRow" = some m.cls := findClass_of_methodNamed Bd.named
  have hnm := (name_of_methodNamed Bd.named Bd.method).1
  have X0 : Stand p l e ({ frames := 1, cells := 0, slots := 0, locals := 20 } : Room) s m #[(.ref a1), (.long q2), (.int p3)] below meth c s₁ [] 0 0 := Stand.of_body Bd
  have e0 : s₁.heap = h0 := by rw [← hh, Bd.state]; rfl
  have N0 := Fr.nil n0
  show Own.Fin p e below _ (Own.Post s (Q6 Z a1 q2 p3 c1 c2 k1 k2 lw en h0 n0) ({ frames := 1, cells := 0, slots := 0, locals := 20 } : Room).cells ({ frames := 1, cells := 0, slots := 0, locals := 20 } : Room).slots)
  refine Own.start (ef_6 m a1 q2 p3) ?_
  show Own.Fin p e below (s₁.setTop (mkF m 0 #[.val (.ref a1), .val (.long q2), .second, .val (.int p3), .unset, .unset, .unset] [])) _
  refine Own.go (fun t k => XS.iloadN X0.here hx rfl (hb hby d6_0) rfl k) ?_
  show Own.Fin p e below (s₁.setTop (mkF m 1 #[.val (.ref a1), .val (.long q2), .second, .val (.int p3), .unset, .unset, .unset] [(.int p3)])) _
  by_cases hc1_0 : p3 = (0 : Int32)
  · skip
    refine Own.go (fun t k => XS.ifNo X0.here hx rfl (hb hby d6_1) rfl ((if0 _ _).trans (teq hc1_0).2) k) ?_
    show Own.Fin p e below (s₁.setTop (mkF m 4 #[.val (.ref a1), .val (.long q2), .second, .val (.int p3), .unset, .unset, .unset] [])) _
    refine Own.retV X0 hx Bd.notSynchronized Bd.returns (hb hby d6_4) (by decide) (by decide) ?_
    rw [e0]; exact ⟨rfl, N0, (Keep.refl h0 [a1, c2]), FC, by rw [hc1_0, own_zero]; exact FE, V1, by rw [show F_wr lw en q2 p3 = lw by simp only [F_wr, hc1_0, if_true]]; exact V2⟩
  · skip
    refine Own.go (fun t k => XS.ifYes X0.here hx rfl (pc0 := 1) (pc' := 5) rfl (hb hby d6_1) rfl ((if0 _ _).trans (feq hc1_0).2) (by decide) (by decide) k) ?_
    show Own.Fin p e below (s₁.setTop (mkF m 5 #[.val (.ref a1), .val (.long q2), .second, .val (.int p3), .unset, .unset, .unset] [])) _
    refine Own.go (fun t k => XS.aloadN X0.here hx rfl (hb hby d6_5) rfl rfl k) ?_
    show Own.Fin p e below (s₁.setTop (mkF m 6 #[.val (.ref a1), .val (.long q2), .second, .val (.int p3), .unset, .unset, .unset] [(.ref a1)])) _
    obtain ⟨T2, X2, e2, st2⟩ := getF X0 hx hZ hown (host := "") (Or.inl (hw _ (List.mem_of_getElem? (i := 26) rfl))) Via.refl e0 FE (g := (mkF m 6 #[.val (.ref a1), .val (.long q2), .second, .val (.int p3), .unset, .unset, .unset] [(.ref a1)])) rfl rfl (hb hby d6_6)
    refine Own.go st2 ?_
    show Own.Fin p e below (T2.setTop (mkF m 9 #[.val (.ref a1), .val (.long q2), .second, .val (.int p3), .unset, .unset, .unset] [(.long en)])) _
    refine Own.go (fun t k => XS.bipush X2.here hx rfl (hb hby d6_9) k) ?_
    show Own.Fin p e below (T2.setTop (mkF m 11 #[.val (.ref a1), .val (.long q2), .second, .val (.int p3), .unset, .unset, .unset] [(.int (6 : Int32)), (.long en)])) _
    refine Own.go (fun t k => XS.lushr X2.here hx rfl (hb hby d6_11) rfl k) ?_
    show Own.Fin p e below (T2.setTop (mkF m 12 #[.val (.ref a1), .val (.long q2), .second, .val (.int p3), .unset, .unset, .unset] [(.long (((en).toUInt64 >>> ((6 : Int32) &&& 0x3f).toInt64.toUInt64).toInt64))])) _
    refine Own.go (fun t k => XS.lstore X2.here hx rfl (hb hby d6_12) rfl (l' := #[.val (.ref a1), .val (.long q2), .second, .val (.int p3), .val (.long (((en).toUInt64 >>> ((6 : Int32) &&& 0x3f).toInt64.toUInt64).toInt64)), .second, .unset]) rfl k) ?_
    show Own.Fin p e below (T2.setTop (mkF m 14 #[.val (.ref a1), .val (.long q2), .second, .val (.int p3), .val (.long (((en).toUInt64 >>> ((6 : Int32) &&& 0x3f).toInt64.toUInt64).toInt64)), .second, .unset] [])) _
    refine Own.go (fun t k => XS.aloadN X2.here hx rfl (hb hby d6_14) rfl rfl k) ?_
    show Own.Fin p e below (T2.setTop (mkF m 15 #[.val (.ref a1), .val (.long q2), .second, .val (.int p3), .val (.long (((en).toUInt64 >>> ((6 : Int32) &&& 0x3f).toInt64.toUInt64).toInt64)), .second, .unset] [(.ref a1)])) _
    obtain ⟨T3, X3, e3, st3⟩ := getF X2 hx hZ hown (host := "") (Or.inl (hw _ (List.mem_of_getElem? (i := 26) rfl))) Via.refl e2 FE (g := (mkF m 15 #[.val (.ref a1), .val (.long q2), .second, .val (.int p3), .val (.long (((en).toUInt64 >>> ((6 : Int32) &&& 0x3f).toInt64.toUInt64).toInt64)), .second, .unset] [(.ref a1)])) rfl rfl (hb hby d6_15)
    refine Own.go st3 ?_
    show Own.Fin p e below (T3.setTop (mkF m 18 #[.val (.ref a1), .val (.long q2), .second, .val (.int p3), .val (.long (((en).toUInt64 >>> ((6 : Int32) &&& 0x3f).toInt64.toUInt64).toInt64)), .second, .unset] [(.long en)])) _
    refine Own.go (fun t k => XS.l2i X3.here hx rfl (hb hby d6_18) rfl k) ?_
    show Own.Fin p e below (T3.setTop (mkF m 19 #[.val (.ref a1), .val (.long q2), .second, .val (.int p3), .val (.long (((en).toUInt64 >>> ((6 : Int32) &&& 0x3f).toInt64.toUInt64).toInt64)), .second, .unset] [(.int ((en).toInt32))])) _
    refine Own.go (fun t k => XS.bipush X3.here hx rfl (hb hby d6_19) k) ?_
    show Own.Fin p e below (T3.setTop (mkF m 21 #[.val (.ref a1), .val (.long q2), .second, .val (.int p3), .val (.long (((en).toUInt64 >>> ((6 : Int32) &&& 0x3f).toInt64.toUInt64).toInt64)), .second, .unset] [(.int (63 : Int32)), (.int ((en).toInt32))])) _
    refine Own.go (fun t k => XS.iand X3.here hx rfl (hb hby d6_21) rfl k) ?_
    show Own.Fin p e below (T3.setTop (mkF m 22 #[.val (.ref a1), .val (.long q2), .second, .val (.int p3), .val (.long (((en).toUInt64 >>> ((6 : Int32) &&& 0x3f).toInt64.toUInt64).toInt64)), .second, .unset] [(.int (((en).toInt32) &&& (63 : Int32)))])) _
    refine Own.go (fun t k => XS.istore X3.here hx rfl (hb hby d6_22) rfl (l' := #[.val (.ref a1), .val (.long q2), .second, .val (.int p3), .val (.long (((en).toUInt64 >>> ((6 : Int32) &&& 0x3f).toInt64.toUInt64).toInt64)), .second, .val (.int (((en).toInt32) &&& (63 : Int32)))]) rfl k) ?_
    show Own.Fin p e below (T3.setTop (mkF m 24 #[.val (.ref a1), .val (.long q2), .second, .val (.int p3), .val (.long (((en).toUInt64 >>> ((6 : Int32) &&& 0x3f).toInt64.toUInt64).toInt64)), .second, .val (.int (((en).toInt32) &&& (63 : Int32)))] [])) _
    refine Own.go (fun t k => XS.aloadN X3.here hx rfl (hb hby d6_24) rfl rfl k) ?_
    show Own.Fin p e below (T3.setTop (mkF m 25 #[.val (.ref a1), .val (.long q2), .second, .val (.int p3), .val (.long (((en).toUInt64 >>> ((6 : Int32) &&& 0x3f).toInt64.toUInt64).toInt64)), .second, .val (.int (((en).toInt32) &&& (63 : Int32)))] [(.ref a1)])) _
    refine Own.go (fun t k => XS.lload X3.here hx rfl (hb hby d6_25) rfl k) ?_
    show Own.Fin p e below (T3.setTop (mkF m 27 #[.val (.ref a1), .val (.long q2), .second, .val (.int p3), .val (.long (((en).toUInt64 >>> ((6 : Int32) &&& 0x3f).toInt64.toUInt64).toInt64)), .second, .val (.int (((en).toInt32) &&& (63 : Int32)))] [(.long (((en).toUInt64 >>> ((6 : Int32) &&& 0x3f).toInt64.toUInt64).toInt64)), (.ref a1)])) _
    refine Own.go (fun t k => XS.lloadN X3.here hx rfl (hb hby d6_27) rfl k) ?_
    show Own.Fin p e below (T3.setTop (mkF m 28 #[.val (.ref a1), .val (.long q2), .second, .val (.int p3), .val (.long (((en).toUInt64 >>> ((6 : Int32) &&& 0x3f).toInt64.toUInt64).toInt64)), .second, .val (.int (((en).toInt32) &&& (63 : Int32)))] [(.long q2), (.long (((en).toUInt64 >>> ((6 : Int32) &&& 0x3f).toInt64.toUInt64).toInt64)), (.ref a1)])) _
    refine Own.go (fun t k => XS.iload X3.here hx rfl (hb hby d6_28) rfl k) ?_
    show Own.Fin p e below (T3.setTop (mkF m 30 #[.val (.ref a1), .val (.long q2), .second, .val (.int p3), .val (.long (((en).toUInt64 >>> ((6 : Int32) &&& 0x3f).toInt64.toUInt64).toInt64)), .second, .val (.int (((en).toInt32) &&& (63 : Int32)))] [(.int (((en).toInt32) &&& (63 : Int32))), (.long q2), (.long (((en).toUInt64 >>> ((6 : Int32) &&& 0x3f).toInt64.toUInt64).toInt64)), (.ref a1)])) _
    refine Own.go (fun t k => XS.lshl X3.here hx rfl (hb hby d6_30) rfl k) ?_
    show Own.Fin p e below (T3.setTop (mkF m 31 #[.val (.ref a1), .val (.long q2), .second, .val (.int p3), .val (.long (((en).toUInt64 >>> ((6 : Int32) &&& 0x3f).toInt64.toUInt64).toInt64)), .second, .val (.int (((en).toInt32) &&& (63 : Int32)))] [(.long ((q2 <<< ((((en).toInt32) &&& (63 : Int32)) &&& 0x3f).toInt64))), (.long (((en).toUInt64 >>> ((6 : Int32) &&& 0x3f).toInt64.toUInt64).toInt64)), (.ref a1)])) _
    refine Own.cP X3 hx hZ hown (hw _ (List.mem_of_getElem? (i := 33) rfl)) (hw _ (List.mem_of_getElem? (i := 34) rfl)) (hw _ (List.mem_of_getElem? (i := 35) rfl)) (hw _ (List.mem_of_getElem? (i := 31) rfl)) rfl (hw _ (List.mem_of_getElem? (i := 10) rfl)) (hw _ (List.mem_of_getElem? (i := 36) rfl)) (by decide) (rm7 l Z a0 hw [] a1 (((en).toUInt64 >>> ((6 : Int32) &&& 0x3f).toInt64.toUInt64).toInt64) ((q2 <<< ((((en).toInt32) &&& (63 : Int32)) &&& 0x3f).toInt64)) c1 c2 k1 k2 (lw) h0 n0 Z0 FC V1 V2 h8 (own_iw en he) g2 na2 n12) (by decide) (W := 0) (by decide) (argsL := [(.long (((en).toUInt64 >>> ((6 : Int32) &&& 0x3f).toInt64.toUInt64).toInt64)), (.long ((q2 <<< ((((en).toInt32) &&& (63 : Int32)) &&& 0x3f).toInt64)))]) (rest := []) EA (by rw [hml]; rfl) (lenOf pd_1 rfl) rfl (Nat.le_of_eq rfl) (hb hby d6_31) e3 (by decide) (by decide) ?_
    intro T4 L4 v4 X4 hQ4
    obtain ⟨rfl, N4q, K4q, V4⟩ := hQ4
    have N4 := Fr.app N0 N4q
    have f5 := FC.keep K4q (ninS na2 nin0)
    have f6 := V1.keep K4q (ninS n12 nin0)
    have f7 := EA.keep K4q
    have f8 := FE.keep K4q (ninS na2 nin0)
    have Z4 : n0 ≤ T4.heap.size := Nat.le_trans Z0 K4q.1
    have KK4 := (Keep.refl h0 [a1, c2]).trans K4q (allS (Or.inl (List.mem_cons_of_mem _ (List.mem_cons_self ..))) all0)
    show Own.Fin p e below (T4.setTop (mkF m 34 #[.val (.ref a1), .val (.long q2), .second, .val (.int p3), .val (.long (((en).toUInt64 >>> ((6 : Int32) &&& 0x3f).toInt64.toUInt64).toInt64)), .second, .val (.int (((en).toInt32) &&& (63 : Int32)))] [])) _
    refine Own.go (fun t k => XS.iload X4.here hx rfl (hb hby d6_34) rfl k) ?_
    show Own.Fin p e below (T4.setTop (mkF m 36 #[.val (.ref a1), .val (.long q2), .second, .val (.int p3), .val (.long (((en).toUInt64 >>> ((6 : Int32) &&& 0x3f).toInt64.toUInt64).toInt64)), .second, .val (.int (((en).toInt32) &&& (63 : Int32)))] [(.int (((en).toInt32) &&& (63 : Int32)))])) _
    refine Own.go (fun t k => XS.iloadN X4.here hx rfl (hb hby d6_36) rfl k) ?_
    show Own.Fin p e below (T4.setTop (mkF m 37 #[.val (.ref a1), .val (.long q2), .second, .val (.int p3), .val (.long (((en).toUInt64 >>> ((6 : Int32) &&& 0x3f).toInt64.toUInt64).toInt64)), .second, .val (.int (((en).toInt32) &&& (63 : Int32)))] [(.int p3), (.int (((en).toInt32) &&& (63 : Int32)))])) _
    refine Own.go (fun t k => XS.iadd X4.here hx rfl (hb hby d6_37) rfl k) ?_
    show Own.Fin p e below (T4.setTop (mkF m 38 #[.val (.ref a1), .val (.long q2), .second, .val (.int p3), .val (.long (((en).toUInt64 >>> ((6 : Int32) &&& 0x3f).toInt64.toUInt64).toInt64)), .second, .val (.int (((en).toInt32) &&& (63 : Int32)))] [(.int ((((en).toInt32) &&& (63 : Int32)) + p3))])) _
    refine Own.go (fun t k => XS.bipush X4.here hx rfl (hb hby d6_38) k) ?_
    show Own.Fin p e below (T4.setTop (mkF m 40 #[.val (.ref a1), .val (.long q2), .second, .val (.int p3), .val (.long (((en).toUInt64 >>> ((6 : Int32) &&& 0x3f).toInt64.toUInt64).toInt64)), .second, .val (.int (((en).toInt32) &&& (63 : Int32)))] [(.int (64 : Int32)), (.int ((((en).toInt32) &&& (63 : Int32)) + p3))])) _
    by_cases hc40_8 : (64 : Int32) < ((((en).toInt32) &&& (63 : Int32)) + p3)
    · skip
      refine Own.go (fun t k => XS.icmpNo X4.here hx rfl (hb hby d6_40) rfl (tlt hc40_8).2.2.2 k) ?_
      show Own.Fin p e below (T4.setTop (mkF m 43 #[.val (.ref a1), .val (.long q2), .second, .val (.int p3), .val (.long (((en).toUInt64 >>> ((6 : Int32) &&& 0x3f).toInt64.toUInt64).toInt64)), .second, .val (.int (((en).toInt32) &&& (63 : Int32)))] [])) _
      refine Own.go (fun t k => XS.aloadN X4.here hx rfl (hb hby d6_43) rfl rfl k) ?_
      show Own.Fin p e below (T4.setTop (mkF m 44 #[.val (.ref a1), .val (.long q2), .second, .val (.int p3), .val (.long (((en).toUInt64 >>> ((6 : Int32) &&& 0x3f).toInt64.toUInt64).toInt64)), .second, .val (.int (((en).toInt32) &&& (63 : Int32)))] [(.ref a1)])) _
      refine Own.go (fun t k => XS.lload X4.here hx rfl (hb hby d6_44) rfl k) ?_
      show Own.Fin p e below (T4.setTop (mkF m 46 #[.val (.ref a1), .val (.long q2), .second, .val (.int p3), .val (.long (((en).toUInt64 >>> ((6 : Int32) &&& 0x3f).toInt64.toUInt64).toInt64)), .second, .val (.int (((en).toInt32) &&& (63 : Int32)))] [(.long (((en).toUInt64 >>> ((6 : Int32) &&& 0x3f).toInt64.toUInt64).toInt64)), (.ref a1)])) _
      refine Own.go (fun t k => XS.lconst X4.here hx rfl (hb hby d6_46) k) ?_
      show Own.Fin p e below (T4.setTop (mkF m 47 #[.val (.ref a1), .val (.long q2), .second, .val (.int p3), .val (.long (((en).toUInt64 >>> ((6 : Int32) &&& 0x3f).toInt64.toUInt64).toInt64)), .second, .val (.int (((en).toInt32) &&& (63 : Int32)))] [(.long (1 : Int64)), (.long (((en).toUInt64 >>> ((6 : Int32) &&& 0x3f).toInt64.toUInt64).toInt64)), (.ref a1)])) _
      refine Own.go (fun t k => XS.ladd X4.here hx rfl (hb hby d6_47) rfl k) ?_
      show Own.Fin p e below (T4.setTop (mkF m 48 #[.val (.ref a1), .val (.long q2), .second, .val (.int p3), .val (.long (((en).toUInt64 >>> ((6 : Int32) &&& 0x3f).toInt64.toUInt64).toInt64)), .second, .val (.int (((en).toInt32) &&& (63 : Int32)))] [(.long ((((en).toUInt64 >>> ((6 : Int32) &&& 0x3f).toInt64.toUInt64).toInt64) + (1 : Int64))), (.ref a1)])) _
      refine Own.go (fun t k => XS.lloadN X4.here hx rfl (hb hby d6_48) rfl k) ?_
      show Own.Fin p e below (T4.setTop (mkF m 49 #[.val (.ref a1), .val (.long q2), .second, .val (.int p3), .val (.long (((en).toUInt64 >>> ((6 : Int32) &&& 0x3f).toInt64.toUInt64).toInt64)), .second, .val (.int (((en).toInt32) &&& (63 : Int32)))] [(.long q2), (.long ((((en).toUInt64 >>> ((6 : Int32) &&& 0x3f).toInt64.toUInt64).toInt64) + (1 : Int64))), (.ref a1)])) _
      refine Own.go (fun t k => XS.bipush X4.here hx rfl (hb hby d6_49) k) ?_
      show Own.Fin p e below (T4.setTop (mkF m 51 #[.val (.ref a1), .val (.long q2), .second, .val (.int p3), .val (.long (((en).toUInt64 >>> ((6 : Int32) &&& 0x3f).toInt64.toUInt64).toInt64)), .second, .val (.int (((en).toInt32) &&& (63 : Int32)))] [(.int (64 : Int32)), (.long q2), (.long ((((en).toUInt64 >>> ((6 : Int32) &&& 0x3f).toInt64.toUInt64).toInt64) + (1 : Int64))), (.ref a1)])) _
      refine Own.go (fun t k => XS.iload X4.here hx rfl (hb hby d6_51) rfl k) ?_
      show Own.Fin p e below (T4.setTop (mkF m 53 #[.val (.ref a1), .val (.long q2), .second, .val (.int p3), .val (.long (((en).toUInt64 >>> ((6 : Int32) &&& 0x3f).toInt64.toUInt64).toInt64)), .second, .val (.int (((en).toInt32) &&& (63 : Int32)))] [(.int (((en).toInt32) &&& (63 : Int32))), (.int (64 : Int32)), (.long q2), (.long ((((en).toUInt64 >>> ((6 : Int32) &&& 0x3f).toInt64.toUInt64).toInt64) + (1 : Int64))), (.ref a1)])) _
      refine Own.go (fun t k => XS.isub X4.here hx rfl (hb hby d6_53) rfl k) ?_
      show Own.Fin p e below (T4.setTop (mkF m 54 #[.val (.ref a1), .val (.long q2), .second, .val (.int p3), .val (.long (((en).toUInt64 >>> ((6 : Int32) &&& 0x3f).toInt64.toUInt64).toInt64)), .second, .val (.int (((en).toInt32) &&& (63 : Int32)))] [(.int ((64 : Int32) - (((en).toInt32) &&& (63 : Int32)))), (.long q2), (.long ((((en).toUInt64 >>> ((6 : Int32) &&& 0x3f).toInt64.toUInt64).toInt64) + (1 : Int64))), (.ref a1)])) _
      refine Own.go (fun t k => XS.lushr X4.here hx rfl (hb hby d6_54) rfl k) ?_
      show Own.Fin p e below (T4.setTop (mkF m 55 #[.val (.ref a1), .val (.long q2), .second, .val (.int p3), .val (.long (((en).toUInt64 >>> ((6 : Int32) &&& 0x3f).toInt64.toUInt64).toInt64)), .second, .val (.int (((en).toInt32) &&& (63 : Int32)))] [(.long (((q2).toUInt64 >>> (((64 : Int32) - (((en).toInt32) &&& (63 : Int32))) &&& 0x3f).toInt64.toUInt64).toInt64)), (.long ((((en).toUInt64 >>> ((6 : Int32) &&& 0x3f).toInt64.toUInt64).toInt64) + (1 : Int64))), (.ref a1)])) _
      refine Own.cP X4 hx hZ hown (hw _ (List.mem_of_getElem? (i := 33) rfl)) (hw _ (List.mem_of_getElem? (i := 34) rfl)) (hw _ (List.mem_of_getElem? (i := 35) rfl)) (hw _ (List.mem_of_getElem? (i := 31) rfl)) rfl (hw _ (List.mem_of_getElem? (i := 10) rfl)) (hw _ (List.mem_of_getElem? (i := 36) rfl)) (by decide) (rm7 l Z a0 hw [] a1 ((((en).toUInt64 >>> ((6 : Int32) &&& 0x3f).toInt64.toUInt64).toInt64) + (1 : Int64)) (((q2).toUInt64 >>> (((64 : Int32) - (((en).toInt32) &&& (63 : Int32))) &&& 0x3f).toInt64.toUInt64).toInt64) c1 c2 k1 k2 (F_or (lw) ((((en).toUInt64 >>> ((6 : Int32) &&& 0x3f).toInt64.toUInt64).toInt64)).toInt.toNat ((q2 <<< ((((en).toInt32) &&& (63 : Int32)) &&& 0x3f).toInt64))) T4.heap n0 Z4 f5 f6 V4 (own_len h8) (own_iw1 en he) g2 na2 n12) (by decide) (W := 0) (by decide) (argsL := [(.long ((((en).toUInt64 >>> ((6 : Int32) &&& 0x3f).toInt64.toUInt64).toInt64) + (1 : Int64))), (.long (((q2).toUInt64 >>> (((64 : Int32) - (((en).toInt32) &&& (63 : Int32))) &&& 0x3f).toInt64.toUInt64).toInt64))]) (rest := []) f7 (by rw [hml]; rfl) (lenOf pd_1 rfl) rfl (Nat.le_of_eq rfl) (hb hby d6_55) rfl (by decide) (by decide) ?_
      intro T10 L10 v10 X10 hQ10
      obtain ⟨rfl, N10q, K10q, V10⟩ := hQ10
      have N10 := Fr.app N4 N10q
      have f11 := f5.keep K10q (ninS na2 nin0)
      have f12 := f6.keep K10q (ninS n12 nin0)
      have f13 := f7.keep K10q
      have f14 := f8.keep K10q (ninS na2 nin0)
      have Z10 : n0 ≤ T10.heap.size := Nat.le_trans Z4 K10q.1
      have KK10 := KK4.trans K10q (allS (Or.inl (List.mem_cons_of_mem _ (List.mem_cons_self ..))) all0)
      show Own.Fin p e below (T10.setTop (mkF m 58 #[.val (.ref a1), .val (.long q2), .second, .val (.int p3), .val (.long (((en).toUInt64 >>> ((6 : Int32) &&& 0x3f).toInt64.toUInt64).toInt64)), .second, .val (.int (((en).toInt32) &&& (63 : Int32)))] [])) _
      refine Own.go (fun t k => XS.aloadN X10.here hx rfl (hb hby d6_58) rfl rfl k) ?_
      show Own.Fin p e below (T10.setTop (mkF m 59 #[.val (.ref a1), .val (.long q2), .second, .val (.int p3), .val (.long (((en).toUInt64 >>> ((6 : Int32) &&& 0x3f).toInt64.toUInt64).toInt64)), .second, .val (.int (((en).toInt32) &&& (63 : Int32)))] [(.ref a1)])) _
      refine Own.go (fun t k => XS.dup X10.here hx rfl (hb hby d6_59) rfl rfl k) ?_
      show Own.Fin p e below (T10.setTop (mkF m 60 #[.val (.ref a1), .val (.long q2), .second, .val (.int p3), .val (.long (((en).toUInt64 >>> ((6 : Int32) &&& 0x3f).toInt64.toUInt64).toInt64)), .second, .val (.int (((en).toInt32) &&& (63 : Int32)))] [(.ref a1), (.ref a1)])) _
      obtain ⟨T15, X15, e15, st15⟩ := getF X10 hx hZ hown (host := "") (Or.inl (hw _ (List.mem_of_getElem? (i := 26) rfl))) Via.refl rfl f14 (g := (mkF m 60 #[.val (.ref a1), .val (.long q2), .second, .val (.int p3), .val (.long (((en).toUInt64 >>> ((6 : Int32) &&& 0x3f).toInt64.toUInt64).toInt64)), .second, .val (.int (((en).toInt32) &&& (63 : Int32)))] [(.ref a1), (.ref a1)])) rfl rfl (hb hby d6_60)
      refine Own.go st15 ?_
      show Own.Fin p e below (T15.setTop (mkF m 63 #[.val (.ref a1), .val (.long q2), .second, .val (.int p3), .val (.long (((en).toUInt64 >>> ((6 : Int32) &&& 0x3f).toInt64.toUInt64).toInt64)), .second, .val (.int (((en).toInt32) &&& (63 : Int32)))] [(.long en), (.ref a1)])) _
      refine Own.go (fun t k => XS.iloadN X15.here hx rfl (hb hby d6_63) rfl k) ?_
      show Own.Fin p e below (T15.setTop (mkF m 64 #[.val (.ref a1), .val (.long q2), .second, .val (.int p3), .val (.long (((en).toUInt64 >>> ((6 : Int32) &&& 0x3f).toInt64.toUInt64).toInt64)), .second, .val (.int (((en).toInt32) &&& (63 : Int32)))] [(.int p3), (.long en), (.ref a1)])) _
      refine Own.go (fun t k => XS.i2l X15.here hx rfl (hb hby d6_64) rfl k) ?_
      show Own.Fin p e below (T15.setTop (mkF m 65 #[.val (.ref a1), .val (.long q2), .second, .val (.int p3), .val (.long (((en).toUInt64 >>> ((6 : Int32) &&& 0x3f).toInt64.toUInt64).toInt64)), .second, .val (.int (((en).toInt32) &&& (63 : Int32)))] [(.long ((p3).toInt64)), (.long en), (.ref a1)])) _
      refine Own.go (fun t k => XS.ladd X15.here hx rfl (hb hby d6_65) rfl k) ?_
      show Own.Fin p e below (T15.setTop (mkF m 66 #[.val (.ref a1), .val (.long q2), .second, .val (.int p3), .val (.long (((en).toUInt64 >>> ((6 : Int32) &&& 0x3f).toInt64.toUInt64).toInt64)), .second, .val (.int (((en).toInt32) &&& (63 : Int32)))] [(.long (en + ((p3).toInt64))), (.ref a1)])) _
      obtain ⟨T16, h16, X16, e16, W16, st16⟩ := putF X15 hx hZ hown (host := "") (Or.inl (hw _ (List.mem_of_getElem? (i := 26) rfl))) Via.refl e15 f14 f13 (Or.inl (hw _ (List.mem_of_getElem? (i := 27) rfl))) (hw _ (List.mem_of_getElem? (i := 9) rfl)) (ty := .long) (by decide) rfl rfl (g := (mkF m 66 #[.val (.ref a1), .val (.long q2), .second, .val (.int p3), .val (.long (((en).toUInt64 >>> ((6 : Int32) &&& 0x3f).toInt64.toUInt64).toInt64)), .second, .val (.int (((en).toInt32) &&& (63 : Int32)))] [(.long (en + ((p3).toInt64))), (.ref a1)])) rfl rfl (hb hby d6_66)
      refine Own.go st16 ?_
      have f17 := f14.same W16
      have N16 := Fr.snoc X16 N10 ga
      have Z16 : n0 ≤ h16.size := by rw [W16.size]; exact Z10
      have f18 := f11.other W16 (Or.inr (slot_ne (Or.inl (hw _ (List.mem_of_getElem? (i := 25) rfl))) (Or.inl (hw _ (List.mem_of_getElem? (i := 27) rfl))) (by decide) (t := (.array (.array .long))) (t' := .long) (by decide) (by decide)))
      have f19 := f12.other W16 (Ne.symm na1)
      have f20 := f13.wr W16
      have f21 := V10.other W16 (Ne.symm na2)
      have K16 := KK10.wr W16 (Or.inl (List.mem_cons_self ..))
      show Own.Fin p e below (T16.setTop (mkF m 69 #[.val (.ref a1), .val (.long q2), .second, .val (.int p3), .val (.long (((en).toUInt64 >>> ((6 : Int32) &&& 0x3f).toInt64.toUInt64).toInt64)), .second, .val (.int (((en).toInt32) &&& (63 : Int32)))] [])) _
      refine Own.retV X16 hx Bd.notSynchronized Bd.returns (hb hby d6_69) (by decide) (by decide) ?_
      rw [e16]; exact ⟨rfl, N16, K16, f18, f17, f19, by rw [show F_wr lw en q2 p3 = F_or (F_or (lw) ((((en).toUInt64 >>> ((6 : Int32) &&& 0x3f).toInt64.toUInt64).toInt64)).toInt.toNat ((q2 <<< ((((en).toInt32) &&& (63 : Int32)) &&& 0x3f).toInt64))) (((((en).toUInt64 >>> ((6 : Int32) &&& 0x3f).toInt64.toUInt64).toInt64) + (1 : Int64))).toInt.toNat (((q2).toUInt64 >>> (((64 : Int32) - (((en).toInt32) &&& (63 : Int32))) &&& 0x3f).toInt64.toUInt64).toInt64) by simp only [F_wr, hc1_0, hc40_8, if_true, if_false]]; exact f21⟩
    · skip
      refine Own.go (fun t k => XS.icmpYes X4.here hx rfl (pc0 := 40) (pc' := 58) rfl (hb hby d6_40) rfl (flt hc40_8).2.2.2 (by decide) (by decide) k) ?_
      show Own.Fin p e below (T4.setTop (mkF m 58 #[.val (.ref a1), .val (.long q2), .second, .val (.int p3), .val (.long (((en).toUInt64 >>> ((6 : Int32) &&& 0x3f).toInt64.toUInt64).toInt64)), .second, .val (.int (((en).toInt32) &&& (63 : Int32)))] [])) _
      refine Own.go (fun t k => XS.aloadN X4.here hx rfl (hb hby d6_58) rfl rfl k) ?_
      show Own.Fin p e below (T4.setTop (mkF m 59 #[.val (.ref a1), .val (.long q2), .second, .val (.int p3), .val (.long (((en).toUInt64 >>> ((6 : Int32) &&& 0x3f).toInt64.toUInt64).toInt64)), .second, .val (.int (((en).toInt32) &&& (63 : Int32)))] [(.ref a1)])) _
      refine Own.go (fun t k => XS.dup X4.here hx rfl (hb hby d6_59) rfl rfl k) ?_
      show Own.Fin p e below (T4.setTop (mkF m 60 #[.val (.ref a1), .val (.long q2), .second, .val (.int p3), .val (.long (((en).toUInt64 >>> ((6 : Int32) &&& 0x3f).toInt64.toUInt64).toInt64)), .second, .val (.int (((en).toInt32) &&& (63 : Int32)))] [(.ref a1), (.ref a1)])) _
      obtain ⟨T22, X22, e22, st22⟩ := getF X4 hx hZ hown (host := "") (Or.inl (hw _ (List.mem_of_getElem? (i := 26) rfl))) Via.refl rfl f8 (g := (mkF m 60 #[.val (.ref a1), .val (.long q2), .second, .val (.int p3), .val (.long (((en).toUInt64 >>> ((6 : Int32) &&& 0x3f).toInt64.toUInt64).toInt64)), .second, .val (.int (((en).toInt32) &&& (63 : Int32)))] [(.ref a1), (.ref a1)])) rfl rfl (hb hby d6_60)
      refine Own.go st22 ?_
      show Own.Fin p e below (T22.setTop (mkF m 63 #[.val (.ref a1), .val (.long q2), .second, .val (.int p3), .val (.long (((en).toUInt64 >>> ((6 : Int32) &&& 0x3f).toInt64.toUInt64).toInt64)), .second, .val (.int (((en).toInt32) &&& (63 : Int32)))] [(.long en), (.ref a1)])) _
      refine Own.go (fun t k => XS.iloadN X22.here hx rfl (hb hby d6_63) rfl k) ?_
      show Own.Fin p e below (T22.setTop (mkF m 64 #[.val (.ref a1), .val (.long q2), .second, .val (.int p3), .val (.long (((en).toUInt64 >>> ((6 : Int32) &&& 0x3f).toInt64.toUInt64).toInt64)), .second, .val (.int (((en).toInt32) &&& (63 : Int32)))] [(.int p3), (.long en), (.ref a1)])) _
      refine Own.go (fun t k => XS.i2l X22.here hx rfl (hb hby d6_64) rfl k) ?_
      show Own.Fin p e below (T22.setTop (mkF m 65 #[.val (.ref a1), .val (.long q2), .second, .val (.int p3), .val (.long (((en).toUInt64 >>> ((6 : Int32) &&& 0x3f).toInt64.toUInt64).toInt64)), .second, .val (.int (((en).toInt32) &&& (63 : Int32)))] [(.long ((p3).toInt64)), (.long en), (.ref a1)])) _
      refine Own.go (fun t k => XS.ladd X22.here hx rfl (hb hby d6_65) rfl k) ?_
      show Own.Fin p e below (T22.setTop (mkF m 66 #[.val (.ref a1), .val (.long q2), .second, .val (.int p3), .val (.long (((en).toUInt64 >>> ((6 : Int32) &&& 0x3f).toInt64.toUInt64).toInt64)), .second, .val (.int (((en).toInt32) &&& (63 : Int32)))] [(.long (en + ((p3).toInt64))), (.ref a1)])) _
      obtain ⟨T23, h23, X23, e23, W23, st23⟩ := putF X22 hx hZ hown (host := "") (Or.inl (hw _ (List.mem_of_getElem? (i := 26) rfl))) Via.refl e22 f8 f7 (Or.inl (hw _ (List.mem_of_getElem? (i := 27) rfl))) (hw _ (List.mem_of_getElem? (i := 9) rfl)) (ty := .long) (by decide) rfl rfl (g := (mkF m 66 #[.val (.ref a1), .val (.long q2), .second, .val (.int p3), .val (.long (((en).toUInt64 >>> ((6 : Int32) &&& 0x3f).toInt64.toUInt64).toInt64)), .second, .val (.int (((en).toInt32) &&& (63 : Int32)))] [(.long (en + ((p3).toInt64))), (.ref a1)])) rfl rfl (hb hby d6_66)
      refine Own.go st23 ?_
      have f24 := f8.same W23
      have N23 := Fr.snoc X23 N4 ga
      have Z23 : n0 ≤ h23.size := by rw [W23.size]; exact Z4
      have f25 := f5.other W23 (Or.inr (slot_ne (Or.inl (hw _ (List.mem_of_getElem? (i := 25) rfl))) (Or.inl (hw _ (List.mem_of_getElem? (i := 27) rfl))) (by decide) (t := (.array (.array .long))) (t' := .long) (by decide) (by decide)))
      have f26 := f6.other W23 (Ne.symm na1)
      have f27 := f7.wr W23
      have f28 := V4.other W23 (Ne.symm na2)
      have K23 := KK4.wr W23 (Or.inl (List.mem_cons_self ..))
      show Own.Fin p e below (T23.setTop (mkF m 69 #[.val (.ref a1), .val (.long q2), .second, .val (.int p3), .val (.long (((en).toUInt64 >>> ((6 : Int32) &&& 0x3f).toInt64.toUInt64).toInt64)), .second, .val (.int (((en).toInt32) &&& (63 : Int32)))] [])) _
      refine Own.retV X23 hx Bd.notSynchronized Bd.returns (hb hby d6_69) (by decide) (by decide) ?_
      rw [e23]; exact ⟨rfl, N23, K23, f25, f24, f26, by rw [show F_wr lw en q2 p3 = F_or (lw) ((((en).toUInt64 >>> ((6 : Int32) &&& 0x3f).toInt64.toUInt64).toInt64)).toInt.toNat ((q2 <<< ((((en).toInt32) &&& (63 : Int32)) &&& 0x3f).toInt64)) by simp only [F_wr, hc1_0, hc40_8, if_true, if_false]]; exact f28⟩
theorem d8_0 : decode prog_10_method_5_code 0 = .ok (.iload_n 3, 1) := by decide +kernel
theorem d8_1 : decode prog_10_method_5_code 1 = .ok (.ifCond .ne 5, 3) := by decide +kernel
theorem d8_4 : decode prog_10_method_5_code 4 = .ok (.lconst 0, 1) := by decide +kernel
theorem d8_5 : decode prog_10_method_5_code 5 = .ok (.lreturn, 1) := by decide +kernel
theorem d8_6 : decode prog_10_method_5_code 6 = .ok (.lload_n 1, 1) := by decide +kernel
theorem d8_7 : decode prog_10_method_5_code 7 = .ok (.bipush 6, 2) := by decide +kernel
theorem d8_9 : decode prog_10_method_5_code 9 = .ok (.lushr, 1) := by decide +kernel
theorem d8_10 : decode prog_10_method_5_code 10 = .ok (.lstore 4, 2) := by decide +kernel
theorem d8_12 : decode prog_10_method_5_code 12 = .ok (.lload_n 1, 1) := by decide +kernel
theorem d8_13 : decode prog_10_method_5_code 13 = .ok (.l2i, 1) := by decide +kernel
theorem d8_14 : decode prog_10_method_5_code 14 = .ok (.bipush 63, 2) := by decide +kernel
theorem d8_16 : decode prog_10_method_5_code 16 = .ok (.iand, 1) := by decide +kernel
theorem d8_17 : decode prog_10_method_5_code 17 = .ok (.istore 6, 2) := by decide +kernel
theorem d8_19 : decode prog_10_method_5_code 19 = .ok (.aload_n 0, 1) := by decide +kernel
theorem d8_20 : decode prog_10_method_5_code 20 = .ok (.lload 4, 2) := by decide +kernel
theorem d8_22 : decode prog_10_method_5_code 22 = .ok (.invokevirtual 28, 3) := by decide +kernel
theorem d8_25 : decode prog_10_method_5_code 25 = .ok (.iload 6, 2) := by decide +kernel
theorem d8_27 : decode prog_10_method_5_code 27 = .ok (.lushr, 1) := by decide +kernel
theorem d8_28 : decode prog_10_method_5_code 28 = .ok (.lstore 7, 2) := by decide +kernel
theorem d8_30 : decode prog_10_method_5_code 30 = .ok (.iload 6, 2) := by decide +kernel
theorem d8_32 : decode prog_10_method_5_code 32 = .ok (.iload_n 3, 1) := by decide +kernel
theorem d8_33 : decode prog_10_method_5_code 33 = .ok (.iadd, 1) := by decide +kernel
theorem d8_34 : decode prog_10_method_5_code 34 = .ok (.bipush 64, 2) := by decide +kernel
theorem d8_36 : decode prog_10_method_5_code 36 = .ok (.if_icmp .le 22, 3) := by decide +kernel
theorem d8_39 : decode prog_10_method_5_code 39 = .ok (.lload 7, 2) := by decide +kernel
theorem d8_41 : decode prog_10_method_5_code 41 = .ok (.aload_n 0, 1) := by decide +kernel
theorem d8_42 : decode prog_10_method_5_code 42 = .ok (.lload 4, 2) := by decide +kernel
theorem d8_44 : decode prog_10_method_5_code 44 = .ok (.lconst 1, 1) := by decide +kernel
theorem d8_45 : decode prog_10_method_5_code 45 = .ok (.ladd, 1) := by decide +kernel
theorem d8_46 : decode prog_10_method_5_code 46 = .ok (.invokevirtual 28, 3) := by decide +kernel
theorem d8_49 : decode prog_10_method_5_code 49 = .ok (.bipush 64, 2) := by decide +kernel
theorem d8_51 : decode prog_10_method_5_code 51 = .ok (.iload 6, 2) := by decide +kernel
theorem d8_53 : decode prog_10_method_5_code 53 = .ok (.isub, 1) := by decide +kernel
theorem d8_54 : decode prog_10_method_5_code 54 = .ok (.lshl, 1) := by decide +kernel
theorem d8_55 : decode prog_10_method_5_code 55 = .ok (.lor, 1) := by decide +kernel
theorem d8_56 : decode prog_10_method_5_code 56 = .ok (.lstore 7, 2) := by decide +kernel
theorem d8_58 : decode prog_10_method_5_code 58 = .ok (.iload_n 3, 1) := by decide +kernel
theorem d8_59 : decode prog_10_method_5_code 59 = .ok (.bipush 64, 2) := by decide +kernel
theorem d8_61 : decode prog_10_method_5_code 61 = .ok (.if_icmp .ne 8, 3) := by decide +kernel
theorem d8_64 : decode prog_10_method_5_code 64 = .ok (.lload 7, 2) := by decide +kernel
theorem d8_66 : decode prog_10_method_5_code 66 = .ok (.goto 11, 3) := by decide +kernel
theorem d8_69 : decode prog_10_method_5_code 69 = .ok (.lload 7, 2) := by decide +kernel
theorem d8_71 : decode prog_10_method_5_code 71 = .ok (.lconst 1, 1) := by decide +kernel
theorem d8_72 : decode prog_10_method_5_code 72 = .ok (.iload_n 3, 1) := by decide +kernel
theorem d8_73 : decode prog_10_method_5_code 73 = .ok (.lshl, 1) := by decide +kernel
theorem d8_74 : decode prog_10_method_5_code 74 = .ok (.lconst 1, 1) := by decide +kernel
theorem d8_75 : decode prog_10_method_5_code 75 = .ok (.lsub, 1) := by decide +kernel
theorem d8_76 : decode prog_10_method_5_code 76 = .ok (.land, 1) := by decide +kernel
theorem d8_77 : decode prog_10_method_5_code 77 = .ok (.lreturn, 1) := by decide +kernel
theorem pd_2 : parseMethodDescriptor "(J)J" = some ⟨[.long], some .long⟩ := by decide +kernel
theorem pn_8 : plainName "org/laneweave/lanes/BitRow" = true := by first | (simp [plainName, overriddenIn]; done) | decide +kernel
theorem ef_8 (m : MethodId) (a1 : Addr) (q2 : Int64) (p3 : Int32) : entryFrame m #[(.ref a1), (.long q2), (.int p3)] 9 = mkF m 0 #[.val (.ref a1), .val (.long q2), .second, .val (.int p3), .unset, .unset, .unset, .unset, .unset] [] := by first | (simp [entryFrame, mkF, argsToLocals, Value.category]; done) | rfl
def Q8 (Z : State) (a1 : Addr) (q2 : Int64) (p3 : Int32) (c1 c2 : Addr) (k1 k2 : ClassId) (lw : List Int64) (h0 : Heap) (n0 : Nat) : Option Value → Heap → List Loc → Prop := fun v h L => v = some (.long (F_rd lw q2 p3)) ∧ Fr n0 L ∧ h = h0
set_option maxRecDepth 65536 in
set_option maxHeartbeats 40000000 in
theorem rm8 (l : Launch) (Z : State) (a0 : Array Value) (hw : ∀ d ∈ tables_1, d.before a0 Z = true) (ws : List Jvm.Cond) (a1 : Addr) (q2 : Int64) (p3 : Int32) (c1 c2 : Addr) (k1 k2 : ClassId) (lw : List Int64) (h0 : Heap) (n0 : Nat) (Z0 : n0 ≤ h0.size) (EA : Exa Z h0 a1 "org/laneweave/lanes/BitRow") (FC : Fld Z h0 a1 "org/laneweave/lanes/BitRow" "chunks" "[[J" (.ref c1)) (V1 : Arv Z h0 c1 k1 (.array .long) (1 : Int32) [Value.ref c2] .null) (V2 : Arv Z h0 c2 k2 .long (8 : Int32) (List.map Value.long (lw)) (.long (0 : Int64))) (h8 : lw.length = 8) (he : 0 ≤ q2.toInt ∧ q2.toInt ≤ 128) :
    MetFree l (⟨"org/laneweave/lanes/BitRow", "read", "(JI)J"⟩ : MethodName) (head1 (Jvm.Cond.code (⟨"org/laneweave/lanes/BitRow", "read", "(JI)J"⟩ : MethodName) prog_10_method_5_code 9 (some .long) :: ws) ({ frames := 1, cells := 0, slots := 0, locals := 18 } : Room)) (fun a U => a = #[(.ref a1), (.long q2), (.int p3)] ∧ Z.Warmed39 U.vm ∧ U.heap = h0) (fun _ _ _ _ _ => True) (fun _ U o U' => ∃ v L, o = .returned v ∧ (Q8 Z a1 q2 p3 c1 c2 k1 k2 lw h0 n0) v U'.heap L ∧ FrameEnd U o U' L ({ frames := 1, cells := 0, slots := 0, locals := 18 } : Room).cells ({ frames := 1, cells := 0, slots := 0, locals := 18 } : Room).slots) := by
  refine MetFree.of_bodySF (plainFor_of_name pn_8) hisR ?_
  intro p e s m args below meth c s₁ Bd hml0 hP hK
  obtain ⟨rfl, hZ, hh⟩ := hP
  have hx := Bd.exec
  have hby := Bd.bytes
  have hml : c.maxLocals = 9 := hml0
  have hown : s.vm.findClass "org/laneweave/lanes/BitRow" = some m.cls := findClass_of_methodNamed Bd.named
  have hnm := (name_of_methodNamed Bd.named Bd.method).1
  have X0 : Stand p l e ({ frames := 1, cells := 0, slots := 0, locals := 18 } : Room) s m #[(.ref a1), (.long q2), (.int p3)] below meth c s₁ [] 0 0 := Stand.of_body Bd
  have e0 : s₁.heap = h0 := by rw [← hh, Bd.state]; rfl
  have N0 := Fr.nil n0
  show Own.Fin p e below _ (Own.Post s (Q8 Z a1 q2 p3 c1 c2 k1 k2 lw h0 n0) ({ frames := 1, cells := 0, slots := 0, locals := 18 } : Room).cells ({ frames := 1, cells := 0, slots := 0, locals := 18 } : Room).slots)
  refine Own.start (ef_8 m a1 q2 p3) ?_
  show Own.Fin p e below (s₁.setTop (mkF m 0 #[.val (.ref a1), .val (.long q2), .second, .val (.int p3), .unset, .unset, .unset, .unset, .unset] [])) _
  refine Own.go (fun t k => XS.iloadN X0.here hx rfl (hb hby d8_0) rfl k) ?_
  show Own.Fin p e below (s₁.setTop (mkF m 1 #[.val (.ref a1), .val (.long q2), .second, .val (.int p3), .unset, .unset, .unset, .unset, .unset] [(.int p3)])) _
  by_cases hc1_0 : p3 = (0 : Int32)
  · skip
    refine Own.go (fun t k => XS.ifNo X0.here hx rfl (hb hby d8_1) rfl ((if0 _ _).trans (teq hc1_0).2) k) ?_
    show Own.Fin p e below (s₁.setTop (mkF m 4 #[.val (.ref a1), .val (.long q2), .second, .val (.int p3), .unset, .unset, .unset, .unset, .unset] [])) _
    refine Own.go (fun t k => XS.lconst X0.here hx rfl (hb hby d8_4) k) ?_
    show Own.Fin p e below (s₁.setTop (mkF m 5 #[.val (.ref a1), .val (.long q2), .second, .val (.int p3), .unset, .unset, .unset, .unset, .unset] [(.long (0 : Int64))])) _
    refine Own.retJ X0 hx Bd.notSynchronized Bd.returns (hb hby d8_5) (by decide) (by decide) ?_
    exact ⟨by rw [show F_rd lw q2 p3 = (0 : Int64) by rw [F_rd, if_pos hc1_0]], N0, e0⟩
  · skip
    refine Own.go (fun t k => XS.ifYes X0.here hx rfl (pc0 := 1) (pc' := 6) rfl (hb hby d8_1) rfl ((if0 _ _).trans (feq hc1_0).2) (by decide) (by decide) k) ?_
    show Own.Fin p e below (s₁.setTop (mkF m 6 #[.val (.ref a1), .val (.long q2), .second, .val (.int p3), .unset, .unset, .unset, .unset, .unset] [])) _
    refine Own.go (fun t k => XS.lloadN X0.here hx rfl (hb hby d8_6) rfl k) ?_
    show Own.Fin p e below (s₁.setTop (mkF m 7 #[.val (.ref a1), .val (.long q2), .second, .val (.int p3), .unset, .unset, .unset, .unset, .unset] [(.long q2)])) _
    refine Own.go (fun t k => XS.bipush X0.here hx rfl (hb hby d8_7) k) ?_
    show Own.Fin p e below (s₁.setTop (mkF m 9 #[.val (.ref a1), .val (.long q2), .second, .val (.int p3), .unset, .unset, .unset, .unset, .unset] [(.int (6 : Int32)), (.long q2)])) _
    refine Own.go (fun t k => XS.lushr X0.here hx rfl (hb hby d8_9) rfl k) ?_
    show Own.Fin p e below (s₁.setTop (mkF m 10 #[.val (.ref a1), .val (.long q2), .second, .val (.int p3), .unset, .unset, .unset, .unset, .unset] [(.long (((q2).toUInt64 >>> ((6 : Int32) &&& 0x3f).toInt64.toUInt64).toInt64))])) _
    refine Own.go (fun t k => XS.lstore X0.here hx rfl (hb hby d8_10) rfl (l' := #[.val (.ref a1), .val (.long q2), .second, .val (.int p3), .val (.long (((q2).toUInt64 >>> ((6 : Int32) &&& 0x3f).toInt64.toUInt64).toInt64)), .second, .unset, .unset, .unset]) rfl k) ?_
    show Own.Fin p e below (s₁.setTop (mkF m 12 #[.val (.ref a1), .val (.long q2), .second, .val (.int p3), .val (.long (((q2).toUInt64 >>> ((6 : Int32) &&& 0x3f).toInt64.toUInt64).toInt64)), .second, .unset, .unset, .unset] [])) _
    refine Own.go (fun t k => XS.lloadN X0.here hx rfl (hb hby d8_12) rfl k) ?_
    show Own.Fin p e below (s₁.setTop (mkF m 13 #[.val (.ref a1), .val (.long q2), .second, .val (.int p3), .val (.long (((q2).toUInt64 >>> ((6 : Int32) &&& 0x3f).toInt64.toUInt64).toInt64)), .second, .unset, .unset, .unset] [(.long q2)])) _
    refine Own.go (fun t k => XS.l2i X0.here hx rfl (hb hby d8_13) rfl k) ?_
    show Own.Fin p e below (s₁.setTop (mkF m 14 #[.val (.ref a1), .val (.long q2), .second, .val (.int p3), .val (.long (((q2).toUInt64 >>> ((6 : Int32) &&& 0x3f).toInt64.toUInt64).toInt64)), .second, .unset, .unset, .unset] [(.int ((q2).toInt32))])) _
    refine Own.go (fun t k => XS.bipush X0.here hx rfl (hb hby d8_14) k) ?_
    show Own.Fin p e below (s₁.setTop (mkF m 16 #[.val (.ref a1), .val (.long q2), .second, .val (.int p3), .val (.long (((q2).toUInt64 >>> ((6 : Int32) &&& 0x3f).toInt64.toUInt64).toInt64)), .second, .unset, .unset, .unset] [(.int (63 : Int32)), (.int ((q2).toInt32))])) _
    refine Own.go (fun t k => XS.iand X0.here hx rfl (hb hby d8_16) rfl k) ?_
    show Own.Fin p e below (s₁.setTop (mkF m 17 #[.val (.ref a1), .val (.long q2), .second, .val (.int p3), .val (.long (((q2).toUInt64 >>> ((6 : Int32) &&& 0x3f).toInt64.toUInt64).toInt64)), .second, .unset, .unset, .unset] [(.int (((q2).toInt32) &&& (63 : Int32)))])) _
    refine Own.go (fun t k => XS.istore X0.here hx rfl (hb hby d8_17) rfl (l' := #[.val (.ref a1), .val (.long q2), .second, .val (.int p3), .val (.long (((q2).toUInt64 >>> ((6 : Int32) &&& 0x3f).toInt64.toUInt64).toInt64)), .second, .val (.int (((q2).toInt32) &&& (63 : Int32))), .unset, .unset]) rfl k) ?_
    show Own.Fin p e below (s₁.setTop (mkF m 19 #[.val (.ref a1), .val (.long q2), .second, .val (.int p3), .val (.long (((q2).toUInt64 >>> ((6 : Int32) &&& 0x3f).toInt64.toUInt64).toInt64)), .second, .val (.int (((q2).toInt32) &&& (63 : Int32))), .unset, .unset] [])) _
    refine Own.go (fun t k => XS.aloadN X0.here hx rfl (hb hby d8_19) rfl rfl k) ?_
    show Own.Fin p e below (s₁.setTop (mkF m 20 #[.val (.ref a1), .val (.long q2), .second, .val (.int p3), .val (.long (((q2).toUInt64 >>> ((6 : Int32) &&& 0x3f).toInt64.toUInt64).toInt64)), .second, .val (.int (((q2).toInt32) &&& (63 : Int32))), .unset, .unset] [(.ref a1)])) _
    refine Own.go (fun t k => XS.lload X0.here hx rfl (hb hby d8_20) rfl k) ?_
    show Own.Fin p e below (s₁.setTop (mkF m 22 #[.val (.ref a1), .val (.long q2), .second, .val (.int p3), .val (.long (((q2).toUInt64 >>> ((6 : Int32) &&& 0x3f).toInt64.toUInt64).toInt64)), .second, .val (.int (((q2).toInt32) &&& (63 : Int32))), .unset, .unset] [(.long (((q2).toUInt64 >>> ((6 : Int32) &&& 0x3f).toInt64.toUInt64).toInt64)), (.ref a1)])) _
    refine Own.cP X0 hx hZ hown (hw _ (List.mem_of_getElem? (i := 42) rfl)) (hw _ (List.mem_of_getElem? (i := 43) rfl)) (hw _ (List.mem_of_getElem? (i := 44) rfl)) (hw _ (List.mem_of_getElem? (i := 31) rfl)) rfl (hw _ (List.mem_of_getElem? (i := 10) rfl)) (hw _ (List.mem_of_getElem? (i := 45) rfl)) (by decide) (rm9 l Z a0 hw [] a1 (((q2).toUInt64 >>> ((6 : Int32) &&& 0x3f).toInt64.toUInt64).toInt64) c1 c2 k1 k2 lw h0 n0 Z0 FC V1 V2 h8 (own_iw q2 he)) (by decide) (W := 0) (by decide) (argsL := [(.long (((q2).toUInt64 >>> ((6 : Int32) &&& 0x3f).toInt64.toUInt64).toInt64))]) (rest := []) EA (by rw [hml]; rfl) (lenOf pd_2 rfl) rfl (Nat.le_of_eq rfl) (hb hby d8_22) e0 (by decide) (by decide) ?_
    intro T2 L2 v2 X2 hQ2
    obtain ⟨rfl, N2q, e2⟩ := hQ2
    have N2 := Fr.app N0 N2q
    show Own.Fin p e below (T2.setTop (mkF m 25 #[.val (.ref a1), .val (.long q2), .second, .val (.int p3), .val (.long (((q2).toUInt64 >>> ((6 : Int32) &&& 0x3f).toInt64.toUInt64).toInt64)), .second, .val (.int (((q2).toInt32) &&& (63 : Int32))), .unset, .unset] [(.long (lw.getD ((((q2).toUInt64 >>> ((6 : Int32) &&& 0x3f).toInt64.toUInt64).toInt64)).toInt.toNat 0))])) _
    refine Own.go (fun t k => XS.iload X2.here hx rfl (hb hby d8_25) rfl k) ?_
    show Own.Fin p e below (T2.setTop (mkF m 27 #[.val (.ref a1), .val (.long q2), .second, .val (.int p3), .val (.long (((q2).toUInt64 >>> ((6 : Int32) &&& 0x3f).toInt64.toUInt64).toInt64)), .second, .val (.int (((q2).toInt32) &&& (63 : Int32))), .unset, .unset] [(.int (((q2).toInt32) &&& (63 : Int32))), (.long (lw.getD ((((q2).toUInt64 >>> ((6 : Int32) &&& 0x3f).toInt64.toUInt64).toInt64)).toInt.toNat 0))])) _
    refine Own.go (fun t k => XS.lushr X2.here hx rfl (hb hby d8_27) rfl k) ?_
    show Own.Fin p e below (T2.setTop (mkF m 28 #[.val (.ref a1), .val (.long q2), .second, .val (.int p3), .val (.long (((q2).toUInt64 >>> ((6 : Int32) &&& 0x3f).toInt64.toUInt64).toInt64)), .second, .val (.int (((q2).toInt32) &&& (63 : Int32))), .unset, .unset] [(.long ((((lw.getD ((((q2).toUInt64 >>> ((6 : Int32) &&& 0x3f).toInt64.toUInt64).toInt64)).toInt.toNat 0)).toUInt64 >>> ((((q2).toInt32) &&& (63 : Int32)) &&& 0x3f).toInt64.toUInt64).toInt64))])) _
    refine Own.go (fun t k => XS.lstore X2.here hx rfl (hb hby d8_28) rfl (l' := #[.val (.ref a1), .val (.long q2), .second, .val (.int p3), .val (.long (((q2).toUInt64 >>> ((6 : Int32) &&& 0x3f).toInt64.toUInt64).toInt64)), .second, .val (.int (((q2).toInt32) &&& (63 : Int32))), .val (.long ((((lw.getD ((((q2).toUInt64 >>> ((6 : Int32) &&& 0x3f).toInt64.toUInt64).toInt64)).toInt.toNat 0)).toUInt64 >>> ((((q2).toInt32) &&& (63 : Int32)) &&& 0x3f).toInt64.toUInt64).toInt64)), .second]) rfl k) ?_
    show Own.Fin p e below (T2.setTop (mkF m 30 #[.val (.ref a1), .val (.long q2), .second, .val (.int p3), .val (.long (((q2).toUInt64 >>> ((6 : Int32) &&& 0x3f).toInt64.toUInt64).toInt64)), .second, .val (.int (((q2).toInt32) &&& (63 : Int32))), .val (.long ((((lw.getD ((((q2).toUInt64 >>> ((6 : Int32) &&& 0x3f).toInt64.toUInt64).toInt64)).toInt.toNat 0)).toUInt64 >>> ((((q2).toInt32) &&& (63 : Int32)) &&& 0x3f).toInt64.toUInt64).toInt64)), .second] [])) _
    refine Own.go (fun t k => XS.iload X2.here hx rfl (hb hby d8_30) rfl k) ?_
    show Own.Fin p e below (T2.setTop (mkF m 32 #[.val (.ref a1), .val (.long q2), .second, .val (.int p3), .val (.long (((q2).toUInt64 >>> ((6 : Int32) &&& 0x3f).toInt64.toUInt64).toInt64)), .second, .val (.int (((q2).toInt32) &&& (63 : Int32))), .val (.long ((((lw.getD ((((q2).toUInt64 >>> ((6 : Int32) &&& 0x3f).toInt64.toUInt64).toInt64)).toInt.toNat 0)).toUInt64 >>> ((((q2).toInt32) &&& (63 : Int32)) &&& 0x3f).toInt64.toUInt64).toInt64)), .second] [(.int (((q2).toInt32) &&& (63 : Int32)))])) _
    refine Own.go (fun t k => XS.iloadN X2.here hx rfl (hb hby d8_32) rfl k) ?_
    show Own.Fin p e below (T2.setTop (mkF m 33 #[.val (.ref a1), .val (.long q2), .second, .val (.int p3), .val (.long (((q2).toUInt64 >>> ((6 : Int32) &&& 0x3f).toInt64.toUInt64).toInt64)), .second, .val (.int (((q2).toInt32) &&& (63 : Int32))), .val (.long ((((lw.getD ((((q2).toUInt64 >>> ((6 : Int32) &&& 0x3f).toInt64.toUInt64).toInt64)).toInt.toNat 0)).toUInt64 >>> ((((q2).toInt32) &&& (63 : Int32)) &&& 0x3f).toInt64.toUInt64).toInt64)), .second] [(.int p3), (.int (((q2).toInt32) &&& (63 : Int32)))])) _
    refine Own.go (fun t k => XS.iadd X2.here hx rfl (hb hby d8_33) rfl k) ?_
    show Own.Fin p e below (T2.setTop (mkF m 34 #[.val (.ref a1), .val (.long q2), .second, .val (.int p3), .val (.long (((q2).toUInt64 >>> ((6 : Int32) &&& 0x3f).toInt64.toUInt64).toInt64)), .second, .val (.int (((q2).toInt32) &&& (63 : Int32))), .val (.long ((((lw.getD ((((q2).toUInt64 >>> ((6 : Int32) &&& 0x3f).toInt64.toUInt64).toInt64)).toInt.toNat 0)).toUInt64 >>> ((((q2).toInt32) &&& (63 : Int32)) &&& 0x3f).toInt64.toUInt64).toInt64)), .second] [(.int ((((q2).toInt32) &&& (63 : Int32)) + p3))])) _
    refine Own.go (fun t k => XS.bipush X2.here hx rfl (hb hby d8_34) k) ?_
    show Own.Fin p e below (T2.setTop (mkF m 36 #[.val (.ref a1), .val (.long q2), .second, .val (.int p3), .val (.long (((q2).toUInt64 >>> ((6 : Int32) &&& 0x3f).toInt64.toUInt64).toInt64)), .second, .val (.int (((q2).toInt32) &&& (63 : Int32))), .val (.long ((((lw.getD ((((q2).toUInt64 >>> ((6 : Int32) &&& 0x3f).toInt64.toUInt64).toInt64)).toInt.toNat 0)).toUInt64 >>> ((((q2).toInt32) &&& (63 : Int32)) &&& 0x3f).toInt64.toUInt64).toInt64)), .second] [(.int (64 : Int32)), (.int ((((q2).toInt32) &&& (63 : Int32)) + p3))])) _
    by_cases hc36_2 : (64 : Int32) < ((((q2).toInt32) &&& (63 : Int32)) + p3)
    · skip
      refine Own.go (fun t k => XS.icmpNo X2.here hx rfl (hb hby d8_36) rfl (tlt hc36_2).2.2.2 k) ?_
      show Own.Fin p e below (T2.setTop (mkF m 39 #[.val (.ref a1), .val (.long q2), .second, .val (.int p3), .val (.long (((q2).toUInt64 >>> ((6 : Int32) &&& 0x3f).toInt64.toUInt64).toInt64)), .second, .val (.int (((q2).toInt32) &&& (63 : Int32))), .val (.long ((((lw.getD ((((q2).toUInt64 >>> ((6 : Int32) &&& 0x3f).toInt64.toUInt64).toInt64)).toInt.toNat 0)).toUInt64 >>> ((((q2).toInt32) &&& (63 : Int32)) &&& 0x3f).toInt64.toUInt64).toInt64)), .second] [])) _
      refine Own.go (fun t k => XS.lload X2.here hx rfl (hb hby d8_39) rfl k) ?_
      show Own.Fin p e below (T2.setTop (mkF m 41 #[.val (.ref a1), .val (.long q2), .second, .val (.int p3), .val (.long (((q2).toUInt64 >>> ((6 : Int32) &&& 0x3f).toInt64.toUInt64).toInt64)), .second, .val (.int (((q2).toInt32) &&& (63 : Int32))), .val (.long ((((lw.getD ((((q2).toUInt64 >>> ((6 : Int32) &&& 0x3f).toInt64.toUInt64).toInt64)).toInt.toNat 0)).toUInt64 >>> ((((q2).toInt32) &&& (63 : Int32)) &&& 0x3f).toInt64.toUInt64).toInt64)), .second] [(.long ((((lw.getD ((((q2).toUInt64 >>> ((6 : Int32) &&& 0x3f).toInt64.toUInt64).toInt64)).toInt.toNat 0)).toUInt64 >>> ((((q2).toInt32) &&& (63 : Int32)) &&& 0x3f).toInt64.toUInt64).toInt64))])) _
      refine Own.go (fun t k => XS.aloadN X2.here hx rfl (hb hby d8_41) rfl rfl k) ?_
      show Own.Fin p e below (T2.setTop (mkF m 42 #[.val (.ref a1), .val (.long q2), .second, .val (.int p3), .val (.long (((q2).toUInt64 >>> ((6 : Int32) &&& 0x3f).toInt64.toUInt64).toInt64)), .second, .val (.int (((q2).toInt32) &&& (63 : Int32))), .val (.long ((((lw.getD ((((q2).toUInt64 >>> ((6 : Int32) &&& 0x3f).toInt64.toUInt64).toInt64)).toInt.toNat 0)).toUInt64 >>> ((((q2).toInt32) &&& (63 : Int32)) &&& 0x3f).toInt64.toUInt64).toInt64)), .second] [(.ref a1), (.long ((((lw.getD ((((q2).toUInt64 >>> ((6 : Int32) &&& 0x3f).toInt64.toUInt64).toInt64)).toInt.toNat 0)).toUInt64 >>> ((((q2).toInt32) &&& (63 : Int32)) &&& 0x3f).toInt64.toUInt64).toInt64))])) _
      refine Own.go (fun t k => XS.lload X2.here hx rfl (hb hby d8_42) rfl k) ?_
      show Own.Fin p e below (T2.setTop (mkF m 44 #[.val (.ref a1), .val (.long q2), .second, .val (.int p3), .val (.long (((q2).toUInt64 >>> ((6 : Int32) &&& 0x3f).toInt64.toUInt64).toInt64)), .second, .val (.int (((q2).toInt32) &&& (63 : Int32))), .val (.long ((((lw.getD ((((q2).toUInt64 >>> ((6 : Int32) &&& 0x3f).toInt64.toUInt64).toInt64)).toInt.toNat 0)).toUInt64 >>> ((((q2).toInt32) &&& (63 : Int32)) &&& 0x3f).toInt64.toUInt64).toInt64)), .second] [(.long (((q2).toUInt64 >>> ((6 : Int32) &&& 0x3f).toInt64.toUInt64).toInt64)), (.ref a1), (.long ((((lw.getD ((((q2).toUInt64 >>> ((6 : Int32) &&& 0x3f).toInt64.toUInt64).toInt64)).toInt.toNat 0)).toUInt64 >>> ((((q2).toInt32) &&& (63 : Int32)) &&& 0x3f).toInt64.toUInt64).toInt64))])) _
      refine Own.go (fun t k => XS.lconst X2.here hx rfl (hb hby d8_44) k) ?_
      show Own.Fin p e below (T2.setTop (mkF m 45 #[.val (.ref a1), .val (.long q2), .second, .val (.int p3), .val (.long (((q2).toUInt64 >>> ((6 : Int32) &&& 0x3f).toInt64.toUInt64).toInt64)), .second, .val (.int (((q2).toInt32) &&& (63 : Int32))), .val (.long ((((lw.getD ((((q2).toUInt64 >>> ((6 : Int32) &&& 0x3f).toInt64.toUInt64).toInt64)).toInt.toNat 0)).toUInt64 >>> ((((q2).toInt32) &&& (63 : Int32)) &&& 0x3f).toInt64.toUInt64).toInt64)), .second] [(.long (1 : Int64)), (.long (((q2).toUInt64 >>> ((6 : Int32) &&& 0x3f).toInt64.toUInt64).toInt64)), (.ref a1), (.long ((((lw.getD ((((q2).toUInt64 >>> ((6 : Int32) &&& 0x3f).toInt64.toUInt64).toInt64)).toInt.toNat 0)).toUInt64 >>> ((((q2).toInt32) &&& (63 : Int32)) &&& 0x3f).toInt64.toUInt64).toInt64))])) _
      refine Own.go (fun t k => XS.ladd X2.here hx rfl (hb hby d8_45) rfl k) ?_
      show Own.Fin p e below (T2.setTop (mkF m 46 #[.val (.ref a1), .val (.long q2), .second, .val (.int p3), .val (.long (((q2).toUInt64 >>> ((6 : Int32) &&& 0x3f).toInt64.toUInt64).toInt64)), .second, .val (.int (((q2).toInt32) &&& (63 : Int32))), .val (.long ((((lw.getD ((((q2).toUInt64 >>> ((6 : Int32) &&& 0x3f).toInt64.toUInt64).toInt64)).toInt.toNat 0)).toUInt64 >>> ((((q2).toInt32) &&& (63 : Int32)) &&& 0x3f).toInt64.toUInt64).toInt64)), .second] [(.long ((((q2).toUInt64 >>> ((6 : Int32) &&& 0x3f).toInt64.toUInt64).toInt64) + (1 : Int64))), (.ref a1), (.long ((((lw.getD ((((q2).toUInt64 >>> ((6 : Int32) &&& 0x3f).toInt64.toUInt64).toInt64)).toInt.toNat 0)).toUInt64 >>> ((((q2).toInt32) &&& (63 : Int32)) &&& 0x3f).toInt64.toUInt64).toInt64))])) _
      refine Own.cP X2 hx hZ hown (hw _ (List.mem_of_getElem? (i := 42) rfl)) (hw _ (List.mem_of_getElem? (i := 43) rfl)) (hw _ (List.mem_of_getElem? (i := 44) rfl)) (hw _ (List.mem_of_getElem? (i := 31) rfl)) rfl (hw _ (List.mem_of_getElem? (i := 10) rfl)) (hw _ (List.mem_of_getElem? (i := 45) rfl)) (by decide) (rm9 l Z a0 hw [] a1 ((((q2).toUInt64 >>> ((6 : Int32) &&& 0x3f).toInt64.toUInt64).toInt64) + (1 : Int64)) c1 c2 k1 k2 lw h0 n0 Z0 FC V1 V2 h8 (own_iw1 q2 he)) (by decide) (W := 2) (by decide) (argsL := [(.long ((((q2).toUInt64 >>> ((6 : Int32) &&& 0x3f).toInt64.toUInt64).toInt64) + (1 : Int64)))]) (rest := [(.long ((((lw.getD ((((q2).toUInt64 >>> ((6 : Int32) &&& 0x3f).toInt64.toUInt64).toInt64)).toInt.toNat 0)).toUInt64 >>> ((((q2).toInt32) &&& (63 : Int32)) &&& 0x3f).toInt64.toUInt64).toInt64))]) EA (by rw [hml]; rfl) (lenOf pd_2 rfl) rfl (Nat.le_of_eq rfl) (hb hby d8_46) e2 (by decide) (by decide) ?_
      intro T4 L4 v4 X4 hQ4
      obtain ⟨rfl, N4q, e4⟩ := hQ4
      have N4 := Fr.app N2 N4q
      show Own.Fin p e below (T4.setTop (mkF m 49 #[.val (.ref a1), .val (.long q2), .second, .val (.int p3), .val (.long (((q2).toUInt64 >>> ((6 : Int32) &&& 0x3f).toInt64.toUInt64).toInt64)), .second, .val (.int (((q2).toInt32) &&& (63 : Int32))), .val (.long ((((lw.getD ((((q2).toUInt64 >>> ((6 : Int32) &&& 0x3f).toInt64.toUInt64).toInt64)).toInt.toNat 0)).toUInt64 >>> ((((q2).toInt32) &&& (63 : Int32)) &&& 0x3f).toInt64.toUInt64).toInt64)), .second] [(.long (lw.getD (((((q2).toUInt64 >>> ((6 : Int32) &&& 0x3f).toInt64.toUInt64).toInt64) + (1 : Int64))).toInt.toNat 0)), (.long ((((lw.getD ((((q2).toUInt64 >>> ((6 : Int32) &&& 0x3f).toInt64.toUInt64).toInt64)).toInt.toNat 0)).toUInt64 >>> ((((q2).toInt32) &&& (63 : Int32)) &&& 0x3f).toInt64.toUInt64).toInt64))])) _
      refine Own.go (fun t k => XS.bipush X4.here hx rfl (hb hby d8_49) k) ?_
      show Own.Fin p e below (T4.setTop (mkF m 51 #[.val (.ref a1), .val (.long q2), .second, .val (.int p3), .val (.long (((q2).toUInt64 >>> ((6 : Int32) &&& 0x3f).toInt64.toUInt64).toInt64)), .second, .val (.int (((q2).toInt32) &&& (63 : Int32))), .val (.long ((((lw.getD ((((q2).toUInt64 >>> ((6 : Int32) &&& 0x3f).toInt64.toUInt64).toInt64)).toInt.toNat 0)).toUInt64 >>> ((((q2).toInt32) &&& (63 : Int32)) &&& 0x3f).toInt64.toUInt64).toInt64)), .second] [(.int (64 : Int32)), (.long (lw.getD (((((q2).toUInt64 >>> ((6 : Int32) &&& 0x3f).toInt64.toUInt64).toInt64) + (1 : Int64))).toInt.toNat 0)), (.long ((((lw.getD ((((q2).toUInt64 >>> ((6 : Int32) &&& 0x3f).toInt64.toUInt64).toInt64)).toInt.toNat 0)).toUInt64 >>> ((((q2).toInt32) &&& (63 : Int32)) &&& 0x3f).toInt64.toUInt64).toInt64))])) _
      refine Own.go (fun t k => XS.iload X4.here hx rfl (hb hby d8_51) rfl k) ?_
      show Own.Fin p e below (T4.setTop (mkF m 53 #[.val (.ref a1), .val (.long q2), .second, .val (.int p3), .val (.long (((q2).toUInt64 >>> ((6 : Int32) &&& 0x3f).toInt64.toUInt64).toInt64)), .second, .val (.int (((q2).toInt32) &&& (63 : Int32))), .val (.long ((((lw.getD ((((q2).toUInt64 >>> ((6 : Int32) &&& 0x3f).toInt64.toUInt64).toInt64)).toInt.toNat 0)).toUInt64 >>> ((((q2).toInt32) &&& (63 : Int32)) &&& 0x3f).toInt64.toUInt64).toInt64)), .second] [(.int (((q2).toInt32) &&& (63 : Int32))), (.int (64 : Int32)), (.long (lw.getD (((((q2).toUInt64 >>> ((6 : Int32) &&& 0x3f).toInt64.toUInt64).toInt64) + (1 : Int64))).toInt.toNat 0)), (.long ((((lw.getD ((((q2).toUInt64 >>> ((6 : Int32) &&& 0x3f).toInt64.toUInt64).toInt64)).toInt.toNat 0)).toUInt64 >>> ((((q2).toInt32) &&& (63 : Int32)) &&& 0x3f).toInt64.toUInt64).toInt64))])) _
      refine Own.go (fun t k => XS.isub X4.here hx rfl (hb hby d8_53) rfl k) ?_
      show Own.Fin p e below (T4.setTop (mkF m 54 #[.val (.ref a1), .val (.long q2), .second, .val (.int p3), .val (.long (((q2).toUInt64 >>> ((6 : Int32) &&& 0x3f).toInt64.toUInt64).toInt64)), .second, .val (.int (((q2).toInt32) &&& (63 : Int32))), .val (.long ((((lw.getD ((((q2).toUInt64 >>> ((6 : Int32) &&& 0x3f).toInt64.toUInt64).toInt64)).toInt.toNat 0)).toUInt64 >>> ((((q2).toInt32) &&& (63 : Int32)) &&& 0x3f).toInt64.toUInt64).toInt64)), .second] [(.int ((64 : Int32) - (((q2).toInt32) &&& (63 : Int32)))), (.long (lw.getD (((((q2).toUInt64 >>> ((6 : Int32) &&& 0x3f).toInt64.toUInt64).toInt64) + (1 : Int64))).toInt.toNat 0)), (.long ((((lw.getD ((((q2).toUInt64 >>> ((6 : Int32) &&& 0x3f).toInt64.toUInt64).toInt64)).toInt.toNat 0)).toUInt64 >>> ((((q2).toInt32) &&& (63 : Int32)) &&& 0x3f).toInt64.toUInt64).toInt64))])) _
      refine Own.go (fun t k => XS.lshl X4.here hx rfl (hb hby d8_54) rfl k) ?_
      show Own.Fin p e below (T4.setTop (mkF m 55 #[.val (.ref a1), .val (.long q2), .second, .val (.int p3), .val (.long (((q2).toUInt64 >>> ((6 : Int32) &&& 0x3f).toInt64.toUInt64).toInt64)), .second, .val (.int (((q2).toInt32) &&& (63 : Int32))), .val (.long ((((lw.getD ((((q2).toUInt64 >>> ((6 : Int32) &&& 0x3f).toInt64.toUInt64).toInt64)).toInt.toNat 0)).toUInt64 >>> ((((q2).toInt32) &&& (63 : Int32)) &&& 0x3f).toInt64.toUInt64).toInt64)), .second] [(.long (((lw.getD (((((q2).toUInt64 >>> ((6 : Int32) &&& 0x3f).toInt64.toUInt64).toInt64) + (1 : Int64))).toInt.toNat 0) <<< (((64 : Int32) - (((q2).toInt32) &&& (63 : Int32))) &&& 0x3f).toInt64))), (.long ((((lw.getD ((((q2).toUInt64 >>> ((6 : Int32) &&& 0x3f).toInt64.toUInt64).toInt64)).toInt.toNat 0)).toUInt64 >>> ((((q2).toInt32) &&& (63 : Int32)) &&& 0x3f).toInt64.toUInt64).toInt64))])) _
      refine Own.go (fun t k => XS.lor X4.here hx rfl (hb hby d8_55) rfl k) ?_
      show Own.Fin p e below (T4.setTop (mkF m 56 #[.val (.ref a1), .val (.long q2), .second, .val (.int p3), .val (.long (((q2).toUInt64 >>> ((6 : Int32) &&& 0x3f).toInt64.toUInt64).toInt64)), .second, .val (.int (((q2).toInt32) &&& (63 : Int32))), .val (.long ((((lw.getD ((((q2).toUInt64 >>> ((6 : Int32) &&& 0x3f).toInt64.toUInt64).toInt64)).toInt.toNat 0)).toUInt64 >>> ((((q2).toInt32) &&& (63 : Int32)) &&& 0x3f).toInt64.toUInt64).toInt64)), .second] [(.long (((((lw.getD ((((q2).toUInt64 >>> ((6 : Int32) &&& 0x3f).toInt64.toUInt64).toInt64)).toInt.toNat 0)).toUInt64 >>> ((((q2).toInt32) &&& (63 : Int32)) &&& 0x3f).toInt64.toUInt64).toInt64) ||| (((lw.getD (((((q2).toUInt64 >>> ((6 : Int32) &&& 0x3f).toInt64.toUInt64).toInt64) + (1 : Int64))).toInt.toNat 0) <<< (((64 : Int32) - (((q2).toInt32) &&& (63 : Int32))) &&& 0x3f).toInt64))))])) _
      refine Own.go (fun t k => XS.lstore X4.here hx rfl (hb hby d8_56) rfl (l' := #[.val (.ref a1), .val (.long q2), .second, .val (.int p3), .val (.long (((q2).toUInt64 >>> ((6 : Int32) &&& 0x3f).toInt64.toUInt64).toInt64)), .second, .val (.int (((q2).toInt32) &&& (63 : Int32))), .val (.long (((((lw.getD ((((q2).toUInt64 >>> ((6 : Int32) &&& 0x3f).toInt64.toUInt64).toInt64)).toInt.toNat 0)).toUInt64 >>> ((((q2).toInt32) &&& (63 : Int32)) &&& 0x3f).toInt64.toUInt64).toInt64) ||| (((lw.getD (((((q2).toUInt64 >>> ((6 : Int32) &&& 0x3f).toInt64.toUInt64).toInt64) + (1 : Int64))).toInt.toNat 0) <<< (((64 : Int32) - (((q2).toInt32) &&& (63 : Int32))) &&& 0x3f).toInt64)))), .second]) rfl k) ?_
      show Own.Fin p e below (T4.setTop (mkF m 58 #[.val (.ref a1), .val (.long q2), .second, .val (.int p3), .val (.long (((q2).toUInt64 >>> ((6 : Int32) &&& 0x3f).toInt64.toUInt64).toInt64)), .second, .val (.int (((q2).toInt32) &&& (63 : Int32))), .val (.long (((((lw.getD ((((q2).toUInt64 >>> ((6 : Int32) &&& 0x3f).toInt64.toUInt64).toInt64)).toInt.toNat 0)).toUInt64 >>> ((((q2).toInt32) &&& (63 : Int32)) &&& 0x3f).toInt64.toUInt64).toInt64) ||| (((lw.getD (((((q2).toUInt64 >>> ((6 : Int32) &&& 0x3f).toInt64.toUInt64).toInt64) + (1 : Int64))).toInt.toNat 0) <<< (((64 : Int32) - (((q2).toInt32) &&& (63 : Int32))) &&& 0x3f).toInt64)))), .second] [])) _
      refine Own.go (fun t k => XS.iloadN X4.here hx rfl (hb hby d8_58) rfl k) ?_
      show Own.Fin p e below (T4.setTop (mkF m 59 #[.val (.ref a1), .val (.long q2), .second, .val (.int p3), .val (.long (((q2).toUInt64 >>> ((6 : Int32) &&& 0x3f).toInt64.toUInt64).toInt64)), .second, .val (.int (((q2).toInt32) &&& (63 : Int32))), .val (.long (((((lw.getD ((((q2).toUInt64 >>> ((6 : Int32) &&& 0x3f).toInt64.toUInt64).toInt64)).toInt.toNat 0)).toUInt64 >>> ((((q2).toInt32) &&& (63 : Int32)) &&& 0x3f).toInt64.toUInt64).toInt64) ||| (((lw.getD (((((q2).toUInt64 >>> ((6 : Int32) &&& 0x3f).toInt64.toUInt64).toInt64) + (1 : Int64))).toInt.toNat 0) <<< (((64 : Int32) - (((q2).toInt32) &&& (63 : Int32))) &&& 0x3f).toInt64)))), .second] [(.int p3)])) _
      refine Own.go (fun t k => XS.bipush X4.here hx rfl (hb hby d8_59) k) ?_
      show Own.Fin p e below (T4.setTop (mkF m 61 #[.val (.ref a1), .val (.long q2), .second, .val (.int p3), .val (.long (((q2).toUInt64 >>> ((6 : Int32) &&& 0x3f).toInt64.toUInt64).toInt64)), .second, .val (.int (((q2).toInt32) &&& (63 : Int32))), .val (.long (((((lw.getD ((((q2).toUInt64 >>> ((6 : Int32) &&& 0x3f).toInt64.toUInt64).toInt64)).toInt.toNat 0)).toUInt64 >>> ((((q2).toInt32) &&& (63 : Int32)) &&& 0x3f).toInt64.toUInt64).toInt64) ||| (((lw.getD (((((q2).toUInt64 >>> ((6 : Int32) &&& 0x3f).toInt64.toUInt64).toInt64) + (1 : Int64))).toInt.toNat 0) <<< (((64 : Int32) - (((q2).toInt32) &&& (63 : Int32))) &&& 0x3f).toInt64)))), .second] [(.int (64 : Int32)), (.int p3)])) _
      by_cases hc61_4 : p3 = (64 : Int32)
      · skip
        refine Own.go (fun t k => XS.icmpNo X4.here hx rfl (hb hby d8_61) rfl (teq hc61_4).2 k) ?_
        show Own.Fin p e below (T4.setTop (mkF m 64 #[.val (.ref a1), .val (.long q2), .second, .val (.int p3), .val (.long (((q2).toUInt64 >>> ((6 : Int32) &&& 0x3f).toInt64.toUInt64).toInt64)), .second, .val (.int (((q2).toInt32) &&& (63 : Int32))), .val (.long (((((lw.getD ((((q2).toUInt64 >>> ((6 : Int32) &&& 0x3f).toInt64.toUInt64).toInt64)).toInt.toNat 0)).toUInt64 >>> ((((q2).toInt32) &&& (63 : Int32)) &&& 0x3f).toInt64.toUInt64).toInt64) ||| (((lw.getD (((((q2).toUInt64 >>> ((6 : Int32) &&& 0x3f).toInt64.toUInt64).toInt64) + (1 : Int64))).toInt.toNat 0) <<< (((64 : Int32) - (((q2).toInt32) &&& (63 : Int32))) &&& 0x3f).toInt64)))), .second] [])) _
        refine Own.go (fun t k => XS.lload X4.here hx rfl (hb hby d8_64) rfl k) ?_
        show Own.Fin p e below (T4.setTop (mkF m 66 #[.val (.ref a1), .val (.long q2), .second, .val (.int p3), .val (.long (((q2).toUInt64 >>> ((6 : Int32) &&& 0x3f).toInt64.toUInt64).toInt64)), .second, .val (.int (((q2).toInt32) &&& (63 : Int32))), .val (.long (((((lw.getD ((((q2).toUInt64 >>> ((6 : Int32) &&& 0x3f).toInt64.toUInt64).toInt64)).toInt.toNat 0)).toUInt64 >>> ((((q2).toInt32) &&& (63 : Int32)) &&& 0x3f).toInt64.toUInt64).toInt64) ||| (((lw.getD (((((q2).toUInt64 >>> ((6 : Int32) &&& 0x3f).toInt64.toUInt64).toInt64) + (1 : Int64))).toInt.toNat 0) <<< (((64 : Int32) - (((q2).toInt32) &&& (63 : Int32))) &&& 0x3f).toInt64)))), .second] [(.long (((((lw.getD ((((q2).toUInt64 >>> ((6 : Int32) &&& 0x3f).toInt64.toUInt64).toInt64)).toInt.toNat 0)).toUInt64 >>> ((((q2).toInt32) &&& (63 : Int32)) &&& 0x3f).toInt64.toUInt64).toInt64) ||| (((lw.getD (((((q2).toUInt64 >>> ((6 : Int32) &&& 0x3f).toInt64.toUInt64).toInt64) + (1 : Int64))).toInt.toNat 0) <<< (((64 : Int32) - (((q2).toInt32) &&& (63 : Int32))) &&& 0x3f).toInt64))))])) _
        refine Own.go (fun t k => XS.goto X4.here hx rfl (pc0 := 66) (pc' := 77) rfl (hb hby d8_66) (by decide) (by decide) k) ?_
        show Own.Fin p e below (T4.setTop (mkF m 77 #[.val (.ref a1), .val (.long q2), .second, .val (.int p3), .val (.long (((q2).toUInt64 >>> ((6 : Int32) &&& 0x3f).toInt64.toUInt64).toInt64)), .second, .val (.int (((q2).toInt32) &&& (63 : Int32))), .val (.long (((((lw.getD ((((q2).toUInt64 >>> ((6 : Int32) &&& 0x3f).toInt64.toUInt64).toInt64)).toInt.toNat 0)).toUInt64 >>> ((((q2).toInt32) &&& (63 : Int32)) &&& 0x3f).toInt64.toUInt64).toInt64) ||| (((lw.getD (((((q2).toUInt64 >>> ((6 : Int32) &&& 0x3f).toInt64.toUInt64).toInt64) + (1 : Int64))).toInt.toNat 0) <<< (((64 : Int32) - (((q2).toInt32) &&& (63 : Int32))) &&& 0x3f).toInt64)))), .second] [(.long (((((lw.getD ((((q2).toUInt64 >>> ((6 : Int32) &&& 0x3f).toInt64.toUInt64).toInt64)).toInt.toNat 0)).toUInt64 >>> ((((q2).toInt32) &&& (63 : Int32)) &&& 0x3f).toInt64.toUInt64).toInt64) ||| (((lw.getD (((((q2).toUInt64 >>> ((6 : Int32) &&& 0x3f).toInt64.toUInt64).toInt64) + (1 : Int64))).toInt.toNat 0) <<< (((64 : Int32) - (((q2).toInt32) &&& (63 : Int32))) &&& 0x3f).toInt64))))])) _
        refine Own.retJ X4 hx Bd.notSynchronized Bd.returns (hb hby d8_77) (by decide) (by decide) ?_
        exact ⟨by rw [show F_rd lw q2 p3 = (((((lw.getD ((((q2).toUInt64 >>> ((6 : Int32) &&& 0x3f).toInt64.toUInt64).toInt64)).toInt.toNat 0)).toUInt64 >>> ((((q2).toInt32) &&& (63 : Int32)) &&& 0x3f).toInt64.toUInt64).toInt64) ||| (((lw.getD (((((q2).toUInt64 >>> ((6 : Int32) &&& 0x3f).toInt64.toUInt64).toInt64) + (1 : Int64))).toInt.toNat 0) <<< (((64 : Int32) - (((q2).toInt32) &&& (63 : Int32))) &&& 0x3f).toInt64))) by rw [F_rd, if_neg hc1_0, if_pos hc36_2, if_pos hc61_4]], N4, e4⟩
      · skip
        refine Own.go (fun t k => XS.icmpYes X4.here hx rfl (pc0 := 61) (pc' := 69) rfl (hb hby d8_61) rfl (feq hc61_4).2 (by decide) (by decide) k) ?_
        show Own.Fin p e below (T4.setTop (mkF m 69 #[.val (.ref a1), .val (.long q2), .second, .val (.int p3), .val (.long (((q2).toUInt64 >>> ((6 : Int32) &&& 0x3f).toInt64.toUInt64).toInt64)), .second, .val (.int (((q2).toInt32) &&& (63 : Int32))), .val (.long (((((lw.getD ((((q2).toUInt64 >>> ((6 : Int32) &&& 0x3f).toInt64.toUInt64).toInt64)).toInt.toNat 0)).toUInt64 >>> ((((q2).toInt32) &&& (63 : Int32)) &&& 0x3f).toInt64.toUInt64).toInt64) ||| (((lw.getD (((((q2).toUInt64 >>> ((6 : Int32) &&& 0x3f).toInt64.toUInt64).toInt64) + (1 : Int64))).toInt.toNat 0) <<< (((64 : Int32) - (((q2).toInt32) &&& (63 : Int32))) &&& 0x3f).toInt64)))), .second] [])) _
        refine Own.go (fun t k => XS.lload X4.here hx rfl (hb hby d8_69) rfl k) ?_
        show Own.Fin p e below (T4.setTop (mkF m 71 #[.val (.ref a1), .val (.long q2), .second, .val (.int p3), .val (.long (((q2).toUInt64 >>> ((6 : Int32) &&& 0x3f).toInt64.toUInt64).toInt64)), .second, .val (.int (((q2).toInt32) &&& (63 : Int32))), .val (.long (((((lw.getD ((((q2).toUInt64 >>> ((6 : Int32) &&& 0x3f).toInt64.toUInt64).toInt64)).toInt.toNat 0)).toUInt64 >>> ((((q2).toInt32) &&& (63 : Int32)) &&& 0x3f).toInt64.toUInt64).toInt64) ||| (((lw.getD (((((q2).toUInt64 >>> ((6 : Int32) &&& 0x3f).toInt64.toUInt64).toInt64) + (1 : Int64))).toInt.toNat 0) <<< (((64 : Int32) - (((q2).toInt32) &&& (63 : Int32))) &&& 0x3f).toInt64)))), .second] [(.long (((((lw.getD ((((q2).toUInt64 >>> ((6 : Int32) &&& 0x3f).toInt64.toUInt64).toInt64)).toInt.toNat 0)).toUInt64 >>> ((((q2).toInt32) &&& (63 : Int32)) &&& 0x3f).toInt64.toUInt64).toInt64) ||| (((lw.getD (((((q2).toUInt64 >>> ((6 : Int32) &&& 0x3f).toInt64.toUInt64).toInt64) + (1 : Int64))).toInt.toNat 0) <<< (((64 : Int32) - (((q2).toInt32) &&& (63 : Int32))) &&& 0x3f).toInt64))))])) _
        refine Own.go (fun t k => XS.lconst X4.here hx rfl (hb hby d8_71) k) ?_
        show Own.Fin p e below (T4.setTop (mkF m 72 #[.val (.ref a1), .val (.long q2), .second, .val (.int p3), .val (.long (((q2).toUInt64 >>> ((6 : Int32) &&& 0x3f).toInt64.toUInt64).toInt64)), .second, .val (.int (((q2).toInt32) &&& (63 : Int32))), .val (.long (((((lw.getD ((((q2).toUInt64 >>> ((6 : Int32) &&& 0x3f).toInt64.toUInt64).toInt64)).toInt.toNat 0)).toUInt64 >>> ((((q2).toInt32) &&& (63 : Int32)) &&& 0x3f).toInt64.toUInt64).toInt64) ||| (((lw.getD (((((q2).toUInt64 >>> ((6 : Int32) &&& 0x3f).toInt64.toUInt64).toInt64) + (1 : Int64))).toInt.toNat 0) <<< (((64 : Int32) - (((q2).toInt32) &&& (63 : Int32))) &&& 0x3f).toInt64)))), .second] [(.long (1 : Int64)), (.long (((((lw.getD ((((q2).toUInt64 >>> ((6 : Int32) &&& 0x3f).toInt64.toUInt64).toInt64)).toInt.toNat 0)).toUInt64 >>> ((((q2).toInt32) &&& (63 : Int32)) &&& 0x3f).toInt64.toUInt64).toInt64) ||| (((lw.getD (((((q2).toUInt64 >>> ((6 : Int32) &&& 0x3f).toInt64.toUInt64).toInt64) + (1 : Int64))).toInt.toNat 0) <<< (((64 : Int32) - (((q2).toInt32) &&& (63 : Int32))) &&& 0x3f).toInt64))))])) _
        refine Own.go (fun t k => XS.iloadN X4.here hx rfl (hb hby d8_72) rfl k) ?_
        show Own.Fin p e below (T4.setTop (mkF m 73 #[.val (.ref a1), .val (.long q2), .second, .val (.int p3), .val (.long (((q2).toUInt64 >>> ((6 : Int32) &&& 0x3f).toInt64.toUInt64).toInt64)), .second, .val (.int (((q2).toInt32) &&& (63 : Int32))), .val (.long (((((lw.getD ((((q2).toUInt64 >>> ((6 : Int32) &&& 0x3f).toInt64.toUInt64).toInt64)).toInt.toNat 0)).toUInt64 >>> ((((q2).toInt32) &&& (63 : Int32)) &&& 0x3f).toInt64.toUInt64).toInt64) ||| (((lw.getD (((((q2).toUInt64 >>> ((6 : Int32) &&& 0x3f).toInt64.toUInt64).toInt64) + (1 : Int64))).toInt.toNat 0) <<< (((64 : Int32) - (((q2).toInt32) &&& (63 : Int32))) &&& 0x3f).toInt64)))), .second] [(.int p3), (.long (1 : Int64)), (.long (((((lw.getD ((((q2).toUInt64 >>> ((6 : Int32) &&& 0x3f).toInt64.toUInt64).toInt64)).toInt.toNat 0)).toUInt64 >>> ((((q2).toInt32) &&& (63 : Int32)) &&& 0x3f).toInt64.toUInt64).toInt64) ||| (((lw.getD (((((q2).toUInt64 >>> ((6 : Int32) &&& 0x3f).toInt64.toUInt64).toInt64) + (1 : Int64))).toInt.toNat 0) <<< (((64 : Int32) - (((q2).toInt32) &&& (63 : Int32))) &&& 0x3f).toInt64))))])) _
        refine Own.go (fun t k => XS.lshl X4.here hx rfl (hb hby d8_73) rfl k) ?_
        show Own.Fin p e below (T4.setTop (mkF m 74 #[.val (.ref a1), .val (.long q2), .second, .val (.int p3), .val (.long (((q2).toUInt64 >>> ((6 : Int32) &&& 0x3f).toInt64.toUInt64).toInt64)), .second, .val (.int (((q2).toInt32) &&& (63 : Int32))), .val (.long (((((lw.getD ((((q2).toUInt64 >>> ((6 : Int32) &&& 0x3f).toInt64.toUInt64).toInt64)).toInt.toNat 0)).toUInt64 >>> ((((q2).toInt32) &&& (63 : Int32)) &&& 0x3f).toInt64.toUInt64).toInt64) ||| (((lw.getD (((((q2).toUInt64 >>> ((6 : Int32) &&& 0x3f).toInt64.toUInt64).toInt64) + (1 : Int64))).toInt.toNat 0) <<< (((64 : Int32) - (((q2).toInt32) &&& (63 : Int32))) &&& 0x3f).toInt64)))), .second] [(.long (((1 : Int64) <<< (p3 &&& 0x3f).toInt64))), (.long (((((lw.getD ((((q2).toUInt64 >>> ((6 : Int32) &&& 0x3f).toInt64.toUInt64).toInt64)).toInt.toNat 0)).toUInt64 >>> ((((q2).toInt32) &&& (63 : Int32)) &&& 0x3f).toInt64.toUInt64).toInt64) ||| (((lw.getD (((((q2).toUInt64 >>> ((6 : Int32) &&& 0x3f).toInt64.toUInt64).toInt64) + (1 : Int64))).toInt.toNat 0) <<< (((64 : Int32) - (((q2).toInt32) &&& (63 : Int32))) &&& 0x3f).toInt64))))])) _
        refine Own.go (fun t k => XS.lconst X4.here hx rfl (hb hby d8_74) k) ?_
        show Own.Fin p e below (T4.setTop (mkF m 75 #[.val (.ref a1), .val (.long q2), .second, .val (.int p3), .val (.long (((q2).toUInt64 >>> ((6 : Int32) &&& 0x3f).toInt64.toUInt64).toInt64)), .second, .val (.int (((q2).toInt32) &&& (63 : Int32))), .val (.long (((((lw.getD ((((q2).toUInt64 >>> ((6 : Int32) &&& 0x3f).toInt64.toUInt64).toInt64)).toInt.toNat 0)).toUInt64 >>> ((((q2).toInt32) &&& (63 : Int32)) &&& 0x3f).toInt64.toUInt64).toInt64) ||| (((lw.getD (((((q2).toUInt64 >>> ((6 : Int32) &&& 0x3f).toInt64.toUInt64).toInt64) + (1 : Int64))).toInt.toNat 0) <<< (((64 : Int32) - (((q2).toInt32) &&& (63 : Int32))) &&& 0x3f).toInt64)))), .second] [(.long (1 : Int64)), (.long (((1 : Int64) <<< (p3 &&& 0x3f).toInt64))), (.long (((((lw.getD ((((q2).toUInt64 >>> ((6 : Int32) &&& 0x3f).toInt64.toUInt64).toInt64)).toInt.toNat 0)).toUInt64 >>> ((((q2).toInt32) &&& (63 : Int32)) &&& 0x3f).toInt64.toUInt64).toInt64) ||| (((lw.getD (((((q2).toUInt64 >>> ((6 : Int32) &&& 0x3f).toInt64.toUInt64).toInt64) + (1 : Int64))).toInt.toNat 0) <<< (((64 : Int32) - (((q2).toInt32) &&& (63 : Int32))) &&& 0x3f).toInt64))))])) _
        refine Own.go (fun t k => XS.lsub X4.here hx rfl (hb hby d8_75) rfl k) ?_
        show Own.Fin p e below (T4.setTop (mkF m 76 #[.val (.ref a1), .val (.long q2), .second, .val (.int p3), .val (.long (((q2).toUInt64 >>> ((6 : Int32) &&& 0x3f).toInt64.toUInt64).toInt64)), .second, .val (.int (((q2).toInt32) &&& (63 : Int32))), .val (.long (((((lw.getD ((((q2).toUInt64 >>> ((6 : Int32) &&& 0x3f).toInt64.toUInt64).toInt64)).toInt.toNat 0)).toUInt64 >>> ((((q2).toInt32) &&& (63 : Int32)) &&& 0x3f).toInt64.toUInt64).toInt64) ||| (((lw.getD (((((q2).toUInt64 >>> ((6 : Int32) &&& 0x3f).toInt64.toUInt64).toInt64) + (1 : Int64))).toInt.toNat 0) <<< (((64 : Int32) - (((q2).toInt32) &&& (63 : Int32))) &&& 0x3f).toInt64)))), .second] [(.long ((((1 : Int64) <<< (p3 &&& 0x3f).toInt64)) - (1 : Int64))), (.long (((((lw.getD ((((q2).toUInt64 >>> ((6 : Int32) &&& 0x3f).toInt64.toUInt64).toInt64)).toInt.toNat 0)).toUInt64 >>> ((((q2).toInt32) &&& (63 : Int32)) &&& 0x3f).toInt64.toUInt64).toInt64) ||| (((lw.getD (((((q2).toUInt64 >>> ((6 : Int32) &&& 0x3f).toInt64.toUInt64).toInt64) + (1 : Int64))).toInt.toNat 0) <<< (((64 : Int32) - (((q2).toInt32) &&& (63 : Int32))) &&& 0x3f).toInt64))))])) _
        refine Own.go (fun t k => XS.land X4.here hx rfl (hb hby d8_76) rfl k) ?_
        show Own.Fin p e below (T4.setTop (mkF m 77 #[.val (.ref a1), .val (.long q2), .second, .val (.int p3), .val (.long (((q2).toUInt64 >>> ((6 : Int32) &&& 0x3f).toInt64.toUInt64).toInt64)), .second, .val (.int (((q2).toInt32) &&& (63 : Int32))), .val (.long (((((lw.getD ((((q2).toUInt64 >>> ((6 : Int32) &&& 0x3f).toInt64.toUInt64).toInt64)).toInt.toNat 0)).toUInt64 >>> ((((q2).toInt32) &&& (63 : Int32)) &&& 0x3f).toInt64.toUInt64).toInt64) ||| (((lw.getD (((((q2).toUInt64 >>> ((6 : Int32) &&& 0x3f).toInt64.toUInt64).toInt64) + (1 : Int64))).toInt.toNat 0) <<< (((64 : Int32) - (((q2).toInt32) &&& (63 : Int32))) &&& 0x3f).toInt64)))), .second] [(.long ((((((lw.getD ((((q2).toUInt64 >>> ((6 : Int32) &&& 0x3f).toInt64.toUInt64).toInt64)).toInt.toNat 0)).toUInt64 >>> ((((q2).toInt32) &&& (63 : Int32)) &&& 0x3f).toInt64.toUInt64).toInt64) ||| (((lw.getD (((((q2).toUInt64 >>> ((6 : Int32) &&& 0x3f).toInt64.toUInt64).toInt64) + (1 : Int64))).toInt.toNat 0) <<< (((64 : Int32) - (((q2).toInt32) &&& (63 : Int32))) &&& 0x3f).toInt64))) &&& ((((1 : Int64) <<< (p3 &&& 0x3f).toInt64)) - (1 : Int64))))])) _
        refine Own.retJ X4 hx Bd.notSynchronized Bd.returns (hb hby d8_77) (by decide) (by decide) ?_
        exact ⟨by rw [show F_rd lw q2 p3 = ((((((lw.getD ((((q2).toUInt64 >>> ((6 : Int32) &&& 0x3f).toInt64.toUInt64).toInt64)).toInt.toNat 0)).toUInt64 >>> ((((q2).toInt32) &&& (63 : Int32)) &&& 0x3f).toInt64.toUInt64).toInt64) ||| (((lw.getD (((((q2).toUInt64 >>> ((6 : Int32) &&& 0x3f).toInt64.toUInt64).toInt64) + (1 : Int64))).toInt.toNat 0) <<< (((64 : Int32) - (((q2).toInt32) &&& (63 : Int32))) &&& 0x3f).toInt64))) &&& ((((1 : Int64) <<< (p3 &&& 0x3f).toInt64)) - (1 : Int64))) by rw [F_rd, if_neg hc1_0, if_pos hc36_2, if_neg hc61_4]], N4, e4⟩
    · skip
      refine Own.go (fun t k => XS.icmpYes X2.here hx rfl (pc0 := 36) (pc' := 58) rfl (hb hby d8_36) rfl (flt hc36_2).2.2.2 (by decide) (by decide) k) ?_
      show Own.Fin p e below (T2.setTop (mkF m 58 #[.val (.ref a1), .val (.long q2), .second, .val (.int p3), .val (.long (((q2).toUInt64 >>> ((6 : Int32) &&& 0x3f).toInt64.toUInt64).toInt64)), .second, .val (.int (((q2).toInt32) &&& (63 : Int32))), .val (.long ((((lw.getD ((((q2).toUInt64 >>> ((6 : Int32) &&& 0x3f).toInt64.toUInt64).toInt64)).toInt.toNat 0)).toUInt64 >>> ((((q2).toInt32) &&& (63 : Int32)) &&& 0x3f).toInt64.toUInt64).toInt64)), .second] [])) _
      refine Own.go (fun t k => XS.iloadN X2.here hx rfl (hb hby d8_58) rfl k) ?_
      show Own.Fin p e below (T2.setTop (mkF m 59 #[.val (.ref a1), .val (.long q2), .second, .val (.int p3), .val (.long (((q2).toUInt64 >>> ((6 : Int32) &&& 0x3f).toInt64.toUInt64).toInt64)), .second, .val (.int (((q2).toInt32) &&& (63 : Int32))), .val (.long ((((lw.getD ((((q2).toUInt64 >>> ((6 : Int32) &&& 0x3f).toInt64.toUInt64).toInt64)).toInt.toNat 0)).toUInt64 >>> ((((q2).toInt32) &&& (63 : Int32)) &&& 0x3f).toInt64.toUInt64).toInt64)), .second] [(.int p3)])) _
      refine Own.go (fun t k => XS.bipush X2.here hx rfl (hb hby d8_59) k) ?_
      show Own.Fin p e below (T2.setTop (mkF m 61 #[.val (.ref a1), .val (.long q2), .second, .val (.int p3), .val (.long (((q2).toUInt64 >>> ((6 : Int32) &&& 0x3f).toInt64.toUInt64).toInt64)), .second, .val (.int (((q2).toInt32) &&& (63 : Int32))), .val (.long ((((lw.getD ((((q2).toUInt64 >>> ((6 : Int32) &&& 0x3f).toInt64.toUInt64).toInt64)).toInt.toNat 0)).toUInt64 >>> ((((q2).toInt32) &&& (63 : Int32)) &&& 0x3f).toInt64.toUInt64).toInt64)), .second] [(.int (64 : Int32)), (.int p3)])) _
      by_cases hc61_5 : p3 = (64 : Int32)
      · skip
        refine Own.go (fun t k => XS.icmpNo X2.here hx rfl (hb hby d8_61) rfl (teq hc61_5).2 k) ?_
        show Own.Fin p e below (T2.setTop (mkF m 64 #[.val (.ref a1), .val (.long q2), .second, .val (.int p3), .val (.long (((q2).toUInt64 >>> ((6 : Int32) &&& 0x3f).toInt64.toUInt64).toInt64)), .second, .val (.int (((q2).toInt32) &&& (63 : Int32))), .val (.long ((((lw.getD ((((q2).toUInt64 >>> ((6 : Int32) &&& 0x3f).toInt64.toUInt64).toInt64)).toInt.toNat 0)).toUInt64 >>> ((((q2).toInt32) &&& (63 : Int32)) &&& 0x3f).toInt64.toUInt64).toInt64)), .second] [])) _
        refine Own.go (fun t k => XS.lload X2.here hx rfl (hb hby d8_64) rfl k) ?_
        show Own.Fin p e below (T2.setTop (mkF m 66 #[.val (.ref a1), .val (.long q2), .second, .val (.int p3), .val (.long (((q2).toUInt64 >>> ((6 : Int32) &&& 0x3f).toInt64.toUInt64).toInt64)), .second, .val (.int (((q2).toInt32) &&& (63 : Int32))), .val (.long ((((lw.getD ((((q2).toUInt64 >>> ((6 : Int32) &&& 0x3f).toInt64.toUInt64).toInt64)).toInt.toNat 0)).toUInt64 >>> ((((q2).toInt32) &&& (63 : Int32)) &&& 0x3f).toInt64.toUInt64).toInt64)), .second] [(.long ((((lw.getD ((((q2).toUInt64 >>> ((6 : Int32) &&& 0x3f).toInt64.toUInt64).toInt64)).toInt.toNat 0)).toUInt64 >>> ((((q2).toInt32) &&& (63 : Int32)) &&& 0x3f).toInt64.toUInt64).toInt64))])) _
        refine Own.go (fun t k => XS.goto X2.here hx rfl (pc0 := 66) (pc' := 77) rfl (hb hby d8_66) (by decide) (by decide) k) ?_
        show Own.Fin p e below (T2.setTop (mkF m 77 #[.val (.ref a1), .val (.long q2), .second, .val (.int p3), .val (.long (((q2).toUInt64 >>> ((6 : Int32) &&& 0x3f).toInt64.toUInt64).toInt64)), .second, .val (.int (((q2).toInt32) &&& (63 : Int32))), .val (.long ((((lw.getD ((((q2).toUInt64 >>> ((6 : Int32) &&& 0x3f).toInt64.toUInt64).toInt64)).toInt.toNat 0)).toUInt64 >>> ((((q2).toInt32) &&& (63 : Int32)) &&& 0x3f).toInt64.toUInt64).toInt64)), .second] [(.long ((((lw.getD ((((q2).toUInt64 >>> ((6 : Int32) &&& 0x3f).toInt64.toUInt64).toInt64)).toInt.toNat 0)).toUInt64 >>> ((((q2).toInt32) &&& (63 : Int32)) &&& 0x3f).toInt64.toUInt64).toInt64))])) _
        refine Own.retJ X2 hx Bd.notSynchronized Bd.returns (hb hby d8_77) (by decide) (by decide) ?_
        exact ⟨by rw [show F_rd lw q2 p3 = ((((lw.getD ((((q2).toUInt64 >>> ((6 : Int32) &&& 0x3f).toInt64.toUInt64).toInt64)).toInt.toNat 0)).toUInt64 >>> ((((q2).toInt32) &&& (63 : Int32)) &&& 0x3f).toInt64.toUInt64).toInt64) by rw [F_rd, if_neg hc1_0, if_neg hc36_2, if_pos hc61_5]], N2, e2⟩
      · skip
        refine Own.go (fun t k => XS.icmpYes X2.here hx rfl (pc0 := 61) (pc' := 69) rfl (hb hby d8_61) rfl (feq hc61_5).2 (by decide) (by decide) k) ?_
        show Own.Fin p e below (T2.setTop (mkF m 69 #[.val (.ref a1), .val (.long q2), .second, .val (.int p3), .val (.long (((q2).toUInt64 >>> ((6 : Int32) &&& 0x3f).toInt64.toUInt64).toInt64)), .second, .val (.int (((q2).toInt32) &&& (63 : Int32))), .val (.long ((((lw.getD ((((q2).toUInt64 >>> ((6 : Int32) &&& 0x3f).toInt64.toUInt64).toInt64)).toInt.toNat 0)).toUInt64 >>> ((((q2).toInt32) &&& (63 : Int32)) &&& 0x3f).toInt64.toUInt64).toInt64)), .second] [])) _
        refine Own.go (fun t k => XS.lload X2.here hx rfl (hb hby d8_69) rfl k) ?_
        show Own.Fin p e below (T2.setTop (mkF m 71 #[.val (.ref a1), .val (.long q2), .second, .val (.int p3), .val (.long (((q2).toUInt64 >>> ((6 : Int32) &&& 0x3f).toInt64.toUInt64).toInt64)), .second, .val (.int (((q2).toInt32) &&& (63 : Int32))), .val (.long ((((lw.getD ((((q2).toUInt64 >>> ((6 : Int32) &&& 0x3f).toInt64.toUInt64).toInt64)).toInt.toNat 0)).toUInt64 >>> ((((q2).toInt32) &&& (63 : Int32)) &&& 0x3f).toInt64.toUInt64).toInt64)), .second] [(.long ((((lw.getD ((((q2).toUInt64 >>> ((6 : Int32) &&& 0x3f).toInt64.toUInt64).toInt64)).toInt.toNat 0)).toUInt64 >>> ((((q2).toInt32) &&& (63 : Int32)) &&& 0x3f).toInt64.toUInt64).toInt64))])) _
        refine Own.go (fun t k => XS.lconst X2.here hx rfl (hb hby d8_71) k) ?_
        show Own.Fin p e below (T2.setTop (mkF m 72 #[.val (.ref a1), .val (.long q2), .second, .val (.int p3), .val (.long (((q2).toUInt64 >>> ((6 : Int32) &&& 0x3f).toInt64.toUInt64).toInt64)), .second, .val (.int (((q2).toInt32) &&& (63 : Int32))), .val (.long ((((lw.getD ((((q2).toUInt64 >>> ((6 : Int32) &&& 0x3f).toInt64.toUInt64).toInt64)).toInt.toNat 0)).toUInt64 >>> ((((q2).toInt32) &&& (63 : Int32)) &&& 0x3f).toInt64.toUInt64).toInt64)), .second] [(.long (1 : Int64)), (.long ((((lw.getD ((((q2).toUInt64 >>> ((6 : Int32) &&& 0x3f).toInt64.toUInt64).toInt64)).toInt.toNat 0)).toUInt64 >>> ((((q2).toInt32) &&& (63 : Int32)) &&& 0x3f).toInt64.toUInt64).toInt64))])) _
        refine Own.go (fun t k => XS.iloadN X2.here hx rfl (hb hby d8_72) rfl k) ?_
        show Own.Fin p e below (T2.setTop (mkF m 73 #[.val (.ref a1), .val (.long q2), .second, .val (.int p3), .val (.long (((q2).toUInt64 >>> ((6 : Int32) &&& 0x3f).toInt64.toUInt64).toInt64)), .second, .val (.int (((q2).toInt32) &&& (63 : Int32))), .val (.long ((((lw.getD ((((q2).toUInt64 >>> ((6 : Int32) &&& 0x3f).toInt64.toUInt64).toInt64)).toInt.toNat 0)).toUInt64 >>> ((((q2).toInt32) &&& (63 : Int32)) &&& 0x3f).toInt64.toUInt64).toInt64)), .second] [(.int p3), (.long (1 : Int64)), (.long ((((lw.getD ((((q2).toUInt64 >>> ((6 : Int32) &&& 0x3f).toInt64.toUInt64).toInt64)).toInt.toNat 0)).toUInt64 >>> ((((q2).toInt32) &&& (63 : Int32)) &&& 0x3f).toInt64.toUInt64).toInt64))])) _
        refine Own.go (fun t k => XS.lshl X2.here hx rfl (hb hby d8_73) rfl k) ?_
        show Own.Fin p e below (T2.setTop (mkF m 74 #[.val (.ref a1), .val (.long q2), .second, .val (.int p3), .val (.long (((q2).toUInt64 >>> ((6 : Int32) &&& 0x3f).toInt64.toUInt64).toInt64)), .second, .val (.int (((q2).toInt32) &&& (63 : Int32))), .val (.long ((((lw.getD ((((q2).toUInt64 >>> ((6 : Int32) &&& 0x3f).toInt64.toUInt64).toInt64)).toInt.toNat 0)).toUInt64 >>> ((((q2).toInt32) &&& (63 : Int32)) &&& 0x3f).toInt64.toUInt64).toInt64)), .second] [(.long (((1 : Int64) <<< (p3 &&& 0x3f).toInt64))), (.long ((((lw.getD ((((q2).toUInt64 >>> ((6 : Int32) &&& 0x3f).toInt64.toUInt64).toInt64)).toInt.toNat 0)).toUInt64 >>> ((((q2).toInt32) &&& (63 : Int32)) &&& 0x3f).toInt64.toUInt64).toInt64))])) _
        refine Own.go (fun t k => XS.lconst X2.here hx rfl (hb hby d8_74) k) ?_
        show Own.Fin p e below (T2.setTop (mkF m 75 #[.val (.ref a1), .val (.long q2), .second, .val (.int p3), .val (.long (((q2).toUInt64 >>> ((6 : Int32) &&& 0x3f).toInt64.toUInt64).toInt64)), .second, .val (.int (((q2).toInt32) &&& (63 : Int32))), .val (.long ((((lw.getD ((((q2).toUInt64 >>> ((6 : Int32) &&& 0x3f).toInt64.toUInt64).toInt64)).toInt.toNat 0)).toUInt64 >>> ((((q2).toInt32) &&& (63 : Int32)) &&& 0x3f).toInt64.toUInt64).toInt64)), .second] [(.long (1 : Int64)), (.long (((1 : Int64) <<< (p3 &&& 0x3f).toInt64))), (.long ((((lw.getD ((((q2).toUInt64 >>> ((6 : Int32) &&& 0x3f).toInt64.toUInt64).toInt64)).toInt.toNat 0)).toUInt64 >>> ((((q2).toInt32) &&& (63 : Int32)) &&& 0x3f).toInt64.toUInt64).toInt64))])) _
        refine Own.go (fun t k => XS.lsub X2.here hx rfl (hb hby d8_75) rfl k) ?_
        show Own.Fin p e below (T2.setTop (mkF m 76 #[.val (.ref a1), .val (.long q2), .second, .val (.int p3), .val (.long (((q2).toUInt64 >>> ((6 : Int32) &&& 0x3f).toInt64.toUInt64).toInt64)), .second, .val (.int (((q2).toInt32) &&& (63 : Int32))), .val (.long ((((lw.getD ((((q2).toUInt64 >>> ((6 : Int32) &&& 0x3f).toInt64.toUInt64).toInt64)).toInt.toNat 0)).toUInt64 >>> ((((q2).toInt32) &&& (63 : Int32)) &&& 0x3f).toInt64.toUInt64).toInt64)), .second] [(.long ((((1 : Int64) <<< (p3 &&& 0x3f).toInt64)) - (1 : Int64))), (.long ((((lw.getD ((((q2).toUInt64 >>> ((6 : Int32) &&& 0x3f).toInt64.toUInt64).toInt64)).toInt.toNat 0)).toUInt64 >>> ((((q2).toInt32) &&& (63 : Int32)) &&& 0x3f).toInt64.toUInt64).toInt64))])) _
        refine Own.go (fun t k => XS.land X2.here hx rfl (hb hby d8_76) rfl k) ?_
        show Own.Fin p e below (T2.setTop (mkF m 77 #[.val (.ref a1), .val (.long q2), .second, .val (.int p3), .val (.long (((q2).toUInt64 >>> ((6 : Int32) &&& 0x3f).toInt64.toUInt64).toInt64)), .second, .val (.int (((q2).toInt32) &&& (63 : Int32))), .val (.long ((((lw.getD ((((q2).toUInt64 >>> ((6 : Int32) &&& 0x3f).toInt64.toUInt64).toInt64)).toInt.toNat 0)).toUInt64 >>> ((((q2).toInt32) &&& (63 : Int32)) &&& 0x3f).toInt64.toUInt64).toInt64)), .second] [(.long (((((lw.getD ((((q2).toUInt64 >>> ((6 : Int32) &&& 0x3f).toInt64.toUInt64).toInt64)).toInt.toNat 0)).toUInt64 >>> ((((q2).toInt32) &&& (63 : Int32)) &&& 0x3f).toInt64.toUInt64).toInt64) &&& ((((1 : Int64) <<< (p3 &&& 0x3f).toInt64)) - (1 : Int64))))])) _
        refine Own.retJ X2 hx Bd.notSynchronized Bd.returns (hb hby d8_77) (by decide) (by decide) ?_
        exact ⟨by rw [show F_rd lw q2 p3 = (((((lw.getD ((((q2).toUInt64 >>> ((6 : Int32) &&& 0x3f).toInt64.toUInt64).toInt64)).toInt.toNat 0)).toUInt64 >>> ((((q2).toInt32) &&& (63 : Int32)) &&& 0x3f).toInt64.toUInt64).toInt64) &&& ((((1 : Int64) <<< (p3 &&& 0x3f).toInt64)) - (1 : Int64))) by rw [F_rd, if_neg hc1_0, if_neg hc36_2, if_neg hc61_5]], N2, e2⟩
theorem pd_5 : parseMethodDescriptor "()V" = some ⟨[], none⟩ := by decide +kernel
theorem pd_3 : parseMethodDescriptor "(I)I" = some ⟨[.int], some .int⟩ := by decide +kernel
theorem pd_4 : parseMethodDescriptor "(JI)J" = some ⟨[.long, .int], some .long⟩ := by decide +kernel
theorem pd_6 : parseMethodDescriptor "(JI)V" = some ⟨[.long, .int], none⟩ := by decide +kernel
theorem pn_0 : plainName "org/laneweave/lanes/BitRowReadPinLaw" = true := by first | (simp [plainName, overriddenIn]; done) | decide +kernel
theorem ef_0 (m : MethodId) (p1 : Int32) (q2 : Int64) (p3 : Int32) (q4 : Int64) (p5 : Int32) (q6 : Int64) : entryFrame m #[(.int p1), (.long q2), (.int p3), (.long q4), (.int p5), (.long q6)] maxLocals = mkF m 0 #[.val (.int p1), .val (.long q2), .second, .val (.int p3), .val (.long q4), .second, .val (.int p5), .val (.long q6), .second, .unset, .unset, .unset, .unset, .unset, .unset, .unset, .unset, .unset, .unset, .unset, .unset, .unset, .unset, .unset, .unset, .unset] [] := by first | (simp [entryFrame, mkF, argsToLocals, Value.category, maxLocals]; done) | rfl
def Q0 (Z : State) (p1 : Int32) (q2 : Int64) (p3 : Int32) (q4 : Int64) (p5 : Int32) (q6 : Int64)  (h0 : Heap) (n0 : Nat) : Option Value → Heap → List Loc → Prop := fun v h L => v = some (.int 1) ∧ Fr n0 L
set_option maxRecDepth 65536 in
set_option maxHeartbeats 40000000 in
theorem rm0 (l : Launch) (Z : State) (a0 : Array Value) (hw : ∀ d ∈ tables_1, d.before a0 Z = true) (ws : List Jvm.Cond) (p1 : Int32) (q2 : Int64) (p3 : Int32) (q4 : Int64) (p5 : Int32) (q6 : Int64)  (h0 : Heap) (n0 : Nat) (Z0 : n0 ≤ h0.size)  :
    MetFree l x (head1 (Jvm.Cond.code x code maxLocals ret :: ws) room_1) (fun a U => a = #[(.int p1), (.long q2), (.int p3), (.long q4), (.int p5), (.long q6)] ∧ Z.Warmed39 U.vm ∧ U.heap = h0) (fun _ _ _ _ _ => True) (fun _ U o U' => ∃ v L, o = .returned v ∧ (Q0 Z p1 q2 p3 q4 p5 q6 h0 n0) v U'.heap L ∧ FrameEnd U o U' L room_1.cells room_1.slots) := by
  refine MetFree.of_bodySF (plainFor_of_name pn_0) hisR ?_
  intro p e s m args below meth c s₁ Bd hml0 hP hK
  obtain ⟨rfl, hZ, hh⟩ := hP
  have hx := Bd.exec
  have hby := Bd.bytes
  have hml : c.maxLocals = 26 := hml0
  have hown : s.vm.findClass "org/laneweave/lanes/BitRowReadPinLaw" = some m.cls := findClass_of_methodNamed Bd.named
  have hnm := (name_of_methodNamed Bd.named Bd.method).1
  have X0 : Stand p l e room_1 s m #[(.int p1), (.long q2), (.int p3), (.long q4), (.int p5), (.long q6)] below meth c s₁ [] 0 0 := Stand.of_body Bd
  have e0 : s₁.heap = h0 := by rw [← hh, Bd.state]; rfl
  have N0 := Fr.nil n0
  show Own.Fin p e below _ (Own.Post s (Q0 Z p1 q2 p3 q4 p5 q6 h0 n0) room_1.cells room_1.slots)
  refine Own.start (ef_0 m p1 q2 p3 q4 p5 q6) ?_
  show Own.Fin p e below (s₁.setTop (mkF m 0 #[.val (.int p1), .val (.long q2), .second, .val (.int p3), .val (.long q4), .second, .val (.int p5), .val (.long q6), .second, .unset, .unset, .unset, .unset, .unset, .unset, .unset, .unset, .unset, .unset, .unset, .unset, .unset, .unset, .unset, .unset, .unset] [])) _
  refine Own.go (fun t k => XS.iloadN X0.here hx rfl (hb hby at_0) rfl k) ?_
  show Own.Fin p e below (s₁.setTop (mkF m 1 #[.val (.int p1), .val (.long q2), .second, .val (.int p3), .val (.long q4), .second, .val (.int p5), .val (.long q6), .second, .unset, .unset, .unset, .unset, .unset, .unset, .unset, .unset, .unset, .unset, .unset, .unset, .unset, .unset, .unset, .unset, .unset] [(.int p1)])) _
  refine Own.cS X0 hx hZ hown (hw _ (List.mem_of_getElem? (i := 0) rfl)) (hw _ (List.mem_of_getElem? (i := 1) rfl)) (hw _ (List.mem_of_getElem? (i := 2) rfl)) (hw _ (List.mem_of_getElem? (i := 3) rfl)) (by decide) (rm1 l Z a0 hw [] p1 h0 n0 Z0 ) (by decide) (W := 0) (by decide) (argsL := [(.int p1)]) (rest := []) (by rw [hml]; rfl) (lenOf pd_3 rfl) rfl (Nat.le_of_eq rfl) (hb hby at_1) e0 (by decide) (by decide) ?_
  intro T1 L1 v1 X1 hQ1
  obtain ⟨rfl, N1q, e1⟩ := hQ1
  have N1 := Fr.app N0 N1q
  show Own.Fin p e below (T1.setTop (mkF m 4 #[.val (.int p1), .val (.long q2), .second, .val (.int p3), .val (.long q4), .second, .val (.int p5), .val (.long q6), .second, .unset, .unset, .unset, .unset, .unset, .unset, .unset, .unset, .unset, .unset, .unset, .unset, .unset, .unset, .unset, .unset, .unset] [(.int (F_w p1))])) _
  refine Own.go (fun t k => XS.istore X1.here hx rfl (hb hby at_4) rfl (l' := #[.val (.int p1), .val (.long q2), .second, .val (.int p3), .val (.long q4), .second, .val (.int p5), .val (.long q6), .second, .val (.int (F_w p1)), .unset, .unset, .unset, .unset, .unset, .unset, .unset, .unset, .unset, .unset, .unset, .unset, .unset, .unset, .unset, .unset]) rfl k) ?_
  show Own.Fin p e below (T1.setTop (mkF m 6 #[.val (.int p1), .val (.long q2), .second, .val (.int p3), .val (.long q4), .second, .val (.int p5), .val (.long q6), .second, .val (.int (F_w p1)), .unset, .unset, .unset, .unset, .unset, .unset, .unset, .unset, .unset, .unset, .unset, .unset, .unset, .unset, .unset, .unset] [])) _
  refine Own.go (fun t k => XS.iloadN X1.here hx rfl (hb hby at_6) rfl k) ?_
  show Own.Fin p e below (T1.setTop (mkF m 7 #[.val (.int p1), .val (.long q2), .second, .val (.int p3), .val (.long q4), .second, .val (.int p5), .val (.long q6), .second, .val (.int (F_w p1)), .unset, .unset, .unset, .unset, .unset, .unset, .unset, .unset, .unset, .unset, .unset, .unset, .unset, .unset, .unset, .unset] [(.int p3)])) _
  refine Own.cS X1 hx hZ hown (hw _ (List.mem_of_getElem? (i := 0) rfl)) (hw _ (List.mem_of_getElem? (i := 1) rfl)) (hw _ (List.mem_of_getElem? (i := 2) rfl)) (hw _ (List.mem_of_getElem? (i := 3) rfl)) (by decide) (rm1 l Z a0 hw [] p3 h0 n0 Z0 ) (by decide) (W := 0) (by decide) (argsL := [(.int p3)]) (rest := []) (by rw [hml]; rfl) (lenOf pd_3 rfl) rfl (Nat.le_of_eq rfl) (hb hby at_7) e1 (by decide) (by decide) ?_
  intro T2 L2 v2 X2 hQ2
  obtain ⟨rfl, N2q, e2⟩ := hQ2
  have N2 := Fr.app N1 N2q
  show Own.Fin p e below (T2.setTop (mkF m 10 #[.val (.int p1), .val (.long q2), .second, .val (.int p3), .val (.long q4), .second, .val (.int p5), .val (.long q6), .second, .val (.int (F_w p1)), .unset, .unset, .unset, .unset, .unset, .unset, .unset, .unset, .unset, .unset, .unset, .unset, .unset, .unset, .unset, .unset] [(.int (F_w p3))])) _
  refine Own.go (fun t k => XS.istore X2.here hx rfl (hb hby at_10) rfl (l' := #[.val (.int p1), .val (.long q2), .second, .val (.int p3), .val (.long q4), .second, .val (.int p5), .val (.long q6), .second, .val (.int (F_w p1)), .val (.int (F_w p3)), .unset, .unset, .unset, .unset, .unset, .unset, .unset, .unset, .unset, .unset, .unset, .unset, .unset, .unset, .unset]) rfl k) ?_
  show Own.Fin p e below (T2.setTop (mkF m 12 #[.val (.int p1), .val (.long q2), .second, .val (.int p3), .val (.long q4), .second, .val (.int p5), .val (.long q6), .second, .val (.int (F_w p1)), .val (.int (F_w p3)), .unset, .unset, .unset, .unset, .unset, .unset, .unset, .unset, .unset, .unset, .unset, .unset, .unset, .unset, .unset] [])) _
  refine Own.go (fun t k => XS.iload X2.here hx rfl (hb hby at_12) rfl k) ?_
  show Own.Fin p e below (T2.setTop (mkF m 14 #[.val (.int p1), .val (.long q2), .second, .val (.int p3), .val (.long q4), .second, .val (.int p5), .val (.long q6), .second, .val (.int (F_w p1)), .val (.int (F_w p3)), .unset, .unset, .unset, .unset, .unset, .unset, .unset, .unset, .unset, .unset, .unset, .unset, .unset, .unset, .unset] [(.int p5)])) _
  refine Own.cS X2 hx hZ hown (hw _ (List.mem_of_getElem? (i := 0) rfl)) (hw _ (List.mem_of_getElem? (i := 1) rfl)) (hw _ (List.mem_of_getElem? (i := 2) rfl)) (hw _ (List.mem_of_getElem? (i := 3) rfl)) (by decide) (rm1 l Z a0 hw [] p5 h0 n0 Z0 ) (by decide) (W := 0) (by decide) (argsL := [(.int p5)]) (rest := []) (by rw [hml]; rfl) (lenOf pd_3 rfl) rfl (Nat.le_of_eq rfl) (hb hby at_14) e2 (by decide) (by decide) ?_
  intro T3 L3 v3 X3 hQ3
  obtain ⟨rfl, N3q, e3⟩ := hQ3
  have N3 := Fr.app N2 N3q
  show Own.Fin p e below (T3.setTop (mkF m 17 #[.val (.int p1), .val (.long q2), .second, .val (.int p3), .val (.long q4), .second, .val (.int p5), .val (.long q6), .second, .val (.int (F_w p1)), .val (.int (F_w p3)), .unset, .unset, .unset, .unset, .unset, .unset, .unset, .unset, .unset, .unset, .unset, .unset, .unset, .unset, .unset] [(.int (F_w p5))])) _
  refine Own.go (fun t k => XS.istore X3.here hx rfl (hb hby at_17) rfl (l' := #[.val (.int p1), .val (.long q2), .second, .val (.int p3), .val (.long q4), .second, .val (.int p5), .val (.long q6), .second, .val (.int (F_w p1)), .val (.int (F_w p3)), .val (.int (F_w p5)), .unset, .unset, .unset, .unset, .unset, .unset, .unset, .unset, .unset, .unset, .unset, .unset, .unset, .unset]) rfl k) ?_
  show Own.Fin p e below (T3.setTop (mkF m 19 #[.val (.int p1), .val (.long q2), .second, .val (.int p3), .val (.long q4), .second, .val (.int p5), .val (.long q6), .second, .val (.int (F_w p1)), .val (.int (F_w p3)), .val (.int (F_w p5)), .unset, .unset, .unset, .unset, .unset, .unset, .unset, .unset, .unset, .unset, .unset, .unset, .unset, .unset] [])) _
  refine Own.go (fun t k => XS.lloadN X3.here hx rfl (hb hby at_19) rfl k) ?_
  show Own.Fin p e below (T3.setTop (mkF m 20 #[.val (.int p1), .val (.long q2), .second, .val (.int p3), .val (.long q4), .second, .val (.int p5), .val (.long q6), .second, .val (.int (F_w p1)), .val (.int (F_w p3)), .val (.int (F_w p5)), .unset, .unset, .unset, .unset, .unset, .unset, .unset, .unset, .unset, .unset, .unset, .unset, .unset, .unset] [(.long q2)])) _
  refine Own.go (fun t k => XS.iload X3.here hx rfl (hb hby at_20) rfl k) ?_
  show Own.Fin p e below (T3.setTop (mkF m 22 #[.val (.int p1), .val (.long q2), .second, .val (.int p3), .val (.long q4), .second, .val (.int p5), .val (.long q6), .second, .val (.int (F_w p1)), .val (.int (F_w p3)), .val (.int (F_w p5)), .unset, .unset, .unset, .unset, .unset, .unset, .unset, .unset, .unset, .unset, .unset, .unset, .unset, .unset] [(.int (F_w p1)), (.long q2)])) _
  refine Own.cS X3 hx hZ hown (hw _ (List.mem_of_getElem? (i := 5) rfl)) (hw _ (List.mem_of_getElem? (i := 6) rfl)) (hw _ (List.mem_of_getElem? (i := 2) rfl)) (hw _ (List.mem_of_getElem? (i := 7) rfl)) (by decide) (rm2 l Z a0 hw [] q2 (F_w p1) h0 n0 Z0 ) (by decide) (W := 0) (by decide) (argsL := [(.long q2), (.int (F_w p1))]) (rest := []) (by rw [hml]; rfl) (lenOf pd_4 rfl) rfl (Nat.le_of_eq rfl) (hb hby at_22) e3 (by decide) (by decide) ?_
  intro T4 L4 v4 X4 hQ4
  obtain ⟨rfl, N4q, e4⟩ := hQ4
  have N4 := Fr.app N3 N4q
  show Own.Fin p e below (T4.setTop (mkF m 25 #[.val (.int p1), .val (.long q2), .second, .val (.int p3), .val (.long q4), .second, .val (.int p5), .val (.long q6), .second, .val (.int (F_w p1)), .val (.int (F_w p3)), .val (.int (F_w p5)), .unset, .unset, .unset, .unset, .unset, .unset, .unset, .unset, .unset, .unset, .unset, .unset, .unset, .unset] [(.long (F_low q2 (F_w p1)))])) _
  refine Own.go (fun t k => XS.lstore X4.here hx rfl (hb hby at_25) rfl (l' := #[.val (.int p1), .val (.long q2), .second, .val (.int p3), .val (.long q4), .second, .val (.int p5), .val (.long q6), .second, .val (.int (F_w p1)), .val (.int (F_w p3)), .val (.int (F_w p5)), .val (.long (F_low q2 (F_w p1))), .second, .unset, .unset, .unset, .unset, .unset, .unset, .unset, .unset, .unset, .unset, .unset, .unset]) rfl k) ?_
  show Own.Fin p e below (T4.setTop (mkF m 27 #[.val (.int p1), .val (.long q2), .second, .val (.int p3), .val (.long q4), .second, .val (.int p5), .val (.long q6), .second, .val (.int (F_w p1)), .val (.int (F_w p3)), .val (.int (F_w p5)), .val (.long (F_low q2 (F_w p1))), .second, .unset, .unset, .unset, .unset, .unset, .unset, .unset, .unset, .unset, .unset, .unset, .unset] [])) _
  refine Own.go (fun t k => XS.lload X4.here hx rfl (hb hby at_27) rfl k) ?_
  show Own.Fin p e below (T4.setTop (mkF m 29 #[.val (.int p1), .val (.long q2), .second, .val (.int p3), .val (.long q4), .second, .val (.int p5), .val (.long q6), .second, .val (.int (F_w p1)), .val (.int (F_w p3)), .val (.int (F_w p5)), .val (.long (F_low q2 (F_w p1))), .second, .unset, .unset, .unset, .unset, .unset, .unset, .unset, .unset, .unset, .unset, .unset, .unset] [(.long q4)])) _
  refine Own.go (fun t k => XS.iload X4.here hx rfl (hb hby at_29) rfl k) ?_
  show Own.Fin p e below (T4.setTop (mkF m 31 #[.val (.int p1), .val (.long q2), .second, .val (.int p3), .val (.long q4), .second, .val (.int p5), .val (.long q6), .second, .val (.int (F_w p1)), .val (.int (F_w p3)), .val (.int (F_w p5)), .val (.long (F_low q2 (F_w p1))), .second, .unset, .unset, .unset, .unset, .unset, .unset, .unset, .unset, .unset, .unset, .unset, .unset] [(.int (F_w p3)), (.long q4)])) _
  refine Own.cS X4 hx hZ hown (hw _ (List.mem_of_getElem? (i := 5) rfl)) (hw _ (List.mem_of_getElem? (i := 6) rfl)) (hw _ (List.mem_of_getElem? (i := 2) rfl)) (hw _ (List.mem_of_getElem? (i := 7) rfl)) (by decide) (rm2 l Z a0 hw [] q4 (F_w p3) h0 n0 Z0 ) (by decide) (W := 0) (by decide) (argsL := [(.long q4), (.int (F_w p3))]) (rest := []) (by rw [hml]; rfl) (lenOf pd_4 rfl) rfl (Nat.le_of_eq rfl) (hb hby at_31) e4 (by decide) (by decide) ?_
  intro T5 L5 v5 X5 hQ5
  obtain ⟨rfl, N5q, e5⟩ := hQ5
  have N5 := Fr.app N4 N5q
  show Own.Fin p e below (T5.setTop (mkF m 34 #[.val (.int p1), .val (.long q2), .second, .val (.int p3), .val (.long q4), .second, .val (.int p5), .val (.long q6), .second, .val (.int (F_w p1)), .val (.int (F_w p3)), .val (.int (F_w p5)), .val (.long (F_low q2 (F_w p1))), .second, .unset, .unset, .unset, .unset, .unset, .unset, .unset, .unset, .unset, .unset, .unset, .unset] [(.long (F_low q4 (F_w p3)))])) _
  refine Own.go (fun t k => XS.lstore X5.here hx rfl (hb hby at_34) rfl (l' := #[.val (.int p1), .val (.long q2), .second, .val (.int p3), .val (.long q4), .second, .val (.int p5), .val (.long q6), .second, .val (.int (F_w p1)), .val (.int (F_w p3)), .val (.int (F_w p5)), .val (.long (F_low q2 (F_w p1))), .second, .val (.long (F_low q4 (F_w p3))), .second, .unset, .unset, .unset, .unset, .unset, .unset, .unset, .unset, .unset, .unset]) rfl k) ?_
  show Own.Fin p e below (T5.setTop (mkF m 36 #[.val (.int p1), .val (.long q2), .second, .val (.int p3), .val (.long q4), .second, .val (.int p5), .val (.long q6), .second, .val (.int (F_w p1)), .val (.int (F_w p3)), .val (.int (F_w p5)), .val (.long (F_low q2 (F_w p1))), .second, .val (.long (F_low q4 (F_w p3))), .second, .unset, .unset, .unset, .unset, .unset, .unset, .unset, .unset, .unset, .unset] [])) _
  refine Own.go (fun t k => XS.lload X5.here hx rfl (hb hby at_36) rfl k) ?_
  show Own.Fin p e below (T5.setTop (mkF m 38 #[.val (.int p1), .val (.long q2), .second, .val (.int p3), .val (.long q4), .second, .val (.int p5), .val (.long q6), .second, .val (.int (F_w p1)), .val (.int (F_w p3)), .val (.int (F_w p5)), .val (.long (F_low q2 (F_w p1))), .second, .val (.long (F_low q4 (F_w p3))), .second, .unset, .unset, .unset, .unset, .unset, .unset, .unset, .unset, .unset, .unset] [(.long q6)])) _
  refine Own.go (fun t k => XS.iload X5.here hx rfl (hb hby at_38) rfl k) ?_
  show Own.Fin p e below (T5.setTop (mkF m 40 #[.val (.int p1), .val (.long q2), .second, .val (.int p3), .val (.long q4), .second, .val (.int p5), .val (.long q6), .second, .val (.int (F_w p1)), .val (.int (F_w p3)), .val (.int (F_w p5)), .val (.long (F_low q2 (F_w p1))), .second, .val (.long (F_low q4 (F_w p3))), .second, .unset, .unset, .unset, .unset, .unset, .unset, .unset, .unset, .unset, .unset] [(.int (F_w p5)), (.long q6)])) _
  refine Own.cS X5 hx hZ hown (hw _ (List.mem_of_getElem? (i := 5) rfl)) (hw _ (List.mem_of_getElem? (i := 6) rfl)) (hw _ (List.mem_of_getElem? (i := 2) rfl)) (hw _ (List.mem_of_getElem? (i := 7) rfl)) (by decide) (rm2 l Z a0 hw [] q6 (F_w p5) h0 n0 Z0 ) (by decide) (W := 0) (by decide) (argsL := [(.long q6), (.int (F_w p5))]) (rest := []) (by rw [hml]; rfl) (lenOf pd_4 rfl) rfl (Nat.le_of_eq rfl) (hb hby at_40) e5 (by decide) (by decide) ?_
  intro T6 L6 v6 X6 hQ6
  obtain ⟨rfl, N6q, e6⟩ := hQ6
  have N6 := Fr.app N5 N6q
  show Own.Fin p e below (T6.setTop (mkF m 43 #[.val (.int p1), .val (.long q2), .second, .val (.int p3), .val (.long q4), .second, .val (.int p5), .val (.long q6), .second, .val (.int (F_w p1)), .val (.int (F_w p3)), .val (.int (F_w p5)), .val (.long (F_low q2 (F_w p1))), .second, .val (.long (F_low q4 (F_w p3))), .second, .unset, .unset, .unset, .unset, .unset, .unset, .unset, .unset, .unset, .unset] [(.long (F_low q6 (F_w p5)))])) _
  refine Own.go (fun t k => XS.lstore X6.here hx rfl (hb hby at_43) rfl (l' := #[.val (.int p1), .val (.long q2), .second, .val (.int p3), .val (.long q4), .second, .val (.int p5), .val (.long q6), .second, .val (.int (F_w p1)), .val (.int (F_w p3)), .val (.int (F_w p5)), .val (.long (F_low q2 (F_w p1))), .second, .val (.long (F_low q4 (F_w p3))), .second, .val (.long (F_low q6 (F_w p5))), .second, .unset, .unset, .unset, .unset, .unset, .unset, .unset, .unset]) rfl k) ?_
  show Own.Fin p e below (T6.setTop (mkF m 45 #[.val (.int p1), .val (.long q2), .second, .val (.int p3), .val (.long q4), .second, .val (.int p5), .val (.long q6), .second, .val (.int (F_w p1)), .val (.int (F_w p3)), .val (.int (F_w p5)), .val (.long (F_low q2 (F_w p1))), .second, .val (.long (F_low q4 (F_w p3))), .second, .val (.long (F_low q6 (F_w p5))), .second, .unset, .unset, .unset, .unset, .unset, .unset, .unset, .unset] [])) _
  obtain ⟨T7, h7, X7, e7, E7, A7, D7, -, st7⟩ := newO X6 hx hZ hown (hw _ (List.mem_of_getElem? (i := 8) rfl)) (hw _ (List.mem_of_getElem? (i := 9) rfl)) (hw _ (List.mem_of_getElem? (i := 10) rfl)) e6 (g := (mkF m 45 #[.val (.int p1), .val (.long q2), .second, .val (.int p3), .val (.long q4), .second, .val (.int p5), .val (.long q6), .second, .val (.int (F_w p1)), .val (.int (F_w p3)), .val (.int (F_w p5)), .val (.long (F_low q2 (F_w p1))), .second, .val (.long (F_low q4 (F_w p3))), .second, .val (.long (F_low q6 (F_w p5))), .second, .unset, .unset, .unset, .unset, .unset, .unset, .unset, .unset] [])) rfl (hb hby at_45) (by decide) (by decide)
  obtain ⟨b7, gb7⟩ : ∃ z, z = h0.size := ⟨_, rfl⟩
  rw [← gb7] at A7 D7 st7
  refine Own.go st7 ?_
  have ge7 : n0 ≤ b7 := by rw [gb7]; exact Z0
  have Z7 : n0 ≤ h7.size := Nat.le_trans Z0 E7.1
  have fl8 : Fld Z h7 b7 "org/laneweave/lanes/BitRow" "chunks" "[[J" .null := D7 (Or.inl (hw _ (List.mem_of_getElem? (i := 25) rfl))) (ty := (.array (.array .long))) (by decide)
  have fl9 : Fld Z h7 b7 "org/laneweave/lanes/BitRow" "end" "J" (.long (0 : Int64)) := D7 (Or.inl (hw _ (List.mem_of_getElem? (i := 27) rfl))) (ty := .long) (by decide)
  show Own.Fin p e below (T7.setTop (mkF m 48 #[.val (.int p1), .val (.long q2), .second, .val (.int p3), .val (.long q4), .second, .val (.int p5), .val (.long q6), .second, .val (.int (F_w p1)), .val (.int (F_w p3)), .val (.int (F_w p5)), .val (.long (F_low q2 (F_w p1))), .second, .val (.long (F_low q4 (F_w p3))), .second, .val (.long (F_low q6 (F_w p5))), .second, .unset, .unset, .unset, .unset, .unset, .unset, .unset, .unset] [(.ref b7)])) _
  refine Own.go (fun t k => XS.dup X7.here hx rfl (hb hby at_48) rfl rfl k) ?_
  show Own.Fin p e below (T7.setTop (mkF m 49 #[.val (.int p1), .val (.long q2), .second, .val (.int p3), .val (.long q4), .second, .val (.int p5), .val (.long q6), .second, .val (.int (F_w p1)), .val (.int (F_w p3)), .val (.int (F_w p5)), .val (.long (F_low q2 (F_w p1))), .second, .val (.long (F_low q4 (F_w p3))), .second, .val (.long (F_low q6 (F_w p5))), .second, .unset, .unset, .unset, .unset, .unset, .unset, .unset, .unset] [(.ref b7), (.ref b7)])) _
  refine Own.cI X7 hx hZ rfl hown (hw _ (List.mem_of_getElem? (i := 11) rfl)) (hw _ (List.mem_of_getElem? (i := 12) rfl)) (hw _ (List.mem_of_getElem? (i := 10) rfl)) (hw _ (List.mem_of_getElem? (i := 13) rfl)) (by decide) (rm3 l Z a0 hw [] b7 h7 n0 Z7 A7 fl8 fl9 ge7) (by decide) (W := 1) (by decide) (argsL := []) (rest := [(.ref b7)]) (by rw [hml]; rfl) (lenOf pd_5 rfl) rfl (Nat.le_of_eq rfl) (hb hby at_49) e7 (by decide) (by decide) ?_
  intro T10 L10 v10 X10 hQ10
  obtain ⟨c1, c2, k1, k2, rfl, N10q, K10q, FC10, FE10, V110, V210, g1, g2, na1, na2, n12⟩ := hQ10
  have N10 := Fr.app N6 N10q
  have f11 := A7.keep K10q
  have Z10 : n0 ≤ T10.heap.size := Nat.le_trans Z7 K10q.1
  show Own.Fin p e below (T10.setTop (mkF m 52 #[.val (.int p1), .val (.long q2), .second, .val (.int p3), .val (.long q4), .second, .val (.int p5), .val (.long q6), .second, .val (.int (F_w p1)), .val (.int (F_w p3)), .val (.int (F_w p5)), .val (.long (F_low q2 (F_w p1))), .second, .val (.long (F_low q4 (F_w p3))), .second, .val (.long (F_low q6 (F_w p5))), .second, .unset, .unset, .unset, .unset, .unset, .unset, .unset, .unset] [(.ref b7)])) _
  refine Own.go (fun t k => XS.astore X10.here hx rfl (hb hby at_52) rfl rfl (l' := #[.val (.int p1), .val (.long q2), .second, .val (.int p3), .val (.long q4), .second, .val (.int p5), .val (.long q6), .second, .val (.int (F_w p1)), .val (.int (F_w p3)), .val (.int (F_w p5)), .val (.long (F_low q2 (F_w p1))), .second, .val (.long (F_low q4 (F_w p3))), .second, .val (.long (F_low q6 (F_w p5))), .second, .val (.ref b7), .unset, .unset, .unset, .unset, .unset, .unset, .unset]) rfl k) ?_
  show Own.Fin p e below (T10.setTop (mkF m 54 #[.val (.int p1), .val (.long q2), .second, .val (.int p3), .val (.long q4), .second, .val (.int p5), .val (.long q6), .second, .val (.int (F_w p1)), .val (.int (F_w p3)), .val (.int (F_w p5)), .val (.long (F_low q2 (F_w p1))), .second, .val (.long (F_low q4 (F_w p3))), .second, .val (.long (F_low q6 (F_w p5))), .second, .val (.ref b7), .unset, .unset, .unset, .unset, .unset, .unset, .unset] [])) _
  refine Own.go (fun t k => XS.aload X10.here hx rfl (hb hby at_54) rfl rfl k) ?_
  show Own.Fin p e below (T10.setTop (mkF m 56 #[.val (.int p1), .val (.long q2), .second, .val (.int p3), .val (.long q4), .second, .val (.int p5), .val (.long q6), .second, .val (.int (F_w p1)), .val (.int (F_w p3)), .val (.int (F_w p5)), .val (.long (F_low q2 (F_w p1))), .second, .val (.long (F_low q4 (F_w p3))), .second, .val (.long (F_low q6 (F_w p5))), .second, .val (.ref b7), .unset, .unset, .unset, .unset, .unset, .unset, .unset] [(.ref b7)])) _
  refine Own.go (fun t k => XS.lload X10.here hx rfl (hb hby at_56) rfl k) ?_
  show Own.Fin p e below (T10.setTop (mkF m 58 #[.val (.int p1), .val (.long q2), .second, .val (.int p3), .val (.long q4), .second, .val (.int p5), .val (.long q6), .second, .val (.int (F_w p1)), .val (.int (F_w p3)), .val (.int (F_w p5)), .val (.long (F_low q2 (F_w p1))), .second, .val (.long (F_low q4 (F_w p3))), .second, .val (.long (F_low q6 (F_w p5))), .second, .val (.ref b7), .unset, .unset, .unset, .unset, .unset, .unset, .unset] [(.long (F_low q2 (F_w p1))), (.ref b7)])) _
  refine Own.go (fun t k => XS.iload X10.here hx rfl (hb hby at_58) rfl k) ?_
  show Own.Fin p e below (T10.setTop (mkF m 60 #[.val (.int p1), .val (.long q2), .second, .val (.int p3), .val (.long q4), .second, .val (.int p5), .val (.long q6), .second, .val (.int (F_w p1)), .val (.int (F_w p3)), .val (.int (F_w p5)), .val (.long (F_low q2 (F_w p1))), .second, .val (.long (F_low q4 (F_w p3))), .second, .val (.long (F_low q6 (F_w p5))), .second, .val (.ref b7), .unset, .unset, .unset, .unset, .unset, .unset, .unset] [(.int (F_w p1)), (.long (F_low q2 (F_w p1))), (.ref b7)])) _
  refine Own.cV X10 hx hZ hown (hw _ (List.mem_of_getElem? (i := 28) rfl)) (hw _ (List.mem_of_getElem? (i := 29) rfl)) (notFace_of_selects (args := #[]) (mvT hZ (hw _ (List.mem_of_getElem? (i := 31) rfl)))) (hw _ (List.mem_of_getElem? (i := 31) rfl)) (hw _ (List.mem_of_getElem? (i := 30) rfl)) (hw _ (List.mem_of_getElem? (i := 10) rfl)) (hw _ (List.mem_of_getElem? (i := 32) rfl)) (by decide) (rm6 l Z a0 hw [] b7 (F_low q2 (F_w p1)) (F_w p1) c1 c2 k1 k2 ([0, 0, 0, 0, 0, 0, 0, 0]) (0 : Int64) T10.heap n0 Z10 FC10 V110 V210 (rfl : ([0, 0, 0, 0, 0, 0, 0, 0] : List Int64).length = 8) f11 FE10 own_e0 ge7 g2 na1 na2 n12) (by decide) (W := 0) (by decide) (argsL := [(.long (F_low q2 (F_w p1))), (.int (F_w p1))]) (rest := []) f11 (by rw [hml]; rfl) (lenOf pd_6 rfl) rfl (Nat.le_of_eq rfl) (hb hby at_60) rfl (by decide) (by decide) ?_
  intro T12 L12 v12 X12 hQ12
  obtain ⟨rfl, N12q, K12q, FC12, FE12, V112, V212⟩ := hQ12
  have N12 := Fr.app N10 N12q
  have f13 := f11.keep K12q
  have Z12 : n0 ≤ T12.heap.size := Nat.le_trans Z10 K12q.1
  have hl1 : (F_wr ([0, 0, 0, 0, 0, 0, 0, 0]) (0 : Int64) (F_low q2 (F_w p1)) (F_w p1)).length = 8 := own_wlen (rfl : ([0, 0, 0, 0, 0, 0, 0, 0] : List Int64).length = 8)
  have hen1 : 0 ≤ (((0 : Int64) + ((F_w p1)).toInt64)).toInt ∧ (((0 : Int64) + ((F_w p1)).toInt64)).toInt ≤ 64 := own_en own_z0 (own_wb _) (by decide) (by decide)
  show Own.Fin p e below (T12.setTop (mkF m 63 #[.val (.int p1), .val (.long q2), .second, .val (.int p3), .val (.long q4), .second, .val (.int p5), .val (.long q6), .second, .val (.int (F_w p1)), .val (.int (F_w p3)), .val (.int (F_w p5)), .val (.long (F_low q2 (F_w p1))), .second, .val (.long (F_low q4 (F_w p3))), .second, .val (.long (F_low q6 (F_w p5))), .second, .val (.ref b7), .unset, .unset, .unset, .unset, .unset, .unset, .unset] [])) _
  refine Own.go (fun t k => XS.aload X12.here hx rfl (hb hby at_63) rfl rfl k) ?_
  show Own.Fin p e below (T12.setTop (mkF m 65 #[.val (.int p1), .val (.long q2), .second, .val (.int p3), .val (.long q4), .second, .val (.int p5), .val (.long q6), .second, .val (.int (F_w p1)), .val (.int (F_w p3)), .val (.int (F_w p5)), .val (.long (F_low q2 (F_w p1))), .second, .val (.long (F_low q4 (F_w p3))), .second, .val (.long (F_low q6 (F_w p5))), .second, .val (.ref b7), .unset, .unset, .unset, .unset, .unset, .unset, .unset] [(.ref b7)])) _
  refine Own.go (fun t k => XS.lload X12.here hx rfl (hb hby at_65) rfl k) ?_
  show Own.Fin p e below (T12.setTop (mkF m 67 #[.val (.int p1), .val (.long q2), .second, .val (.int p3), .val (.long q4), .second, .val (.int p5), .val (.long q6), .second, .val (.int (F_w p1)), .val (.int (F_w p3)), .val (.int (F_w p5)), .val (.long (F_low q2 (F_w p1))), .second, .val (.long (F_low q4 (F_w p3))), .second, .val (.long (F_low q6 (F_w p5))), .second, .val (.ref b7), .unset, .unset, .unset, .unset, .unset, .unset, .unset] [(.long (F_low q4 (F_w p3))), (.ref b7)])) _
  refine Own.go (fun t k => XS.iload X12.here hx rfl (hb hby at_67) rfl k) ?_
  show Own.Fin p e below (T12.setTop (mkF m 69 #[.val (.int p1), .val (.long q2), .second, .val (.int p3), .val (.long q4), .second, .val (.int p5), .val (.long q6), .second, .val (.int (F_w p1)), .val (.int (F_w p3)), .val (.int (F_w p5)), .val (.long (F_low q2 (F_w p1))), .second, .val (.long (F_low q4 (F_w p3))), .second, .val (.long (F_low q6 (F_w p5))), .second, .val (.ref b7), .unset, .unset, .unset, .unset, .unset, .unset, .unset] [(.int (F_w p3)), (.long (F_low q4 (F_w p3))), (.ref b7)])) _
  refine Own.cV X12 hx hZ hown (hw _ (List.mem_of_getElem? (i := 28) rfl)) (hw _ (List.mem_of_getElem? (i := 29) rfl)) (notFace_of_selects (args := #[]) (mvT hZ (hw _ (List.mem_of_getElem? (i := 31) rfl)))) (hw _ (List.mem_of_getElem? (i := 31) rfl)) (hw _ (List.mem_of_getElem? (i := 30) rfl)) (hw _ (List.mem_of_getElem? (i := 10) rfl)) (hw _ (List.mem_of_getElem? (i := 32) rfl)) (by decide) (rm6 l Z a0 hw [] b7 (F_low q4 (F_w p3)) (F_w p3) c1 c2 k1 k2 (F_wr ([0, 0, 0, 0, 0, 0, 0, 0]) (0 : Int64) (F_low q2 (F_w p1)) (F_w p1)) ((0 : Int64) + ((F_w p1)).toInt64) T12.heap n0 Z12 FC12 V112 V212 hl1 f13 FE12 ⟨hen1.1, by have := hen1.2; omega⟩ ge7 g2 na1 na2 n12) (by decide) (W := 0) (by decide) (argsL := [(.long (F_low q4 (F_w p3))), (.int (F_w p3))]) (rest := []) f13 (by rw [hml]; rfl) (lenOf pd_6 rfl) rfl (Nat.le_of_eq rfl) (hb hby at_69) rfl (by decide) (by decide) ?_
  intro T14 L14 v14 X14 hQ14
  obtain ⟨rfl, N14q, K14q, FC14, FE14, V114, V214⟩ := hQ14
  have N14 := Fr.app N12 N14q
  have f15 := f13.keep K14q
  have Z14 : n0 ≤ T14.heap.size := Nat.le_trans Z12 K14q.1
  have hl2 : (F_wr (F_wr ([0, 0, 0, 0, 0, 0, 0, 0]) (0 : Int64) (F_low q2 (F_w p1)) (F_w p1)) ((0 : Int64) + ((F_w p1)).toInt64) (F_low q4 (F_w p3)) (F_w p3)).length = 8 := own_wlen hl1
  have hen2 : 0 ≤ ((((0 : Int64) + ((F_w p1)).toInt64) + ((F_w p3)).toInt64)).toInt ∧ ((((0 : Int64) + ((F_w p1)).toInt64) + ((F_w p3)).toInt64)).toInt ≤ 128 := own_en hen1 (own_wb _) (by decide) (by decide)
  show Own.Fin p e below (T14.setTop (mkF m 72 #[.val (.int p1), .val (.long q2), .second, .val (.int p3), .val (.long q4), .second, .val (.int p5), .val (.long q6), .second, .val (.int (F_w p1)), .val (.int (F_w p3)), .val (.int (F_w p5)), .val (.long (F_low q2 (F_w p1))), .second, .val (.long (F_low q4 (F_w p3))), .second, .val (.long (F_low q6 (F_w p5))), .second, .val (.ref b7), .unset, .unset, .unset, .unset, .unset, .unset, .unset] [])) _
  refine Own.go (fun t k => XS.aload X14.here hx rfl (hb hby at_72) rfl rfl k) ?_
  show Own.Fin p e below (T14.setTop (mkF m 74 #[.val (.int p1), .val (.long q2), .second, .val (.int p3), .val (.long q4), .second, .val (.int p5), .val (.long q6), .second, .val (.int (F_w p1)), .val (.int (F_w p3)), .val (.int (F_w p5)), .val (.long (F_low q2 (F_w p1))), .second, .val (.long (F_low q4 (F_w p3))), .second, .val (.long (F_low q6 (F_w p5))), .second, .val (.ref b7), .unset, .unset, .unset, .unset, .unset, .unset, .unset] [(.ref b7)])) _
  refine Own.go (fun t k => XS.lload X14.here hx rfl (hb hby at_74) rfl k) ?_
  show Own.Fin p e below (T14.setTop (mkF m 76 #[.val (.int p1), .val (.long q2), .second, .val (.int p3), .val (.long q4), .second, .val (.int p5), .val (.long q6), .second, .val (.int (F_w p1)), .val (.int (F_w p3)), .val (.int (F_w p5)), .val (.long (F_low q2 (F_w p1))), .second, .val (.long (F_low q4 (F_w p3))), .second, .val (.long (F_low q6 (F_w p5))), .second, .val (.ref b7), .unset, .unset, .unset, .unset, .unset, .unset, .unset] [(.long (F_low q6 (F_w p5))), (.ref b7)])) _
  refine Own.go (fun t k => XS.iload X14.here hx rfl (hb hby at_76) rfl k) ?_
  show Own.Fin p e below (T14.setTop (mkF m 78 #[.val (.int p1), .val (.long q2), .second, .val (.int p3), .val (.long q4), .second, .val (.int p5), .val (.long q6), .second, .val (.int (F_w p1)), .val (.int (F_w p3)), .val (.int (F_w p5)), .val (.long (F_low q2 (F_w p1))), .second, .val (.long (F_low q4 (F_w p3))), .second, .val (.long (F_low q6 (F_w p5))), .second, .val (.ref b7), .unset, .unset, .unset, .unset, .unset, .unset, .unset] [(.int (F_w p5)), (.long (F_low q6 (F_w p5))), (.ref b7)])) _
  refine Own.cV X14 hx hZ hown (hw _ (List.mem_of_getElem? (i := 28) rfl)) (hw _ (List.mem_of_getElem? (i := 29) rfl)) (notFace_of_selects (args := #[]) (mvT hZ (hw _ (List.mem_of_getElem? (i := 31) rfl)))) (hw _ (List.mem_of_getElem? (i := 31) rfl)) (hw _ (List.mem_of_getElem? (i := 30) rfl)) (hw _ (List.mem_of_getElem? (i := 10) rfl)) (hw _ (List.mem_of_getElem? (i := 32) rfl)) (by decide) (rm6 l Z a0 hw [] b7 (F_low q6 (F_w p5)) (F_w p5) c1 c2 k1 k2 (F_wr (F_wr ([0, 0, 0, 0, 0, 0, 0, 0]) (0 : Int64) (F_low q2 (F_w p1)) (F_w p1)) ((0 : Int64) + ((F_w p1)).toInt64) (F_low q4 (F_w p3)) (F_w p3)) (((0 : Int64) + ((F_w p1)).toInt64) + ((F_w p3)).toInt64) T14.heap n0 Z14 FC14 V114 V214 hl2 f15 FE14 ⟨hen2.1, by have := hen2.2; omega⟩ ge7 g2 na1 na2 n12) (by decide) (W := 0) (by decide) (argsL := [(.long (F_low q6 (F_w p5))), (.int (F_w p5))]) (rest := []) f15 (by rw [hml]; rfl) (lenOf pd_6 rfl) rfl (Nat.le_of_eq rfl) (hb hby at_78) rfl (by decide) (by decide) ?_
  intro T16 L16 v16 X16 hQ16
  obtain ⟨rfl, N16q, K16q, FC16, FE16, V116, V216⟩ := hQ16
  have N16 := Fr.app N14 N16q
  have f17 := f15.keep K16q
  have Z16 : n0 ≤ T16.heap.size := Nat.le_trans Z14 K16q.1
  have hl3 : (F_wr (F_wr (F_wr ([0, 0, 0, 0, 0, 0, 0, 0]) (0 : Int64) (F_low q2 (F_w p1)) (F_w p1)) ((0 : Int64) + ((F_w p1)).toInt64) (F_low q4 (F_w p3)) (F_w p3)) (((0 : Int64) + ((F_w p1)).toInt64) + ((F_w p3)).toInt64) (F_low q6 (F_w p5)) (F_w p5)).length = 8 := own_wlen hl2
  have hen3 : 0 ≤ (((((0 : Int64) + ((F_w p1)).toInt64) + ((F_w p3)).toInt64) + ((F_w p5)).toInt64)).toInt ∧ (((((0 : Int64) + ((F_w p1)).toInt64) + ((F_w p3)).toInt64) + ((F_w p5)).toInt64)).toInt ≤ 192 := own_en hen2 (own_wb _) (by decide) (by decide)
  show Own.Fin p e below (T16.setTop (mkF m 81 #[.val (.int p1), .val (.long q2), .second, .val (.int p3), .val (.long q4), .second, .val (.int p5), .val (.long q6), .second, .val (.int (F_w p1)), .val (.int (F_w p3)), .val (.int (F_w p5)), .val (.long (F_low q2 (F_w p1))), .second, .val (.long (F_low q4 (F_w p3))), .second, .val (.long (F_low q6 (F_w p5))), .second, .val (.ref b7), .unset, .unset, .unset, .unset, .unset, .unset, .unset] [])) _
  refine Own.go (fun t k => XS.iload X16.here hx rfl (hb hby at_81) rfl k) ?_
  show Own.Fin p e below (T16.setTop (mkF m 83 #[.val (.int p1), .val (.long q2), .second, .val (.int p3), .val (.long q4), .second, .val (.int p5), .val (.long q6), .second, .val (.int (F_w p1)), .val (.int (F_w p3)), .val (.int (F_w p5)), .val (.long (F_low q2 (F_w p1))), .second, .val (.long (F_low q4 (F_w p3))), .second, .val (.long (F_low q6 (F_w p5))), .second, .val (.ref b7), .unset, .unset, .unset, .unset, .unset, .unset, .unset] [(.int (F_w p1))])) _
  refine Own.go (fun t k => XS.i2l X16.here hx rfl (hb hby at_83) rfl k) ?_
  show Own.Fin p e below (T16.setTop (mkF m 84 #[.val (.int p1), .val (.long q2), .second, .val (.int p3), .val (.long q4), .second, .val (.int p5), .val (.long q6), .second, .val (.int (F_w p1)), .val (.int (F_w p3)), .val (.int (F_w p5)), .val (.long (F_low q2 (F_w p1))), .second, .val (.long (F_low q4 (F_w p3))), .second, .val (.long (F_low q6 (F_w p5))), .second, .val (.ref b7), .unset, .unset, .unset, .unset, .unset, .unset, .unset] [(.long (((F_w p1)).toInt64))])) _
  refine Own.go (fun t k => XS.lstore X16.here hx rfl (hb hby at_84) rfl (l' := #[.val (.int p1), .val (.long q2), .second, .val (.int p3), .val (.long q4), .second, .val (.int p5), .val (.long q6), .second, .val (.int (F_w p1)), .val (.int (F_w p3)), .val (.int (F_w p5)), .val (.long (F_low q2 (F_w p1))), .second, .val (.long (F_low q4 (F_w p3))), .second, .val (.long (F_low q6 (F_w p5))), .second, .val (.ref b7), .val (.long (((F_w p1)).toInt64)), .second, .unset, .unset, .unset, .unset, .unset]) rfl k) ?_
  show Own.Fin p e below (T16.setTop (mkF m 86 #[.val (.int p1), .val (.long q2), .second, .val (.int p3), .val (.long q4), .second, .val (.int p5), .val (.long q6), .second, .val (.int (F_w p1)), .val (.int (F_w p3)), .val (.int (F_w p5)), .val (.long (F_low q2 (F_w p1))), .second, .val (.long (F_low q4 (F_w p3))), .second, .val (.long (F_low q6 (F_w p5))), .second, .val (.ref b7), .val (.long (((F_w p1)).toInt64)), .second, .unset, .unset, .unset, .unset, .unset] [])) _
  refine Own.go (fun t k => XS.lload X16.here hx rfl (hb hby at_86) rfl k) ?_
  show Own.Fin p e below (T16.setTop (mkF m 88 #[.val (.int p1), .val (.long q2), .second, .val (.int p3), .val (.long q4), .second, .val (.int p5), .val (.long q6), .second, .val (.int (F_w p1)), .val (.int (F_w p3)), .val (.int (F_w p5)), .val (.long (F_low q2 (F_w p1))), .second, .val (.long (F_low q4 (F_w p3))), .second, .val (.long (F_low q6 (F_w p5))), .second, .val (.ref b7), .val (.long (((F_w p1)).toInt64)), .second, .unset, .unset, .unset, .unset, .unset] [(.long (((F_w p1)).toInt64))])) _
  refine Own.go (fun t k => XS.iload X16.here hx rfl (hb hby at_88) rfl k) ?_
  show Own.Fin p e below (T16.setTop (mkF m 90 #[.val (.int p1), .val (.long q2), .second, .val (.int p3), .val (.long q4), .second, .val (.int p5), .val (.long q6), .second, .val (.int (F_w p1)), .val (.int (F_w p3)), .val (.int (F_w p5)), .val (.long (F_low q2 (F_w p1))), .second, .val (.long (F_low q4 (F_w p3))), .second, .val (.long (F_low q6 (F_w p5))), .second, .val (.ref b7), .val (.long (((F_w p1)).toInt64)), .second, .unset, .unset, .unset, .unset, .unset] [(.int (F_w p3)), (.long (((F_w p1)).toInt64))])) _
  refine Own.go (fun t k => XS.i2l X16.here hx rfl (hb hby at_90) rfl k) ?_
  show Own.Fin p e below (T16.setTop (mkF m 91 #[.val (.int p1), .val (.long q2), .second, .val (.int p3), .val (.long q4), .second, .val (.int p5), .val (.long q6), .second, .val (.int (F_w p1)), .val (.int (F_w p3)), .val (.int (F_w p5)), .val (.long (F_low q2 (F_w p1))), .second, .val (.long (F_low q4 (F_w p3))), .second, .val (.long (F_low q6 (F_w p5))), .second, .val (.ref b7), .val (.long (((F_w p1)).toInt64)), .second, .unset, .unset, .unset, .unset, .unset] [(.long (((F_w p3)).toInt64)), (.long (((F_w p1)).toInt64))])) _
  refine Own.go (fun t k => XS.ladd X16.here hx rfl (hb hby at_91) rfl k) ?_
  show Own.Fin p e below (T16.setTop (mkF m 92 #[.val (.int p1), .val (.long q2), .second, .val (.int p3), .val (.long q4), .second, .val (.int p5), .val (.long q6), .second, .val (.int (F_w p1)), .val (.int (F_w p3)), .val (.int (F_w p5)), .val (.long (F_low q2 (F_w p1))), .second, .val (.long (F_low q4 (F_w p3))), .second, .val (.long (F_low q6 (F_w p5))), .second, .val (.ref b7), .val (.long (((F_w p1)).toInt64)), .second, .unset, .unset, .unset, .unset, .unset] [(.long ((((F_w p1)).toInt64) + (((F_w p3)).toInt64)))])) _
  refine Own.go (fun t k => XS.lstore X16.here hx rfl (hb hby at_92) rfl (l' := #[.val (.int p1), .val (.long q2), .second, .val (.int p3), .val (.long q4), .second, .val (.int p5), .val (.long q6), .second, .val (.int (F_w p1)), .val (.int (F_w p3)), .val (.int (F_w p5)), .val (.long (F_low q2 (F_w p1))), .second, .val (.long (F_low q4 (F_w p3))), .second, .val (.long (F_low q6 (F_w p5))), .second, .val (.ref b7), .val (.long (((F_w p1)).toInt64)), .second, .val (.long ((((F_w p1)).toInt64) + (((F_w p3)).toInt64))), .second, .unset, .unset, .unset]) rfl k) ?_
  show Own.Fin p e below (T16.setTop (mkF m 94 #[.val (.int p1), .val (.long q2), .second, .val (.int p3), .val (.long q4), .second, .val (.int p5), .val (.long q6), .second, .val (.int (F_w p1)), .val (.int (F_w p3)), .val (.int (F_w p5)), .val (.long (F_low q2 (F_w p1))), .second, .val (.long (F_low q4 (F_w p3))), .second, .val (.long (F_low q6 (F_w p5))), .second, .val (.ref b7), .val (.long (((F_w p1)).toInt64)), .second, .val (.long ((((F_w p1)).toInt64) + (((F_w p3)).toInt64))), .second, .unset, .unset, .unset] [])) _
  refine Own.go (fun t k => XS.aload X16.here hx rfl (hb hby at_94) rfl rfl k) ?_
  show Own.Fin p e below (T16.setTop (mkF m 96 #[.val (.int p1), .val (.long q2), .second, .val (.int p3), .val (.long q4), .second, .val (.int p5), .val (.long q6), .second, .val (.int (F_w p1)), .val (.int (F_w p3)), .val (.int (F_w p5)), .val (.long (F_low q2 (F_w p1))), .second, .val (.long (F_low q4 (F_w p3))), .second, .val (.long (F_low q6 (F_w p5))), .second, .val (.ref b7), .val (.long (((F_w p1)).toInt64)), .second, .val (.long ((((F_w p1)).toInt64) + (((F_w p3)).toInt64))), .second, .unset, .unset, .unset] [(.ref b7)])) _
  refine Own.go (fun t k => XS.lload X16.here hx rfl (hb hby at_96) rfl k) ?_
  show Own.Fin p e below (T16.setTop (mkF m 98 #[.val (.int p1), .val (.long q2), .second, .val (.int p3), .val (.long q4), .second, .val (.int p5), .val (.long q6), .second, .val (.int (F_w p1)), .val (.int (F_w p3)), .val (.int (F_w p5)), .val (.long (F_low q2 (F_w p1))), .second, .val (.long (F_low q4 (F_w p3))), .second, .val (.long (F_low q6 (F_w p5))), .second, .val (.ref b7), .val (.long (((F_w p1)).toInt64)), .second, .val (.long ((((F_w p1)).toInt64) + (((F_w p3)).toInt64))), .second, .unset, .unset, .unset] [(.long (((F_w p1)).toInt64)), (.ref b7)])) _
  refine Own.go (fun t k => XS.iload X16.here hx rfl (hb hby at_98) rfl k) ?_
  show Own.Fin p e below (T16.setTop (mkF m 100 #[.val (.int p1), .val (.long q2), .second, .val (.int p3), .val (.long q4), .second, .val (.int p5), .val (.long q6), .second, .val (.int (F_w p1)), .val (.int (F_w p3)), .val (.int (F_w p5)), .val (.long (F_low q2 (F_w p1))), .second, .val (.long (F_low q4 (F_w p3))), .second, .val (.long (F_low q6 (F_w p5))), .second, .val (.ref b7), .val (.long (((F_w p1)).toInt64)), .second, .val (.long ((((F_w p1)).toInt64) + (((F_w p3)).toInt64))), .second, .unset, .unset, .unset] [(.int (F_w p3)), (.long (((F_w p1)).toInt64)), (.ref b7)])) _
  refine Own.cV X16 hx hZ hown (hw _ (List.mem_of_getElem? (i := 37) rfl)) (hw _ (List.mem_of_getElem? (i := 38) rfl)) (notFace_of_selects (args := #[]) (mvT hZ (hw _ (List.mem_of_getElem? (i := 40) rfl)))) (hw _ (List.mem_of_getElem? (i := 40) rfl)) (hw _ (List.mem_of_getElem? (i := 39) rfl)) (hw _ (List.mem_of_getElem? (i := 10) rfl)) (hw _ (List.mem_of_getElem? (i := 41) rfl)) (by decide) (rm8 l Z a0 hw [] b7 (((F_w p1)).toInt64) (F_w p3) c1 c2 k1 k2 (F_wr (F_wr (F_wr ([0, 0, 0, 0, 0, 0, 0, 0]) (0 : Int64) (F_low q2 (F_w p1)) (F_w p1)) ((0 : Int64) + ((F_w p1)).toInt64) (F_low q4 (F_w p3)) (F_w p3)) (((0 : Int64) + ((F_w p1)).toInt64) + ((F_w p3)).toInt64) (F_low q6 (F_w p5)) (F_w p5)) T16.heap n0 Z16 f17 FC16 V116 V216 hl3 (own_st1 p1)) (by decide) (W := 0) (by decide) (argsL := [(.long (((F_w p1)).toInt64)), (.int (F_w p3))]) (rest := []) f17 (by rw [hml]; rfl) (lenOf pd_4 rfl) rfl (Nat.le_of_eq rfl) (hb hby at_100) rfl (by decide) (by decide) ?_
  intro T18 L18 v18 X18 hQ18
  obtain ⟨rfl, N18q, e18⟩ := hQ18
  have N18 := Fr.app N16 N18q
  show Own.Fin p e below (T18.setTop (mkF m 103 #[.val (.int p1), .val (.long q2), .second, .val (.int p3), .val (.long q4), .second, .val (.int p5), .val (.long q6), .second, .val (.int (F_w p1)), .val (.int (F_w p3)), .val (.int (F_w p5)), .val (.long (F_low q2 (F_w p1))), .second, .val (.long (F_low q4 (F_w p3))), .second, .val (.long (F_low q6 (F_w p5))), .second, .val (.ref b7), .val (.long (((F_w p1)).toInt64)), .second, .val (.long ((((F_w p1)).toInt64) + (((F_w p3)).toInt64))), .second, .unset, .unset, .unset] [(.long (F_rd (F_wr (F_wr (F_wr ([0, 0, 0, 0, 0, 0, 0, 0]) (0 : Int64) (F_low q2 (F_w p1)) (F_w p1)) ((0 : Int64) + ((F_w p1)).toInt64) (F_low q4 (F_w p3)) (F_w p3)) (((0 : Int64) + ((F_w p1)).toInt64) + ((F_w p3)).toInt64) (F_low q6 (F_w p5)) (F_w p5)) (((F_w p1)).toInt64) (F_w p3)))])) _
  refine Own.go (fun t k => XS.lload X18.here hx rfl (hb hby at_103) rfl k) ?_
  show Own.Fin p e below (T18.setTop (mkF m 105 #[.val (.int p1), .val (.long q2), .second, .val (.int p3), .val (.long q4), .second, .val (.int p5), .val (.long q6), .second, .val (.int (F_w p1)), .val (.int (F_w p3)), .val (.int (F_w p5)), .val (.long (F_low q2 (F_w p1))), .second, .val (.long (F_low q4 (F_w p3))), .second, .val (.long (F_low q6 (F_w p5))), .second, .val (.ref b7), .val (.long (((F_w p1)).toInt64)), .second, .val (.long ((((F_w p1)).toInt64) + (((F_w p3)).toInt64))), .second, .unset, .unset, .unset] [(.long (F_low q4 (F_w p3))), (.long (F_rd (F_wr (F_wr (F_wr ([0, 0, 0, 0, 0, 0, 0, 0]) (0 : Int64) (F_low q2 (F_w p1)) (F_w p1)) ((0 : Int64) + ((F_w p1)).toInt64) (F_low q4 (F_w p3)) (F_w p3)) (((0 : Int64) + ((F_w p1)).toInt64) + ((F_w p3)).toInt64) (F_low q6 (F_w p5)) (F_w p5)) (((F_w p1)).toInt64) (F_w p3)))])) _
  refine Own.go (fun t k => XS.lcmp X18.here hx rfl (hb hby at_105) rfl k) ?_
  show Own.Fin p e below (T18.setTop (mkF m 106 #[.val (.int p1), .val (.long q2), .second, .val (.int p3), .val (.long q4), .second, .val (.int p5), .val (.long q6), .second, .val (.int (F_w p1)), .val (.int (F_w p3)), .val (.int (F_w p5)), .val (.long (F_low q2 (F_w p1))), .second, .val (.long (F_low q4 (F_w p3))), .second, .val (.long (F_low q6 (F_w p5))), .second, .val (.ref b7), .val (.long (((F_w p1)).toInt64)), .second, .val (.long ((((F_w p1)).toInt64) + (((F_w p3)).toInt64))), .second, .unset, .unset, .unset] [(.int (lcmpW (F_rd (F_wr (F_wr (F_wr ([0, 0, 0, 0, 0, 0, 0, 0]) (0 : Int64) (F_low q2 (F_w p1)) (F_w p1)) ((0 : Int64) + ((F_w p1)).toInt64) (F_low q4 (F_w p3)) (F_w p3)) (((0 : Int64) + ((F_w p1)).toInt64) + ((F_w p3)).toInt64) (F_low q6 (F_w p5)) (F_w p5)) (((F_w p1)).toInt64) (F_w p3)) (F_low q4 (F_w p3))))])) _
  have hc106_18 : (lcmpW (F_rd (F_wr (F_wr (F_wr ([0, 0, 0, 0, 0, 0, 0, 0]) (0 : Int64) (F_low q2 (F_w p1)) (F_w p1)) ((0 : Int64) + ((F_w p1)).toInt64) (F_low q4 (F_w p3)) (F_w p3)) (((0 : Int64) + ((F_w p1)).toInt64) + ((F_w p3)).toInt64) (F_low q6 (F_w p5)) (F_w p5)) (((F_w p1)).toInt64) (F_w p3)) (F_low q4 (F_w p3))) = (0 : Int32) := (lw_eq _ _).mpr (own_law1 _ _ _ _ _ _)
  refine Own.go (fun t k => XS.ifNo X18.here hx rfl (hb hby at_106) rfl ((if0 _ _).trans (teq hc106_18).2) k) ?_
  show Own.Fin p e below (T18.setTop (mkF m 109 #[.val (.int p1), .val (.long q2), .second, .val (.int p3), .val (.long q4), .second, .val (.int p5), .val (.long q6), .second, .val (.int (F_w p1)), .val (.int (F_w p3)), .val (.int (F_w p5)), .val (.long (F_low q2 (F_w p1))), .second, .val (.long (F_low q4 (F_w p3))), .second, .val (.long (F_low q6 (F_w p5))), .second, .val (.ref b7), .val (.long (((F_w p1)).toInt64)), .second, .val (.long ((((F_w p1)).toInt64) + (((F_w p3)).toInt64))), .second, .unset, .unset, .unset] [])) _
  refine Own.go (fun t k => XS.iconst X18.here hx rfl (hb hby at_109) k) ?_
  show Own.Fin p e below (T18.setTop (mkF m 110 #[.val (.int p1), .val (.long q2), .second, .val (.int p3), .val (.long q4), .second, .val (.int p5), .val (.long q6), .second, .val (.int (F_w p1)), .val (.int (F_w p3)), .val (.int (F_w p5)), .val (.long (F_low q2 (F_w p1))), .second, .val (.long (F_low q4 (F_w p3))), .second, .val (.long (F_low q6 (F_w p5))), .second, .val (.ref b7), .val (.long (((F_w p1)).toInt64)), .second, .val (.long ((((F_w p1)).toInt64) + (((F_w p3)).toInt64))), .second, .unset, .unset, .unset] [(.int (1 : Int32))])) _
  refine Own.go (fun t k => XS.goto X18.here hx rfl (pc0 := 110) (pc' := 114) rfl (hb hby at_110) (by decide) (by decide) k) ?_
  show Own.Fin p e below (T18.setTop (mkF m 114 #[.val (.int p1), .val (.long q2), .second, .val (.int p3), .val (.long q4), .second, .val (.int p5), .val (.long q6), .second, .val (.int (F_w p1)), .val (.int (F_w p3)), .val (.int (F_w p5)), .val (.long (F_low q2 (F_w p1))), .second, .val (.long (F_low q4 (F_w p3))), .second, .val (.long (F_low q6 (F_w p5))), .second, .val (.ref b7), .val (.long (((F_w p1)).toInt64)), .second, .val (.long ((((F_w p1)).toInt64) + (((F_w p3)).toInt64))), .second, .unset, .unset, .unset] [(.int (1 : Int32))])) _
  refine Own.go (fun t k => XS.istore X18.here hx rfl (hb hby at_114) rfl (l' := #[.val (.int p1), .val (.long q2), .second, .val (.int p3), .val (.long q4), .second, .val (.int p5), .val (.long q6), .second, .val (.int (F_w p1)), .val (.int (F_w p3)), .val (.int (F_w p5)), .val (.long (F_low q2 (F_w p1))), .second, .val (.long (F_low q4 (F_w p3))), .second, .val (.long (F_low q6 (F_w p5))), .second, .val (.ref b7), .val (.long (((F_w p1)).toInt64)), .second, .val (.long ((((F_w p1)).toInt64) + (((F_w p3)).toInt64))), .second, .val (.int (1 : Int32)), .unset, .unset]) rfl k) ?_
  show Own.Fin p e below (T18.setTop (mkF m 116 #[.val (.int p1), .val (.long q2), .second, .val (.int p3), .val (.long q4), .second, .val (.int p5), .val (.long q6), .second, .val (.int (F_w p1)), .val (.int (F_w p3)), .val (.int (F_w p5)), .val (.long (F_low q2 (F_w p1))), .second, .val (.long (F_low q4 (F_w p3))), .second, .val (.long (F_low q6 (F_w p5))), .second, .val (.ref b7), .val (.long (((F_w p1)).toInt64)), .second, .val (.long ((((F_w p1)).toInt64) + (((F_w p3)).toInt64))), .second, .val (.int (1 : Int32)), .unset, .unset] [])) _
  refine Own.go (fun t k => XS.aload X18.here hx rfl (hb hby at_116) rfl rfl k) ?_
  show Own.Fin p e below (T18.setTop (mkF m 118 #[.val (.int p1), .val (.long q2), .second, .val (.int p3), .val (.long q4), .second, .val (.int p5), .val (.long q6), .second, .val (.int (F_w p1)), .val (.int (F_w p3)), .val (.int (F_w p5)), .val (.long (F_low q2 (F_w p1))), .second, .val (.long (F_low q4 (F_w p3))), .second, .val (.long (F_low q6 (F_w p5))), .second, .val (.ref b7), .val (.long (((F_w p1)).toInt64)), .second, .val (.long ((((F_w p1)).toInt64) + (((F_w p3)).toInt64))), .second, .val (.int (1 : Int32)), .unset, .unset] [(.ref b7)])) _
  refine Own.go (fun t k => XS.lconst X18.here hx rfl (hb hby at_118) k) ?_
  show Own.Fin p e below (T18.setTop (mkF m 119 #[.val (.int p1), .val (.long q2), .second, .val (.int p3), .val (.long q4), .second, .val (.int p5), .val (.long q6), .second, .val (.int (F_w p1)), .val (.int (F_w p3)), .val (.int (F_w p5)), .val (.long (F_low q2 (F_w p1))), .second, .val (.long (F_low q4 (F_w p3))), .second, .val (.long (F_low q6 (F_w p5))), .second, .val (.ref b7), .val (.long (((F_w p1)).toInt64)), .second, .val (.long ((((F_w p1)).toInt64) + (((F_w p3)).toInt64))), .second, .val (.int (1 : Int32)), .unset, .unset] [(.long (0 : Int64)), (.ref b7)])) _
  refine Own.go (fun t k => XS.iload X18.here hx rfl (hb hby at_119) rfl k) ?_
  show Own.Fin p e below (T18.setTop (mkF m 121 #[.val (.int p1), .val (.long q2), .second, .val (.int p3), .val (.long q4), .second, .val (.int p5), .val (.long q6), .second, .val (.int (F_w p1)), .val (.int (F_w p3)), .val (.int (F_w p5)), .val (.long (F_low q2 (F_w p1))), .second, .val (.long (F_low q4 (F_w p3))), .second, .val (.long (F_low q6 (F_w p5))), .second, .val (.ref b7), .val (.long (((F_w p1)).toInt64)), .second, .val (.long ((((F_w p1)).toInt64) + (((F_w p3)).toInt64))), .second, .val (.int (1 : Int32)), .unset, .unset] [(.int (F_w p1)), (.long (0 : Int64)), (.ref b7)])) _
  refine Own.cV X18 hx hZ hown (hw _ (List.mem_of_getElem? (i := 37) rfl)) (hw _ (List.mem_of_getElem? (i := 38) rfl)) (notFace_of_selects (args := #[]) (mvT hZ (hw _ (List.mem_of_getElem? (i := 40) rfl)))) (hw _ (List.mem_of_getElem? (i := 40) rfl)) (hw _ (List.mem_of_getElem? (i := 39) rfl)) (hw _ (List.mem_of_getElem? (i := 10) rfl)) (hw _ (List.mem_of_getElem? (i := 41) rfl)) (by decide) (rm8 l Z a0 hw [] b7 (0 : Int64) (F_w p1) c1 c2 k1 k2 (F_wr (F_wr (F_wr ([0, 0, 0, 0, 0, 0, 0, 0]) (0 : Int64) (F_low q2 (F_w p1)) (F_w p1)) ((0 : Int64) + ((F_w p1)).toInt64) (F_low q4 (F_w p3)) (F_w p3)) (((0 : Int64) + ((F_w p1)).toInt64) + ((F_w p3)).toInt64) (F_low q6 (F_w p5)) (F_w p5)) T16.heap n0 Z16 f17 FC16 V116 V216 hl3 (own_e0)) (by decide) (W := 0) (by decide) (argsL := [(.long (0 : Int64)), (.int (F_w p1))]) (rest := []) f17 (by rw [hml]; rfl) (lenOf pd_4 rfl) rfl (Nat.le_of_eq rfl) (hb hby at_121) e18 (by decide) (by decide) ?_
  intro T20 L20 v20 X20 hQ20
  obtain ⟨rfl, N20q, e20⟩ := hQ20
  have N20 := Fr.app N18 N20q
  show Own.Fin p e below (T20.setTop (mkF m 124 #[.val (.int p1), .val (.long q2), .second, .val (.int p3), .val (.long q4), .second, .val (.int p5), .val (.long q6), .second, .val (.int (F_w p1)), .val (.int (F_w p3)), .val (.int (F_w p5)), .val (.long (F_low q2 (F_w p1))), .second, .val (.long (F_low q4 (F_w p3))), .second, .val (.long (F_low q6 (F_w p5))), .second, .val (.ref b7), .val (.long (((F_w p1)).toInt64)), .second, .val (.long ((((F_w p1)).toInt64) + (((F_w p3)).toInt64))), .second, .val (.int (1 : Int32)), .unset, .unset] [(.long (F_rd (F_wr (F_wr (F_wr ([0, 0, 0, 0, 0, 0, 0, 0]) (0 : Int64) (F_low q2 (F_w p1)) (F_w p1)) ((0 : Int64) + ((F_w p1)).toInt64) (F_low q4 (F_w p3)) (F_w p3)) (((0 : Int64) + ((F_w p1)).toInt64) + ((F_w p3)).toInt64) (F_low q6 (F_w p5)) (F_w p5)) (0 : Int64) (F_w p1)))])) _
  refine Own.go (fun t k => XS.lload X20.here hx rfl (hb hby at_124) rfl k) ?_
  show Own.Fin p e below (T20.setTop (mkF m 126 #[.val (.int p1), .val (.long q2), .second, .val (.int p3), .val (.long q4), .second, .val (.int p5), .val (.long q6), .second, .val (.int (F_w p1)), .val (.int (F_w p3)), .val (.int (F_w p5)), .val (.long (F_low q2 (F_w p1))), .second, .val (.long (F_low q4 (F_w p3))), .second, .val (.long (F_low q6 (F_w p5))), .second, .val (.ref b7), .val (.long (((F_w p1)).toInt64)), .second, .val (.long ((((F_w p1)).toInt64) + (((F_w p3)).toInt64))), .second, .val (.int (1 : Int32)), .unset, .unset] [(.long (F_low q2 (F_w p1))), (.long (F_rd (F_wr (F_wr (F_wr ([0, 0, 0, 0, 0, 0, 0, 0]) (0 : Int64) (F_low q2 (F_w p1)) (F_w p1)) ((0 : Int64) + ((F_w p1)).toInt64) (F_low q4 (F_w p3)) (F_w p3)) (((0 : Int64) + ((F_w p1)).toInt64) + ((F_w p3)).toInt64) (F_low q6 (F_w p5)) (F_w p5)) (0 : Int64) (F_w p1)))])) _
  refine Own.go (fun t k => XS.lcmp X20.here hx rfl (hb hby at_126) rfl k) ?_
  show Own.Fin p e below (T20.setTop (mkF m 127 #[.val (.int p1), .val (.long q2), .second, .val (.int p3), .val (.long q4), .second, .val (.int p5), .val (.long q6), .second, .val (.int (F_w p1)), .val (.int (F_w p3)), .val (.int (F_w p5)), .val (.long (F_low q2 (F_w p1))), .second, .val (.long (F_low q4 (F_w p3))), .second, .val (.long (F_low q6 (F_w p5))), .second, .val (.ref b7), .val (.long (((F_w p1)).toInt64)), .second, .val (.long ((((F_w p1)).toInt64) + (((F_w p3)).toInt64))), .second, .val (.int (1 : Int32)), .unset, .unset] [(.int (lcmpW (F_rd (F_wr (F_wr (F_wr ([0, 0, 0, 0, 0, 0, 0, 0]) (0 : Int64) (F_low q2 (F_w p1)) (F_w p1)) ((0 : Int64) + ((F_w p1)).toInt64) (F_low q4 (F_w p3)) (F_w p3)) (((0 : Int64) + ((F_w p1)).toInt64) + ((F_w p3)).toInt64) (F_low q6 (F_w p5)) (F_w p5)) (0 : Int64) (F_w p1)) (F_low q2 (F_w p1))))])) _
  have hc127_20 : (lcmpW (F_rd (F_wr (F_wr (F_wr ([0, 0, 0, 0, 0, 0, 0, 0]) (0 : Int64) (F_low q2 (F_w p1)) (F_w p1)) ((0 : Int64) + ((F_w p1)).toInt64) (F_low q4 (F_w p3)) (F_w p3)) (((0 : Int64) + ((F_w p1)).toInt64) + ((F_w p3)).toInt64) (F_low q6 (F_w p5)) (F_w p5)) (0 : Int64) (F_w p1)) (F_low q2 (F_w p1))) = (0 : Int32) := (lw_eq _ _).mpr (own_law2 _ _ _ _ _ _)
  refine Own.go (fun t k => XS.ifNo X20.here hx rfl (hb hby at_127) rfl ((if0 _ _).trans (teq hc127_20).2) k) ?_
  show Own.Fin p e below (T20.setTop (mkF m 130 #[.val (.int p1), .val (.long q2), .second, .val (.int p3), .val (.long q4), .second, .val (.int p5), .val (.long q6), .second, .val (.int (F_w p1)), .val (.int (F_w p3)), .val (.int (F_w p5)), .val (.long (F_low q2 (F_w p1))), .second, .val (.long (F_low q4 (F_w p3))), .second, .val (.long (F_low q6 (F_w p5))), .second, .val (.ref b7), .val (.long (((F_w p1)).toInt64)), .second, .val (.long ((((F_w p1)).toInt64) + (((F_w p3)).toInt64))), .second, .val (.int (1 : Int32)), .unset, .unset] [])) _
  refine Own.go (fun t k => XS.iconst X20.here hx rfl (hb hby at_130) k) ?_
  show Own.Fin p e below (T20.setTop (mkF m 131 #[.val (.int p1), .val (.long q2), .second, .val (.int p3), .val (.long q4), .second, .val (.int p5), .val (.long q6), .second, .val (.int (F_w p1)), .val (.int (F_w p3)), .val (.int (F_w p5)), .val (.long (F_low q2 (F_w p1))), .second, .val (.long (F_low q4 (F_w p3))), .second, .val (.long (F_low q6 (F_w p5))), .second, .val (.ref b7), .val (.long (((F_w p1)).toInt64)), .second, .val (.long ((((F_w p1)).toInt64) + (((F_w p3)).toInt64))), .second, .val (.int (1 : Int32)), .unset, .unset] [(.int (1 : Int32))])) _
  refine Own.go (fun t k => XS.goto X20.here hx rfl (pc0 := 131) (pc' := 135) rfl (hb hby at_131) (by decide) (by decide) k) ?_
  show Own.Fin p e below (T20.setTop (mkF m 135 #[.val (.int p1), .val (.long q2), .second, .val (.int p3), .val (.long q4), .second, .val (.int p5), .val (.long q6), .second, .val (.int (F_w p1)), .val (.int (F_w p3)), .val (.int (F_w p5)), .val (.long (F_low q2 (F_w p1))), .second, .val (.long (F_low q4 (F_w p3))), .second, .val (.long (F_low q6 (F_w p5))), .second, .val (.ref b7), .val (.long (((F_w p1)).toInt64)), .second, .val (.long ((((F_w p1)).toInt64) + (((F_w p3)).toInt64))), .second, .val (.int (1 : Int32)), .unset, .unset] [(.int (1 : Int32))])) _
  refine Own.go (fun t k => XS.istore X20.here hx rfl (hb hby at_135) rfl (l' := #[.val (.int p1), .val (.long q2), .second, .val (.int p3), .val (.long q4), .second, .val (.int p5), .val (.long q6), .second, .val (.int (F_w p1)), .val (.int (F_w p3)), .val (.int (F_w p5)), .val (.long (F_low q2 (F_w p1))), .second, .val (.long (F_low q4 (F_w p3))), .second, .val (.long (F_low q6 (F_w p5))), .second, .val (.ref b7), .val (.long (((F_w p1)).toInt64)), .second, .val (.long ((((F_w p1)).toInt64) + (((F_w p3)).toInt64))), .second, .val (.int (1 : Int32)), .val (.int (1 : Int32)), .unset]) rfl k) ?_
  show Own.Fin p e below (T20.setTop (mkF m 137 #[.val (.int p1), .val (.long q2), .second, .val (.int p3), .val (.long q4), .second, .val (.int p5), .val (.long q6), .second, .val (.int (F_w p1)), .val (.int (F_w p3)), .val (.int (F_w p5)), .val (.long (F_low q2 (F_w p1))), .second, .val (.long (F_low q4 (F_w p3))), .second, .val (.long (F_low q6 (F_w p5))), .second, .val (.ref b7), .val (.long (((F_w p1)).toInt64)), .second, .val (.long ((((F_w p1)).toInt64) + (((F_w p3)).toInt64))), .second, .val (.int (1 : Int32)), .val (.int (1 : Int32)), .unset] [])) _
  refine Own.go (fun t k => XS.aload X20.here hx rfl (hb hby at_137) rfl rfl k) ?_
  show Own.Fin p e below (T20.setTop (mkF m 139 #[.val (.int p1), .val (.long q2), .second, .val (.int p3), .val (.long q4), .second, .val (.int p5), .val (.long q6), .second, .val (.int (F_w p1)), .val (.int (F_w p3)), .val (.int (F_w p5)), .val (.long (F_low q2 (F_w p1))), .second, .val (.long (F_low q4 (F_w p3))), .second, .val (.long (F_low q6 (F_w p5))), .second, .val (.ref b7), .val (.long (((F_w p1)).toInt64)), .second, .val (.long ((((F_w p1)).toInt64) + (((F_w p3)).toInt64))), .second, .val (.int (1 : Int32)), .val (.int (1 : Int32)), .unset] [(.ref b7)])) _
  refine Own.go (fun t k => XS.lload X20.here hx rfl (hb hby at_139) rfl k) ?_
  show Own.Fin p e below (T20.setTop (mkF m 141 #[.val (.int p1), .val (.long q2), .second, .val (.int p3), .val (.long q4), .second, .val (.int p5), .val (.long q6), .second, .val (.int (F_w p1)), .val (.int (F_w p3)), .val (.int (F_w p5)), .val (.long (F_low q2 (F_w p1))), .second, .val (.long (F_low q4 (F_w p3))), .second, .val (.long (F_low q6 (F_w p5))), .second, .val (.ref b7), .val (.long (((F_w p1)).toInt64)), .second, .val (.long ((((F_w p1)).toInt64) + (((F_w p3)).toInt64))), .second, .val (.int (1 : Int32)), .val (.int (1 : Int32)), .unset] [(.long ((((F_w p1)).toInt64) + (((F_w p3)).toInt64))), (.ref b7)])) _
  refine Own.go (fun t k => XS.iload X20.here hx rfl (hb hby at_141) rfl k) ?_
  show Own.Fin p e below (T20.setTop (mkF m 143 #[.val (.int p1), .val (.long q2), .second, .val (.int p3), .val (.long q4), .second, .val (.int p5), .val (.long q6), .second, .val (.int (F_w p1)), .val (.int (F_w p3)), .val (.int (F_w p5)), .val (.long (F_low q2 (F_w p1))), .second, .val (.long (F_low q4 (F_w p3))), .second, .val (.long (F_low q6 (F_w p5))), .second, .val (.ref b7), .val (.long (((F_w p1)).toInt64)), .second, .val (.long ((((F_w p1)).toInt64) + (((F_w p3)).toInt64))), .second, .val (.int (1 : Int32)), .val (.int (1 : Int32)), .unset] [(.int (F_w p5)), (.long ((((F_w p1)).toInt64) + (((F_w p3)).toInt64))), (.ref b7)])) _
  refine Own.cV X20 hx hZ hown (hw _ (List.mem_of_getElem? (i := 37) rfl)) (hw _ (List.mem_of_getElem? (i := 38) rfl)) (notFace_of_selects (args := #[]) (mvT hZ (hw _ (List.mem_of_getElem? (i := 40) rfl)))) (hw _ (List.mem_of_getElem? (i := 40) rfl)) (hw _ (List.mem_of_getElem? (i := 39) rfl)) (hw _ (List.mem_of_getElem? (i := 10) rfl)) (hw _ (List.mem_of_getElem? (i := 41) rfl)) (by decide) (rm8 l Z a0 hw [] b7 ((((F_w p1)).toInt64) + (((F_w p3)).toInt64)) (F_w p5) c1 c2 k1 k2 (F_wr (F_wr (F_wr ([0, 0, 0, 0, 0, 0, 0, 0]) (0 : Int64) (F_low q2 (F_w p1)) (F_w p1)) ((0 : Int64) + ((F_w p1)).toInt64) (F_low q4 (F_w p3)) (F_w p3)) (((0 : Int64) + ((F_w p1)).toInt64) + ((F_w p3)).toInt64) (F_low q6 (F_w p5)) (F_w p5)) T16.heap n0 Z16 f17 FC16 V116 V216 hl3 (own_st2 p1 p3)) (by decide) (W := 0) (by decide) (argsL := [(.long ((((F_w p1)).toInt64) + (((F_w p3)).toInt64))), (.int (F_w p5))]) (rest := []) f17 (by rw [hml]; rfl) (lenOf pd_4 rfl) rfl (Nat.le_of_eq rfl) (hb hby at_143) e20 (by decide) (by decide) ?_
  intro T22 L22 v22 X22 hQ22
  obtain ⟨rfl, N22q, e22⟩ := hQ22
  have N22 := Fr.app N20 N22q
  show Own.Fin p e below (T22.setTop (mkF m 146 #[.val (.int p1), .val (.long q2), .second, .val (.int p3), .val (.long q4), .second, .val (.int p5), .val (.long q6), .second, .val (.int (F_w p1)), .val (.int (F_w p3)), .val (.int (F_w p5)), .val (.long (F_low q2 (F_w p1))), .second, .val (.long (F_low q4 (F_w p3))), .second, .val (.long (F_low q6 (F_w p5))), .second, .val (.ref b7), .val (.long (((F_w p1)).toInt64)), .second, .val (.long ((((F_w p1)).toInt64) + (((F_w p3)).toInt64))), .second, .val (.int (1 : Int32)), .val (.int (1 : Int32)), .unset] [(.long (F_rd (F_wr (F_wr (F_wr ([0, 0, 0, 0, 0, 0, 0, 0]) (0 : Int64) (F_low q2 (F_w p1)) (F_w p1)) ((0 : Int64) + ((F_w p1)).toInt64) (F_low q4 (F_w p3)) (F_w p3)) (((0 : Int64) + ((F_w p1)).toInt64) + ((F_w p3)).toInt64) (F_low q6 (F_w p5)) (F_w p5)) ((((F_w p1)).toInt64) + (((F_w p3)).toInt64)) (F_w p5)))])) _
  refine Own.go (fun t k => XS.lload X22.here hx rfl (hb hby at_146) rfl k) ?_
  show Own.Fin p e below (T22.setTop (mkF m 148 #[.val (.int p1), .val (.long q2), .second, .val (.int p3), .val (.long q4), .second, .val (.int p5), .val (.long q6), .second, .val (.int (F_w p1)), .val (.int (F_w p3)), .val (.int (F_w p5)), .val (.long (F_low q2 (F_w p1))), .second, .val (.long (F_low q4 (F_w p3))), .second, .val (.long (F_low q6 (F_w p5))), .second, .val (.ref b7), .val (.long (((F_w p1)).toInt64)), .second, .val (.long ((((F_w p1)).toInt64) + (((F_w p3)).toInt64))), .second, .val (.int (1 : Int32)), .val (.int (1 : Int32)), .unset] [(.long (F_low q6 (F_w p5))), (.long (F_rd (F_wr (F_wr (F_wr ([0, 0, 0, 0, 0, 0, 0, 0]) (0 : Int64) (F_low q2 (F_w p1)) (F_w p1)) ((0 : Int64) + ((F_w p1)).toInt64) (F_low q4 (F_w p3)) (F_w p3)) (((0 : Int64) + ((F_w p1)).toInt64) + ((F_w p3)).toInt64) (F_low q6 (F_w p5)) (F_w p5)) ((((F_w p1)).toInt64) + (((F_w p3)).toInt64)) (F_w p5)))])) _
  refine Own.go (fun t k => XS.lcmp X22.here hx rfl (hb hby at_148) rfl k) ?_
  show Own.Fin p e below (T22.setTop (mkF m 149 #[.val (.int p1), .val (.long q2), .second, .val (.int p3), .val (.long q4), .second, .val (.int p5), .val (.long q6), .second, .val (.int (F_w p1)), .val (.int (F_w p3)), .val (.int (F_w p5)), .val (.long (F_low q2 (F_w p1))), .second, .val (.long (F_low q4 (F_w p3))), .second, .val (.long (F_low q6 (F_w p5))), .second, .val (.ref b7), .val (.long (((F_w p1)).toInt64)), .second, .val (.long ((((F_w p1)).toInt64) + (((F_w p3)).toInt64))), .second, .val (.int (1 : Int32)), .val (.int (1 : Int32)), .unset] [(.int (lcmpW (F_rd (F_wr (F_wr (F_wr ([0, 0, 0, 0, 0, 0, 0, 0]) (0 : Int64) (F_low q2 (F_w p1)) (F_w p1)) ((0 : Int64) + ((F_w p1)).toInt64) (F_low q4 (F_w p3)) (F_w p3)) (((0 : Int64) + ((F_w p1)).toInt64) + ((F_w p3)).toInt64) (F_low q6 (F_w p5)) (F_w p5)) ((((F_w p1)).toInt64) + (((F_w p3)).toInt64)) (F_w p5)) (F_low q6 (F_w p5))))])) _
  have hc149_22 : (lcmpW (F_rd (F_wr (F_wr (F_wr ([0, 0, 0, 0, 0, 0, 0, 0]) (0 : Int64) (F_low q2 (F_w p1)) (F_w p1)) ((0 : Int64) + ((F_w p1)).toInt64) (F_low q4 (F_w p3)) (F_w p3)) (((0 : Int64) + ((F_w p1)).toInt64) + ((F_w p3)).toInt64) (F_low q6 (F_w p5)) (F_w p5)) ((((F_w p1)).toInt64) + (((F_w p3)).toInt64)) (F_w p5)) (F_low q6 (F_w p5))) = (0 : Int32) := (lw_eq _ _).mpr (own_law3 _ _ _ _ _ _)
  refine Own.go (fun t k => XS.ifNo X22.here hx rfl (hb hby at_149) rfl ((if0 _ _).trans (teq hc149_22).2) k) ?_
  show Own.Fin p e below (T22.setTop (mkF m 152 #[.val (.int p1), .val (.long q2), .second, .val (.int p3), .val (.long q4), .second, .val (.int p5), .val (.long q6), .second, .val (.int (F_w p1)), .val (.int (F_w p3)), .val (.int (F_w p5)), .val (.long (F_low q2 (F_w p1))), .second, .val (.long (F_low q4 (F_w p3))), .second, .val (.long (F_low q6 (F_w p5))), .second, .val (.ref b7), .val (.long (((F_w p1)).toInt64)), .second, .val (.long ((((F_w p1)).toInt64) + (((F_w p3)).toInt64))), .second, .val (.int (1 : Int32)), .val (.int (1 : Int32)), .unset] [])) _
  refine Own.go (fun t k => XS.iconst X22.here hx rfl (hb hby at_152) k) ?_
  show Own.Fin p e below (T22.setTop (mkF m 153 #[.val (.int p1), .val (.long q2), .second, .val (.int p3), .val (.long q4), .second, .val (.int p5), .val (.long q6), .second, .val (.int (F_w p1)), .val (.int (F_w p3)), .val (.int (F_w p5)), .val (.long (F_low q2 (F_w p1))), .second, .val (.long (F_low q4 (F_w p3))), .second, .val (.long (F_low q6 (F_w p5))), .second, .val (.ref b7), .val (.long (((F_w p1)).toInt64)), .second, .val (.long ((((F_w p1)).toInt64) + (((F_w p3)).toInt64))), .second, .val (.int (1 : Int32)), .val (.int (1 : Int32)), .unset] [(.int (1 : Int32))])) _
  refine Own.go (fun t k => XS.goto X22.here hx rfl (pc0 := 153) (pc' := 157) rfl (hb hby at_153) (by decide) (by decide) k) ?_
  show Own.Fin p e below (T22.setTop (mkF m 157 #[.val (.int p1), .val (.long q2), .second, .val (.int p3), .val (.long q4), .second, .val (.int p5), .val (.long q6), .second, .val (.int (F_w p1)), .val (.int (F_w p3)), .val (.int (F_w p5)), .val (.long (F_low q2 (F_w p1))), .second, .val (.long (F_low q4 (F_w p3))), .second, .val (.long (F_low q6 (F_w p5))), .second, .val (.ref b7), .val (.long (((F_w p1)).toInt64)), .second, .val (.long ((((F_w p1)).toInt64) + (((F_w p3)).toInt64))), .second, .val (.int (1 : Int32)), .val (.int (1 : Int32)), .unset] [(.int (1 : Int32))])) _
  refine Own.go (fun t k => XS.istore X22.here hx rfl (hb hby at_157) rfl (l' := #[.val (.int p1), .val (.long q2), .second, .val (.int p3), .val (.long q4), .second, .val (.int p5), .val (.long q6), .second, .val (.int (F_w p1)), .val (.int (F_w p3)), .val (.int (F_w p5)), .val (.long (F_low q2 (F_w p1))), .second, .val (.long (F_low q4 (F_w p3))), .second, .val (.long (F_low q6 (F_w p5))), .second, .val (.ref b7), .val (.long (((F_w p1)).toInt64)), .second, .val (.long ((((F_w p1)).toInt64) + (((F_w p3)).toInt64))), .second, .val (.int (1 : Int32)), .val (.int (1 : Int32)), .val (.int (1 : Int32))]) rfl k) ?_
  show Own.Fin p e below (T22.setTop (mkF m 159 #[.val (.int p1), .val (.long q2), .second, .val (.int p3), .val (.long q4), .second, .val (.int p5), .val (.long q6), .second, .val (.int (F_w p1)), .val (.int (F_w p3)), .val (.int (F_w p5)), .val (.long (F_low q2 (F_w p1))), .second, .val (.long (F_low q4 (F_w p3))), .second, .val (.long (F_low q6 (F_w p5))), .second, .val (.ref b7), .val (.long (((F_w p1)).toInt64)), .second, .val (.long ((((F_w p1)).toInt64) + (((F_w p3)).toInt64))), .second, .val (.int (1 : Int32)), .val (.int (1 : Int32)), .val (.int (1 : Int32))] [])) _
  refine Own.go (fun t k => XS.iload X22.here hx rfl (hb hby at_159) rfl k) ?_
  show Own.Fin p e below (T22.setTop (mkF m 161 #[.val (.int p1), .val (.long q2), .second, .val (.int p3), .val (.long q4), .second, .val (.int p5), .val (.long q6), .second, .val (.int (F_w p1)), .val (.int (F_w p3)), .val (.int (F_w p5)), .val (.long (F_low q2 (F_w p1))), .second, .val (.long (F_low q4 (F_w p3))), .second, .val (.long (F_low q6 (F_w p5))), .second, .val (.ref b7), .val (.long (((F_w p1)).toInt64)), .second, .val (.long ((((F_w p1)).toInt64) + (((F_w p3)).toInt64))), .second, .val (.int (1 : Int32)), .val (.int (1 : Int32)), .val (.int (1 : Int32))] [(.int (1 : Int32))])) _
  have hc161_23 : ¬ ((1 : Int32) = (0 : Int32)) := by decide
  refine Own.go (fun t k => XS.ifNo X22.here hx rfl (hb hby at_161) rfl ((if0 _ _).trans (feq hc161_23).1) k) ?_
  show Own.Fin p e below (T22.setTop (mkF m 164 #[.val (.int p1), .val (.long q2), .second, .val (.int p3), .val (.long q4), .second, .val (.int p5), .val (.long q6), .second, .val (.int (F_w p1)), .val (.int (F_w p3)), .val (.int (F_w p5)), .val (.long (F_low q2 (F_w p1))), .second, .val (.long (F_low q4 (F_w p3))), .second, .val (.long (F_low q6 (F_w p5))), .second, .val (.ref b7), .val (.long (((F_w p1)).toInt64)), .second, .val (.long ((((F_w p1)).toInt64) + (((F_w p3)).toInt64))), .second, .val (.int (1 : Int32)), .val (.int (1 : Int32)), .val (.int (1 : Int32))] [])) _
  refine Own.go (fun t k => XS.iload X22.here hx rfl (hb hby at_164) rfl k) ?_
  show Own.Fin p e below (T22.setTop (mkF m 166 #[.val (.int p1), .val (.long q2), .second, .val (.int p3), .val (.long q4), .second, .val (.int p5), .val (.long q6), .second, .val (.int (F_w p1)), .val (.int (F_w p3)), .val (.int (F_w p5)), .val (.long (F_low q2 (F_w p1))), .second, .val (.long (F_low q4 (F_w p3))), .second, .val (.long (F_low q6 (F_w p5))), .second, .val (.ref b7), .val (.long (((F_w p1)).toInt64)), .second, .val (.long ((((F_w p1)).toInt64) + (((F_w p3)).toInt64))), .second, .val (.int (1 : Int32)), .val (.int (1 : Int32)), .val (.int (1 : Int32))] [(.int (1 : Int32))])) _
  have hc166_24 : ¬ ((1 : Int32) = (0 : Int32)) := by decide
  refine Own.go (fun t k => XS.ifNo X22.here hx rfl (hb hby at_166) rfl ((if0 _ _).trans (feq hc166_24).1) k) ?_
  show Own.Fin p e below (T22.setTop (mkF m 169 #[.val (.int p1), .val (.long q2), .second, .val (.int p3), .val (.long q4), .second, .val (.int p5), .val (.long q6), .second, .val (.int (F_w p1)), .val (.int (F_w p3)), .val (.int (F_w p5)), .val (.long (F_low q2 (F_w p1))), .second, .val (.long (F_low q4 (F_w p3))), .second, .val (.long (F_low q6 (F_w p5))), .second, .val (.ref b7), .val (.long (((F_w p1)).toInt64)), .second, .val (.long ((((F_w p1)).toInt64) + (((F_w p3)).toInt64))), .second, .val (.int (1 : Int32)), .val (.int (1 : Int32)), .val (.int (1 : Int32))] [])) _
  refine Own.go (fun t k => XS.iload X22.here hx rfl (hb hby at_169) rfl k) ?_
  show Own.Fin p e below (T22.setTop (mkF m 171 #[.val (.int p1), .val (.long q2), .second, .val (.int p3), .val (.long q4), .second, .val (.int p5), .val (.long q6), .second, .val (.int (F_w p1)), .val (.int (F_w p3)), .val (.int (F_w p5)), .val (.long (F_low q2 (F_w p1))), .second, .val (.long (F_low q4 (F_w p3))), .second, .val (.long (F_low q6 (F_w p5))), .second, .val (.ref b7), .val (.long (((F_w p1)).toInt64)), .second, .val (.long ((((F_w p1)).toInt64) + (((F_w p3)).toInt64))), .second, .val (.int (1 : Int32)), .val (.int (1 : Int32)), .val (.int (1 : Int32))] [(.int (1 : Int32))])) _
  have hc171_25 : ¬ ((1 : Int32) = (0 : Int32)) := by decide
  refine Own.go (fun t k => XS.ifNo X22.here hx rfl (hb hby at_171) rfl ((if0 _ _).trans (feq hc171_25).1) k) ?_
  show Own.Fin p e below (T22.setTop (mkF m 174 #[.val (.int p1), .val (.long q2), .second, .val (.int p3), .val (.long q4), .second, .val (.int p5), .val (.long q6), .second, .val (.int (F_w p1)), .val (.int (F_w p3)), .val (.int (F_w p5)), .val (.long (F_low q2 (F_w p1))), .second, .val (.long (F_low q4 (F_w p3))), .second, .val (.long (F_low q6 (F_w p5))), .second, .val (.ref b7), .val (.long (((F_w p1)).toInt64)), .second, .val (.long ((((F_w p1)).toInt64) + (((F_w p3)).toInt64))), .second, .val (.int (1 : Int32)), .val (.int (1 : Int32)), .val (.int (1 : Int32))] [])) _
  refine Own.go (fun t k => XS.iconst X22.here hx rfl (hb hby at_174) k) ?_
  show Own.Fin p e below (T22.setTop (mkF m 175 #[.val (.int p1), .val (.long q2), .second, .val (.int p3), .val (.long q4), .second, .val (.int p5), .val (.long q6), .second, .val (.int (F_w p1)), .val (.int (F_w p3)), .val (.int (F_w p5)), .val (.long (F_low q2 (F_w p1))), .second, .val (.long (F_low q4 (F_w p3))), .second, .val (.long (F_low q6 (F_w p5))), .second, .val (.ref b7), .val (.long (((F_w p1)).toInt64)), .second, .val (.long ((((F_w p1)).toInt64) + (((F_w p3)).toInt64))), .second, .val (.int (1 : Int32)), .val (.int (1 : Int32)), .val (.int (1 : Int32))] [(.int (1 : Int32))])) _
  refine Own.go (fun t k => XS.goto X22.here hx rfl (pc0 := 175) (pc' := 179) rfl (hb hby at_175) (by decide) (by decide) k) ?_
  show Own.Fin p e below (T22.setTop (mkF m 179 #[.val (.int p1), .val (.long q2), .second, .val (.int p3), .val (.long q4), .second, .val (.int p5), .val (.long q6), .second, .val (.int (F_w p1)), .val (.int (F_w p3)), .val (.int (F_w p5)), .val (.long (F_low q2 (F_w p1))), .second, .val (.long (F_low q4 (F_w p3))), .second, .val (.long (F_low q6 (F_w p5))), .second, .val (.ref b7), .val (.long (((F_w p1)).toInt64)), .second, .val (.long ((((F_w p1)).toInt64) + (((F_w p3)).toInt64))), .second, .val (.int (1 : Int32)), .val (.int (1 : Int32)), .val (.int (1 : Int32))] [(.int (1 : Int32))])) _
  refine Own.retN X22 hx Bd.notSynchronized (t := .boolean) Bd.returns (by simp) (hb hby at_179) (by decide) (by decide) ?_
  exact ⟨rfl, N22⟩
set_option maxRecDepth 65536 in
set_option maxHeartbeats 40000000 in
theorem comes_1 {Post : Tables → Env → Array Value → State → Outcome → State → Prop} (hpost : ∀ tb e args s v u, (limb_1_1.after args s (.returned v) u = true ∧ limb_1_2.after args s (.returned v) u = true ∧ True) → FrameEnd s (.returned v) u (Jvm.fieldLocs frame_1_writes args s ++ Jvm.arrayLocs frame_1_arrays args s ++ Jvm.staticLocs frame_1_statics s) 16 128 → Post tb e args s (.returned v) u) :
    ArmFor flags0 classFile x code maxLocals ret World_1 tables_1 room_1 Calls_1 rest_1 Pre_1 Post := by
  intro l hfl _ _ p e ha hc hk s m args below hf hA hF happ hP
  obtain ⟨hcalls, hrest, hpre⟩ := hP
  obtain ⟨-, -, -, hnamed, -, -, -, hat⟩ := (Spec.applies_iff hf).mp happ
  obtain ⟨hg, hn⟩ := and_e (Cond.before_iff.mp (show (Jvm.Cond.and given_1 narrow_1).before args s = true from hpre))
  obtain ⟨g1, g2⟩ := and_e hg
  obtain ⟨g3, g4⟩ := and_e g2
  obtain ⟨g5, g6⟩ := and_e g4
  obtain ⟨g7, g8⟩ := and_e g6
  obtain ⟨g9, g10⟩ := and_e g8
  obtain ⟨g11, g12⟩ := and_e g10
  obtain ⟨w0, w1, w2, w3, w4, w5, rfl⟩ : ∃ w0 w1 w2 w3 w4 w5 : Value, args = #[w0, w1, w2, w3, w4, w5] := by
    have hs : args.size = 6 := by simpa [Cond.value, given_1] using g1
    obtain ⟨L⟩ := args
    match L, hs with
    | [w0, w1, w2, w3, w4, w5], _ => exact ⟨w0, w1, w2, w3, w4, w5, rfl⟩
  have hw := fun d (hd : d ∈ tables_1) => atoms_spec (ws := Jvm.Cond.code x code maxLocals ret :: tables_1) hat d (List.mem_cons_of_mem _ hd)
  have hfit : Fit s := fun {y c} hc i hi => by
    obtain ⟨ha, rfl⟩ := Array.getElem?_eq_some_iff.mp hc
    have q := List.all_eq_true.mp ((Array.all_eq_true_iff_forall_mem.mp hF) _ (Array.getElem_mem ha)) i (List.mem_range.mpr hi)
    simpa [Array.getElem?_eq_getElem hi] using q
  obtain ⟨i0, ei0⟩ := is_v g3
  obtain rfl : w0 = (.int i0) := Option.some.inj ei0
  obtain ⟨i1, ei1⟩ := isL_v g5
  obtain rfl : w1 = (.long i1) := Option.some.inj ei1
  obtain ⟨i2, ei2⟩ := is_v g7
  obtain rfl : w2 = (.int i2) := Option.some.inj ei2
  obtain ⟨i3, ei3⟩ := isL_v g9
  obtain rfl : w3 = (.long i3) := Option.some.inj ei3
  obtain ⟨i4, ei4⟩ := is_v g11
  obtain rfl : w4 = (.int i4) := Option.some.inj ei4
  obtain ⟨i5, ei5⟩ := isL_v g12
  obtain rfl : w5 = (.long i5) := Option.some.inj ei5
  obtain ⟨n, o, h1, h2, h3, _, L, rfl, ⟨rfl, N⟩, hq⟩ := rm0 l s _ hw tables_1 i0 i1 i2 i3 i4 i5 s.heap s.heap.size (Nat.le_refl _)  p e ha hc hk s m _ below hf ((Spec.applies_iff_loose hf).mp happ).1 ⟨rfl, State.Warmed39.refl s, rfl⟩ trivial
  refine ⟨n, _, h1, h2, h3, hpost _ _ _ _ _ _ ⟨Cond.after_iff.mpr rfl, Cond.after_iff.mpr (eq_i res_at (Term.int_eval (1)) rfl), trivial⟩ ⟨hq.1, hq.2.1, (hq.2.2.sift fun y hy => Or.inr (N y hy)).mono (by decide) (by decide)⟩⟩
theorem main_1_1 : Claimed_1_1 := comes_1 fun _ _ _ _ _ _ h hF => ⟨h.1, hF⟩
theorem main_1_2 : Claimed_1_2 := comes_1 fun _ _ _ _ _ _ h hF => ⟨h.2.1, hF⟩
end Jvm.Pilot.@@N@@
namespace Jvm.Pilot.@@N@@
open Jvm Jvm.ClassFile Sem Op Lib Jvm.Free Jvm.Stand Jvm.Pilot.@@N@@.Jvm.D
/-! MADE BY PROGRAM (witnessworld.py) out of the Statement's table words and the real class files: 11 classes; the members and pool entries that the words name. The judged class is class 1, her method 3. -/
namespace start1
open Jvm.ClassFile
def u (s : String) : CpInfo := .utf8 (stringToUtf16 s)
/-- a pool by its gaps: so many unusable entries, then the entry; so many at the end -/
def gap : Nat → List CpInfo → List CpInfo
  | 0, r => r
  | n + 1, r => .unusable :: gap n r
def poolList (es : List (Nat × CpInfo)) (last : Nat) : List CpInfo := es.foldr (fun e r => gap e.1 (e.2 :: r)) (gap last [])
def pool (es : List (Nat × CpInfo)) (last : Nat) : Array CpInfo := ⟨poolList es last⟩
def fileOf (pool : Array CpInfo) (this : Nat) (attrs : Array Attribute := #[]) (ms : Array MethodInfo := #[]) (fl : Nat := 33) (sup : Nat := 0) (ifs : Array Nat := #[]) (fds : Array FieldInfo := #[]) : ClassFile where
  minorVersion := 0
  majorVersion := 65
  constantPool := pool
  accessFlags := fl
  thisClass := this
  superClass := sup
  interfaces := ifs
  fields := fds
  methods := ms
  attributes := attrs
def plain (name : String) (sup : Option ClassId) : Class where
  name := name
  kind := .ordinary
  loader := none
  accessFlags := 33
  super := sup
  interfaces := #[]
  cf := none
  fields := #[]
  methods := #[]
  instanceTypes := #[]
  staticTypes := #[]
  resolved := #[]
  callSites := []
  init := .initialized
  statics := none
  mirror := none

def pool0 : Array CpInfo := pool [(5, u "<init>"), (0, u "()V"), (1, .class_ 10), (1, u "java/lang/Object")] 113

def k0c0 : Code := { maxStack := 0, maxLocals := 1, code := object_method_1_code, exceptionTable := #[], attributes := #[] }
def k0m0 : Method := { name := "<init>", desc := "()V", sig := { parameters := [], returnType := none }, accessFlags := 1, code := some k0c0 }
/-- java/lang/Object -/
def k0 : Class := { plain "java/lang/Object" none with
  accessFlags := 33
  interfaces := #[]
  cf := some (fileOf pool0 8 #[] #[{ accessFlags := 1, nameIndex := 5, descriptorIndex := 6, attributes := #[] }] 33 0 #[] #[])
  fields := #[]
  methods := #[k0m0]
  instanceTypes := #[]
  staticTypes := #[]
  resolved := Array.replicate 124 none
  statics := none }

def pool1 : Array CpInfo := pool [(2, .class_ 4), (0, .nameAndType 5 6), (0, u "java/lang/Object"), (0, u "<init>"), (0, u "()V"), (0, .integer 2147483647), (0, .methodref 9 10), (0, .class_ 11), (0, .nameAndType 12 13), (0, u "org/laneweave/lanes/BitRowReadPinLaw"), (0, u "width"), (0, u "(I)I"), (0, .methodref 9 15), (0, .nameAndType 16 17), (0, u "low"), (0, u "(JI)J"), (0, .class_ 19), (0, u "org/laneweave/lanes/BitRow"), (0, .methodref 18 3), (0, .methodref 18 22), (0, .nameAndType 23 24), (0, u "write"), (0, u "(JI)V"), (0, .methodref 18 26), (0, .nameAndType 27 17), (0, u "read"), (3, u "law"), (0, u "(IJIJIJ)Z")] 2

def k1m0 : Method := { name := "<init>", desc := "()V", sig := { parameters := [], returnType := none }, accessFlags := 2, code := none }
def k1c1 : Code := { maxStack := 2, maxLocals := 1, code := method_2_code, exceptionTable := #[], attributes := #[] }
def k1m1 : Method := { name := "width", desc := "(I)I", sig := { parameters := [.int], returnType := some .int }, accessFlags := 10, code := some k1c1 }
def k1c2 : Code := { maxStack := 3, maxLocals := 4, code := method_3_code, exceptionTable := #[], attributes := #[] }
def k1m2 : Method := { name := "low", desc := "(JI)J", sig := { parameters := [.long, .int], returnType := some .long }, accessFlags := 10, code := some k1c2 }
def k1c3 : Code := { maxStack := 4, maxLocals := 26, code := code, exceptionTable := #[], attributes := #[] }
def k1m3 : Method := { name := "law", desc := "(IJIJIJ)Z", sig := { parameters := [.int, .long, .int, .long, .int, .long], returnType := some .boolean }, accessFlags := 9, code := some k1c3 }
/-- org/laneweave/lanes/BitRowReadPinLaw -/
def k1 : Class := { plain "org/laneweave/lanes/BitRowReadPinLaw" (some 0) with
  accessFlags := 49
  interfaces := #[]
  cf := some (fileOf pool1 9 #[] #[{ accessFlags := 2, nameIndex := 5, descriptorIndex := 6, attributes := #[] }, { accessFlags := 10, nameIndex := 12, descriptorIndex := 13, attributes := #[] }, { accessFlags := 10, nameIndex := 16, descriptorIndex := 17, attributes := #[] }, { accessFlags := 9, nameIndex := 31, descriptorIndex := 32, attributes := #[] }] 49 2 #[] #[])
  fields := #[]
  methods := #[k1m0, k1m1, k1m2, k1m3]
  instanceTypes := #[]
  staticTypes := #[]
  resolved := Array.replicate 35 none
  statics := none }

def pool2 : Array CpInfo := pool [(1, .class_ 2), (0, u "org/laneweave/lanes/BitRow"), (0, .class_ 4), (0, u "[J"), (0, .methodref 1 6), (0, .nameAndType 7 8), (0, u "<init>"), (0, u "([[JJ)V"), (0, .methodref 10 11), (0, .class_ 12), (0, .nameAndType 7 13), (0, u "java/lang/Object"), (0, u "()V"), (0, .fieldref 1 15), (0, .nameAndType 16 17), (0, u "chunks"), (0, u "[[J"), (0, .fieldref 1 19), (0, .nameAndType 20 21), (0, u "end"), (0, u "J"), (0, .methodref 1 23), (0, .nameAndType 24 25), (0, u "or"), (0, u "(JJ)V"), (2, .methodref 1 29), (0, .nameAndType 30 31), (0, u "word"), (0, u "(J)J"), (18, u "CHUNK_SHIFT"), (0, u "I"), (2, u "CHUNK"), (4, u "write"), (0, u "(JI)V"), (1, u "read"), (0, u "(JI)J")] 4

def k2c0 : Code := { maxStack := 5, maxLocals := 1, code := prog_10_method_1_code, exceptionTable := #[], attributes := #[] }
def k2m0 : Method := { name := "<init>", desc := "()V", sig := { parameters := [], returnType := none }, accessFlags := 0, code := some k2c0 }
def k2c1 : Code := { maxStack := 3, maxLocals := 4, code := prog_10_method_2_code, exceptionTable := #[], attributes := #[] }
def k2m1 : Method := { name := "<init>", desc := "([[JJ)V", sig := { parameters := [(.array (.array .long)), .long], returnType := none }, accessFlags := 2, code := some k2c1 }
def k2c2 : Code := { maxStack := 7, maxLocals := 7, code := prog_10_method_4_code, exceptionTable := #[], attributes := #[] }
def k2m2 : Method := { name := "write", desc := "(JI)V", sig := { parameters := [.long, .int], returnType := none }, accessFlags := 0, code := some k2c2 }
def k2c3 : Code := { maxStack := 7, maxLocals := 9, code := prog_10_method_5_code, exceptionTable := #[], attributes := #[] }
def k2m3 : Method := { name := "read", desc := "(JI)J", sig := { parameters := [.long, .int], returnType := some .long }, accessFlags := 0, code := some k2c3 }
def k2c4 : Code := { maxStack := 4, maxLocals := 3, code := prog_10_method_7_code, exceptionTable := #[], attributes := #[] }
def k2m4 : Method := { name := "word", desc := "(J)J", sig := { parameters := [.long], returnType := some .long }, accessFlags := 2, code := some k2c4 }
def k2c5 : Code := { maxStack := 6, maxLocals := 7, code := prog_10_method_8_code, exceptionTable := #[], attributes := #[] }
def k2m5 : Method := { name := "or", desc := "(JJ)V", sig := { parameters := [.long, .long], returnType := none }, accessFlags := 2, code := some k2c5 }
/-- org/laneweave/lanes/BitRow -/
def k2 : Class := { plain "org/laneweave/lanes/BitRow" (some 0) with
  accessFlags := 48
  interfaces := #[]
  cf := some (fileOf pool2 1 #[] #[{ accessFlags := 0, nameIndex := 7, descriptorIndex := 13, attributes := #[] }, { accessFlags := 2, nameIndex := 7, descriptorIndex := 8, attributes := #[] }, { accessFlags := 0, nameIndex := 59, descriptorIndex := 60, attributes := #[] }, { accessFlags := 0, nameIndex := 62, descriptorIndex := 63, attributes := #[] }, { accessFlags := 2, nameIndex := 30, descriptorIndex := 31, attributes := #[] }, { accessFlags := 2, nameIndex := 24, descriptorIndex := 25, attributes := #[] }] 48 10 #[] #[{ accessFlags := 26, nameIndex := 50, descriptorIndex := 51, attributes := #[] }, { accessFlags := 26, nameIndex := 54, descriptorIndex := 51, attributes := #[] }, { accessFlags := 2, nameIndex := 16, descriptorIndex := 17, attributes := #[] }, { accessFlags := 2, nameIndex := 20, descriptorIndex := 21, attributes := #[] }])
  fields := #[{ name := "CHUNK_SHIFT", type := .int, accessFlags := 26, slot := 0, constantValue := 0 }, { name := "CHUNK", type := .int, accessFlags := 26, slot := 1, constantValue := 0 }, { name := "chunks", type := (.array (.array .long)), accessFlags := 2, slot := 0, constantValue := 0 }, { name := "end", type := .long, accessFlags := 2, slot := 1, constantValue := 0 }]
  methods := #[k2m0, k2m1, k2m2, k2m3, k2m4, k2m5]
  instanceTypes := #[(.array (.array .long)), .long]
  staticTypes := #[.int, .int]
  resolved := Array.replicate 68 none
  statics := none }

def pool3 : Array CpInfo := pool [(1, u "java/lang/Cloneable"), (0, .class_ 1), (0, u "java/lang/Object"), (0, .class_ 3)] 3

/-- java/lang/Cloneable -/
def k3 : Class := { plain "java/lang/Cloneable" (some 0) with
  accessFlags := 1537
  interfaces := #[]
  cf := some (fileOf pool3 2 #[] #[] 1537 4 #[] #[])
  fields := #[]
  methods := #[]
  instanceTypes := #[]
  staticTypes := #[]
  resolved := Array.replicate 8 none
  statics := none }

def pool4 : Array CpInfo := pool [(1, u "java/io/Serializable"), (0, .class_ 1), (0, u "java/lang/Object"), (0, .class_ 3)] 3

/-- java/io/Serializable -/
def k4 : Class := { plain "java/io/Serializable" (some 0) with
  accessFlags := 1537
  interfaces := #[]
  cf := some (fileOf pool4 2 #[] #[] 1537 4 #[] #[])
  fields := #[]
  methods := #[]
  instanceTypes := #[]
  staticTypes := #[]
  resolved := Array.replicate 8 none
  statics := none }

/-- the primitive byte -/
def k5 : Class := { plain "byte" none with kind := .primitive 'B', accessFlags := 0x411 }
/-- [B -/
def k6 : Class := { plain "[B" (some 0) with kind := .array 5 .byte, interfaces := #[3, 4], accessFlags := 1041 }

/-- the primitive int -/
def k7 : Class := { plain "int" none with kind := .primitive 'I', accessFlags := 0x411 }
/-- [I -/
def k8 : Class := { plain "[I" (some 0) with kind := .array 7 .int, interfaces := #[3, 4], accessFlags := 1041 }

/-- the primitive long -/
def k9 : Class := { plain "long" none with kind := .primitive 'J', accessFlags := 0x411 }
/-- [J -/
def k10 : Class := { plain "[J" (some 0) with kind := .array 9 .long, interfaces := #[3, 4], accessFlags := 1041 }
def k11 : Class := { plain "[[J" (some 0) with kind := .array 10 (.array .long), interfaces := #[3, 4], accessFlags := 1041 }

def heap : Heap := #[]
def classes : Array Class := #[k0, k1, k2, k3, k4, k5, k6, k7, k8, k9, k10, k11]
def interned : List (Array UInt16 × Addr) := []
def slotsUsed : Nat := 0
def theMethod : MethodId := ⟨1, 3⟩
def args0 : Array Value := #[.int 5, .long 300, .int 1, .long 2, .int 4, .long 5]
def aboutOver (below : List Frame) : State where
  vm := { classes := classes, interned := interned.toArray }
  heap := heap
  slotsUsed := slotsUsed
  threads := #[{ frames := .invoking theMethod args0 :: below }]
def below0 : List Frame := [.native { method := ⟨0, 0⟩, args := #[] }]
def about1 : State := aboutOver below0
def p0 : Program := .bare "" "" ""
def e0 : Env := launch0.env 0 0 0
theorem w_frames : about1.frames = Frame.invoking theMethod args0 :: below0 := rfl
set_option maxRecDepth 65536 in
theorem w_args : argsFit about1.vm theMethod args0 = true := by decide +kernel
set_option maxRecDepth 65536 in
theorem w_heap : heapFits about1 = true := by decide +kernel
set_option maxRecDepth 65536 in
theorem w_runnable : about1.curStatus? = some .runnable := by decide +kernel
set_option maxRecDepth 65536 in
theorem w_alone : about1.alone = true := by decide +kernel
set_option maxRecDepth 65536 in
theorem w_named : about1.methodNamed? x = some theMethod := by decide +kernel
set_option maxRecDepth 65536 in
theorem w_hears : about1.hears theMethod below0 = true := by decide +kernel
set_option maxRecDepth 65536 in
theorem w_ripe : about1.ripe theMethod args0 below0 = true := by decide +kernel
theorem w_running : about1.status = .running := rfl
set_option maxRecDepth 65536 in
theorem w_room : about1.hasRoom e0.platform room_1 = true :=
  launch0.hasRoom_least _ room_1 (by decide +kernel) (by decide +kernel) (by decide +kernel) (by decide +kernel) (by decide +kernel) (by decide +kernel)
theorem allAtoms_all (ts : List Jvm.Cond) (a : Array Jvm.Value) (st : Jvm.State) : (allAtoms ts).before a st = ts.all (fun c => c.before a st) := by
  induction ts with
  | nil => rfl
  | cons c t ih =>
    show (Jvm.Cond.and c (allAtoms t)).before a st = _
    rw [Jvm.Cond.before_and, ih, List.all_cons]
def words1 : List Jvm.Cond := Jvm.Cond.code x code maxLocals ret :: tables_1
/-- a 'code' word, met by the world's own term for the bytes: nothing is compared byte by byte -/
theorem code_word {y : MethodName} {bytes : ByteArray} {mx : Nat} {rt : Option FieldType} {a : Array Value} {s : State} {m : MethodId} {meth : Method} {c : Code} (h1 : s.methodNamed? y = some m) (h2 : s.vm.method? m = some meth) (h3 : meth.code = some c) (h4 : c.code = bytes)
    (h5 : (c.maxLocals == mx && c.exceptionTable.isEmpty && decide (c.maxStack ≤ mostOperands) && decide (meth.sig.returnType = rt) && !meth.locks && decide (parseMethodDescriptor y.desc = some meth.sig)) = true) : (Jvm.Cond.code y bytes mx rt).before a s = true := by
  simp only [Bool.and_eq_true, beq_iff_eq, Bool.not_eq_true', decide_eq_true_eq] at h5
  obtain ⟨⟨⟨⟨⟨g1, g2⟩, g3⟩, g4⟩, g5⟩, g6⟩ := h5
  simp [Cond.before, Cond.holds, Cond.value, h1, h2, h3, h4, g1, g2, g3, g4, g5, g6]
def isCode : Jvm.Cond → Bool
  | .code _ _ _ _ => true
  | _ => false
theorem all_split {L : List Jvm.Cond} {P : Jvm.Cond → Bool} (h1 : L.all (fun c => isCode c || P c) = true) (h2 : ∀ c ∈ L.filter isCode, P c = true) : L.all P = true := by
  refine List.all_eq_true.mpr fun c hc => ?_
  have h := List.all_eq_true.mp h1 c hc
  rcases Bool.eq_false_or_eq_true (isCode c) with hi | hi
  · exact h2 c (List.mem_filter.mpr ⟨hc, hi⟩)
  · simpa [hi] using h
set_option maxRecDepth 65536 in
theorem w_c0 : (Jvm.Cond.code x code maxLocals ret).before args0 about1 = true := code_word (m := ⟨1, 3⟩) (meth := k1m3) (c := k1c3) (by decide +kernel) rfl rfl rfl (by decide +kernel)
set_option maxRecDepth 65536 in
theorem w_c1 : (Jvm.Cond.code ({ cls := "org/laneweave/lanes/BitRowReadPinLaw", name := "width", desc := "(I)I" } : Jvm.MethodName) method_2_code (1 : Nat) (Option.some Jvm.ClassFile.FieldType.int)).before args0 about1 = true := code_word (m := ⟨1, 1⟩) (meth := k1m1) (c := k1c1) (by decide +kernel) rfl rfl rfl (by decide +kernel)
set_option maxRecDepth 65536 in
theorem w_c2 : (Jvm.Cond.code ({ cls := "org/laneweave/lanes/BitRowReadPinLaw", name := "low", desc := "(JI)J" } : Jvm.MethodName) method_3_code (4 : Nat) (Option.some Jvm.ClassFile.FieldType.long)).before args0 about1 = true := code_word (m := ⟨1, 2⟩) (meth := k1m2) (c := k1c2) (by decide +kernel) rfl rfl rfl (by decide +kernel)
set_option maxRecDepth 65536 in
theorem w_c3 : (Jvm.Cond.code ({ cls := "org/laneweave/lanes/BitRow", name := "<init>", desc := "()V" } : Jvm.MethodName) prog_10_method_1_code (1 : Nat) (Option.none : Option Jvm.ClassFile.FieldType)).before args0 about1 = true := code_word (m := ⟨2, 0⟩) (meth := k2m0) (c := k2c0) (by decide +kernel) rfl rfl rfl (by decide +kernel)
set_option maxRecDepth 65536 in
theorem w_c4 : (Jvm.Cond.code ({ cls := "org/laneweave/lanes/BitRow", name := "<init>", desc := "([[JJ)V" } : Jvm.MethodName) prog_10_method_2_code (4 : Nat) (Option.none : Option Jvm.ClassFile.FieldType)).before args0 about1 = true := code_word (m := ⟨2, 1⟩) (meth := k2m1) (c := k2c1) (by decide +kernel) rfl rfl rfl (by decide +kernel)
set_option maxRecDepth 65536 in
theorem w_c5 : (Jvm.Cond.code ({ cls := "java/lang/Object", name := "<init>", desc := "()V" } : Jvm.MethodName) object_method_1_code (1 : Nat) (Option.none : Option Jvm.ClassFile.FieldType)).before args0 about1 = true := code_word (m := ⟨0, 0⟩) (meth := k0m0) (c := k0c0) (by decide +kernel) rfl rfl rfl (by decide +kernel)
set_option maxRecDepth 65536 in
theorem w_c6 : (Jvm.Cond.code ({ cls := "org/laneweave/lanes/BitRow", name := "write", desc := "(JI)V" } : Jvm.MethodName) prog_10_method_4_code (7 : Nat) (Option.none : Option Jvm.ClassFile.FieldType)).before args0 about1 = true := code_word (m := ⟨2, 2⟩) (meth := k2m2) (c := k2c2) (by decide +kernel) rfl rfl rfl (by decide +kernel)
set_option maxRecDepth 65536 in
theorem w_c7 : (Jvm.Cond.code ({ cls := "org/laneweave/lanes/BitRow", name := "or", desc := "(JJ)V" } : Jvm.MethodName) prog_10_method_8_code (7 : Nat) (Option.none : Option Jvm.ClassFile.FieldType)).before args0 about1 = true := code_word (m := ⟨2, 5⟩) (meth := k2m5) (c := k2c5) (by decide +kernel) rfl rfl rfl (by decide +kernel)
set_option maxRecDepth 65536 in
theorem w_c8 : (Jvm.Cond.code ({ cls := "org/laneweave/lanes/BitRow", name := "read", desc := "(JI)J" } : Jvm.MethodName) prog_10_method_5_code (9 : Nat) (Option.some Jvm.ClassFile.FieldType.long)).before args0 about1 = true := code_word (m := ⟨2, 3⟩) (meth := k2m3) (c := k2c3) (by decide +kernel) rfl rfl rfl (by decide +kernel)
set_option maxRecDepth 65536 in
theorem w_c9 : (Jvm.Cond.code ({ cls := "org/laneweave/lanes/BitRow", name := "word", desc := "(J)J" } : Jvm.MethodName) prog_10_method_7_code (3 : Nat) (Option.some Jvm.ClassFile.FieldType.long)).before args0 about1 = true := code_word (m := ⟨2, 4⟩) (meth := k2m4) (c := k2c4) (by decide +kernel) rfl rfl rfl (by decide +kernel)
def codes1 : List Jvm.Cond := [Jvm.Cond.code x code maxLocals ret, Jvm.Cond.code ({ cls := "org/laneweave/lanes/BitRowReadPinLaw", name := "width", desc := "(I)I" } : Jvm.MethodName) method_2_code (1 : Nat) (Option.some Jvm.ClassFile.FieldType.int), Jvm.Cond.code ({ cls := "org/laneweave/lanes/BitRowReadPinLaw", name := "low", desc := "(JI)J" } : Jvm.MethodName) method_3_code (4 : Nat) (Option.some Jvm.ClassFile.FieldType.long), Jvm.Cond.code ({ cls := "org/laneweave/lanes/BitRow", name := "<init>", desc := "()V" } : Jvm.MethodName) prog_10_method_1_code (1 : Nat) (Option.none : Option Jvm.ClassFile.FieldType), Jvm.Cond.code ({ cls := "org/laneweave/lanes/BitRow", name := "<init>", desc := "([[JJ)V" } : Jvm.MethodName) prog_10_method_2_code (4 : Nat) (Option.none : Option Jvm.ClassFile.FieldType), Jvm.Cond.code ({ cls := "java/lang/Object", name := "<init>", desc := "()V" } : Jvm.MethodName) object_method_1_code (1 : Nat) (Option.none : Option Jvm.ClassFile.FieldType), Jvm.Cond.code ({ cls := "org/laneweave/lanes/BitRow", name := "write", desc := "(JI)V" } : Jvm.MethodName) prog_10_method_4_code (7 : Nat) (Option.none : Option Jvm.ClassFile.FieldType), Jvm.Cond.code ({ cls := "org/laneweave/lanes/BitRow", name := "or", desc := "(JJ)V" } : Jvm.MethodName) prog_10_method_8_code (7 : Nat) (Option.none : Option Jvm.ClassFile.FieldType), Jvm.Cond.code ({ cls := "org/laneweave/lanes/BitRow", name := "read", desc := "(JI)J" } : Jvm.MethodName) prog_10_method_5_code (9 : Nat) (Option.some Jvm.ClassFile.FieldType.long), Jvm.Cond.code ({ cls := "org/laneweave/lanes/BitRow", name := "word", desc := "(J)J" } : Jvm.MethodName) prog_10_method_7_code (3 : Nat) (Option.some Jvm.ClassFile.FieldType.long)]
set_option maxRecDepth 65536 in
theorem codes_eq : words1.filter isCode = codes1 := rfl
theorem w_codes : ∀ c ∈ words1.filter isCode, c.before args0 about1 = true := by
  rw [codes_eq]
  intro c hc
  simp only [codes1, List.mem_cons, List.not_mem_nil, or_false] at hc
  rcases hc with rfl | rfl | rfl | rfl | rfl | rfl | rfl | rfl | rfl | rfl
  · exact w_c0
  · exact w_c1
  · exact w_c2
  · exact w_c3
  · exact w_c4
  · exact w_c5
  · exact w_c6
  · exact w_c7
  · exact w_c8
  · exact w_c9
set_option maxRecDepth 65536 in
theorem w_t1 : (words1.take 24).all (fun c => isCode c || c.before args0 about1) = true := by decide +kernel
set_option maxRecDepth 65536 in
theorem w_t2 : (words1.drop 24).all (fun c => isCode c || c.before args0 about1) = true := by decide +kernel
theorem w_tables : (allAtoms (Jvm.Cond.code x code maxLocals ret :: tables_1)).before args0 about1 = true := by
  rw [allAtoms_all]
  show words1.all (fun c => c.before args0 about1) = true
  refine all_split ?_ w_codes
  rw [← List.take_append_drop 24 words1, List.all_append, w_t1, w_t2]
  rfl
set_option maxRecDepth 65536 in
theorem w_case : (Jvm.Cond.and given_1 narrow_1).before args0 about1 = true := by decide +kernel
theorem w_applies : (headSpec (Jvm.Cond.code x code maxLocals ret :: tables_1) room_1).applies x e0.platform about1 = true :=
  (Spec.applies_iff w_frames).mpr ⟨w_running, w_runnable, w_alone, w_named, w_hears, w_ripe, w_room, w_tables⟩
theorem atStart : AtStart classFile x code maxLocals ret World_1 tables_1 room_1 Calls_1 rest_1 Pre_1 launch0 p0 e0 about1 theMethod args0 below0 :=
  ⟨lists_1, trivial, launch0.admits_env _ _ _, launch0.least_env, fairChoices_fair.cas, fairChoices_fair.clock, w_frames, w_args, w_heap, w_applies, trivial, trivial, w_case⟩
end start1
theorem witness_1 : WitnessClaimed_1 := ⟨start1.p0, start1.e0, start1.about1, start1.theMethod, start1.args0, start1.below0, start1.atStart⟩
end Jvm.Pilot.@@N@@
