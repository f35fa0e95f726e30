import JvmDerived
import JvmDerived.Pilot.@@N@@Statement
import JvmDerived.Pilot.@@N@@Code
set_option linter.unusedVariables false
set_option linter.unusedSimpArgs false
namespace Own
open Jvm Jvm.ClassFile Sem Op Lib Jvm.Stand Jvm.Free Jvm.LawKit Jvm.RoadKit
def Fin (p : Program) (e : Env) (below : List Frame) (G : State) (Q : Outcome → State → Prop) : Prop :=
  ∃ s₂ o, Steps p.tables e below G s₂ ∧ s₂.status = .running ∧ Ended s₂ below o ∧ Q o s₂
def Post (s : State) (K : Option Value → Heap → List Loc → Prop) (cc ss : Nat) (o : Outcome) (U : State) : Prop :=
  ∃ v L, o = .returned v ∧ K v U.heap L ∧ FrameEnd s o U L cc ss
theorem go {p : Program} {e : Env} {below : List Frame} {G G' : State} {Q : Outcome → State → Prop} (h : ∀ t, Steps p.tables e below G' t → Steps p.tables e below G t) (k : Fin p e below G' Q) : Fin p e below G Q := by
  obtain ⟨s₂, o, h1, h2⟩ := k
  exact ⟨s₂, o, h _ h1, h2⟩
theorem start {p : Program} {e : Env} {below : List Frame} {T : State} {g g' : JFrame} {Q : Outcome → State → Prop} (q : g = g') (k : Fin p e below (T.setTop g') Q) : Fin p e below (T.setTop g) Q := q ▸ k
theorem clamp_lt {j z : Int32} {n : Nat} (hj : ¬ j < 0 ∧ j < z) (hz : z.toNatClampNeg = n) : j.toNatClampNeg < n := by
  subst hz
  have h1 := hj.1; have h2 := hj.2
  rw [Int32.lt_iff_toInt_lt] at h1 h2
  have h0 : (0 : Int32).toInt = 0 := by decide
  rw [h0] at h1
  show j.toInt.toNat < z.toInt.toNat
  omega
section A
variable {p : Program} {l : Launch} {e : Env} {R : Room} {s : State} {m : MethodId} {args : Array Value} {below : List Frame} {meth : Method} {c : Code} {T : State} {locs : List Loc} {cells slots : Nat}
theorem retAny (X : Stand p l e R s m args below meth c T locs cells slots) {v : Option Value} (hlk : meth.locks = false) (hv : meth.sig.returnType = none → v = none) {g : JFrame}
    (hstep : ∀ fs, (∀ (f : JFrame) (acts : List Action), f.method = m → f.locked = none → f.entered = [] → (doReturn e (T.setTop f) acts v).1 = T.setFrames fs) → Steps p.tables e below (T.setTop g) (T.setFrames fs))
    {K : Option Value → Heap → List Loc → Prop} {cc ss : Nat} (hc : cells ≤ cc) (hs : slots ≤ ss) (hk : K v T.heap locs) : Fin p e below (T.setTop g) (Post s K cc ss) := by
  obtain ⟨fs, hr, hrun, hended, hW, hsame⟩ := X.leave (v := v) hv hlk
  exact ⟨_, _, hstep fs hr, hrun, hended, _, _, rfl, hk, ⟨_, rfl⟩, hW, hsame.mono hc hs⟩
theorem retI (X : Stand p l e R s m args below meth c T locs cells slots) (hx : p.tables.exec = Jvm.exec) (hlk : meth.locks = false) (hret : meth.sig.returnType = some .int) {pc : Nat} {Ls : Array Slot} {z : Int32} {rest : List Value} (hd : decode c.code pc = .ok (.ireturn, 1))
    {K : Option Value → Heap → List Loc → Prop} {cc ss : Nat} (hc : cells ≤ cc) (hs : slots ≤ ss) (hk : K (some (.int z)) T.heap locs) : Fin p e below (T.setTop (mkF m pc Ls (.int z :: rest))) (Post s K cc ss) := by
  refine retAny X (v := some (.int z)) hlk (fun h => by rw [hret] at h; cases h) (fun fs hl => ?_) hc hs hk
  have hm' : T.vm.method? m = some meth := X.method'
  have hn : narrow .int (.int z) = .int z := rfl
  show Steps p.tables e below (T.setTop { method := m, pc := pc, locals := Ls, stack := _ :: rest, locked := none }) _
  jvm_step X.here [X.here.top, hx, hd, hm', hret, hn]
  first | (intro acts; rw [hl _ acts rfl rfl rfl]) | rw [hl _ _ rfl rfl rfl]
  exact Steps.refl _
theorem retN (X : Stand p l e R s m args below meth c T locs cells slots) (hx : p.tables.exec = Jvm.exec) (hlk : meth.locks = false) {t : FieldType} (hret : meth.sig.returnType = some t) (ht : t = .boolean ∨ t = .byte ∨ t = .char ∨ t = .short) {pc : Nat} {Ls : Array Slot} {z : Int32} {rest : List Value} (hd : decode c.code pc = .ok (.ireturn, 1))
    {K : Option Value → Heap → List Loc → Prop} {cc ss : Nat} (hc : cells ≤ cc) (hs : slots ≤ ss) (hk : K (some (.int (nar t z))) T.heap locs) : Fin p e below (T.setTop (mkF m pc Ls (.int z :: rest))) (Post s K cc ss) :=
  retAny X (v := some (.int (nar t z))) hlk (fun h => by rw [hret] at h; cases h) (fun fs hl => RoadKit.retN X hx hret ht hd hl) hc hs hk
theorem retJ (X : Stand p l e R s m args below meth c T locs cells slots) (hx : p.tables.exec = Jvm.exec) (hlk : meth.locks = false) (hret : meth.sig.returnType = some .long) {pc : Nat} {Ls : Array Slot} {z : Int64} {rest : List Value} (hd : decode c.code pc = .ok (.lreturn, 1))
    {K : Option Value → Heap → List Loc → Prop} {cc ss : Nat} (hc : cells ≤ cc) (hs : slots ≤ ss) (hk : K (some (.long z)) T.heap locs) : Fin p e below (T.setTop (mkF m pc Ls (.long z :: rest))) (Post s K cc ss) := by
  refine retAny X (v := some (.long z)) hlk (fun h => by rw [hret] at h; cases h) (fun fs hl => ?_) hc hs hk
  have hm' : T.vm.method? m = some meth := X.method'
  show Steps p.tables e below (T.setTop { method := m, pc := pc, locals := Ls, stack := _ :: rest, locked := none }) _
  jvm_step X.here [X.here.top, hx, hd, hm', hret, narrow]
  first | (intro acts; rw [hl _ acts rfl rfl rfl]) | rw [hl _ _ rfl rfl rfl]
  exact Steps.refl _
theorem retV (X : Stand p l e R s m args below meth c T locs cells slots) (hx : p.tables.exec = Jvm.exec) (hlk : meth.locks = false) (hret : meth.sig.returnType = none) {pc : Nat} {Ls : Array Slot} (hd : decode c.code pc = .ok (.return_, 1))
    {K : Option Value → Heap → List Loc → Prop} {cc ss : Nat} (hc : cells ≤ cc) (hs : slots ≤ ss) (hk : K none T.heap locs) : Fin p e below (T.setTop (mkF m pc Ls [])) (Post s K cc ss) :=
  retAny X (v := none) hlk (fun _ => rfl) (fun fs hl => X.returnOut hx hret hd hl) hc hs hk
theorem cS {Z : State} {a0 : Array Value} {h : Heap} (X : Stand p l e R s m args below meth c T locs cells slots) (hx : p.tables.exec = Jvm.exec) (hZ : Z.Warmed39 s.vm) {own : String} {index : Nat} {y : MethodName} {bytes : ByteArray} {maxL : Nat} {ret : Option FieldType} {rm : Room} {as' : Array Value} {Q : Option Value → Heap → List Loc → Prop}
    (hown : s.vm.findClass own = some m.cls) (w1 : (Cond.methodLink own index y).before a0 Z = true) (w2 : (Cond.static y).before a0 Z = true) (w3 : (Cond.initialized y.cls).before a0 Z = true) (w4 : (Cond.code y bytes maxL ret).before a0 Z = true)
    (hy : y.cls ≠ "java/lang/invoke/MethodHandle" ∧ y.cls ≠ "java/lang/invoke/VarHandle")
    (hM : MetFree l y (head1 [Cond.code y bytes maxL ret] rm) (fun a U => a = as' ∧ Z.Warmed39 U.vm ∧ U.heap = h) (fun _ _ _ _ _ => True) (fun _ U o U' => ∃ v L, o = .returned v ∧ Q v U'.heap L ∧ FrameEnd U o U' L rm.cells rm.slots))
    (hf : rm.frames + 1 ≤ R.frames) {W : Nat} (hl : W + (maxL + 11) + rm.locals ≤ R.locals) {pc : Nat} {ls : Array Slot} {argsL rest : List Value} (hsize : ls.size = c.maxLocals) (hlen : ∀ sig, parseMethodDescriptor y.desc = some sig → argsL.length = sig.parameters.length)
    (has : argsL.toArray = as') (hW : (rest.map fun v => v.category).sum ≤ W) (hd : decode c.code pc = .ok (.invokestatic index, 3)) (eT : T.heap = h) (hcc : cells + rm.cells ≤ R.cells) (hss : slots + rm.slots ≤ R.slots) {P : Outcome → State → Prop}
    (k : ∀ T' L v, Stand p l e R s m args below meth c T' (locs ++ L) (cells + rm.cells) (slots + rm.slots) → Q v T'.heap L → Fin p e below (T'.setTop (mkF m (pc + 3) ls (v.toList ++ rest))) P) :
    Fin p e below (T.setTop (mkF m pc ls (argsL.reverse ++ rest))) P := by
  obtain ⟨v, _, ⟨T', L', k', n'⟩, -, X', ⟨L, hQ, e1, e2, e3⟩, st⟩ := Jvm.LawKit.callS X hx (y := y) hown (mvT hZ w1) (mvT hZ w2) (mvT hZ w3) (mvT hZ w4) hy (backOf (W := W) hM hZ w4 w3 hf hl) (g := mkF m pc ls (argsL.reverse ++ rest)) rfl hsize (argsL := argsL) (rest := rest) hlen rfl
    (by show 2 * 0 + _ ≤ _; omega) hd (fun _ _ => ⟨has, eT, hcc, hss⟩)
  dsimp only [Pt.U, Pt.locs, Pt.cells, Pt.slots] at X' e1 e2 e3 st hQ
  subst e1 e2 e3
  exact go st (k T' L v X' hQ)
theorem cI {Z : State} {a0 : Array Value} {h : Heap} (X : Stand p l e R s m args below meth c T locs cells slots) (hx : p.tables.exec = Jvm.exec) (hZ : Z.Warmed39 s.vm) {own : String} {index : Nat} {y : MethodName} {bytes : ByteArray} {maxL : Nat} {rm : Room} {as' : Array Value} {Q : Option Value → Heap → List Loc → Prop}
    (hy1 : y.name = "<init>") (hown : s.vm.findClass own = some m.cls) (w1 : (Cond.methodLink own index y).before a0 Z = true) (w2 : (Cond.instanceMethod y).before a0 Z = true) (w3 : (Cond.initialized y.cls).before a0 Z = true) (w4 : (Cond.code y bytes maxL none).before a0 Z = true)
    (hy : y.cls ≠ "java/lang/invoke/MethodHandle" ∧ y.cls ≠ "java/lang/invoke/VarHandle")
    (hM : MetFree l y (head1 [Cond.code y bytes maxL none] rm) (fun a U => a = as' ∧ Z.Warmed39 U.vm ∧ U.heap = h) (fun _ _ _ _ _ => True) (fun _ U o U' => ∃ v L, o = .returned v ∧ Q v U'.heap L ∧ FrameEnd U o U' L rm.cells rm.slots))
    (hf : rm.frames + 1 ≤ R.frames) {W : Nat} (hl : W + (maxL + 11) + rm.locals ≤ R.locals) {pc : Nat} {ls : Array Slot} {a : Addr} {argsL rest : List Value} (hsize : ls.size = c.maxLocals) (hlen : ∀ sig, parseMethodDescriptor y.desc = some sig → argsL.length = sig.parameters.length)
    (has : (Value.ref a :: argsL).toArray = as') (hW : (rest.map fun v => v.category).sum ≤ W) (hd : decode c.code pc = .ok (.invokespecial index, 3)) (eT : T.heap = h) (hcc : cells + rm.cells ≤ R.cells) (hss : slots + rm.slots ≤ R.slots) {P : Outcome → State → Prop}
    (k : ∀ T' L v, Stand p l e R s m args below meth c T' (locs ++ L) (cells + rm.cells) (slots + rm.slots) → Q v T'.heap L → Fin p e below (T'.setTop (mkF m (pc + 3) ls (v.toList ++ rest))) P) :
    Fin p e below (T.setTop (mkF m pc ls (argsL.reverse ++ .ref a :: rest))) P := by
  obtain ⟨v, _, ⟨T', L', k', n'⟩, -, X', ⟨L, hQ, e1, e2, e3⟩, st⟩ := X.specialBack hx (y := y) hy1 hown (mvT hZ w1) (mvT hZ w2) (mvT hZ w4) hy (backOf (W := W) hM hZ w4 w3 hf hl) (g := mkF m pc ls (argsL.reverse ++ .ref a :: rest)) rfl hsize (Steps.refl _) (a := a) (argsL := argsL) (rest := rest) hlen rfl
    (by show 2 * 0 + _ ≤ _; omega) hd (fun _ _ => ⟨has, eT, hcc, hss⟩)
  dsimp only [Pt.U, Pt.locs, Pt.cells, Pt.slots] at X' e1 e2 e3 st hQ
  subst e1 e2 e3
  exact go (fun t kt => st.trans kt) (k T' L v X' hQ)
theorem cV {Z : State} {a0 : Array Value} {h : Heap} (X : Stand p l e R s m args below meth c T locs cells slots) (hx : p.tables.exec = Jvm.exec) (hZ : Z.Warmed39 s.vm) {own C : String} {index : Nat} {y z : MethodName} {bytes : ByteArray} {maxL : Nat} {ret : Option FieldType} {rm : Room} {as' : Array Value} {Q : Option Value → Heap → List Loc → Prop}
    (hown : s.vm.findClass own = some m.cls) (w1 : (Cond.methodLink own index y).before a0 Z = true) (w2 : (Cond.declares y).before a0 Z = true) (hnf : NotFace s y) (w5 : (Cond.selects C y z).before a0 Z = true) (w6 : (Cond.instanceMethod z).before a0 Z = true) (w3 : (Cond.initialized z.cls).before a0 Z = true) (w4 : (Cond.code z bytes maxL ret).before a0 Z = true)
    (hy : y.cls ≠ "java/lang/invoke/MethodHandle" ∧ y.cls ≠ "java/lang/invoke/VarHandle")
    (hM : MetFree l z (head1 [Cond.code z bytes maxL ret] rm) (fun a U => a = as' ∧ Z.Warmed39 U.vm ∧ U.heap = h) (fun _ _ _ _ _ => True) (fun _ U o U' => ∃ v L, o = .returned v ∧ Q v U'.heap L ∧ FrameEnd U o U' L rm.cells rm.slots))
    (hf : rm.frames + 1 ≤ R.frames) {W : Nat} (hl : W + (maxL + 11) + rm.locals ≤ R.locals) {pc : Nat} {ls : Array Slot} {a : Addr} {argsL rest : List Value} (E : Exa Z h a C) (hsize : ls.size = c.maxLocals) (hlen : ∀ sig, parseMethodDescriptor y.desc = some sig → argsL.length = sig.parameters.length)
    (has : (Value.ref a :: argsL).toArray = as') (hW : (rest.map fun v => v.category).sum ≤ W) (hd : decode c.code pc = .ok (.invokevirtual index, 3)) (eT : T.heap = h) (hcc : cells + rm.cells ≤ R.cells) (hss : slots + rm.slots ≤ R.slots) {P : Outcome → State → Prop}
    (k : ∀ T' L v, Stand p l e R s m args below meth c T' (locs ++ L) (cells + rm.cells) (slots + rm.slots) → Q v T'.heap L → Fin p e below (T'.setTop (mkF m (pc + 3) ls (v.toList ++ rest))) P) :
    Fin p e below (T.setTop (mkF m pc ls (argsL.reverse ++ .ref a :: rest))) P := by
  obtain ⟨cq, kq, qa, qb, qc⟩ := isOf hZ eT E
  obtain ⟨v, _, ⟨T', L', k', n'⟩, -, X', ⟨L, hQ, e1, e2, e3⟩, st⟩ := X.virtualBack hx (y := y) (z := z) hown (mvT hZ w1) (mvT hZ w2) hnf (mvT hZ w5) (mvT hZ w6) hy (backOf (W := W) hM hZ w4 w3 hf hl) qa qc (g := mkF m pc ls (argsL.reverse ++ .ref a :: rest)) rfl hsize (Steps.refl _) (argsL := argsL) (rest := rest) hlen rfl
    (by show 2 * 0 + _ ≤ _; omega) hd (fun _ _ => ⟨has, eT, hcc, hss⟩)
  dsimp only [Pt.U, Pt.locs, Pt.cells, Pt.slots] at X' e1 e2 e3 st hQ
  subst e1 e2 e3
  exact go (fun t kt => st.trans kt) (k T' L v X' hQ)
theorem newA {Z : State} {a0 : Array Value} {h : Heap} (X : Stand p l e R s m args below meth c T locs cells slots) (hx : p.tables.exec = Jvm.exec) (hZ : Z.Warmed39 s.vm) {aty : ArrayType} (w : (Cond.arrayClass (newarray.typeOf aty)).before a0 Z = true) (eT : T.heap = h)
    {pc : Nat} {ls : Array Slot} {n : Int32} {rest : List Value} (hd : decode c.code pc = .ok (.newarray aty, 2)) (hn : ¬ n < 0) (cap : Nat) (hcap : n.toNatClampNeg ≤ cap) (hb : cap * 8 ≤ 536870912) (hc : cells + 1 ≤ R.cells) (hl : slots + cap ≤ R.slots) {P : Outcome → State → Prop}
    (k : ∀ T' h' b kA, Stand p l e R s m args below meth c T' locs (cells + 1) (slots + cap) → T'.heap = h' → Ext h h' → b = h.size → Arv Z h' b kA (newarray.typeOf aty) n [] (defaultValue (newarray.typeOf aty)) → Fin p e below (T'.setTop (mkF m (pc + 2) ls (.ref b :: rest))) P) :
    Fin p e below (T.setTop (mkF m pc ls (.int n :: rest))) P := by
  obtain ⟨T', h', kA, X', e', E', A', st⟩ := newP X hx hZ w eT (g := mkF m pc ls (.int n :: rest)) rfl hd rfl hn hcap hb hc hl
  exact go st (k T' h' _ kA X' e' E' rfl (Arv.new A' hn))
theorem stI {Z : State} {h : Heap} {a : Addr} {kA : ClassId} {z : Int32} {vs : List Value} {dv : Value} (X : Stand p l e R s m args below meth c T locs cells slots) (hx : p.tables.exec = Jvm.exec) (hZ : Z.Warmed39 s.vm) (eT : T.heap = h) (V : Arv Z h a kA .int z vs dv)
    {pc : Nat} {ls : Array Slot} {j x : Int32} {rest : List Value} (hd : decode c.code pc = .ok (.iastore, 1)) (hj : ¬ j < 0 ∧ j < z) (i : Nat) (hi : j.toNatClampNeg = i) (hlen : i < vs.length) {P : Outcome → State → Prop}
    (k : ∀ T' h', Stand p l e R s m args below meth c T' (locs ++ [⟨a, j.toNatClampNeg⟩]) cells slots → T'.heap = h' → Wr h h' a j.toNatClampNeg (.int x) → Arv Z h' a kA .int z (vs.set i (.int x)) dv → Fin p e below (T'.setTop (mkF m (pc + 1) ls rest)) P) :
    Fin p e below (T.setTop (mkF m pc ls (.int x :: .int j :: .ref a :: rest))) P := by
  obtain ⟨cl, Ar, q, S, N, H, G⟩ := V
  obtain ⟨T', h', X', e', W', st⟩ := RoadKit.stI X hx hZ eT Ar (j := j) (inb_of S hj) (g := mkF m pc ls (.int x :: .int j :: .ref a :: rest)) rfl rfl hd
  exact go st (k T' h' X' e' W' (Arv.set Ar q S N H G rfl W' i hi hlen))
theorem stJ {Z : State} {h : Heap} {a : Addr} {kA : ClassId} {z : Int32} {vs : List Value} {dv : Value} (X : Stand p l e R s m args below meth c T locs cells slots) (hx : p.tables.exec = Jvm.exec) (hZ : Z.Warmed39 s.vm) (eT : T.heap = h) (V : Arv Z h a kA .long z vs dv)
    {pc : Nat} {ls : Array Slot} {j : Int32} {x : Int64} {rest : List Value} (hd : decode c.code pc = .ok (.lastore, 1)) (hj : ¬ j < 0 ∧ j < z) (i : Nat) (hi : j.toNatClampNeg = i) (hlen : i < vs.length) {P : Outcome → State → Prop}
    (k : ∀ T' h', Stand p l e R s m args below meth c T' (locs ++ [⟨a, j.toNatClampNeg⟩]) cells slots → T'.heap = h' → Wr h h' a j.toNatClampNeg (.long x) → Arv Z h' a kA .long z (vs.set i (.long x)) dv → Fin p e below (T'.setTop (mkF m (pc + 1) ls rest)) P) :
    Fin p e below (T.setTop (mkF m pc ls (.long x :: .int j :: .ref a :: rest))) P := by
  obtain ⟨cl, Ar, q, S, N, H, G⟩ := V
  obtain ⟨T', h', X', e', W', st⟩ := RoadKit.stJ X hx hZ eT Ar (j := j) (inb_of S hj) (g := mkF m pc ls (.long x :: .int j :: .ref a :: rest)) rfl rfl hd
  exact go st (k T' h' X' e' W' (Arv.set Ar q S N H G rfl W' i hi hlen))
theorem stB {Z : State} {h : Heap} {a : Addr} {kA : ClassId} {z : Int32} {vs : List Value} {dv : Value} (X : Stand p l e R s m args below meth c T locs cells slots) (hx : p.tables.exec = Jvm.exec) (hZ : Z.Warmed39 s.vm) (eT : T.heap = h) (V : Arv Z h a kA .byte z vs dv)
    {pc : Nat} {ls : Array Slot} {j x : Int32} {rest : List Value} (hd : decode c.code pc = .ok (.bastore, 1)) (hj : ¬ j < 0 ∧ j < z) (i : Nat) (hi : j.toNatClampNeg = i) (hlen : i < vs.length) {P : Outcome → State → Prop}
    (k : ∀ T' h', Stand p l e R s m args below meth c T' (locs ++ [⟨a, j.toNatClampNeg⟩]) cells slots → T'.heap = h' → Wr h h' a j.toNatClampNeg (.int (nar .byte x)) → Arv Z h' a kA .byte z (vs.set i (.int (nar .byte x))) dv → Fin p e below (T'.setTop (mkF m (pc + 1) ls rest)) P) :
    Fin p e below (T.setTop (mkF m pc ls (.int x :: .int j :: .ref a :: rest))) P := by
  obtain ⟨cl, Ar, q, S, N, H, G⟩ := V
  obtain ⟨T', h', X', e', W', st⟩ := RoadKit.stB X hx hZ eT Ar (j := j) (inb_of S hj) (g := mkF m pc ls (.int x :: .int j :: .ref a :: rest)) rfl rfl hd
  exact go st (k T' h' X' e' W' (Arv.set Ar q S N H G (fits_nar_byte _) W' i hi hlen))
theorem stC {Z : State} {h : Heap} {a : Addr} {kA : ClassId} {z : Int32} {vs : List Value} {dv : Value} (X : Stand p l e R s m args below meth c T locs cells slots) (hx : p.tables.exec = Jvm.exec) (hZ : Z.Warmed39 s.vm) (eT : T.heap = h) (V : Arv Z h a kA .char z vs dv)
    {pc : Nat} {ls : Array Slot} {j x : Int32} {rest : List Value} (hd : decode c.code pc = .ok (.castore, 1)) (hj : ¬ j < 0 ∧ j < z) (i : Nat) (hi : j.toNatClampNeg = i) (hlen : i < vs.length) {P : Outcome → State → Prop}
    (k : ∀ T' h', Stand p l e R s m args below meth c T' (locs ++ [⟨a, j.toNatClampNeg⟩]) cells slots → T'.heap = h' → Wr h h' a j.toNatClampNeg (.int (nar .char x)) → Arv Z h' a kA .char z (vs.set i (.int (nar .char x))) dv → Fin p e below (T'.setTop (mkF m (pc + 1) ls rest)) P) :
    Fin p e below (T.setTop (mkF m pc ls (.int x :: .int j :: .ref a :: rest))) P := by
  obtain ⟨cl, Ar, q, S, N, H, G⟩ := V
  obtain ⟨T', h', X', e', W', st⟩ := RoadKit.stC X hx hZ eT Ar (j := j) (inb_of S hj) (g := mkF m pc ls (.int x :: .int j :: .ref a :: rest)) rfl rfl hd
  exact go st (k T' h' X' e' W' (Arv.set Ar q S N H G (fits_nar_char _) W' i hi hlen))
theorem alen {Z : State} {h : Heap} {a : Addr} {kA : ClassId} {ty : FieldType} {z : Int32} {vs : List Value} {dv : Value} (X : Stand p l e R s m args below meth c T locs cells slots) (hx : p.tables.exec = Jvm.exec) (hZ : Z.Warmed39 s.vm) (eT : T.heap = h) (V : Arv Z h a kA ty z vs dv)
    {pc : Nat} {ls : Array Slot} {rest : List Value} (hd : decode c.code pc = .ok (.arraylength, 1)) {P : Outcome → State → Prop} (k : Fin p e below (T.setTop (mkF m (pc + 1) ls (.int z :: rest))) P) :
    Fin p e below (T.setTop (mkF m pc ls (.ref a :: rest))) P := by
  obtain ⟨cl, Ar, q, S, N, H, G⟩ := V
  refine go (fun t kt => X.arraylength hx (by rw [eT]; exact Ar.1) (State.isArrayOf_alike hZ.alike Ar.2.1) (g := mkF m pc ls (.ref a :: rest)) rfl rfl hd t kt) ?_
  rw [len_of S N]
  exact k
theorem arv_at {Z : State} {h : Heap} {a : Addr} {kA : ClassId} {ty : FieldType} {z : Int32} {vs : List Value} {dv : Value} (V : Arv Z h a kA ty z vs dv) {j : Int32} (hj : ¬ j < 0 ∧ j < z) :
    ∃ cl, Arr Z h a cl ty ∧ ¬ (j < 0 ∨ cl.slots.size ≤ j.toNatClampNeg) ∧ cl.slots[j.toNatClampNeg]? = some (vs.getD j.toNatClampNeg dv) ∧ fits ty (vs.getD j.toNatClampNeg dv) = true := by
  obtain ⟨cl, Ar, q, S, N, H, G⟩ := V
  have hin := inb_of S hj
  have hlt : j.toNatClampNeg < cl.slots.size := Nat.lt_of_not_le fun q => hin (Or.inr q)
  exact ⟨cl, Ar, hin, H _ hlt, G _ hlt⟩
theorem ldI {Z : State} {h : Heap} {a : Addr} {kA : ClassId} {z : Int32} {vs : List Value} {dv : Value} (X : Stand p l e R s m args below meth c T locs cells slots) (hx : p.tables.exec = Jvm.exec) (hZ : Z.Warmed39 s.vm) (eT : T.heap = h) (V : Arv Z h a kA .int z vs dv)
    {pc : Nat} {ls : Array Slot} {j : Int32} {rest : List Value} (hd : decode c.code pc = .ok (.iaload, 1)) (hj : ¬ j < 0 ∧ j < z) {P : Outcome → State → Prop} (k : ∀ x, vs.getD j.toNatClampNeg dv = .int x → Fin p e below (T.setTop (mkF m (pc + 1) ls (.int x :: rest))) P) :
    Fin p e below (T.setTop (mkF m pc ls (.int j :: .ref a :: rest))) P := by
  obtain ⟨cl, Ar, hin, hat, hf⟩ := arv_at V hj
  obtain ⟨x, hx'⟩ := fit_I hf (Or.inl rfl)
  refine go (fun t kt => X.iaload hx (j := j) (v := .int x) (by rw [eT]; exact Ar.1) (State.isArrayOf_alike hZ.alike Ar.2.1) Ar.2.2 hin (by rw [hat, hx']) (g := mkF m pc ls (.int j :: .ref a :: rest)) rfl rfl hd t kt) (k x hx')
theorem ldJ {Z : State} {h : Heap} {a : Addr} {kA : ClassId} {z : Int32} {vs : List Value} {dv : Value} (X : Stand p l e R s m args below meth c T locs cells slots) (hx : p.tables.exec = Jvm.exec) (hZ : Z.Warmed39 s.vm) (eT : T.heap = h) (V : Arv Z h a kA .long z vs dv)
    {pc : Nat} {ls : Array Slot} {j : Int32} {rest : List Value} (hd : decode c.code pc = .ok (.laload, 1)) (hj : ¬ j < 0 ∧ j < z) {P : Outcome → State → Prop} (k : ∀ x, vs.getD j.toNatClampNeg dv = .long x → Fin p e below (T.setTop (mkF m (pc + 1) ls (.long x :: rest))) P) :
    Fin p e below (T.setTop (mkF m pc ls (.int j :: .ref a :: rest))) P := by
  obtain ⟨cl, Ar, hin, hat, hf⟩ := arv_at V hj
  obtain ⟨x, hx'⟩ := fit_J hf
  refine go (fun t kt => X.laload hx (j := j) (v := .long x) (by rw [eT]; exact Ar.1) (State.isArrayOf_alike hZ.alike Ar.2.1) Ar.2.2 hin (by rw [hat, hx']) (g := mkF m pc ls (.int j :: .ref a :: rest)) rfl rfl hd t kt) (k x hx')
theorem ldB {Z : State} {h : Heap} {a : Addr} {kA : ClassId} {z : Int32} {vs : List Value} {dv : Value} (X : Stand p l e R s m args below meth c T locs cells slots) (hx : p.tables.exec = Jvm.exec) (hZ : Z.Warmed39 s.vm) (eT : T.heap = h) (V : Arv Z h a kA .byte z vs dv)
    {pc : Nat} {ls : Array Slot} {j : Int32} {rest : List Value} (hd : decode c.code pc = .ok (.baload, 1)) (hj : ¬ j < 0 ∧ j < z) {P : Outcome → State → Prop} (k : ∀ x, vs.getD j.toNatClampNeg dv = .int x → Fin p e below (T.setTop (mkF m (pc + 1) ls (.int x :: rest))) P) :
    Fin p e below (T.setTop (mkF m pc ls (.int j :: .ref a :: rest))) P := by
  obtain ⟨cl, Ar, hin, hat, hf⟩ := arv_at V hj
  obtain ⟨x, hx'⟩ := fit_I hf (Or.inr (Or.inr (Or.inl rfl)))
  refine go (fun t kt => X.baloadBytes hx (j := j) (v := .int x) (by rw [eT]; exact Ar.1) (State.isArrayOf_alike hZ.alike Ar.2.1) Ar.2.2 hin (by rw [hat, hx']) (g := mkF m pc ls (.int j :: .ref a :: rest)) rfl rfl hd t kt) (k x hx')
theorem ldC {Z : State} {h : Heap} {a : Addr} {kA : ClassId} {z : Int32} {vs : List Value} {dv : Value} (X : Stand p l e R s m args below meth c T locs cells slots) (hx : p.tables.exec = Jvm.exec) (hZ : Z.Warmed39 s.vm) (eT : T.heap = h) (V : Arv Z h a kA .char z vs dv)
    {pc : Nat} {ls : Array Slot} {j : Int32} {rest : List Value} (hd : decode c.code pc = .ok (.caload, 1)) (hj : ¬ j < 0 ∧ j < z) {P : Outcome → State → Prop} (k : ∀ x, vs.getD j.toNatClampNeg dv = .int x → Fin p e below (T.setTop (mkF m (pc + 1) ls (.int x :: rest))) P) :
    Fin p e below (T.setTop (mkF m pc ls (.int j :: .ref a :: rest))) P := by
  obtain ⟨cl, Ar, hin, hat, hf⟩ := arv_at V hj
  obtain ⟨x, hx'⟩ := fit_I hf (Or.inr (Or.inr (Or.inr (Or.inl rfl))))
  refine go (fun t kt => X.caload hx (j := j) (v := .int x) (by rw [eT]; exact Ar.1) (State.isArrayOf_alike hZ.alike Ar.2.1) Ar.2.2 hin (by rw [hat, hx']) (g := mkF m pc ls (.int j :: .ref a :: rest)) rfl rfl hd t kt) (k x hx')
theorem ldR {Z : State} {h : Heap} {a : Addr} {kA : ClassId} {ty : FieldType} {z : Int32} {vs : List Value} {dv : Value} (X : Stand p l e R s m args below meth c T locs cells slots) (hx : p.tables.exec = Jvm.exec) (hZ : Z.Warmed39 s.vm) (eT : T.heap = h) (V : Arv Z h a kA ty z vs dv) (ht : ty.isReference = true)
    {pc : Nat} {ls : Array Slot} {j : Int32} {rest : List Value} (hd : decode c.code pc = .ok (.aaload, 1)) (hj : ¬ j < 0 ∧ j < z) {w : Value} (hv : vs.getD j.toNatClampNeg dv = w) {P : Outcome → State → Prop} (k : Fin p e below (T.setTop (mkF m (pc + 1) ls (w :: rest))) P) :
    Fin p e below (T.setTop (mkF m pc ls (.int j :: .ref a :: rest))) P := by
  obtain ⟨cl, Ar, hin, hat, hf⟩ := arv_at V hj
  exact go (fun t kt => X.aaload hx (j := j) (v := w) (by rw [eT]; exact Ar.1) (State.isArrayOf_alike hZ.alike Ar.2.1) ht Ar.2.2 hin (by rw [hat, hv]) (g := mkF m pc ls (.int j :: .ref a :: rest)) rfl rfl hd t kt) k
theorem ldBc {Z : State} {h : Heap} {a : Addr} {cl : Cell} (X : Stand p l e R s m args below meth c T locs cells slots) (hx : p.tables.exec = Jvm.exec) (hZ : Z.Warmed39 s.vm) (eT : T.heap = h) (A : Arr Z h a cl .byte)
    {pc : Nat} {ls : Array Slot} {j x : Int32} {rest : List Value} (hd : decode c.code pc = .ok (.baload, 1)) (hin : ¬ (j < 0 ∨ cl.slots.size ≤ j.toNatClampNeg)) (hv : cl.slots[j.toNatClampNeg]? = some (.int x)) {P : Outcome → State → Prop} (k : Fin p e below (T.setTop (mkF m (pc + 1) ls (.int x :: rest))) P) :
    Fin p e below (T.setTop (mkF m pc ls (.int j :: .ref a :: rest))) P :=
  go (fun t kt => X.baloadBytes hx (j := j) (v := .int x) (by rw [eT]; exact A.1) (State.isArrayOf_alike hZ.alike A.2.1) A.2.2 hin hv (g := mkF m pc ls (.int j :: .ref a :: rest)) rfl rfl hd t kt) k
theorem alenC {Z : State} {h : Heap} {a : Addr} {cl : Cell} {ty : FieldType} {z : Int32} (X : Stand p l e R s m args below meth c T locs cells slots) (hx : p.tables.exec = Jvm.exec) (hZ : Z.Warmed39 s.vm) (eT : T.heap = h) (A : Arr Z h a cl ty) (hz : cl.slots.size.toInt32 = z)
    {pc : Nat} {ls : Array Slot} {rest : List Value} (hd : decode c.code pc = .ok (.arraylength, 1)) {P : Outcome → State → Prop} (k : Fin p e below (T.setTop (mkF m (pc + 1) ls (.int z :: rest))) P) :
    Fin p e below (T.setTop (mkF m pc ls (.ref a :: rest))) P := by
  refine go (fun t kt => X.arraylength hx (by rw [eT]; exact A.1) (State.isArrayOf_alike hZ.alike A.2.1) (g := mkF m pc ls (.ref a :: rest)) rfl rfl hd t kt) ?_
  rw [hz]
  exact k
theorem retR (X : Stand p l e R s m args below meth c T locs cells slots) (hx : p.tables.exec = Jvm.exec) (hlk : meth.locks = false) {t : FieldType} (hret : meth.sig.returnType = some t) (ht : t.isReference = true) {pc : Nat} {Ls : Array Slot} {z : Value} (hz : z.isRef = true) {rest : List Value} (hd : decode c.code pc = .ok (.areturn, 1))
    {K : Option Value → Heap → List Loc → Prop} {cc ss : Nat} (hc : cells ≤ cc) (hs : slots ≤ ss) (hk : K (some z) T.heap locs) : Fin p e below (T.setTop (mkF m pc Ls (z :: rest))) (Post s K cc ss) := by
  refine retAny X (v := some z) hlk (fun h => by rw [hret] at h; cases h) (fun fs hl => ?_) hc hs hk
  have hm' : T.vm.method? m = some meth := X.method'
  show Steps p.tables e below (T.setTop { method := m, pc := pc, locals := Ls, stack := _ :: rest, locked := none }) _
  jvm_step X.here [X.here.top, hx, hd, hm', hret, ht, hz]
  first | (intro acts; rw [hl _ acts rfl rfl rfl]) | rw [hl _ _ rfl rfl rfl]
  exact Steps.refl _
theorem cP {Z : State} {a0 : Array Value} {h : Heap} (X : Stand p l e R s m args below meth c T locs cells slots) (hx : p.tables.exec = Jvm.exec) (hZ : Z.Warmed39 s.vm) {own C : String} {index : Nat} {y y' : MethodName} {bytes : ByteArray} {maxL : Nat} {ret : Option FieldType} {rm : Room} {as' : Array Value} {Q : Option Value → Heap → List Loc → Prop}
    (hown : s.vm.findClass own = some m.cls) (w1 : (Cond.methodLink own index y).before a0 Z = true) (w2 : (Cond.instanceMethod y).before a0 Z = true) (w5 : (Cond.privateMethod y).before a0 Z = true) (w7 : (Cond.selects C y' y').before a0 Z = true) (hcl : y'.cls = y.cls) (w3 : (Cond.initialized y.cls).before a0 Z = true) (w4 : (Cond.code y bytes maxL ret).before a0 Z = true)
    (hy : y.cls ≠ "java/lang/invoke/MethodHandle" ∧ y.cls ≠ "java/lang/invoke/VarHandle")
    (hM : MetFree l y (head1 [Cond.code y bytes maxL ret] rm) (fun a U => a = as' ∧ Z.Warmed39 U.vm ∧ U.heap = h) (fun _ _ _ _ _ => True) (fun _ U o U' => ∃ v L, o = .returned v ∧ Q v U'.heap L ∧ FrameEnd U o U' L rm.cells rm.slots))
    (hf : rm.frames + 1 ≤ R.frames) {W : Nat} (hl : W + (maxL + 11) + rm.locals ≤ R.locals) {pc : Nat} {ls : Array Slot} {a : Addr} {argsL rest : List Value} {C' : String} (E : Exa Z h a C') (hsize : ls.size = c.maxLocals) (hlen : ∀ sig, parseMethodDescriptor y.desc = some sig → argsL.length = sig.parameters.length)
    (has : (Value.ref a :: argsL).toArray = as') (hW : (rest.map fun v => v.category).sum ≤ W) (hd : decode c.code pc = .ok (.invokevirtual index, 3)) (eT : T.heap = h) (hcc : cells + rm.cells ≤ R.cells) (hss : slots + rm.slots ≤ R.slots) {P : Outcome → State → Prop}
    (k : ∀ T' L v, Stand p l e R s m args below meth c T' (locs ++ L) (cells + rm.cells) (slots + rm.slots) → Q v T'.heap L → Fin p e below (T'.setTop (mkF m (pc + 3) ls (v.toList ++ rest))) P) :
    Fin p e below (T.setTop (mkF m pc ls (argsL.reverse ++ .ref a :: rest))) P := by
  have hpr : s.PrivateAt y := Cond.privateMethod_at (mvP hZ w5 (args := #[]))
  have hsel : (Cond.selects y.cls y y).before args s = true := by
    obtain ⟨c2, r2, m2, q1, q2, q3, q4, kP, hkP, hkPi⟩ := Cond.selects_spec (mvT (args := args) hZ w7)
    exact selects_self_of_private (hcl ▸ findClass_of_methodNamed q3) hkP hkPi hpr (mvT hZ w2) hy
  obtain ⟨cq, q1, q2⟩ := E.cell
  obtain ⟨v, _, ⟨T', L', k', n'⟩, -, X', ⟨L, hQ, e1, e2, e3⟩, st⟩ := X.privateBack hx (y := y) hown (mvT hZ w1) (mvT hZ w2) hsel hpr (mvT hZ w4) hy (backOf (W := W) hM hZ w4 w3 hf hl) (g := mkF m pc ls (argsL.reverse ++ .ref a :: rest)) rfl hsize (Steps.refl _) (a := a) (by rw [eT]; exact q1) q2 (argsL := argsL) (rest := rest) hlen rfl
    (by show 2 * 0 + _ ≤ _; omega) hd (fun _ _ => ⟨has, eT, hcc, hss⟩)
  dsimp only [Pt.U, Pt.locs, Pt.cells, Pt.slots] at X' e1 e2 e3 st hQ
  subst e1 e2 e3
  exact go (fun t kt => st.trans kt) (k T' L v X' hQ)
end A
section B
variable {args : Array Value} {first s : State} {o : Option Outcome} {idx : List Nat} {a b : Term}
theorem eqR {y : Addr} (h : (Cond.eq a b).value args first o s idx = some true) (hb : b.eval args first o idx s = some (.ref y)) : a.eval args first o idx s = some (.ref y) := by
  obtain ⟨x', y', h1, h2, k1, k2⟩ := cmp_v (Or.inl h)
  cases hb.symm.trans h2
  have hx : x'.isRef = true := k2.2
  rw [h1, gotT (eq_R h1 hb hx rfl) h]
theorem eqI {y : Int32} (h : (Cond.eq a b).value args first o s idx = some true) (hb : b.eval args first o idx s = some (.int y)) : a.eval args first o idx s = some (.int y) := by
  obtain ⟨x', y', h1, h2, k1, k2⟩ := cmp_v (Or.inl h)
  cases hb.symm.trans h2
  obtain ⟨z, rfl⟩ := k2
  rw [h1, gotT (Cond.eq_ints h1 hb) h]
theorem len_at {y : Int32} (h : (Term.length a).eval args first o idx s = some (.int y)) : ∃ (x : Addr) (cell : Cell), a.eval args first o idx s = some (.ref x) ∧ s.arrayAt? x = some cell ∧ cell.slots.size < 2 ^ 31 ∧ cell.slots.size.toInt32 = y := by
  obtain ⟨b, cell, h1, h2, h3, h4⟩ := Jvm.Lib.length_spec h
  exact ⟨b, cell, h1, h2, h3, (Value.int.inj h4).symm⟩
end B
end Own
namespace Jvm.Pilot.@@N@@
open Jvm Jvm.ClassFile Sem Op Lib Jvm.Free Jvm.Stand Jvm.LawKit Jvm.RoadKit Bundle Jvm.Pilot.@@N@@.Jvm.D
def F_of (t : Int32) (aS aJ aU aR aQ : Addr) : Addr := if (0 : Int32) = t then aS else if (1 : Int32) = t then aJ else if (2 : Int32) = t then aU else if (3 : Int32) = t then aR else if (4 : Int32) = t then aQ else aJ
def F_exp (t : Int32) (aS aJ aU aR aQ : Addr) : Addr := if t = (0 : Int32) then aS else if t = (2 : Int32) then aU else if t = (3 : Int32) then aR else if t = (4 : Int32) then aQ else aJ
theorem ow_eqv (t : Int32) (aS aJ aU aR aQ : Addr) : F_of t aS aJ aU aR aQ = F_exp t aS aJ aU aR aQ := by
  unfold F_of F_exp
  by_cases h0 : t = 0
  · subst h0; rfl
  by_cases h1 : t = 1
  · subst h1; rfl
  by_cases h2 : t = 2
  · subst h2; rfl
  by_cases h3 : t = 3
  · subst h3; rfl
  by_cases h4 : t = 4
  · subst h4; rfl
  simp [h0, h1, h2, h3, h4, Ne.symm h0, Ne.symm h1, Ne.symm h2, Ne.symm h3, Ne.symm h4, eq_comm]
theorem d2_0 : decode prog_3_method_1_code 0 = .ok (.getstatic 22, 3) := by decide +kernel
theorem d2_3 : decode prog_3_method_1_code 3 = .ok (.invokevirtual 26, 3) := by decide +kernel
theorem d2_6 : decode prog_3_method_1_code 6 = .ok (.checkcast 27, 3) := by decide +kernel
theorem d2_9 : decode prog_3_method_1_code 9 = .ok (.areturn, 1) := by decide +kernel
theorem pn_2 : plainName "com/example/vouchsafe/vouchsafe/cli/ExitCode" = true := by first | (simp [plainName, overriddenIn]; done) | decide +kernel
theorem ef_2 (m : MethodId)  : entryFrame m #[] 0 = mkF m 0 #[] [] := by first | (simp [entryFrame, mkF, argsToLocals, Value.category]; done) | rfl
def Q2 (Z : State)  (va : Addr) (kA : ClassId) (aS aJ aU aR aQ aN : Addr) (h0 : Heap) (n0 : Nat) : Option Value → Heap → List Loc → Prop := fun v h L => ∃ (b : Addr) (k : ClassId), n0 ≤ b ∧ v = some (.ref b) ∧ Fr n0 L ∧ Keep h0 h [] ∧ Arv Z h b k (.object "com/example/vouchsafe/vouchsafe/cli/ExitCode") (6 : Int32) [Value.ref aS, Value.ref aJ, Value.ref aU, Value.ref aR, Value.ref aQ, Value.ref aN] .null
set_option maxRecDepth 65536 in
set_option maxHeartbeats 40000000 in
theorem rm2 (l : Launch) (Z : State) (a0 : Array Value) (hw : ∀ d ∈ tables_1, d.before a0 Z = true) (ws : List Jvm.Cond)  (va : Addr) (kA : ClassId) (aS aJ aU aR aQ aN : Addr) (h0 : Heap) (n0 : Nat) (Z0 : n0 ≤ h0.size) (O0 : Old Z n0 h0) (SV : Sta Z Z.heap "com/example/vouchsafe/vouchsafe/cli/ExitCode" "$VALUES" "[Lcom/example/vouchsafe/vouchsafe/cli/ExitCode;" (.ref va)) (VA : Arv Z Z.heap va kA (.object "com/example/vouchsafe/vouchsafe/cli/ExitCode") (6 : Int32) [Value.ref aS, Value.ref aJ, Value.ref aU, Value.ref aR, Value.ref aQ, Value.ref aN] .null) (EA : Exa Z Z.heap va "[Lcom/example/vouchsafe/vouchsafe/cli/ExitCode;") :
    MetFree l (⟨"com/example/vouchsafe/vouchsafe/cli/ExitCode", "values", "()[Lcom/example/vouchsafe/vouchsafe/cli/ExitCode;"⟩ : MethodName) (head1 (Jvm.Cond.code (⟨"com/example/vouchsafe/vouchsafe/cli/ExitCode", "values", "()[Lcom/example/vouchsafe/vouchsafe/cli/ExitCode;"⟩ : MethodName) prog_3_method_1_code 0 (some (.array (.object "com/example/vouchsafe/vouchsafe/cli/ExitCode"))) :: ws) ({ frames := 1, cells := 1, slots := 6, locals := 14 } : Room)) (fun a U => a = #[] ∧ Z.Warmed39 U.vm ∧ U.heap = h0) (fun _ _ _ _ _ => True) (fun _ U o U' => ∃ v L, o = .returned v ∧ (Q2 Z va kA aS aJ aU aR aQ aN h0 n0) v U'.heap L ∧ FrameEnd U o U' L ({ frames := 1, cells := 1, slots := 6, locals := 14 } : Room).cells ({ frames := 1, cells := 1, slots := 6, locals := 14 } : Room).slots) := by
  refine MetFree.of_bodySF (plainFor_of_name pn_2) hisR ?_
  intro p e s m args below meth c s₁ Bd hml0 hP hK
  obtain ⟨rfl, hZ, hh⟩ := hP
  have hx := Bd.exec
  have hby := Bd.bytes
  have hml : c.maxLocals = 0 := hml0
  have hown : s.vm.findClass "com/example/vouchsafe/vouchsafe/cli/ExitCode" = some m.cls := findClass_of_methodNamed Bd.named
  have hnm := (name_of_methodNamed Bd.named Bd.method).1
  have X0 : Stand p l e ({ frames := 1, cells := 1, slots := 6, locals := 14 } : Room) s m #[] below meth c s₁ [] 0 0 := Stand.of_body Bd
  have e0 : s₁.heap = h0 := by rw [← hh, Bd.state]; rfl
  have N0 := Fr.nil n0
  show Own.Fin p e below _ (Own.Post s (Q2 Z va kA aS aJ aU aR aQ aN h0 n0) ({ frames := 1, cells := 1, slots := 6, locals := 14 } : Room).cells ({ frames := 1, cells := 1, slots := 6, locals := 14 } : Room).slots)
  refine Own.start (ef_2 m ) ?_
  show Own.Fin p e below (s₁.setTop (mkF m 0 #[] [])) _
  obtain ⟨T1, X1, e1, st1⟩ := getS2 X0 hx hZ hown (host := "") (Or.inl (hw _ (List.mem_of_getElem? (i := 7) rfl))) Via.refl e0 (SV.ext O0.2) (g := (mkF m 0 #[] [])) rfl (hb hby d2_0)
  refine Own.go st1 ?_
  show Own.Fin p e below (T1.setTop (mkF m 3 #[] [(.ref va)])) _
  obtain ⟨T2, h2, X2, e2, E2, V2, A2, st2⟩ := cloneH X1 hx hZ hown (hw _ (List.mem_of_getElem? (i := 9) rfl)) (hw _ (List.mem_of_getElem? (i := 10) rfl)) (hw _ (List.mem_of_getElem? (i := 14) rfl)) (hw _ (List.mem_of_getElem? (i := 12) rfl)) (hw _ (List.mem_of_getElem? (i := 13) rfl)) (hw _ (List.mem_of_getElem? (i := 15) rfl)) e1 (Arv.arh (VA.ext O0.2)) (EA.ext O0.2) (g := (mkF m 3 #[] [(.ref va)])) rfl (by rw [hml]; rfl) rfl (hb hby d2_3) (by decide) (W := 0) (cap := 6) (by show 2 * 0 + _ ≤ _; exact Nat.le_of_eq rfl) (by decide) (by decide) (by decide) (by decide)
  obtain ⟨b2, gb2⟩ : ∃ z, z = h0.size := ⟨_, rfl⟩
  rw [← gb2] at V2 A2 st2
  refine Own.go st2 ?_
  have ge2 : n0 ≤ b2 := by rw [gb2]; exact Z0
  have sz_b2 : h0.size ≤ b2 := Nat.le_trans (Keep.refl h0 []).1 (Nat.le_of_eq gb2.symm)
  have Z2 : n0 ≤ h2.size := Nat.le_trans Z0 E2.1
  have K2 := (Keep.refl h0 []).ext E2
  have O2 := O0.ext E2
  show Own.Fin p e below (T2.setTop (mkF m 6 #[] [(.ref b2)])) _
  obtain ⟨T3, X3, e3, st3⟩ := castY X2 hx hZ hown (hw _ (List.mem_of_getElem? (i := 23) rfl)) e2 (Ins.self A2) (g := (mkF m 6 #[] [(.ref b2)])) rfl rfl (hb hby d2_6)
  refine Own.go st3 ?_
  show Own.Fin p e below (T3.setTop (mkF m 9 #[] [(.ref b2)])) _
  refine Own.retR X3 hx Bd.notSynchronized Bd.returns rfl rfl (hb hby d2_9) (by decide) (by decide) ?_
  exact ⟨b2, kA, ge2, rfl, N0, by rw [e3]; exact K2, by rw [e3]; exact V2⟩
theorem d1_0 : decode prog_3_method_6_code 0 = .ok (.invokestatic 49, 3) := by decide +kernel
theorem d1_3 : decode prog_3_method_6_code 3 = .ok (.astore_n 1, 1) := by decide +kernel
theorem d1_4 : decode prog_3_method_6_code 4 = .ok (.aload_n 1, 1) := by decide +kernel
theorem d1_5 : decode prog_3_method_6_code 5 = .ok (.arraylength, 1) := by decide +kernel
theorem d1_6 : decode prog_3_method_6_code 6 = .ok (.istore_n 2, 1) := by decide +kernel
theorem d1_7 : decode prog_3_method_6_code 7 = .ok (.iconst 0, 1) := by decide +kernel
theorem d1_8 : decode prog_3_method_6_code 8 = .ok (.istore_n 3, 1) := by decide +kernel
theorem d1_9 : decode prog_3_method_6_code 9 = .ok (.iload_n 3, 1) := by decide +kernel
theorem d1_10 : decode prog_3_method_6_code 10 = .ok (.iload_n 2, 1) := by decide +kernel
theorem d1_11 : decode prog_3_method_6_code 11 = .ok (.if_icmp .ge 26, 3) := by decide +kernel
theorem d1_14 : decode prog_3_method_6_code 14 = .ok (.aload_n 1, 1) := by decide +kernel
theorem d1_15 : decode prog_3_method_6_code 15 = .ok (.iload_n 3, 1) := by decide +kernel
theorem d1_16 : decode prog_3_method_6_code 16 = .ok (.aaload, 1) := by decide +kernel
theorem d1_17 : decode prog_3_method_6_code 17 = .ok (.astore 4, 2) := by decide +kernel
theorem d1_19 : decode prog_3_method_6_code 19 = .ok (.aload 4, 2) := by decide +kernel
theorem d1_21 : decode prog_3_method_6_code 21 = .ok (.getfield 41, 3) := by decide +kernel
theorem d1_24 : decode prog_3_method_6_code 24 = .ok (.iload_n 0, 1) := by decide +kernel
theorem d1_25 : decode prog_3_method_6_code 25 = .ok (.if_icmp .ne 6, 3) := by decide +kernel
theorem d1_28 : decode prog_3_method_6_code 28 = .ok (.aload 4, 2) := by decide +kernel
theorem d1_30 : decode prog_3_method_6_code 30 = .ok (.areturn, 1) := by decide +kernel
theorem d1_31 : decode prog_3_method_6_code 31 = .ok (.iinc 3 1, 3) := by decide +kernel
theorem d1_34 : decode prog_3_method_6_code 34 = .ok (.goto (-25), 3) := by decide +kernel
theorem d1_37 : decode prog_3_method_6_code 37 = .ok (.getstatic 7, 3) := by decide +kernel
theorem d1_40 : decode prog_3_method_6_code 40 = .ok (.areturn, 1) := by decide +kernel
theorem pd_0 : parseMethodDescriptor "()[Lcom/example/vouchsafe/vouchsafe/cli/ExitCode;" = some ⟨[], some (.array (.object "com/example/vouchsafe/vouchsafe/cli/ExitCode"))⟩ := by decide +kernel
theorem pn_1 : plainName "com/example/vouchsafe/vouchsafe/cli/ExitCode" = true := by first | (simp [plainName, overriddenIn]; done) | decide +kernel
theorem ef_1 (m : MethodId) (p1 : Int32) : entryFrame m #[(.int p1)] 5 = mkF m 0 #[.val (.int p1), .unset, .unset, .unset, .unset] [] := by first | (simp [entryFrame, mkF, argsToLocals, Value.category]; done) | rfl
def Q1 (Z : State) (p1 : Int32) (va : Addr) (kA : ClassId) (aS aJ aU aR aQ aN : Addr) (h0 : Heap) (n0 : Nat) : Option Value → Heap → List Loc → Prop := fun v h L => v = some (.ref (F_of p1 aS aJ aU aR aQ)) ∧ Fr n0 L ∧ Keep h0 h []
set_option maxRecDepth 65536 in
set_option maxHeartbeats 40000000 in
theorem rm1 (l : Launch) (Z : State) (a0 : Array Value) (hw : ∀ d ∈ tables_1, d.before a0 Z = true) (ws : List Jvm.Cond) (p1 : Int32) (va : Addr) (kA : ClassId) (aS aJ aU aR aQ aN : Addr) (h0 : Heap) (n0 : Nat) (Z0 : n0 ≤ h0.size) (O0 : Old Z n0 h0) (SV : Sta Z Z.heap "com/example/vouchsafe/vouchsafe/cli/ExitCode" "$VALUES" "[Lcom/example/vouchsafe/vouchsafe/cli/ExitCode;" (.ref va)) (VA : Arv Z Z.heap va kA (.object "com/example/vouchsafe/vouchsafe/cli/ExitCode") (6 : Int32) [Value.ref aS, Value.ref aJ, Value.ref aU, Value.ref aR, Value.ref aQ, Value.ref aN] .null) (EA : Exa Z Z.heap va "[Lcom/example/vouchsafe/vouchsafe/cli/ExitCode;") (F_aS : Fld Z Z.heap aS "com/example/vouchsafe/vouchsafe/cli/ExitCode" "status" "I" (.int (0 : Int32))) (F_aJ : Fld Z Z.heap aJ "com/example/vouchsafe/vouchsafe/cli/ExitCode" "status" "I" (.int (1 : Int32))) (F_aU : Fld Z Z.heap aU "com/example/vouchsafe/vouchsafe/cli/ExitCode" "status" "I" (.int (2 : Int32))) (F_aR : Fld Z Z.heap aR "com/example/vouchsafe/vouchsafe/cli/ExitCode" "status" "I" (.int (3 : Int32))) (F_aQ : Fld Z Z.heap aQ "com/example/vouchsafe/vouchsafe/cli/ExitCode" "status" "I" (.int (4 : Int32))) (F_aN : Fld Z Z.heap aN "com/example/vouchsafe/vouchsafe/cli/ExitCode" "status" "I" (.int (1 : Int32))) (S_aS : Sta Z Z.heap "com/example/vouchsafe/vouchsafe/cli/ExitCode" "SUCCESS" "Lcom/example/vouchsafe/vouchsafe/cli/ExitCode;" (.ref aS)) (S_aJ : Sta Z Z.heap "com/example/vouchsafe/vouchsafe/cli/ExitCode" "JOB_FAILED" "Lcom/example/vouchsafe/vouchsafe/cli/ExitCode;" (.ref aJ)) (S_aU : Sta Z Z.heap "com/example/vouchsafe/vouchsafe/cli/ExitCode" "USAGE_ERROR" "Lcom/example/vouchsafe/vouchsafe/cli/ExitCode;" (.ref aU)) (S_aR : Sta Z Z.heap "com/example/vouchsafe/vouchsafe/cli/ExitCode" "REFUSED" "Lcom/example/vouchsafe/vouchsafe/cli/ExitCode;" (.ref aR)) (S_aQ : Sta Z Z.heap "com/example/vouchsafe/vouchsafe/cli/ExitCode" "QUOTA_REFUSED" "Lcom/example/vouchsafe/vouchsafe/cli/ExitCode;" (.ref aQ)) :
    MetFree l (⟨"com/example/vouchsafe/vouchsafe/cli/ExitCode", "of", "(I)Lcom/example/vouchsafe/vouchsafe/cli/ExitCode;"⟩ : MethodName) (head1 (Jvm.Cond.code (⟨"com/example/vouchsafe/vouchsafe/cli/ExitCode", "of", "(I)Lcom/example/vouchsafe/vouchsafe/cli/ExitCode;"⟩ : MethodName) prog_3_method_6_code 5 (some (.object "com/example/vouchsafe/vouchsafe/cli/ExitCode")) :: ws) ({ frames := 2, cells := 1, slots := 6, locals := 25 } : Room)) (fun a U => a = #[(.int p1)] ∧ Z.Warmed39 U.vm ∧ U.heap = h0) (fun _ _ _ _ _ => True) (fun _ U o U' => ∃ v L, o = .returned v ∧ (Q1 Z p1 va kA aS aJ aU aR aQ aN h0 n0) v U'.heap L ∧ FrameEnd U o U' L ({ frames := 2, cells := 1, slots := 6, locals := 25 } : Room).cells ({ frames := 2, cells := 1, slots := 6, locals := 25 } : Room).slots) := by
  refine MetFree.of_bodySF (plainFor_of_name pn_1) hisR ?_
  intro p e s m args below meth c s₁ Bd hml0 hP hK
  obtain ⟨rfl, hZ, hh⟩ := hP
  have hx := Bd.exec
  have hby := Bd.bytes
  have hml : c.maxLocals = 5 := hml0
  have hown : s.vm.findClass "com/example/vouchsafe/vouchsafe/cli/ExitCode" = some m.cls := findClass_of_methodNamed Bd.named
  have hnm := (name_of_methodNamed Bd.named Bd.method).1
  have X0 : Stand p l e ({ frames := 2, cells := 1, slots := 6, locals := 25 } : Room) s m #[(.int p1)] below meth c s₁ [] 0 0 := Stand.of_body Bd
  have e0 : s₁.heap = h0 := by rw [← hh, Bd.state]; rfl
  have N0 := Fr.nil n0
  show Own.Fin p e below _ (Own.Post s (Q1 Z p1 va kA aS aJ aU aR aQ aN h0 n0) ({ frames := 2, cells := 1, slots := 6, locals := 25 } : Room).cells ({ frames := 2, cells := 1, slots := 6, locals := 25 } : Room).slots)
  refine Own.start (ef_1 m p1) ?_
  show Own.Fin p e below (s₁.setTop (mkF m 0 #[.val (.int p1), .unset, .unset, .unset, .unset] [])) _
  refine Own.cS X0 hx hZ hown (hw _ (List.mem_of_getElem? (i := 4) rfl)) (hw _ (List.mem_of_getElem? (i := 5) rfl)) (hw _ (List.mem_of_getElem? (i := 2) rfl)) (hw _ (List.mem_of_getElem? (i := 6) rfl)) (by decide) (rm2 l Z a0 hw [] va kA aS aJ aU aR aQ aN h0 n0 Z0 O0 SV VA EA) (by decide) (W := 0) (by decide) (argsL := []) (rest := []) (by rw [hml]; rfl) (lenOf pd_0 rfl) rfl (Nat.le_of_eq rfl) (hb hby d1_0) e0 (by decide) (by decide) ?_
  intro T1 L1 v1 X1 hQ1
  obtain ⟨b1, k1, ge1, rfl, N1q, K1q, V1⟩ := hQ1
  have N1 := Fr.app N0 N1q
  have Z1 : n0 ≤ T1.heap.size := Nat.le_trans Z0 K1q.1
  have KK1 := (Keep.refl h0 []).trans K1q all0
  have O1 := O0.keep K1q all0
  show Own.Fin p e below (T1.setTop (mkF m 3 #[.val (.int p1), .unset, .unset, .unset, .unset] [(.ref b1)])) _
  refine Own.go (fun t k => XS.astoreN X1.here hx rfl (hb hby d1_3) rfl rfl (l' := #[.val (.int p1), .val (.ref b1), .unset, .unset, .unset]) rfl k) ?_
  show Own.Fin p e below (T1.setTop (mkF m 4 #[.val (.int p1), .val (.ref b1), .unset, .unset, .unset] [])) _
  refine Own.go (fun t k => XS.aloadN X1.here hx rfl (hb hby d1_4) rfl rfl k) ?_
  show Own.Fin p e below (T1.setTop (mkF m 5 #[.val (.int p1), .val (.ref b1), .unset, .unset, .unset] [(.ref b1)])) _
  refine Own.alen X1 hx hZ rfl V1 (hb hby d1_5) ?_
  show Own.Fin p e below (T1.setTop (mkF m 6 #[.val (.int p1), .val (.ref b1), .unset, .unset, .unset] [(.int (6 : Int32))])) _
  refine Own.go (fun t k => XS.istoreN X1.here hx rfl (hb hby d1_6) rfl (l' := #[.val (.int p1), .val (.ref b1), .val (.int (6 : Int32)), .unset, .unset]) rfl k) ?_
  show Own.Fin p e below (T1.setTop (mkF m 7 #[.val (.int p1), .val (.ref b1), .val (.int (6 : Int32)), .unset, .unset] [])) _
  refine Own.go (fun t k => XS.iconst X1.here hx rfl (hb hby d1_7) k) ?_
  show Own.Fin p e below (T1.setTop (mkF m 8 #[.val (.int p1), .val (.ref b1), .val (.int (6 : Int32)), .unset, .unset] [(.int (0 : Int32))])) _
  refine Own.go (fun t k => XS.istoreN X1.here hx rfl (hb hby d1_8) rfl (l' := #[.val (.int p1), .val (.ref b1), .val (.int (6 : Int32)), .val (.int (0 : Int32)), .unset]) rfl k) ?_
  show Own.Fin p e below (T1.setTop (mkF m 9 #[.val (.int p1), .val (.ref b1), .val (.int (6 : Int32)), .val (.int (0 : Int32)), .unset] [])) _
  refine Own.go (fun t k => XS.iloadN X1.here hx rfl (hb hby d1_9) rfl k) ?_
  show Own.Fin p e below (T1.setTop (mkF m 10 #[.val (.int p1), .val (.ref b1), .val (.int (6 : Int32)), .val (.int (0 : Int32)), .unset] [(.int (0 : Int32))])) _
  refine Own.go (fun t k => XS.iloadN X1.here hx rfl (hb hby d1_10) rfl k) ?_
  show Own.Fin p e below (T1.setTop (mkF m 11 #[.val (.int p1), .val (.ref b1), .val (.int (6 : Int32)), .val (.int (0 : Int32)), .unset] [(.int (6 : Int32)), (.int (0 : Int32))])) _
  have hc11_1 : (0 : Int32) < (6 : Int32) := by decide
  refine Own.go (fun t k => XS.icmpNo X1.here hx rfl (hb hby d1_11) rfl (tlt hc11_1).2.1 k) ?_
  show Own.Fin p e below (T1.setTop (mkF m 14 #[.val (.int p1), .val (.ref b1), .val (.int (6 : Int32)), .val (.int (0 : Int32)), .unset] [])) _
  refine Own.go (fun t k => XS.aloadN X1.here hx rfl (hb hby d1_14) rfl rfl k) ?_
  show Own.Fin p e below (T1.setTop (mkF m 15 #[.val (.int p1), .val (.ref b1), .val (.int (6 : Int32)), .val (.int (0 : Int32)), .unset] [(.ref b1)])) _
  refine Own.go (fun t k => XS.iloadN X1.here hx rfl (hb hby d1_15) rfl k) ?_
  show Own.Fin p e below (T1.setTop (mkF m 16 #[.val (.int p1), .val (.ref b1), .val (.int (6 : Int32)), .val (.int (0 : Int32)), .unset] [(.int (0 : Int32)), (.ref b1)])) _
  refine Own.ldR X1 hx hZ rfl V1 rfl (hb hby d1_16) ⟨by decide, by decide⟩ (w := (.ref aS)) rfl ?_
  show Own.Fin p e below (T1.setTop (mkF m 17 #[.val (.int p1), .val (.ref b1), .val (.int (6 : Int32)), .val (.int (0 : Int32)), .unset] [(.ref aS)])) _
  refine Own.go (fun t k => XS.astore X1.here hx rfl (hb hby d1_17) rfl rfl (l' := #[.val (.int p1), .val (.ref b1), .val (.int (6 : Int32)), .val (.int (0 : Int32)), .val (.ref aS)]) rfl k) ?_
  show Own.Fin p e below (T1.setTop (mkF m 19 #[.val (.int p1), .val (.ref b1), .val (.int (6 : Int32)), .val (.int (0 : Int32)), .val (.ref aS)] [])) _
  refine Own.go (fun t k => XS.aload X1.here hx rfl (hb hby d1_19) rfl rfl k) ?_
  show Own.Fin p e below (T1.setTop (mkF m 21 #[.val (.int p1), .val (.ref b1), .val (.int (6 : Int32)), .val (.int (0 : Int32)), .val (.ref aS)] [(.ref aS)])) _
  obtain ⟨T3, X3, e3, st3⟩ := getF X1 hx hZ hown (host := "") (Or.inl (hw _ (List.mem_of_getElem? (i := 25) rfl))) Via.refl rfl (F_aS.ext O1.2) (g := (mkF m 21 #[.val (.int p1), .val (.ref b1), .val (.int (6 : Int32)), .val (.int (0 : Int32)), .val (.ref aS)] [(.ref aS)])) rfl rfl (hb hby d1_21)
  refine Own.go st3 ?_
  show Own.Fin p e below (T3.setTop (mkF m 24 #[.val (.int p1), .val (.ref b1), .val (.int (6 : Int32)), .val (.int (0 : Int32)), .val (.ref aS)] [(.int (0 : Int32))])) _
  refine Own.go (fun t k => XS.iloadN X3.here hx rfl (hb hby d1_24) rfl k) ?_
  show Own.Fin p e below (T3.setTop (mkF m 25 #[.val (.int p1), .val (.ref b1), .val (.int (6 : Int32)), .val (.int (0 : Int32)), .val (.ref aS)] [(.int p1), (.int (0 : Int32))])) _
  by_cases hc25_3 : (0 : Int32) = p1
  · skip
    refine Own.go (fun t k => XS.icmpNo X3.here hx rfl (hb hby d1_25) rfl (teq hc25_3).2 k) ?_
    show Own.Fin p e below (T3.setTop (mkF m 28 #[.val (.int p1), .val (.ref b1), .val (.int (6 : Int32)), .val (.int (0 : Int32)), .val (.ref aS)] [])) _
    refine Own.go (fun t k => XS.aload X3.here hx rfl (hb hby d1_28) rfl rfl k) ?_
    show Own.Fin p e below (T3.setTop (mkF m 30 #[.val (.int p1), .val (.ref b1), .val (.int (6 : Int32)), .val (.int (0 : Int32)), .val (.ref aS)] [(.ref aS)])) _
    refine Own.retR X3 hx Bd.notSynchronized Bd.returns rfl rfl (hb hby d1_30) (by decide) (by decide) ?_
    exact ⟨by rw [show F_of p1 aS aJ aU aR aQ = aS by rw [F_of, if_pos hc25_3]], N1, by first | exact KK1 | (rw [e3]; exact KK1)⟩
  · skip
    refine Own.go (fun t k => XS.icmpYes X3.here hx rfl (pc0 := 25) (pc' := 31) rfl (hb hby d1_25) rfl (feq hc25_3).2 (by decide) (by decide) k) ?_
    show Own.Fin p e below (T3.setTop (mkF m 31 #[.val (.int p1), .val (.ref b1), .val (.int (6 : Int32)), .val (.int (0 : Int32)), .val (.ref aS)] [])) _
    refine Own.go (fun t k => XS.iinc X3.here hx rfl (hb hby d1_31) rfl (l' := #[.val (.int p1), .val (.ref b1), .val (.int (6 : Int32)), .val (.int (1 : Int32)), .val (.ref aS)]) rfl k) ?_
    show Own.Fin p e below (T3.setTop (mkF m 34 #[.val (.int p1), .val (.ref b1), .val (.int (6 : Int32)), .val (.int (1 : Int32)), .val (.ref aS)] [])) _
    refine Own.go (fun t k => XS.goto X3.here hx rfl (pc0 := 34) (pc' := 9) rfl (hb hby d1_34) (by decide) (by decide) k) ?_
    show Own.Fin p e below (T3.setTop (mkF m 9 #[.val (.int p1), .val (.ref b1), .val (.int (6 : Int32)), .val (.int (1 : Int32)), .val (.ref aS)] [])) _
    refine Own.go (fun t k => XS.iloadN X3.here hx rfl (hb hby d1_9) rfl k) ?_
    show Own.Fin p e below (T3.setTop (mkF m 10 #[.val (.int p1), .val (.ref b1), .val (.int (6 : Int32)), .val (.int (1 : Int32)), .val (.ref aS)] [(.int (1 : Int32))])) _
    refine Own.go (fun t k => XS.iloadN X3.here hx rfl (hb hby d1_10) rfl k) ?_
    show Own.Fin p e below (T3.setTop (mkF m 11 #[.val (.int p1), .val (.ref b1), .val (.int (6 : Int32)), .val (.int (1 : Int32)), .val (.ref aS)] [(.int (6 : Int32)), (.int (1 : Int32))])) _
    have hc11_4 : (1 : Int32) < (6 : Int32) := by decide
    refine Own.go (fun t k => XS.icmpNo X3.here hx rfl (hb hby d1_11) rfl (tlt hc11_4).2.1 k) ?_
    show Own.Fin p e below (T3.setTop (mkF m 14 #[.val (.int p1), .val (.ref b1), .val (.int (6 : Int32)), .val (.int (1 : Int32)), .val (.ref aS)] [])) _
    refine Own.go (fun t k => XS.aloadN X3.here hx rfl (hb hby d1_14) rfl rfl k) ?_
    show Own.Fin p e below (T3.setTop (mkF m 15 #[.val (.int p1), .val (.ref b1), .val (.int (6 : Int32)), .val (.int (1 : Int32)), .val (.ref aS)] [(.ref b1)])) _
    refine Own.go (fun t k => XS.iloadN X3.here hx rfl (hb hby d1_15) rfl k) ?_
    show Own.Fin p e below (T3.setTop (mkF m 16 #[.val (.int p1), .val (.ref b1), .val (.int (6 : Int32)), .val (.int (1 : Int32)), .val (.ref aS)] [(.int (1 : Int32)), (.ref b1)])) _
    refine Own.ldR X3 hx hZ e3 V1 rfl (hb hby d1_16) ⟨by decide, by decide⟩ (w := (.ref aJ)) rfl ?_
    show Own.Fin p e below (T3.setTop (mkF m 17 #[.val (.int p1), .val (.ref b1), .val (.int (6 : Int32)), .val (.int (1 : Int32)), .val (.ref aS)] [(.ref aJ)])) _
    refine Own.go (fun t k => XS.astore X3.here hx rfl (hb hby d1_17) rfl rfl (l' := #[.val (.int p1), .val (.ref b1), .val (.int (6 : Int32)), .val (.int (1 : Int32)), .val (.ref aJ)]) rfl k) ?_
    show Own.Fin p e below (T3.setTop (mkF m 19 #[.val (.int p1), .val (.ref b1), .val (.int (6 : Int32)), .val (.int (1 : Int32)), .val (.ref aJ)] [])) _
    refine Own.go (fun t k => XS.aload X3.here hx rfl (hb hby d1_19) rfl rfl k) ?_
    show Own.Fin p e below (T3.setTop (mkF m 21 #[.val (.int p1), .val (.ref b1), .val (.int (6 : Int32)), .val (.int (1 : Int32)), .val (.ref aJ)] [(.ref aJ)])) _
    obtain ⟨T6, X6, e6, st6⟩ := getF X3 hx hZ hown (host := "") (Or.inl (hw _ (List.mem_of_getElem? (i := 25) rfl))) Via.refl e3 (F_aJ.ext O1.2) (g := (mkF m 21 #[.val (.int p1), .val (.ref b1), .val (.int (6 : Int32)), .val (.int (1 : Int32)), .val (.ref aJ)] [(.ref aJ)])) rfl rfl (hb hby d1_21)
    refine Own.go st6 ?_
    show Own.Fin p e below (T6.setTop (mkF m 24 #[.val (.int p1), .val (.ref b1), .val (.int (6 : Int32)), .val (.int (1 : Int32)), .val (.ref aJ)] [(.int (1 : Int32))])) _
    refine Own.go (fun t k => XS.iloadN X6.here hx rfl (hb hby d1_24) rfl k) ?_
    show Own.Fin p e below (T6.setTop (mkF m 25 #[.val (.int p1), .val (.ref b1), .val (.int (6 : Int32)), .val (.int (1 : Int32)), .val (.ref aJ)] [(.int p1), (.int (1 : Int32))])) _
    by_cases hc25_6 : (1 : Int32) = p1
    · skip
      refine Own.go (fun t k => XS.icmpNo X6.here hx rfl (hb hby d1_25) rfl (teq hc25_6).2 k) ?_
      show Own.Fin p e below (T6.setTop (mkF m 28 #[.val (.int p1), .val (.ref b1), .val (.int (6 : Int32)), .val (.int (1 : Int32)), .val (.ref aJ)] [])) _
      refine Own.go (fun t k => XS.aload X6.here hx rfl (hb hby d1_28) rfl rfl k) ?_
      show Own.Fin p e below (T6.setTop (mkF m 30 #[.val (.int p1), .val (.ref b1), .val (.int (6 : Int32)), .val (.int (1 : Int32)), .val (.ref aJ)] [(.ref aJ)])) _
      refine Own.retR X6 hx Bd.notSynchronized Bd.returns rfl rfl (hb hby d1_30) (by decide) (by decide) ?_
      exact ⟨by rw [show F_of p1 aS aJ aU aR aQ = aJ by rw [F_of, if_neg hc25_3, if_pos hc25_6]], N1, by first | exact KK1 | (rw [e6]; exact KK1)⟩
    · skip
      refine Own.go (fun t k => XS.icmpYes X6.here hx rfl (pc0 := 25) (pc' := 31) rfl (hb hby d1_25) rfl (feq hc25_6).2 (by decide) (by decide) k) ?_
      show Own.Fin p e below (T6.setTop (mkF m 31 #[.val (.int p1), .val (.ref b1), .val (.int (6 : Int32)), .val (.int (1 : Int32)), .val (.ref aJ)] [])) _
      refine Own.go (fun t k => XS.iinc X6.here hx rfl (hb hby d1_31) rfl (l' := #[.val (.int p1), .val (.ref b1), .val (.int (6 : Int32)), .val (.int (2 : Int32)), .val (.ref aJ)]) rfl k) ?_
      show Own.Fin p e below (T6.setTop (mkF m 34 #[.val (.int p1), .val (.ref b1), .val (.int (6 : Int32)), .val (.int (2 : Int32)), .val (.ref aJ)] [])) _
      refine Own.go (fun t k => XS.goto X6.here hx rfl (pc0 := 34) (pc' := 9) rfl (hb hby d1_34) (by decide) (by decide) k) ?_
      show Own.Fin p e below (T6.setTop (mkF m 9 #[.val (.int p1), .val (.ref b1), .val (.int (6 : Int32)), .val (.int (2 : Int32)), .val (.ref aJ)] [])) _
      refine Own.go (fun t k => XS.iloadN X6.here hx rfl (hb hby d1_9) rfl k) ?_
      show Own.Fin p e below (T6.setTop (mkF m 10 #[.val (.int p1), .val (.ref b1), .val (.int (6 : Int32)), .val (.int (2 : Int32)), .val (.ref aJ)] [(.int (2 : Int32))])) _
      refine Own.go (fun t k => XS.iloadN X6.here hx rfl (hb hby d1_10) rfl k) ?_
      show Own.Fin p e below (T6.setTop (mkF m 11 #[.val (.int p1), .val (.ref b1), .val (.int (6 : Int32)), .val (.int (2 : Int32)), .val (.ref aJ)] [(.int (6 : Int32)), (.int (2 : Int32))])) _
      have hc11_7 : (2 : Int32) < (6 : Int32) := by decide
      refine Own.go (fun t k => XS.icmpNo X6.here hx rfl (hb hby d1_11) rfl (tlt hc11_7).2.1 k) ?_
      show Own.Fin p e below (T6.setTop (mkF m 14 #[.val (.int p1), .val (.ref b1), .val (.int (6 : Int32)), .val (.int (2 : Int32)), .val (.ref aJ)] [])) _
      refine Own.go (fun t k => XS.aloadN X6.here hx rfl (hb hby d1_14) rfl rfl k) ?_
      show Own.Fin p e below (T6.setTop (mkF m 15 #[.val (.int p1), .val (.ref b1), .val (.int (6 : Int32)), .val (.int (2 : Int32)), .val (.ref aJ)] [(.ref b1)])) _
      refine Own.go (fun t k => XS.iloadN X6.here hx rfl (hb hby d1_15) rfl k) ?_
      show Own.Fin p e below (T6.setTop (mkF m 16 #[.val (.int p1), .val (.ref b1), .val (.int (6 : Int32)), .val (.int (2 : Int32)), .val (.ref aJ)] [(.int (2 : Int32)), (.ref b1)])) _
      refine Own.ldR X6 hx hZ e6 V1 rfl (hb hby d1_16) ⟨by decide, by decide⟩ (w := (.ref aU)) rfl ?_
      show Own.Fin p e below (T6.setTop (mkF m 17 #[.val (.int p1), .val (.ref b1), .val (.int (6 : Int32)), .val (.int (2 : Int32)), .val (.ref aJ)] [(.ref aU)])) _
      refine Own.go (fun t k => XS.astore X6.here hx rfl (hb hby d1_17) rfl rfl (l' := #[.val (.int p1), .val (.ref b1), .val (.int (6 : Int32)), .val (.int (2 : Int32)), .val (.ref aU)]) rfl k) ?_
      show Own.Fin p e below (T6.setTop (mkF m 19 #[.val (.int p1), .val (.ref b1), .val (.int (6 : Int32)), .val (.int (2 : Int32)), .val (.ref aU)] [])) _
      refine Own.go (fun t k => XS.aload X6.here hx rfl (hb hby d1_19) rfl rfl k) ?_
      show Own.Fin p e below (T6.setTop (mkF m 21 #[.val (.int p1), .val (.ref b1), .val (.int (6 : Int32)), .val (.int (2 : Int32)), .val (.ref aU)] [(.ref aU)])) _
      obtain ⟨T9, X9, e9, st9⟩ := getF X6 hx hZ hown (host := "") (Or.inl (hw _ (List.mem_of_getElem? (i := 25) rfl))) Via.refl e6 (F_aU.ext O1.2) (g := (mkF m 21 #[.val (.int p1), .val (.ref b1), .val (.int (6 : Int32)), .val (.int (2 : Int32)), .val (.ref aU)] [(.ref aU)])) rfl rfl (hb hby d1_21)
      refine Own.go st9 ?_
      show Own.Fin p e below (T9.setTop (mkF m 24 #[.val (.int p1), .val (.ref b1), .val (.int (6 : Int32)), .val (.int (2 : Int32)), .val (.ref aU)] [(.int (2 : Int32))])) _
      refine Own.go (fun t k => XS.iloadN X9.here hx rfl (hb hby d1_24) rfl k) ?_
      show Own.Fin p e below (T9.setTop (mkF m 25 #[.val (.int p1), .val (.ref b1), .val (.int (6 : Int32)), .val (.int (2 : Int32)), .val (.ref aU)] [(.int p1), (.int (2 : Int32))])) _
      by_cases hc25_9 : (2 : Int32) = p1
      · skip
        refine Own.go (fun t k => XS.icmpNo X9.here hx rfl (hb hby d1_25) rfl (teq hc25_9).2 k) ?_
        show Own.Fin p e below (T9.setTop (mkF m 28 #[.val (.int p1), .val (.ref b1), .val (.int (6 : Int32)), .val (.int (2 : Int32)), .val (.ref aU)] [])) _
        refine Own.go (fun t k => XS.aload X9.here hx rfl (hb hby d1_28) rfl rfl k) ?_
        show Own.Fin p e below (T9.setTop (mkF m 30 #[.val (.int p1), .val (.ref b1), .val (.int (6 : Int32)), .val (.int (2 : Int32)), .val (.ref aU)] [(.ref aU)])) _
        refine Own.retR X9 hx Bd.notSynchronized Bd.returns rfl rfl (hb hby d1_30) (by decide) (by decide) ?_
        exact ⟨by rw [show F_of p1 aS aJ aU aR aQ = aU by rw [F_of, if_neg hc25_3, if_neg hc25_6, if_pos hc25_9]], N1, by first | exact KK1 | (rw [e9]; exact KK1)⟩
      · skip
        refine Own.go (fun t k => XS.icmpYes X9.here hx rfl (pc0 := 25) (pc' := 31) rfl (hb hby d1_25) rfl (feq hc25_9).2 (by decide) (by decide) k) ?_
        show Own.Fin p e below (T9.setTop (mkF m 31 #[.val (.int p1), .val (.ref b1), .val (.int (6 : Int32)), .val (.int (2 : Int32)), .val (.ref aU)] [])) _
        refine Own.go (fun t k => XS.iinc X9.here hx rfl (hb hby d1_31) rfl (l' := #[.val (.int p1), .val (.ref b1), .val (.int (6 : Int32)), .val (.int (3 : Int32)), .val (.ref aU)]) rfl k) ?_
        show Own.Fin p e below (T9.setTop (mkF m 34 #[.val (.int p1), .val (.ref b1), .val (.int (6 : Int32)), .val (.int (3 : Int32)), .val (.ref aU)] [])) _
        refine Own.go (fun t k => XS.goto X9.here hx rfl (pc0 := 34) (pc' := 9) rfl (hb hby d1_34) (by decide) (by decide) k) ?_
        show Own.Fin p e below (T9.setTop (mkF m 9 #[.val (.int p1), .val (.ref b1), .val (.int (6 : Int32)), .val (.int (3 : Int32)), .val (.ref aU)] [])) _
        refine Own.go (fun t k => XS.iloadN X9.here hx rfl (hb hby d1_9) rfl k) ?_
        show Own.Fin p e below (T9.setTop (mkF m 10 #[.val (.int p1), .val (.ref b1), .val (.int (6 : Int32)), .val (.int (3 : Int32)), .val (.ref aU)] [(.int (3 : Int32))])) _
        refine Own.go (fun t k => XS.iloadN X9.here hx rfl (hb hby d1_10) rfl k) ?_
        show Own.Fin p e below (T9.setTop (mkF m 11 #[.val (.int p1), .val (.ref b1), .val (.int (6 : Int32)), .val (.int (3 : Int32)), .val (.ref aU)] [(.int (6 : Int32)), (.int (3 : Int32))])) _
        have hc11_10 : (3 : Int32) < (6 : Int32) := by decide
        refine Own.go (fun t k => XS.icmpNo X9.here hx rfl (hb hby d1_11) rfl (tlt hc11_10).2.1 k) ?_
        show Own.Fin p e below (T9.setTop (mkF m 14 #[.val (.int p1), .val (.ref b1), .val (.int (6 : Int32)), .val (.int (3 : Int32)), .val (.ref aU)] [])) _
        refine Own.go (fun t k => XS.aloadN X9.here hx rfl (hb hby d1_14) rfl rfl k) ?_
        show Own.Fin p e below (T9.setTop (mkF m 15 #[.val (.int p1), .val (.ref b1), .val (.int (6 : Int32)), .val (.int (3 : Int32)), .val (.ref aU)] [(.ref b1)])) _
        refine Own.go (fun t k => XS.iloadN X9.here hx rfl (hb hby d1_15) rfl k) ?_
        show Own.Fin p e below (T9.setTop (mkF m 16 #[.val (.int p1), .val (.ref b1), .val (.int (6 : Int32)), .val (.int (3 : Int32)), .val (.ref aU)] [(.int (3 : Int32)), (.ref b1)])) _
        refine Own.ldR X9 hx hZ e9 V1 rfl (hb hby d1_16) ⟨by decide, by decide⟩ (w := (.ref aR)) rfl ?_
        show Own.Fin p e below (T9.setTop (mkF m 17 #[.val (.int p1), .val (.ref b1), .val (.int (6 : Int32)), .val (.int (3 : Int32)), .val (.ref aU)] [(.ref aR)])) _
        refine Own.go (fun t k => XS.astore X9.here hx rfl (hb hby d1_17) rfl rfl (l' := #[.val (.int p1), .val (.ref b1), .val (.int (6 : Int32)), .val (.int (3 : Int32)), .val (.ref aR)]) rfl k) ?_
        show Own.Fin p e below (T9.setTop (mkF m 19 #[.val (.int p1), .val (.ref b1), .val (.int (6 : Int32)), .val (.int (3 : Int32)), .val (.ref aR)] [])) _
        refine Own.go (fun t k => XS.aload X9.here hx rfl (hb hby d1_19) rfl rfl k) ?_
        show Own.Fin p e below (T9.setTop (mkF m 21 #[.val (.int p1), .val (.ref b1), .val (.int (6 : Int32)), .val (.int (3 : Int32)), .val (.ref aR)] [(.ref aR)])) _
        obtain ⟨T12, X12, e12, st12⟩ := getF X9 hx hZ hown (host := "") (Or.inl (hw _ (List.mem_of_getElem? (i := 25) rfl))) Via.refl e9 (F_aR.ext O1.2) (g := (mkF m 21 #[.val (.int p1), .val (.ref b1), .val (.int (6 : Int32)), .val (.int (3 : Int32)), .val (.ref aR)] [(.ref aR)])) rfl rfl (hb hby d1_21)
        refine Own.go st12 ?_
        show Own.Fin p e below (T12.setTop (mkF m 24 #[.val (.int p1), .val (.ref b1), .val (.int (6 : Int32)), .val (.int (3 : Int32)), .val (.ref aR)] [(.int (3 : Int32))])) _
        refine Own.go (fun t k => XS.iloadN X12.here hx rfl (hb hby d1_24) rfl k) ?_
        show Own.Fin p e below (T12.setTop (mkF m 25 #[.val (.int p1), .val (.ref b1), .val (.int (6 : Int32)), .val (.int (3 : Int32)), .val (.ref aR)] [(.int p1), (.int (3 : Int32))])) _
        by_cases hc25_12 : (3 : Int32) = p1
        · skip
          refine Own.go (fun t k => XS.icmpNo X12.here hx rfl (hb hby d1_25) rfl (teq hc25_12).2 k) ?_
          show Own.Fin p e below (T12.setTop (mkF m 28 #[.val (.int p1), .val (.ref b1), .val (.int (6 : Int32)), .val (.int (3 : Int32)), .val (.ref aR)] [])) _
          refine Own.go (fun t k => XS.aload X12.here hx rfl (hb hby d1_28) rfl rfl k) ?_
          show Own.Fin p e below (T12.setTop (mkF m 30 #[.val (.int p1), .val (.ref b1), .val (.int (6 : Int32)), .val (.int (3 : Int32)), .val (.ref aR)] [(.ref aR)])) _
          refine Own.retR X12 hx Bd.notSynchronized Bd.returns rfl rfl (hb hby d1_30) (by decide) (by decide) ?_
          exact ⟨by rw [show F_of p1 aS aJ aU aR aQ = aR by rw [F_of, if_neg hc25_3, if_neg hc25_6, if_neg hc25_9, if_pos hc25_12]], N1, by first | exact KK1 | (rw [e12]; exact KK1)⟩
        · skip
          refine Own.go (fun t k => XS.icmpYes X12.here hx rfl (pc0 := 25) (pc' := 31) rfl (hb hby d1_25) rfl (feq hc25_12).2 (by decide) (by decide) k) ?_
          show Own.Fin p e below (T12.setTop (mkF m 31 #[.val (.int p1), .val (.ref b1), .val (.int (6 : Int32)), .val (.int (3 : Int32)), .val (.ref aR)] [])) _
          refine Own.go (fun t k => XS.iinc X12.here hx rfl (hb hby d1_31) rfl (l' := #[.val (.int p1), .val (.ref b1), .val (.int (6 : Int32)), .val (.int (4 : Int32)), .val (.ref aR)]) rfl k) ?_
          show Own.Fin p e below (T12.setTop (mkF m 34 #[.val (.int p1), .val (.ref b1), .val (.int (6 : Int32)), .val (.int (4 : Int32)), .val (.ref aR)] [])) _
          refine Own.go (fun t k => XS.goto X12.here hx rfl (pc0 := 34) (pc' := 9) rfl (hb hby d1_34) (by decide) (by decide) k) ?_
          show Own.Fin p e below (T12.setTop (mkF m 9 #[.val (.int p1), .val (.ref b1), .val (.int (6 : Int32)), .val (.int (4 : Int32)), .val (.ref aR)] [])) _
          refine Own.go (fun t k => XS.iloadN X12.here hx rfl (hb hby d1_9) rfl k) ?_
          show Own.Fin p e below (T12.setTop (mkF m 10 #[.val (.int p1), .val (.ref b1), .val (.int (6 : Int32)), .val (.int (4 : Int32)), .val (.ref aR)] [(.int (4 : Int32))])) _
          refine Own.go (fun t k => XS.iloadN X12.here hx rfl (hb hby d1_10) rfl k) ?_
          show Own.Fin p e below (T12.setTop (mkF m 11 #[.val (.int p1), .val (.ref b1), .val (.int (6 : Int32)), .val (.int (4 : Int32)), .val (.ref aR)] [(.int (6 : Int32)), (.int (4 : Int32))])) _
          have hc11_13 : (4 : Int32) < (6 : Int32) := by decide
          refine Own.go (fun t k => XS.icmpNo X12.here hx rfl (hb hby d1_11) rfl (tlt hc11_13).2.1 k) ?_
          show Own.Fin p e below (T12.setTop (mkF m 14 #[.val (.int p1), .val (.ref b1), .val (.int (6 : Int32)), .val (.int (4 : Int32)), .val (.ref aR)] [])) _
          refine Own.go (fun t k => XS.aloadN X12.here hx rfl (hb hby d1_14) rfl rfl k) ?_
          show Own.Fin p e below (T12.setTop (mkF m 15 #[.val (.int p1), .val (.ref b1), .val (.int (6 : Int32)), .val (.int (4 : Int32)), .val (.ref aR)] [(.ref b1)])) _
          refine Own.go (fun t k => XS.iloadN X12.here hx rfl (hb hby d1_15) rfl k) ?_
          show Own.Fin p e below (T12.setTop (mkF m 16 #[.val (.int p1), .val (.ref b1), .val (.int (6 : Int32)), .val (.int (4 : Int32)), .val (.ref aR)] [(.int (4 : Int32)), (.ref b1)])) _
          refine Own.ldR X12 hx hZ e12 V1 rfl (hb hby d1_16) ⟨by decide, by decide⟩ (w := (.ref aQ)) rfl ?_
          show Own.Fin p e below (T12.setTop (mkF m 17 #[.val (.int p1), .val (.ref b1), .val (.int (6 : Int32)), .val (.int (4 : Int32)), .val (.ref aR)] [(.ref aQ)])) _
          refine Own.go (fun t k => XS.astore X12.here hx rfl (hb hby d1_17) rfl rfl (l' := #[.val (.int p1), .val (.ref b1), .val (.int (6 : Int32)), .val (.int (4 : Int32)), .val (.ref aQ)]) rfl k) ?_
          show Own.Fin p e below (T12.setTop (mkF m 19 #[.val (.int p1), .val (.ref b1), .val (.int (6 : Int32)), .val (.int (4 : Int32)), .val (.ref aQ)] [])) _
          refine Own.go (fun t k => XS.aload X12.here hx rfl (hb hby d1_19) rfl rfl k) ?_
          show Own.Fin p e below (T12.setTop (mkF m 21 #[.val (.int p1), .val (.ref b1), .val (.int (6 : Int32)), .val (.int (4 : Int32)), .val (.ref aQ)] [(.ref aQ)])) _
          obtain ⟨T15, X15, e15, st15⟩ := getF X12 hx hZ hown (host := "") (Or.inl (hw _ (List.mem_of_getElem? (i := 25) rfl))) Via.refl e12 (F_aQ.ext O1.2) (g := (mkF m 21 #[.val (.int p1), .val (.ref b1), .val (.int (6 : Int32)), .val (.int (4 : Int32)), .val (.ref aQ)] [(.ref aQ)])) rfl rfl (hb hby d1_21)
          refine Own.go st15 ?_
          show Own.Fin p e below (T15.setTop (mkF m 24 #[.val (.int p1), .val (.ref b1), .val (.int (6 : Int32)), .val (.int (4 : Int32)), .val (.ref aQ)] [(.int (4 : Int32))])) _
          refine Own.go (fun t k => XS.iloadN X15.here hx rfl (hb hby d1_24) rfl k) ?_
          show Own.Fin p e below (T15.setTop (mkF m 25 #[.val (.int p1), .val (.ref b1), .val (.int (6 : Int32)), .val (.int (4 : Int32)), .val (.ref aQ)] [(.int p1), (.int (4 : Int32))])) _
          by_cases hc25_15 : (4 : Int32) = p1
          · skip
            refine Own.go (fun t k => XS.icmpNo X15.here hx rfl (hb hby d1_25) rfl (teq hc25_15).2 k) ?_
            show Own.Fin p e below (T15.setTop (mkF m 28 #[.val (.int p1), .val (.ref b1), .val (.int (6 : Int32)), .val (.int (4 : Int32)), .val (.ref aQ)] [])) _
            refine Own.go (fun t k => XS.aload X15.here hx rfl (hb hby d1_28) rfl rfl k) ?_
            show Own.Fin p e below (T15.setTop (mkF m 30 #[.val (.int p1), .val (.ref b1), .val (.int (6 : Int32)), .val (.int (4 : Int32)), .val (.ref aQ)] [(.ref aQ)])) _
            refine Own.retR X15 hx Bd.notSynchronized Bd.returns rfl rfl (hb hby d1_30) (by decide) (by decide) ?_
            exact ⟨by rw [show F_of p1 aS aJ aU aR aQ = aQ by rw [F_of, if_neg hc25_3, if_neg hc25_6, if_neg hc25_9, if_neg hc25_12, if_pos hc25_15]], N1, by first | exact KK1 | (rw [e15]; exact KK1)⟩
          · skip
            refine Own.go (fun t k => XS.icmpYes X15.here hx rfl (pc0 := 25) (pc' := 31) rfl (hb hby d1_25) rfl (feq hc25_15).2 (by decide) (by decide) k) ?_
            show Own.Fin p e below (T15.setTop (mkF m 31 #[.val (.int p1), .val (.ref b1), .val (.int (6 : Int32)), .val (.int (4 : Int32)), .val (.ref aQ)] [])) _
            refine Own.go (fun t k => XS.iinc X15.here hx rfl (hb hby d1_31) rfl (l' := #[.val (.int p1), .val (.ref b1), .val (.int (6 : Int32)), .val (.int (5 : Int32)), .val (.ref aQ)]) rfl k) ?_
            show Own.Fin p e below (T15.setTop (mkF m 34 #[.val (.int p1), .val (.ref b1), .val (.int (6 : Int32)), .val (.int (5 : Int32)), .val (.ref aQ)] [])) _
            refine Own.go (fun t k => XS.goto X15.here hx rfl (pc0 := 34) (pc' := 9) rfl (hb hby d1_34) (by decide) (by decide) k) ?_
            show Own.Fin p e below (T15.setTop (mkF m 9 #[.val (.int p1), .val (.ref b1), .val (.int (6 : Int32)), .val (.int (5 : Int32)), .val (.ref aQ)] [])) _
            refine Own.go (fun t k => XS.iloadN X15.here hx rfl (hb hby d1_9) rfl k) ?_
            show Own.Fin p e below (T15.setTop (mkF m 10 #[.val (.int p1), .val (.ref b1), .val (.int (6 : Int32)), .val (.int (5 : Int32)), .val (.ref aQ)] [(.int (5 : Int32))])) _
            refine Own.go (fun t k => XS.iloadN X15.here hx rfl (hb hby d1_10) rfl k) ?_
            show Own.Fin p e below (T15.setTop (mkF m 11 #[.val (.int p1), .val (.ref b1), .val (.int (6 : Int32)), .val (.int (5 : Int32)), .val (.ref aQ)] [(.int (6 : Int32)), (.int (5 : Int32))])) _
            have hc11_16 : (5 : Int32) < (6 : Int32) := by decide
            refine Own.go (fun t k => XS.icmpNo X15.here hx rfl (hb hby d1_11) rfl (tlt hc11_16).2.1 k) ?_
            show Own.Fin p e below (T15.setTop (mkF m 14 #[.val (.int p1), .val (.ref b1), .val (.int (6 : Int32)), .val (.int (5 : Int32)), .val (.ref aQ)] [])) _
            refine Own.go (fun t k => XS.aloadN X15.here hx rfl (hb hby d1_14) rfl rfl k) ?_
            show Own.Fin p e below (T15.setTop (mkF m 15 #[.val (.int p1), .val (.ref b1), .val (.int (6 : Int32)), .val (.int (5 : Int32)), .val (.ref aQ)] [(.ref b1)])) _
            refine Own.go (fun t k => XS.iloadN X15.here hx rfl (hb hby d1_15) rfl k) ?_
            show Own.Fin p e below (T15.setTop (mkF m 16 #[.val (.int p1), .val (.ref b1), .val (.int (6 : Int32)), .val (.int (5 : Int32)), .val (.ref aQ)] [(.int (5 : Int32)), (.ref b1)])) _
            refine Own.ldR X15 hx hZ e15 V1 rfl (hb hby d1_16) ⟨by decide, by decide⟩ (w := (.ref aN)) rfl ?_
            show Own.Fin p e below (T15.setTop (mkF m 17 #[.val (.int p1), .val (.ref b1), .val (.int (6 : Int32)), .val (.int (5 : Int32)), .val (.ref aQ)] [(.ref aN)])) _
            refine Own.go (fun t k => XS.astore X15.here hx rfl (hb hby d1_17) rfl rfl (l' := #[.val (.int p1), .val (.ref b1), .val (.int (6 : Int32)), .val (.int (5 : Int32)), .val (.ref aN)]) rfl k) ?_
            show Own.Fin p e below (T15.setTop (mkF m 19 #[.val (.int p1), .val (.ref b1), .val (.int (6 : Int32)), .val (.int (5 : Int32)), .val (.ref aN)] [])) _
            refine Own.go (fun t k => XS.aload X15.here hx rfl (hb hby d1_19) rfl rfl k) ?_
            show Own.Fin p e below (T15.setTop (mkF m 21 #[.val (.int p1), .val (.ref b1), .val (.int (6 : Int32)), .val (.int (5 : Int32)), .val (.ref aN)] [(.ref aN)])) _
            obtain ⟨T18, X18, e18, st18⟩ := getF X15 hx hZ hown (host := "") (Or.inl (hw _ (List.mem_of_getElem? (i := 25) rfl))) Via.refl e15 (F_aN.ext O1.2) (g := (mkF m 21 #[.val (.int p1), .val (.ref b1), .val (.int (6 : Int32)), .val (.int (5 : Int32)), .val (.ref aN)] [(.ref aN)])) rfl rfl (hb hby d1_21)
            refine Own.go st18 ?_
            show Own.Fin p e below (T18.setTop (mkF m 24 #[.val (.int p1), .val (.ref b1), .val (.int (6 : Int32)), .val (.int (5 : Int32)), .val (.ref aN)] [(.int (1 : Int32))])) _
            refine Own.go (fun t k => XS.iloadN X18.here hx rfl (hb hby d1_24) rfl k) ?_
            show Own.Fin p e below (T18.setTop (mkF m 25 #[.val (.int p1), .val (.ref b1), .val (.int (6 : Int32)), .val (.int (5 : Int32)), .val (.ref aN)] [(.int p1), (.int (1 : Int32))])) _
            have hc25_18 : ¬ ((1 : Int32) = p1) := hc25_6
            refine Own.go (fun t k => XS.icmpYes X18.here hx rfl (pc0 := 25) (pc' := 31) rfl (hb hby d1_25) rfl (feq hc25_18).2 (by decide) (by decide) k) ?_
            show Own.Fin p e below (T18.setTop (mkF m 31 #[.val (.int p1), .val (.ref b1), .val (.int (6 : Int32)), .val (.int (5 : Int32)), .val (.ref aN)] [])) _
            refine Own.go (fun t k => XS.iinc X18.here hx rfl (hb hby d1_31) rfl (l' := #[.val (.int p1), .val (.ref b1), .val (.int (6 : Int32)), .val (.int (6 : Int32)), .val (.ref aN)]) rfl k) ?_
            show Own.Fin p e below (T18.setTop (mkF m 34 #[.val (.int p1), .val (.ref b1), .val (.int (6 : Int32)), .val (.int (6 : Int32)), .val (.ref aN)] [])) _
            refine Own.go (fun t k => XS.goto X18.here hx rfl (pc0 := 34) (pc' := 9) rfl (hb hby d1_34) (by decide) (by decide) k) ?_
            show Own.Fin p e below (T18.setTop (mkF m 9 #[.val (.int p1), .val (.ref b1), .val (.int (6 : Int32)), .val (.int (6 : Int32)), .val (.ref aN)] [])) _
            refine Own.go (fun t k => XS.iloadN X18.here hx rfl (hb hby d1_9) rfl k) ?_
            show Own.Fin p e below (T18.setTop (mkF m 10 #[.val (.int p1), .val (.ref b1), .val (.int (6 : Int32)), .val (.int (6 : Int32)), .val (.ref aN)] [(.int (6 : Int32))])) _
            refine Own.go (fun t k => XS.iloadN X18.here hx rfl (hb hby d1_10) rfl k) ?_
            show Own.Fin p e below (T18.setTop (mkF m 11 #[.val (.int p1), .val (.ref b1), .val (.int (6 : Int32)), .val (.int (6 : Int32)), .val (.ref aN)] [(.int (6 : Int32)), (.int (6 : Int32))])) _
            have hc11_19 : ¬ ((6 : Int32) < (6 : Int32)) := by decide
            refine Own.go (fun t k => XS.icmpYes X18.here hx rfl (pc0 := 11) (pc' := 37) rfl (hb hby d1_11) rfl (flt hc11_19).2.1 (by decide) (by decide) k) ?_
            show Own.Fin p e below (T18.setTop (mkF m 37 #[.val (.int p1), .val (.ref b1), .val (.int (6 : Int32)), .val (.int (6 : Int32)), .val (.ref aN)] [])) _
            obtain ⟨T21, X21, e21, st21⟩ := getS2 X18 hx hZ hown (host := "") (Or.inl (hw _ (List.mem_of_getElem? (i := 34) rfl))) Via.refl e18 (S_aJ.ext O1.2) (g := (mkF m 37 #[.val (.int p1), .val (.ref b1), .val (.int (6 : Int32)), .val (.int (6 : Int32)), .val (.ref aN)] [])) rfl (hb hby d1_37)
            refine Own.go st21 ?_
            show Own.Fin p e below (T21.setTop (mkF m 40 #[.val (.int p1), .val (.ref b1), .val (.int (6 : Int32)), .val (.int (6 : Int32)), .val (.ref aN)] [(.ref aJ)])) _
            refine Own.retR X21 hx Bd.notSynchronized Bd.returns rfl rfl (hb hby d1_40) (by decide) (by decide) ?_
            exact ⟨by rw [show F_of p1 aS aJ aU aR aQ = aJ by rw [F_of, if_neg hc25_3, if_neg hc25_6, if_neg hc25_9, if_neg hc25_12, if_neg hc25_15]], N1, by first | exact KK1 | (rw [e21]; exact KK1)⟩
theorem d3_0 : decode method_2_code 0 = .ok (.iload_n 0, 1) := by decide +kernel
theorem d3_1 : decode method_2_code 1 = .ok (.ifCond .ne 7, 3) := by decide +kernel
theorem d3_4 : decode method_2_code 4 = .ok (.getstatic 7, 3) := by decide +kernel
theorem d3_7 : decode method_2_code 7 = .ok (.areturn, 1) := by decide +kernel
theorem d3_8 : decode method_2_code 8 = .ok (.iload_n 0, 1) := by decide +kernel
theorem d3_9 : decode method_2_code 9 = .ok (.iconst 2, 1) := by decide +kernel
theorem d3_10 : decode method_2_code 10 = .ok (.if_icmp .ne 7, 3) := by decide +kernel
theorem d3_13 : decode method_2_code 13 = .ok (.getstatic 13, 3) := by decide +kernel
theorem d3_16 : decode method_2_code 16 = .ok (.areturn, 1) := by decide +kernel
theorem d3_17 : decode method_2_code 17 = .ok (.iload_n 0, 1) := by decide +kernel
theorem d3_18 : decode method_2_code 18 = .ok (.iconst 3, 1) := by decide +kernel
theorem d3_19 : decode method_2_code 19 = .ok (.if_icmp .ne 7, 3) := by decide +kernel
theorem d3_22 : decode method_2_code 22 = .ok (.getstatic 16, 3) := by decide +kernel
theorem d3_25 : decode method_2_code 25 = .ok (.areturn, 1) := by decide +kernel
theorem d3_26 : decode method_2_code 26 = .ok (.iload_n 0, 1) := by decide +kernel
theorem d3_27 : decode method_2_code 27 = .ok (.iconst 4, 1) := by decide +kernel
theorem d3_28 : decode method_2_code 28 = .ok (.if_icmp .ne 7, 3) := by decide +kernel
theorem d3_31 : decode method_2_code 31 = .ok (.getstatic 19, 3) := by decide +kernel
theorem d3_34 : decode method_2_code 34 = .ok (.areturn, 1) := by decide +kernel
theorem d3_35 : decode method_2_code 35 = .ok (.getstatic 22, 3) := by decide +kernel
theorem d3_38 : decode method_2_code 38 = .ok (.areturn, 1) := by decide +kernel
theorem pn_3 : plainName "com/example/vouchsafe/vouchsafe/cli/ExitCodeOfPinLaw" = true := by first | (simp [plainName, overriddenIn]; done) | decide +kernel
theorem ef_3 (m : MethodId) (p1 : Int32) : entryFrame m #[(.int p1)] 1 = mkF m 0 #[.val (.int p1)] [] := by first | (simp [entryFrame, mkF, argsToLocals, Value.category]; done) | rfl
def Q3 (Z : State) (p1 : Int32) (aS aJ aU aR aQ : Addr) (h0 : Heap) (n0 : Nat) : Option Value → Heap → List Loc → Prop := fun v h L => v = some (.ref (F_exp p1 aS aJ aU aR aQ)) ∧ Fr n0 L ∧ h = h0
set_option maxRecDepth 65536 in
set_option maxHeartbeats 40000000 in
theorem rm3 (l : Launch) (Z : State) (a0 : Array Value) (hw : ∀ d ∈ tables_1, d.before a0 Z = true) (ws : List Jvm.Cond) (p1 : Int32) (aS aJ aU aR aQ : Addr) (h0 : Heap) (n0 : Nat) (Z0 : n0 ≤ h0.size) (O0 : Old Z n0 h0) (S_aS : Sta Z Z.heap "com/example/vouchsafe/vouchsafe/cli/ExitCode" "SUCCESS" "Lcom/example/vouchsafe/vouchsafe/cli/ExitCode;" (.ref aS)) (S_aJ : Sta Z Z.heap "com/example/vouchsafe/vouchsafe/cli/ExitCode" "JOB_FAILED" "Lcom/example/vouchsafe/vouchsafe/cli/ExitCode;" (.ref aJ)) (S_aU : Sta Z Z.heap "com/example/vouchsafe/vouchsafe/cli/ExitCode" "USAGE_ERROR" "Lcom/example/vouchsafe/vouchsafe/cli/ExitCode;" (.ref aU)) (S_aR : Sta Z Z.heap "com/example/vouchsafe/vouchsafe/cli/ExitCode" "REFUSED" "Lcom/example/vouchsafe/vouchsafe/cli/ExitCode;" (.ref aR)) (S_aQ : Sta Z Z.heap "com/example/vouchsafe/vouchsafe/cli/ExitCode" "QUOTA_REFUSED" "Lcom/example/vouchsafe/vouchsafe/cli/ExitCode;" (.ref aQ)) :
    MetFree l (⟨"com/example/vouchsafe/vouchsafe/cli/ExitCodeOfPinLaw", "expected", "(I)Lcom/example/vouchsafe/vouchsafe/cli/ExitCode;"⟩ : MethodName) (head1 (Jvm.Cond.code (⟨"com/example/vouchsafe/vouchsafe/cli/ExitCodeOfPinLaw", "expected", "(I)Lcom/example/vouchsafe/vouchsafe/cli/ExitCode;"⟩ : MethodName) method_2_code 1 (some (.object "com/example/vouchsafe/vouchsafe/cli/ExitCode")) :: ws) ({ frames := 0, cells := 0, slots := 0, locals := 0 } : Room)) (fun a U => a = #[(.int p1)] ∧ Z.Warmed39 U.vm ∧ U.heap = h0) (fun _ _ _ _ _ => True) (fun _ U o U' => ∃ v L, o = .returned v ∧ (Q3 Z p1 aS aJ aU aR aQ h0 n0) v U'.heap L ∧ FrameEnd U o U' L ({ frames := 0, cells := 0, slots := 0, locals := 0 } : Room).cells ({ frames := 0, cells := 0, slots := 0, locals := 0 } : Room).slots) := by
  refine MetFree.of_bodySF (plainFor_of_name pn_3) hisR ?_
  intro p e s m args below meth c s₁ Bd hml0 hP hK
  obtain ⟨rfl, hZ, hh⟩ := hP
  have hx := Bd.exec
  have hby := Bd.bytes
  have hml : c.maxLocals = 1 := hml0
  have hown : s.vm.findClass "com/example/vouchsafe/vouchsafe/cli/ExitCodeOfPinLaw" = some m.cls := findClass_of_methodNamed Bd.named
  have hnm := (name_of_methodNamed Bd.named Bd.method).1
  have X0 : Stand p l e ({ frames := 0, cells := 0, slots := 0, locals := 0 } : Room) s m #[(.int p1)] below meth c s₁ [] 0 0 := Stand.of_body Bd
  have e0 : s₁.heap = h0 := by rw [← hh, Bd.state]; rfl
  have N0 := Fr.nil n0
  show Own.Fin p e below _ (Own.Post s (Q3 Z p1 aS aJ aU aR aQ h0 n0) ({ frames := 0, cells := 0, slots := 0, locals := 0 } : Room).cells ({ frames := 0, cells := 0, slots := 0, locals := 0 } : Room).slots)
  refine Own.start (ef_3 m p1) ?_
  show Own.Fin p e below (s₁.setTop (mkF m 0 #[.val (.int p1)] [])) _
  refine Own.go (fun t k => XS.iloadN X0.here hx rfl (hb hby d3_0) rfl k) ?_
  show Own.Fin p e below (s₁.setTop (mkF m 1 #[.val (.int p1)] [(.int p1)])) _
  by_cases hc1_0 : p1 = (0 : Int32)
  · skip
    refine Own.go (fun t k => XS.ifNo X0.here hx rfl (hb hby d3_1) rfl ((if0 _ _).trans (teq hc1_0).2) k) ?_
    show Own.Fin p e below (s₁.setTop (mkF m 4 #[.val (.int p1)] [])) _
    obtain ⟨T2, X2, e2, st2⟩ := getS2 X0 hx hZ hown (host := "") (Or.inl (hw _ (List.mem_of_getElem? (i := 32) rfl))) Via.refl e0 (S_aS.ext O0.2) (g := (mkF m 4 #[.val (.int p1)] [])) rfl (hb hby d3_4)
    refine Own.go st2 ?_
    show Own.Fin p e below (T2.setTop (mkF m 7 #[.val (.int p1)] [(.ref aS)])) _
    refine Own.retR X2 hx Bd.notSynchronized Bd.returns rfl rfl (hb hby d3_7) (by decide) (by decide) ?_
    exact ⟨by rw [show F_exp p1 aS aJ aU aR aQ = aS by rw [F_exp, if_pos hc1_0]], N0, e2⟩
  · skip
    refine Own.go (fun t k => XS.ifYes X0.here hx rfl (pc0 := 1) (pc' := 8) rfl (hb hby d3_1) rfl ((if0 _ _).trans (feq hc1_0).2) (by decide) (by decide) k) ?_
    show Own.Fin p e below (s₁.setTop (mkF m 8 #[.val (.int p1)] [])) _
    refine Own.go (fun t k => XS.iloadN X0.here hx rfl (hb hby d3_8) rfl k) ?_
    show Own.Fin p e below (s₁.setTop (mkF m 9 #[.val (.int p1)] [(.int p1)])) _
    refine Own.go (fun t k => XS.iconst X0.here hx rfl (hb hby d3_9) k) ?_
    show Own.Fin p e below (s₁.setTop (mkF m 10 #[.val (.int p1)] [(.int (2 : Int32)), (.int p1)])) _
    by_cases hc10_2 : p1 = (2 : Int32)
    · skip
      refine Own.go (fun t k => XS.icmpNo X0.here hx rfl (hb hby d3_10) rfl (teq hc10_2).2 k) ?_
      show Own.Fin p e below (s₁.setTop (mkF m 13 #[.val (.int p1)] [])) _
      obtain ⟨T4, X4, e4, st4⟩ := getS2 X0 hx hZ hown (host := "") (Or.inl (hw _ (List.mem_of_getElem? (i := 31) rfl))) Via.refl e0 (S_aU.ext O0.2) (g := (mkF m 13 #[.val (.int p1)] [])) rfl (hb hby d3_13)
      refine Own.go st4 ?_
      show Own.Fin p e below (T4.setTop (mkF m 16 #[.val (.int p1)] [(.ref aU)])) _
      refine Own.retR X4 hx Bd.notSynchronized Bd.returns rfl rfl (hb hby d3_16) (by decide) (by decide) ?_
      exact ⟨by rw [show F_exp p1 aS aJ aU aR aQ = aU by rw [F_exp, if_neg hc1_0, if_pos hc10_2]], N0, e4⟩
    · skip
      refine Own.go (fun t k => XS.icmpYes X0.here hx rfl (pc0 := 10) (pc' := 17) rfl (hb hby d3_10) rfl (feq hc10_2).2 (by decide) (by decide) k) ?_
      show Own.Fin p e below (s₁.setTop (mkF m 17 #[.val (.int p1)] [])) _
      refine Own.go (fun t k => XS.iloadN X0.here hx rfl (hb hby d3_17) rfl k) ?_
      show Own.Fin p e below (s₁.setTop (mkF m 18 #[.val (.int p1)] [(.int p1)])) _
      refine Own.go (fun t k => XS.iconst X0.here hx rfl (hb hby d3_18) k) ?_
      show Own.Fin p e below (s₁.setTop (mkF m 19 #[.val (.int p1)] [(.int (3 : Int32)), (.int p1)])) _
      by_cases hc19_4 : p1 = (3 : Int32)
      · skip
        refine Own.go (fun t k => XS.icmpNo X0.here hx rfl (hb hby d3_19) rfl (teq hc19_4).2 k) ?_
        show Own.Fin p e below (s₁.setTop (mkF m 22 #[.val (.int p1)] [])) _
        obtain ⟨T6, X6, e6, st6⟩ := getS2 X0 hx hZ hown (host := "") (Or.inl (hw _ (List.mem_of_getElem? (i := 33) rfl))) Via.refl e0 (S_aR.ext O0.2) (g := (mkF m 22 #[.val (.int p1)] [])) rfl (hb hby d3_22)
        refine Own.go st6 ?_
        show Own.Fin p e below (T6.setTop (mkF m 25 #[.val (.int p1)] [(.ref aR)])) _
        refine Own.retR X6 hx Bd.notSynchronized Bd.returns rfl rfl (hb hby d3_25) (by decide) (by decide) ?_
        exact ⟨by rw [show F_exp p1 aS aJ aU aR aQ = aR by rw [F_exp, if_neg hc1_0, if_neg hc10_2, if_pos hc19_4]], N0, e6⟩
      · skip
        refine Own.go (fun t k => XS.icmpYes X0.here hx rfl (pc0 := 19) (pc' := 26) rfl (hb hby d3_19) rfl (feq hc19_4).2 (by decide) (by decide) k) ?_
        show Own.Fin p e below (s₁.setTop (mkF m 26 #[.val (.int p1)] [])) _
        refine Own.go (fun t k => XS.iloadN X0.here hx rfl (hb hby d3_26) rfl k) ?_
        show Own.Fin p e below (s₁.setTop (mkF m 27 #[.val (.int p1)] [(.int p1)])) _
        refine Own.go (fun t k => XS.iconst X0.here hx rfl (hb hby d3_27) k) ?_
        show Own.Fin p e below (s₁.setTop (mkF m 28 #[.val (.int p1)] [(.int (4 : Int32)), (.int p1)])) _
        by_cases hc28_6 : p1 = (4 : Int32)
        · skip
          refine Own.go (fun t k => XS.icmpNo X0.here hx rfl (hb hby d3_28) rfl (teq hc28_6).2 k) ?_
          show Own.Fin p e below (s₁.setTop (mkF m 31 #[.val (.int p1)] [])) _
          obtain ⟨T8, X8, e8, st8⟩ := getS2 X0 hx hZ hown (host := "") (Or.inl (hw _ (List.mem_of_getElem? (i := 36) rfl))) Via.refl e0 (S_aQ.ext O0.2) (g := (mkF m 31 #[.val (.int p1)] [])) rfl (hb hby d3_31)
          refine Own.go st8 ?_
          show Own.Fin p e below (T8.setTop (mkF m 34 #[.val (.int p1)] [(.ref aQ)])) _
          refine Own.retR X8 hx Bd.notSynchronized Bd.returns rfl rfl (hb hby d3_34) (by decide) (by decide) ?_
          exact ⟨by rw [show F_exp p1 aS aJ aU aR aQ = aQ by rw [F_exp, if_neg hc1_0, if_neg hc10_2, if_neg hc19_4, if_pos hc28_6]], N0, e8⟩
        · skip
          refine Own.go (fun t k => XS.icmpYes X0.here hx rfl (pc0 := 28) (pc' := 35) rfl (hb hby d3_28) rfl (feq hc28_6).2 (by decide) (by decide) k) ?_
          show Own.Fin p e below (s₁.setTop (mkF m 35 #[.val (.int p1)] [])) _
          obtain ⟨T9, X9, e9, st9⟩ := getS2 X0 hx hZ hown (host := "") (Or.inl (hw _ (List.mem_of_getElem? (i := 35) rfl))) Via.refl e0 (S_aJ.ext O0.2) (g := (mkF m 35 #[.val (.int p1)] [])) rfl (hb hby d3_35)
          refine Own.go st9 ?_
          show Own.Fin p e below (T9.setTop (mkF m 38 #[.val (.int p1)] [(.ref aJ)])) _
          refine Own.retR X9 hx Bd.notSynchronized Bd.returns rfl rfl (hb hby d3_38) (by decide) (by decide) ?_
          exact ⟨by rw [show F_exp p1 aS aJ aU aR aQ = aJ by rw [F_exp, if_neg hc1_0, if_neg hc10_2, if_neg hc19_4, if_neg hc28_6]], N0, e9⟩
theorem pd_1 : parseMethodDescriptor "(I)Lcom/example/vouchsafe/vouchsafe/cli/ExitCode;" = some ⟨[.int], some (.object "com/example/vouchsafe/vouchsafe/cli/ExitCode")⟩ := by decide +kernel
theorem pn_0 : plainName "com/example/vouchsafe/vouchsafe/cli/ExitCodeOfPinLaw" = true := by first | (simp [plainName, overriddenIn]; done) | decide +kernel
theorem ef_0 (m : MethodId) (p1 : Int32) (p2 : Int32) : entryFrame m #[(.int p1), (.int p2)] maxLocals = mkF m 0 #[.val (.int p1), .val (.int p2), .unset, .unset] [] := by first | (simp [entryFrame, mkF, argsToLocals, Value.category, maxLocals]; done) | rfl
def Q0 (Z : State) (p1 : Int32) (p2 : Int32) (va : Addr) (kA : ClassId) (aS aJ aU aR aQ aN : Addr) (h0 : Heap) (n0 : Nat) : Option Value → Heap → List Loc → Prop := fun v h L => v = some (.int 1) ∧ Fr n0 L
set_option maxRecDepth 65536 in
set_option maxHeartbeats 40000000 in
theorem rm0 (l : Launch) (Z : State) (a0 : Array Value) (hw : ∀ d ∈ tables_1, d.before a0 Z = true) (ws : List Jvm.Cond) (p1 : Int32) (p2 : Int32) (va : Addr) (kA : ClassId) (aS aJ aU aR aQ aN : Addr) (h0 : Heap) (n0 : Nat) (Z0 : n0 ≤ h0.size) (O0 : Old Z n0 h0) (SV : Sta Z Z.heap "com/example/vouchsafe/vouchsafe/cli/ExitCode" "$VALUES" "[Lcom/example/vouchsafe/vouchsafe/cli/ExitCode;" (.ref va)) (VA : Arv Z Z.heap va kA (.object "com/example/vouchsafe/vouchsafe/cli/ExitCode") (6 : Int32) [Value.ref aS, Value.ref aJ, Value.ref aU, Value.ref aR, Value.ref aQ, Value.ref aN] .null) (EA : Exa Z Z.heap va "[Lcom/example/vouchsafe/vouchsafe/cli/ExitCode;") (F_aS : Fld Z Z.heap aS "com/example/vouchsafe/vouchsafe/cli/ExitCode" "status" "I" (.int (0 : Int32))) (F_aJ : Fld Z Z.heap aJ "com/example/vouchsafe/vouchsafe/cli/ExitCode" "status" "I" (.int (1 : Int32))) (F_aU : Fld Z Z.heap aU "com/example/vouchsafe/vouchsafe/cli/ExitCode" "status" "I" (.int (2 : Int32))) (F_aR : Fld Z Z.heap aR "com/example/vouchsafe/vouchsafe/cli/ExitCode" "status" "I" (.int (3 : Int32))) (F_aQ : Fld Z Z.heap aQ "com/example/vouchsafe/vouchsafe/cli/ExitCode" "status" "I" (.int (4 : Int32))) (F_aN : Fld Z Z.heap aN "com/example/vouchsafe/vouchsafe/cli/ExitCode" "status" "I" (.int (1 : Int32))) (S_aS : Sta Z Z.heap "com/example/vouchsafe/vouchsafe/cli/ExitCode" "SUCCESS" "Lcom/example/vouchsafe/vouchsafe/cli/ExitCode;" (.ref aS)) (S_aJ : Sta Z Z.heap "com/example/vouchsafe/vouchsafe/cli/ExitCode" "JOB_FAILED" "Lcom/example/vouchsafe/vouchsafe/cli/ExitCode;" (.ref aJ)) (S_aU : Sta Z Z.heap "com/example/vouchsafe/vouchsafe/cli/ExitCode" "USAGE_ERROR" "Lcom/example/vouchsafe/vouchsafe/cli/ExitCode;" (.ref aU)) (S_aR : Sta Z Z.heap "com/example/vouchsafe/vouchsafe/cli/ExitCode" "REFUSED" "Lcom/example/vouchsafe/vouchsafe/cli/ExitCode;" (.ref aR)) (S_aQ : Sta Z Z.heap "com/example/vouchsafe/vouchsafe/cli/ExitCode" "QUOTA_REFUSED" "Lcom/example/vouchsafe/vouchsafe/cli/ExitCode;" (.ref aQ)) :
    MetFree l x (head1 (Jvm.Cond.code x code maxLocals ret :: ws) room_1) (fun a U => a = #[(.int p1), (.int p2)] ∧ Z.Warmed39 U.vm ∧ U.heap = h0) (fun _ _ _ _ _ => True) (fun _ U o U' => ∃ v L, o = .returned v ∧ (Q0 Z p1 p2 va kA aS aJ aU aR aQ aN h0 n0) v U'.heap L ∧ FrameEnd U o U' L room_1.cells room_1.slots) := by
  refine MetFree.of_bodySF (plainFor_of_name pn_0) hisR ?_
  intro p e s m args below meth c s₁ Bd hml0 hP hK
  obtain ⟨rfl, hZ, hh⟩ := hP
  have hx := Bd.exec
  have hby := Bd.bytes
  have hml : c.maxLocals = 4 := hml0
  have hown : s.vm.findClass "com/example/vouchsafe/vouchsafe/cli/ExitCodeOfPinLaw" = some m.cls := findClass_of_methodNamed Bd.named
  have hnm := (name_of_methodNamed Bd.named Bd.method).1
  have X0 : Stand p l e room_1 s m #[(.int p1), (.int p2)] below meth c s₁ [] 0 0 := Stand.of_body Bd
  have e0 : s₁.heap = h0 := by rw [← hh, Bd.state]; rfl
  have N0 := Fr.nil n0
  show Own.Fin p e below _ (Own.Post s (Q0 Z p1 p2 va kA aS aJ aU aR aQ aN h0 n0) room_1.cells room_1.slots)
  refine Own.start (ef_0 m p1 p2) ?_
  show Own.Fin p e below (s₁.setTop (mkF m 0 #[.val (.int p1), .val (.int p2), .unset, .unset] [])) _
  refine Own.go (fun t k => XS.iloadN X0.here hx rfl (hb hby at_0) rfl k) ?_
  show Own.Fin p e below (s₁.setTop (mkF m 1 #[.val (.int p1), .val (.int p2), .unset, .unset] [(.int p2)])) _
  refine Own.go (fun t k => XS.bipush X0.here hx rfl (hb hby at_1) k) ?_
  show Own.Fin p e below (s₁.setTop (mkF m 3 #[.val (.int p1), .val (.int p2), .unset, .unset] [(.int (8 : Int32)), (.int p2)])) _
  refine Own.go (fun t k => XS.iand X0.here hx rfl (hb hby at_3) rfl k) ?_
  show Own.Fin p e below (s₁.setTop (mkF m 4 #[.val (.int p1), .val (.int p2), .unset, .unset] [(.int (p2 &&& (8 : Int32)))])) _
  by_cases hc4_0 : (p2 &&& (8 : Int32)) = (0 : Int32)
  · skip
    refine Own.go (fun t k => XS.ifYes X0.here hx rfl (pc0 := 4) (pc' := 11) rfl (hb hby at_4) rfl ((if0 _ _).trans (teq hc4_0).1) (by decide) (by decide) k) ?_
    show Own.Fin p e below (s₁.setTop (mkF m 11 #[.val (.int p1), .val (.int p2), .unset, .unset] [])) _
    refine Own.go (fun t k => XS.iloadN X0.here hx rfl (hb hby at_11) rfl k) ?_
    show Own.Fin p e below (s₁.setTop (mkF m 12 #[.val (.int p1), .val (.int p2), .unset, .unset] [(.int p2)])) _
    refine Own.go (fun t k => XS.bipush X0.here hx rfl (hb hby at_12) k) ?_
    show Own.Fin p e below (s₁.setTop (mkF m 14 #[.val (.int p1), .val (.int p2), .unset, .unset] [(.int (7 : Int32)), (.int p2)])) _
    refine Own.go (fun t k => XS.iand X0.here hx rfl (hb hby at_14) rfl k) ?_
    show Own.Fin p e below (s₁.setTop (mkF m 15 #[.val (.int p1), .val (.int p2), .unset, .unset] [(.int (p2 &&& (7 : Int32)))])) _
    refine Own.go (fun t k => XS.iconst X0.here hx rfl (hb hby at_15) k) ?_
    show Own.Fin p e below (s₁.setTop (mkF m 16 #[.val (.int p1), .val (.int p2), .unset, .unset] [(.int (1 : Int32)), (.int (p2 &&& (7 : Int32)))])) _
    refine Own.go (fun t k => XS.isub X0.here hx rfl (hb hby at_16) rfl k) ?_
    show Own.Fin p e below (s₁.setTop (mkF m 17 #[.val (.int p1), .val (.int p2), .unset, .unset] [(.int ((p2 &&& (7 : Int32)) - (1 : Int32)))])) _
    generalize hv2 : ((p2 &&& (7 : Int32)) - (1 : Int32)) = v2
    refine Own.go (fun t k => XS.istoreN X0.here hx rfl (hb hby at_17) rfl (l' := #[.val (.int p1), .val (.int p2), .val (.int v2), .unset]) rfl k) ?_
    show Own.Fin p e below (s₁.setTop (mkF m 18 #[.val (.int p1), .val (.int p2), .val (.int v2), .unset] [])) _
    refine Own.go (fun t k => XS.iloadN X0.here hx rfl (hb hby at_18) rfl k) ?_
    show Own.Fin p e below (s₁.setTop (mkF m 19 #[.val (.int p1), .val (.int p2), .val (.int v2), .unset] [(.int v2)])) _
    refine Own.cS X0 hx hZ hown (hw _ (List.mem_of_getElem? (i := 0) rfl)) (hw _ (List.mem_of_getElem? (i := 1) rfl)) (hw _ (List.mem_of_getElem? (i := 2) rfl)) (hw _ (List.mem_of_getElem? (i := 3) rfl)) (by decide) (rm1 l Z a0 hw [] v2 va kA aS aJ aU aR aQ aN h0 n0 Z0 O0 SV VA EA F_aS F_aJ F_aU F_aR F_aQ F_aN S_aS S_aJ S_aU S_aR S_aQ) (by decide) (W := 0) (by decide) (argsL := [(.int v2)]) (rest := []) (by rw [hml]; rfl) (lenOf pd_1 rfl) rfl (Nat.le_of_eq rfl) (hb hby at_19) e0 (by decide) (by decide) ?_
    intro T3 L3 v3 X3 hQ3
    obtain ⟨rfl, N3q, K3q⟩ := hQ3
    have N3 := Fr.app N0 N3q
    have Z3 : n0 ≤ T3.heap.size := Nat.le_trans Z0 K3q.1
    have O3 := O0.keep K3q all0
    show Own.Fin p e below (T3.setTop (mkF m 22 #[.val (.int p1), .val (.int p2), .val (.int v2), .unset] [(.ref (F_of v2 aS aJ aU aR aQ))])) _
    refine Own.go (fun t k => XS.astoreN X3.here hx rfl (hb hby at_22) rfl rfl (l' := #[.val (.int p1), .val (.int p2), .val (.int v2), .val (.ref (F_of v2 aS aJ aU aR aQ))]) rfl k) ?_
    show Own.Fin p e below (T3.setTop (mkF m 23 #[.val (.int p1), .val (.int p2), .val (.int v2), .val (.ref (F_of v2 aS aJ aU aR aQ))] [])) _
    refine Own.go (fun t k => XS.aloadN X3.here hx rfl (hb hby at_23) rfl rfl k) ?_
    show Own.Fin p e below (T3.setTop (mkF m 24 #[.val (.int p1), .val (.int p2), .val (.int v2), .val (.ref (F_of v2 aS aJ aU aR aQ))] [(.ref (F_of v2 aS aJ aU aR aQ))])) _
    refine Own.go (fun t k => XS.iloadN X3.here hx rfl (hb hby at_24) rfl k) ?_
    show Own.Fin p e below (T3.setTop (mkF m 25 #[.val (.int p1), .val (.int p2), .val (.int v2), .val (.ref (F_of v2 aS aJ aU aR aQ))] [(.int v2), (.ref (F_of v2 aS aJ aU aR aQ))])) _
    refine Own.cS X3 hx hZ hown (hw _ (List.mem_of_getElem? (i := 27) rfl)) (hw _ (List.mem_of_getElem? (i := 28) rfl)) (hw _ (List.mem_of_getElem? (i := 29) rfl)) (hw _ (List.mem_of_getElem? (i := 30) rfl)) (by decide) (rm3 l Z a0 hw [] v2 aS aJ aU aR aQ T3.heap n0 Z3 O3 S_aS S_aJ S_aU S_aR S_aQ) (by decide) (W := 1) (by decide) (argsL := [(.int v2)]) (rest := [(.ref (F_of v2 aS aJ aU aR aQ))]) (by rw [hml]; rfl) (lenOf pd_1 rfl) rfl (Nat.le_of_eq rfl) (hb hby at_25) rfl (by decide) (by decide) ?_
    intro T4 L4 v4 X4 hQ4
    obtain ⟨rfl, N4q, e4⟩ := hQ4
    have N4 := Fr.app N3 N4q
    show Own.Fin p e below (T4.setTop (mkF m 28 #[.val (.int p1), .val (.int p2), .val (.int v2), .val (.ref (F_of v2 aS aJ aU aR aQ))] [(.ref (F_exp v2 aS aJ aU aR aQ)), (.ref (F_of v2 aS aJ aU aR aQ))])) _
    refine Own.go (fun t k => Jvm.RoadKit.acmp (g := (mkF m 28 #[.val (.int p1), .val (.int p2), .val (.int v2), .val (.ref (F_of v2 aS aJ aU aR aQ))] [(.ref (F_exp v2 aS aJ aU aR aQ)), (.ref (F_of v2 aS aJ aU aR aQ))])) X4 hx rfl rfl rfl (pc0 := 28) (pc' := 31) (same := true) rfl (hb hby at_28) rfl (decide_eq_true (congrArg Value.ref (ow_eqv _ _ _ _ _ _))) (by decide) (by decide) k) ?_
    show Own.Fin p e below (T4.setTop (mkF m 31 #[.val (.int p1), .val (.int p2), .val (.int v2), .val (.ref (F_of v2 aS aJ aU aR aQ))] [])) _
    refine Own.go (fun t k => XS.iconst X4.here hx rfl (hb hby at_31) k) ?_
    show Own.Fin p e below (T4.setTop (mkF m 32 #[.val (.int p1), .val (.int p2), .val (.int v2), .val (.ref (F_of v2 aS aJ aU aR aQ))] [(.int (1 : Int32))])) _
    refine Own.go (fun t k => XS.goto X4.here hx rfl (pc0 := 32) (pc' := 36) rfl (hb hby at_32) (by decide) (by decide) k) ?_
    show Own.Fin p e below (T4.setTop (mkF m 36 #[.val (.int p1), .val (.int p2), .val (.int v2), .val (.ref (F_of v2 aS aJ aU aR aQ))] [(.int (1 : Int32))])) _
    refine Own.retN X4 hx Bd.notSynchronized (t := .boolean) Bd.returns (by simp) (hb hby at_36) (by decide) (by decide) ?_
    exact ⟨rfl, N4⟩
  · skip
    refine Own.go (fun t k => XS.ifNo X0.here hx rfl (hb hby at_4) rfl ((if0 _ _).trans (feq hc4_0).1) k) ?_
    show Own.Fin p e below (s₁.setTop (mkF m 7 #[.val (.int p1), .val (.int p2), .unset, .unset] [])) _
    refine Own.go (fun t k => XS.iloadN X0.here hx rfl (hb hby at_7) rfl k) ?_
    show Own.Fin p e below (s₁.setTop (mkF m 8 #[.val (.int p1), .val (.int p2), .unset, .unset] [(.int p1)])) _
    refine Own.go (fun t k => XS.goto X0.here hx rfl (pc0 := 8) (pc' := 17) rfl (hb hby at_8) (by decide) (by decide) k) ?_
    show Own.Fin p e below (s₁.setTop (mkF m 17 #[.val (.int p1), .val (.int p2), .unset, .unset] [(.int p1)])) _
    generalize hv5 : p1 = v5
    refine Own.go (fun t k => XS.istoreN X0.here hx rfl (hb hby at_17) rfl (l' := #[.val (.int v5), .val (.int p2), .val (.int v5), .unset]) rfl k) ?_
    show Own.Fin p e below (s₁.setTop (mkF m 18 #[.val (.int v5), .val (.int p2), .val (.int v5), .unset] [])) _
    refine Own.go (fun t k => XS.iloadN X0.here hx rfl (hb hby at_18) rfl k) ?_
    show Own.Fin p e below (s₁.setTop (mkF m 19 #[.val (.int v5), .val (.int p2), .val (.int v5), .unset] [(.int v5)])) _
    refine Own.cS X0 hx hZ hown (hw _ (List.mem_of_getElem? (i := 0) rfl)) (hw _ (List.mem_of_getElem? (i := 1) rfl)) (hw _ (List.mem_of_getElem? (i := 2) rfl)) (hw _ (List.mem_of_getElem? (i := 3) rfl)) (by decide) (rm1 l Z a0 hw [] v5 va kA aS aJ aU aR aQ aN h0 n0 Z0 O0 SV VA EA F_aS F_aJ F_aU F_aR F_aQ F_aN S_aS S_aJ S_aU S_aR S_aQ) (by decide) (W := 0) (by decide) (argsL := [(.int v5)]) (rest := []) (by rw [hml]; rfl) (lenOf pd_1 rfl) rfl (Nat.le_of_eq rfl) (hb hby at_19) e0 (by decide) (by decide) ?_
    intro T6 L6 v6 X6 hQ6
    obtain ⟨rfl, N6q, K6q⟩ := hQ6
    have N6 := Fr.app N0 N6q
    have Z6 : n0 ≤ T6.heap.size := Nat.le_trans Z0 K6q.1
    have O6 := O0.keep K6q all0
    show Own.Fin p e below (T6.setTop (mkF m 22 #[.val (.int v5), .val (.int p2), .val (.int v5), .unset] [(.ref (F_of v5 aS aJ aU aR aQ))])) _
    refine Own.go (fun t k => XS.astoreN X6.here hx rfl (hb hby at_22) rfl rfl (l' := #[.val (.int v5), .val (.int p2), .val (.int v5), .val (.ref (F_of v5 aS aJ aU aR aQ))]) rfl k) ?_
    show Own.Fin p e below (T6.setTop (mkF m 23 #[.val (.int v5), .val (.int p2), .val (.int v5), .val (.ref (F_of v5 aS aJ aU aR aQ))] [])) _
    refine Own.go (fun t k => XS.aloadN X6.here hx rfl (hb hby at_23) rfl rfl k) ?_
    show Own.Fin p e below (T6.setTop (mkF m 24 #[.val (.int v5), .val (.int p2), .val (.int v5), .val (.ref (F_of v5 aS aJ aU aR aQ))] [(.ref (F_of v5 aS aJ aU aR aQ))])) _
    refine Own.go (fun t k => XS.iloadN X6.here hx rfl (hb hby at_24) rfl k) ?_
    show Own.Fin p e below (T6.setTop (mkF m 25 #[.val (.int v5), .val (.int p2), .val (.int v5), .val (.ref (F_of v5 aS aJ aU aR aQ))] [(.int v5), (.ref (F_of v5 aS aJ aU aR aQ))])) _
    refine Own.cS X6 hx hZ hown (hw _ (List.mem_of_getElem? (i := 27) rfl)) (hw _ (List.mem_of_getElem? (i := 28) rfl)) (hw _ (List.mem_of_getElem? (i := 29) rfl)) (hw _ (List.mem_of_getElem? (i := 30) rfl)) (by decide) (rm3 l Z a0 hw [] v5 aS aJ aU aR aQ T6.heap n0 Z6 O6 S_aS S_aJ S_aU S_aR S_aQ) (by decide) (W := 1) (by decide) (argsL := [(.int v5)]) (rest := [(.ref (F_of v5 aS aJ aU aR aQ))]) (by rw [hml]; rfl) (lenOf pd_1 rfl) rfl (Nat.le_of_eq rfl) (hb hby at_25) rfl (by decide) (by decide) ?_
    intro T7 L7 v7 X7 hQ7
    obtain ⟨rfl, N7q, e7⟩ := hQ7
    have N7 := Fr.app N6 N7q
    show Own.Fin p e below (T7.setTop (mkF m 28 #[.val (.int v5), .val (.int p2), .val (.int v5), .val (.ref (F_of v5 aS aJ aU aR aQ))] [(.ref (F_exp v5 aS aJ aU aR aQ)), (.ref (F_of v5 aS aJ aU aR aQ))])) _
    refine Own.go (fun t k => Jvm.RoadKit.acmp (g := (mkF m 28 #[.val (.int v5), .val (.int p2), .val (.int v5), .val (.ref (F_of v5 aS aJ aU aR aQ))] [(.ref (F_exp v5 aS aJ aU aR aQ)), (.ref (F_of v5 aS aJ aU aR aQ))])) X7 hx rfl rfl rfl (pc0 := 28) (pc' := 31) (same := true) rfl (hb hby at_28) rfl (decide_eq_true (congrArg Value.ref (ow_eqv _ _ _ _ _ _))) (by decide) (by decide) k) ?_
    show Own.Fin p e below (T7.setTop (mkF m 31 #[.val (.int v5), .val (.int p2), .val (.int v5), .val (.ref (F_of v5 aS aJ aU aR aQ))] [])) _
    refine Own.go (fun t k => XS.iconst X7.here hx rfl (hb hby at_31) k) ?_
    show Own.Fin p e below (T7.setTop (mkF m 32 #[.val (.int v5), .val (.int p2), .val (.int v5), .val (.ref (F_of v5 aS aJ aU aR aQ))] [(.int (1 : Int32))])) _
    refine Own.go (fun t k => XS.goto X7.here hx rfl (pc0 := 32) (pc' := 36) rfl (hb hby at_32) (by decide) (by decide) k) ?_
    show Own.Fin p e below (T7.setTop (mkF m 36 #[.val (.int v5), .val (.int p2), .val (.int v5), .val (.ref (F_of v5 aS aJ aU aR aQ))] [(.int (1 : Int32))])) _
    refine Own.retN X7 hx Bd.notSynchronized (t := .boolean) Bd.returns (by simp) (hb hby at_36) (by decide) (by decide) ?_
    exact ⟨rfl, N7⟩
set_option maxRecDepth 65536 in
set_option maxHeartbeats 40000000 in
theorem comes_1 {Post : Tables → Env → Array Value → State → Outcome → State → Prop} (hpost : ∀ tb e args s v u, (limb_1_1.after args s (.returned v) u = true ∧ limb_1_2.after args s (.returned v) u = true ∧ True) → FrameEnd s (.returned v) u (Jvm.fieldLocs frame_1_writes args s ++ Jvm.arrayLocs frame_1_arrays args s ++ Jvm.staticLocs frame_1_statics s) 16 128 → Post tb e args s (.returned v) u) :
    ArmFor flags0 classFile x code maxLocals ret World_1 tables_1 room_1 Calls_1 rest_1 Pre_1 Post := by
  intro l hfl _ _ p e ha hc hk s m args below hf hA hF happ hP
  obtain ⟨hcalls, hrest, hpre⟩ := hP
  obtain ⟨-, -, -, hnamed, -, -, -, hat⟩ := (Spec.applies_iff hf).mp happ
  obtain ⟨hg, hn⟩ := and_e (Cond.before_iff.mp (show (Jvm.Cond.and given_1 narrow_1).before args s = true from hpre))
  obtain ⟨g1, g2⟩ := and_e hg
  obtain ⟨g3, g4⟩ := and_e g2
  obtain ⟨w0, w1, rfl⟩ : ∃ w0 w1 : Value, args = #[w0, w1] := by
    have hs : args.size = 2 := by simpa [Cond.value, given_1] using g1
    obtain ⟨L⟩ := args
    match L, hs with
    | [w0, w1], _ => exact ⟨w0, w1, rfl⟩
  have hw := fun d (hd : d ∈ tables_1) => atoms_spec (ws := Jvm.Cond.code x code maxLocals ret :: tables_1) hat d (List.mem_cons_of_mem _ hd)
  have hfit : Fit s := fun {y c} hc i hi => by
    obtain ⟨ha, rfl⟩ := Array.getElem?_eq_some_iff.mp hc
    have q := List.all_eq_true.mp ((Array.all_eq_true_iff_forall_mem.mp hF) _ (Array.getElem_mem ha)) i (List.mem_range.mpr hi)
    simpa [Array.getElem?_eq_getElem hi] using q
  obtain ⟨i0, ei0⟩ := is_v g3
  obtain rfl : w0 = (.int i0) := Option.some.inj ei0
  obtain ⟨i1, ei1⟩ := is_v g4
  obtain rfl : w1 = (.int i1) := Option.some.inj ei1
  obtain ⟨nA, hn0⟩ := and_e hn
  obtain ⟨nX, hn1⟩ := and_e hn0
  obtain ⟨nL, hn2⟩ := and_e hn1
  obtain ⟨xaS, hn3⟩ := and_e hn2
  obtain ⟨laS, hn4⟩ := and_e hn3
  obtain ⟨xaJ, hn5⟩ := and_e hn4
  obtain ⟨laJ, hn6⟩ := and_e hn5
  obtain ⟨xaU, hn7⟩ := and_e hn6
  obtain ⟨laU, hn8⟩ := and_e hn7
  obtain ⟨xaR, hn9⟩ := and_e hn8
  obtain ⟨laR, hn10⟩ := and_e hn9
  obtain ⟨xaQ, hn11⟩ := and_e hn10
  obtain ⟨laQ, hn12⟩ := and_e hn11
  obtain ⟨xaN, hn13⟩ := and_e hn12
  obtain ⟨laN, hn14⟩ := and_e hn13
  obtain ⟨saS, hn15⟩ := and_e hn14
  obtain ⟨saJ, hn16⟩ := and_e hn15
  obtain ⟨saU, hn17⟩ := and_e hn16
  obtain ⟨saR, hn18⟩ := and_e hn17
  obtain ⟨saQ, saN⟩ := and_e hn18
  obtain ⟨va, eva⟩ := exa_v nX
  have EA := Exa.start eva nX
  obtain ⟨cl, AV⟩ := Arr.start eva nA
  have hini := fun {f d : String} (w : (Cond.laysStatic "com/example/vouchsafe/vouchsafe/cli/ExitCode" f d).before #[.int i0, .int i1] s = true) => (Or.inr ⟨hw _ (List.mem_of_getElem? (i := 2) rfl), w⟩ : (Cond.initializedFor "com/example/vouchsafe/vouchsafe/cli/ExitCode" f d).before #[.int i0, .int i1] s = true ∨ ((Cond.initialized "com/example/vouchsafe/vouchsafe/cli/ExitCode").before #[.int i0, .int i1] s = true ∧ (Cond.laysStatic "com/example/vouchsafe/vouchsafe/cli/ExitCode" f d).before #[.int i0, .int i1] s = true))
  have SV : Sta s s.heap "com/example/vouchsafe/vouchsafe/cli/ExitCode" "$VALUES" "[Lcom/example/vouchsafe/vouchsafe/cli/ExitCode;" (.ref va) := Sta.start eva (hini (hw _ (List.mem_of_getElem? (i := 8) rfl)))
  obtain ⟨aS, eaS⟩ := exa_v xaS
  have S_aS : Sta s s.heap "com/example/vouchsafe/vouchsafe/cli/ExitCode" "SUCCESS" "Lcom/example/vouchsafe/vouchsafe/cli/ExitCode;" (.ref aS) := Sta.start eaS (hini (hw _ (List.mem_of_getElem? (i := 16) rfl)))
  have F_aS : Fld s s.heap aS "com/example/vouchsafe/vouchsafe/cli/ExitCode" "status" "I" (.int (0 : Int32)) := Fld.start ((fld_at eaS).symm.trans (Own.eqI saS (Term.int_eval _)))
  obtain ⟨aJ, eaJ⟩ := exa_v xaJ
  have S_aJ : Sta s s.heap "com/example/vouchsafe/vouchsafe/cli/ExitCode" "JOB_FAILED" "Lcom/example/vouchsafe/vouchsafe/cli/ExitCode;" (.ref aJ) := Sta.start eaJ (hini (hw _ (List.mem_of_getElem? (i := 17) rfl)))
  have F_aJ : Fld s s.heap aJ "com/example/vouchsafe/vouchsafe/cli/ExitCode" "status" "I" (.int (1 : Int32)) := Fld.start ((fld_at eaJ).symm.trans (Own.eqI saJ (Term.int_eval _)))
  obtain ⟨aU, eaU⟩ := exa_v xaU
  have S_aU : Sta s s.heap "com/example/vouchsafe/vouchsafe/cli/ExitCode" "USAGE_ERROR" "Lcom/example/vouchsafe/vouchsafe/cli/ExitCode;" (.ref aU) := Sta.start eaU (hini (hw _ (List.mem_of_getElem? (i := 18) rfl)))
  have F_aU : Fld s s.heap aU "com/example/vouchsafe/vouchsafe/cli/ExitCode" "status" "I" (.int (2 : Int32)) := Fld.start ((fld_at eaU).symm.trans (Own.eqI saU (Term.int_eval _)))
  obtain ⟨aR, eaR⟩ := exa_v xaR
  have S_aR : Sta s s.heap "com/example/vouchsafe/vouchsafe/cli/ExitCode" "REFUSED" "Lcom/example/vouchsafe/vouchsafe/cli/ExitCode;" (.ref aR) := Sta.start eaR (hini (hw _ (List.mem_of_getElem? (i := 19) rfl)))
  have F_aR : Fld s s.heap aR "com/example/vouchsafe/vouchsafe/cli/ExitCode" "status" "I" (.int (3 : Int32)) := Fld.start ((fld_at eaR).symm.trans (Own.eqI saR (Term.int_eval _)))
  obtain ⟨aQ, eaQ⟩ := exa_v xaQ
  have S_aQ : Sta s s.heap "com/example/vouchsafe/vouchsafe/cli/ExitCode" "QUOTA_REFUSED" "Lcom/example/vouchsafe/vouchsafe/cli/ExitCode;" (.ref aQ) := Sta.start eaQ (hini (hw _ (List.mem_of_getElem? (i := 20) rfl)))
  have F_aQ : Fld s s.heap aQ "com/example/vouchsafe/vouchsafe/cli/ExitCode" "status" "I" (.int (4 : Int32)) := Fld.start ((fld_at eaQ).symm.trans (Own.eqI saQ (Term.int_eval _)))
  obtain ⟨aN, eaN⟩ := exa_v xaN
  have S_aN : Sta s s.heap "com/example/vouchsafe/vouchsafe/cli/ExitCode" "NOT_FOUND" "Lcom/example/vouchsafe/vouchsafe/cli/ExitCode;" (.ref aN) := Sta.start eaN (hini (hw _ (List.mem_of_getElem? (i := 21) rfl)))
  have F_aN : Fld s s.heap aN "com/example/vouchsafe/vouchsafe/cli/ExitCode" "status" "I" (.int (1 : Int32)) := Fld.start ((fld_at eaN).symm.trans (Own.eqI saN (Term.int_eval _)))
  have hat := Arr.fin (Vm.Alike.refl _) AV
  have hlen := Own.eqI nL (Term.int_eval _)
  obtain ⟨xl, cl', el, hat', hl31, hl6⟩ := Own.len_at hlen
  cases eva.symm.trans el
  cases hat.symm.trans hat'
  have qaS : cl.slots[0]? = some (.ref aS) := (elem_f (j := (0 : Int32)) eva (Term.int_eval _) hat (by decide)).symm.trans (Own.eqR laS eaS)
  have qaJ : cl.slots[1]? = some (.ref aJ) := (elem_f (j := (1 : Int32)) eva (Term.int_eval _) hat (by decide)).symm.trans (Own.eqR laJ eaJ)
  have qaU : cl.slots[2]? = some (.ref aU) := (elem_f (j := (2 : Int32)) eva (Term.int_eval _) hat (by decide)).symm.trans (Own.eqR laU eaU)
  have qaR : cl.slots[3]? = some (.ref aR) := (elem_f (j := (3 : Int32)) eva (Term.int_eval _) hat (by decide)).symm.trans (Own.eqR laR eaR)
  have qaQ : cl.slots[4]? = some (.ref aQ) := (elem_f (j := (4 : Int32)) eva (Term.int_eval _) hat (by decide)).symm.trans (Own.eqR laQ eaQ)
  have qaN : cl.slots[5]? = some (.ref aN) := (elem_f (j := (5 : Int32)) eva (Term.int_eval _) hat (by decide)).symm.trans (Own.eqR laN eaN)
  have VA : Arv s s.heap va cl.cls (.object "com/example/vouchsafe/vouchsafe/cli/ExitCode") (6 : Int32) [Value.ref aS, Value.ref aJ, Value.ref aU, Value.ref aR, Value.ref aQ, Value.ref aN] .null := Arv.start hfit AV hl31 hl6 (by decide) rfl ⟨qaS, qaJ, qaU, qaR, qaQ, qaN, trivial⟩
  obtain ⟨n, o, h1, h2, h3, _, L, rfl, ⟨rfl, N⟩, hq⟩ := rm0 l s _ hw tables_1 i0 i1 va cl.cls aS aJ aU aR aQ aN s.heap s.heap.size (Nat.le_refl _) (Old.start s) SV VA EA F_aS F_aJ F_aU F_aR F_aQ F_aN S_aS S_aJ S_aU S_aR S_aQ p e ha hc hk s m _ below hf ((Spec.applies_iff_loose hf).mp happ).1 ⟨rfl, State.Warmed39.refl s, rfl⟩ trivial
  refine ⟨n, _, h1, h2, h3, hpost _ _ _ _ _ _ ⟨Cond.after_iff.mpr rfl, Cond.after_iff.mpr (eq_i res_at (Term.int_eval (1)) rfl), trivial⟩ ⟨hq.1, hq.2.1, (hq.2.2.sift fun y hy => Or.inr (N y hy)).mono (by decide) (by decide)⟩⟩
theorem main_1_1 : Claimed_1_1 := comes_1 fun _ _ _ _ _ _ h hF => ⟨h.1, hF⟩
theorem main_1_2 : Claimed_1_2 := comes_1 fun _ _ _ _ _ _ h hF => ⟨h.2.1, hF⟩
end Jvm.Pilot.@@N@@
namespace Jvm.Pilot.@@N@@
open Jvm Jvm.ClassFile Sem Op Lib Jvm.Free Jvm.Stand Jvm.Pilot.@@N@@.Jvm.D
/-! MADE BY PROGRAM (witnessworld.py) out of the Statement's table words and the real class files: 13 classes; the members and pool entries that the words name. The judged class is class 1, her method 2. -/
namespace start1
open Jvm.ClassFile
def u (s : String) : CpInfo := .utf8 (stringToUtf16 s)
/-- a pool by its gaps: so many unusable entries, then the entry; so many at the end -/
def gap : Nat → List CpInfo → List CpInfo
  | 0, r => r
  | n + 1, r => .unusable :: gap n r
def poolList (es : List (Nat × CpInfo)) (last : Nat) : List CpInfo := es.foldr (fun e r => gap e.1 (e.2 :: r)) (gap last [])
def pool (es : List (Nat × CpInfo)) (last : Nat) : Array CpInfo := ⟨poolList es last⟩
def fileOf (pool : Array CpInfo) (this : Nat) (attrs : Array Attribute := #[]) (ms : Array MethodInfo := #[]) (fl : Nat := 33) (sup : Nat := 0) (ifs : Array Nat := #[]) (fds : Array FieldInfo := #[]) : ClassFile where
  minorVersion := 0
  majorVersion := 65
  constantPool := pool
  accessFlags := fl
  thisClass := this
  superClass := sup
  interfaces := ifs
  fields := fds
  methods := ms
  attributes := attrs
def plain (name : String) (sup : Option ClassId) : Class where
  name := name
  kind := .ordinary
  loader := none
  accessFlags := 33
  super := sup
  interfaces := #[]
  cf := none
  fields := #[]
  methods := #[]
  instanceTypes := #[]
  staticTypes := #[]
  resolved := #[]
  callSites := []
  init := .initialized
  statics := none
  mirror := none

def pool0 : Array CpInfo := pool [(5, u "<init>"), (0, u "()V"), (1, .class_ 10), (1, u "java/lang/Object"), (85, u "clone"), (0, u "()Ljava/lang/Object;")] 26

def k0m0 : Method := { name := "<init>", desc := "()V", sig := { parameters := [], returnType := none }, accessFlags := 1, code := none }
def k0m1 : Method := { name := "clone", desc := "()Ljava/lang/Object;", sig := { parameters := [], returnType := some (.object "java/lang/Object") }, accessFlags := 260, code := none }
/-- java/lang/Object -/
def k0 : Class := { plain "java/lang/Object" none with
  accessFlags := 33
  interfaces := #[]
  cf := some (fileOf pool0 8 #[] #[{ accessFlags := 1, nameIndex := 5, descriptorIndex := 6, attributes := #[] }, { accessFlags := 260, nameIndex := 96, descriptorIndex := 97, attributes := #[] }] 33 0 #[] #[])
  fields := #[]
  methods := #[k0m0, k0m1]
  instanceTypes := #[]
  staticTypes := #[]
  resolved := Array.replicate 124 none
  statics := none }

def pool1 : Array CpInfo := pool [(2, .class_ 4), (1, u "java/lang/Object"), (0, u "<init>"), (0, u "()V"), (0, .fieldref 8 9), (0, .class_ 10), (0, .nameAndType 11 12), (0, u "com/example/vouchsafe/vouchsafe/cli/ExitCode"), (0, u "SUCCESS"), (0, u "Lcom/example/vouchsafe/vouchsafe/cli/ExitCode;"), (0, .fieldref 8 14), (0, .nameAndType 15 12), (0, u "USAGE_ERROR"), (0, .fieldref 8 17), (0, .nameAndType 18 12), (0, u "REFUSED"), (0, .fieldref 8 20), (0, .nameAndType 21 12), (0, u "QUOTA_REFUSED"), (0, .fieldref 8 23), (0, .nameAndType 24 12), (0, u "JOB_FAILED"), (0, .methodref 8 26), (0, .nameAndType 27 28), (0, u "of"), (0, u "(I)Lcom/example/vouchsafe/vouchsafe/cli/ExitCode;"), (0, .methodref 30 31), (0, .class_ 32), (0, .nameAndType 33 28), (0, u "com/example/vouchsafe/vouchsafe/cli/ExitCodeOfPinLaw"), (0, u "expected"), (3, u "law"), (0, u "(II)Z")] 2

def k1m0 : Method := { name := "<init>", desc := "()V", sig := { parameters := [], returnType := none }, accessFlags := 1, code := none }
def k1c1 : Code := { maxStack := 2, maxLocals := 1, code := method_2_code, exceptionTable := #[], attributes := #[] }
def k1m1 : Method := { name := "expected", desc := "(I)Lcom/example/vouchsafe/vouchsafe/cli/ExitCode;", sig := { parameters := [.int], returnType := some (.object "com/example/vouchsafe/vouchsafe/cli/ExitCode") }, accessFlags := 10, code := some k1c1 }
def k1c2 : Code := { maxStack := 2, maxLocals := 4, code := code, exceptionTable := #[], attributes := #[] }
def k1m2 : Method := { name := "law", desc := "(II)Z", sig := { parameters := [.int, .int], returnType := some .boolean }, accessFlags := 9, code := some k1c2 }
/-- com/example/vouchsafe/vouchsafe/cli/ExitCodeOfPinLaw -/
def k1 : Class := { plain "com/example/vouchsafe/vouchsafe/cli/ExitCodeOfPinLaw" (some 0) with
  accessFlags := 49
  interfaces := #[]
  cf := some (fileOf pool1 30 #[] #[{ accessFlags := 1, nameIndex := 5, descriptorIndex := 6, attributes := #[] }, { accessFlags := 10, nameIndex := 33, descriptorIndex := 28, attributes := #[] }, { accessFlags := 9, nameIndex := 37, descriptorIndex := 38, attributes := #[] }] 49 2 #[] #[])
  fields := #[]
  methods := #[k1m0, k1m1, k1m2]
  instanceTypes := #[]
  staticTypes := #[]
  resolved := Array.replicate 41 none
  statics := none }

def pool2 : Array CpInfo := pool [(1, .class_ 2), (0, u "java/lang/constant/Constable"), (0, .class_ 4), (0, u "java/lang/Object")] 6

/-- java/lang/constant/Constable -/
def k2 : Class := { plain "java/lang/constant/Constable" (some 0) with
  accessFlags := 1537
  interfaces := #[]
  cf := some (fileOf pool2 1 #[] #[] 1537 3 #[] #[])
  fields := #[]
  methods := #[]
  instanceTypes := #[]
  staticTypes := #[]
  resolved := Array.replicate 11 none
  statics := none }

def pool3 : Array CpInfo := pool [(1, .class_ 2), (0, u "java/lang/Comparable"), (0, .class_ 4), (0, u "java/lang/Object")] 7

/-- java/lang/Comparable -/
def k3 : Class := { plain "java/lang/Comparable" (some 0) with
  accessFlags := 1537
  interfaces := #[]
  cf := some (fileOf pool3 1 #[] #[] 1537 3 #[] #[])
  fields := #[]
  methods := #[]
  instanceTypes := #[]
  staticTypes := #[]
  resolved := Array.replicate 12 none
  statics := none }

def pool4 : Array CpInfo := pool [(1, .class_ 2), (0, u "java/io/Serializable"), (0, .class_ 4), (0, u "java/lang/Object")] 2

/-- java/io/Serializable -/
def k4 : Class := { plain "java/io/Serializable" (some 0) with
  accessFlags := 1537
  interfaces := #[]
  cf := some (fileOf pool4 1 #[] #[] 1537 3 #[] #[])
  fields := #[]
  methods := #[]
  instanceTypes := #[]
  staticTypes := #[]
  resolved := Array.replicate 7 none
  statics := none }

def pool5 : Array CpInfo := pool [(2, .class_ 4), (1, u "java/lang/Enum"), (0, u "name"), (0, u "Ljava/lang/String;"), (2, u "ordinal"), (0, u "I"), (1, .class_ 14), (1, u "java/lang/Object"), (4, u "hash"), (86, .class_ 108), (1, u "java/lang/Enum$EnumDesc"), (2, .class_ 112), (0, u "java/lang/constant/Constable"), (0, .class_ 114), (0, u "java/lang/Comparable"), (0, .class_ 116), (0, u "java/io/Serializable")] 87

/-- java/lang/Enum -/
def k5 : Class := { plain "java/lang/Enum" (some 0) with
  accessFlags := 1057
  interfaces := #[2, 3, 4]
  cf := some (fileOf pool5 2 #[.nestMembers #[106]] #[] 1057 12 #[111, 113, 115] #[{ accessFlags := 18, nameIndex := 5, descriptorIndex := 6, attributes := #[] }, { accessFlags := 18, nameIndex := 9, descriptorIndex := 10, attributes := #[] }, { accessFlags := 2, nameIndex := 19, descriptorIndex := 10, attributes := #[] }])
  fields := #[{ name := "name", type := (.object "java/lang/String"), accessFlags := 18, slot := 0, constantValue := 0 }, { name := "ordinal", type := .int, accessFlags := 18, slot := 1, constantValue := 0 }, { name := "hash", type := .int, accessFlags := 2, slot := 2, constantValue := 0 }]
  methods := #[]
  instanceTypes := #[(.object "java/lang/String"), .int, .int]
  staticTypes := #[]
  resolved := Array.replicate 204 none
  statics := none }

def pool6 : Array CpInfo := pool [(1, .class_ 2), (0, u "com/example/vouchsafe/vouchsafe/cli/ExitCode"), (2, u "SUCCESS"), (0, u "Lcom/example/vouchsafe/vouchsafe/cli/ExitCode;"), (0, .fieldref 1 8), (0, .nameAndType 9 6), (0, u "JOB_FAILED"), (2, u "USAGE_ERROR"), (2, u "REFUSED"), (2, u "QUOTA_REFUSED"), (2, u "NOT_FOUND"), (0, .fieldref 1 23), (0, .nameAndType 24 25), (0, u "$VALUES"), (0, u "[Lcom/example/vouchsafe/vouchsafe/cli/ExitCode;"), (0, .methodref 27 28), (0, .class_ 25), (0, .nameAndType 29 30), (0, u "clone"), (0, u "()Ljava/lang/Object;"), (1, .class_ 34), (1, u "java/lang/Enum"), (6, .fieldref 1 42), (0, .nameAndType 43 44), (0, u "status"), (0, u "I"), (2, u "outcome"), (0, u "Ljava/lang/String;"), (0, .methodref 1 50), (0, .nameAndType 51 52), (0, u "values"), (0, u "()[Lcom/example/vouchsafe/vouchsafe/cli/ExitCode;"), (32, u "of"), (0, u "(I)Lcom/example/vouchsafe/vouchsafe/cli/ExitCode;")] 6

def k6c0 : Code := { maxStack := 1, maxLocals := 0, code := prog_3_method_1_code, exceptionTable := #[], attributes := #[] }
def k6m0 : Method := { name := "values", desc := "()[Lcom/example/vouchsafe/vouchsafe/cli/ExitCode;", sig := { parameters := [], returnType := some (.array (.object "com/example/vouchsafe/vouchsafe/cli/ExitCode")) }, accessFlags := 9, code := some k6c0 }
def k6c1 : Code := { maxStack := 2, maxLocals := 5, code := prog_3_method_6_code, exceptionTable := #[], attributes := #[] }
def k6m1 : Method := { name := "of", desc := "(I)Lcom/example/vouchsafe/vouchsafe/cli/ExitCode;", sig := { parameters := [.int], returnType := some (.object "com/example/vouchsafe/vouchsafe/cli/ExitCode") }, accessFlags := 9, code := some k6c1 }
/-- com/example/vouchsafe/vouchsafe/cli/ExitCode -/
def k6 : Class := { plain "com/example/vouchsafe/vouchsafe/cli/ExitCode" (some 5) with
  accessFlags := 16433
  interfaces := #[]
  cf := some (fileOf pool6 1 #[] #[{ accessFlags := 9, nameIndex := 51, descriptorIndex := 52, attributes := #[] }, { accessFlags := 9, nameIndex := 85, descriptorIndex := 86, attributes := #[] }] 16433 32 #[] #[{ accessFlags := 16409, nameIndex := 5, descriptorIndex := 6, attributes := #[] }, { accessFlags := 16409, nameIndex := 9, descriptorIndex := 6, attributes := #[] }, { accessFlags := 16409, nameIndex := 12, descriptorIndex := 6, attributes := #[] }, { accessFlags := 16409, nameIndex := 15, descriptorIndex := 6, attributes := #[] }, { accessFlags := 16409, nameIndex := 18, descriptorIndex := 6, attributes := #[] }, { accessFlags := 16409, nameIndex := 21, descriptorIndex := 6, attributes := #[] }, { accessFlags := 18, nameIndex := 43, descriptorIndex := 44, attributes := #[] }, { accessFlags := 18, nameIndex := 47, descriptorIndex := 48, attributes := #[] }, { accessFlags := 4122, nameIndex := 24, descriptorIndex := 25, attributes := #[] }])
  fields := #[{ name := "SUCCESS", type := (.object "com/example/vouchsafe/vouchsafe/cli/ExitCode"), accessFlags := 16409, slot := 0, constantValue := 0 }, { name := "JOB_FAILED", type := (.object "com/example/vouchsafe/vouchsafe/cli/ExitCode"), accessFlags := 16409, slot := 1, constantValue := 0 }, { name := "USAGE_ERROR", type := (.object "com/example/vouchsafe/vouchsafe/cli/ExitCode"), accessFlags := 16409, slot := 2, constantValue := 0 }, { name := "REFUSED", type := (.object "com/example/vouchsafe/vouchsafe/cli/ExitCode"), accessFlags := 16409, slot := 3, constantValue := 0 }, { name := "QUOTA_REFUSED", type := (.object "com/example/vouchsafe/vouchsafe/cli/ExitCode"), accessFlags := 16409, slot := 4, constantValue := 0 }, { name := "NOT_FOUND", type := (.object "com/example/vouchsafe/vouchsafe/cli/ExitCode"), accessFlags := 16409, slot := 5, constantValue := 0 }, { name := "status", type := .int, accessFlags := 18, slot := 3, constantValue := 0 }, { name := "outcome", type := (.object "java/lang/String"), accessFlags := 18, slot := 4, constantValue := 0 }, { name := "$VALUES", type := (.array (.object "com/example/vouchsafe/vouchsafe/cli/ExitCode")), accessFlags := 4122, slot := 6, constantValue := 0 }]
  methods := #[k6m0, k6m1]
  instanceTypes := #[(.object "java/lang/String"), .int, .int, .int, (.object "java/lang/String")]
  staticTypes := #[(.object "com/example/vouchsafe/vouchsafe/cli/ExitCode"), (.object "com/example/vouchsafe/vouchsafe/cli/ExitCode"), (.object "com/example/vouchsafe/vouchsafe/cli/ExitCode"), (.object "com/example/vouchsafe/vouchsafe/cli/ExitCode"), (.object "com/example/vouchsafe/vouchsafe/cli/ExitCode"), (.object "com/example/vouchsafe/vouchsafe/cli/ExitCode"), (.array (.object "com/example/vouchsafe/vouchsafe/cli/ExitCode"))]
  resolved := Array.replicate 93 none
  statics := some 0 }

def pool7 : Array CpInfo := pool [(1, .class_ 2), (0, u "java/lang/Cloneable"), (0, .class_ 4), (0, u "java/lang/Object")] 2

/-- java/lang/Cloneable -/
def k7 : Class := { plain "java/lang/Cloneable" (some 0) with
  accessFlags := 1537
  interfaces := #[]
  cf := some (fileOf pool7 1 #[] #[] 1537 3 #[] #[])
  fields := #[]
  methods := #[]
  instanceTypes := #[]
  staticTypes := #[]
  resolved := Array.replicate 7 none
  statics := none }

/-- the primitive byte -/
def k8 : Class := { plain "byte" none with kind := .primitive 'B', accessFlags := 0x411 }
/-- [B -/
def k9 : Class := { plain "[B" (some 0) with kind := .array 8 .byte, interfaces := #[7, 4], accessFlags := 1041 }

/-- the primitive int -/
def k10 : Class := { plain "int" none with kind := .primitive 'I', accessFlags := 0x411 }
/-- [I -/
def k11 : Class := { plain "[I" (some 0) with kind := .array 10 .int, interfaces := #[7, 4], accessFlags := 1041 }

/-- [Lcom/example/vouchsafe/vouchsafe/cli/ExitCode; -/
def k12 : Class := { plain "[Lcom/example/vouchsafe/vouchsafe/cli/ExitCode;" (some 0) with kind := .array 6 (.object "com/example/vouchsafe/vouchsafe/cli/ExitCode"), interfaces := #[7, 4], accessFlags := 1041 }

def heap : Heap := #[{ cls := 6, slots := #[.ref 2, .ref 3, .ref 4, .ref 5, .ref 6, .ref 7, .ref 1], vm := .statics 6 },
  { cls := 12, slots := #[.ref 2, .ref 3, .ref 4, .ref 5, .ref 6, .ref 7], vm := .none },
  { cls := 6, slots := #[.null, .int 0, .int 0, .int 0, .null], vm := .none },
  { cls := 6, slots := #[.null, .int 1, .int 0, .int 1, .null], vm := .none },
  { cls := 6, slots := #[.null, .int 2, .int 0, .int 2, .null], vm := .none },
  { cls := 6, slots := #[.null, .int 3, .int 0, .int 3, .null], vm := .none },
  { cls := 6, slots := #[.null, .int 4, .int 0, .int 4, .null], vm := .none },
  { cls := 6, slots := #[.null, .int 5, .int 0, .int 1, .null], vm := .none }]
def classes : Array Class := #[k0, k1, k2, k3, k4, k5, k6, k7, k8, k9, k10, k11, k12]
def interned : List (Array UInt16 × Addr) := []
def slotsUsed : Nat := 43
def theMethod : MethodId := ⟨1, 2⟩
def args0 : Array Value := #[.int 5, .int 6]
def aboutOver (below : List Frame) : State where
  vm := { classes := classes, interned := interned.toArray }
  heap := heap
  slotsUsed := slotsUsed
  threads := #[{ frames := .invoking theMethod args0 :: below }]
def below0 : List Frame := [.native { method := ⟨0, 0⟩, args := #[] }]
def about1 : State := aboutOver below0
def p0 : Program := .bare "" "" ""
def e0 : Env := launch0.env 0 0 0
theorem w_frames : about1.frames = Frame.invoking theMethod args0 :: below0 := rfl
set_option maxRecDepth 65536 in
theorem w_args : argsFit about1.vm theMethod args0 = true := by decide +kernel
set_option maxRecDepth 65536 in
theorem w_heap : heapFits about1 = true := by decide +kernel
set_option maxRecDepth 65536 in
theorem w_runnable : about1.curStatus? = some .runnable := by decide +kernel
set_option maxRecDepth 65536 in
theorem w_alone : about1.alone = true := by decide +kernel
set_option maxRecDepth 65536 in
theorem w_named : about1.methodNamed? x = some theMethod := by decide +kernel
set_option maxRecDepth 65536 in
theorem w_hears : about1.hears theMethod below0 = true := by decide +kernel
set_option maxRecDepth 65536 in
theorem w_ripe : about1.ripe theMethod args0 below0 = true := by decide +kernel
theorem w_running : about1.status = .running := rfl
set_option maxRecDepth 65536 in
theorem w_room : about1.hasRoom e0.platform room_1 = true :=
  launch0.hasRoom_least _ room_1 (by decide +kernel) (by decide +kernel) (by decide +kernel) (by decide +kernel) (by decide +kernel) (by decide +kernel)
theorem allAtoms_all (ts : List Jvm.Cond) (a : Array Jvm.Value) (st : Jvm.State) : (allAtoms ts).before a st = ts.all (fun c => c.before a st) := by
  induction ts with
  | nil => rfl
  | cons c t ih =>
    show (Jvm.Cond.and c (allAtoms t)).before a st = _
    rw [Jvm.Cond.before_and, ih, List.all_cons]
def words1 : List Jvm.Cond := Jvm.Cond.code x code maxLocals ret :: tables_1
/-- a 'code' word, met by the world's own term for the bytes: nothing is compared byte by byte -/
theorem code_word {y : MethodName} {bytes : ByteArray} {mx : Nat} {rt : Option FieldType} {a : Array Value} {s : State} {m : MethodId} {meth : Method} {c : Code} (h1 : s.methodNamed? y = some m) (h2 : s.vm.method? m = some meth) (h3 : meth.code = some c) (h4 : c.code = bytes)
    (h5 : (c.maxLocals == mx && c.exceptionTable.isEmpty && decide (c.maxStack ≤ mostOperands) && decide (meth.sig.returnType = rt) && !meth.locks && decide (parseMethodDescriptor y.desc = some meth.sig)) = true) : (Jvm.Cond.code y bytes mx rt).before a s = true := by
  simp only [Bool.and_eq_true, beq_iff_eq, Bool.not_eq_true', decide_eq_true_eq] at h5
  obtain ⟨⟨⟨⟨⟨g1, g2⟩, g3⟩, g4⟩, g5⟩, g6⟩ := h5
  simp [Cond.before, Cond.holds, Cond.value, h1, h2, h3, h4, g1, g2, g3, g4, g5, g6]
def isCode : Jvm.Cond → Bool
  | .code _ _ _ _ => true
  | _ => false
theorem all_split {L : List Jvm.Cond} {P : Jvm.Cond → Bool} (h1 : L.all (fun c => isCode c || P c) = true) (h2 : ∀ c ∈ L.filter isCode, P c = true) : L.all P = true := by
  refine List.all_eq_true.mpr fun c hc => ?_
  have h := List.all_eq_true.mp h1 c hc
  rcases Bool.eq_false_or_eq_true (isCode c) with hi | hi
  · exact h2 c (List.mem_filter.mpr ⟨hc, hi⟩)
  · simpa [hi] using h
set_option maxRecDepth 65536 in
theorem w_c0 : (Jvm.Cond.code x code maxLocals ret).before args0 about1 = true := code_word (m := ⟨1, 2⟩) (meth := k1m2) (c := k1c2) (by decide +kernel) rfl rfl rfl (by decide +kernel)
set_option maxRecDepth 65536 in
theorem w_c1 : (Jvm.Cond.code ({ cls := "com/example/vouchsafe/vouchsafe/cli/ExitCode", name := "of", desc := "(I)Lcom/example/vouchsafe/vouchsafe/cli/ExitCode;" } : Jvm.MethodName) prog_3_method_6_code (5 : Nat) (Option.some (Jvm.ClassFile.FieldType.object "com/example/vouchsafe/vouchsafe/cli/ExitCode"))).before args0 about1 = true := code_word (m := ⟨6, 1⟩) (meth := k6m1) (c := k6c1) (by decide +kernel) rfl rfl rfl (by decide +kernel)
set_option maxRecDepth 65536 in
theorem w_c2 : (Jvm.Cond.code ({ cls := "com/example/vouchsafe/vouchsafe/cli/ExitCode", name := "values", desc := "()[Lcom/example/vouchsafe/vouchsafe/cli/ExitCode;" } : Jvm.MethodName) prog_3_method_1_code (0 : Nat) (Option.some (Jvm.ClassFile.FieldType.array (Jvm.ClassFile.FieldType.object "com/example/vouchsafe/vouchsafe/cli/ExitCode")))).before args0 about1 = true := code_word (m := ⟨6, 0⟩) (meth := k6m0) (c := k6c0) (by decide +kernel) rfl rfl rfl (by decide +kernel)
set_option maxRecDepth 65536 in
theorem w_c3 : (Jvm.Cond.code ({ cls := "com/example/vouchsafe/vouchsafe/cli/ExitCodeOfPinLaw", name := "expected", desc := "(I)Lcom/example/vouchsafe/vouchsafe/cli/ExitCode;" } : Jvm.MethodName) method_2_code (1 : Nat) (Option.some (Jvm.ClassFile.FieldType.object "com/example/vouchsafe/vouchsafe/cli/ExitCode"))).before args0 about1 = true := code_word (m := ⟨1, 1⟩) (meth := k1m1) (c := k1c1) (by decide +kernel) rfl rfl rfl (by decide +kernel)
def codes1 : List Jvm.Cond := [Jvm.Cond.code x code maxLocals ret, Jvm.Cond.code ({ cls := "com/example/vouchsafe/vouchsafe/cli/ExitCode", name := "of", desc := "(I)Lcom/example/vouchsafe/vouchsafe/cli/ExitCode;" } : Jvm.MethodName) prog_3_method_6_code (5 : Nat) (Option.some (Jvm.ClassFile.FieldType.object "com/example/vouchsafe/vouchsafe/cli/ExitCode")), Jvm.Cond.code ({ cls := "com/example/vouchsafe/vouchsafe/cli/ExitCode", name := "values", desc := "()[Lcom/example/vouchsafe/vouchsafe/cli/ExitCode;" } : Jvm.MethodName) prog_3_method_1_code (0 : Nat) (Option.some (Jvm.ClassFile.FieldType.array (Jvm.ClassFile.FieldType.object "com/example/vouchsafe/vouchsafe/cli/ExitCode"))), Jvm.Cond.code ({ cls := "com/example/vouchsafe/vouchsafe/cli/ExitCodeOfPinLaw", name := "expected", desc := "(I)Lcom/example/vouchsafe/vouchsafe/cli/ExitCode;" } : Jvm.MethodName) method_2_code (1 : Nat) (Option.some (Jvm.ClassFile.FieldType.object "com/example/vouchsafe/vouchsafe/cli/ExitCode"))]
set_option maxRecDepth 65536 in
theorem codes_eq : words1.filter isCode = codes1 := rfl
theorem w_codes : ∀ c ∈ words1.filter isCode, c.before args0 about1 = true := by
  rw [codes_eq]
  intro c hc
  simp only [codes1, List.mem_cons, List.not_mem_nil, or_false] at hc
  rcases hc with rfl | rfl | rfl | rfl
  · exact w_c0
  · exact w_c1
  · exact w_c2
  · exact w_c3
set_option maxRecDepth 65536 in
theorem w_t1 : (words1.take 24).all (fun c => isCode c || c.before args0 about1) = true := by decide +kernel
set_option maxRecDepth 65536 in
theorem w_t2 : (words1.drop 24).all (fun c => isCode c || c.before args0 about1) = true := by decide +kernel
theorem w_tables : (allAtoms (Jvm.Cond.code x code maxLocals ret :: tables_1)).before args0 about1 = true := by
  rw [allAtoms_all]
  show words1.all (fun c => c.before args0 about1) = true
  refine all_split ?_ w_codes
  rw [← List.take_append_drop 24 words1, List.all_append, w_t1, w_t2]
  rfl
set_option maxRecDepth 65536 in
theorem w_case : (Jvm.Cond.and given_1 narrow_1).before args0 about1 = true := by decide +kernel
theorem w_applies : (headSpec (Jvm.Cond.code x code maxLocals ret :: tables_1) room_1).applies x e0.platform about1 = true :=
  (Spec.applies_iff w_frames).mpr ⟨w_running, w_runnable, w_alone, w_named, w_hears, w_ripe, w_room, w_tables⟩
theorem atStart : AtStart classFile x code maxLocals ret World_1 tables_1 room_1 Calls_1 rest_1 Pre_1 launch0 p0 e0 about1 theMethod args0 below0 :=
  ⟨lists_1, trivial, launch0.admits_env _ _ _, launch0.least_env, fairChoices_fair.cas, fairChoices_fair.clock, w_frames, w_args, w_heap, w_applies, trivial, trivial, w_case⟩
end start1
theorem witness_1 : WitnessClaimed_1 := ⟨start1.p0, start1.e0, start1.about1, start1.theMethod, start1.args0, start1.below0, start1.atStart⟩
end Jvm.Pilot.@@N@@
