import JvmDerived
import JvmDerived.Pilot.@@N@@Statement
import JvmDerived.Pilot.@@N@@Code
set_option linter.unusedVariables false
set_option linter.unusedSimpArgs false
namespace Own
open Jvm Jvm.ClassFile Sem Op Lib Jvm.Stand Jvm.Free Jvm.LawKit Jvm.RoadKit
def Fin (p : Program) (e : Env) (below : List Frame) (G : State) (Q : Outcome → State → Prop) : Prop :=
  ∃ s₂ o, Steps p.tables e below G s₂ ∧ s₂.status = .running ∧ Ended s₂ below o ∧ Q o s₂
def Post (s : State) (K : Option Value → Heap → List Loc → Prop) (cc ss : Nat) (o : Outcome) (U : State) : Prop :=
  ∃ v L, o = .returned v ∧ K v U.heap L ∧ FrameEnd s o U L cc ss
theorem go {p : Program} {e : Env} {below : List Frame} {G G' : State} {Q : Outcome → State → Prop} (h : ∀ t, Steps p.tables e below G' t → Steps p.tables e below G t) (k : Fin p e below G' Q) : Fin p e below G Q := by
  obtain ⟨s₂, o, h1, h2⟩ := k
  exact ⟨s₂, o, h _ h1, h2⟩
theorem start {p : Program} {e : Env} {below : List Frame} {T : State} {g g' : JFrame} {Q : Outcome → State → Prop} (q : g = g') (k : Fin p e below (T.setTop g') Q) : Fin p e below (T.setTop g) Q := q ▸ k
theorem clamp_lt {j z : Int32} {n : Nat} (hj : ¬ j < 0 ∧ j < z) (hz : z.toNatClampNeg = n) : j.toNatClampNeg < n := by
  subst hz
  have h1 := hj.1; have h2 := hj.2
  rw [Int32.lt_iff_toInt_lt] at h1 h2
  have h0 : (0 : Int32).toInt = 0 := by decide
  rw [h0] at h1
  show j.toInt.toNat < z.toInt.toNat
  omega
section A
variable {p : Program} {l : Launch} {e : Env} {R : Room} {s : State} {m : MethodId} {args : Array Value} {below : List Frame} {meth : Method} {c : Code} {T : State} {locs : List Loc} {cells slots : Nat}
theorem retAny (X : Stand p l e R s m args below meth c T locs cells slots) {v : Option Value} (hlk : meth.locks = false) (hv : meth.sig.returnType = none → v = none) {g : JFrame}
    (hstep : ∀ fs, (∀ (f : JFrame) (acts : List Action), f.method = m → f.locked = none → f.entered = [] → (doReturn e (T.setTop f) acts v).1 = T.setFrames fs) → Steps p.tables e below (T.setTop g) (T.setFrames fs))
    {K : Option Value → Heap → List Loc → Prop} {cc ss : Nat} (hc : cells ≤ cc) (hs : slots ≤ ss) (hk : K v T.heap locs) : Fin p e below (T.setTop g) (Post s K cc ss) := by
  obtain ⟨fs, hr, hrun, hended, hW, hsame⟩ := X.leave (v := v) hv hlk
  exact ⟨_, _, hstep fs hr, hrun, hended, _, _, rfl, hk, ⟨_, rfl⟩, hW, hsame.mono hc hs⟩
theorem retI (X : Stand p l e R s m args below meth c T locs cells slots) (hx : p.tables.exec = Jvm.exec) (hlk : meth.locks = false) (hret : meth.sig.returnType = some .int) {pc : Nat} {Ls : Array Slot} {z : Int32} {rest : List Value} (hd : decode c.code pc = .ok (.ireturn, 1))
    {K : Option Value → Heap → List Loc → Prop} {cc ss : Nat} (hc : cells ≤ cc) (hs : slots ≤ ss) (hk : K (some (.int z)) T.heap locs) : Fin p e below (T.setTop (mkF m pc Ls (.int z :: rest))) (Post s K cc ss) := by
  refine retAny X (v := some (.int z)) hlk (fun h => by rw [hret] at h; cases h) (fun fs hl => ?_) hc hs hk
  have hm' : T.vm.method? m = some meth := X.method'
  have hn : narrow .int (.int z) = .int z := rfl
  show Steps p.tables e below (T.setTop { method := m, pc := pc, locals := Ls, stack := _ :: rest, locked := none }) _
  jvm_step X.here [X.here.top, hx, hd, hm', hret, hn]
  first | (intro acts; rw [hl _ acts rfl rfl rfl]) | rw [hl _ _ rfl rfl rfl]
  exact Steps.refl _
theorem retN (X : Stand p l e R s m args below meth c T locs cells slots) (hx : p.tables.exec = Jvm.exec) (hlk : meth.locks = false) {t : FieldType} (hret : meth.sig.returnType = some t) (ht : t = .boolean ∨ t = .byte ∨ t = .char ∨ t = .short) {pc : Nat} {Ls : Array Slot} {z : Int32} {rest : List Value} (hd : decode c.code pc = .ok (.ireturn, 1))
    {K : Option Value → Heap → List Loc → Prop} {cc ss : Nat} (hc : cells ≤ cc) (hs : slots ≤ ss) (hk : K (some (.int (nar t z))) T.heap locs) : Fin p e below (T.setTop (mkF m pc Ls (.int z :: rest))) (Post s K cc ss) :=
  retAny X (v := some (.int (nar t z))) hlk (fun h => by rw [hret] at h; cases h) (fun fs hl => RoadKit.retN X hx hret ht hd hl) hc hs hk
theorem retJ (X : Stand p l e R s m args below meth c T locs cells slots) (hx : p.tables.exec = Jvm.exec) (hlk : meth.locks = false) (hret : meth.sig.returnType = some .long) {pc : Nat} {Ls : Array Slot} {z : Int64} {rest : List Value} (hd : decode c.code pc = .ok (.lreturn, 1))
    {K : Option Value → Heap → List Loc → Prop} {cc ss : Nat} (hc : cells ≤ cc) (hs : slots ≤ ss) (hk : K (some (.long z)) T.heap locs) : Fin p e below (T.setTop (mkF m pc Ls (.long z :: rest))) (Post s K cc ss) := by
  refine retAny X (v := some (.long z)) hlk (fun h => by rw [hret] at h; cases h) (fun fs hl => ?_) hc hs hk
  have hm' : T.vm.method? m = some meth := X.method'
  show Steps p.tables e below (T.setTop { method := m, pc := pc, locals := Ls, stack := _ :: rest, locked := none }) _
  jvm_step X.here [X.here.top, hx, hd, hm', hret, narrow]
  first | (intro acts; rw [hl _ acts rfl rfl rfl]) | rw [hl _ _ rfl rfl rfl]
  exact Steps.refl _
theorem retV (X : Stand p l e R s m args below meth c T locs cells slots) (hx : p.tables.exec = Jvm.exec) (hlk : meth.locks = false) (hret : meth.sig.returnType = none) {pc : Nat} {Ls : Array Slot} (hd : decode c.code pc = .ok (.return_, 1))
    {K : Option Value → Heap → List Loc → Prop} {cc ss : Nat} (hc : cells ≤ cc) (hs : slots ≤ ss) (hk : K none T.heap locs) : Fin p e below (T.setTop (mkF m pc Ls [])) (Post s K cc ss) :=
  retAny X (v := none) hlk (fun _ => rfl) (fun fs hl => X.returnOut hx hret hd hl) hc hs hk
theorem cS {Z : State} {a0 : Array Value} {h : Heap} (X : Stand p l e R s m args below meth c T locs cells slots) (hx : p.tables.exec = Jvm.exec) (hZ : Z.Warmed39 s.vm) {own : String} {index : Nat} {y : MethodName} {bytes : ByteArray} {maxL : Nat} {ret : Option FieldType} {rm : Room} {as' : Array Value} {Q : Option Value → Heap → List Loc → Prop}
    (hown : s.vm.findClass own = some m.cls) (w1 : (Cond.methodLink own index y).before a0 Z = true) (w2 : (Cond.static y).before a0 Z = true) (w3 : (Cond.initialized y.cls).before a0 Z = true) (w4 : (Cond.code y bytes maxL ret).before a0 Z = true)
    (hy : y.cls ≠ "java/lang/invoke/MethodHandle" ∧ y.cls ≠ "java/lang/invoke/VarHandle")
    (hM : MetFree l y (head1 [Cond.code y bytes maxL ret] rm) (fun a U => a = as' ∧ Z.Warmed39 U.vm ∧ U.heap = h) (fun _ _ _ _ _ => True) (fun _ U o U' => ∃ v L, o = .returned v ∧ Q v U'.heap L ∧ FrameEnd U o U' L rm.cells rm.slots))
    (hf : rm.frames + 1 ≤ R.frames) {W : Nat} (hl : W + (maxL + 11) + rm.locals ≤ R.locals) {pc : Nat} {ls : Array Slot} {argsL rest : List Value} (hsize : ls.size = c.maxLocals) (hlen : ∀ sig, parseMethodDescriptor y.desc = some sig → argsL.length = sig.parameters.length)
    (has : argsL.toArray = as') (hW : (rest.map fun v => v.category).sum ≤ W) (hd : decode c.code pc = .ok (.invokestatic index, 3)) (eT : T.heap = h) (hcc : cells + rm.cells ≤ R.cells) (hss : slots + rm.slots ≤ R.slots) {P : Outcome → State → Prop}
    (k : ∀ T' L v, Stand p l e R s m args below meth c T' (locs ++ L) (cells + rm.cells) (slots + rm.slots) → Q v T'.heap L → Fin p e below (T'.setTop (mkF m (pc + 3) ls (v.toList ++ rest))) P) :
    Fin p e below (T.setTop (mkF m pc ls (argsL.reverse ++ rest))) P := by
  obtain ⟨v, _, ⟨T', L', k', n'⟩, -, X', ⟨L, hQ, e1, e2, e3⟩, st⟩ := Jvm.LawKit.callS X hx (y := y) hown (mvT hZ w1) (mvT hZ w2) (mvT hZ w3) (mvT hZ w4) hy (backOf (W := W) hM hZ w4 w3 hf hl) (g := mkF m pc ls (argsL.reverse ++ rest)) rfl hsize (argsL := argsL) (rest := rest) hlen rfl
    (by show 2 * 0 + _ ≤ _; omega) hd (fun _ _ => ⟨has, eT, hcc, hss⟩)
  dsimp only [Pt.U, Pt.locs, Pt.cells, Pt.slots] at X' e1 e2 e3 st hQ
  subst e1 e2 e3
  exact go st (k T' L v X' hQ)
theorem cI {Z : State} {a0 : Array Value} {h : Heap} (X : Stand p l e R s m args below meth c T locs cells slots) (hx : p.tables.exec = Jvm.exec) (hZ : Z.Warmed39 s.vm) {own : String} {index : Nat} {y : MethodName} {bytes : ByteArray} {maxL : Nat} {rm : Room} {as' : Array Value} {Q : Option Value → Heap → List Loc → Prop}
    (hy1 : y.name = "<init>") (hown : s.vm.findClass own = some m.cls) (w1 : (Cond.methodLink own index y).before a0 Z = true) (w2 : (Cond.instanceMethod y).before a0 Z = true) (w3 : (Cond.initialized y.cls).before a0 Z = true) (w4 : (Cond.code y bytes maxL none).before a0 Z = true)
    (hy : y.cls ≠ "java/lang/invoke/MethodHandle" ∧ y.cls ≠ "java/lang/invoke/VarHandle")
    (hM : MetFree l y (head1 [Cond.code y bytes maxL none] rm) (fun a U => a = as' ∧ Z.Warmed39 U.vm ∧ U.heap = h) (fun _ _ _ _ _ => True) (fun _ U o U' => ∃ v L, o = .returned v ∧ Q v U'.heap L ∧ FrameEnd U o U' L rm.cells rm.slots))
    (hf : rm.frames + 1 ≤ R.frames) {W : Nat} (hl : W + (maxL + 11) + rm.locals ≤ R.locals) {pc : Nat} {ls : Array Slot} {a : Addr} {argsL rest : List Value} (hsize : ls.size = c.maxLocals) (hlen : ∀ sig, parseMethodDescriptor y.desc = some sig → argsL.length = sig.parameters.length)
    (has : (Value.ref a :: argsL).toArray = as') (hW : (rest.map fun v => v.category).sum ≤ W) (hd : decode c.code pc = .ok (.invokespecial index, 3)) (eT : T.heap = h) (hcc : cells + rm.cells ≤ R.cells) (hss : slots + rm.slots ≤ R.slots) {P : Outcome → State → Prop}
    (k : ∀ T' L v, Stand p l e R s m args below meth c T' (locs ++ L) (cells + rm.cells) (slots + rm.slots) → Q v T'.heap L → Fin p e below (T'.setTop (mkF m (pc + 3) ls (v.toList ++ rest))) P) :
    Fin p e below (T.setTop (mkF m pc ls (argsL.reverse ++ .ref a :: rest))) P := by
  obtain ⟨v, _, ⟨T', L', k', n'⟩, -, X', ⟨L, hQ, e1, e2, e3⟩, st⟩ := X.specialBack hx (y := y) hy1 hown (mvT hZ w1) (mvT hZ w2) (mvT hZ w4) hy (backOf (W := W) hM hZ w4 w3 hf hl) (g := mkF m pc ls (argsL.reverse ++ .ref a :: rest)) rfl hsize (Steps.refl _) (a := a) (argsL := argsL) (rest := rest) hlen rfl
    (by show 2 * 0 + _ ≤ _; omega) hd (fun _ _ => ⟨has, eT, hcc, hss⟩)
  dsimp only [Pt.U, Pt.locs, Pt.cells, Pt.slots] at X' e1 e2 e3 st hQ
  subst e1 e2 e3
  exact go (fun t kt => st.trans kt) (k T' L v X' hQ)
theorem cV {Z : State} {a0 : Array Value} {h : Heap} (X : Stand p l e R s m args below meth c T locs cells slots) (hx : p.tables.exec = Jvm.exec) (hZ : Z.Warmed39 s.vm) {own C : String} {index : Nat} {y z : MethodName} {bytes : ByteArray} {maxL : Nat} {ret : Option FieldType} {rm : Room} {as' : Array Value} {Q : Option Value → Heap → List Loc → Prop}
    (hown : s.vm.findClass own = some m.cls) (w1 : (Cond.methodLink own index y).before a0 Z = true) (w2 : (Cond.declares y).before a0 Z = true) (hnf : NotFace s y) (w5 : (Cond.selects C y z).before a0 Z = true) (w6 : (Cond.instanceMethod z).before a0 Z = true) (w3 : (Cond.initialized z.cls).before a0 Z = true) (w4 : (Cond.code z bytes maxL ret).before a0 Z = true)
    (hy : y.cls ≠ "java/lang/invoke/MethodHandle" ∧ y.cls ≠ "java/lang/invoke/VarHandle")
    (hM : MetFree l z (head1 [Cond.code z bytes maxL ret] rm) (fun a U => a = as' ∧ Z.Warmed39 U.vm ∧ U.heap = h) (fun _ _ _ _ _ => True) (fun _ U o U' => ∃ v L, o = .returned v ∧ Q v U'.heap L ∧ FrameEnd U o U' L rm.cells rm.slots))
    (hf : rm.frames + 1 ≤ R.frames) {W : Nat} (hl : W + (maxL + 11) + rm.locals ≤ R.locals) {pc : Nat} {ls : Array Slot} {a : Addr} {argsL rest : List Value} (E : Exa Z h a C) (hsize : ls.size = c.maxLocals) (hlen : ∀ sig, parseMethodDescriptor y.desc = some sig → argsL.length = sig.parameters.length)
    (has : (Value.ref a :: argsL).toArray = as') (hW : (rest.map fun v => v.category).sum ≤ W) (hd : decode c.code pc = .ok (.invokevirtual index, 3)) (eT : T.heap = h) (hcc : cells + rm.cells ≤ R.cells) (hss : slots + rm.slots ≤ R.slots) {P : Outcome → State → Prop}
    (k : ∀ T' L v, Stand p l e R s m args below meth c T' (locs ++ L) (cells + rm.cells) (slots + rm.slots) → Q v T'.heap L → Fin p e below (T'.setTop (mkF m (pc + 3) ls (v.toList ++ rest))) P) :
    Fin p e below (T.setTop (mkF m pc ls (argsL.reverse ++ .ref a :: rest))) P := by
  obtain ⟨cq, kq, qa, qb, qc⟩ := isOf hZ eT E
  obtain ⟨v, _, ⟨T', L', k', n'⟩, -, X', ⟨L, hQ, e1, e2, e3⟩, st⟩ := X.virtualBack hx (y := y) (z := z) hown (mvT hZ w1) (mvT hZ w2) hnf (mvT hZ w5) (mvT hZ w6) hy (backOf (W := W) hM hZ w4 w3 hf hl) qa qc (g := mkF m pc ls (argsL.reverse ++ .ref a :: rest)) rfl hsize (Steps.refl _) (argsL := argsL) (rest := rest) hlen rfl
    (by show 2 * 0 + _ ≤ _; omega) hd (fun _ _ => ⟨has, eT, hcc, hss⟩)
  dsimp only [Pt.U, Pt.locs, Pt.cells, Pt.slots] at X' e1 e2 e3 st hQ
  subst e1 e2 e3
  exact go (fun t kt => st.trans kt) (k T' L v X' hQ)
theorem newA {Z : State} {a0 : Array Value} {h : Heap} (X : Stand p l e R s m args below meth c T locs cells slots) (hx : p.tables.exec = Jvm.exec) (hZ : Z.Warmed39 s.vm) {aty : ArrayType} (w : (Cond.arrayClass (newarray.typeOf aty)).before a0 Z = true) (eT : T.heap = h)
    {pc : Nat} {ls : Array Slot} {n : Int32} {rest : List Value} (hd : decode c.code pc = .ok (.newarray aty, 2)) (hn : ¬ n < 0) (cap : Nat) (hcap : n.toNatClampNeg ≤ cap) (hb : cap * 8 ≤ 536870912) (hc : cells + 1 ≤ R.cells) (hl : slots + cap ≤ R.slots) {P : Outcome → State → Prop}
    (k : ∀ T' h' b kA, Stand p l e R s m args below meth c T' locs (cells + 1) (slots + cap) → T'.heap = h' → Ext h h' → b = h.size → Arv Z h' b kA (newarray.typeOf aty) n [] (defaultValue (newarray.typeOf aty)) → Fin p e below (T'.setTop (mkF m (pc + 2) ls (.ref b :: rest))) P) :
    Fin p e below (T.setTop (mkF m pc ls (.int n :: rest))) P := by
  obtain ⟨T', h', kA, X', e', E', A', st⟩ := newP X hx hZ w eT (g := mkF m pc ls (.int n :: rest)) rfl hd rfl hn hcap hb hc hl
  exact go st (k T' h' _ kA X' e' E' rfl (Arv.new A' hn))
theorem stI {Z : State} {h : Heap} {a : Addr} {kA : ClassId} {z : Int32} {vs : List Value} {dv : Value} (X : Stand p l e R s m args below meth c T locs cells slots) (hx : p.tables.exec = Jvm.exec) (hZ : Z.Warmed39 s.vm) (eT : T.heap = h) (V : Arv Z h a kA .int z vs dv)
    {pc : Nat} {ls : Array Slot} {j x : Int32} {rest : List Value} (hd : decode c.code pc = .ok (.iastore, 1)) (hj : ¬ j < 0 ∧ j < z) (i : Nat) (hi : j.toNatClampNeg = i) (hlen : i < vs.length) {P : Outcome → State → Prop}
    (k : ∀ T' h', Stand p l e R s m args below meth c T' (locs ++ [⟨a, j.toNatClampNeg⟩]) cells slots → T'.heap = h' → Wr h h' a j.toNatClampNeg (.int x) → Arv Z h' a kA .int z (vs.set i (.int x)) dv → Fin p e below (T'.setTop (mkF m (pc + 1) ls rest)) P) :
    Fin p e below (T.setTop (mkF m pc ls (.int x :: .int j :: .ref a :: rest))) P := by
  obtain ⟨cl, Ar, q, S, N, H, G⟩ := V
  obtain ⟨T', h', X', e', W', st⟩ := RoadKit.stI X hx hZ eT Ar (j := j) (inb_of S hj) (g := mkF m pc ls (.int x :: .int j :: .ref a :: rest)) rfl rfl hd
  exact go st (k T' h' X' e' W' (Arv.set Ar q S N H G rfl W' i hi hlen))
theorem stJ {Z : State} {h : Heap} {a : Addr} {kA : ClassId} {z : Int32} {vs : List Value} {dv : Value} (X : Stand p l e R s m args below meth c T locs cells slots) (hx : p.tables.exec = Jvm.exec) (hZ : Z.Warmed39 s.vm) (eT : T.heap = h) (V : Arv Z h a kA .long z vs dv)
    {pc : Nat} {ls : Array Slot} {j : Int32} {x : Int64} {rest : List Value} (hd : decode c.code pc = .ok (.lastore, 1)) (hj : ¬ j < 0 ∧ j < z) (i : Nat) (hi : j.toNatClampNeg = i) (hlen : i < vs.length) {P : Outcome → State → Prop}
    (k : ∀ T' h', Stand p l e R s m args below meth c T' (locs ++ [⟨a, j.toNatClampNeg⟩]) cells slots → T'.heap = h' → Wr h h' a j.toNatClampNeg (.long x) → Arv Z h' a kA .long z (vs.set i (.long x)) dv → Fin p e below (T'.setTop (mkF m (pc + 1) ls rest)) P) :
    Fin p e below (T.setTop (mkF m pc ls (.long x :: .int j :: .ref a :: rest))) P := by
  obtain ⟨cl, Ar, q, S, N, H, G⟩ := V
  obtain ⟨T', h', X', e', W', st⟩ := RoadKit.stJ X hx hZ eT Ar (j := j) (inb_of S hj) (g := mkF m pc ls (.long x :: .int j :: .ref a :: rest)) rfl rfl hd
  exact go st (k T' h' X' e' W' (Arv.set Ar q S N H G rfl W' i hi hlen))
theorem stB {Z : State} {h : Heap} {a : Addr} {kA : ClassId} {z : Int32} {vs : List Value} {dv : Value} (X : Stand p l e R s m args below meth c T locs cells slots) (hx : p.tables.exec = Jvm.exec) (hZ : Z.Warmed39 s.vm) (eT : T.heap = h) (V : Arv Z h a kA .byte z vs dv)
    {pc : Nat} {ls : Array Slot} {j x : Int32} {rest : List Value} (hd : decode c.code pc = .ok (.bastore, 1)) (hj : ¬ j < 0 ∧ j < z) (i : Nat) (hi : j.toNatClampNeg = i) (hlen : i < vs.length) {P : Outcome → State → Prop}
    (k : ∀ T' h', Stand p l e R s m args below meth c T' (locs ++ [⟨a, j.toNatClampNeg⟩]) cells slots → T'.heap = h' → Wr h h' a j.toNatClampNeg (.int (nar .byte x)) → Arv Z h' a kA .byte z (vs.set i (.int (nar .byte x))) dv → Fin p e below (T'.setTop (mkF m (pc + 1) ls rest)) P) :
    Fin p e below (T.setTop (mkF m pc ls (.int x :: .int j :: .ref a :: rest))) P := by
  obtain ⟨cl, Ar, q, S, N, H, G⟩ := V
  obtain ⟨T', h', X', e', W', st⟩ := RoadKit.stB X hx hZ eT Ar (j := j) (inb_of S hj) (g := mkF m pc ls (.int x :: .int j :: .ref a :: rest)) rfl rfl hd
  exact go st (k T' h' X' e' W' (Arv.set Ar q S N H G (fits_nar_byte _) W' i hi hlen))
theorem stC {Z : State} {h : Heap} {a : Addr} {kA : ClassId} {z : Int32} {vs : List Value} {dv : Value} (X : Stand p l e R s m args below meth c T locs cells slots) (hx : p.tables.exec = Jvm.exec) (hZ : Z.Warmed39 s.vm) (eT : T.heap = h) (V : Arv Z h a kA .char z vs dv)
    {pc : Nat} {ls : Array Slot} {j x : Int32} {rest : List Value} (hd : decode c.code pc = .ok (.castore, 1)) (hj : ¬ j < 0 ∧ j < z) (i : Nat) (hi : j.toNatClampNeg = i) (hlen : i < vs.length) {P : Outcome → State → Prop}
    (k : ∀ T' h', Stand p l e R s m args below meth c T' (locs ++ [⟨a, j.toNatClampNeg⟩]) cells slots → T'.heap = h' → Wr h h' a j.toNatClampNeg (.int (nar .char x)) → Arv Z h' a kA .char z (vs.set i (.int (nar .char x))) dv → Fin p e below (T'.setTop (mkF m (pc + 1) ls rest)) P) :
    Fin p e below (T.setTop (mkF m pc ls (.int x :: .int j :: .ref a :: rest))) P := by
  obtain ⟨cl, Ar, q, S, N, H, G⟩ := V
  obtain ⟨T', h', X', e', W', st⟩ := RoadKit.stC X hx hZ eT Ar (j := j) (inb_of S hj) (g := mkF m pc ls (.int x :: .int j :: .ref a :: rest)) rfl rfl hd
  exact go st (k T' h' X' e' W' (Arv.set Ar q S N H G (fits_nar_char _) W' i hi hlen))
theorem alen {Z : State} {h : Heap} {a : Addr} {kA : ClassId} {ty : FieldType} {z : Int32} {vs : List Value} {dv : Value} (X : Stand p l e R s m args below meth c T locs cells slots) (hx : p.tables.exec = Jvm.exec) (hZ : Z.Warmed39 s.vm) (eT : T.heap = h) (V : Arv Z h a kA ty z vs dv)
    {pc : Nat} {ls : Array Slot} {rest : List Value} (hd : decode c.code pc = .ok (.arraylength, 1)) {P : Outcome → State → Prop} (k : Fin p e below (T.setTop (mkF m (pc + 1) ls (.int z :: rest))) P) :
    Fin p e below (T.setTop (mkF m pc ls (.ref a :: rest))) P := by
  obtain ⟨cl, Ar, q, S, N, H, G⟩ := V
  refine go (fun t kt => X.arraylength hx (by rw [eT]; exact Ar.1) (State.isArrayOf_alike hZ.alike Ar.2.1) (g := mkF m pc ls (.ref a :: rest)) rfl rfl hd t kt) ?_
  rw [len_of S N]
  exact k
theorem arv_at {Z : State} {h : Heap} {a : Addr} {kA : ClassId} {ty : FieldType} {z : Int32} {vs : List Value} {dv : Value} (V : Arv Z h a kA ty z vs dv) {j : Int32} (hj : ¬ j < 0 ∧ j < z) :
    ∃ cl, Arr Z h a cl ty ∧ ¬ (j < 0 ∨ cl.slots.size ≤ j.toNatClampNeg) ∧ cl.slots[j.toNatClampNeg]? = some (vs.getD j.toNatClampNeg dv) ∧ fits ty (vs.getD j.toNatClampNeg dv) = true := by
  obtain ⟨cl, Ar, q, S, N, H, G⟩ := V
  have hin := inb_of S hj
  have hlt : j.toNatClampNeg < cl.slots.size := Nat.lt_of_not_le fun q => hin (Or.inr q)
  exact ⟨cl, Ar, hin, H _ hlt, G _ hlt⟩
theorem ldI {Z : State} {h : Heap} {a : Addr} {kA : ClassId} {z : Int32} {vs : List Value} {dv : Value} (X : Stand p l e R s m args below meth c T locs cells slots) (hx : p.tables.exec = Jvm.exec) (hZ : Z.Warmed39 s.vm) (eT : T.heap = h) (V : Arv Z h a kA .int z vs dv)
    {pc : Nat} {ls : Array Slot} {j : Int32} {rest : List Value} (hd : decode c.code pc = .ok (.iaload, 1)) (hj : ¬ j < 0 ∧ j < z) {P : Outcome → State → Prop} (k : ∀ x, vs.getD j.toNatClampNeg dv = .int x → Fin p e below (T.setTop (mkF m (pc + 1) ls (.int x :: rest))) P) :
    Fin p e below (T.setTop (mkF m pc ls (.int j :: .ref a :: rest))) P := by
  obtain ⟨cl, Ar, hin, hat, hf⟩ := arv_at V hj
  obtain ⟨x, hx'⟩ := fit_I hf (Or.inl rfl)
  refine go (fun t kt => X.iaload hx (j := j) (v := .int x) (by rw [eT]; exact Ar.1) (State.isArrayOf_alike hZ.alike Ar.2.1) Ar.2.2 hin (by rw [hat, hx']) (g := mkF m pc ls (.int j :: .ref a :: rest)) rfl rfl hd t kt) (k x hx')
theorem ldJ {Z : State} {h : Heap} {a : Addr} {kA : ClassId} {z : Int32} {vs : List Value} {dv : Value} (X : Stand p l e R s m args below meth c T locs cells slots) (hx : p.tables.exec = Jvm.exec) (hZ : Z.Warmed39 s.vm) (eT : T.heap = h) (V : Arv Z h a kA .long z vs dv)
    {pc : Nat} {ls : Array Slot} {j : Int32} {rest : List Value} (hd : decode c.code pc = .ok (.laload, 1)) (hj : ¬ j < 0 ∧ j < z) {P : Outcome → State → Prop} (k : ∀ x, vs.getD j.toNatClampNeg dv = .long x → Fin p e below (T.setTop (mkF m (pc + 1) ls (.long x :: rest))) P) :
    Fin p e below (T.setTop (mkF m pc ls (.int j :: .ref a :: rest))) P := by
  obtain ⟨cl, Ar, hin, hat, hf⟩ := arv_at V hj
  obtain ⟨x, hx'⟩ := fit_J hf
  refine go (fun t kt => X.laload hx (j := j) (v := .long x) (by rw [eT]; exact Ar.1) (State.isArrayOf_alike hZ.alike Ar.2.1) Ar.2.2 hin (by rw [hat, hx']) (g := mkF m pc ls (.int j :: .ref a :: rest)) rfl rfl hd t kt) (k x hx')
theorem ldB {Z : State} {h : Heap} {a : Addr} {kA : ClassId} {z : Int32} {vs : List Value} {dv : Value} (X : Stand p l e R s m args below meth c T locs cells slots) (hx : p.tables.exec = Jvm.exec) (hZ : Z.Warmed39 s.vm) (eT : T.heap = h) (V : Arv Z h a kA .byte z vs dv)
    {pc : Nat} {ls : Array Slot} {j : Int32} {rest : List Value} (hd : decode c.code pc = .ok (.baload, 1)) (hj : ¬ j < 0 ∧ j < z) {P : Outcome → State → Prop} (k : ∀ x, vs.getD j.toNatClampNeg dv = .int x → Fin p e below (T.setTop (mkF m (pc + 1) ls (.int x :: rest))) P) :
    Fin p e below (T.setTop (mkF m pc ls (.int j :: .ref a :: rest))) P := by
  obtain ⟨cl, Ar, hin, hat, hf⟩ := arv_at V hj
  obtain ⟨x, hx'⟩ := fit_I hf (Or.inr (Or.inr (Or.inl rfl)))
  refine go (fun t kt => X.baloadBytes hx (j := j) (v := .int x) (by rw [eT]; exact Ar.1) (State.isArrayOf_alike hZ.alike Ar.2.1) Ar.2.2 hin (by rw [hat, hx']) (g := mkF m pc ls (.int j :: .ref a :: rest)) rfl rfl hd t kt) (k x hx')
theorem ldC {Z : State} {h : Heap} {a : Addr} {kA : ClassId} {z : Int32} {vs : List Value} {dv : Value} (X : Stand p l e R s m args below meth c T locs cells slots) (hx : p.tables.exec = Jvm.exec) (hZ : Z.Warmed39 s.vm) (eT : T.heap = h) (V : Arv Z h a kA .char z vs dv)
    {pc : Nat} {ls : Array Slot} {j : Int32} {rest : List Value} (hd : decode c.code pc = .ok (.caload, 1)) (hj : ¬ j < 0 ∧ j < z) {P : Outcome → State → Prop} (k : ∀ x, vs.getD j.toNatClampNeg dv = .int x → Fin p e below (T.setTop (mkF m (pc + 1) ls (.int x :: rest))) P) :
    Fin p e below (T.setTop (mkF m pc ls (.int j :: .ref a :: rest))) P := by
  obtain ⟨cl, Ar, hin, hat, hf⟩ := arv_at V hj
  obtain ⟨x, hx'⟩ := fit_I hf (Or.inr (Or.inr (Or.inr (Or.inl rfl))))
  refine go (fun t kt => X.caload hx (j := j) (v := .int x) (by rw [eT]; exact Ar.1) (State.isArrayOf_alike hZ.alike Ar.2.1) Ar.2.2 hin (by rw [hat, hx']) (g := mkF m pc ls (.int j :: .ref a :: rest)) rfl rfl hd t kt) (k x hx')
theorem ldR {Z : State} {h : Heap} {a : Addr} {kA : ClassId} {ty : FieldType} {z : Int32} {vs : List Value} {dv : Value} (X : Stand p l e R s m args below meth c T locs cells slots) (hx : p.tables.exec = Jvm.exec) (hZ : Z.Warmed39 s.vm) (eT : T.heap = h) (V : Arv Z h a kA ty z vs dv) (ht : ty.isReference = true)
    {pc : Nat} {ls : Array Slot} {j : Int32} {rest : List Value} (hd : decode c.code pc = .ok (.aaload, 1)) (hj : ¬ j < 0 ∧ j < z) {w : Value} (hv : vs.getD j.toNatClampNeg dv = w) {P : Outcome → State → Prop} (k : Fin p e below (T.setTop (mkF m (pc + 1) ls (w :: rest))) P) :
    Fin p e below (T.setTop (mkF m pc ls (.int j :: .ref a :: rest))) P := by
  obtain ⟨cl, Ar, hin, hat, hf⟩ := arv_at V hj
  exact go (fun t kt => X.aaload hx (j := j) (v := w) (by rw [eT]; exact Ar.1) (State.isArrayOf_alike hZ.alike Ar.2.1) ht Ar.2.2 hin (by rw [hat, hv]) (g := mkF m pc ls (.int j :: .ref a :: rest)) rfl rfl hd t kt) k
theorem ldBc {Z : State} {h : Heap} {a : Addr} {cl : Cell} (X : Stand p l e R s m args below meth c T locs cells slots) (hx : p.tables.exec = Jvm.exec) (hZ : Z.Warmed39 s.vm) (eT : T.heap = h) (A : Arr Z h a cl .byte)
    {pc : Nat} {ls : Array Slot} {j x : Int32} {rest : List Value} (hd : decode c.code pc = .ok (.baload, 1)) (hin : ¬ (j < 0 ∨ cl.slots.size ≤ j.toNatClampNeg)) (hv : cl.slots[j.toNatClampNeg]? = some (.int x)) {P : Outcome → State → Prop} (k : Fin p e below (T.setTop (mkF m (pc + 1) ls (.int x :: rest))) P) :
    Fin p e below (T.setTop (mkF m pc ls (.int j :: .ref a :: rest))) P :=
  go (fun t kt => X.baloadBytes hx (j := j) (v := .int x) (by rw [eT]; exact A.1) (State.isArrayOf_alike hZ.alike A.2.1) A.2.2 hin hv (g := mkF m pc ls (.int j :: .ref a :: rest)) rfl rfl hd t kt) k
theorem alenC {Z : State} {h : Heap} {a : Addr} {cl : Cell} {ty : FieldType} {z : Int32} (X : Stand p l e R s m args below meth c T locs cells slots) (hx : p.tables.exec = Jvm.exec) (hZ : Z.Warmed39 s.vm) (eT : T.heap = h) (A : Arr Z h a cl ty) (hz : cl.slots.size.toInt32 = z)
    {pc : Nat} {ls : Array Slot} {rest : List Value} (hd : decode c.code pc = .ok (.arraylength, 1)) {P : Outcome → State → Prop} (k : Fin p e below (T.setTop (mkF m (pc + 1) ls (.int z :: rest))) P) :
    Fin p e below (T.setTop (mkF m pc ls (.ref a :: rest))) P := by
  refine go (fun t kt => X.arraylength hx (by rw [eT]; exact A.1) (State.isArrayOf_alike hZ.alike A.2.1) (g := mkF m pc ls (.ref a :: rest)) rfl rfl hd t kt) ?_
  rw [hz]
  exact k
theorem retR (X : Stand p l e R s m args below meth c T locs cells slots) (hx : p.tables.exec = Jvm.exec) (hlk : meth.locks = false) {t : FieldType} (hret : meth.sig.returnType = some t) (ht : t.isReference = true) {pc : Nat} {Ls : Array Slot} {z : Value} (hz : z.isRef = true) {rest : List Value} (hd : decode c.code pc = .ok (.areturn, 1))
    {K : Option Value → Heap → List Loc → Prop} {cc ss : Nat} (hc : cells ≤ cc) (hs : slots ≤ ss) (hk : K (some z) T.heap locs) : Fin p e below (T.setTop (mkF m pc Ls (z :: rest))) (Post s K cc ss) := by
  refine retAny X (v := some z) hlk (fun h => by rw [hret] at h; cases h) (fun fs hl => ?_) hc hs hk
  have hm' : T.vm.method? m = some meth := X.method'
  show Steps p.tables e below (T.setTop { method := m, pc := pc, locals := Ls, stack := _ :: rest, locked := none }) _
  jvm_step X.here [X.here.top, hx, hd, hm', hret, ht, hz]
  first | (intro acts; rw [hl _ acts rfl rfl rfl]) | rw [hl _ _ rfl rfl rfl]
  exact Steps.refl _
theorem cP {Z : State} {a0 : Array Value} {h : Heap} (X : Stand p l e R s m args below meth c T locs cells slots) (hx : p.tables.exec = Jvm.exec) (hZ : Z.Warmed39 s.vm) {own C : String} {index : Nat} {y y' : MethodName} {bytes : ByteArray} {maxL : Nat} {ret : Option FieldType} {rm : Room} {as' : Array Value} {Q : Option Value → Heap → List Loc → Prop}
    (hown : s.vm.findClass own = some m.cls) (w1 : (Cond.methodLink own index y).before a0 Z = true) (w2 : (Cond.instanceMethod y).before a0 Z = true) (w5 : (Cond.privateMethod y).before a0 Z = true) (w7 : (Cond.selects C y' y').before a0 Z = true) (hcl : y'.cls = y.cls) (w3 : (Cond.initialized y.cls).before a0 Z = true) (w4 : (Cond.code y bytes maxL ret).before a0 Z = true)
    (hy : y.cls ≠ "java/lang/invoke/MethodHandle" ∧ y.cls ≠ "java/lang/invoke/VarHandle")
    (hM : MetFree l y (head1 [Cond.code y bytes maxL ret] rm) (fun a U => a = as' ∧ Z.Warmed39 U.vm ∧ U.heap = h) (fun _ _ _ _ _ => True) (fun _ U o U' => ∃ v L, o = .returned v ∧ Q v U'.heap L ∧ FrameEnd U o U' L rm.cells rm.slots))
    (hf : rm.frames + 1 ≤ R.frames) {W : Nat} (hl : W + (maxL + 11) + rm.locals ≤ R.locals) {pc : Nat} {ls : Array Slot} {a : Addr} {argsL rest : List Value} {C' : String} (E : Exa Z h a C') (hsize : ls.size = c.maxLocals) (hlen : ∀ sig, parseMethodDescriptor y.desc = some sig → argsL.length = sig.parameters.length)
    (has : (Value.ref a :: argsL).toArray = as') (hW : (rest.map fun v => v.category).sum ≤ W) (hd : decode c.code pc = .ok (.invokevirtual index, 3)) (eT : T.heap = h) (hcc : cells + rm.cells ≤ R.cells) (hss : slots + rm.slots ≤ R.slots) {P : Outcome → State → Prop}
    (k : ∀ T' L v, Stand p l e R s m args below meth c T' (locs ++ L) (cells + rm.cells) (slots + rm.slots) → Q v T'.heap L → Fin p e below (T'.setTop (mkF m (pc + 3) ls (v.toList ++ rest))) P) :
    Fin p e below (T.setTop (mkF m pc ls (argsL.reverse ++ .ref a :: rest))) P := by
  have hpr : s.PrivateAt y := Cond.privateMethod_at (mvP hZ w5 (args := #[]))
  have hsel : (Cond.selects y.cls y y).before args s = true := by
    obtain ⟨c2, r2, m2, q1, q2, q3, q4, kP, hkP, hkPi⟩ := Cond.selects_spec (mvT (args := args) hZ w7)
    exact selects_self_of_private (hcl ▸ findClass_of_methodNamed q3) hkP hkPi hpr (mvT hZ w2) hy
  obtain ⟨cq, q1, q2⟩ := E.cell
  obtain ⟨v, _, ⟨T', L', k', n'⟩, -, X', ⟨L, hQ, e1, e2, e3⟩, st⟩ := X.privateBack hx (y := y) hown (mvT hZ w1) (mvT hZ w2) hsel hpr (mvT hZ w4) hy (backOf (W := W) hM hZ w4 w3 hf hl) (g := mkF m pc ls (argsL.reverse ++ .ref a :: rest)) rfl hsize (Steps.refl _) (a := a) (by rw [eT]; exact q1) q2 (argsL := argsL) (rest := rest) hlen rfl
    (by show 2 * 0 + _ ≤ _; omega) hd (fun _ _ => ⟨has, eT, hcc, hss⟩)
  dsimp only [Pt.U, Pt.locs, Pt.cells, Pt.slots] at X' e1 e2 e3 st hQ
  subst e1 e2 e3
  exact go (fun t kt => st.trans kt) (k T' L v X' hQ)
end A
section B
variable {args : Array Value} {first s : State} {o : Option Outcome} {idx : List Nat} {a b : Term}
theorem eqR {y : Addr} (h : (Cond.eq a b).value args first o s idx = some true) (hb : b.eval args first o idx s = some (.ref y)) : a.eval args first o idx s = some (.ref y) := by
  obtain ⟨x', y', h1, h2, k1, k2⟩ := cmp_v (Or.inl h)
  cases hb.symm.trans h2
  have hx : x'.isRef = true := k2.2
  rw [h1, gotT (eq_R h1 hb hx rfl) h]
theorem eqI {y : Int32} (h : (Cond.eq a b).value args first o s idx = some true) (hb : b.eval args first o idx s = some (.int y)) : a.eval args first o idx s = some (.int y) := by
  obtain ⟨x', y', h1, h2, k1, k2⟩ := cmp_v (Or.inl h)
  cases hb.symm.trans h2
  obtain ⟨z, rfl⟩ := k2
  rw [h1, gotT (Cond.eq_ints h1 hb) h]
theorem len_at {y : Int32} (h : (Term.length a).eval args first o idx s = some (.int y)) : ∃ (x : Addr) (cell : Cell), a.eval args first o idx s = some (.ref x) ∧ s.arrayAt? x = some cell ∧ cell.slots.size < 2 ^ 31 ∧ cell.slots.size.toInt32 = y := by
  obtain ⟨b, cell, h1, h2, h3, h4⟩ := Jvm.Lib.length_spec h
  exact ⟨b, cell, h1, h2, h3, (Value.int.inj h4).symm⟩
end B
end Own
namespace Jvm.Pilot.@@N@@
open Jvm Jvm.ClassFile Sem Op Lib Jvm.Free Jvm.Stand Jvm.LawKit Jvm.RoadKit Bundle Jvm.Pilot.@@N@@.Jvm.D
def F_min (a b : Int64) : Int64 := if 0 < lcmpW a b then b else a
def F_exp (len : Int32) (nd : Int64) : Int64 := if lcmpW ((2 : Int64) * (len).toInt64) nd < 0 then nd + nd / (8 : Int64) else (2 : Int64) * (len).toInt64
def F_grown (len : Int32) (nd : Int64) : Int32 := (F_min (F_exp len nd) (2147483639 : Int64)).toInt32
theorem own_dbl (len : Int32) : ((2 : Int64) * (len).toInt64).toInt = 2 * len.toInt := by
  have h := c_lmul (2 : Int64) len.toInt64
  have h1 := c_i2l len
  have h2 : (2 : Int64).toInt = 2 := by decide
  rw [h1, h2] at h
  have b1 := len.toInt_lt; have b2 := len.le_toInt
  have b3 := ((2 : Int64) * (len).toInt64).toInt_lt; have b4 := ((2 : Int64) * (len).toInt64).le_toInt
  omega
theorem own_exp (len : Int32) (nd : Int64) (h : 0 ≤ nd.toInt ∧ nd.toInt ≤ 2147483639) : (F_exp len nd).toInt = if 2 * len.toInt < nd.toInt then nd.toInt + nd.toInt / 8 else 2 * len.toInt := by
  unfold F_exp
  simp only [lw_lt, Int64.lt_iff_toInt_lt, own_dbl]
  split
  · have e8 := (c_ldiv nd 8 8 (by decide) (by decide)).1 h.1
    have ha := c_ladd nd (nd / 8)
    have b3 := (nd + nd / 8).toInt_lt; have b4 := (nd + nd / 8).le_toInt
    omega
  · exact own_dbl len
theorem own_grown (len : Int32) (nd : Int64) (h : 0 ≤ nd.toInt ∧ nd.toInt ≤ 2147483639) : ((F_grown len nd).toInt64).toInt = if 2147483639 < (F_exp len nd).toInt then 2147483639 else (F_exp len nd).toInt := by
  have he := own_exp len nd h
  have hm : (F_min (F_exp len nd) (2147483639 : Int64)).toInt = if 2147483639 < (F_exp len nd).toInt then 2147483639 else (F_exp len nd).toInt := by
    unfold F_min
    simp only [lw_gt, Int64.lt_iff_toInt_lt, show (2147483639 : Int64).toInt = 2147483639 by decide]
    split <;> rfl
  rw [c_i2l]
  unfold F_grown
  have hc := c_l2i (F_min (F_exp len nd) (2147483639 : Int64))
  have b3 := ((F_min (F_exp len nd) (2147483639 : Int64)).toInt32).toInt_lt; have b4 := ((F_min (F_exp len nd) (2147483639 : Int64)).toInt32).le_toInt
  have b1 := len.toInt_lt; have b2 := len.le_toInt
  rw [hm] at hc
  generalize ((F_min (F_exp len nd) (2147483639 : Int64)).toInt32).toInt = r at *
  generalize (F_exp len nd).toInt = x at *
  split at he <;> split at hc <;> rename_i q1 q2 <;> simp only [q2, if_true, if_false] <;> omega
def F_cap (x : Int64) : Int64 := if 0 < lcmpW x (2147483639 : Int64) then (2147483639 : Int64) else x
theorem own_chk (len : Int32) (nd : Int64) (h : 0 ≤ nd.toInt ∧ nd.toInt ≤ 2147483639) : lcmpW ((F_grown len nd).toInt64) (F_cap (F_exp len nd)) = 0 ∧ ¬ lcmpW ((F_grown len nd).toInt64) nd < 0 ∧ ¬ 0 < lcmpW ((F_grown len nd).toInt64) (2147483639 : Int64) := by
  have he := own_exp len nd h
  have hg := own_grown len nd h
  have hcap : (F_cap (F_exp len nd)).toInt = if 2147483639 < (F_exp len nd).toInt then 2147483639 else (F_exp len nd).toInt := by
    unfold F_cap
    simp only [lw_gt, Int64.lt_iff_toInt_lt, show (2147483639 : Int64).toInt = 2147483639 by decide]
    split <;> rfl
  rw [lw_eq, lw_lt, lw_gt, ← Int64.toInt_inj, Int64.lt_iff_toInt_lt, Int64.lt_iff_toInt_lt, hcap, hg, show (2147483639 : Int64).toInt = 2147483639 by decide]
  refine ⟨rfl, ?_, ?_⟩
  · split
    · omega
    · rw [he]; split <;> omega
  · split <;> omega
theorem own_need (n : Int64) : 0 ≤ ((n &&& (9223372036854775807 : Int64)) - ((n &&& (9223372036854775807 : Int64)) / ((2147483639 : Int64) + (1 : Int64))) * ((2147483639 : Int64) + (1 : Int64))).toInt ∧ ((n &&& (9223372036854775807 : Int64)) - ((n &&& (9223372036854775807 : Int64)) / ((2147483639 : Int64) + (1 : Int64))) * ((2147483639 : Int64) + (1 : Int64))).toInt ≤ 2147483639 := by
  have h0 := c_maskL n 9223372036854775807 63 (by decide) (by decide)
  have h1 : 0 ≤ (n &&& (9223372036854775807 : Int64)).toInt := by rw [h0]; exact Int.emod_nonneg _ (by decide)
  have h2 := (c_lrem (n &&& (9223372036854775807 : Int64)) ((2147483639 : Int64) + (1 : Int64)) 2147483640 (by decide)).1 h1
  rw [h2]
  omega
theorem own_small (d : Int32) (y : Int32) (k : Int) (hy : y.toInt = k) (hk : 0 < k) : 0 ≤ ((d &&& (2147483647 : Int32)) - ((d &&& (2147483647 : Int32)) / y) * y).toInt ∧ ((d &&& (2147483647 : Int32)) - ((d &&& (2147483647 : Int32)) / y) * y).toInt < k := by
  have h0 := c_and d 2147483647 (by decide)
  rw [irem_eq_mod]
  have h1 := (c_irem (d &&& (2147483647 : Int32)) y k hy).1 h0.1
  rw [h1]
  exact ⟨Int.emod_nonneg _ (by omega), Int.emod_lt_of_pos _ hk⟩
theorem own_c3 (d : Int32) : 0 ≤ ((((d &&& (2147483647 : Int32)) - ((d &&& (2147483647 : Int32)) / (16 : Int32)) * (16 : Int32))).toInt64).toInt ∧ ((((d &&& (2147483647 : Int32)) - ((d &&& (2147483647 : Int32)) / (16 : Int32)) * (16 : Int32))).toInt64).toInt ≤ 2147483639 := by
  have h1 := own_small d 16 16 (by decide) (by decide)
  rw [c_i2l]
  omega
theorem own_c2 (d : Int32) : 0 ≤ ((2147483639 : Int64) - ((((d &&& (2147483647 : Int32)) - ((d &&& (2147483647 : Int32)) / (16 : Int32)) * (16 : Int32))).toInt64)).toInt ∧ ((2147483639 : Int64) - ((((d &&& (2147483647 : Int32)) - ((d &&& (2147483647 : Int32)) / (16 : Int32)) * (16 : Int32))).toInt64)).toInt ≤ 2147483639 := by
  have h1 := own_small d 16 16 (by decide) (by decide)
  generalize ((d &&& (2147483647 : Int32)) - ((d &&& (2147483647 : Int32)) / (16 : Int32)) * (16 : Int32)) = u at h1 ⊢
  have h3 := c_lsub (2147483639 : Int64) u.toInt64
  rw [c_i2l, show (2147483639 : Int64).toInt = 2147483639 by decide] at h3
  have b1 := ((2147483639 : Int64) - u.toInt64).toInt_lt; have b2 := ((2147483639 : Int64) - u.toInt64).le_toInt
  omega
theorem d2_0 : decode jdk_29_method_70_code 0 = .ok (.lload_n 0, 1) := by decide +kernel
theorem d2_1 : decode jdk_29_method_70_code 1 = .ok (.lload_n 2, 1) := by decide +kernel
theorem d2_2 : decode jdk_29_method_70_code 2 = .ok (.lcmp, 1) := by decide +kernel
theorem d2_3 : decode jdk_29_method_70_code 3 = .ok (.ifCond .gt 7, 3) := by decide +kernel
theorem d2_6 : decode jdk_29_method_70_code 6 = .ok (.lload_n 0, 1) := by decide +kernel
theorem d2_7 : decode jdk_29_method_70_code 7 = .ok (.goto 4, 3) := by decide +kernel
theorem d2_10 : decode jdk_29_method_70_code 10 = .ok (.lload_n 2, 1) := by decide +kernel
theorem d2_11 : decode jdk_29_method_70_code 11 = .ok (.lreturn, 1) := by decide +kernel
theorem ef_2 (m : MethodId) (q1 : Int64) (q2 : Int64) : entryFrame m #[(.long q1), (.long q2)] 4 = mkF m 0 #[.val (.long q1), .second, .val (.long q2), .second] [] := by first | (simp [entryFrame, mkF, argsToLocals, Value.category]; done) | rfl
def Q2 (Z : State) (q1 : Int64) (q2 : Int64)  (h0 : Heap) (n0 : Nat) : Option Value → Heap → List Loc → Prop := fun v h L => v = some (.long (F_min q1 q2)) ∧ Fr n0 L ∧ h = h0
set_option maxRecDepth 65536 in
set_option maxHeartbeats 40000000 in
theorem rm2 (l : Launch) (Z : State) (a0 : Array Value) (hw : ∀ d ∈ tables_1, d.before a0 Z = true) (ws : List Jvm.Cond) (q1 : Int64) (q2 : Int64)  (h0 : Heap) (n0 : Nat) (Z0 : n0 ≤ h0.size)  :
    MetFree l (⟨"java/lang/Math", "min", "(JJ)J"⟩ : MethodName) (head1 (Jvm.Cond.code (⟨"java/lang/Math", "min", "(JJ)J"⟩ : MethodName) jdk_29_method_70_code 4 (some .long) :: ws) ({ frames := 0, cells := 0, slots := 0, locals := 0 } : Room)) (fun a U => a = #[(.long q1), (.long q2)] ∧ Z.Warmed39 U.vm ∧ U.heap = h0) (fun _ _ _ _ _ => True) (fun _ U o U' => ∃ v L, o = .returned v ∧ (Q2 Z q1 q2 h0 n0) v U'.heap L ∧ FrameEnd U o U' L ({ frames := 0, cells := 0, slots := 0, locals := 0 } : Room).cells ({ frames := 0, cells := 0, slots := 0, locals := 0 } : Room).slots) := by
  refine MetFree.of_bodySF (Jvm.Free.JP.mathPlain rfl (by decide +kernel)) hisR ?_
  intro p e s m args below meth c s₁ Bd hml0 hP hK
  obtain ⟨rfl, hZ, hh⟩ := hP
  have hx := Bd.exec
  have hby := Bd.bytes
  have hml : c.maxLocals = 4 := hml0
  have hown : s.vm.findClass "java/lang/Math" = some m.cls := findClass_of_methodNamed Bd.named
  have hnm := (name_of_methodNamed Bd.named Bd.method).1
  have X0 : Stand p l e ({ frames := 0, cells := 0, slots := 0, locals := 0 } : Room) s m #[(.long q1), (.long q2)] below meth c s₁ [] 0 0 := Stand.of_body Bd
  have e0 : s₁.heap = h0 := by rw [← hh, Bd.state]; rfl
  have N0 := Fr.nil n0
  show Own.Fin p e below _ (Own.Post s (Q2 Z q1 q2 h0 n0) ({ frames := 0, cells := 0, slots := 0, locals := 0 } : Room).cells ({ frames := 0, cells := 0, slots := 0, locals := 0 } : Room).slots)
  refine Own.start (ef_2 m q1 q2) ?_
  show Own.Fin p e below (s₁.setTop (mkF m 0 #[.val (.long q1), .second, .val (.long q2), .second] [])) _
  refine Own.go (fun t k => XS.lloadN X0.here hx rfl (hb hby d2_0) rfl k) ?_
  show Own.Fin p e below (s₁.setTop (mkF m 1 #[.val (.long q1), .second, .val (.long q2), .second] [(.long q1)])) _
  refine Own.go (fun t k => XS.lloadN X0.here hx rfl (hb hby d2_1) rfl k) ?_
  show Own.Fin p e below (s₁.setTop (mkF m 2 #[.val (.long q1), .second, .val (.long q2), .second] [(.long q2), (.long q1)])) _
  refine Own.go (fun t k => XS.lcmp X0.here hx rfl (hb hby d2_2) rfl k) ?_
  show Own.Fin p e below (s₁.setTop (mkF m 3 #[.val (.long q1), .second, .val (.long q2), .second] [(.int (lcmpW q1 q2))])) _
  by_cases hc3_0 : (0 : Int32) < (lcmpW q1 q2)
  · skip
    refine Own.go (fun t k => XS.ifYes X0.here hx rfl (pc0 := 3) (pc' := 10) rfl (hb hby d2_3) rfl ((if0 _ _).trans (tlt hc3_0).2.2.1) (by decide) (by decide) k) ?_
    show Own.Fin p e below (s₁.setTop (mkF m 10 #[.val (.long q1), .second, .val (.long q2), .second] [])) _
    refine Own.go (fun t k => XS.lloadN X0.here hx rfl (hb hby d2_10) rfl k) ?_
    show Own.Fin p e below (s₁.setTop (mkF m 11 #[.val (.long q1), .second, .val (.long q2), .second] [(.long q2)])) _
    refine Own.retJ X0 hx Bd.notSynchronized Bd.returns (hb hby d2_11) (by decide) (by decide) ?_
    exact ⟨by rw [show F_min q1 q2 = q2 by simp only [F_min, hc3_0, if_true, if_false]], N0, e0⟩
  · skip
    refine Own.go (fun t k => XS.ifNo X0.here hx rfl (hb hby d2_3) rfl ((if0 _ _).trans (flt hc3_0).2.2.1) k) ?_
    show Own.Fin p e below (s₁.setTop (mkF m 6 #[.val (.long q1), .second, .val (.long q2), .second] [])) _
    refine Own.go (fun t k => XS.lloadN X0.here hx rfl (hb hby d2_6) rfl k) ?_
    show Own.Fin p e below (s₁.setTop (mkF m 7 #[.val (.long q1), .second, .val (.long q2), .second] [(.long q1)])) _
    refine Own.go (fun t k => XS.goto X0.here hx rfl (pc0 := 7) (pc' := 11) rfl (hb hby d2_7) (by decide) (by decide) k) ?_
    show Own.Fin p e below (s₁.setTop (mkF m 11 #[.val (.long q1), .second, .val (.long q2), .second] [(.long q1)])) _
    refine Own.retJ X0 hx Bd.notSynchronized Bd.returns (hb hby d2_11) (by decide) (by decide) ?_
    exact ⟨by rw [show F_min q1 q2 = q1 by simp only [F_min, hc3_0, if_true, if_false]], N0, e0⟩
theorem d1_0 : decode prog_1_method_2_code 0 = .ok (.lload_n 1, 1) := by decide +kernel
theorem d1_1 : decode prog_1_method_2_code 1 = .ok (.ldc2_w 11, 3) := by decide +kernel
theorem d1_4 : decode prog_1_method_2_code 4 = .ok (.lcmp, 1) := by decide +kernel
theorem d1_5 : decode prog_1_method_2_code 5 = .ok (.ifCond .le 17, 3) := by decide +kernel
theorem d1_22 : decode prog_1_method_2_code 22 = .ok (.ldc2_w 22, 3) := by decide +kernel
theorem d1_25 : decode prog_1_method_2_code 25 = .ok (.iload_n 0, 1) := by decide +kernel
theorem d1_26 : decode prog_1_method_2_code 26 = .ok (.i2l, 1) := by decide +kernel
theorem d1_27 : decode prog_1_method_2_code 27 = .ok (.lmul, 1) := by decide +kernel
theorem d1_28 : decode prog_1_method_2_code 28 = .ok (.lstore_n 3, 1) := by decide +kernel
theorem d1_29 : decode prog_1_method_2_code 29 = .ok (.lload_n 3, 1) := by decide +kernel
theorem d1_30 : decode prog_1_method_2_code 30 = .ok (.lload_n 1, 1) := by decide +kernel
theorem d1_31 : decode prog_1_method_2_code 31 = .ok (.lcmp, 1) := by decide +kernel
theorem d1_32 : decode prog_1_method_2_code 32 = .ok (.ifCond .lt 7, 3) := by decide +kernel
theorem d1_35 : decode prog_1_method_2_code 35 = .ok (.lload_n 3, 1) := by decide +kernel
theorem d1_36 : decode prog_1_method_2_code 36 = .ok (.goto 10, 3) := by decide +kernel
theorem d1_39 : decode prog_1_method_2_code 39 = .ok (.lload_n 1, 1) := by decide +kernel
theorem d1_40 : decode prog_1_method_2_code 40 = .ok (.lload_n 1, 1) := by decide +kernel
theorem d1_41 : decode prog_1_method_2_code 41 = .ok (.ldc2_w 24, 3) := by decide +kernel
theorem d1_44 : decode prog_1_method_2_code 44 = .ok (.ldiv, 1) := by decide +kernel
theorem d1_45 : decode prog_1_method_2_code 45 = .ok (.ladd, 1) := by decide +kernel
theorem d1_46 : decode prog_1_method_2_code 46 = .ok (.ldc2_w 11, 3) := by decide +kernel
theorem d1_49 : decode prog_1_method_2_code 49 = .ok (.invokestatic 26, 3) := by decide +kernel
theorem d1_52 : decode prog_1_method_2_code 52 = .ok (.l2i, 1) := by decide +kernel
theorem d1_53 : decode prog_1_method_2_code 53 = .ok (.ireturn, 1) := by decide +kernel
theorem pd_0 : parseMethodDescriptor "(JJ)J" = some ⟨[.long, .long], some .long⟩ := by decide +kernel
theorem pn_1 : plainName "com/example/changelane/changelane/ByteArrays" = true := by first | (simp [plainName, overriddenIn]; done) | decide +kernel
theorem ef_1 (m : MethodId) (p1 : Int32) (q2 : Int64) : entryFrame m #[(.int p1), (.long q2)] 5 = mkF m 0 #[.val (.int p1), .val (.long q2), .second, .unset, .unset] [] := by first | (simp [entryFrame, mkF, argsToLocals, Value.category]; done) | rfl
def Q1 (Z : State) (p1 : Int32) (q2 : Int64)  (h0 : Heap) (n0 : Nat) : Option Value → Heap → List Loc → Prop := fun v h L => v = some (.int (F_grown p1 q2)) ∧ Fr n0 L ∧ h = h0
set_option maxRecDepth 65536 in
set_option maxHeartbeats 40000000 in
theorem rm1 (l : Launch) (Z : State) (a0 : Array Value) (hw : ∀ d ∈ tables_1, d.before a0 Z = true) (ws : List Jvm.Cond) (p1 : Int32) (q2 : Int64)  (h0 : Heap) (n0 : Nat) (Z0 : n0 ≤ h0.size) (hn : q2.toInt ≤ 2147483639) :
    MetFree l (⟨"com/example/changelane/changelane/ByteArrays", "grownLength", "(IJ)I"⟩ : MethodName) (head1 (Jvm.Cond.code (⟨"com/example/changelane/changelane/ByteArrays", "grownLength", "(IJ)I"⟩ : MethodName) prog_1_method_2_code 5 (some .int) :: ws) ({ frames := 1, cells := 0, slots := 0, locals := 15 } : Room)) (fun a U => a = #[(.int p1), (.long q2)] ∧ Z.Warmed39 U.vm ∧ U.heap = h0) (fun _ _ _ _ _ => True) (fun _ U o U' => ∃ v L, o = .returned v ∧ (Q1 Z p1 q2 h0 n0) v U'.heap L ∧ FrameEnd U o U' L ({ frames := 1, cells := 0, slots := 0, locals := 15 } : Room).cells ({ frames := 1, cells := 0, slots := 0, locals := 15 } : Room).slots) := by
  refine MetFree.of_bodySF (plainFor_of_name pn_1) hisR ?_
  intro p e s m args below meth c s₁ Bd hml0 hP hK
  obtain ⟨rfl, hZ, hh⟩ := hP
  have hx := Bd.exec
  have hby := Bd.bytes
  have hml : c.maxLocals = 5 := hml0
  have hown : s.vm.findClass "com/example/changelane/changelane/ByteArrays" = some m.cls := findClass_of_methodNamed Bd.named
  have hnm := (name_of_methodNamed Bd.named Bd.method).1
  have X0 : Stand p l e ({ frames := 1, cells := 0, slots := 0, locals := 15 } : Room) s m #[(.int p1), (.long q2)] below meth c s₁ [] 0 0 := Stand.of_body Bd
  have e0 : s₁.heap = h0 := by rw [← hh, Bd.state]; rfl
  have N0 := Fr.nil n0
  show Own.Fin p e below _ (Own.Post s (Q1 Z p1 q2 h0 n0) ({ frames := 1, cells := 0, slots := 0, locals := 15 } : Room).cells ({ frames := 1, cells := 0, slots := 0, locals := 15 } : Room).slots)
  refine Own.start (ef_1 m p1 q2) ?_
  show Own.Fin p e below (s₁.setTop (mkF m 0 #[.val (.int p1), .val (.long q2), .second, .unset, .unset] [])) _
  refine Own.go (fun t k => XS.lloadN X0.here hx rfl (hb hby d1_0) rfl k) ?_
  show Own.Fin p e below (s₁.setTop (mkF m 1 #[.val (.int p1), .val (.long q2), .second, .unset, .unset] [(.long q2)])) _
  refine Own.go (fun t k => X0.ldc2Long hx hown (mvT hZ (hw _ (List.mem_of_getElem? (i := 8) rfl))) (g := (mkF m 1 #[.val (.int p1), .val (.long q2), .second, .unset, .unset] [(.long q2)])) rfl (hb hby d1_1) _ k) ?_
  show Own.Fin p e below (s₁.setTop (mkF m 4 #[.val (.int p1), .val (.long q2), .second, .unset, .unset] [(.long (2147483639 : Int64)), (.long q2)])) _
  refine Own.go (fun t k => XS.lcmp X0.here hx rfl (hb hby d1_4) rfl k) ?_
  show Own.Fin p e below (s₁.setTop (mkF m 5 #[.val (.int p1), .val (.long q2), .second, .unset, .unset] [(.int (lcmpW q2 (2147483639 : Int64)))])) _
  have hc5_0 : ¬ ((0 : Int32) < (lcmpW q2 (2147483639 : Int64))) := by rw [lw_gt, Int64.lt_iff_toInt_lt, show (2147483639 : Int64).toInt = 2147483639 by decide]; omega
  refine Own.go (fun t k => XS.ifYes X0.here hx rfl (pc0 := 5) (pc' := 22) rfl (hb hby d1_5) rfl ((if0 _ _).trans (flt hc5_0).2.2.2) (by decide) (by decide) k) ?_
  show Own.Fin p e below (s₁.setTop (mkF m 22 #[.val (.int p1), .val (.long q2), .second, .unset, .unset] [])) _
  refine Own.go (fun t k => X0.ldc2Long hx hown (mvT hZ (hw _ (List.mem_of_getElem? (i := 9) rfl))) (g := (mkF m 22 #[.val (.int p1), .val (.long q2), .second, .unset, .unset] [])) rfl (hb hby d1_22) _ k) ?_
  show Own.Fin p e below (s₁.setTop (mkF m 25 #[.val (.int p1), .val (.long q2), .second, .unset, .unset] [(.long (2 : Int64))])) _
  refine Own.go (fun t k => XS.iloadN X0.here hx rfl (hb hby d1_25) rfl k) ?_
  show Own.Fin p e below (s₁.setTop (mkF m 26 #[.val (.int p1), .val (.long q2), .second, .unset, .unset] [(.int p1), (.long (2 : Int64))])) _
  refine Own.go (fun t k => XS.i2l X0.here hx rfl (hb hby d1_26) rfl k) ?_
  show Own.Fin p e below (s₁.setTop (mkF m 27 #[.val (.int p1), .val (.long q2), .second, .unset, .unset] [(.long ((p1).toInt64)), (.long (2 : Int64))])) _
  refine Own.go (fun t k => XS.lmul X0.here hx rfl (hb hby d1_27) rfl k) ?_
  show Own.Fin p e below (s₁.setTop (mkF m 28 #[.val (.int p1), .val (.long q2), .second, .unset, .unset] [(.long ((2 : Int64) * ((p1).toInt64)))])) _
  refine Own.go (fun t k => XS.lstoreN X0.here hx rfl (hb hby d1_28) rfl (l' := #[.val (.int p1), .val (.long q2), .second, .val (.long ((2 : Int64) * ((p1).toInt64))), .second]) rfl k) ?_
  show Own.Fin p e below (s₁.setTop (mkF m 29 #[.val (.int p1), .val (.long q2), .second, .val (.long ((2 : Int64) * ((p1).toInt64))), .second] [])) _
  refine Own.go (fun t k => XS.lloadN X0.here hx rfl (hb hby d1_29) rfl k) ?_
  show Own.Fin p e below (s₁.setTop (mkF m 30 #[.val (.int p1), .val (.long q2), .second, .val (.long ((2 : Int64) * ((p1).toInt64))), .second] [(.long ((2 : Int64) * ((p1).toInt64)))])) _
  refine Own.go (fun t k => XS.lloadN X0.here hx rfl (hb hby d1_30) rfl k) ?_
  show Own.Fin p e below (s₁.setTop (mkF m 31 #[.val (.int p1), .val (.long q2), .second, .val (.long ((2 : Int64) * ((p1).toInt64))), .second] [(.long q2), (.long ((2 : Int64) * ((p1).toInt64)))])) _
  refine Own.go (fun t k => XS.lcmp X0.here hx rfl (hb hby d1_31) rfl k) ?_
  show Own.Fin p e below (s₁.setTop (mkF m 32 #[.val (.int p1), .val (.long q2), .second, .val (.long ((2 : Int64) * ((p1).toInt64))), .second] [(.int (lcmpW ((2 : Int64) * ((p1).toInt64)) q2))])) _
  by_cases hc32_1 : (lcmpW ((2 : Int64) * ((p1).toInt64)) q2) < (0 : Int32)
  · skip
    refine Own.go (fun t k => XS.ifYes X0.here hx rfl (pc0 := 32) (pc' := 39) rfl (hb hby d1_32) rfl ((if0 _ _).trans (tlt hc32_1).1) (by decide) (by decide) k) ?_
    show Own.Fin p e below (s₁.setTop (mkF m 39 #[.val (.int p1), .val (.long q2), .second, .val (.long ((2 : Int64) * ((p1).toInt64))), .second] [])) _
    refine Own.go (fun t k => XS.lloadN X0.here hx rfl (hb hby d1_39) rfl k) ?_
    show Own.Fin p e below (s₁.setTop (mkF m 40 #[.val (.int p1), .val (.long q2), .second, .val (.long ((2 : Int64) * ((p1).toInt64))), .second] [(.long q2)])) _
    refine Own.go (fun t k => XS.lloadN X0.here hx rfl (hb hby d1_40) rfl k) ?_
    show Own.Fin p e below (s₁.setTop (mkF m 41 #[.val (.int p1), .val (.long q2), .second, .val (.long ((2 : Int64) * ((p1).toInt64))), .second] [(.long q2), (.long q2)])) _
    refine Own.go (fun t k => X0.ldc2Long hx hown (mvT hZ (hw _ (List.mem_of_getElem? (i := 10) rfl))) (g := (mkF m 41 #[.val (.int p1), .val (.long q2), .second, .val (.long ((2 : Int64) * ((p1).toInt64))), .second] [(.long q2), (.long q2)])) rfl (hb hby d1_41) _ k) ?_
    show Own.Fin p e below (s₁.setTop (mkF m 44 #[.val (.int p1), .val (.long q2), .second, .val (.long ((2 : Int64) * ((p1).toInt64))), .second] [(.long (8 : Int64)), (.long q2), (.long q2)])) _
    refine Own.go (fun t k => XS.ldiv X0.here hx rfl (hb hby d1_44) rfl (by decide) k) ?_
    show Own.Fin p e below (s₁.setTop (mkF m 45 #[.val (.int p1), .val (.long q2), .second, .val (.long ((2 : Int64) * ((p1).toInt64))), .second] [(.long (q2 / (8 : Int64))), (.long q2)])) _
    refine Own.go (fun t k => XS.ladd X0.here hx rfl (hb hby d1_45) rfl k) ?_
    show Own.Fin p e below (s₁.setTop (mkF m 46 #[.val (.int p1), .val (.long q2), .second, .val (.long ((2 : Int64) * ((p1).toInt64))), .second] [(.long (q2 + (q2 / (8 : Int64))))])) _
    refine Own.go (fun t k => X0.ldc2Long hx hown (mvT hZ (hw _ (List.mem_of_getElem? (i := 8) rfl))) (g := (mkF m 46 #[.val (.int p1), .val (.long q2), .second, .val (.long ((2 : Int64) * ((p1).toInt64))), .second] [(.long (q2 + (q2 / (8 : Int64))))])) rfl (hb hby d1_46) _ k) ?_
    show Own.Fin p e below (s₁.setTop (mkF m 49 #[.val (.int p1), .val (.long q2), .second, .val (.long ((2 : Int64) * ((p1).toInt64))), .second] [(.long (2147483639 : Int64)), (.long (q2 + (q2 / (8 : Int64))))])) _
    refine Own.cS X0 hx hZ hown (hw _ (List.mem_of_getElem? (i := 11) rfl)) (hw _ (List.mem_of_getElem? (i := 12) rfl)) (hw _ (List.mem_of_getElem? (i := 13) rfl)) (hw _ (List.mem_of_getElem? (i := 14) rfl)) (by decide) (rm2 l Z a0 hw [] (q2 + (q2 / (8 : Int64))) (2147483639 : Int64) h0 n0 Z0 ) (by decide) (W := 0) (by decide) (argsL := [(.long (q2 + (q2 / (8 : Int64)))), (.long (2147483639 : Int64))]) (rest := []) (by rw [hml]; rfl) (lenOf pd_0 rfl) rfl (Nat.le_of_eq rfl) (hb hby d1_49) e0 (by decide) (by decide) ?_
    intro T3 L3 v3 X3 hQ3
    obtain ⟨rfl, N3q, e3⟩ := hQ3
    have N3 := Fr.app N0 N3q
    show Own.Fin p e below (T3.setTop (mkF m 52 #[.val (.int p1), .val (.long q2), .second, .val (.long ((2 : Int64) * ((p1).toInt64))), .second] [(.long (F_min (q2 + (q2 / (8 : Int64))) (2147483639 : Int64)))])) _
    refine Own.go (fun t k => XS.l2i X3.here hx rfl (hb hby d1_52) rfl k) ?_
    show Own.Fin p e below (T3.setTop (mkF m 53 #[.val (.int p1), .val (.long q2), .second, .val (.long ((2 : Int64) * ((p1).toInt64))), .second] [(.int (((F_min (q2 + (q2 / (8 : Int64))) (2147483639 : Int64))).toInt32))])) _
    refine Own.retI X3 hx Bd.notSynchronized Bd.returns (hb hby d1_53) (by decide) (by decide) ?_
    exact ⟨by rw [F_grown, F_exp]; simp only [hc32_1, if_true, if_false], N3, e3⟩
  · skip
    refine Own.go (fun t k => XS.ifNo X0.here hx rfl (hb hby d1_32) rfl ((if0 _ _).trans (flt hc32_1).1) k) ?_
    show Own.Fin p e below (s₁.setTop (mkF m 35 #[.val (.int p1), .val (.long q2), .second, .val (.long ((2 : Int64) * ((p1).toInt64))), .second] [])) _
    refine Own.go (fun t k => XS.lloadN X0.here hx rfl (hb hby d1_35) rfl k) ?_
    show Own.Fin p e below (s₁.setTop (mkF m 36 #[.val (.int p1), .val (.long q2), .second, .val (.long ((2 : Int64) * ((p1).toInt64))), .second] [(.long ((2 : Int64) * ((p1).toInt64)))])) _
    refine Own.go (fun t k => XS.goto X0.here hx rfl (pc0 := 36) (pc' := 46) rfl (hb hby d1_36) (by decide) (by decide) k) ?_
    show Own.Fin p e below (s₁.setTop (mkF m 46 #[.val (.int p1), .val (.long q2), .second, .val (.long ((2 : Int64) * ((p1).toInt64))), .second] [(.long ((2 : Int64) * ((p1).toInt64)))])) _
    refine Own.go (fun t k => X0.ldc2Long hx hown (mvT hZ (hw _ (List.mem_of_getElem? (i := 8) rfl))) (g := (mkF m 46 #[.val (.int p1), .val (.long q2), .second, .val (.long ((2 : Int64) * ((p1).toInt64))), .second] [(.long ((2 : Int64) * ((p1).toInt64)))])) rfl (hb hby d1_46) _ k) ?_
    show Own.Fin p e below (s₁.setTop (mkF m 49 #[.val (.int p1), .val (.long q2), .second, .val (.long ((2 : Int64) * ((p1).toInt64))), .second] [(.long (2147483639 : Int64)), (.long ((2 : Int64) * ((p1).toInt64)))])) _
    refine Own.cS X0 hx hZ hown (hw _ (List.mem_of_getElem? (i := 11) rfl)) (hw _ (List.mem_of_getElem? (i := 12) rfl)) (hw _ (List.mem_of_getElem? (i := 13) rfl)) (hw _ (List.mem_of_getElem? (i := 14) rfl)) (by decide) (rm2 l Z a0 hw [] ((2 : Int64) * ((p1).toInt64)) (2147483639 : Int64) h0 n0 Z0 ) (by decide) (W := 0) (by decide) (argsL := [(.long ((2 : Int64) * ((p1).toInt64))), (.long (2147483639 : Int64))]) (rest := []) (by rw [hml]; rfl) (lenOf pd_0 rfl) rfl (Nat.le_of_eq rfl) (hb hby d1_49) e0 (by decide) (by decide) ?_
    intro T4 L4 v4 X4 hQ4
    obtain ⟨rfl, N4q, e4⟩ := hQ4
    have N4 := Fr.app N0 N4q
    show Own.Fin p e below (T4.setTop (mkF m 52 #[.val (.int p1), .val (.long q2), .second, .val (.long ((2 : Int64) * ((p1).toInt64))), .second] [(.long (F_min ((2 : Int64) * ((p1).toInt64)) (2147483639 : Int64)))])) _
    refine Own.go (fun t k => XS.l2i X4.here hx rfl (hb hby d1_52) rfl k) ?_
    show Own.Fin p e below (T4.setTop (mkF m 53 #[.val (.int p1), .val (.long q2), .second, .val (.long ((2 : Int64) * ((p1).toInt64))), .second] [(.int (((F_min ((2 : Int64) * ((p1).toInt64)) (2147483639 : Int64))).toInt32))])) _
    refine Own.retI X4 hx Bd.notSynchronized Bd.returns (hb hby d1_53) (by decide) (by decide) ?_
    exact ⟨by rw [F_grown, F_exp]; simp only [hc32_1, if_true, if_false], N4, e4⟩
theorem pd_1 : parseMethodDescriptor "(IJ)I" = some ⟨[.int, .long], some .int⟩ := by decide +kernel
theorem pn_0 : plainName "com/example/changelane/changelane/ByteArraysGrownLengthPinLaw" = true := by first | (simp [plainName, overriddenIn]; done) | decide +kernel
theorem ef_0 (m : MethodId) (p1 : Int32) (q2 : Int64) (p3 : Int32) (p4 : Int32) : entryFrame m #[(.int p1), (.long q2), (.int p3), (.int p4)] maxLocals = mkF m 0 #[.val (.int p1), .val (.long q2), .second, .val (.int p3), .val (.int p4), .unset, .unset, .unset, .unset, .unset, .unset, .unset, .unset, .unset, .unset, .unset] [] := by first | (simp [entryFrame, mkF, argsToLocals, Value.category, maxLocals]; done) | rfl
def Q0 (Z : State) (p1 : Int32) (q2 : Int64) (p3 : Int32) (p4 : Int32)  (h0 : Heap) (n0 : Nat) : Option Value → Heap → List Loc → Prop := fun v h L => v = some (.int 1) ∧ Fr n0 L
set_option maxRecDepth 65536 in
set_option maxHeartbeats 40000000 in
theorem rm0 (l : Launch) (Z : State) (a0 : Array Value) (hw : ∀ d ∈ tables_1, d.before a0 Z = true) (ws : List Jvm.Cond) (p1 : Int32) (q2 : Int64) (p3 : Int32) (p4 : Int32)  (h0 : Heap) (n0 : Nat) (Z0 : n0 ≤ h0.size)  :
    MetFree l x (head1 (Jvm.Cond.code x code maxLocals ret :: ws) room_1) (fun a U => a = #[(.int p1), (.long q2), (.int p3), (.int p4)] ∧ Z.Warmed39 U.vm ∧ U.heap = h0) (fun _ _ _ _ _ => True) (fun _ U o U' => ∃ v L, o = .returned v ∧ (Q0 Z p1 q2 p3 p4 h0 n0) v U'.heap L ∧ FrameEnd U o U' L room_1.cells room_1.slots) := by
  refine MetFree.of_bodySF (plainFor_of_name pn_0) hisR ?_
  intro p e s m args below meth c s₁ Bd hml0 hP hK
  obtain ⟨rfl, hZ, hh⟩ := hP
  have hx := Bd.exec
  have hby := Bd.bytes
  have hml : c.maxLocals = 16 := hml0
  have hown : s.vm.findClass "com/example/changelane/changelane/ByteArraysGrownLengthPinLaw" = some m.cls := findClass_of_methodNamed Bd.named
  have hnm := (name_of_methodNamed Bd.named Bd.method).1
  have X0 : Stand p l e room_1 s m #[(.int p1), (.long q2), (.int p3), (.int p4)] below meth c s₁ [] 0 0 := Stand.of_body Bd
  have e0 : s₁.heap = h0 := by rw [← hh, Bd.state]; rfl
  have N0 := Fr.nil n0
  show Own.Fin p e below _ (Own.Post s (Q0 Z p1 q2 p3 p4 h0 n0) room_1.cells room_1.slots)
  refine Own.start (ef_0 m p1 q2 p3 p4) ?_
  have tail1 : ∀ (nd : Int64) (u1 u2 : Int32) (hnd : 0 ≤ nd.toInt ∧ nd.toInt ≤ 2147483639), Own.Fin p e below (s₁.setTop (mkF m 107 #[.val (.int p1), .val (.long q2), .second, .val (.int p3), .val (.int p4), .val (.long (2147483639 : Int64)), .second, .val (.long nd), .second, .val (.int u1), .val (.int u2), .unset, .unset, .unset, .unset, .unset] [])) (Own.Post s (Q0 Z p1 q2 p3 p4 h0 n0) room_1.cells room_1.slots) := by
    intro nd u1 u2 hnd
    show Own.Fin p e below (s₁.setTop (mkF m 107 #[.val (.int p1), .val (.long q2), .second, .val (.int p3), .val (.int p4), .val (.long (2147483639 : Int64)), .second, .val (.long nd), .second, .val (.int u1), .val (.int u2), .unset, .unset, .unset, .unset, .unset] [])) _
    refine Own.go (fun t k => XS.iloadN X0.here hx rfl (hb hby at_107) rfl k) ?_
    show Own.Fin p e below (s₁.setTop (mkF m 108 #[.val (.int p1), .val (.long q2), .second, .val (.int p3), .val (.int p4), .val (.long (2147483639 : Int64)), .second, .val (.long nd), .second, .val (.int u1), .val (.int u2), .unset, .unset, .unset, .unset, .unset] [(.int p1)])) _
    refine Own.go (fun t k => XS.lload X0.here hx rfl (hb hby at_108) rfl k) ?_
    show Own.Fin p e below (s₁.setTop (mkF m 110 #[.val (.int p1), .val (.long q2), .second, .val (.int p3), .val (.int p4), .val (.long (2147483639 : Int64)), .second, .val (.long nd), .second, .val (.int u1), .val (.int u2), .unset, .unset, .unset, .unset, .unset] [(.long nd), (.int p1)])) _
    refine Own.cS X0 hx hZ hown (hw _ (List.mem_of_getElem? (i := 4) rfl)) (hw _ (List.mem_of_getElem? (i := 5) rfl)) (hw _ (List.mem_of_getElem? (i := 6) rfl)) (hw _ (List.mem_of_getElem? (i := 7) rfl)) (by decide) (rm1 l Z a0 hw [] p1 nd h0 n0 Z0 hnd.2) (by decide) (W := 0) (by decide) (argsL := [(.int p1), (.long nd)]) (rest := []) (by rw [hml]; rfl) (lenOf pd_1 rfl) rfl (Nat.le_of_eq rfl) (hb hby at_110) e0 (by decide) (by decide) ?_
    intro T1 L1 v1 X1 hQ1
    obtain ⟨rfl, N1q, e1⟩ := hQ1
    have N1 := Fr.app N0 N1q
    show Own.Fin p e below (T1.setTop (mkF m 113 #[.val (.int p1), .val (.long q2), .second, .val (.int p3), .val (.int p4), .val (.long (2147483639 : Int64)), .second, .val (.long nd), .second, .val (.int u1), .val (.int u2), .unset, .unset, .unset, .unset, .unset] [(.int (F_grown p1 nd))])) _
    refine Own.go (fun t k => XS.istore X1.here hx rfl (hb hby at_113) rfl (l' := #[.val (.int p1), .val (.long q2), .second, .val (.int p3), .val (.int p4), .val (.long (2147483639 : Int64)), .second, .val (.long nd), .second, .val (.int u1), .val (.int u2), .val (.int (F_grown p1 nd)), .unset, .unset, .unset, .unset]) rfl k) ?_
    show Own.Fin p e below (T1.setTop (mkF m 115 #[.val (.int p1), .val (.long q2), .second, .val (.int p3), .val (.int p4), .val (.long (2147483639 : Int64)), .second, .val (.long nd), .second, .val (.int u1), .val (.int u2), .val (.int (F_grown p1 nd)), .unset, .unset, .unset, .unset] [])) _
    refine Own.go (fun t k => X1.ldc2Long hx hown (mvT hZ (hw _ (List.mem_of_getElem? (i := 3) rfl))) (g := (mkF m 115 #[.val (.int p1), .val (.long q2), .second, .val (.int p3), .val (.int p4), .val (.long (2147483639 : Int64)), .second, .val (.long nd), .second, .val (.int u1), .val (.int u2), .val (.int (F_grown p1 nd)), .unset, .unset, .unset, .unset] [])) rfl (hb hby at_115) _ k) ?_
    show Own.Fin p e below (T1.setTop (mkF m 118 #[.val (.int p1), .val (.long q2), .second, .val (.int p3), .val (.int p4), .val (.long (2147483639 : Int64)), .second, .val (.long nd), .second, .val (.int u1), .val (.int u2), .val (.int (F_grown p1 nd)), .unset, .unset, .unset, .unset] [(.long (2 : Int64))])) _
    refine Own.go (fun t k => XS.iloadN X1.here hx rfl (hb hby at_118) rfl k) ?_
    show Own.Fin p e below (T1.setTop (mkF m 119 #[.val (.int p1), .val (.long q2), .second, .val (.int p3), .val (.int p4), .val (.long (2147483639 : Int64)), .second, .val (.long nd), .second, .val (.int u1), .val (.int u2), .val (.int (F_grown p1 nd)), .unset, .unset, .unset, .unset] [(.int p1), (.long (2 : Int64))])) _
    refine Own.go (fun t k => XS.i2l X1.here hx rfl (hb hby at_119) rfl k) ?_
    show Own.Fin p e below (T1.setTop (mkF m 120 #[.val (.int p1), .val (.long q2), .second, .val (.int p3), .val (.int p4), .val (.long (2147483639 : Int64)), .second, .val (.long nd), .second, .val (.int u1), .val (.int u2), .val (.int (F_grown p1 nd)), .unset, .unset, .unset, .unset] [(.long ((p1).toInt64)), (.long (2 : Int64))])) _
    refine Own.go (fun t k => XS.lmul X1.here hx rfl (hb hby at_120) rfl k) ?_
    show Own.Fin p e below (T1.setTop (mkF m 121 #[.val (.int p1), .val (.long q2), .second, .val (.int p3), .val (.int p4), .val (.long (2147483639 : Int64)), .second, .val (.long nd), .second, .val (.int u1), .val (.int u2), .val (.int (F_grown p1 nd)), .unset, .unset, .unset, .unset] [(.long ((2 : Int64) * ((p1).toInt64)))])) _
    refine Own.go (fun t k => XS.lstore X1.here hx rfl (hb hby at_121) rfl (l' := #[.val (.int p1), .val (.long q2), .second, .val (.int p3), .val (.int p4), .val (.long (2147483639 : Int64)), .second, .val (.long nd), .second, .val (.int u1), .val (.int u2), .val (.int (F_grown p1 nd)), .val (.long ((2 : Int64) * ((p1).toInt64))), .second, .unset, .unset]) rfl k) ?_
    show Own.Fin p e below (T1.setTop (mkF m 123 #[.val (.int p1), .val (.long q2), .second, .val (.int p3), .val (.int p4), .val (.long (2147483639 : Int64)), .second, .val (.long nd), .second, .val (.int u1), .val (.int u2), .val (.int (F_grown p1 nd)), .val (.long ((2 : Int64) * ((p1).toInt64))), .second, .unset, .unset] [])) _
    refine Own.go (fun t k => XS.lload X1.here hx rfl (hb hby at_123) rfl k) ?_
    show Own.Fin p e below (T1.setTop (mkF m 125 #[.val (.int p1), .val (.long q2), .second, .val (.int p3), .val (.int p4), .val (.long (2147483639 : Int64)), .second, .val (.long nd), .second, .val (.int u1), .val (.int u2), .val (.int (F_grown p1 nd)), .val (.long ((2 : Int64) * ((p1).toInt64))), .second, .unset, .unset] [(.long ((2 : Int64) * ((p1).toInt64)))])) _
    refine Own.go (fun t k => XS.lload X1.here hx rfl (hb hby at_125) rfl k) ?_
    show Own.Fin p e below (T1.setTop (mkF m 127 #[.val (.int p1), .val (.long q2), .second, .val (.int p3), .val (.int p4), .val (.long (2147483639 : Int64)), .second, .val (.long nd), .second, .val (.int u1), .val (.int u2), .val (.int (F_grown p1 nd)), .val (.long ((2 : Int64) * ((p1).toInt64))), .second, .unset, .unset] [(.long nd), (.long ((2 : Int64) * ((p1).toInt64)))])) _
    refine Own.go (fun t k => XS.lcmp X1.here hx rfl (hb hby at_127) rfl k) ?_
    show Own.Fin p e below (T1.setTop (mkF m 128 #[.val (.int p1), .val (.long q2), .second, .val (.int p3), .val (.int p4), .val (.long (2147483639 : Int64)), .second, .val (.long nd), .second, .val (.int u1), .val (.int u2), .val (.int (F_grown p1 nd)), .val (.long ((2 : Int64) * ((p1).toInt64))), .second, .unset, .unset] [(.int (lcmpW ((2 : Int64) * ((p1).toInt64)) nd))])) _
    by_cases hc128_1 : (lcmpW ((2 : Int64) * ((p1).toInt64)) nd) < (0 : Int32)
    · skip
      refine Own.go (fun t k => XS.ifYes X1.here hx rfl (pc0 := 128) (pc' := 138) rfl (hb hby at_128) rfl ((if0 _ _).trans (tlt hc128_1).1) (by decide) (by decide) k) ?_
      show Own.Fin p e below (T1.setTop (mkF m 138 #[.val (.int p1), .val (.long q2), .second, .val (.int p3), .val (.int p4), .val (.long (2147483639 : Int64)), .second, .val (.long nd), .second, .val (.int u1), .val (.int u2), .val (.int (F_grown p1 nd)), .val (.long ((2 : Int64) * ((p1).toInt64))), .second, .unset, .unset] [])) _
      refine Own.go (fun t k => XS.lload X1.here hx rfl (hb hby at_138) rfl k) ?_
      show Own.Fin p e below (T1.setTop (mkF m 140 #[.val (.int p1), .val (.long q2), .second, .val (.int p3), .val (.int p4), .val (.long (2147483639 : Int64)), .second, .val (.long nd), .second, .val (.int u1), .val (.int u2), .val (.int (F_grown p1 nd)), .val (.long ((2 : Int64) * ((p1).toInt64))), .second, .unset, .unset] [(.long nd)])) _
      refine Own.go (fun t k => XS.lload X1.here hx rfl (hb hby at_140) rfl k) ?_
      show Own.Fin p e below (T1.setTop (mkF m 142 #[.val (.int p1), .val (.long q2), .second, .val (.int p3), .val (.int p4), .val (.long (2147483639 : Int64)), .second, .val (.long nd), .second, .val (.int u1), .val (.int u2), .val (.int (F_grown p1 nd)), .val (.long ((2 : Int64) * ((p1).toInt64))), .second, .unset, .unset] [(.long nd), (.long nd)])) _
      refine Own.go (fun t k => X1.ldc2Long hx hown (mvT hZ (hw _ (List.mem_of_getElem? (i := 15) rfl))) (g := (mkF m 142 #[.val (.int p1), .val (.long q2), .second, .val (.int p3), .val (.int p4), .val (.long (2147483639 : Int64)), .second, .val (.long nd), .second, .val (.int u1), .val (.int u2), .val (.int (F_grown p1 nd)), .val (.long ((2 : Int64) * ((p1).toInt64))), .second, .unset, .unset] [(.long nd), (.long nd)])) rfl (hb hby at_142) _ k) ?_
      show Own.Fin p e below (T1.setTop (mkF m 145 #[.val (.int p1), .val (.long q2), .second, .val (.int p3), .val (.int p4), .val (.long (2147483639 : Int64)), .second, .val (.long nd), .second, .val (.int u1), .val (.int u2), .val (.int (F_grown p1 nd)), .val (.long ((2 : Int64) * ((p1).toInt64))), .second, .unset, .unset] [(.long (8 : Int64)), (.long nd), (.long nd)])) _
      refine Own.go (fun t k => XS.ldiv X1.here hx rfl (hb hby at_145) rfl (by decide) k) ?_
      show Own.Fin p e below (T1.setTop (mkF m 146 #[.val (.int p1), .val (.long q2), .second, .val (.int p3), .val (.int p4), .val (.long (2147483639 : Int64)), .second, .val (.long nd), .second, .val (.int u1), .val (.int u2), .val (.int (F_grown p1 nd)), .val (.long ((2 : Int64) * ((p1).toInt64))), .second, .unset, .unset] [(.long (nd / (8 : Int64))), (.long nd)])) _
      refine Own.go (fun t k => XS.ladd X1.here hx rfl (hb hby at_146) rfl k) ?_
      show Own.Fin p e below (T1.setTop (mkF m 147 #[.val (.int p1), .val (.long q2), .second, .val (.int p3), .val (.int p4), .val (.long (2147483639 : Int64)), .second, .val (.long nd), .second, .val (.int u1), .val (.int u2), .val (.int (F_grown p1 nd)), .val (.long ((2 : Int64) * ((p1).toInt64))), .second, .unset, .unset] [(.long (nd + (nd / (8 : Int64))))])) _
      refine Own.go (fun t k => XS.lstore X1.here hx rfl (hb hby at_147) rfl (l' := #[.val (.int p1), .val (.long q2), .second, .val (.int p3), .val (.int p4), .val (.long (2147483639 : Int64)), .second, .val (.long nd), .second, .val (.int u1), .val (.int u2), .val (.int (F_grown p1 nd)), .val (.long ((2 : Int64) * ((p1).toInt64))), .second, .val (.long (nd + (nd / (8 : Int64)))), .second]) rfl k) ?_
      show Own.Fin p e below (T1.setTop (mkF m 149 #[.val (.int p1), .val (.long q2), .second, .val (.int p3), .val (.int p4), .val (.long (2147483639 : Int64)), .second, .val (.long nd), .second, .val (.int u1), .val (.int u2), .val (.int (F_grown p1 nd)), .val (.long ((2 : Int64) * ((p1).toInt64))), .second, .val (.long (nd + (nd / (8 : Int64)))), .second] [])) _
      refine Own.go (fun t k => XS.lload X1.here hx rfl (hb hby at_149) rfl k) ?_
      show Own.Fin p e below (T1.setTop (mkF m 151 #[.val (.int p1), .val (.long q2), .second, .val (.int p3), .val (.int p4), .val (.long (2147483639 : Int64)), .second, .val (.long nd), .second, .val (.int u1), .val (.int u2), .val (.int (F_grown p1 nd)), .val (.long ((2 : Int64) * ((p1).toInt64))), .second, .val (.long (nd + (nd / (8 : Int64)))), .second] [(.long (nd + (nd / (8 : Int64))))])) _
      refine Own.go (fun t k => XS.lload X1.here hx rfl (hb hby at_151) rfl k) ?_
      show Own.Fin p e below (T1.setTop (mkF m 153 #[.val (.int p1), .val (.long q2), .second, .val (.int p3), .val (.int p4), .val (.long (2147483639 : Int64)), .second, .val (.long nd), .second, .val (.int u1), .val (.int u2), .val (.int (F_grown p1 nd)), .val (.long ((2 : Int64) * ((p1).toInt64))), .second, .val (.long (nd + (nd / (8 : Int64)))), .second] [(.long (2147483639 : Int64)), (.long (nd + (nd / (8 : Int64))))])) _
      refine Own.go (fun t k => XS.lcmp X1.here hx rfl (hb hby at_153) rfl k) ?_
      show Own.Fin p e below (T1.setTop (mkF m 154 #[.val (.int p1), .val (.long q2), .second, .val (.int p3), .val (.int p4), .val (.long (2147483639 : Int64)), .second, .val (.long nd), .second, .val (.int u1), .val (.int u2), .val (.int (F_grown p1 nd)), .val (.long ((2 : Int64) * ((p1).toInt64))), .second, .val (.long (nd + (nd / (8 : Int64)))), .second] [(.int (lcmpW (nd + (nd / (8 : Int64))) (2147483639 : Int64)))])) _
      by_cases hc154_2 : (0 : Int32) < (lcmpW (nd + (nd / (8 : Int64))) (2147483639 : Int64))
      · skip
        refine Own.go (fun t k => XS.ifNo X1.here hx rfl (hb hby at_154) rfl ((if0 _ _).trans (tlt hc154_2).2.2.2) k) ?_
        show Own.Fin p e below (T1.setTop (mkF m 157 #[.val (.int p1), .val (.long q2), .second, .val (.int p3), .val (.int p4), .val (.long (2147483639 : Int64)), .second, .val (.long nd), .second, .val (.int u1), .val (.int u2), .val (.int (F_grown p1 nd)), .val (.long ((2 : Int64) * ((p1).toInt64))), .second, .val (.long (nd + (nd / (8 : Int64)))), .second] [])) _
        refine Own.go (fun t k => XS.lload X1.here hx rfl (hb hby at_157) rfl k) ?_
        show Own.Fin p e below (T1.setTop (mkF m 159 #[.val (.int p1), .val (.long q2), .second, .val (.int p3), .val (.int p4), .val (.long (2147483639 : Int64)), .second, .val (.long nd), .second, .val (.int u1), .val (.int u2), .val (.int (F_grown p1 nd)), .val (.long ((2 : Int64) * ((p1).toInt64))), .second, .val (.long (nd + (nd / (8 : Int64)))), .second] [(.long (2147483639 : Int64))])) _
        refine Own.go (fun t k => XS.lstore X1.here hx rfl (hb hby at_159) rfl (l' := #[.val (.int p1), .val (.long q2), .second, .val (.int p3), .val (.int p4), .val (.long (2147483639 : Int64)), .second, .val (.long nd), .second, .val (.int u1), .val (.int u2), .val (.int (F_grown p1 nd)), .val (.long ((2 : Int64) * ((p1).toInt64))), .second, .val (.long (2147483639 : Int64)), .second]) rfl k) ?_
        show Own.Fin p e below (T1.setTop (mkF m 161 #[.val (.int p1), .val (.long q2), .second, .val (.int p3), .val (.int p4), .val (.long (2147483639 : Int64)), .second, .val (.long nd), .second, .val (.int u1), .val (.int u2), .val (.int (F_grown p1 nd)), .val (.long ((2 : Int64) * ((p1).toInt64))), .second, .val (.long (2147483639 : Int64)), .second] [])) _
        refine Own.go (fun t k => XS.iload X1.here hx rfl (hb hby at_161) rfl k) ?_
        show Own.Fin p e below (T1.setTop (mkF m 163 #[.val (.int p1), .val (.long q2), .second, .val (.int p3), .val (.int p4), .val (.long (2147483639 : Int64)), .second, .val (.long nd), .second, .val (.int u1), .val (.int u2), .val (.int (F_grown p1 nd)), .val (.long ((2 : Int64) * ((p1).toInt64))), .second, .val (.long (2147483639 : Int64)), .second] [(.int (F_grown p1 nd))])) _
        refine Own.go (fun t k => XS.i2l X1.here hx rfl (hb hby at_163) rfl k) ?_
        show Own.Fin p e below (T1.setTop (mkF m 164 #[.val (.int p1), .val (.long q2), .second, .val (.int p3), .val (.int p4), .val (.long (2147483639 : Int64)), .second, .val (.long nd), .second, .val (.int u1), .val (.int u2), .val (.int (F_grown p1 nd)), .val (.long ((2 : Int64) * ((p1).toInt64))), .second, .val (.long (2147483639 : Int64)), .second] [(.long (((F_grown p1 nd)).toInt64))])) _
        refine Own.go (fun t k => XS.lload X1.here hx rfl (hb hby at_164) rfl k) ?_
        show Own.Fin p e below (T1.setTop (mkF m 166 #[.val (.int p1), .val (.long q2), .second, .val (.int p3), .val (.int p4), .val (.long (2147483639 : Int64)), .second, .val (.long nd), .second, .val (.int u1), .val (.int u2), .val (.int (F_grown p1 nd)), .val (.long ((2 : Int64) * ((p1).toInt64))), .second, .val (.long (2147483639 : Int64)), .second] [(.long (2147483639 : Int64)), (.long (((F_grown p1 nd)).toInt64))])) _
        refine Own.go (fun t k => XS.lcmp X1.here hx rfl (hb hby at_166) rfl k) ?_
        show Own.Fin p e below (T1.setTop (mkF m 167 #[.val (.int p1), .val (.long q2), .second, .val (.int p3), .val (.int p4), .val (.long (2147483639 : Int64)), .second, .val (.long nd), .second, .val (.int u1), .val (.int u2), .val (.int (F_grown p1 nd)), .val (.long ((2 : Int64) * ((p1).toInt64))), .second, .val (.long (2147483639 : Int64)), .second] [(.int (lcmpW (((F_grown p1 nd)).toInt64) (2147483639 : Int64)))])) _
        have hc167_3 : (lcmpW (((F_grown p1 nd)).toInt64) (2147483639 : Int64)) = (0 : Int32) := by have h := own_chk p1 nd hnd; simp only [F_exp, F_cap, hc128_1, hc154_2, if_true, if_false] at h; exact h.1
        refine Own.go (fun t k => XS.ifNo X1.here hx rfl (hb hby at_167) rfl ((if0 _ _).trans (teq hc167_3).2) k) ?_
        show Own.Fin p e below (T1.setTop (mkF m 170 #[.val (.int p1), .val (.long q2), .second, .val (.int p3), .val (.int p4), .val (.long (2147483639 : Int64)), .second, .val (.long nd), .second, .val (.int u1), .val (.int u2), .val (.int (F_grown p1 nd)), .val (.long ((2 : Int64) * ((p1).toInt64))), .second, .val (.long (2147483639 : Int64)), .second] [])) _
        refine Own.go (fun t k => XS.iload X1.here hx rfl (hb hby at_170) rfl k) ?_
        show Own.Fin p e below (T1.setTop (mkF m 172 #[.val (.int p1), .val (.long q2), .second, .val (.int p3), .val (.int p4), .val (.long (2147483639 : Int64)), .second, .val (.long nd), .second, .val (.int u1), .val (.int u2), .val (.int (F_grown p1 nd)), .val (.long ((2 : Int64) * ((p1).toInt64))), .second, .val (.long (2147483639 : Int64)), .second] [(.int (F_grown p1 nd))])) _
        refine Own.go (fun t k => XS.i2l X1.here hx rfl (hb hby at_172) rfl k) ?_
        show Own.Fin p e below (T1.setTop (mkF m 173 #[.val (.int p1), .val (.long q2), .second, .val (.int p3), .val (.int p4), .val (.long (2147483639 : Int64)), .second, .val (.long nd), .second, .val (.int u1), .val (.int u2), .val (.int (F_grown p1 nd)), .val (.long ((2 : Int64) * ((p1).toInt64))), .second, .val (.long (2147483639 : Int64)), .second] [(.long (((F_grown p1 nd)).toInt64))])) _
        refine Own.go (fun t k => XS.lload X1.here hx rfl (hb hby at_173) rfl k) ?_
        show Own.Fin p e below (T1.setTop (mkF m 175 #[.val (.int p1), .val (.long q2), .second, .val (.int p3), .val (.int p4), .val (.long (2147483639 : Int64)), .second, .val (.long nd), .second, .val (.int u1), .val (.int u2), .val (.int (F_grown p1 nd)), .val (.long ((2 : Int64) * ((p1).toInt64))), .second, .val (.long (2147483639 : Int64)), .second] [(.long nd), (.long (((F_grown p1 nd)).toInt64))])) _
        refine Own.go (fun t k => XS.lcmp X1.here hx rfl (hb hby at_175) rfl k) ?_
        show Own.Fin p e below (T1.setTop (mkF m 176 #[.val (.int p1), .val (.long q2), .second, .val (.int p3), .val (.int p4), .val (.long (2147483639 : Int64)), .second, .val (.long nd), .second, .val (.int u1), .val (.int u2), .val (.int (F_grown p1 nd)), .val (.long ((2 : Int64) * ((p1).toInt64))), .second, .val (.long (2147483639 : Int64)), .second] [(.int (lcmpW (((F_grown p1 nd)).toInt64) nd))])) _
        have hc176_4 : ¬ ((lcmpW (((F_grown p1 nd)).toInt64) nd) < (0 : Int32)) := by have h := own_chk p1 nd hnd; simp only [F_exp, F_cap, hc128_1, hc154_2, if_true, if_false] at h; exact h.2.1
        refine Own.go (fun t k => XS.ifNo X1.here hx rfl (hb hby at_176) rfl ((if0 _ _).trans (flt hc176_4).1) k) ?_
        show Own.Fin p e below (T1.setTop (mkF m 179 #[.val (.int p1), .val (.long q2), .second, .val (.int p3), .val (.int p4), .val (.long (2147483639 : Int64)), .second, .val (.long nd), .second, .val (.int u1), .val (.int u2), .val (.int (F_grown p1 nd)), .val (.long ((2 : Int64) * ((p1).toInt64))), .second, .val (.long (2147483639 : Int64)), .second] [])) _
        refine Own.go (fun t k => XS.iload X1.here hx rfl (hb hby at_179) rfl k) ?_
        show Own.Fin p e below (T1.setTop (mkF m 181 #[.val (.int p1), .val (.long q2), .second, .val (.int p3), .val (.int p4), .val (.long (2147483639 : Int64)), .second, .val (.long nd), .second, .val (.int u1), .val (.int u2), .val (.int (F_grown p1 nd)), .val (.long ((2 : Int64) * ((p1).toInt64))), .second, .val (.long (2147483639 : Int64)), .second] [(.int (F_grown p1 nd))])) _
        refine Own.go (fun t k => XS.i2l X1.here hx rfl (hb hby at_181) rfl k) ?_
        show Own.Fin p e below (T1.setTop (mkF m 182 #[.val (.int p1), .val (.long q2), .second, .val (.int p3), .val (.int p4), .val (.long (2147483639 : Int64)), .second, .val (.long nd), .second, .val (.int u1), .val (.int u2), .val (.int (F_grown p1 nd)), .val (.long ((2 : Int64) * ((p1).toInt64))), .second, .val (.long (2147483639 : Int64)), .second] [(.long (((F_grown p1 nd)).toInt64))])) _
        refine Own.go (fun t k => XS.lload X1.here hx rfl (hb hby at_182) rfl k) ?_
        show Own.Fin p e below (T1.setTop (mkF m 184 #[.val (.int p1), .val (.long q2), .second, .val (.int p3), .val (.int p4), .val (.long (2147483639 : Int64)), .second, .val (.long nd), .second, .val (.int u1), .val (.int u2), .val (.int (F_grown p1 nd)), .val (.long ((2 : Int64) * ((p1).toInt64))), .second, .val (.long (2147483639 : Int64)), .second] [(.long (2147483639 : Int64)), (.long (((F_grown p1 nd)).toInt64))])) _
        refine Own.go (fun t k => XS.lcmp X1.here hx rfl (hb hby at_184) rfl k) ?_
        show Own.Fin p e below (T1.setTop (mkF m 185 #[.val (.int p1), .val (.long q2), .second, .val (.int p3), .val (.int p4), .val (.long (2147483639 : Int64)), .second, .val (.long nd), .second, .val (.int u1), .val (.int u2), .val (.int (F_grown p1 nd)), .val (.long ((2 : Int64) * ((p1).toInt64))), .second, .val (.long (2147483639 : Int64)), .second] [(.int (lcmpW (((F_grown p1 nd)).toInt64) (2147483639 : Int64)))])) _
        have hc185_5 : ¬ ((0 : Int32) < (lcmpW (((F_grown p1 nd)).toInt64) (2147483639 : Int64))) := by have h := own_chk p1 nd hnd; simp only [F_exp, F_cap, hc128_1, hc154_2, if_true, if_false] at h; exact h.2.2
        refine Own.go (fun t k => XS.ifNo X1.here hx rfl (hb hby at_185) rfl ((if0 _ _).trans (flt hc185_5).2.2.1) k) ?_
        show Own.Fin p e below (T1.setTop (mkF m 188 #[.val (.int p1), .val (.long q2), .second, .val (.int p3), .val (.int p4), .val (.long (2147483639 : Int64)), .second, .val (.long nd), .second, .val (.int u1), .val (.int u2), .val (.int (F_grown p1 nd)), .val (.long ((2 : Int64) * ((p1).toInt64))), .second, .val (.long (2147483639 : Int64)), .second] [])) _
        refine Own.go (fun t k => XS.iconst X1.here hx rfl (hb hby at_188) k) ?_
        show Own.Fin p e below (T1.setTop (mkF m 189 #[.val (.int p1), .val (.long q2), .second, .val (.int p3), .val (.int p4), .val (.long (2147483639 : Int64)), .second, .val (.long nd), .second, .val (.int u1), .val (.int u2), .val (.int (F_grown p1 nd)), .val (.long ((2 : Int64) * ((p1).toInt64))), .second, .val (.long (2147483639 : Int64)), .second] [(.int (1 : Int32))])) _
        refine Own.go (fun t k => XS.goto X1.here hx rfl (pc0 := 189) (pc' := 193) rfl (hb hby at_189) (by decide) (by decide) k) ?_
        show Own.Fin p e below (T1.setTop (mkF m 193 #[.val (.int p1), .val (.long q2), .second, .val (.int p3), .val (.int p4), .val (.long (2147483639 : Int64)), .second, .val (.long nd), .second, .val (.int u1), .val (.int u2), .val (.int (F_grown p1 nd)), .val (.long ((2 : Int64) * ((p1).toInt64))), .second, .val (.long (2147483639 : Int64)), .second] [(.int (1 : Int32))])) _
        refine Own.retN X1 hx Bd.notSynchronized (t := .boolean) Bd.returns (by simp) (hb hby at_193) (by decide) (by decide) ?_
        exact ⟨rfl, N1⟩
      · skip
        refine Own.go (fun t k => XS.ifYes X1.here hx rfl (pc0 := 154) (pc' := 161) rfl (hb hby at_154) rfl ((if0 _ _).trans (flt hc154_2).2.2.2) (by decide) (by decide) k) ?_
        show Own.Fin p e below (T1.setTop (mkF m 161 #[.val (.int p1), .val (.long q2), .second, .val (.int p3), .val (.int p4), .val (.long (2147483639 : Int64)), .second, .val (.long nd), .second, .val (.int u1), .val (.int u2), .val (.int (F_grown p1 nd)), .val (.long ((2 : Int64) * ((p1).toInt64))), .second, .val (.long (nd + (nd / (8 : Int64)))), .second] [])) _
        refine Own.go (fun t k => XS.iload X1.here hx rfl (hb hby at_161) rfl k) ?_
        show Own.Fin p e below (T1.setTop (mkF m 163 #[.val (.int p1), .val (.long q2), .second, .val (.int p3), .val (.int p4), .val (.long (2147483639 : Int64)), .second, .val (.long nd), .second, .val (.int u1), .val (.int u2), .val (.int (F_grown p1 nd)), .val (.long ((2 : Int64) * ((p1).toInt64))), .second, .val (.long (nd + (nd / (8 : Int64)))), .second] [(.int (F_grown p1 nd))])) _
        refine Own.go (fun t k => XS.i2l X1.here hx rfl (hb hby at_163) rfl k) ?_
        show Own.Fin p e below (T1.setTop (mkF m 164 #[.val (.int p1), .val (.long q2), .second, .val (.int p3), .val (.int p4), .val (.long (2147483639 : Int64)), .second, .val (.long nd), .second, .val (.int u1), .val (.int u2), .val (.int (F_grown p1 nd)), .val (.long ((2 : Int64) * ((p1).toInt64))), .second, .val (.long (nd + (nd / (8 : Int64)))), .second] [(.long (((F_grown p1 nd)).toInt64))])) _
        refine Own.go (fun t k => XS.lload X1.here hx rfl (hb hby at_164) rfl k) ?_
        show Own.Fin p e below (T1.setTop (mkF m 166 #[.val (.int p1), .val (.long q2), .second, .val (.int p3), .val (.int p4), .val (.long (2147483639 : Int64)), .second, .val (.long nd), .second, .val (.int u1), .val (.int u2), .val (.int (F_grown p1 nd)), .val (.long ((2 : Int64) * ((p1).toInt64))), .second, .val (.long (nd + (nd / (8 : Int64)))), .second] [(.long (nd + (nd / (8 : Int64)))), (.long (((F_grown p1 nd)).toInt64))])) _
        refine Own.go (fun t k => XS.lcmp X1.here hx rfl (hb hby at_166) rfl k) ?_
        show Own.Fin p e below (T1.setTop (mkF m 167 #[.val (.int p1), .val (.long q2), .second, .val (.int p3), .val (.int p4), .val (.long (2147483639 : Int64)), .second, .val (.long nd), .second, .val (.int u1), .val (.int u2), .val (.int (F_grown p1 nd)), .val (.long ((2 : Int64) * ((p1).toInt64))), .second, .val (.long (nd + (nd / (8 : Int64)))), .second] [(.int (lcmpW (((F_grown p1 nd)).toInt64) (nd + (nd / (8 : Int64)))))])) _
        have hc167_6 : (lcmpW (((F_grown p1 nd)).toInt64) (nd + (nd / (8 : Int64)))) = (0 : Int32) := by have h := own_chk p1 nd hnd; simp only [F_exp, F_cap, hc128_1, hc154_2, if_true, if_false] at h; exact h.1
        refine Own.go (fun t k => XS.ifNo X1.here hx rfl (hb hby at_167) rfl ((if0 _ _).trans (teq hc167_6).2) k) ?_
        show Own.Fin p e below (T1.setTop (mkF m 170 #[.val (.int p1), .val (.long q2), .second, .val (.int p3), .val (.int p4), .val (.long (2147483639 : Int64)), .second, .val (.long nd), .second, .val (.int u1), .val (.int u2), .val (.int (F_grown p1 nd)), .val (.long ((2 : Int64) * ((p1).toInt64))), .second, .val (.long (nd + (nd / (8 : Int64)))), .second] [])) _
        refine Own.go (fun t k => XS.iload X1.here hx rfl (hb hby at_170) rfl k) ?_
        show Own.Fin p e below (T1.setTop (mkF m 172 #[.val (.int p1), .val (.long q2), .second, .val (.int p3), .val (.int p4), .val (.long (2147483639 : Int64)), .second, .val (.long nd), .second, .val (.int u1), .val (.int u2), .val (.int (F_grown p1 nd)), .val (.long ((2 : Int64) * ((p1).toInt64))), .second, .val (.long (nd + (nd / (8 : Int64)))), .second] [(.int (F_grown p1 nd))])) _
        refine Own.go (fun t k => XS.i2l X1.here hx rfl (hb hby at_172) rfl k) ?_
        show Own.Fin p e below (T1.setTop (mkF m 173 #[.val (.int p1), .val (.long q2), .second, .val (.int p3), .val (.int p4), .val (.long (2147483639 : Int64)), .second, .val (.long nd), .second, .val (.int u1), .val (.int u2), .val (.int (F_grown p1 nd)), .val (.long ((2 : Int64) * ((p1).toInt64))), .second, .val (.long (nd + (nd / (8 : Int64)))), .second] [(.long (((F_grown p1 nd)).toInt64))])) _
        refine Own.go (fun t k => XS.lload X1.here hx rfl (hb hby at_173) rfl k) ?_
        show Own.Fin p e below (T1.setTop (mkF m 175 #[.val (.int p1), .val (.long q2), .second, .val (.int p3), .val (.int p4), .val (.long (2147483639 : Int64)), .second, .val (.long nd), .second, .val (.int u1), .val (.int u2), .val (.int (F_grown p1 nd)), .val (.long ((2 : Int64) * ((p1).toInt64))), .second, .val (.long (nd + (nd / (8 : Int64)))), .second] [(.long nd), (.long (((F_grown p1 nd)).toInt64))])) _
        refine Own.go (fun t k => XS.lcmp X1.here hx rfl (hb hby at_175) rfl k) ?_
        show Own.Fin p e below (T1.setTop (mkF m 176 #[.val (.int p1), .val (.long q2), .second, .val (.int p3), .val (.int p4), .val (.long (2147483639 : Int64)), .second, .val (.long nd), .second, .val (.int u1), .val (.int u2), .val (.int (F_grown p1 nd)), .val (.long ((2 : Int64) * ((p1).toInt64))), .second, .val (.long (nd + (nd / (8 : Int64)))), .second] [(.int (lcmpW (((F_grown p1 nd)).toInt64) nd))])) _
        have hc176_7 : ¬ ((lcmpW (((F_grown p1 nd)).toInt64) nd) < (0 : Int32)) := by have h := own_chk p1 nd hnd; simp only [F_exp, F_cap, hc128_1, hc154_2, if_true, if_false] at h; exact h.2.1
        refine Own.go (fun t k => XS.ifNo X1.here hx rfl (hb hby at_176) rfl ((if0 _ _).trans (flt hc176_7).1) k) ?_
        show Own.Fin p e below (T1.setTop (mkF m 179 #[.val (.int p1), .val (.long q2), .second, .val (.int p3), .val (.int p4), .val (.long (2147483639 : Int64)), .second, .val (.long nd), .second, .val (.int u1), .val (.int u2), .val (.int (F_grown p1 nd)), .val (.long ((2 : Int64) * ((p1).toInt64))), .second, .val (.long (nd + (nd / (8 : Int64)))), .second] [])) _
        refine Own.go (fun t k => XS.iload X1.here hx rfl (hb hby at_179) rfl k) ?_
        show Own.Fin p e below (T1.setTop (mkF m 181 #[.val (.int p1), .val (.long q2), .second, .val (.int p3), .val (.int p4), .val (.long (2147483639 : Int64)), .second, .val (.long nd), .second, .val (.int u1), .val (.int u2), .val (.int (F_grown p1 nd)), .val (.long ((2 : Int64) * ((p1).toInt64))), .second, .val (.long (nd + (nd / (8 : Int64)))), .second] [(.int (F_grown p1 nd))])) _
        refine Own.go (fun t k => XS.i2l X1.here hx rfl (hb hby at_181) rfl k) ?_
        show Own.Fin p e below (T1.setTop (mkF m 182 #[.val (.int p1), .val (.long q2), .second, .val (.int p3), .val (.int p4), .val (.long (2147483639 : Int64)), .second, .val (.long nd), .second, .val (.int u1), .val (.int u2), .val (.int (F_grown p1 nd)), .val (.long ((2 : Int64) * ((p1).toInt64))), .second, .val (.long (nd + (nd / (8 : Int64)))), .second] [(.long (((F_grown p1 nd)).toInt64))])) _
        refine Own.go (fun t k => XS.lload X1.here hx rfl (hb hby at_182) rfl k) ?_
        show Own.Fin p e below (T1.setTop (mkF m 184 #[.val (.int p1), .val (.long q2), .second, .val (.int p3), .val (.int p4), .val (.long (2147483639 : Int64)), .second, .val (.long nd), .second, .val (.int u1), .val (.int u2), .val (.int (F_grown p1 nd)), .val (.long ((2 : Int64) * ((p1).toInt64))), .second, .val (.long (nd + (nd / (8 : Int64)))), .second] [(.long (2147483639 : Int64)), (.long (((F_grown p1 nd)).toInt64))])) _
        refine Own.go (fun t k => XS.lcmp X1.here hx rfl (hb hby at_184) rfl k) ?_
        show Own.Fin p e below (T1.setTop (mkF m 185 #[.val (.int p1), .val (.long q2), .second, .val (.int p3), .val (.int p4), .val (.long (2147483639 : Int64)), .second, .val (.long nd), .second, .val (.int u1), .val (.int u2), .val (.int (F_grown p1 nd)), .val (.long ((2 : Int64) * ((p1).toInt64))), .second, .val (.long (nd + (nd / (8 : Int64)))), .second] [(.int (lcmpW (((F_grown p1 nd)).toInt64) (2147483639 : Int64)))])) _
        have hc185_8 : ¬ ((0 : Int32) < (lcmpW (((F_grown p1 nd)).toInt64) (2147483639 : Int64))) := by have h := own_chk p1 nd hnd; simp only [F_exp, F_cap, hc128_1, hc154_2, if_true, if_false] at h; exact h.2.2
        refine Own.go (fun t k => XS.ifNo X1.here hx rfl (hb hby at_185) rfl ((if0 _ _).trans (flt hc185_8).2.2.1) k) ?_
        show Own.Fin p e below (T1.setTop (mkF m 188 #[.val (.int p1), .val (.long q2), .second, .val (.int p3), .val (.int p4), .val (.long (2147483639 : Int64)), .second, .val (.long nd), .second, .val (.int u1), .val (.int u2), .val (.int (F_grown p1 nd)), .val (.long ((2 : Int64) * ((p1).toInt64))), .second, .val (.long (nd + (nd / (8 : Int64)))), .second] [])) _
        refine Own.go (fun t k => XS.iconst X1.here hx rfl (hb hby at_188) k) ?_
        show Own.Fin p e below (T1.setTop (mkF m 189 #[.val (.int p1), .val (.long q2), .second, .val (.int p3), .val (.int p4), .val (.long (2147483639 : Int64)), .second, .val (.long nd), .second, .val (.int u1), .val (.int u2), .val (.int (F_grown p1 nd)), .val (.long ((2 : Int64) * ((p1).toInt64))), .second, .val (.long (nd + (nd / (8 : Int64)))), .second] [(.int (1 : Int32))])) _
        refine Own.go (fun t k => XS.goto X1.here hx rfl (pc0 := 189) (pc' := 193) rfl (hb hby at_189) (by decide) (by decide) k) ?_
        show Own.Fin p e below (T1.setTop (mkF m 193 #[.val (.int p1), .val (.long q2), .second, .val (.int p3), .val (.int p4), .val (.long (2147483639 : Int64)), .second, .val (.long nd), .second, .val (.int u1), .val (.int u2), .val (.int (F_grown p1 nd)), .val (.long ((2 : Int64) * ((p1).toInt64))), .second, .val (.long (nd + (nd / (8 : Int64)))), .second] [(.int (1 : Int32))])) _
        refine Own.retN X1 hx Bd.notSynchronized (t := .boolean) Bd.returns (by simp) (hb hby at_193) (by decide) (by decide) ?_
        exact ⟨rfl, N1⟩
    · skip
      refine Own.go (fun t k => XS.ifNo X1.here hx rfl (hb hby at_128) rfl ((if0 _ _).trans (flt hc128_1).1) k) ?_
      show Own.Fin p e below (T1.setTop (mkF m 131 #[.val (.int p1), .val (.long q2), .second, .val (.int p3), .val (.int p4), .val (.long (2147483639 : Int64)), .second, .val (.long nd), .second, .val (.int u1), .val (.int u2), .val (.int (F_grown p1 nd)), .val (.long ((2 : Int64) * ((p1).toInt64))), .second, .unset, .unset] [])) _
      refine Own.go (fun t k => XS.lload X1.here hx rfl (hb hby at_131) rfl k) ?_
      show Own.Fin p e below (T1.setTop (mkF m 133 #[.val (.int p1), .val (.long q2), .second, .val (.int p3), .val (.int p4), .val (.long (2147483639 : Int64)), .second, .val (.long nd), .second, .val (.int u1), .val (.int u2), .val (.int (F_grown p1 nd)), .val (.long ((2 : Int64) * ((p1).toInt64))), .second, .unset, .unset] [(.long ((2 : Int64) * ((p1).toInt64)))])) _
      refine Own.go (fun t k => XS.lstore X1.here hx rfl (hb hby at_133) rfl (l' := #[.val (.int p1), .val (.long q2), .second, .val (.int p3), .val (.int p4), .val (.long (2147483639 : Int64)), .second, .val (.long nd), .second, .val (.int u1), .val (.int u2), .val (.int (F_grown p1 nd)), .val (.long ((2 : Int64) * ((p1).toInt64))), .second, .val (.long ((2 : Int64) * ((p1).toInt64))), .second]) rfl k) ?_
      show Own.Fin p e below (T1.setTop (mkF m 135 #[.val (.int p1), .val (.long q2), .second, .val (.int p3), .val (.int p4), .val (.long (2147483639 : Int64)), .second, .val (.long nd), .second, .val (.int u1), .val (.int u2), .val (.int (F_grown p1 nd)), .val (.long ((2 : Int64) * ((p1).toInt64))), .second, .val (.long ((2 : Int64) * ((p1).toInt64))), .second] [])) _
      refine Own.go (fun t k => XS.goto X1.here hx rfl (pc0 := 135) (pc' := 149) rfl (hb hby at_135) (by decide) (by decide) k) ?_
      show Own.Fin p e below (T1.setTop (mkF m 149 #[.val (.int p1), .val (.long q2), .second, .val (.int p3), .val (.int p4), .val (.long (2147483639 : Int64)), .second, .val (.long nd), .second, .val (.int u1), .val (.int u2), .val (.int (F_grown p1 nd)), .val (.long ((2 : Int64) * ((p1).toInt64))), .second, .val (.long ((2 : Int64) * ((p1).toInt64))), .second] [])) _
      refine Own.go (fun t k => XS.lload X1.here hx rfl (hb hby at_149) rfl k) ?_
      show Own.Fin p e below (T1.setTop (mkF m 151 #[.val (.int p1), .val (.long q2), .second, .val (.int p3), .val (.int p4), .val (.long (2147483639 : Int64)), .second, .val (.long nd), .second, .val (.int u1), .val (.int u2), .val (.int (F_grown p1 nd)), .val (.long ((2 : Int64) * ((p1).toInt64))), .second, .val (.long ((2 : Int64) * ((p1).toInt64))), .second] [(.long ((2 : Int64) * ((p1).toInt64)))])) _
      refine Own.go (fun t k => XS.lload X1.here hx rfl (hb hby at_151) rfl k) ?_
      show Own.Fin p e below (T1.setTop (mkF m 153 #[.val (.int p1), .val (.long q2), .second, .val (.int p3), .val (.int p4), .val (.long (2147483639 : Int64)), .second, .val (.long nd), .second, .val (.int u1), .val (.int u2), .val (.int (F_grown p1 nd)), .val (.long ((2 : Int64) * ((p1).toInt64))), .second, .val (.long ((2 : Int64) * ((p1).toInt64))), .second] [(.long (2147483639 : Int64)), (.long ((2 : Int64) * ((p1).toInt64)))])) _
      refine Own.go (fun t k => XS.lcmp X1.here hx rfl (hb hby at_153) rfl k) ?_
      show Own.Fin p e below (T1.setTop (mkF m 154 #[.val (.int p1), .val (.long q2), .second, .val (.int p3), .val (.int p4), .val (.long (2147483639 : Int64)), .second, .val (.long nd), .second, .val (.int u1), .val (.int u2), .val (.int (F_grown p1 nd)), .val (.long ((2 : Int64) * ((p1).toInt64))), .second, .val (.long ((2 : Int64) * ((p1).toInt64))), .second] [(.int (lcmpW ((2 : Int64) * ((p1).toInt64)) (2147483639 : Int64)))])) _
      by_cases hc154_9 : (0 : Int32) < (lcmpW ((2 : Int64) * ((p1).toInt64)) (2147483639 : Int64))
      · skip
        refine Own.go (fun t k => XS.ifNo X1.here hx rfl (hb hby at_154) rfl ((if0 _ _).trans (tlt hc154_9).2.2.2) k) ?_
        show Own.Fin p e below (T1.setTop (mkF m 157 #[.val (.int p1), .val (.long q2), .second, .val (.int p3), .val (.int p4), .val (.long (2147483639 : Int64)), .second, .val (.long nd), .second, .val (.int u1), .val (.int u2), .val (.int (F_grown p1 nd)), .val (.long ((2 : Int64) * ((p1).toInt64))), .second, .val (.long ((2 : Int64) * ((p1).toInt64))), .second] [])) _
        refine Own.go (fun t k => XS.lload X1.here hx rfl (hb hby at_157) rfl k) ?_
        show Own.Fin p e below (T1.setTop (mkF m 159 #[.val (.int p1), .val (.long q2), .second, .val (.int p3), .val (.int p4), .val (.long (2147483639 : Int64)), .second, .val (.long nd), .second, .val (.int u1), .val (.int u2), .val (.int (F_grown p1 nd)), .val (.long ((2 : Int64) * ((p1).toInt64))), .second, .val (.long ((2 : Int64) * ((p1).toInt64))), .second] [(.long (2147483639 : Int64))])) _
        refine Own.go (fun t k => XS.lstore X1.here hx rfl (hb hby at_159) rfl (l' := #[.val (.int p1), .val (.long q2), .second, .val (.int p3), .val (.int p4), .val (.long (2147483639 : Int64)), .second, .val (.long nd), .second, .val (.int u1), .val (.int u2), .val (.int (F_grown p1 nd)), .val (.long ((2 : Int64) * ((p1).toInt64))), .second, .val (.long (2147483639 : Int64)), .second]) rfl k) ?_
        show Own.Fin p e below (T1.setTop (mkF m 161 #[.val (.int p1), .val (.long q2), .second, .val (.int p3), .val (.int p4), .val (.long (2147483639 : Int64)), .second, .val (.long nd), .second, .val (.int u1), .val (.int u2), .val (.int (F_grown p1 nd)), .val (.long ((2 : Int64) * ((p1).toInt64))), .second, .val (.long (2147483639 : Int64)), .second] [])) _
        refine Own.go (fun t k => XS.iload X1.here hx rfl (hb hby at_161) rfl k) ?_
        show Own.Fin p e below (T1.setTop (mkF m 163 #[.val (.int p1), .val (.long q2), .second, .val (.int p3), .val (.int p4), .val (.long (2147483639 : Int64)), .second, .val (.long nd), .second, .val (.int u1), .val (.int u2), .val (.int (F_grown p1 nd)), .val (.long ((2 : Int64) * ((p1).toInt64))), .second, .val (.long (2147483639 : Int64)), .second] [(.int (F_grown p1 nd))])) _
        refine Own.go (fun t k => XS.i2l X1.here hx rfl (hb hby at_163) rfl k) ?_
        show Own.Fin p e below (T1.setTop (mkF m 164 #[.val (.int p1), .val (.long q2), .second, .val (.int p3), .val (.int p4), .val (.long (2147483639 : Int64)), .second, .val (.long nd), .second, .val (.int u1), .val (.int u2), .val (.int (F_grown p1 nd)), .val (.long ((2 : Int64) * ((p1).toInt64))), .second, .val (.long (2147483639 : Int64)), .second] [(.long (((F_grown p1 nd)).toInt64))])) _
        refine Own.go (fun t k => XS.lload X1.here hx rfl (hb hby at_164) rfl k) ?_
        show Own.Fin p e below (T1.setTop (mkF m 166 #[.val (.int p1), .val (.long q2), .second, .val (.int p3), .val (.int p4), .val (.long (2147483639 : Int64)), .second, .val (.long nd), .second, .val (.int u1), .val (.int u2), .val (.int (F_grown p1 nd)), .val (.long ((2 : Int64) * ((p1).toInt64))), .second, .val (.long (2147483639 : Int64)), .second] [(.long (2147483639 : Int64)), (.long (((F_grown p1 nd)).toInt64))])) _
        refine Own.go (fun t k => XS.lcmp X1.here hx rfl (hb hby at_166) rfl k) ?_
        show Own.Fin p e below (T1.setTop (mkF m 167 #[.val (.int p1), .val (.long q2), .second, .val (.int p3), .val (.int p4), .val (.long (2147483639 : Int64)), .second, .val (.long nd), .second, .val (.int u1), .val (.int u2), .val (.int (F_grown p1 nd)), .val (.long ((2 : Int64) * ((p1).toInt64))), .second, .val (.long (2147483639 : Int64)), .second] [(.int (lcmpW (((F_grown p1 nd)).toInt64) (2147483639 : Int64)))])) _
        have hc167_10 : (lcmpW (((F_grown p1 nd)).toInt64) (2147483639 : Int64)) = (0 : Int32) := by have h := own_chk p1 nd hnd; simp only [F_exp, F_cap, hc128_1, hc154_9, if_true, if_false] at h; exact h.1
        refine Own.go (fun t k => XS.ifNo X1.here hx rfl (hb hby at_167) rfl ((if0 _ _).trans (teq hc167_10).2) k) ?_
        show Own.Fin p e below (T1.setTop (mkF m 170 #[.val (.int p1), .val (.long q2), .second, .val (.int p3), .val (.int p4), .val (.long (2147483639 : Int64)), .second, .val (.long nd), .second, .val (.int u1), .val (.int u2), .val (.int (F_grown p1 nd)), .val (.long ((2 : Int64) * ((p1).toInt64))), .second, .val (.long (2147483639 : Int64)), .second] [])) _
        refine Own.go (fun t k => XS.iload X1.here hx rfl (hb hby at_170) rfl k) ?_
        show Own.Fin p e below (T1.setTop (mkF m 172 #[.val (.int p1), .val (.long q2), .second, .val (.int p3), .val (.int p4), .val (.long (2147483639 : Int64)), .second, .val (.long nd), .second, .val (.int u1), .val (.int u2), .val (.int (F_grown p1 nd)), .val (.long ((2 : Int64) * ((p1).toInt64))), .second, .val (.long (2147483639 : Int64)), .second] [(.int (F_grown p1 nd))])) _
        refine Own.go (fun t k => XS.i2l X1.here hx rfl (hb hby at_172) rfl k) ?_
        show Own.Fin p e below (T1.setTop (mkF m 173 #[.val (.int p1), .val (.long q2), .second, .val (.int p3), .val (.int p4), .val (.long (2147483639 : Int64)), .second, .val (.long nd), .second, .val (.int u1), .val (.int u2), .val (.int (F_grown p1 nd)), .val (.long ((2 : Int64) * ((p1).toInt64))), .second, .val (.long (2147483639 : Int64)), .second] [(.long (((F_grown p1 nd)).toInt64))])) _
        refine Own.go (fun t k => XS.lload X1.here hx rfl (hb hby at_173) rfl k) ?_
        show Own.Fin p e below (T1.setTop (mkF m 175 #[.val (.int p1), .val (.long q2), .second, .val (.int p3), .val (.int p4), .val (.long (2147483639 : Int64)), .second, .val (.long nd), .second, .val (.int u1), .val (.int u2), .val (.int (F_grown p1 nd)), .val (.long ((2 : Int64) * ((p1).toInt64))), .second, .val (.long (2147483639 : Int64)), .second] [(.long nd), (.long (((F_grown p1 nd)).toInt64))])) _
        refine Own.go (fun t k => XS.lcmp X1.here hx rfl (hb hby at_175) rfl k) ?_
        show Own.Fin p e below (T1.setTop (mkF m 176 #[.val (.int p1), .val (.long q2), .second, .val (.int p3), .val (.int p4), .val (.long (2147483639 : Int64)), .second, .val (.long nd), .second, .val (.int u1), .val (.int u2), .val (.int (F_grown p1 nd)), .val (.long ((2 : Int64) * ((p1).toInt64))), .second, .val (.long (2147483639 : Int64)), .second] [(.int (lcmpW (((F_grown p1 nd)).toInt64) nd))])) _
        have hc176_11 : ¬ ((lcmpW (((F_grown p1 nd)).toInt64) nd) < (0 : Int32)) := by have h := own_chk p1 nd hnd; simp only [F_exp, F_cap, hc128_1, hc154_9, if_true, if_false] at h; exact h.2.1
        refine Own.go (fun t k => XS.ifNo X1.here hx rfl (hb hby at_176) rfl ((if0 _ _).trans (flt hc176_11).1) k) ?_
        show Own.Fin p e below (T1.setTop (mkF m 179 #[.val (.int p1), .val (.long q2), .second, .val (.int p3), .val (.int p4), .val (.long (2147483639 : Int64)), .second, .val (.long nd), .second, .val (.int u1), .val (.int u2), .val (.int (F_grown p1 nd)), .val (.long ((2 : Int64) * ((p1).toInt64))), .second, .val (.long (2147483639 : Int64)), .second] [])) _
        refine Own.go (fun t k => XS.iload X1.here hx rfl (hb hby at_179) rfl k) ?_
        show Own.Fin p e below (T1.setTop (mkF m 181 #[.val (.int p1), .val (.long q2), .second, .val (.int p3), .val (.int p4), .val (.long (2147483639 : Int64)), .second, .val (.long nd), .second, .val (.int u1), .val (.int u2), .val (.int (F_grown p1 nd)), .val (.long ((2 : Int64) * ((p1).toInt64))), .second, .val (.long (2147483639 : Int64)), .second] [(.int (F_grown p1 nd))])) _
        refine Own.go (fun t k => XS.i2l X1.here hx rfl (hb hby at_181) rfl k) ?_
        show Own.Fin p e below (T1.setTop (mkF m 182 #[.val (.int p1), .val (.long q2), .second, .val (.int p3), .val (.int p4), .val (.long (2147483639 : Int64)), .second, .val (.long nd), .second, .val (.int u1), .val (.int u2), .val (.int (F_grown p1 nd)), .val (.long ((2 : Int64) * ((p1).toInt64))), .second, .val (.long (2147483639 : Int64)), .second] [(.long (((F_grown p1 nd)).toInt64))])) _
        refine Own.go (fun t k => XS.lload X1.here hx rfl (hb hby at_182) rfl k) ?_
        show Own.Fin p e below (T1.setTop (mkF m 184 #[.val (.int p1), .val (.long q2), .second, .val (.int p3), .val (.int p4), .val (.long (2147483639 : Int64)), .second, .val (.long nd), .second, .val (.int u1), .val (.int u2), .val (.int (F_grown p1 nd)), .val (.long ((2 : Int64) * ((p1).toInt64))), .second, .val (.long (2147483639 : Int64)), .second] [(.long (2147483639 : Int64)), (.long (((F_grown p1 nd)).toInt64))])) _
        refine Own.go (fun t k => XS.lcmp X1.here hx rfl (hb hby at_184) rfl k) ?_
        show Own.Fin p e below (T1.setTop (mkF m 185 #[.val (.int p1), .val (.long q2), .second, .val (.int p3), .val (.int p4), .val (.long (2147483639 : Int64)), .second, .val (.long nd), .second, .val (.int u1), .val (.int u2), .val (.int (F_grown p1 nd)), .val (.long ((2 : Int64) * ((p1).toInt64))), .second, .val (.long (2147483639 : Int64)), .second] [(.int (lcmpW (((F_grown p1 nd)).toInt64) (2147483639 : Int64)))])) _
        have hc185_12 : ¬ ((0 : Int32) < (lcmpW (((F_grown p1 nd)).toInt64) (2147483639 : Int64))) := by have h := own_chk p1 nd hnd; simp only [F_exp, F_cap, hc128_1, hc154_9, if_true, if_false] at h; exact h.2.2
        refine Own.go (fun t k => XS.ifNo X1.here hx rfl (hb hby at_185) rfl ((if0 _ _).trans (flt hc185_12).2.2.1) k) ?_
        show Own.Fin p e below (T1.setTop (mkF m 188 #[.val (.int p1), .val (.long q2), .second, .val (.int p3), .val (.int p4), .val (.long (2147483639 : Int64)), .second, .val (.long nd), .second, .val (.int u1), .val (.int u2), .val (.int (F_grown p1 nd)), .val (.long ((2 : Int64) * ((p1).toInt64))), .second, .val (.long (2147483639 : Int64)), .second] [])) _
        refine Own.go (fun t k => XS.iconst X1.here hx rfl (hb hby at_188) k) ?_
        show Own.Fin p e below (T1.setTop (mkF m 189 #[.val (.int p1), .val (.long q2), .second, .val (.int p3), .val (.int p4), .val (.long (2147483639 : Int64)), .second, .val (.long nd), .second, .val (.int u1), .val (.int u2), .val (.int (F_grown p1 nd)), .val (.long ((2 : Int64) * ((p1).toInt64))), .second, .val (.long (2147483639 : Int64)), .second] [(.int (1 : Int32))])) _
        refine Own.go (fun t k => XS.goto X1.here hx rfl (pc0 := 189) (pc' := 193) rfl (hb hby at_189) (by decide) (by decide) k) ?_
        show Own.Fin p e below (T1.setTop (mkF m 193 #[.val (.int p1), .val (.long q2), .second, .val (.int p3), .val (.int p4), .val (.long (2147483639 : Int64)), .second, .val (.long nd), .second, .val (.int u1), .val (.int u2), .val (.int (F_grown p1 nd)), .val (.long ((2 : Int64) * ((p1).toInt64))), .second, .val (.long (2147483639 : Int64)), .second] [(.int (1 : Int32))])) _
        refine Own.retN X1 hx Bd.notSynchronized (t := .boolean) Bd.returns (by simp) (hb hby at_193) (by decide) (by decide) ?_
        exact ⟨rfl, N1⟩
      · skip
        refine Own.go (fun t k => XS.ifYes X1.here hx rfl (pc0 := 154) (pc' := 161) rfl (hb hby at_154) rfl ((if0 _ _).trans (flt hc154_9).2.2.2) (by decide) (by decide) k) ?_
        show Own.Fin p e below (T1.setTop (mkF m 161 #[.val (.int p1), .val (.long q2), .second, .val (.int p3), .val (.int p4), .val (.long (2147483639 : Int64)), .second, .val (.long nd), .second, .val (.int u1), .val (.int u2), .val (.int (F_grown p1 nd)), .val (.long ((2 : Int64) * ((p1).toInt64))), .second, .val (.long ((2 : Int64) * ((p1).toInt64))), .second] [])) _
        refine Own.go (fun t k => XS.iload X1.here hx rfl (hb hby at_161) rfl k) ?_
        show Own.Fin p e below (T1.setTop (mkF m 163 #[.val (.int p1), .val (.long q2), .second, .val (.int p3), .val (.int p4), .val (.long (2147483639 : Int64)), .second, .val (.long nd), .second, .val (.int u1), .val (.int u2), .val (.int (F_grown p1 nd)), .val (.long ((2 : Int64) * ((p1).toInt64))), .second, .val (.long ((2 : Int64) * ((p1).toInt64))), .second] [(.int (F_grown p1 nd))])) _
        refine Own.go (fun t k => XS.i2l X1.here hx rfl (hb hby at_163) rfl k) ?_
        show Own.Fin p e below (T1.setTop (mkF m 164 #[.val (.int p1), .val (.long q2), .second, .val (.int p3), .val (.int p4), .val (.long (2147483639 : Int64)), .second, .val (.long nd), .second, .val (.int u1), .val (.int u2), .val (.int (F_grown p1 nd)), .val (.long ((2 : Int64) * ((p1).toInt64))), .second, .val (.long ((2 : Int64) * ((p1).toInt64))), .second] [(.long (((F_grown p1 nd)).toInt64))])) _
        refine Own.go (fun t k => XS.lload X1.here hx rfl (hb hby at_164) rfl k) ?_
        show Own.Fin p e below (T1.setTop (mkF m 166 #[.val (.int p1), .val (.long q2), .second, .val (.int p3), .val (.int p4), .val (.long (2147483639 : Int64)), .second, .val (.long nd), .second, .val (.int u1), .val (.int u2), .val (.int (F_grown p1 nd)), .val (.long ((2 : Int64) * ((p1).toInt64))), .second, .val (.long ((2 : Int64) * ((p1).toInt64))), .second] [(.long ((2 : Int64) * ((p1).toInt64))), (.long (((F_grown p1 nd)).toInt64))])) _
        refine Own.go (fun t k => XS.lcmp X1.here hx rfl (hb hby at_166) rfl k) ?_
        show Own.Fin p e below (T1.setTop (mkF m 167 #[.val (.int p1), .val (.long q2), .second, .val (.int p3), .val (.int p4), .val (.long (2147483639 : Int64)), .second, .val (.long nd), .second, .val (.int u1), .val (.int u2), .val (.int (F_grown p1 nd)), .val (.long ((2 : Int64) * ((p1).toInt64))), .second, .val (.long ((2 : Int64) * ((p1).toInt64))), .second] [(.int (lcmpW (((F_grown p1 nd)).toInt64) ((2 : Int64) * ((p1).toInt64))))])) _
        have hc167_13 : (lcmpW (((F_grown p1 nd)).toInt64) ((2 : Int64) * ((p1).toInt64))) = (0 : Int32) := by have h := own_chk p1 nd hnd; simp only [F_exp, F_cap, hc128_1, hc154_9, if_true, if_false] at h; exact h.1
        refine Own.go (fun t k => XS.ifNo X1.here hx rfl (hb hby at_167) rfl ((if0 _ _).trans (teq hc167_13).2) k) ?_
        show Own.Fin p e below (T1.setTop (mkF m 170 #[.val (.int p1), .val (.long q2), .second, .val (.int p3), .val (.int p4), .val (.long (2147483639 : Int64)), .second, .val (.long nd), .second, .val (.int u1), .val (.int u2), .val (.int (F_grown p1 nd)), .val (.long ((2 : Int64) * ((p1).toInt64))), .second, .val (.long ((2 : Int64) * ((p1).toInt64))), .second] [])) _
        refine Own.go (fun t k => XS.iload X1.here hx rfl (hb hby at_170) rfl k) ?_
        show Own.Fin p e below (T1.setTop (mkF m 172 #[.val (.int p1), .val (.long q2), .second, .val (.int p3), .val (.int p4), .val (.long (2147483639 : Int64)), .second, .val (.long nd), .second, .val (.int u1), .val (.int u2), .val (.int (F_grown p1 nd)), .val (.long ((2 : Int64) * ((p1).toInt64))), .second, .val (.long ((2 : Int64) * ((p1).toInt64))), .second] [(.int (F_grown p1 nd))])) _
        refine Own.go (fun t k => XS.i2l X1.here hx rfl (hb hby at_172) rfl k) ?_
        show Own.Fin p e below (T1.setTop (mkF m 173 #[.val (.int p1), .val (.long q2), .second, .val (.int p3), .val (.int p4), .val (.long (2147483639 : Int64)), .second, .val (.long nd), .second, .val (.int u1), .val (.int u2), .val (.int (F_grown p1 nd)), .val (.long ((2 : Int64) * ((p1).toInt64))), .second, .val (.long ((2 : Int64) * ((p1).toInt64))), .second] [(.long (((F_grown p1 nd)).toInt64))])) _
        refine Own.go (fun t k => XS.lload X1.here hx rfl (hb hby at_173) rfl k) ?_
        show Own.Fin p e below (T1.setTop (mkF m 175 #[.val (.int p1), .val (.long q2), .second, .val (.int p3), .val (.int p4), .val (.long (2147483639 : Int64)), .second, .val (.long nd), .second, .val (.int u1), .val (.int u2), .val (.int (F_grown p1 nd)), .val (.long ((2 : Int64) * ((p1).toInt64))), .second, .val (.long ((2 : Int64) * ((p1).toInt64))), .second] [(.long nd), (.long (((F_grown p1 nd)).toInt64))])) _
        refine Own.go (fun t k => XS.lcmp X1.here hx rfl (hb hby at_175) rfl k) ?_
        show Own.Fin p e below (T1.setTop (mkF m 176 #[.val (.int p1), .val (.long q2), .second, .val (.int p3), .val (.int p4), .val (.long (2147483639 : Int64)), .second, .val (.long nd), .second, .val (.int u1), .val (.int u2), .val (.int (F_grown p1 nd)), .val (.long ((2 : Int64) * ((p1).toInt64))), .second, .val (.long ((2 : Int64) * ((p1).toInt64))), .second] [(.int (lcmpW (((F_grown p1 nd)).toInt64) nd))])) _
        have hc176_14 : ¬ ((lcmpW (((F_grown p1 nd)).toInt64) nd) < (0 : Int32)) := by have h := own_chk p1 nd hnd; simp only [F_exp, F_cap, hc128_1, hc154_9, if_true, if_false] at h; exact h.2.1
        refine Own.go (fun t k => XS.ifNo X1.here hx rfl (hb hby at_176) rfl ((if0 _ _).trans (flt hc176_14).1) k) ?_
        show Own.Fin p e below (T1.setTop (mkF m 179 #[.val (.int p1), .val (.long q2), .second, .val (.int p3), .val (.int p4), .val (.long (2147483639 : Int64)), .second, .val (.long nd), .second, .val (.int u1), .val (.int u2), .val (.int (F_grown p1 nd)), .val (.long ((2 : Int64) * ((p1).toInt64))), .second, .val (.long ((2 : Int64) * ((p1).toInt64))), .second] [])) _
        refine Own.go (fun t k => XS.iload X1.here hx rfl (hb hby at_179) rfl k) ?_
        show Own.Fin p e below (T1.setTop (mkF m 181 #[.val (.int p1), .val (.long q2), .second, .val (.int p3), .val (.int p4), .val (.long (2147483639 : Int64)), .second, .val (.long nd), .second, .val (.int u1), .val (.int u2), .val (.int (F_grown p1 nd)), .val (.long ((2 : Int64) * ((p1).toInt64))), .second, .val (.long ((2 : Int64) * ((p1).toInt64))), .second] [(.int (F_grown p1 nd))])) _
        refine Own.go (fun t k => XS.i2l X1.here hx rfl (hb hby at_181) rfl k) ?_
        show Own.Fin p e below (T1.setTop (mkF m 182 #[.val (.int p1), .val (.long q2), .second, .val (.int p3), .val (.int p4), .val (.long (2147483639 : Int64)), .second, .val (.long nd), .second, .val (.int u1), .val (.int u2), .val (.int (F_grown p1 nd)), .val (.long ((2 : Int64) * ((p1).toInt64))), .second, .val (.long ((2 : Int64) * ((p1).toInt64))), .second] [(.long (((F_grown p1 nd)).toInt64))])) _
        refine Own.go (fun t k => XS.lload X1.here hx rfl (hb hby at_182) rfl k) ?_
        show Own.Fin p e below (T1.setTop (mkF m 184 #[.val (.int p1), .val (.long q2), .second, .val (.int p3), .val (.int p4), .val (.long (2147483639 : Int64)), .second, .val (.long nd), .second, .val (.int u1), .val (.int u2), .val (.int (F_grown p1 nd)), .val (.long ((2 : Int64) * ((p1).toInt64))), .second, .val (.long ((2 : Int64) * ((p1).toInt64))), .second] [(.long (2147483639 : Int64)), (.long (((F_grown p1 nd)).toInt64))])) _
        refine Own.go (fun t k => XS.lcmp X1.here hx rfl (hb hby at_184) rfl k) ?_
        show Own.Fin p e below (T1.setTop (mkF m 185 #[.val (.int p1), .val (.long q2), .second, .val (.int p3), .val (.int p4), .val (.long (2147483639 : Int64)), .second, .val (.long nd), .second, .val (.int u1), .val (.int u2), .val (.int (F_grown p1 nd)), .val (.long ((2 : Int64) * ((p1).toInt64))), .second, .val (.long ((2 : Int64) * ((p1).toInt64))), .second] [(.int (lcmpW (((F_grown p1 nd)).toInt64) (2147483639 : Int64)))])) _
        have hc185_15 : ¬ ((0 : Int32) < (lcmpW (((F_grown p1 nd)).toInt64) (2147483639 : Int64))) := by have h := own_chk p1 nd hnd; simp only [F_exp, F_cap, hc128_1, hc154_9, if_true, if_false] at h; exact h.2.2
        refine Own.go (fun t k => XS.ifNo X1.here hx rfl (hb hby at_185) rfl ((if0 _ _).trans (flt hc185_15).2.2.1) k) ?_
        show Own.Fin p e below (T1.setTop (mkF m 188 #[.val (.int p1), .val (.long q2), .second, .val (.int p3), .val (.int p4), .val (.long (2147483639 : Int64)), .second, .val (.long nd), .second, .val (.int u1), .val (.int u2), .val (.int (F_grown p1 nd)), .val (.long ((2 : Int64) * ((p1).toInt64))), .second, .val (.long ((2 : Int64) * ((p1).toInt64))), .second] [])) _
        refine Own.go (fun t k => XS.iconst X1.here hx rfl (hb hby at_188) k) ?_
        show Own.Fin p e below (T1.setTop (mkF m 189 #[.val (.int p1), .val (.long q2), .second, .val (.int p3), .val (.int p4), .val (.long (2147483639 : Int64)), .second, .val (.long nd), .second, .val (.int u1), .val (.int u2), .val (.int (F_grown p1 nd)), .val (.long ((2 : Int64) * ((p1).toInt64))), .second, .val (.long ((2 : Int64) * ((p1).toInt64))), .second] [(.int (1 : Int32))])) _
        refine Own.go (fun t k => XS.goto X1.here hx rfl (pc0 := 189) (pc' := 193) rfl (hb hby at_189) (by decide) (by decide) k) ?_
        show Own.Fin p e below (T1.setTop (mkF m 193 #[.val (.int p1), .val (.long q2), .second, .val (.int p3), .val (.int p4), .val (.long (2147483639 : Int64)), .second, .val (.long nd), .second, .val (.int u1), .val (.int u2), .val (.int (F_grown p1 nd)), .val (.long ((2 : Int64) * ((p1).toInt64))), .second, .val (.long ((2 : Int64) * ((p1).toInt64))), .second] [(.int (1 : Int32))])) _
        refine Own.retN X1 hx Bd.notSynchronized (t := .boolean) Bd.returns (by simp) (hb hby at_193) (by decide) (by decide) ?_
        exact ⟨rfl, N1⟩
  have tail2 : ∀ (nd cc : Int64) (u1 u2 : Int32) (hnd : 0 ≤ nd.toInt ∧ nd.toInt ≤ 2147483639), Own.Fin p e below (s₁.setTop (mkF m 107 #[.val (.int p1), .val (.long q2), .second, .val (.int p3), .val (.int p4), .val (.long (2147483639 : Int64)), .second, .val (.long nd), .second, .val (.int u1), .val (.int u2), .val (.long cc), .second, .unset, .unset, .unset] [])) (Own.Post s (Q0 Z p1 q2 p3 p4 h0 n0) room_1.cells room_1.slots) := by
    intro nd cc u1 u2 hnd
    show Own.Fin p e below (s₁.setTop (mkF m 107 #[.val (.int p1), .val (.long q2), .second, .val (.int p3), .val (.int p4), .val (.long (2147483639 : Int64)), .second, .val (.long nd), .second, .val (.int u1), .val (.int u2), .val (.long cc), .second, .unset, .unset, .unset] [])) _
    refine Own.go (fun t k => XS.iloadN X0.here hx rfl (hb hby at_107) rfl k) ?_
    show Own.Fin p e below (s₁.setTop (mkF m 108 #[.val (.int p1), .val (.long q2), .second, .val (.int p3), .val (.int p4), .val (.long (2147483639 : Int64)), .second, .val (.long nd), .second, .val (.int u1), .val (.int u2), .val (.long cc), .second, .unset, .unset, .unset] [(.int p1)])) _
    refine Own.go (fun t k => XS.lload X0.here hx rfl (hb hby at_108) rfl k) ?_
    show Own.Fin p e below (s₁.setTop (mkF m 110 #[.val (.int p1), .val (.long q2), .second, .val (.int p3), .val (.int p4), .val (.long (2147483639 : Int64)), .second, .val (.long nd), .second, .val (.int u1), .val (.int u2), .val (.long cc), .second, .unset, .unset, .unset] [(.long nd), (.int p1)])) _
    refine Own.cS X0 hx hZ hown (hw _ (List.mem_of_getElem? (i := 4) rfl)) (hw _ (List.mem_of_getElem? (i := 5) rfl)) (hw _ (List.mem_of_getElem? (i := 6) rfl)) (hw _ (List.mem_of_getElem? (i := 7) rfl)) (by decide) (rm1 l Z a0 hw [] p1 nd h0 n0 Z0 hnd.2) (by decide) (W := 0) (by decide) (argsL := [(.int p1), (.long nd)]) (rest := []) (by rw [hml]; rfl) (lenOf pd_1 rfl) rfl (Nat.le_of_eq rfl) (hb hby at_110) e0 (by decide) (by decide) ?_
    intro T17 L17 v17 X17 hQ17
    obtain ⟨rfl, N17q, e17⟩ := hQ17
    have N17 := Fr.app N0 N17q
    show Own.Fin p e below (T17.setTop (mkF m 113 #[.val (.int p1), .val (.long q2), .second, .val (.int p3), .val (.int p4), .val (.long (2147483639 : Int64)), .second, .val (.long nd), .second, .val (.int u1), .val (.int u2), .val (.long cc), .second, .unset, .unset, .unset] [(.int (F_grown p1 nd))])) _
    refine Own.go (fun t k => XS.istore X17.here hx rfl (hb hby at_113) rfl (l' := #[.val (.int p1), .val (.long q2), .second, .val (.int p3), .val (.int p4), .val (.long (2147483639 : Int64)), .second, .val (.long nd), .second, .val (.int u1), .val (.int u2), .val (.int (F_grown p1 nd)), .unset, .unset, .unset, .unset]) rfl k) ?_
    show Own.Fin p e below (T17.setTop (mkF m 115 #[.val (.int p1), .val (.long q2), .second, .val (.int p3), .val (.int p4), .val (.long (2147483639 : Int64)), .second, .val (.long nd), .second, .val (.int u1), .val (.int u2), .val (.int (F_grown p1 nd)), .unset, .unset, .unset, .unset] [])) _
    refine Own.go (fun t k => X17.ldc2Long hx hown (mvT hZ (hw _ (List.mem_of_getElem? (i := 3) rfl))) (g := (mkF m 115 #[.val (.int p1), .val (.long q2), .second, .val (.int p3), .val (.int p4), .val (.long (2147483639 : Int64)), .second, .val (.long nd), .second, .val (.int u1), .val (.int u2), .val (.int (F_grown p1 nd)), .unset, .unset, .unset, .unset] [])) rfl (hb hby at_115) _ k) ?_
    show Own.Fin p e below (T17.setTop (mkF m 118 #[.val (.int p1), .val (.long q2), .second, .val (.int p3), .val (.int p4), .val (.long (2147483639 : Int64)), .second, .val (.long nd), .second, .val (.int u1), .val (.int u2), .val (.int (F_grown p1 nd)), .unset, .unset, .unset, .unset] [(.long (2 : Int64))])) _
    refine Own.go (fun t k => XS.iloadN X17.here hx rfl (hb hby at_118) rfl k) ?_
    show Own.Fin p e below (T17.setTop (mkF m 119 #[.val (.int p1), .val (.long q2), .second, .val (.int p3), .val (.int p4), .val (.long (2147483639 : Int64)), .second, .val (.long nd), .second, .val (.int u1), .val (.int u2), .val (.int (F_grown p1 nd)), .unset, .unset, .unset, .unset] [(.int p1), (.long (2 : Int64))])) _
    refine Own.go (fun t k => XS.i2l X17.here hx rfl (hb hby at_119) rfl k) ?_
    show Own.Fin p e below (T17.setTop (mkF m 120 #[.val (.int p1), .val (.long q2), .second, .val (.int p3), .val (.int p4), .val (.long (2147483639 : Int64)), .second, .val (.long nd), .second, .val (.int u1), .val (.int u2), .val (.int (F_grown p1 nd)), .unset, .unset, .unset, .unset] [(.long ((p1).toInt64)), (.long (2 : Int64))])) _
    refine Own.go (fun t k => XS.lmul X17.here hx rfl (hb hby at_120) rfl k) ?_
    show Own.Fin p e below (T17.setTop (mkF m 121 #[.val (.int p1), .val (.long q2), .second, .val (.int p3), .val (.int p4), .val (.long (2147483639 : Int64)), .second, .val (.long nd), .second, .val (.int u1), .val (.int u2), .val (.int (F_grown p1 nd)), .unset, .unset, .unset, .unset] [(.long ((2 : Int64) * ((p1).toInt64)))])) _
    refine Own.go (fun t k => XS.lstore X17.here hx rfl (hb hby at_121) rfl (l' := #[.val (.int p1), .val (.long q2), .second, .val (.int p3), .val (.int p4), .val (.long (2147483639 : Int64)), .second, .val (.long nd), .second, .val (.int u1), .val (.int u2), .val (.int (F_grown p1 nd)), .val (.long ((2 : Int64) * ((p1).toInt64))), .second, .unset, .unset]) rfl k) ?_
    show Own.Fin p e below (T17.setTop (mkF m 123 #[.val (.int p1), .val (.long q2), .second, .val (.int p3), .val (.int p4), .val (.long (2147483639 : Int64)), .second, .val (.long nd), .second, .val (.int u1), .val (.int u2), .val (.int (F_grown p1 nd)), .val (.long ((2 : Int64) * ((p1).toInt64))), .second, .unset, .unset] [])) _
    refine Own.go (fun t k => XS.lload X17.here hx rfl (hb hby at_123) rfl k) ?_
    show Own.Fin p e below (T17.setTop (mkF m 125 #[.val (.int p1), .val (.long q2), .second, .val (.int p3), .val (.int p4), .val (.long (2147483639 : Int64)), .second, .val (.long nd), .second, .val (.int u1), .val (.int u2), .val (.int (F_grown p1 nd)), .val (.long ((2 : Int64) * ((p1).toInt64))), .second, .unset, .unset] [(.long ((2 : Int64) * ((p1).toInt64)))])) _
    refine Own.go (fun t k => XS.lload X17.here hx rfl (hb hby at_125) rfl k) ?_
    show Own.Fin p e below (T17.setTop (mkF m 127 #[.val (.int p1), .val (.long q2), .second, .val (.int p3), .val (.int p4), .val (.long (2147483639 : Int64)), .second, .val (.long nd), .second, .val (.int u1), .val (.int u2), .val (.int (F_grown p1 nd)), .val (.long ((2 : Int64) * ((p1).toInt64))), .second, .unset, .unset] [(.long nd), (.long ((2 : Int64) * ((p1).toInt64)))])) _
    refine Own.go (fun t k => XS.lcmp X17.here hx rfl (hb hby at_127) rfl k) ?_
    show Own.Fin p e below (T17.setTop (mkF m 128 #[.val (.int p1), .val (.long q2), .second, .val (.int p3), .val (.int p4), .val (.long (2147483639 : Int64)), .second, .val (.long nd), .second, .val (.int u1), .val (.int u2), .val (.int (F_grown p1 nd)), .val (.long ((2 : Int64) * ((p1).toInt64))), .second, .unset, .unset] [(.int (lcmpW ((2 : Int64) * ((p1).toInt64)) nd))])) _
    by_cases hc128_17 : (lcmpW ((2 : Int64) * ((p1).toInt64)) nd) < (0 : Int32)
    · skip
      refine Own.go (fun t k => XS.ifYes X17.here hx rfl (pc0 := 128) (pc' := 138) rfl (hb hby at_128) rfl ((if0 _ _).trans (tlt hc128_17).1) (by decide) (by decide) k) ?_
      show Own.Fin p e below (T17.setTop (mkF m 138 #[.val (.int p1), .val (.long q2), .second, .val (.int p3), .val (.int p4), .val (.long (2147483639 : Int64)), .second, .val (.long nd), .second, .val (.int u1), .val (.int u2), .val (.int (F_grown p1 nd)), .val (.long ((2 : Int64) * ((p1).toInt64))), .second, .unset, .unset] [])) _
      refine Own.go (fun t k => XS.lload X17.here hx rfl (hb hby at_138) rfl k) ?_
      show Own.Fin p e below (T17.setTop (mkF m 140 #[.val (.int p1), .val (.long q2), .second, .val (.int p3), .val (.int p4), .val (.long (2147483639 : Int64)), .second, .val (.long nd), .second, .val (.int u1), .val (.int u2), .val (.int (F_grown p1 nd)), .val (.long ((2 : Int64) * ((p1).toInt64))), .second, .unset, .unset] [(.long nd)])) _
      refine Own.go (fun t k => XS.lload X17.here hx rfl (hb hby at_140) rfl k) ?_
      show Own.Fin p e below (T17.setTop (mkF m 142 #[.val (.int p1), .val (.long q2), .second, .val (.int p3), .val (.int p4), .val (.long (2147483639 : Int64)), .second, .val (.long nd), .second, .val (.int u1), .val (.int u2), .val (.int (F_grown p1 nd)), .val (.long ((2 : Int64) * ((p1).toInt64))), .second, .unset, .unset] [(.long nd), (.long nd)])) _
      refine Own.go (fun t k => X17.ldc2Long hx hown (mvT hZ (hw _ (List.mem_of_getElem? (i := 15) rfl))) (g := (mkF m 142 #[.val (.int p1), .val (.long q2), .second, .val (.int p3), .val (.int p4), .val (.long (2147483639 : Int64)), .second, .val (.long nd), .second, .val (.int u1), .val (.int u2), .val (.int (F_grown p1 nd)), .val (.long ((2 : Int64) * ((p1).toInt64))), .second, .unset, .unset] [(.long nd), (.long nd)])) rfl (hb hby at_142) _ k) ?_
      show Own.Fin p e below (T17.setTop (mkF m 145 #[.val (.int p1), .val (.long q2), .second, .val (.int p3), .val (.int p4), .val (.long (2147483639 : Int64)), .second, .val (.long nd), .second, .val (.int u1), .val (.int u2), .val (.int (F_grown p1 nd)), .val (.long ((2 : Int64) * ((p1).toInt64))), .second, .unset, .unset] [(.long (8 : Int64)), (.long nd), (.long nd)])) _
      refine Own.go (fun t k => XS.ldiv X17.here hx rfl (hb hby at_145) rfl (by decide) k) ?_
      show Own.Fin p e below (T17.setTop (mkF m 146 #[.val (.int p1), .val (.long q2), .second, .val (.int p3), .val (.int p4), .val (.long (2147483639 : Int64)), .second, .val (.long nd), .second, .val (.int u1), .val (.int u2), .val (.int (F_grown p1 nd)), .val (.long ((2 : Int64) * ((p1).toInt64))), .second, .unset, .unset] [(.long (nd / (8 : Int64))), (.long nd)])) _
      refine Own.go (fun t k => XS.ladd X17.here hx rfl (hb hby at_146) rfl k) ?_
      show Own.Fin p e below (T17.setTop (mkF m 147 #[.val (.int p1), .val (.long q2), .second, .val (.int p3), .val (.int p4), .val (.long (2147483639 : Int64)), .second, .val (.long nd), .second, .val (.int u1), .val (.int u2), .val (.int (F_grown p1 nd)), .val (.long ((2 : Int64) * ((p1).toInt64))), .second, .unset, .unset] [(.long (nd + (nd / (8 : Int64))))])) _
      refine Own.go (fun t k => XS.lstore X17.here hx rfl (hb hby at_147) rfl (l' := #[.val (.int p1), .val (.long q2), .second, .val (.int p3), .val (.int p4), .val (.long (2147483639 : Int64)), .second, .val (.long nd), .second, .val (.int u1), .val (.int u2), .val (.int (F_grown p1 nd)), .val (.long ((2 : Int64) * ((p1).toInt64))), .second, .val (.long (nd + (nd / (8 : Int64)))), .second]) rfl k) ?_
      show Own.Fin p e below (T17.setTop (mkF m 149 #[.val (.int p1), .val (.long q2), .second, .val (.int p3), .val (.int p4), .val (.long (2147483639 : Int64)), .second, .val (.long nd), .second, .val (.int u1), .val (.int u2), .val (.int (F_grown p1 nd)), .val (.long ((2 : Int64) * ((p1).toInt64))), .second, .val (.long (nd + (nd / (8 : Int64)))), .second] [])) _
      refine Own.go (fun t k => XS.lload X17.here hx rfl (hb hby at_149) rfl k) ?_
      show Own.Fin p e below (T17.setTop (mkF m 151 #[.val (.int p1), .val (.long q2), .second, .val (.int p3), .val (.int p4), .val (.long (2147483639 : Int64)), .second, .val (.long nd), .second, .val (.int u1), .val (.int u2), .val (.int (F_grown p1 nd)), .val (.long ((2 : Int64) * ((p1).toInt64))), .second, .val (.long (nd + (nd / (8 : Int64)))), .second] [(.long (nd + (nd / (8 : Int64))))])) _
      refine Own.go (fun t k => XS.lload X17.here hx rfl (hb hby at_151) rfl k) ?_
      show Own.Fin p e below (T17.setTop (mkF m 153 #[.val (.int p1), .val (.long q2), .second, .val (.int p3), .val (.int p4), .val (.long (2147483639 : Int64)), .second, .val (.long nd), .second, .val (.int u1), .val (.int u2), .val (.int (F_grown p1 nd)), .val (.long ((2 : Int64) * ((p1).toInt64))), .second, .val (.long (nd + (nd / (8 : Int64)))), .second] [(.long (2147483639 : Int64)), (.long (nd + (nd / (8 : Int64))))])) _
      refine Own.go (fun t k => XS.lcmp X17.here hx rfl (hb hby at_153) rfl k) ?_
      show Own.Fin p e below (T17.setTop (mkF m 154 #[.val (.int p1), .val (.long q2), .second, .val (.int p3), .val (.int p4), .val (.long (2147483639 : Int64)), .second, .val (.long nd), .second, .val (.int u1), .val (.int u2), .val (.int (F_grown p1 nd)), .val (.long ((2 : Int64) * ((p1).toInt64))), .second, .val (.long (nd + (nd / (8 : Int64)))), .second] [(.int (lcmpW (nd + (nd / (8 : Int64))) (2147483639 : Int64)))])) _
      by_cases hc154_18 : (0 : Int32) < (lcmpW (nd + (nd / (8 : Int64))) (2147483639 : Int64))
      · skip
        refine Own.go (fun t k => XS.ifNo X17.here hx rfl (hb hby at_154) rfl ((if0 _ _).trans (tlt hc154_18).2.2.2) k) ?_
        show Own.Fin p e below (T17.setTop (mkF m 157 #[.val (.int p1), .val (.long q2), .second, .val (.int p3), .val (.int p4), .val (.long (2147483639 : Int64)), .second, .val (.long nd), .second, .val (.int u1), .val (.int u2), .val (.int (F_grown p1 nd)), .val (.long ((2 : Int64) * ((p1).toInt64))), .second, .val (.long (nd + (nd / (8 : Int64)))), .second] [])) _
        refine Own.go (fun t k => XS.lload X17.here hx rfl (hb hby at_157) rfl k) ?_
        show Own.Fin p e below (T17.setTop (mkF m 159 #[.val (.int p1), .val (.long q2), .second, .val (.int p3), .val (.int p4), .val (.long (2147483639 : Int64)), .second, .val (.long nd), .second, .val (.int u1), .val (.int u2), .val (.int (F_grown p1 nd)), .val (.long ((2 : Int64) * ((p1).toInt64))), .second, .val (.long (nd + (nd / (8 : Int64)))), .second] [(.long (2147483639 : Int64))])) _
        refine Own.go (fun t k => XS.lstore X17.here hx rfl (hb hby at_159) rfl (l' := #[.val (.int p1), .val (.long q2), .second, .val (.int p3), .val (.int p4), .val (.long (2147483639 : Int64)), .second, .val (.long nd), .second, .val (.int u1), .val (.int u2), .val (.int (F_grown p1 nd)), .val (.long ((2 : Int64) * ((p1).toInt64))), .second, .val (.long (2147483639 : Int64)), .second]) rfl k) ?_
        show Own.Fin p e below (T17.setTop (mkF m 161 #[.val (.int p1), .val (.long q2), .second, .val (.int p3), .val (.int p4), .val (.long (2147483639 : Int64)), .second, .val (.long nd), .second, .val (.int u1), .val (.int u2), .val (.int (F_grown p1 nd)), .val (.long ((2 : Int64) * ((p1).toInt64))), .second, .val (.long (2147483639 : Int64)), .second] [])) _
        refine Own.go (fun t k => XS.iload X17.here hx rfl (hb hby at_161) rfl k) ?_
        show Own.Fin p e below (T17.setTop (mkF m 163 #[.val (.int p1), .val (.long q2), .second, .val (.int p3), .val (.int p4), .val (.long (2147483639 : Int64)), .second, .val (.long nd), .second, .val (.int u1), .val (.int u2), .val (.int (F_grown p1 nd)), .val (.long ((2 : Int64) * ((p1).toInt64))), .second, .val (.long (2147483639 : Int64)), .second] [(.int (F_grown p1 nd))])) _
        refine Own.go (fun t k => XS.i2l X17.here hx rfl (hb hby at_163) rfl k) ?_
        show Own.Fin p e below (T17.setTop (mkF m 164 #[.val (.int p1), .val (.long q2), .second, .val (.int p3), .val (.int p4), .val (.long (2147483639 : Int64)), .second, .val (.long nd), .second, .val (.int u1), .val (.int u2), .val (.int (F_grown p1 nd)), .val (.long ((2 : Int64) * ((p1).toInt64))), .second, .val (.long (2147483639 : Int64)), .second] [(.long (((F_grown p1 nd)).toInt64))])) _
        refine Own.go (fun t k => XS.lload X17.here hx rfl (hb hby at_164) rfl k) ?_
        show Own.Fin p e below (T17.setTop (mkF m 166 #[.val (.int p1), .val (.long q2), .second, .val (.int p3), .val (.int p4), .val (.long (2147483639 : Int64)), .second, .val (.long nd), .second, .val (.int u1), .val (.int u2), .val (.int (F_grown p1 nd)), .val (.long ((2 : Int64) * ((p1).toInt64))), .second, .val (.long (2147483639 : Int64)), .second] [(.long (2147483639 : Int64)), (.long (((F_grown p1 nd)).toInt64))])) _
        refine Own.go (fun t k => XS.lcmp X17.here hx rfl (hb hby at_166) rfl k) ?_
        show Own.Fin p e below (T17.setTop (mkF m 167 #[.val (.int p1), .val (.long q2), .second, .val (.int p3), .val (.int p4), .val (.long (2147483639 : Int64)), .second, .val (.long nd), .second, .val (.int u1), .val (.int u2), .val (.int (F_grown p1 nd)), .val (.long ((2 : Int64) * ((p1).toInt64))), .second, .val (.long (2147483639 : Int64)), .second] [(.int (lcmpW (((F_grown p1 nd)).toInt64) (2147483639 : Int64)))])) _
        have hc167_19 : (lcmpW (((F_grown p1 nd)).toInt64) (2147483639 : Int64)) = (0 : Int32) := by have h := own_chk p1 nd hnd; simp only [F_exp, F_cap, hc128_17, hc154_18, if_true, if_false] at h; exact h.1
        refine Own.go (fun t k => XS.ifNo X17.here hx rfl (hb hby at_167) rfl ((if0 _ _).trans (teq hc167_19).2) k) ?_
        show Own.Fin p e below (T17.setTop (mkF m 170 #[.val (.int p1), .val (.long q2), .second, .val (.int p3), .val (.int p4), .val (.long (2147483639 : Int64)), .second, .val (.long nd), .second, .val (.int u1), .val (.int u2), .val (.int (F_grown p1 nd)), .val (.long ((2 : Int64) * ((p1).toInt64))), .second, .val (.long (2147483639 : Int64)), .second] [])) _
        refine Own.go (fun t k => XS.iload X17.here hx rfl (hb hby at_170) rfl k) ?_
        show Own.Fin p e below (T17.setTop (mkF m 172 #[.val (.int p1), .val (.long q2), .second, .val (.int p3), .val (.int p4), .val (.long (2147483639 : Int64)), .second, .val (.long nd), .second, .val (.int u1), .val (.int u2), .val (.int (F_grown p1 nd)), .val (.long ((2 : Int64) * ((p1).toInt64))), .second, .val (.long (2147483639 : Int64)), .second] [(.int (F_grown p1 nd))])) _
        refine Own.go (fun t k => XS.i2l X17.here hx rfl (hb hby at_172) rfl k) ?_
        show Own.Fin p e below (T17.setTop (mkF m 173 #[.val (.int p1), .val (.long q2), .second, .val (.int p3), .val (.int p4), .val (.long (2147483639 : Int64)), .second, .val (.long nd), .second, .val (.int u1), .val (.int u2), .val (.int (F_grown p1 nd)), .val (.long ((2 : Int64) * ((p1).toInt64))), .second, .val (.long (2147483639 : Int64)), .second] [(.long (((F_grown p1 nd)).toInt64))])) _
        refine Own.go (fun t k => XS.lload X17.here hx rfl (hb hby at_173) rfl k) ?_
        show Own.Fin p e below (T17.setTop (mkF m 175 #[.val (.int p1), .val (.long q2), .second, .val (.int p3), .val (.int p4), .val (.long (2147483639 : Int64)), .second, .val (.long nd), .second, .val (.int u1), .val (.int u2), .val (.int (F_grown p1 nd)), .val (.long ((2 : Int64) * ((p1).toInt64))), .second, .val (.long (2147483639 : Int64)), .second] [(.long nd), (.long (((F_grown p1 nd)).toInt64))])) _
        refine Own.go (fun t k => XS.lcmp X17.here hx rfl (hb hby at_175) rfl k) ?_
        show Own.Fin p e below (T17.setTop (mkF m 176 #[.val (.int p1), .val (.long q2), .second, .val (.int p3), .val (.int p4), .val (.long (2147483639 : Int64)), .second, .val (.long nd), .second, .val (.int u1), .val (.int u2), .val (.int (F_grown p1 nd)), .val (.long ((2 : Int64) * ((p1).toInt64))), .second, .val (.long (2147483639 : Int64)), .second] [(.int (lcmpW (((F_grown p1 nd)).toInt64) nd))])) _
        have hc176_20 : ¬ ((lcmpW (((F_grown p1 nd)).toInt64) nd) < (0 : Int32)) := by have h := own_chk p1 nd hnd; simp only [F_exp, F_cap, hc128_17, hc154_18, if_true, if_false] at h; exact h.2.1
        refine Own.go (fun t k => XS.ifNo X17.here hx rfl (hb hby at_176) rfl ((if0 _ _).trans (flt hc176_20).1) k) ?_
        show Own.Fin p e below (T17.setTop (mkF m 179 #[.val (.int p1), .val (.long q2), .second, .val (.int p3), .val (.int p4), .val (.long (2147483639 : Int64)), .second, .val (.long nd), .second, .val (.int u1), .val (.int u2), .val (.int (F_grown p1 nd)), .val (.long ((2 : Int64) * ((p1).toInt64))), .second, .val (.long (2147483639 : Int64)), .second] [])) _
        refine Own.go (fun t k => XS.iload X17.here hx rfl (hb hby at_179) rfl k) ?_
        show Own.Fin p e below (T17.setTop (mkF m 181 #[.val (.int p1), .val (.long q2), .second, .val (.int p3), .val (.int p4), .val (.long (2147483639 : Int64)), .second, .val (.long nd), .second, .val (.int u1), .val (.int u2), .val (.int (F_grown p1 nd)), .val (.long ((2 : Int64) * ((p1).toInt64))), .second, .val (.long (2147483639 : Int64)), .second] [(.int (F_grown p1 nd))])) _
        refine Own.go (fun t k => XS.i2l X17.here hx rfl (hb hby at_181) rfl k) ?_
        show Own.Fin p e below (T17.setTop (mkF m 182 #[.val (.int p1), .val (.long q2), .second, .val (.int p3), .val (.int p4), .val (.long (2147483639 : Int64)), .second, .val (.long nd), .second, .val (.int u1), .val (.int u2), .val (.int (F_grown p1 nd)), .val (.long ((2 : Int64) * ((p1).toInt64))), .second, .val (.long (2147483639 : Int64)), .second] [(.long (((F_grown p1 nd)).toInt64))])) _
        refine Own.go (fun t k => XS.lload X17.here hx rfl (hb hby at_182) rfl k) ?_
        show Own.Fin p e below (T17.setTop (mkF m 184 #[.val (.int p1), .val (.long q2), .second, .val (.int p3), .val (.int p4), .val (.long (2147483639 : Int64)), .second, .val (.long nd), .second, .val (.int u1), .val (.int u2), .val (.int (F_grown p1 nd)), .val (.long ((2 : Int64) * ((p1).toInt64))), .second, .val (.long (2147483639 : Int64)), .second] [(.long (2147483639 : Int64)), (.long (((F_grown p1 nd)).toInt64))])) _
        refine Own.go (fun t k => XS.lcmp X17.here hx rfl (hb hby at_184) rfl k) ?_
        show Own.Fin p e below (T17.setTop (mkF m 185 #[.val (.int p1), .val (.long q2), .second, .val (.int p3), .val (.int p4), .val (.long (2147483639 : Int64)), .second, .val (.long nd), .second, .val (.int u1), .val (.int u2), .val (.int (F_grown p1 nd)), .val (.long ((2 : Int64) * ((p1).toInt64))), .second, .val (.long (2147483639 : Int64)), .second] [(.int (lcmpW (((F_grown p1 nd)).toInt64) (2147483639 : Int64)))])) _
        have hc185_21 : ¬ ((0 : Int32) < (lcmpW (((F_grown p1 nd)).toInt64) (2147483639 : Int64))) := by have h := own_chk p1 nd hnd; simp only [F_exp, F_cap, hc128_17, hc154_18, if_true, if_false] at h; exact h.2.2
        refine Own.go (fun t k => XS.ifNo X17.here hx rfl (hb hby at_185) rfl ((if0 _ _).trans (flt hc185_21).2.2.1) k) ?_
        show Own.Fin p e below (T17.setTop (mkF m 188 #[.val (.int p1), .val (.long q2), .second, .val (.int p3), .val (.int p4), .val (.long (2147483639 : Int64)), .second, .val (.long nd), .second, .val (.int u1), .val (.int u2), .val (.int (F_grown p1 nd)), .val (.long ((2 : Int64) * ((p1).toInt64))), .second, .val (.long (2147483639 : Int64)), .second] [])) _
        refine Own.go (fun t k => XS.iconst X17.here hx rfl (hb hby at_188) k) ?_
        show Own.Fin p e below (T17.setTop (mkF m 189 #[.val (.int p1), .val (.long q2), .second, .val (.int p3), .val (.int p4), .val (.long (2147483639 : Int64)), .second, .val (.long nd), .second, .val (.int u1), .val (.int u2), .val (.int (F_grown p1 nd)), .val (.long ((2 : Int64) * ((p1).toInt64))), .second, .val (.long (2147483639 : Int64)), .second] [(.int (1 : Int32))])) _
        refine Own.go (fun t k => XS.goto X17.here hx rfl (pc0 := 189) (pc' := 193) rfl (hb hby at_189) (by decide) (by decide) k) ?_
        show Own.Fin p e below (T17.setTop (mkF m 193 #[.val (.int p1), .val (.long q2), .second, .val (.int p3), .val (.int p4), .val (.long (2147483639 : Int64)), .second, .val (.long nd), .second, .val (.int u1), .val (.int u2), .val (.int (F_grown p1 nd)), .val (.long ((2 : Int64) * ((p1).toInt64))), .second, .val (.long (2147483639 : Int64)), .second] [(.int (1 : Int32))])) _
        refine Own.retN X17 hx Bd.notSynchronized (t := .boolean) Bd.returns (by simp) (hb hby at_193) (by decide) (by decide) ?_
        exact ⟨rfl, N17⟩
      · skip
        refine Own.go (fun t k => XS.ifYes X17.here hx rfl (pc0 := 154) (pc' := 161) rfl (hb hby at_154) rfl ((if0 _ _).trans (flt hc154_18).2.2.2) (by decide) (by decide) k) ?_
        show Own.Fin p e below (T17.setTop (mkF m 161 #[.val (.int p1), .val (.long q2), .second, .val (.int p3), .val (.int p4), .val (.long (2147483639 : Int64)), .second, .val (.long nd), .second, .val (.int u1), .val (.int u2), .val (.int (F_grown p1 nd)), .val (.long ((2 : Int64) * ((p1).toInt64))), .second, .val (.long (nd + (nd / (8 : Int64)))), .second] [])) _
        refine Own.go (fun t k => XS.iload X17.here hx rfl (hb hby at_161) rfl k) ?_
        show Own.Fin p e below (T17.setTop (mkF m 163 #[.val (.int p1), .val (.long q2), .second, .val (.int p3), .val (.int p4), .val (.long (2147483639 : Int64)), .second, .val (.long nd), .second, .val (.int u1), .val (.int u2), .val (.int (F_grown p1 nd)), .val (.long ((2 : Int64) * ((p1).toInt64))), .second, .val (.long (nd + (nd / (8 : Int64)))), .second] [(.int (F_grown p1 nd))])) _
        refine Own.go (fun t k => XS.i2l X17.here hx rfl (hb hby at_163) rfl k) ?_
        show Own.Fin p e below (T17.setTop (mkF m 164 #[.val (.int p1), .val (.long q2), .second, .val (.int p3), .val (.int p4), .val (.long (2147483639 : Int64)), .second, .val (.long nd), .second, .val (.int u1), .val (.int u2), .val (.int (F_grown p1 nd)), .val (.long ((2 : Int64) * ((p1).toInt64))), .second, .val (.long (nd + (nd / (8 : Int64)))), .second] [(.long (((F_grown p1 nd)).toInt64))])) _
        refine Own.go (fun t k => XS.lload X17.here hx rfl (hb hby at_164) rfl k) ?_
        show Own.Fin p e below (T17.setTop (mkF m 166 #[.val (.int p1), .val (.long q2), .second, .val (.int p3), .val (.int p4), .val (.long (2147483639 : Int64)), .second, .val (.long nd), .second, .val (.int u1), .val (.int u2), .val (.int (F_grown p1 nd)), .val (.long ((2 : Int64) * ((p1).toInt64))), .second, .val (.long (nd + (nd / (8 : Int64)))), .second] [(.long (nd + (nd / (8 : Int64)))), (.long (((F_grown p1 nd)).toInt64))])) _
        refine Own.go (fun t k => XS.lcmp X17.here hx rfl (hb hby at_166) rfl k) ?_
        show Own.Fin p e below (T17.setTop (mkF m 167 #[.val (.int p1), .val (.long q2), .second, .val (.int p3), .val (.int p4), .val (.long (2147483639 : Int64)), .second, .val (.long nd), .second, .val (.int u1), .val (.int u2), .val (.int (F_grown p1 nd)), .val (.long ((2 : Int64) * ((p1).toInt64))), .second, .val (.long (nd + (nd / (8 : Int64)))), .second] [(.int (lcmpW (((F_grown p1 nd)).toInt64) (nd + (nd / (8 : Int64)))))])) _
        have hc167_22 : (lcmpW (((F_grown p1 nd)).toInt64) (nd + (nd / (8 : Int64)))) = (0 : Int32) := by have h := own_chk p1 nd hnd; simp only [F_exp, F_cap, hc128_17, hc154_18, if_true, if_false] at h; exact h.1
        refine Own.go (fun t k => XS.ifNo X17.here hx rfl (hb hby at_167) rfl ((if0 _ _).trans (teq hc167_22).2) k) ?_
        show Own.Fin p e below (T17.setTop (mkF m 170 #[.val (.int p1), .val (.long q2), .second, .val (.int p3), .val (.int p4), .val (.long (2147483639 : Int64)), .second, .val (.long nd), .second, .val (.int u1), .val (.int u2), .val (.int (F_grown p1 nd)), .val (.long ((2 : Int64) * ((p1).toInt64))), .second, .val (.long (nd + (nd / (8 : Int64)))), .second] [])) _
        refine Own.go (fun t k => XS.iload X17.here hx rfl (hb hby at_170) rfl k) ?_
        show Own.Fin p e below (T17.setTop (mkF m 172 #[.val (.int p1), .val (.long q2), .second, .val (.int p3), .val (.int p4), .val (.long (2147483639 : Int64)), .second, .val (.long nd), .second, .val (.int u1), .val (.int u2), .val (.int (F_grown p1 nd)), .val (.long ((2 : Int64) * ((p1).toInt64))), .second, .val (.long (nd + (nd / (8 : Int64)))), .second] [(.int (F_grown p1 nd))])) _
        refine Own.go (fun t k => XS.i2l X17.here hx rfl (hb hby at_172) rfl k) ?_
        show Own.Fin p e below (T17.setTop (mkF m 173 #[.val (.int p1), .val (.long q2), .second, .val (.int p3), .val (.int p4), .val (.long (2147483639 : Int64)), .second, .val (.long nd), .second, .val (.int u1), .val (.int u2), .val (.int (F_grown p1 nd)), .val (.long ((2 : Int64) * ((p1).toInt64))), .second, .val (.long (nd + (nd / (8 : Int64)))), .second] [(.long (((F_grown p1 nd)).toInt64))])) _
        refine Own.go (fun t k => XS.lload X17.here hx rfl (hb hby at_173) rfl k) ?_
        show Own.Fin p e below (T17.setTop (mkF m 175 #[.val (.int p1), .val (.long q2), .second, .val (.int p3), .val (.int p4), .val (.long (2147483639 : Int64)), .second, .val (.long nd), .second, .val (.int u1), .val (.int u2), .val (.int (F_grown p1 nd)), .val (.long ((2 : Int64) * ((p1).toInt64))), .second, .val (.long (nd + (nd / (8 : Int64)))), .second] [(.long nd), (.long (((F_grown p1 nd)).toInt64))])) _
        refine Own.go (fun t k => XS.lcmp X17.here hx rfl (hb hby at_175) rfl k) ?_
        show Own.Fin p e below (T17.setTop (mkF m 176 #[.val (.int p1), .val (.long q2), .second, .val (.int p3), .val (.int p4), .val (.long (2147483639 : Int64)), .second, .val (.long nd), .second, .val (.int u1), .val (.int u2), .val (.int (F_grown p1 nd)), .val (.long ((2 : Int64) * ((p1).toInt64))), .second, .val (.long (nd + (nd / (8 : Int64)))), .second] [(.int (lcmpW (((F_grown p1 nd)).toInt64) nd))])) _
        have hc176_23 : ¬ ((lcmpW (((F_grown p1 nd)).toInt64) nd) < (0 : Int32)) := by have h := own_chk p1 nd hnd; simp only [F_exp, F_cap, hc128_17, hc154_18, if_true, if_false] at h; exact h.2.1
        refine Own.go (fun t k => XS.ifNo X17.here hx rfl (hb hby at_176) rfl ((if0 _ _).trans (flt hc176_23).1) k) ?_
        show Own.Fin p e below (T17.setTop (mkF m 179 #[.val (.int p1), .val (.long q2), .second, .val (.int p3), .val (.int p4), .val (.long (2147483639 : Int64)), .second, .val (.long nd), .second, .val (.int u1), .val (.int u2), .val (.int (F_grown p1 nd)), .val (.long ((2 : Int64) * ((p1).toInt64))), .second, .val (.long (nd + (nd / (8 : Int64)))), .second] [])) _
        refine Own.go (fun t k => XS.iload X17.here hx rfl (hb hby at_179) rfl k) ?_
        show Own.Fin p e below (T17.setTop (mkF m 181 #[.val (.int p1), .val (.long q2), .second, .val (.int p3), .val (.int p4), .val (.long (2147483639 : Int64)), .second, .val (.long nd), .second, .val (.int u1), .val (.int u2), .val (.int (F_grown p1 nd)), .val (.long ((2 : Int64) * ((p1).toInt64))), .second, .val (.long (nd + (nd / (8 : Int64)))), .second] [(.int (F_grown p1 nd))])) _
        refine Own.go (fun t k => XS.i2l X17.here hx rfl (hb hby at_181) rfl k) ?_
        show Own.Fin p e below (T17.setTop (mkF m 182 #[.val (.int p1), .val (.long q2), .second, .val (.int p3), .val (.int p4), .val (.long (2147483639 : Int64)), .second, .val (.long nd), .second, .val (.int u1), .val (.int u2), .val (.int (F_grown p1 nd)), .val (.long ((2 : Int64) * ((p1).toInt64))), .second, .val (.long (nd + (nd / (8 : Int64)))), .second] [(.long (((F_grown p1 nd)).toInt64))])) _
        refine Own.go (fun t k => XS.lload X17.here hx rfl (hb hby at_182) rfl k) ?_
        show Own.Fin p e below (T17.setTop (mkF m 184 #[.val (.int p1), .val (.long q2), .second, .val (.int p3), .val (.int p4), .val (.long (2147483639 : Int64)), .second, .val (.long nd), .second, .val (.int u1), .val (.int u2), .val (.int (F_grown p1 nd)), .val (.long ((2 : Int64) * ((p1).toInt64))), .second, .val (.long (nd + (nd / (8 : Int64)))), .second] [(.long (2147483639 : Int64)), (.long (((F_grown p1 nd)).toInt64))])) _
        refine Own.go (fun t k => XS.lcmp X17.here hx rfl (hb hby at_184) rfl k) ?_
        show Own.Fin p e below (T17.setTop (mkF m 185 #[.val (.int p1), .val (.long q2), .second, .val (.int p3), .val (.int p4), .val (.long (2147483639 : Int64)), .second, .val (.long nd), .second, .val (.int u1), .val (.int u2), .val (.int (F_grown p1 nd)), .val (.long ((2 : Int64) * ((p1).toInt64))), .second, .val (.long (nd + (nd / (8 : Int64)))), .second] [(.int (lcmpW (((F_grown p1 nd)).toInt64) (2147483639 : Int64)))])) _
        have hc185_24 : ¬ ((0 : Int32) < (lcmpW (((F_grown p1 nd)).toInt64) (2147483639 : Int64))) := by have h := own_chk p1 nd hnd; simp only [F_exp, F_cap, hc128_17, hc154_18, if_true, if_false] at h; exact h.2.2
        refine Own.go (fun t k => XS.ifNo X17.here hx rfl (hb hby at_185) rfl ((if0 _ _).trans (flt hc185_24).2.2.1) k) ?_
        show Own.Fin p e below (T17.setTop (mkF m 188 #[.val (.int p1), .val (.long q2), .second, .val (.int p3), .val (.int p4), .val (.long (2147483639 : Int64)), .second, .val (.long nd), .second, .val (.int u1), .val (.int u2), .val (.int (F_grown p1 nd)), .val (.long ((2 : Int64) * ((p1).toInt64))), .second, .val (.long (nd + (nd / (8 : Int64)))), .second] [])) _
        refine Own.go (fun t k => XS.iconst X17.here hx rfl (hb hby at_188) k) ?_
        show Own.Fin p e below (T17.setTop (mkF m 189 #[.val (.int p1), .val (.long q2), .second, .val (.int p3), .val (.int p4), .val (.long (2147483639 : Int64)), .second, .val (.long nd), .second, .val (.int u1), .val (.int u2), .val (.int (F_grown p1 nd)), .val (.long ((2 : Int64) * ((p1).toInt64))), .second, .val (.long (nd + (nd / (8 : Int64)))), .second] [(.int (1 : Int32))])) _
        refine Own.go (fun t k => XS.goto X17.here hx rfl (pc0 := 189) (pc' := 193) rfl (hb hby at_189) (by decide) (by decide) k) ?_
        show Own.Fin p e below (T17.setTop (mkF m 193 #[.val (.int p1), .val (.long q2), .second, .val (.int p3), .val (.int p4), .val (.long (2147483639 : Int64)), .second, .val (.long nd), .second, .val (.int u1), .val (.int u2), .val (.int (F_grown p1 nd)), .val (.long ((2 : Int64) * ((p1).toInt64))), .second, .val (.long (nd + (nd / (8 : Int64)))), .second] [(.int (1 : Int32))])) _
        refine Own.retN X17 hx Bd.notSynchronized (t := .boolean) Bd.returns (by simp) (hb hby at_193) (by decide) (by decide) ?_
        exact ⟨rfl, N17⟩
    · skip
      refine Own.go (fun t k => XS.ifNo X17.here hx rfl (hb hby at_128) rfl ((if0 _ _).trans (flt hc128_17).1) k) ?_
      show Own.Fin p e below (T17.setTop (mkF m 131 #[.val (.int p1), .val (.long q2), .second, .val (.int p3), .val (.int p4), .val (.long (2147483639 : Int64)), .second, .val (.long nd), .second, .val (.int u1), .val (.int u2), .val (.int (F_grown p1 nd)), .val (.long ((2 : Int64) * ((p1).toInt64))), .second, .unset, .unset] [])) _
      refine Own.go (fun t k => XS.lload X17.here hx rfl (hb hby at_131) rfl k) ?_
      show Own.Fin p e below (T17.setTop (mkF m 133 #[.val (.int p1), .val (.long q2), .second, .val (.int p3), .val (.int p4), .val (.long (2147483639 : Int64)), .second, .val (.long nd), .second, .val (.int u1), .val (.int u2), .val (.int (F_grown p1 nd)), .val (.long ((2 : Int64) * ((p1).toInt64))), .second, .unset, .unset] [(.long ((2 : Int64) * ((p1).toInt64)))])) _
      refine Own.go (fun t k => XS.lstore X17.here hx rfl (hb hby at_133) rfl (l' := #[.val (.int p1), .val (.long q2), .second, .val (.int p3), .val (.int p4), .val (.long (2147483639 : Int64)), .second, .val (.long nd), .second, .val (.int u1), .val (.int u2), .val (.int (F_grown p1 nd)), .val (.long ((2 : Int64) * ((p1).toInt64))), .second, .val (.long ((2 : Int64) * ((p1).toInt64))), .second]) rfl k) ?_
      show Own.Fin p e below (T17.setTop (mkF m 135 #[.val (.int p1), .val (.long q2), .second, .val (.int p3), .val (.int p4), .val (.long (2147483639 : Int64)), .second, .val (.long nd), .second, .val (.int u1), .val (.int u2), .val (.int (F_grown p1 nd)), .val (.long ((2 : Int64) * ((p1).toInt64))), .second, .val (.long ((2 : Int64) * ((p1).toInt64))), .second] [])) _
      refine Own.go (fun t k => XS.goto X17.here hx rfl (pc0 := 135) (pc' := 149) rfl (hb hby at_135) (by decide) (by decide) k) ?_
      show Own.Fin p e below (T17.setTop (mkF m 149 #[.val (.int p1), .val (.long q2), .second, .val (.int p3), .val (.int p4), .val (.long (2147483639 : Int64)), .second, .val (.long nd), .second, .val (.int u1), .val (.int u2), .val (.int (F_grown p1 nd)), .val (.long ((2 : Int64) * ((p1).toInt64))), .second, .val (.long ((2 : Int64) * ((p1).toInt64))), .second] [])) _
      refine Own.go (fun t k => XS.lload X17.here hx rfl (hb hby at_149) rfl k) ?_
      show Own.Fin p e below (T17.setTop (mkF m 151 #[.val (.int p1), .val (.long q2), .second, .val (.int p3), .val (.int p4), .val (.long (2147483639 : Int64)), .second, .val (.long nd), .second, .val (.int u1), .val (.int u2), .val (.int (F_grown p1 nd)), .val (.long ((2 : Int64) * ((p1).toInt64))), .second, .val (.long ((2 : Int64) * ((p1).toInt64))), .second] [(.long ((2 : Int64) * ((p1).toInt64)))])) _
      refine Own.go (fun t k => XS.lload X17.here hx rfl (hb hby at_151) rfl k) ?_
      show Own.Fin p e below (T17.setTop (mkF m 153 #[.val (.int p1), .val (.long q2), .second, .val (.int p3), .val (.int p4), .val (.long (2147483639 : Int64)), .second, .val (.long nd), .second, .val (.int u1), .val (.int u2), .val (.int (F_grown p1 nd)), .val (.long ((2 : Int64) * ((p1).toInt64))), .second, .val (.long ((2 : Int64) * ((p1).toInt64))), .second] [(.long (2147483639 : Int64)), (.long ((2 : Int64) * ((p1).toInt64)))])) _
      refine Own.go (fun t k => XS.lcmp X17.here hx rfl (hb hby at_153) rfl k) ?_
      show Own.Fin p e below (T17.setTop (mkF m 154 #[.val (.int p1), .val (.long q2), .second, .val (.int p3), .val (.int p4), .val (.long (2147483639 : Int64)), .second, .val (.long nd), .second, .val (.int u1), .val (.int u2), .val (.int (F_grown p1 nd)), .val (.long ((2 : Int64) * ((p1).toInt64))), .second, .val (.long ((2 : Int64) * ((p1).toInt64))), .second] [(.int (lcmpW ((2 : Int64) * ((p1).toInt64)) (2147483639 : Int64)))])) _
      by_cases hc154_25 : (0 : Int32) < (lcmpW ((2 : Int64) * ((p1).toInt64)) (2147483639 : Int64))
      · skip
        refine Own.go (fun t k => XS.ifNo X17.here hx rfl (hb hby at_154) rfl ((if0 _ _).trans (tlt hc154_25).2.2.2) k) ?_
        show Own.Fin p e below (T17.setTop (mkF m 157 #[.val (.int p1), .val (.long q2), .second, .val (.int p3), .val (.int p4), .val (.long (2147483639 : Int64)), .second, .val (.long nd), .second, .val (.int u1), .val (.int u2), .val (.int (F_grown p1 nd)), .val (.long ((2 : Int64) * ((p1).toInt64))), .second, .val (.long ((2 : Int64) * ((p1).toInt64))), .second] [])) _
        refine Own.go (fun t k => XS.lload X17.here hx rfl (hb hby at_157) rfl k) ?_
        show Own.Fin p e below (T17.setTop (mkF m 159 #[.val (.int p1), .val (.long q2), .second, .val (.int p3), .val (.int p4), .val (.long (2147483639 : Int64)), .second, .val (.long nd), .second, .val (.int u1), .val (.int u2), .val (.int (F_grown p1 nd)), .val (.long ((2 : Int64) * ((p1).toInt64))), .second, .val (.long ((2 : Int64) * ((p1).toInt64))), .second] [(.long (2147483639 : Int64))])) _
        refine Own.go (fun t k => XS.lstore X17.here hx rfl (hb hby at_159) rfl (l' := #[.val (.int p1), .val (.long q2), .second, .val (.int p3), .val (.int p4), .val (.long (2147483639 : Int64)), .second, .val (.long nd), .second, .val (.int u1), .val (.int u2), .val (.int (F_grown p1 nd)), .val (.long ((2 : Int64) * ((p1).toInt64))), .second, .val (.long (2147483639 : Int64)), .second]) rfl k) ?_
        show Own.Fin p e below (T17.setTop (mkF m 161 #[.val (.int p1), .val (.long q2), .second, .val (.int p3), .val (.int p4), .val (.long (2147483639 : Int64)), .second, .val (.long nd), .second, .val (.int u1), .val (.int u2), .val (.int (F_grown p1 nd)), .val (.long ((2 : Int64) * ((p1).toInt64))), .second, .val (.long (2147483639 : Int64)), .second] [])) _
        refine Own.go (fun t k => XS.iload X17.here hx rfl (hb hby at_161) rfl k) ?_
        show Own.Fin p e below (T17.setTop (mkF m 163 #[.val (.int p1), .val (.long q2), .second, .val (.int p3), .val (.int p4), .val (.long (2147483639 : Int64)), .second, .val (.long nd), .second, .val (.int u1), .val (.int u2), .val (.int (F_grown p1 nd)), .val (.long ((2 : Int64) * ((p1).toInt64))), .second, .val (.long (2147483639 : Int64)), .second] [(.int (F_grown p1 nd))])) _
        refine Own.go (fun t k => XS.i2l X17.here hx rfl (hb hby at_163) rfl k) ?_
        show Own.Fin p e below (T17.setTop (mkF m 164 #[.val (.int p1), .val (.long q2), .second, .val (.int p3), .val (.int p4), .val (.long (2147483639 : Int64)), .second, .val (.long nd), .second, .val (.int u1), .val (.int u2), .val (.int (F_grown p1 nd)), .val (.long ((2 : Int64) * ((p1).toInt64))), .second, .val (.long (2147483639 : Int64)), .second] [(.long (((F_grown p1 nd)).toInt64))])) _
        refine Own.go (fun t k => XS.lload X17.here hx rfl (hb hby at_164) rfl k) ?_
        show Own.Fin p e below (T17.setTop (mkF m 166 #[.val (.int p1), .val (.long q2), .second, .val (.int p3), .val (.int p4), .val (.long (2147483639 : Int64)), .second, .val (.long nd), .second, .val (.int u1), .val (.int u2), .val (.int (F_grown p1 nd)), .val (.long ((2 : Int64) * ((p1).toInt64))), .second, .val (.long (2147483639 : Int64)), .second] [(.long (2147483639 : Int64)), (.long (((F_grown p1 nd)).toInt64))])) _
        refine Own.go (fun t k => XS.lcmp X17.here hx rfl (hb hby at_166) rfl k) ?_
        show Own.Fin p e below (T17.setTop (mkF m 167 #[.val (.int p1), .val (.long q2), .second, .val (.int p3), .val (.int p4), .val (.long (2147483639 : Int64)), .second, .val (.long nd), .second, .val (.int u1), .val (.int u2), .val (.int (F_grown p1 nd)), .val (.long ((2 : Int64) * ((p1).toInt64))), .second, .val (.long (2147483639 : Int64)), .second] [(.int (lcmpW (((F_grown p1 nd)).toInt64) (2147483639 : Int64)))])) _
        have hc167_26 : (lcmpW (((F_grown p1 nd)).toInt64) (2147483639 : Int64)) = (0 : Int32) := by have h := own_chk p1 nd hnd; simp only [F_exp, F_cap, hc128_17, hc154_25, if_true, if_false] at h; exact h.1
        refine Own.go (fun t k => XS.ifNo X17.here hx rfl (hb hby at_167) rfl ((if0 _ _).trans (teq hc167_26).2) k) ?_
        show Own.Fin p e below (T17.setTop (mkF m 170 #[.val (.int p1), .val (.long q2), .second, .val (.int p3), .val (.int p4), .val (.long (2147483639 : Int64)), .second, .val (.long nd), .second, .val (.int u1), .val (.int u2), .val (.int (F_grown p1 nd)), .val (.long ((2 : Int64) * ((p1).toInt64))), .second, .val (.long (2147483639 : Int64)), .second] [])) _
        refine Own.go (fun t k => XS.iload X17.here hx rfl (hb hby at_170) rfl k) ?_
        show Own.Fin p e below (T17.setTop (mkF m 172 #[.val (.int p1), .val (.long q2), .second, .val (.int p3), .val (.int p4), .val (.long (2147483639 : Int64)), .second, .val (.long nd), .second, .val (.int u1), .val (.int u2), .val (.int (F_grown p1 nd)), .val (.long ((2 : Int64) * ((p1).toInt64))), .second, .val (.long (2147483639 : Int64)), .second] [(.int (F_grown p1 nd))])) _
        refine Own.go (fun t k => XS.i2l X17.here hx rfl (hb hby at_172) rfl k) ?_
        show Own.Fin p e below (T17.setTop (mkF m 173 #[.val (.int p1), .val (.long q2), .second, .val (.int p3), .val (.int p4), .val (.long (2147483639 : Int64)), .second, .val (.long nd), .second, .val (.int u1), .val (.int u2), .val (.int (F_grown p1 nd)), .val (.long ((2 : Int64) * ((p1).toInt64))), .second, .val (.long (2147483639 : Int64)), .second] [(.long (((F_grown p1 nd)).toInt64))])) _
        refine Own.go (fun t k => XS.lload X17.here hx rfl (hb hby at_173) rfl k) ?_
        show Own.Fin p e below (T17.setTop (mkF m 175 #[.val (.int p1), .val (.long q2), .second, .val (.int p3), .val (.int p4), .val (.long (2147483639 : Int64)), .second, .val (.long nd), .second, .val (.int u1), .val (.int u2), .val (.int (F_grown p1 nd)), .val (.long ((2 : Int64) * ((p1).toInt64))), .second, .val (.long (2147483639 : Int64)), .second] [(.long nd), (.long (((F_grown p1 nd)).toInt64))])) _
        refine Own.go (fun t k => XS.lcmp X17.here hx rfl (hb hby at_175) rfl k) ?_
        show Own.Fin p e below (T17.setTop (mkF m 176 #[.val (.int p1), .val (.long q2), .second, .val (.int p3), .val (.int p4), .val (.long (2147483639 : Int64)), .second, .val (.long nd), .second, .val (.int u1), .val (.int u2), .val (.int (F_grown p1 nd)), .val (.long ((2 : Int64) * ((p1).toInt64))), .second, .val (.long (2147483639 : Int64)), .second] [(.int (lcmpW (((F_grown p1 nd)).toInt64) nd))])) _
        have hc176_27 : ¬ ((lcmpW (((F_grown p1 nd)).toInt64) nd) < (0 : Int32)) := by have h := own_chk p1 nd hnd; simp only [F_exp, F_cap, hc128_17, hc154_25, if_true, if_false] at h; exact h.2.1
        refine Own.go (fun t k => XS.ifNo X17.here hx rfl (hb hby at_176) rfl ((if0 _ _).trans (flt hc176_27).1) k) ?_
        show Own.Fin p e below (T17.setTop (mkF m 179 #[.val (.int p1), .val (.long q2), .second, .val (.int p3), .val (.int p4), .val (.long (2147483639 : Int64)), .second, .val (.long nd), .second, .val (.int u1), .val (.int u2), .val (.int (F_grown p1 nd)), .val (.long ((2 : Int64) * ((p1).toInt64))), .second, .val (.long (2147483639 : Int64)), .second] [])) _
        refine Own.go (fun t k => XS.iload X17.here hx rfl (hb hby at_179) rfl k) ?_
        show Own.Fin p e below (T17.setTop (mkF m 181 #[.val (.int p1), .val (.long q2), .second, .val (.int p3), .val (.int p4), .val (.long (2147483639 : Int64)), .second, .val (.long nd), .second, .val (.int u1), .val (.int u2), .val (.int (F_grown p1 nd)), .val (.long ((2 : Int64) * ((p1).toInt64))), .second, .val (.long (2147483639 : Int64)), .second] [(.int (F_grown p1 nd))])) _
        refine Own.go (fun t k => XS.i2l X17.here hx rfl (hb hby at_181) rfl k) ?_
        show Own.Fin p e below (T17.setTop (mkF m 182 #[.val (.int p1), .val (.long q2), .second, .val (.int p3), .val (.int p4), .val (.long (2147483639 : Int64)), .second, .val (.long nd), .second, .val (.int u1), .val (.int u2), .val (.int (F_grown p1 nd)), .val (.long ((2 : Int64) * ((p1).toInt64))), .second, .val (.long (2147483639 : Int64)), .second] [(.long (((F_grown p1 nd)).toInt64))])) _
        refine Own.go (fun t k => XS.lload X17.here hx rfl (hb hby at_182) rfl k) ?_
        show Own.Fin p e below (T17.setTop (mkF m 184 #[.val (.int p1), .val (.long q2), .second, .val (.int p3), .val (.int p4), .val (.long (2147483639 : Int64)), .second, .val (.long nd), .second, .val (.int u1), .val (.int u2), .val (.int (F_grown p1 nd)), .val (.long ((2 : Int64) * ((p1).toInt64))), .second, .val (.long (2147483639 : Int64)), .second] [(.long (2147483639 : Int64)), (.long (((F_grown p1 nd)).toInt64))])) _
        refine Own.go (fun t k => XS.lcmp X17.here hx rfl (hb hby at_184) rfl k) ?_
        show Own.Fin p e below (T17.setTop (mkF m 185 #[.val (.int p1), .val (.long q2), .second, .val (.int p3), .val (.int p4), .val (.long (2147483639 : Int64)), .second, .val (.long nd), .second, .val (.int u1), .val (.int u2), .val (.int (F_grown p1 nd)), .val (.long ((2 : Int64) * ((p1).toInt64))), .second, .val (.long (2147483639 : Int64)), .second] [(.int (lcmpW (((F_grown p1 nd)).toInt64) (2147483639 : Int64)))])) _
        have hc185_28 : ¬ ((0 : Int32) < (lcmpW (((F_grown p1 nd)).toInt64) (2147483639 : Int64))) := by have h := own_chk p1 nd hnd; simp only [F_exp, F_cap, hc128_17, hc154_25, if_true, if_false] at h; exact h.2.2
        refine Own.go (fun t k => XS.ifNo X17.here hx rfl (hb hby at_185) rfl ((if0 _ _).trans (flt hc185_28).2.2.1) k) ?_
        show Own.Fin p e below (T17.setTop (mkF m 188 #[.val (.int p1), .val (.long q2), .second, .val (.int p3), .val (.int p4), .val (.long (2147483639 : Int64)), .second, .val (.long nd), .second, .val (.int u1), .val (.int u2), .val (.int (F_grown p1 nd)), .val (.long ((2 : Int64) * ((p1).toInt64))), .second, .val (.long (2147483639 : Int64)), .second] [])) _
        refine Own.go (fun t k => XS.iconst X17.here hx rfl (hb hby at_188) k) ?_
        show Own.Fin p e below (T17.setTop (mkF m 189 #[.val (.int p1), .val (.long q2), .second, .val (.int p3), .val (.int p4), .val (.long (2147483639 : Int64)), .second, .val (.long nd), .second, .val (.int u1), .val (.int u2), .val (.int (F_grown p1 nd)), .val (.long ((2 : Int64) * ((p1).toInt64))), .second, .val (.long (2147483639 : Int64)), .second] [(.int (1 : Int32))])) _
        refine Own.go (fun t k => XS.goto X17.here hx rfl (pc0 := 189) (pc' := 193) rfl (hb hby at_189) (by decide) (by decide) k) ?_
        show Own.Fin p e below (T17.setTop (mkF m 193 #[.val (.int p1), .val (.long q2), .second, .val (.int p3), .val (.int p4), .val (.long (2147483639 : Int64)), .second, .val (.long nd), .second, .val (.int u1), .val (.int u2), .val (.int (F_grown p1 nd)), .val (.long ((2 : Int64) * ((p1).toInt64))), .second, .val (.long (2147483639 : Int64)), .second] [(.int (1 : Int32))])) _
        refine Own.retN X17 hx Bd.notSynchronized (t := .boolean) Bd.returns (by simp) (hb hby at_193) (by decide) (by decide) ?_
        exact ⟨rfl, N17⟩
      · skip
        refine Own.go (fun t k => XS.ifYes X17.here hx rfl (pc0 := 154) (pc' := 161) rfl (hb hby at_154) rfl ((if0 _ _).trans (flt hc154_25).2.2.2) (by decide) (by decide) k) ?_
        show Own.Fin p e below (T17.setTop (mkF m 161 #[.val (.int p1), .val (.long q2), .second, .val (.int p3), .val (.int p4), .val (.long (2147483639 : Int64)), .second, .val (.long nd), .second, .val (.int u1), .val (.int u2), .val (.int (F_grown p1 nd)), .val (.long ((2 : Int64) * ((p1).toInt64))), .second, .val (.long ((2 : Int64) * ((p1).toInt64))), .second] [])) _
        refine Own.go (fun t k => XS.iload X17.here hx rfl (hb hby at_161) rfl k) ?_
        show Own.Fin p e below (T17.setTop (mkF m 163 #[.val (.int p1), .val (.long q2), .second, .val (.int p3), .val (.int p4), .val (.long (2147483639 : Int64)), .second, .val (.long nd), .second, .val (.int u1), .val (.int u2), .val (.int (F_grown p1 nd)), .val (.long ((2 : Int64) * ((p1).toInt64))), .second, .val (.long ((2 : Int64) * ((p1).toInt64))), .second] [(.int (F_grown p1 nd))])) _
        refine Own.go (fun t k => XS.i2l X17.here hx rfl (hb hby at_163) rfl k) ?_
        show Own.Fin p e below (T17.setTop (mkF m 164 #[.val (.int p1), .val (.long q2), .second, .val (.int p3), .val (.int p4), .val (.long (2147483639 : Int64)), .second, .val (.long nd), .second, .val (.int u1), .val (.int u2), .val (.int (F_grown p1 nd)), .val (.long ((2 : Int64) * ((p1).toInt64))), .second, .val (.long ((2 : Int64) * ((p1).toInt64))), .second] [(.long (((F_grown p1 nd)).toInt64))])) _
        refine Own.go (fun t k => XS.lload X17.here hx rfl (hb hby at_164) rfl k) ?_
        show Own.Fin p e below (T17.setTop (mkF m 166 #[.val (.int p1), .val (.long q2), .second, .val (.int p3), .val (.int p4), .val (.long (2147483639 : Int64)), .second, .val (.long nd), .second, .val (.int u1), .val (.int u2), .val (.int (F_grown p1 nd)), .val (.long ((2 : Int64) * ((p1).toInt64))), .second, .val (.long ((2 : Int64) * ((p1).toInt64))), .second] [(.long ((2 : Int64) * ((p1).toInt64))), (.long (((F_grown p1 nd)).toInt64))])) _
        refine Own.go (fun t k => XS.lcmp X17.here hx rfl (hb hby at_166) rfl k) ?_
        show Own.Fin p e below (T17.setTop (mkF m 167 #[.val (.int p1), .val (.long q2), .second, .val (.int p3), .val (.int p4), .val (.long (2147483639 : Int64)), .second, .val (.long nd), .second, .val (.int u1), .val (.int u2), .val (.int (F_grown p1 nd)), .val (.long ((2 : Int64) * ((p1).toInt64))), .second, .val (.long ((2 : Int64) * ((p1).toInt64))), .second] [(.int (lcmpW (((F_grown p1 nd)).toInt64) ((2 : Int64) * ((p1).toInt64))))])) _
        have hc167_29 : (lcmpW (((F_grown p1 nd)).toInt64) ((2 : Int64) * ((p1).toInt64))) = (0 : Int32) := by have h := own_chk p1 nd hnd; simp only [F_exp, F_cap, hc128_17, hc154_25, if_true, if_false] at h; exact h.1
        refine Own.go (fun t k => XS.ifNo X17.here hx rfl (hb hby at_167) rfl ((if0 _ _).trans (teq hc167_29).2) k) ?_
        show Own.Fin p e below (T17.setTop (mkF m 170 #[.val (.int p1), .val (.long q2), .second, .val (.int p3), .val (.int p4), .val (.long (2147483639 : Int64)), .second, .val (.long nd), .second, .val (.int u1), .val (.int u2), .val (.int (F_grown p1 nd)), .val (.long ((2 : Int64) * ((p1).toInt64))), .second, .val (.long ((2 : Int64) * ((p1).toInt64))), .second] [])) _
        refine Own.go (fun t k => XS.iload X17.here hx rfl (hb hby at_170) rfl k) ?_
        show Own.Fin p e below (T17.setTop (mkF m 172 #[.val (.int p1), .val (.long q2), .second, .val (.int p3), .val (.int p4), .val (.long (2147483639 : Int64)), .second, .val (.long nd), .second, .val (.int u1), .val (.int u2), .val (.int (F_grown p1 nd)), .val (.long ((2 : Int64) * ((p1).toInt64))), .second, .val (.long ((2 : Int64) * ((p1).toInt64))), .second] [(.int (F_grown p1 nd))])) _
        refine Own.go (fun t k => XS.i2l X17.here hx rfl (hb hby at_172) rfl k) ?_
        show Own.Fin p e below (T17.setTop (mkF m 173 #[.val (.int p1), .val (.long q2), .second, .val (.int p3), .val (.int p4), .val (.long (2147483639 : Int64)), .second, .val (.long nd), .second, .val (.int u1), .val (.int u2), .val (.int (F_grown p1 nd)), .val (.long ((2 : Int64) * ((p1).toInt64))), .second, .val (.long ((2 : Int64) * ((p1).toInt64))), .second] [(.long (((F_grown p1 nd)).toInt64))])) _
        refine Own.go (fun t k => XS.lload X17.here hx rfl (hb hby at_173) rfl k) ?_
        show Own.Fin p e below (T17.setTop (mkF m 175 #[.val (.int p1), .val (.long q2), .second, .val (.int p3), .val (.int p4), .val (.long (2147483639 : Int64)), .second, .val (.long nd), .second, .val (.int u1), .val (.int u2), .val (.int (F_grown p1 nd)), .val (.long ((2 : Int64) * ((p1).toInt64))), .second, .val (.long ((2 : Int64) * ((p1).toInt64))), .second] [(.long nd), (.long (((F_grown p1 nd)).toInt64))])) _
        refine Own.go (fun t k => XS.lcmp X17.here hx rfl (hb hby at_175) rfl k) ?_
        show Own.Fin p e below (T17.setTop (mkF m 176 #[.val (.int p1), .val (.long q2), .second, .val (.int p3), .val (.int p4), .val (.long (2147483639 : Int64)), .second, .val (.long nd), .second, .val (.int u1), .val (.int u2), .val (.int (F_grown p1 nd)), .val (.long ((2 : Int64) * ((p1).toInt64))), .second, .val (.long ((2 : Int64) * ((p1).toInt64))), .second] [(.int (lcmpW (((F_grown p1 nd)).toInt64) nd))])) _
        have hc176_30 : ¬ ((lcmpW (((F_grown p1 nd)).toInt64) nd) < (0 : Int32)) := by have h := own_chk p1 nd hnd; simp only [F_exp, F_cap, hc128_17, hc154_25, if_true, if_false] at h; exact h.2.1
        refine Own.go (fun t k => XS.ifNo X17.here hx rfl (hb hby at_176) rfl ((if0 _ _).trans (flt hc176_30).1) k) ?_
        show Own.Fin p e below (T17.setTop (mkF m 179 #[.val (.int p1), .val (.long q2), .second, .val (.int p3), .val (.int p4), .val (.long (2147483639 : Int64)), .second, .val (.long nd), .second, .val (.int u1), .val (.int u2), .val (.int (F_grown p1 nd)), .val (.long ((2 : Int64) * ((p1).toInt64))), .second, .val (.long ((2 : Int64) * ((p1).toInt64))), .second] [])) _
        refine Own.go (fun t k => XS.iload X17.here hx rfl (hb hby at_179) rfl k) ?_
        show Own.Fin p e below (T17.setTop (mkF m 181 #[.val (.int p1), .val (.long q2), .second, .val (.int p3), .val (.int p4), .val (.long (2147483639 : Int64)), .second, .val (.long nd), .second, .val (.int u1), .val (.int u2), .val (.int (F_grown p1 nd)), .val (.long ((2 : Int64) * ((p1).toInt64))), .second, .val (.long ((2 : Int64) * ((p1).toInt64))), .second] [(.int (F_grown p1 nd))])) _
        refine Own.go (fun t k => XS.i2l X17.here hx rfl (hb hby at_181) rfl k) ?_
        show Own.Fin p e below (T17.setTop (mkF m 182 #[.val (.int p1), .val (.long q2), .second, .val (.int p3), .val (.int p4), .val (.long (2147483639 : Int64)), .second, .val (.long nd), .second, .val (.int u1), .val (.int u2), .val (.int (F_grown p1 nd)), .val (.long ((2 : Int64) * ((p1).toInt64))), .second, .val (.long ((2 : Int64) * ((p1).toInt64))), .second] [(.long (((F_grown p1 nd)).toInt64))])) _
        refine Own.go (fun t k => XS.lload X17.here hx rfl (hb hby at_182) rfl k) ?_
        show Own.Fin p e below (T17.setTop (mkF m 184 #[.val (.int p1), .val (.long q2), .second, .val (.int p3), .val (.int p4), .val (.long (2147483639 : Int64)), .second, .val (.long nd), .second, .val (.int u1), .val (.int u2), .val (.int (F_grown p1 nd)), .val (.long ((2 : Int64) * ((p1).toInt64))), .second, .val (.long ((2 : Int64) * ((p1).toInt64))), .second] [(.long (2147483639 : Int64)), (.long (((F_grown p1 nd)).toInt64))])) _
        refine Own.go (fun t k => XS.lcmp X17.here hx rfl (hb hby at_184) rfl k) ?_
        show Own.Fin p e below (T17.setTop (mkF m 185 #[.val (.int p1), .val (.long q2), .second, .val (.int p3), .val (.int p4), .val (.long (2147483639 : Int64)), .second, .val (.long nd), .second, .val (.int u1), .val (.int u2), .val (.int (F_grown p1 nd)), .val (.long ((2 : Int64) * ((p1).toInt64))), .second, .val (.long ((2 : Int64) * ((p1).toInt64))), .second] [(.int (lcmpW (((F_grown p1 nd)).toInt64) (2147483639 : Int64)))])) _
        have hc185_31 : ¬ ((0 : Int32) < (lcmpW (((F_grown p1 nd)).toInt64) (2147483639 : Int64))) := by have h := own_chk p1 nd hnd; simp only [F_exp, F_cap, hc128_17, hc154_25, if_true, if_false] at h; exact h.2.2
        refine Own.go (fun t k => XS.ifNo X17.here hx rfl (hb hby at_185) rfl ((if0 _ _).trans (flt hc185_31).2.2.1) k) ?_
        show Own.Fin p e below (T17.setTop (mkF m 188 #[.val (.int p1), .val (.long q2), .second, .val (.int p3), .val (.int p4), .val (.long (2147483639 : Int64)), .second, .val (.long nd), .second, .val (.int u1), .val (.int u2), .val (.int (F_grown p1 nd)), .val (.long ((2 : Int64) * ((p1).toInt64))), .second, .val (.long ((2 : Int64) * ((p1).toInt64))), .second] [])) _
        refine Own.go (fun t k => XS.iconst X17.here hx rfl (hb hby at_188) k) ?_
        show Own.Fin p e below (T17.setTop (mkF m 189 #[.val (.int p1), .val (.long q2), .second, .val (.int p3), .val (.int p4), .val (.long (2147483639 : Int64)), .second, .val (.long nd), .second, .val (.int u1), .val (.int u2), .val (.int (F_grown p1 nd)), .val (.long ((2 : Int64) * ((p1).toInt64))), .second, .val (.long ((2 : Int64) * ((p1).toInt64))), .second] [(.int (1 : Int32))])) _
        refine Own.go (fun t k => XS.goto X17.here hx rfl (pc0 := 189) (pc' := 193) rfl (hb hby at_189) (by decide) (by decide) k) ?_
        show Own.Fin p e below (T17.setTop (mkF m 193 #[.val (.int p1), .val (.long q2), .second, .val (.int p3), .val (.int p4), .val (.long (2147483639 : Int64)), .second, .val (.long nd), .second, .val (.int u1), .val (.int u2), .val (.int (F_grown p1 nd)), .val (.long ((2 : Int64) * ((p1).toInt64))), .second, .val (.long ((2 : Int64) * ((p1).toInt64))), .second] [(.int (1 : Int32))])) _
        refine Own.retN X17 hx Bd.notSynchronized (t := .boolean) Bd.returns (by simp) (hb hby at_193) (by decide) (by decide) ?_
        exact ⟨rfl, N17⟩
  show Own.Fin p e below (s₁.setTop (mkF m 0 #[.val (.int p1), .val (.long q2), .second, .val (.int p3), .val (.int p4), .unset, .unset, .unset, .unset, .unset, .unset, .unset, .unset, .unset, .unset, .unset] [])) _
  refine Own.go (fun t k => X0.ldc2Long hx hown (mvT hZ (hw _ (List.mem_of_getElem? (i := 0) rfl))) (g := (mkF m 0 #[.val (.int p1), .val (.long q2), .second, .val (.int p3), .val (.int p4), .unset, .unset, .unset, .unset, .unset, .unset, .unset, .unset, .unset, .unset, .unset] [])) rfl (hb hby at_0) _ k) ?_
  show Own.Fin p e below (s₁.setTop (mkF m 3 #[.val (.int p1), .val (.long q2), .second, .val (.int p3), .val (.int p4), .unset, .unset, .unset, .unset, .unset, .unset, .unset, .unset, .unset, .unset, .unset] [(.long (2147483639 : Int64))])) _
  refine Own.go (fun t k => XS.lstore X0.here hx rfl (hb hby at_3) rfl (l' := #[.val (.int p1), .val (.long q2), .second, .val (.int p3), .val (.int p4), .val (.long (2147483639 : Int64)), .second, .unset, .unset, .unset, .unset, .unset, .unset, .unset, .unset, .unset]) rfl k) ?_
  show Own.Fin p e below (s₁.setTop (mkF m 5 #[.val (.int p1), .val (.long q2), .second, .val (.int p3), .val (.int p4), .val (.long (2147483639 : Int64)), .second, .unset, .unset, .unset, .unset, .unset, .unset, .unset, .unset, .unset] [])) _
  refine Own.go (fun t k => XS.lloadN X0.here hx rfl (hb hby at_5) rfl k) ?_
  show Own.Fin p e below (s₁.setTop (mkF m 6 #[.val (.int p1), .val (.long q2), .second, .val (.int p3), .val (.int p4), .val (.long (2147483639 : Int64)), .second, .unset, .unset, .unset, .unset, .unset, .unset, .unset, .unset, .unset] [(.long q2)])) _
  refine Own.go (fun t k => X0.ldc2Long hx hown (mvT hZ (hw _ (List.mem_of_getElem? (i := 1) rfl))) (g := (mkF m 6 #[.val (.int p1), .val (.long q2), .second, .val (.int p3), .val (.int p4), .val (.long (2147483639 : Int64)), .second, .unset, .unset, .unset, .unset, .unset, .unset, .unset, .unset, .unset] [(.long q2)])) rfl (hb hby at_6) _ k) ?_
  show Own.Fin p e below (s₁.setTop (mkF m 9 #[.val (.int p1), .val (.long q2), .second, .val (.int p3), .val (.int p4), .val (.long (2147483639 : Int64)), .second, .unset, .unset, .unset, .unset, .unset, .unset, .unset, .unset, .unset] [(.long (9223372036854775807 : Int64)), (.long q2)])) _
  refine Own.go (fun t k => XS.land X0.here hx rfl (hb hby at_9) rfl k) ?_
  show Own.Fin p e below (s₁.setTop (mkF m 10 #[.val (.int p1), .val (.long q2), .second, .val (.int p3), .val (.int p4), .val (.long (2147483639 : Int64)), .second, .unset, .unset, .unset, .unset, .unset, .unset, .unset, .unset, .unset] [(.long (q2 &&& (9223372036854775807 : Int64)))])) _
  refine Own.go (fun t k => XS.lload X0.here hx rfl (hb hby at_10) rfl k) ?_
  show Own.Fin p e below (s₁.setTop (mkF m 12 #[.val (.int p1), .val (.long q2), .second, .val (.int p3), .val (.int p4), .val (.long (2147483639 : Int64)), .second, .unset, .unset, .unset, .unset, .unset, .unset, .unset, .unset, .unset] [(.long (2147483639 : Int64)), (.long (q2 &&& (9223372036854775807 : Int64)))])) _
  refine Own.go (fun t k => XS.lconst X0.here hx rfl (hb hby at_12) k) ?_
  show Own.Fin p e below (s₁.setTop (mkF m 13 #[.val (.int p1), .val (.long q2), .second, .val (.int p3), .val (.int p4), .val (.long (2147483639 : Int64)), .second, .unset, .unset, .unset, .unset, .unset, .unset, .unset, .unset, .unset] [(.long (1 : Int64)), (.long (2147483639 : Int64)), (.long (q2 &&& (9223372036854775807 : Int64)))])) _
  refine Own.go (fun t k => XS.ladd X0.here hx rfl (hb hby at_13) rfl k) ?_
  show Own.Fin p e below (s₁.setTop (mkF m 14 #[.val (.int p1), .val (.long q2), .second, .val (.int p3), .val (.int p4), .val (.long (2147483639 : Int64)), .second, .unset, .unset, .unset, .unset, .unset, .unset, .unset, .unset, .unset] [(.long ((2147483639 : Int64) + (1 : Int64))), (.long (q2 &&& (9223372036854775807 : Int64)))])) _
  refine Own.go (fun t k => XS.lrem X0.here hx rfl (hb hby at_14) rfl (by decide) k) ?_
  show Own.Fin p e below (s₁.setTop (mkF m 15 #[.val (.int p1), .val (.long q2), .second, .val (.int p3), .val (.int p4), .val (.long (2147483639 : Int64)), .second, .unset, .unset, .unset, .unset, .unset, .unset, .unset, .unset, .unset] [(.long ((q2 &&& (9223372036854775807 : Int64)) - ((q2 &&& (9223372036854775807 : Int64)) / ((2147483639 : Int64) + (1 : Int64))) * ((2147483639 : Int64) + (1 : Int64))))])) _
  refine Own.go (fun t k => XS.lstore X0.here hx rfl (hb hby at_15) rfl (l' := #[.val (.int p1), .val (.long q2), .second, .val (.int p3), .val (.int p4), .val (.long (2147483639 : Int64)), .second, .val (.long ((q2 &&& (9223372036854775807 : Int64)) - ((q2 &&& (9223372036854775807 : Int64)) / ((2147483639 : Int64) + (1 : Int64))) * ((2147483639 : Int64) + (1 : Int64)))), .second, .unset, .unset, .unset, .unset, .unset, .unset, .unset]) rfl k) ?_
  show Own.Fin p e below (s₁.setTop (mkF m 17 #[.val (.int p1), .val (.long q2), .second, .val (.int p3), .val (.int p4), .val (.long (2147483639 : Int64)), .second, .val (.long ((q2 &&& (9223372036854775807 : Int64)) - ((q2 &&& (9223372036854775807 : Int64)) / ((2147483639 : Int64) + (1 : Int64))) * ((2147483639 : Int64) + (1 : Int64)))), .second, .unset, .unset, .unset, .unset, .unset, .unset, .unset] [])) _
  refine Own.go (fun t k => XS.iloadN X0.here hx rfl (hb hby at_17) rfl k) ?_
  show Own.Fin p e below (s₁.setTop (mkF m 18 #[.val (.int p1), .val (.long q2), .second, .val (.int p3), .val (.int p4), .val (.long (2147483639 : Int64)), .second, .val (.long ((q2 &&& (9223372036854775807 : Int64)) - ((q2 &&& (9223372036854775807 : Int64)) / ((2147483639 : Int64) + (1 : Int64))) * ((2147483639 : Int64) + (1 : Int64)))), .second, .unset, .unset, .unset, .unset, .unset, .unset, .unset] [(.int p3)])) _
  refine Own.go (fun t k => XS.iconst X0.here hx rfl (hb hby at_18) k) ?_
  show Own.Fin p e below (s₁.setTop (mkF m 19 #[.val (.int p1), .val (.long q2), .second, .val (.int p3), .val (.int p4), .val (.long (2147483639 : Int64)), .second, .val (.long ((q2 &&& (9223372036854775807 : Int64)) - ((q2 &&& (9223372036854775807 : Int64)) / ((2147483639 : Int64) + (1 : Int64))) * ((2147483639 : Int64) + (1 : Int64)))), .second, .unset, .unset, .unset, .unset, .unset, .unset, .unset] [(.int (3 : Int32)), (.int p3)])) _
  refine Own.go (fun t k => XS.iand X0.here hx rfl (hb hby at_19) rfl k) ?_
  show Own.Fin p e below (s₁.setTop (mkF m 20 #[.val (.int p1), .val (.long q2), .second, .val (.int p3), .val (.int p4), .val (.long (2147483639 : Int64)), .second, .val (.long ((q2 &&& (9223372036854775807 : Int64)) - ((q2 &&& (9223372036854775807 : Int64)) / ((2147483639 : Int64) + (1 : Int64))) * ((2147483639 : Int64) + (1 : Int64)))), .second, .unset, .unset, .unset, .unset, .unset, .unset, .unset] [(.int (p3 &&& (3 : Int32)))])) _
  refine Own.go (fun t k => XS.istore X0.here hx rfl (hb hby at_20) rfl (l' := #[.val (.int p1), .val (.long q2), .second, .val (.int p3), .val (.int p4), .val (.long (2147483639 : Int64)), .second, .val (.long ((q2 &&& (9223372036854775807 : Int64)) - ((q2 &&& (9223372036854775807 : Int64)) / ((2147483639 : Int64) + (1 : Int64))) * ((2147483639 : Int64) + (1 : Int64)))), .second, .val (.int (p3 &&& (3 : Int32))), .unset, .unset, .unset, .unset, .unset, .unset]) rfl k) ?_
  show Own.Fin p e below (s₁.setTop (mkF m 22 #[.val (.int p1), .val (.long q2), .second, .val (.int p3), .val (.int p4), .val (.long (2147483639 : Int64)), .second, .val (.long ((q2 &&& (9223372036854775807 : Int64)) - ((q2 &&& (9223372036854775807 : Int64)) / ((2147483639 : Int64) + (1 : Int64))) * ((2147483639 : Int64) + (1 : Int64)))), .second, .val (.int (p3 &&& (3 : Int32))), .unset, .unset, .unset, .unset, .unset, .unset] [])) _
  refine Own.go (fun t k => XS.iload X0.here hx rfl (hb hby at_22) rfl k) ?_
  show Own.Fin p e below (s₁.setTop (mkF m 24 #[.val (.int p1), .val (.long q2), .second, .val (.int p3), .val (.int p4), .val (.long (2147483639 : Int64)), .second, .val (.long ((q2 &&& (9223372036854775807 : Int64)) - ((q2 &&& (9223372036854775807 : Int64)) / ((2147483639 : Int64) + (1 : Int64))) * ((2147483639 : Int64) + (1 : Int64)))), .second, .val (.int (p3 &&& (3 : Int32))), .unset, .unset, .unset, .unset, .unset, .unset] [(.int p4)])) _
  refine Own.go (fun t k => X0.ldcInt hx hown (mvT hZ (hw _ (List.mem_of_getElem? (i := 2) rfl))) (g := (mkF m 24 #[.val (.int p1), .val (.long q2), .second, .val (.int p3), .val (.int p4), .val (.long (2147483639 : Int64)), .second, .val (.long ((q2 &&& (9223372036854775807 : Int64)) - ((q2 &&& (9223372036854775807 : Int64)) / ((2147483639 : Int64) + (1 : Int64))) * ((2147483639 : Int64) + (1 : Int64)))), .second, .val (.int (p3 &&& (3 : Int32))), .unset, .unset, .unset, .unset, .unset, .unset] [(.int p4)])) rfl (hb hby at_24) _ k) ?_
  show Own.Fin p e below (s₁.setTop (mkF m 26 #[.val (.int p1), .val (.long q2), .second, .val (.int p3), .val (.int p4), .val (.long (2147483639 : Int64)), .second, .val (.long ((q2 &&& (9223372036854775807 : Int64)) - ((q2 &&& (9223372036854775807 : Int64)) / ((2147483639 : Int64) + (1 : Int64))) * ((2147483639 : Int64) + (1 : Int64)))), .second, .val (.int (p3 &&& (3 : Int32))), .unset, .unset, .unset, .unset, .unset, .unset] [(.int (2147483647 : Int32)), (.int p4)])) _
  refine Own.go (fun t k => XS.iand X0.here hx rfl (hb hby at_26) rfl k) ?_
  show Own.Fin p e below (s₁.setTop (mkF m 27 #[.val (.int p1), .val (.long q2), .second, .val (.int p3), .val (.int p4), .val (.long (2147483639 : Int64)), .second, .val (.long ((q2 &&& (9223372036854775807 : Int64)) - ((q2 &&& (9223372036854775807 : Int64)) / ((2147483639 : Int64) + (1 : Int64))) * ((2147483639 : Int64) + (1 : Int64)))), .second, .val (.int (p3 &&& (3 : Int32))), .unset, .unset, .unset, .unset, .unset, .unset] [(.int (p4 &&& (2147483647 : Int32)))])) _
  refine Own.go (fun t k => XS.bipush X0.here hx rfl (hb hby at_27) k) ?_
  show Own.Fin p e below (s₁.setTop (mkF m 29 #[.val (.int p1), .val (.long q2), .second, .val (.int p3), .val (.int p4), .val (.long (2147483639 : Int64)), .second, .val (.long ((q2 &&& (9223372036854775807 : Int64)) - ((q2 &&& (9223372036854775807 : Int64)) / ((2147483639 : Int64) + (1 : Int64))) * ((2147483639 : Int64) + (1 : Int64)))), .second, .val (.int (p3 &&& (3 : Int32))), .unset, .unset, .unset, .unset, .unset, .unset] [(.int (16 : Int32)), (.int (p4 &&& (2147483647 : Int32)))])) _
  refine Own.go (fun t k => XS.irem X0.here hx rfl (hb hby at_29) rfl (by decide) k) ?_
  show Own.Fin p e below (s₁.setTop (mkF m 30 #[.val (.int p1), .val (.long q2), .second, .val (.int p3), .val (.int p4), .val (.long (2147483639 : Int64)), .second, .val (.long ((q2 &&& (9223372036854775807 : Int64)) - ((q2 &&& (9223372036854775807 : Int64)) / ((2147483639 : Int64) + (1 : Int64))) * ((2147483639 : Int64) + (1 : Int64)))), .second, .val (.int (p3 &&& (3 : Int32))), .unset, .unset, .unset, .unset, .unset, .unset] [(.int ((p4 &&& (2147483647 : Int32)) - ((p4 &&& (2147483647 : Int32)) / (16 : Int32)) * (16 : Int32)))])) _
  refine Own.go (fun t k => XS.istore X0.here hx rfl (hb hby at_30) rfl (l' := #[.val (.int p1), .val (.long q2), .second, .val (.int p3), .val (.int p4), .val (.long (2147483639 : Int64)), .second, .val (.long ((q2 &&& (9223372036854775807 : Int64)) - ((q2 &&& (9223372036854775807 : Int64)) / ((2147483639 : Int64) + (1 : Int64))) * ((2147483639 : Int64) + (1 : Int64)))), .second, .val (.int (p3 &&& (3 : Int32))), .val (.int ((p4 &&& (2147483647 : Int32)) - ((p4 &&& (2147483647 : Int32)) / (16 : Int32)) * (16 : Int32))), .unset, .unset, .unset, .unset, .unset]) rfl k) ?_
  show Own.Fin p e below (s₁.setTop (mkF m 32 #[.val (.int p1), .val (.long q2), .second, .val (.int p3), .val (.int p4), .val (.long (2147483639 : Int64)), .second, .val (.long ((q2 &&& (9223372036854775807 : Int64)) - ((q2 &&& (9223372036854775807 : Int64)) / ((2147483639 : Int64) + (1 : Int64))) * ((2147483639 : Int64) + (1 : Int64)))), .second, .val (.int (p3 &&& (3 : Int32))), .val (.int ((p4 &&& (2147483647 : Int32)) - ((p4 &&& (2147483647 : Int32)) / (16 : Int32)) * (16 : Int32))), .unset, .unset, .unset, .unset, .unset] [])) _
  refine Own.go (fun t k => XS.iload X0.here hx rfl (hb hby at_32) rfl k) ?_
  show Own.Fin p e below (s₁.setTop (mkF m 34 #[.val (.int p1), .val (.long q2), .second, .val (.int p3), .val (.int p4), .val (.long (2147483639 : Int64)), .second, .val (.long ((q2 &&& (9223372036854775807 : Int64)) - ((q2 &&& (9223372036854775807 : Int64)) / ((2147483639 : Int64) + (1 : Int64))) * ((2147483639 : Int64) + (1 : Int64)))), .second, .val (.int (p3 &&& (3 : Int32))), .val (.int ((p4 &&& (2147483647 : Int32)) - ((p4 &&& (2147483647 : Int32)) / (16 : Int32)) * (16 : Int32))), .unset, .unset, .unset, .unset, .unset] [(.int (p3 &&& (3 : Int32)))])) _
  refine Own.go (fun t k => XS.iconst X0.here hx rfl (hb hby at_34) k) ?_
  show Own.Fin p e below (s₁.setTop (mkF m 35 #[.val (.int p1), .val (.long q2), .second, .val (.int p3), .val (.int p4), .val (.long (2147483639 : Int64)), .second, .val (.long ((q2 &&& (9223372036854775807 : Int64)) - ((q2 &&& (9223372036854775807 : Int64)) / ((2147483639 : Int64) + (1 : Int64))) * ((2147483639 : Int64) + (1 : Int64)))), .second, .val (.int (p3 &&& (3 : Int32))), .val (.int ((p4 &&& (2147483647 : Int32)) - ((p4 &&& (2147483647 : Int32)) / (16 : Int32)) * (16 : Int32))), .unset, .unset, .unset, .unset, .unset] [(.int (1 : Int32)), (.int (p3 &&& (3 : Int32)))])) _
  by_cases hc35_32 : (p3 &&& (3 : Int32)) = (1 : Int32)
  · skip
    refine Own.go (fun t k => XS.icmpNo X0.here hx rfl (hb hby at_35) rfl (teq hc35_32).2 k) ?_
    show Own.Fin p e below (s₁.setTop (mkF m 38 #[.val (.int p1), .val (.long q2), .second, .val (.int p3), .val (.int p4), .val (.long (2147483639 : Int64)), .second, .val (.long ((q2 &&& (9223372036854775807 : Int64)) - ((q2 &&& (9223372036854775807 : Int64)) / ((2147483639 : Int64) + (1 : Int64))) * ((2147483639 : Int64) + (1 : Int64)))), .second, .val (.int (p3 &&& (3 : Int32))), .val (.int ((p4 &&& (2147483647 : Int32)) - ((p4 &&& (2147483647 : Int32)) / (16 : Int32)) * (16 : Int32))), .unset, .unset, .unset, .unset, .unset] [])) _
    refine Own.go (fun t k => X0.ldc2Long hx hown (mvT hZ (hw _ (List.mem_of_getElem? (i := 3) rfl))) (g := (mkF m 38 #[.val (.int p1), .val (.long q2), .second, .val (.int p3), .val (.int p4), .val (.long (2147483639 : Int64)), .second, .val (.long ((q2 &&& (9223372036854775807 : Int64)) - ((q2 &&& (9223372036854775807 : Int64)) / ((2147483639 : Int64) + (1 : Int64))) * ((2147483639 : Int64) + (1 : Int64)))), .second, .val (.int (p3 &&& (3 : Int32))), .val (.int ((p4 &&& (2147483647 : Int32)) - ((p4 &&& (2147483647 : Int32)) / (16 : Int32)) * (16 : Int32))), .unset, .unset, .unset, .unset, .unset] [])) rfl (hb hby at_38) _ k) ?_
    show Own.Fin p e below (s₁.setTop (mkF m 41 #[.val (.int p1), .val (.long q2), .second, .val (.int p3), .val (.int p4), .val (.long (2147483639 : Int64)), .second, .val (.long ((q2 &&& (9223372036854775807 : Int64)) - ((q2 &&& (9223372036854775807 : Int64)) / ((2147483639 : Int64) + (1 : Int64))) * ((2147483639 : Int64) + (1 : Int64)))), .second, .val (.int (p3 &&& (3 : Int32))), .val (.int ((p4 &&& (2147483647 : Int32)) - ((p4 &&& (2147483647 : Int32)) / (16 : Int32)) * (16 : Int32))), .unset, .unset, .unset, .unset, .unset] [(.long (2 : Int64))])) _
    refine Own.go (fun t k => XS.iloadN X0.here hx rfl (hb hby at_41) rfl k) ?_
    show Own.Fin p e below (s₁.setTop (mkF m 42 #[.val (.int p1), .val (.long q2), .second, .val (.int p3), .val (.int p4), .val (.long (2147483639 : Int64)), .second, .val (.long ((q2 &&& (9223372036854775807 : Int64)) - ((q2 &&& (9223372036854775807 : Int64)) / ((2147483639 : Int64) + (1 : Int64))) * ((2147483639 : Int64) + (1 : Int64)))), .second, .val (.int (p3 &&& (3 : Int32))), .val (.int ((p4 &&& (2147483647 : Int32)) - ((p4 &&& (2147483647 : Int32)) / (16 : Int32)) * (16 : Int32))), .unset, .unset, .unset, .unset, .unset] [(.int p1), (.long (2 : Int64))])) _
    refine Own.go (fun t k => XS.i2l X0.here hx rfl (hb hby at_42) rfl k) ?_
    show Own.Fin p e below (s₁.setTop (mkF m 43 #[.val (.int p1), .val (.long q2), .second, .val (.int p3), .val (.int p4), .val (.long (2147483639 : Int64)), .second, .val (.long ((q2 &&& (9223372036854775807 : Int64)) - ((q2 &&& (9223372036854775807 : Int64)) / ((2147483639 : Int64) + (1 : Int64))) * ((2147483639 : Int64) + (1 : Int64)))), .second, .val (.int (p3 &&& (3 : Int32))), .val (.int ((p4 &&& (2147483647 : Int32)) - ((p4 &&& (2147483647 : Int32)) / (16 : Int32)) * (16 : Int32))), .unset, .unset, .unset, .unset, .unset] [(.long ((p1).toInt64)), (.long (2 : Int64))])) _
    refine Own.go (fun t k => XS.lmul X0.here hx rfl (hb hby at_43) rfl k) ?_
    show Own.Fin p e below (s₁.setTop (mkF m 44 #[.val (.int p1), .val (.long q2), .second, .val (.int p3), .val (.int p4), .val (.long (2147483639 : Int64)), .second, .val (.long ((q2 &&& (9223372036854775807 : Int64)) - ((q2 &&& (9223372036854775807 : Int64)) / ((2147483639 : Int64) + (1 : Int64))) * ((2147483639 : Int64) + (1 : Int64)))), .second, .val (.int (p3 &&& (3 : Int32))), .val (.int ((p4 &&& (2147483647 : Int32)) - ((p4 &&& (2147483647 : Int32)) / (16 : Int32)) * (16 : Int32))), .unset, .unset, .unset, .unset, .unset] [(.long ((2 : Int64) * ((p1).toInt64)))])) _
    refine Own.go (fun t k => XS.iload X0.here hx rfl (hb hby at_44) rfl k) ?_
    show Own.Fin p e below (s₁.setTop (mkF m 46 #[.val (.int p1), .val (.long q2), .second, .val (.int p3), .val (.int p4), .val (.long (2147483639 : Int64)), .second, .val (.long ((q2 &&& (9223372036854775807 : Int64)) - ((q2 &&& (9223372036854775807 : Int64)) / ((2147483639 : Int64) + (1 : Int64))) * ((2147483639 : Int64) + (1 : Int64)))), .second, .val (.int (p3 &&& (3 : Int32))), .val (.int ((p4 &&& (2147483647 : Int32)) - ((p4 &&& (2147483647 : Int32)) / (16 : Int32)) * (16 : Int32))), .unset, .unset, .unset, .unset, .unset] [(.int p4), (.long ((2 : Int64) * ((p1).toInt64)))])) _
    refine Own.go (fun t k => X0.ldcInt hx hown (mvT hZ (hw _ (List.mem_of_getElem? (i := 2) rfl))) (g := (mkF m 46 #[.val (.int p1), .val (.long q2), .second, .val (.int p3), .val (.int p4), .val (.long (2147483639 : Int64)), .second, .val (.long ((q2 &&& (9223372036854775807 : Int64)) - ((q2 &&& (9223372036854775807 : Int64)) / ((2147483639 : Int64) + (1 : Int64))) * ((2147483639 : Int64) + (1 : Int64)))), .second, .val (.int (p3 &&& (3 : Int32))), .val (.int ((p4 &&& (2147483647 : Int32)) - ((p4 &&& (2147483647 : Int32)) / (16 : Int32)) * (16 : Int32))), .unset, .unset, .unset, .unset, .unset] [(.int p4), (.long ((2 : Int64) * ((p1).toInt64)))])) rfl (hb hby at_46) _ k) ?_
    show Own.Fin p e below (s₁.setTop (mkF m 48 #[.val (.int p1), .val (.long q2), .second, .val (.int p3), .val (.int p4), .val (.long (2147483639 : Int64)), .second, .val (.long ((q2 &&& (9223372036854775807 : Int64)) - ((q2 &&& (9223372036854775807 : Int64)) / ((2147483639 : Int64) + (1 : Int64))) * ((2147483639 : Int64) + (1 : Int64)))), .second, .val (.int (p3 &&& (3 : Int32))), .val (.int ((p4 &&& (2147483647 : Int32)) - ((p4 &&& (2147483647 : Int32)) / (16 : Int32)) * (16 : Int32))), .unset, .unset, .unset, .unset, .unset] [(.int (2147483647 : Int32)), (.int p4), (.long ((2 : Int64) * ((p1).toInt64)))])) _
    refine Own.go (fun t k => XS.iand X0.here hx rfl (hb hby at_48) rfl k) ?_
    show Own.Fin p e below (s₁.setTop (mkF m 49 #[.val (.int p1), .val (.long q2), .second, .val (.int p3), .val (.int p4), .val (.long (2147483639 : Int64)), .second, .val (.long ((q2 &&& (9223372036854775807 : Int64)) - ((q2 &&& (9223372036854775807 : Int64)) / ((2147483639 : Int64) + (1 : Int64))) * ((2147483639 : Int64) + (1 : Int64)))), .second, .val (.int (p3 &&& (3 : Int32))), .val (.int ((p4 &&& (2147483647 : Int32)) - ((p4 &&& (2147483647 : Int32)) / (16 : Int32)) * (16 : Int32))), .unset, .unset, .unset, .unset, .unset] [(.int (p4 &&& (2147483647 : Int32))), (.long ((2 : Int64) * ((p1).toInt64)))])) _
    refine Own.go (fun t k => XS.iconst X0.here hx rfl (hb hby at_49) k) ?_
    show Own.Fin p e below (s₁.setTop (mkF m 50 #[.val (.int p1), .val (.long q2), .second, .val (.int p3), .val (.int p4), .val (.long (2147483639 : Int64)), .second, .val (.long ((q2 &&& (9223372036854775807 : Int64)) - ((q2 &&& (9223372036854775807 : Int64)) / ((2147483639 : Int64) + (1 : Int64))) * ((2147483639 : Int64) + (1 : Int64)))), .second, .val (.int (p3 &&& (3 : Int32))), .val (.int ((p4 &&& (2147483647 : Int32)) - ((p4 &&& (2147483647 : Int32)) / (16 : Int32)) * (16 : Int32))), .unset, .unset, .unset, .unset, .unset] [(.int (3 : Int32)), (.int (p4 &&& (2147483647 : Int32))), (.long ((2 : Int64) * ((p1).toInt64)))])) _
    refine Own.go (fun t k => XS.irem X0.here hx rfl (hb hby at_50) rfl (by decide) k) ?_
    show Own.Fin p e below (s₁.setTop (mkF m 51 #[.val (.int p1), .val (.long q2), .second, .val (.int p3), .val (.int p4), .val (.long (2147483639 : Int64)), .second, .val (.long ((q2 &&& (9223372036854775807 : Int64)) - ((q2 &&& (9223372036854775807 : Int64)) / ((2147483639 : Int64) + (1 : Int64))) * ((2147483639 : Int64) + (1 : Int64)))), .second, .val (.int (p3 &&& (3 : Int32))), .val (.int ((p4 &&& (2147483647 : Int32)) - ((p4 &&& (2147483647 : Int32)) / (16 : Int32)) * (16 : Int32))), .unset, .unset, .unset, .unset, .unset] [(.int ((p4 &&& (2147483647 : Int32)) - ((p4 &&& (2147483647 : Int32)) / (3 : Int32)) * (3 : Int32))), (.long ((2 : Int64) * ((p1).toInt64)))])) _
    refine Own.go (fun t k => XS.i2l X0.here hx rfl (hb hby at_51) rfl k) ?_
    show Own.Fin p e below (s₁.setTop (mkF m 52 #[.val (.int p1), .val (.long q2), .second, .val (.int p3), .val (.int p4), .val (.long (2147483639 : Int64)), .second, .val (.long ((q2 &&& (9223372036854775807 : Int64)) - ((q2 &&& (9223372036854775807 : Int64)) / ((2147483639 : Int64) + (1 : Int64))) * ((2147483639 : Int64) + (1 : Int64)))), .second, .val (.int (p3 &&& (3 : Int32))), .val (.int ((p4 &&& (2147483647 : Int32)) - ((p4 &&& (2147483647 : Int32)) / (16 : Int32)) * (16 : Int32))), .unset, .unset, .unset, .unset, .unset] [(.long ((((p4 &&& (2147483647 : Int32)) - ((p4 &&& (2147483647 : Int32)) / (3 : Int32)) * (3 : Int32))).toInt64)), (.long ((2 : Int64) * ((p1).toInt64)))])) _
    refine Own.go (fun t k => XS.ladd X0.here hx rfl (hb hby at_52) rfl k) ?_
    show Own.Fin p e below (s₁.setTop (mkF m 53 #[.val (.int p1), .val (.long q2), .second, .val (.int p3), .val (.int p4), .val (.long (2147483639 : Int64)), .second, .val (.long ((q2 &&& (9223372036854775807 : Int64)) - ((q2 &&& (9223372036854775807 : Int64)) / ((2147483639 : Int64) + (1 : Int64))) * ((2147483639 : Int64) + (1 : Int64)))), .second, .val (.int (p3 &&& (3 : Int32))), .val (.int ((p4 &&& (2147483647 : Int32)) - ((p4 &&& (2147483647 : Int32)) / (16 : Int32)) * (16 : Int32))), .unset, .unset, .unset, .unset, .unset] [(.long (((2 : Int64) * ((p1).toInt64)) + ((((p4 &&& (2147483647 : Int32)) - ((p4 &&& (2147483647 : Int32)) / (3 : Int32)) * (3 : Int32))).toInt64)))])) _
    refine Own.go (fun t k => XS.lconst X0.here hx rfl (hb hby at_53) k) ?_
    show Own.Fin p e below (s₁.setTop (mkF m 54 #[.val (.int p1), .val (.long q2), .second, .val (.int p3), .val (.int p4), .val (.long (2147483639 : Int64)), .second, .val (.long ((q2 &&& (9223372036854775807 : Int64)) - ((q2 &&& (9223372036854775807 : Int64)) / ((2147483639 : Int64) + (1 : Int64))) * ((2147483639 : Int64) + (1 : Int64)))), .second, .val (.int (p3 &&& (3 : Int32))), .val (.int ((p4 &&& (2147483647 : Int32)) - ((p4 &&& (2147483647 : Int32)) / (16 : Int32)) * (16 : Int32))), .unset, .unset, .unset, .unset, .unset] [(.long (1 : Int64)), (.long (((2 : Int64) * ((p1).toInt64)) + ((((p4 &&& (2147483647 : Int32)) - ((p4 &&& (2147483647 : Int32)) / (3 : Int32)) * (3 : Int32))).toInt64)))])) _
    refine Own.go (fun t k => XS.lsub X0.here hx rfl (hb hby at_54) rfl k) ?_
    show Own.Fin p e below (s₁.setTop (mkF m 55 #[.val (.int p1), .val (.long q2), .second, .val (.int p3), .val (.int p4), .val (.long (2147483639 : Int64)), .second, .val (.long ((q2 &&& (9223372036854775807 : Int64)) - ((q2 &&& (9223372036854775807 : Int64)) / ((2147483639 : Int64) + (1 : Int64))) * ((2147483639 : Int64) + (1 : Int64)))), .second, .val (.int (p3 &&& (3 : Int32))), .val (.int ((p4 &&& (2147483647 : Int32)) - ((p4 &&& (2147483647 : Int32)) / (16 : Int32)) * (16 : Int32))), .unset, .unset, .unset, .unset, .unset] [(.long ((((2 : Int64) * ((p1).toInt64)) + ((((p4 &&& (2147483647 : Int32)) - ((p4 &&& (2147483647 : Int32)) / (3 : Int32)) * (3 : Int32))).toInt64)) - (1 : Int64)))])) _
    generalize hcc : ((((2 : Int64) * ((p1).toInt64)) + ((((p4 &&& (2147483647 : Int32)) - ((p4 &&& (2147483647 : Int32)) / (3 : Int32)) * (3 : Int32))).toInt64)) - (1 : Int64)) = cc
    refine Own.go (fun t k => XS.lstore X0.here hx rfl (hb hby at_55) rfl (l' := #[.val (.int p1), .val (.long q2), .second, .val (.int p3), .val (.int p4), .val (.long (2147483639 : Int64)), .second, .val (.long ((q2 &&& (9223372036854775807 : Int64)) - ((q2 &&& (9223372036854775807 : Int64)) / ((2147483639 : Int64) + (1 : Int64))) * ((2147483639 : Int64) + (1 : Int64)))), .second, .val (.int (p3 &&& (3 : Int32))), .val (.int ((p4 &&& (2147483647 : Int32)) - ((p4 &&& (2147483647 : Int32)) / (16 : Int32)) * (16 : Int32))), .val (.long cc), .second, .unset, .unset, .unset]) rfl k) ?_
    show Own.Fin p e below (s₁.setTop (mkF m 57 #[.val (.int p1), .val (.long q2), .second, .val (.int p3), .val (.int p4), .val (.long (2147483639 : Int64)), .second, .val (.long ((q2 &&& (9223372036854775807 : Int64)) - ((q2 &&& (9223372036854775807 : Int64)) / ((2147483639 : Int64) + (1 : Int64))) * ((2147483639 : Int64) + (1 : Int64)))), .second, .val (.int (p3 &&& (3 : Int32))), .val (.int ((p4 &&& (2147483647 : Int32)) - ((p4 &&& (2147483647 : Int32)) / (16 : Int32)) * (16 : Int32))), .val (.long cc), .second, .unset, .unset, .unset] [])) _
    refine Own.go (fun t k => XS.lload X0.here hx rfl (hb hby at_57) rfl k) ?_
    show Own.Fin p e below (s₁.setTop (mkF m 59 #[.val (.int p1), .val (.long q2), .second, .val (.int p3), .val (.int p4), .val (.long (2147483639 : Int64)), .second, .val (.long ((q2 &&& (9223372036854775807 : Int64)) - ((q2 &&& (9223372036854775807 : Int64)) / ((2147483639 : Int64) + (1 : Int64))) * ((2147483639 : Int64) + (1 : Int64)))), .second, .val (.int (p3 &&& (3 : Int32))), .val (.int ((p4 &&& (2147483647 : Int32)) - ((p4 &&& (2147483647 : Int32)) / (16 : Int32)) * (16 : Int32))), .val (.long cc), .second, .unset, .unset, .unset] [(.long cc)])) _
    refine Own.go (fun t k => XS.lconst X0.here hx rfl (hb hby at_59) k) ?_
    show Own.Fin p e below (s₁.setTop (mkF m 60 #[.val (.int p1), .val (.long q2), .second, .val (.int p3), .val (.int p4), .val (.long (2147483639 : Int64)), .second, .val (.long ((q2 &&& (9223372036854775807 : Int64)) - ((q2 &&& (9223372036854775807 : Int64)) / ((2147483639 : Int64) + (1 : Int64))) * ((2147483639 : Int64) + (1 : Int64)))), .second, .val (.int (p3 &&& (3 : Int32))), .val (.int ((p4 &&& (2147483647 : Int32)) - ((p4 &&& (2147483647 : Int32)) / (16 : Int32)) * (16 : Int32))), .val (.long cc), .second, .unset, .unset, .unset] [(.long (0 : Int64)), (.long cc)])) _
    refine Own.go (fun t k => XS.lcmp X0.here hx rfl (hb hby at_60) rfl k) ?_
    show Own.Fin p e below (s₁.setTop (mkF m 61 #[.val (.int p1), .val (.long q2), .second, .val (.int p3), .val (.int p4), .val (.long (2147483639 : Int64)), .second, .val (.long ((q2 &&& (9223372036854775807 : Int64)) - ((q2 &&& (9223372036854775807 : Int64)) / ((2147483639 : Int64) + (1 : Int64))) * ((2147483639 : Int64) + (1 : Int64)))), .second, .val (.int (p3 &&& (3 : Int32))), .val (.int ((p4 &&& (2147483647 : Int32)) - ((p4 &&& (2147483647 : Int32)) / (16 : Int32)) * (16 : Int32))), .val (.long cc), .second, .unset, .unset, .unset] [(.int (lcmpW cc (0 : Int64)))])) _
    by_cases hc61_33 : (lcmpW cc (0 : Int64)) < (0 : Int32)
    · skip
      refine Own.go (fun t k => XS.ifYes X0.here hx rfl (pc0 := 61) (pc' := 76) rfl (hb hby at_61) rfl ((if0 _ _).trans (tlt hc61_33).1) (by decide) (by decide) k) ?_
      show Own.Fin p e below (s₁.setTop (mkF m 76 #[.val (.int p1), .val (.long q2), .second, .val (.int p3), .val (.int p4), .val (.long (2147483639 : Int64)), .second, .val (.long ((q2 &&& (9223372036854775807 : Int64)) - ((q2 &&& (9223372036854775807 : Int64)) / ((2147483639 : Int64) + (1 : Int64))) * ((2147483639 : Int64) + (1 : Int64)))), .second, .val (.int (p3 &&& (3 : Int32))), .val (.int ((p4 &&& (2147483647 : Int32)) - ((p4 &&& (2147483647 : Int32)) / (16 : Int32)) * (16 : Int32))), .val (.long cc), .second, .unset, .unset, .unset] [])) _
      refine Own.go (fun t k => XS.goto X0.here hx rfl (pc0 := 76) (pc' := 107) rfl (hb hby at_76) (by decide) (by decide) k) ?_
      show Own.Fin p e below (s₁.setTop (mkF m 107 #[.val (.int p1), .val (.long q2), .second, .val (.int p3), .val (.int p4), .val (.long (2147483639 : Int64)), .second, .val (.long ((q2 &&& (9223372036854775807 : Int64)) - ((q2 &&& (9223372036854775807 : Int64)) / ((2147483639 : Int64) + (1 : Int64))) * ((2147483639 : Int64) + (1 : Int64)))), .second, .val (.int (p3 &&& (3 : Int32))), .val (.int ((p4 &&& (2147483647 : Int32)) - ((p4 &&& (2147483647 : Int32)) / (16 : Int32)) * (16 : Int32))), .val (.long cc), .second, .unset, .unset, .unset] [])) _
      refine tail2 _ _ _ _ ?_
      exact own_need q2
    · skip
      refine Own.go (fun t k => XS.ifNo X0.here hx rfl (hb hby at_61) rfl ((if0 _ _).trans (flt hc61_33).1) k) ?_
      show Own.Fin p e below (s₁.setTop (mkF m 64 #[.val (.int p1), .val (.long q2), .second, .val (.int p3), .val (.int p4), .val (.long (2147483639 : Int64)), .second, .val (.long ((q2 &&& (9223372036854775807 : Int64)) - ((q2 &&& (9223372036854775807 : Int64)) / ((2147483639 : Int64) + (1 : Int64))) * ((2147483639 : Int64) + (1 : Int64)))), .second, .val (.int (p3 &&& (3 : Int32))), .val (.int ((p4 &&& (2147483647 : Int32)) - ((p4 &&& (2147483647 : Int32)) / (16 : Int32)) * (16 : Int32))), .val (.long cc), .second, .unset, .unset, .unset] [])) _
      refine Own.go (fun t k => XS.lload X0.here hx rfl (hb hby at_64) rfl k) ?_
      show Own.Fin p e below (s₁.setTop (mkF m 66 #[.val (.int p1), .val (.long q2), .second, .val (.int p3), .val (.int p4), .val (.long (2147483639 : Int64)), .second, .val (.long ((q2 &&& (9223372036854775807 : Int64)) - ((q2 &&& (9223372036854775807 : Int64)) / ((2147483639 : Int64) + (1 : Int64))) * ((2147483639 : Int64) + (1 : Int64)))), .second, .val (.int (p3 &&& (3 : Int32))), .val (.int ((p4 &&& (2147483647 : Int32)) - ((p4 &&& (2147483647 : Int32)) / (16 : Int32)) * (16 : Int32))), .val (.long cc), .second, .unset, .unset, .unset] [(.long cc)])) _
      refine Own.go (fun t k => XS.lload X0.here hx rfl (hb hby at_66) rfl k) ?_
      show Own.Fin p e below (s₁.setTop (mkF m 68 #[.val (.int p1), .val (.long q2), .second, .val (.int p3), .val (.int p4), .val (.long (2147483639 : Int64)), .second, .val (.long ((q2 &&& (9223372036854775807 : Int64)) - ((q2 &&& (9223372036854775807 : Int64)) / ((2147483639 : Int64) + (1 : Int64))) * ((2147483639 : Int64) + (1 : Int64)))), .second, .val (.int (p3 &&& (3 : Int32))), .val (.int ((p4 &&& (2147483647 : Int32)) - ((p4 &&& (2147483647 : Int32)) / (16 : Int32)) * (16 : Int32))), .val (.long cc), .second, .unset, .unset, .unset] [(.long (2147483639 : Int64)), (.long cc)])) _
      refine Own.go (fun t k => XS.lcmp X0.here hx rfl (hb hby at_68) rfl k) ?_
      show Own.Fin p e below (s₁.setTop (mkF m 69 #[.val (.int p1), .val (.long q2), .second, .val (.int p3), .val (.int p4), .val (.long (2147483639 : Int64)), .second, .val (.long ((q2 &&& (9223372036854775807 : Int64)) - ((q2 &&& (9223372036854775807 : Int64)) / ((2147483639 : Int64) + (1 : Int64))) * ((2147483639 : Int64) + (1 : Int64)))), .second, .val (.int (p3 &&& (3 : Int32))), .val (.int ((p4 &&& (2147483647 : Int32)) - ((p4 &&& (2147483647 : Int32)) / (16 : Int32)) * (16 : Int32))), .val (.long cc), .second, .unset, .unset, .unset] [(.int (lcmpW cc (2147483639 : Int64)))])) _
      by_cases hc69_34 : (0 : Int32) < (lcmpW cc (2147483639 : Int64))
      · skip
        refine Own.go (fun t k => XS.ifYes X0.here hx rfl (pc0 := 69) (pc' := 76) rfl (hb hby at_69) rfl ((if0 _ _).trans (tlt hc69_34).2.2.1) (by decide) (by decide) k) ?_
        show Own.Fin p e below (s₁.setTop (mkF m 76 #[.val (.int p1), .val (.long q2), .second, .val (.int p3), .val (.int p4), .val (.long (2147483639 : Int64)), .second, .val (.long ((q2 &&& (9223372036854775807 : Int64)) - ((q2 &&& (9223372036854775807 : Int64)) / ((2147483639 : Int64) + (1 : Int64))) * ((2147483639 : Int64) + (1 : Int64)))), .second, .val (.int (p3 &&& (3 : Int32))), .val (.int ((p4 &&& (2147483647 : Int32)) - ((p4 &&& (2147483647 : Int32)) / (16 : Int32)) * (16 : Int32))), .val (.long cc), .second, .unset, .unset, .unset] [])) _
        refine Own.go (fun t k => XS.goto X0.here hx rfl (pc0 := 76) (pc' := 107) rfl (hb hby at_76) (by decide) (by decide) k) ?_
        show Own.Fin p e below (s₁.setTop (mkF m 107 #[.val (.int p1), .val (.long q2), .second, .val (.int p3), .val (.int p4), .val (.long (2147483639 : Int64)), .second, .val (.long ((q2 &&& (9223372036854775807 : Int64)) - ((q2 &&& (9223372036854775807 : Int64)) / ((2147483639 : Int64) + (1 : Int64))) * ((2147483639 : Int64) + (1 : Int64)))), .second, .val (.int (p3 &&& (3 : Int32))), .val (.int ((p4 &&& (2147483647 : Int32)) - ((p4 &&& (2147483647 : Int32)) / (16 : Int32)) * (16 : Int32))), .val (.long cc), .second, .unset, .unset, .unset] [])) _
        refine tail2 _ _ _ _ ?_
        exact own_need q2
      · skip
        refine Own.go (fun t k => XS.ifNo X0.here hx rfl (hb hby at_69) rfl ((if0 _ _).trans (flt hc69_34).2.2.1) k) ?_
        show Own.Fin p e below (s₁.setTop (mkF m 72 #[.val (.int p1), .val (.long q2), .second, .val (.int p3), .val (.int p4), .val (.long (2147483639 : Int64)), .second, .val (.long ((q2 &&& (9223372036854775807 : Int64)) - ((q2 &&& (9223372036854775807 : Int64)) / ((2147483639 : Int64) + (1 : Int64))) * ((2147483639 : Int64) + (1 : Int64)))), .second, .val (.int (p3 &&& (3 : Int32))), .val (.int ((p4 &&& (2147483647 : Int32)) - ((p4 &&& (2147483647 : Int32)) / (16 : Int32)) * (16 : Int32))), .val (.long cc), .second, .unset, .unset, .unset] [])) _
        refine Own.go (fun t k => XS.lload X0.here hx rfl (hb hby at_72) rfl k) ?_
        show Own.Fin p e below (s₁.setTop (mkF m 74 #[.val (.int p1), .val (.long q2), .second, .val (.int p3), .val (.int p4), .val (.long (2147483639 : Int64)), .second, .val (.long ((q2 &&& (9223372036854775807 : Int64)) - ((q2 &&& (9223372036854775807 : Int64)) / ((2147483639 : Int64) + (1 : Int64))) * ((2147483639 : Int64) + (1 : Int64)))), .second, .val (.int (p3 &&& (3 : Int32))), .val (.int ((p4 &&& (2147483647 : Int32)) - ((p4 &&& (2147483647 : Int32)) / (16 : Int32)) * (16 : Int32))), .val (.long cc), .second, .unset, .unset, .unset] [(.long cc)])) _
        refine Own.go (fun t k => XS.lstore X0.here hx rfl (hb hby at_74) rfl (l' := #[.val (.int p1), .val (.long q2), .second, .val (.int p3), .val (.int p4), .val (.long (2147483639 : Int64)), .second, .val (.long cc), .second, .val (.int (p3 &&& (3 : Int32))), .val (.int ((p4 &&& (2147483647 : Int32)) - ((p4 &&& (2147483647 : Int32)) / (16 : Int32)) * (16 : Int32))), .val (.long cc), .second, .unset, .unset, .unset]) rfl k) ?_
        show Own.Fin p e below (s₁.setTop (mkF m 76 #[.val (.int p1), .val (.long q2), .second, .val (.int p3), .val (.int p4), .val (.long (2147483639 : Int64)), .second, .val (.long cc), .second, .val (.int (p3 &&& (3 : Int32))), .val (.int ((p4 &&& (2147483647 : Int32)) - ((p4 &&& (2147483647 : Int32)) / (16 : Int32)) * (16 : Int32))), .val (.long cc), .second, .unset, .unset, .unset] [])) _
        refine Own.go (fun t k => XS.goto X0.here hx rfl (pc0 := 76) (pc' := 107) rfl (hb hby at_76) (by decide) (by decide) k) ?_
        show Own.Fin p e below (s₁.setTop (mkF m 107 #[.val (.int p1), .val (.long q2), .second, .val (.int p3), .val (.int p4), .val (.long (2147483639 : Int64)), .second, .val (.long cc), .second, .val (.int (p3 &&& (3 : Int32))), .val (.int ((p4 &&& (2147483647 : Int32)) - ((p4 &&& (2147483647 : Int32)) / (16 : Int32)) * (16 : Int32))), .val (.long cc), .second, .unset, .unset, .unset] [])) _
        refine tail2 _ _ _ _ ?_
        have h1 := hc61_33; have h2 := hc69_34
        rw [lw_lt, Int64.lt_iff_toInt_lt, show (0 : Int64).toInt = 0 by decide] at h1; rw [lw_gt, Int64.lt_iff_toInt_lt, show (2147483639 : Int64).toInt = 2147483639 by decide] at h2; omega
  · skip
    refine Own.go (fun t k => XS.icmpYes X0.here hx rfl (pc0 := 35) (pc' := 79) rfl (hb hby at_35) rfl (feq hc35_32).2 (by decide) (by decide) k) ?_
    show Own.Fin p e below (s₁.setTop (mkF m 79 #[.val (.int p1), .val (.long q2), .second, .val (.int p3), .val (.int p4), .val (.long (2147483639 : Int64)), .second, .val (.long ((q2 &&& (9223372036854775807 : Int64)) - ((q2 &&& (9223372036854775807 : Int64)) / ((2147483639 : Int64) + (1 : Int64))) * ((2147483639 : Int64) + (1 : Int64)))), .second, .val (.int (p3 &&& (3 : Int32))), .val (.int ((p4 &&& (2147483647 : Int32)) - ((p4 &&& (2147483647 : Int32)) / (16 : Int32)) * (16 : Int32))), .unset, .unset, .unset, .unset, .unset] [])) _
    refine Own.go (fun t k => XS.iload X0.here hx rfl (hb hby at_79) rfl k) ?_
    show Own.Fin p e below (s₁.setTop (mkF m 81 #[.val (.int p1), .val (.long q2), .second, .val (.int p3), .val (.int p4), .val (.long (2147483639 : Int64)), .second, .val (.long ((q2 &&& (9223372036854775807 : Int64)) - ((q2 &&& (9223372036854775807 : Int64)) / ((2147483639 : Int64) + (1 : Int64))) * ((2147483639 : Int64) + (1 : Int64)))), .second, .val (.int (p3 &&& (3 : Int32))), .val (.int ((p4 &&& (2147483647 : Int32)) - ((p4 &&& (2147483647 : Int32)) / (16 : Int32)) * (16 : Int32))), .unset, .unset, .unset, .unset, .unset] [(.int (p3 &&& (3 : Int32)))])) _
    refine Own.go (fun t k => XS.iconst X0.here hx rfl (hb hby at_81) k) ?_
    show Own.Fin p e below (s₁.setTop (mkF m 82 #[.val (.int p1), .val (.long q2), .second, .val (.int p3), .val (.int p4), .val (.long (2147483639 : Int64)), .second, .val (.long ((q2 &&& (9223372036854775807 : Int64)) - ((q2 &&& (9223372036854775807 : Int64)) / ((2147483639 : Int64) + (1 : Int64))) * ((2147483639 : Int64) + (1 : Int64)))), .second, .val (.int (p3 &&& (3 : Int32))), .val (.int ((p4 &&& (2147483647 : Int32)) - ((p4 &&& (2147483647 : Int32)) / (16 : Int32)) * (16 : Int32))), .unset, .unset, .unset, .unset, .unset] [(.int (2 : Int32)), (.int (p3 &&& (3 : Int32)))])) _
    by_cases hc82_35 : (p3 &&& (3 : Int32)) = (2 : Int32)
    · skip
      refine Own.go (fun t k => XS.icmpNo X0.here hx rfl (hb hby at_82) rfl (teq hc82_35).2 k) ?_
      show Own.Fin p e below (s₁.setTop (mkF m 85 #[.val (.int p1), .val (.long q2), .second, .val (.int p3), .val (.int p4), .val (.long (2147483639 : Int64)), .second, .val (.long ((q2 &&& (9223372036854775807 : Int64)) - ((q2 &&& (9223372036854775807 : Int64)) / ((2147483639 : Int64) + (1 : Int64))) * ((2147483639 : Int64) + (1 : Int64)))), .second, .val (.int (p3 &&& (3 : Int32))), .val (.int ((p4 &&& (2147483647 : Int32)) - ((p4 &&& (2147483647 : Int32)) / (16 : Int32)) * (16 : Int32))), .unset, .unset, .unset, .unset, .unset] [])) _
      refine Own.go (fun t k => XS.lload X0.here hx rfl (hb hby at_85) rfl k) ?_
      show Own.Fin p e below (s₁.setTop (mkF m 87 #[.val (.int p1), .val (.long q2), .second, .val (.int p3), .val (.int p4), .val (.long (2147483639 : Int64)), .second, .val (.long ((q2 &&& (9223372036854775807 : Int64)) - ((q2 &&& (9223372036854775807 : Int64)) / ((2147483639 : Int64) + (1 : Int64))) * ((2147483639 : Int64) + (1 : Int64)))), .second, .val (.int (p3 &&& (3 : Int32))), .val (.int ((p4 &&& (2147483647 : Int32)) - ((p4 &&& (2147483647 : Int32)) / (16 : Int32)) * (16 : Int32))), .unset, .unset, .unset, .unset, .unset] [(.long (2147483639 : Int64))])) _
      refine Own.go (fun t k => XS.iload X0.here hx rfl (hb hby at_87) rfl k) ?_
      show Own.Fin p e below (s₁.setTop (mkF m 89 #[.val (.int p1), .val (.long q2), .second, .val (.int p3), .val (.int p4), .val (.long (2147483639 : Int64)), .second, .val (.long ((q2 &&& (9223372036854775807 : Int64)) - ((q2 &&& (9223372036854775807 : Int64)) / ((2147483639 : Int64) + (1 : Int64))) * ((2147483639 : Int64) + (1 : Int64)))), .second, .val (.int (p3 &&& (3 : Int32))), .val (.int ((p4 &&& (2147483647 : Int32)) - ((p4 &&& (2147483647 : Int32)) / (16 : Int32)) * (16 : Int32))), .unset, .unset, .unset, .unset, .unset] [(.int ((p4 &&& (2147483647 : Int32)) - ((p4 &&& (2147483647 : Int32)) / (16 : Int32)) * (16 : Int32))), (.long (2147483639 : Int64))])) _
      refine Own.go (fun t k => XS.i2l X0.here hx rfl (hb hby at_89) rfl k) ?_
      show Own.Fin p e below (s₁.setTop (mkF m 90 #[.val (.int p1), .val (.long q2), .second, .val (.int p3), .val (.int p4), .val (.long (2147483639 : Int64)), .second, .val (.long ((q2 &&& (9223372036854775807 : Int64)) - ((q2 &&& (9223372036854775807 : Int64)) / ((2147483639 : Int64) + (1 : Int64))) * ((2147483639 : Int64) + (1 : Int64)))), .second, .val (.int (p3 &&& (3 : Int32))), .val (.int ((p4 &&& (2147483647 : Int32)) - ((p4 &&& (2147483647 : Int32)) / (16 : Int32)) * (16 : Int32))), .unset, .unset, .unset, .unset, .unset] [(.long ((((p4 &&& (2147483647 : Int32)) - ((p4 &&& (2147483647 : Int32)) / (16 : Int32)) * (16 : Int32))).toInt64)), (.long (2147483639 : Int64))])) _
      refine Own.go (fun t k => XS.lsub X0.here hx rfl (hb hby at_90) rfl k) ?_
      show Own.Fin p e below (s₁.setTop (mkF m 91 #[.val (.int p1), .val (.long q2), .second, .val (.int p3), .val (.int p4), .val (.long (2147483639 : Int64)), .second, .val (.long ((q2 &&& (9223372036854775807 : Int64)) - ((q2 &&& (9223372036854775807 : Int64)) / ((2147483639 : Int64) + (1 : Int64))) * ((2147483639 : Int64) + (1 : Int64)))), .second, .val (.int (p3 &&& (3 : Int32))), .val (.int ((p4 &&& (2147483647 : Int32)) - ((p4 &&& (2147483647 : Int32)) / (16 : Int32)) * (16 : Int32))), .unset, .unset, .unset, .unset, .unset] [(.long ((2147483639 : Int64) - ((((p4 &&& (2147483647 : Int32)) - ((p4 &&& (2147483647 : Int32)) / (16 : Int32)) * (16 : Int32))).toInt64)))])) _
      refine Own.go (fun t k => XS.lstore X0.here hx rfl (hb hby at_91) rfl (l' := #[.val (.int p1), .val (.long q2), .second, .val (.int p3), .val (.int p4), .val (.long (2147483639 : Int64)), .second, .val (.long ((2147483639 : Int64) - ((((p4 &&& (2147483647 : Int32)) - ((p4 &&& (2147483647 : Int32)) / (16 : Int32)) * (16 : Int32))).toInt64))), .second, .val (.int (p3 &&& (3 : Int32))), .val (.int ((p4 &&& (2147483647 : Int32)) - ((p4 &&& (2147483647 : Int32)) / (16 : Int32)) * (16 : Int32))), .unset, .unset, .unset, .unset, .unset]) rfl k) ?_
      show Own.Fin p e below (s₁.setTop (mkF m 93 #[.val (.int p1), .val (.long q2), .second, .val (.int p3), .val (.int p4), .val (.long (2147483639 : Int64)), .second, .val (.long ((2147483639 : Int64) - ((((p4 &&& (2147483647 : Int32)) - ((p4 &&& (2147483647 : Int32)) / (16 : Int32)) * (16 : Int32))).toInt64))), .second, .val (.int (p3 &&& (3 : Int32))), .val (.int ((p4 &&& (2147483647 : Int32)) - ((p4 &&& (2147483647 : Int32)) / (16 : Int32)) * (16 : Int32))), .unset, .unset, .unset, .unset, .unset] [])) _
      refine Own.go (fun t k => XS.goto X0.here hx rfl (pc0 := 93) (pc' := 107) rfl (hb hby at_93) (by decide) (by decide) k) ?_
      show Own.Fin p e below (s₁.setTop (mkF m 107 #[.val (.int p1), .val (.long q2), .second, .val (.int p3), .val (.int p4), .val (.long (2147483639 : Int64)), .second, .val (.long ((2147483639 : Int64) - ((((p4 &&& (2147483647 : Int32)) - ((p4 &&& (2147483647 : Int32)) / (16 : Int32)) * (16 : Int32))).toInt64))), .second, .val (.int (p3 &&& (3 : Int32))), .val (.int ((p4 &&& (2147483647 : Int32)) - ((p4 &&& (2147483647 : Int32)) / (16 : Int32)) * (16 : Int32))), .unset, .unset, .unset, .unset, .unset] [])) _
      refine tail1 _ _ _ ?_
      exact own_c2 p4
    · skip
      refine Own.go (fun t k => XS.icmpYes X0.here hx rfl (pc0 := 82) (pc' := 96) rfl (hb hby at_82) rfl (feq hc82_35).2 (by decide) (by decide) k) ?_
      show Own.Fin p e below (s₁.setTop (mkF m 96 #[.val (.int p1), .val (.long q2), .second, .val (.int p3), .val (.int p4), .val (.long (2147483639 : Int64)), .second, .val (.long ((q2 &&& (9223372036854775807 : Int64)) - ((q2 &&& (9223372036854775807 : Int64)) / ((2147483639 : Int64) + (1 : Int64))) * ((2147483639 : Int64) + (1 : Int64)))), .second, .val (.int (p3 &&& (3 : Int32))), .val (.int ((p4 &&& (2147483647 : Int32)) - ((p4 &&& (2147483647 : Int32)) / (16 : Int32)) * (16 : Int32))), .unset, .unset, .unset, .unset, .unset] [])) _
      refine Own.go (fun t k => XS.iload X0.here hx rfl (hb hby at_96) rfl k) ?_
      show Own.Fin p e below (s₁.setTop (mkF m 98 #[.val (.int p1), .val (.long q2), .second, .val (.int p3), .val (.int p4), .val (.long (2147483639 : Int64)), .second, .val (.long ((q2 &&& (9223372036854775807 : Int64)) - ((q2 &&& (9223372036854775807 : Int64)) / ((2147483639 : Int64) + (1 : Int64))) * ((2147483639 : Int64) + (1 : Int64)))), .second, .val (.int (p3 &&& (3 : Int32))), .val (.int ((p4 &&& (2147483647 : Int32)) - ((p4 &&& (2147483647 : Int32)) / (16 : Int32)) * (16 : Int32))), .unset, .unset, .unset, .unset, .unset] [(.int (p3 &&& (3 : Int32)))])) _
      refine Own.go (fun t k => XS.iconst X0.here hx rfl (hb hby at_98) k) ?_
      show Own.Fin p e below (s₁.setTop (mkF m 99 #[.val (.int p1), .val (.long q2), .second, .val (.int p3), .val (.int p4), .val (.long (2147483639 : Int64)), .second, .val (.long ((q2 &&& (9223372036854775807 : Int64)) - ((q2 &&& (9223372036854775807 : Int64)) / ((2147483639 : Int64) + (1 : Int64))) * ((2147483639 : Int64) + (1 : Int64)))), .second, .val (.int (p3 &&& (3 : Int32))), .val (.int ((p4 &&& (2147483647 : Int32)) - ((p4 &&& (2147483647 : Int32)) / (16 : Int32)) * (16 : Int32))), .unset, .unset, .unset, .unset, .unset] [(.int (3 : Int32)), (.int (p3 &&& (3 : Int32)))])) _
      by_cases hc99_36 : (p3 &&& (3 : Int32)) = (3 : Int32)
      · skip
        refine Own.go (fun t k => XS.icmpNo X0.here hx rfl (hb hby at_99) rfl (teq hc99_36).2 k) ?_
        show Own.Fin p e below (s₁.setTop (mkF m 102 #[.val (.int p1), .val (.long q2), .second, .val (.int p3), .val (.int p4), .val (.long (2147483639 : Int64)), .second, .val (.long ((q2 &&& (9223372036854775807 : Int64)) - ((q2 &&& (9223372036854775807 : Int64)) / ((2147483639 : Int64) + (1 : Int64))) * ((2147483639 : Int64) + (1 : Int64)))), .second, .val (.int (p3 &&& (3 : Int32))), .val (.int ((p4 &&& (2147483647 : Int32)) - ((p4 &&& (2147483647 : Int32)) / (16 : Int32)) * (16 : Int32))), .unset, .unset, .unset, .unset, .unset] [])) _
        refine Own.go (fun t k => XS.iload X0.here hx rfl (hb hby at_102) rfl k) ?_
        show Own.Fin p e below (s₁.setTop (mkF m 104 #[.val (.int p1), .val (.long q2), .second, .val (.int p3), .val (.int p4), .val (.long (2147483639 : Int64)), .second, .val (.long ((q2 &&& (9223372036854775807 : Int64)) - ((q2 &&& (9223372036854775807 : Int64)) / ((2147483639 : Int64) + (1 : Int64))) * ((2147483639 : Int64) + (1 : Int64)))), .second, .val (.int (p3 &&& (3 : Int32))), .val (.int ((p4 &&& (2147483647 : Int32)) - ((p4 &&& (2147483647 : Int32)) / (16 : Int32)) * (16 : Int32))), .unset, .unset, .unset, .unset, .unset] [(.int ((p4 &&& (2147483647 : Int32)) - ((p4 &&& (2147483647 : Int32)) / (16 : Int32)) * (16 : Int32)))])) _
        refine Own.go (fun t k => XS.i2l X0.here hx rfl (hb hby at_104) rfl k) ?_
        show Own.Fin p e below (s₁.setTop (mkF m 105 #[.val (.int p1), .val (.long q2), .second, .val (.int p3), .val (.int p4), .val (.long (2147483639 : Int64)), .second, .val (.long ((q2 &&& (9223372036854775807 : Int64)) - ((q2 &&& (9223372036854775807 : Int64)) / ((2147483639 : Int64) + (1 : Int64))) * ((2147483639 : Int64) + (1 : Int64)))), .second, .val (.int (p3 &&& (3 : Int32))), .val (.int ((p4 &&& (2147483647 : Int32)) - ((p4 &&& (2147483647 : Int32)) / (16 : Int32)) * (16 : Int32))), .unset, .unset, .unset, .unset, .unset] [(.long ((((p4 &&& (2147483647 : Int32)) - ((p4 &&& (2147483647 : Int32)) / (16 : Int32)) * (16 : Int32))).toInt64))])) _
        refine Own.go (fun t k => XS.lstore X0.here hx rfl (hb hby at_105) rfl (l' := #[.val (.int p1), .val (.long q2), .second, .val (.int p3), .val (.int p4), .val (.long (2147483639 : Int64)), .second, .val (.long ((((p4 &&& (2147483647 : Int32)) - ((p4 &&& (2147483647 : Int32)) / (16 : Int32)) * (16 : Int32))).toInt64)), .second, .val (.int (p3 &&& (3 : Int32))), .val (.int ((p4 &&& (2147483647 : Int32)) - ((p4 &&& (2147483647 : Int32)) / (16 : Int32)) * (16 : Int32))), .unset, .unset, .unset, .unset, .unset]) rfl k) ?_
        show Own.Fin p e below (s₁.setTop (mkF m 107 #[.val (.int p1), .val (.long q2), .second, .val (.int p3), .val (.int p4), .val (.long (2147483639 : Int64)), .second, .val (.long ((((p4 &&& (2147483647 : Int32)) - ((p4 &&& (2147483647 : Int32)) / (16 : Int32)) * (16 : Int32))).toInt64)), .second, .val (.int (p3 &&& (3 : Int32))), .val (.int ((p4 &&& (2147483647 : Int32)) - ((p4 &&& (2147483647 : Int32)) / (16 : Int32)) * (16 : Int32))), .unset, .unset, .unset, .unset, .unset] [])) _
        refine tail1 _ _ _ ?_
        exact own_c3 p4
      · skip
        refine Own.go (fun t k => XS.icmpYes X0.here hx rfl (pc0 := 99) (pc' := 107) rfl (hb hby at_99) rfl (feq hc99_36).2 (by decide) (by decide) k) ?_
        show Own.Fin p e below (s₁.setTop (mkF m 107 #[.val (.int p1), .val (.long q2), .second, .val (.int p3), .val (.int p4), .val (.long (2147483639 : Int64)), .second, .val (.long ((q2 &&& (9223372036854775807 : Int64)) - ((q2 &&& (9223372036854775807 : Int64)) / ((2147483639 : Int64) + (1 : Int64))) * ((2147483639 : Int64) + (1 : Int64)))), .second, .val (.int (p3 &&& (3 : Int32))), .val (.int ((p4 &&& (2147483647 : Int32)) - ((p4 &&& (2147483647 : Int32)) / (16 : Int32)) * (16 : Int32))), .unset, .unset, .unset, .unset, .unset] [])) _
        refine tail1 _ _ _ ?_
        exact own_need q2
set_option maxRecDepth 65536 in
set_option maxHeartbeats 40000000 in
theorem comes_1 {Post : Tables → Env → Array Value → State → Outcome → State → Prop} (hpost : ∀ tb e args s v u, (limb_1_1.after args s (.returned v) u = true ∧ limb_1_2.after args s (.returned v) u = true ∧ True) → FrameEnd s (.returned v) u (Jvm.fieldLocs frame_1_writes args s ++ Jvm.arrayLocs frame_1_arrays args s ++ Jvm.staticLocs frame_1_statics s) 0 0 → Post tb e args s (.returned v) u) :
    ArmFor flags0 classFile x code maxLocals ret World_1 tables_1 room_1 Calls_1 rest_1 Pre_1 Post := by
  intro l hfl _ _ p e ha hc hk s m args below hf hA hF happ hP
  obtain ⟨hcalls, hrest, hpre⟩ := hP
  obtain ⟨-, -, -, hnamed, -, -, -, hat⟩ := (Spec.applies_iff hf).mp happ
  obtain ⟨hg, hn⟩ := and_e (Cond.before_iff.mp (show (Jvm.Cond.and given_1 narrow_1).before args s = true from hpre))
  obtain ⟨g1, g2⟩ := and_e hg
  obtain ⟨g3, g4⟩ := and_e g2
  obtain ⟨g5, g6⟩ := and_e g4
  obtain ⟨g7, g8⟩ := and_e g6
  obtain ⟨w0, w1, w2, w3, rfl⟩ : ∃ w0 w1 w2 w3 : Value, args = #[w0, w1, w2, w3] := by
    have hs : args.size = 4 := by simpa [Cond.value, given_1] using g1
    obtain ⟨L⟩ := args
    match L, hs with
    | [w0, w1, w2, w3], _ => exact ⟨w0, w1, w2, w3, rfl⟩
  have hw := fun d (hd : d ∈ tables_1) => atoms_spec (ws := Jvm.Cond.code x code maxLocals ret :: tables_1) hat d (List.mem_cons_of_mem _ hd)
  have hfit : Fit s := fun {y c} hc i hi => by
    obtain ⟨ha, rfl⟩ := Array.getElem?_eq_some_iff.mp hc
    have q := List.all_eq_true.mp ((Array.all_eq_true_iff_forall_mem.mp hF) _ (Array.getElem_mem ha)) i (List.mem_range.mpr hi)
    simpa [Array.getElem?_eq_getElem hi] using q
  obtain ⟨i0, ei0⟩ := is_v g3
  obtain rfl : w0 = (.int i0) := Option.some.inj ei0
  obtain ⟨i1, ei1⟩ := isL_v g5
  obtain rfl : w1 = (.long i1) := Option.some.inj ei1
  obtain ⟨i2, ei2⟩ := is_v g7
  obtain rfl : w2 = (.int i2) := Option.some.inj ei2
  obtain ⟨i3, ei3⟩ := is_v g8
  obtain rfl : w3 = (.int i3) := Option.some.inj ei3
  obtain ⟨n, o, h1, h2, h3, _, L, rfl, ⟨rfl, N⟩, hq⟩ := rm0 l s _ hw tables_1 i0 i1 i2 i3 s.heap s.heap.size (Nat.le_refl _)  p e ha hc hk s m _ below hf ((Spec.applies_iff_loose hf).mp happ).1 ⟨rfl, State.Warmed39.refl s, rfl⟩ trivial
  refine ⟨n, _, h1, h2, h3, hpost _ _ _ _ _ _ ⟨Cond.after_iff.mpr rfl, Cond.after_iff.mpr (eq_i res_at (Term.int_eval (1)) rfl), trivial⟩ ⟨hq.1, hq.2.1, (hq.2.2.sift fun y hy => Or.inr (N y hy)).mono (by decide) (by decide)⟩⟩
theorem main_1_1 : Claimed_1_1 := comes_1 fun _ _ _ _ _ _ h hF => ⟨h.1, hF⟩
theorem main_1_2 : Claimed_1_2 := comes_1 fun _ _ _ _ _ _ h hF => ⟨h.2.1, hF⟩
end Jvm.Pilot.@@N@@
namespace Jvm.Pilot.@@N@@
open Jvm Jvm.ClassFile Sem Op Lib Jvm.Free Jvm.Stand Jvm.Pilot.@@N@@.Jvm.D
/-! MADE BY PROGRAM (witnessworld.py) out of the Statement's table words and the real class files: 10 classes; the members and pool entries that the words name. The judged class is class 1, her method 1. -/
namespace start1
open Jvm.ClassFile
def u (s : String) : CpInfo := .utf8 (stringToUtf16 s)
/-- a pool by its gaps: so many unusable entries, then the entry; so many at the end -/
def gap : Nat → List CpInfo → List CpInfo
  | 0, r => r
  | n + 1, r => .unusable :: gap n r
def poolList (es : List (Nat × CpInfo)) (last : Nat) : List CpInfo := es.foldr (fun e r => gap e.1 (e.2 :: r)) (gap last [])
def pool (es : List (Nat × CpInfo)) (last : Nat) : Array CpInfo := ⟨poolList es last⟩
def fileOf (pool : Array CpInfo) (this : Nat) (attrs : Array Attribute := #[]) (ms : Array MethodInfo := #[]) (fl : Nat := 33) (sup : Nat := 0) (ifs : Array Nat := #[]) (fds : Array FieldInfo := #[]) : ClassFile where
  minorVersion := 0
  majorVersion := 65
  constantPool := pool
  accessFlags := fl
  thisClass := this
  superClass := sup
  interfaces := ifs
  fields := fds
  methods := ms
  attributes := attrs
def plain (name : String) (sup : Option ClassId) : Class where
  name := name
  kind := .ordinary
  loader := none
  accessFlags := 33
  super := sup
  interfaces := #[]
  cf := none
  fields := #[]
  methods := #[]
  instanceTypes := #[]
  staticTypes := #[]
  resolved := #[]
  callSites := []
  init := .initialized
  statics := none
  mirror := none

def pool0 : Array CpInfo := pool [(5, u "<init>"), (0, u "()V"), (1, .class_ 10), (1, u "java/lang/Object")] 113

def k0m0 : Method := { name := "<init>", desc := "()V", sig := { parameters := [], returnType := none }, accessFlags := 1, code := none }
/-- java/lang/Object -/
def k0 : Class := { plain "java/lang/Object" none with
  accessFlags := 33
  interfaces := #[]
  cf := some (fileOf pool0 8 #[] #[{ accessFlags := 1, nameIndex := 5, descriptorIndex := 6, attributes := #[] }] 33 0 #[] #[])
  fields := #[]
  methods := #[k0m0]
  instanceTypes := #[]
  staticTypes := #[]
  resolved := Array.replicate 124 none
  statics := none }

def pool1 : Array CpInfo := pool [(2, .class_ 4), (1, u "java/lang/Object"), (0, u "<init>"), (0, u "()V"), (0, .class_ 8), (0, u "com/example/changelane/changelane/ByteArrays"), (0, .long 2147483639), (3, .long 9223372036854775807), (1, .integer 2147483647), (0, .long 2), (1, .methodref 7 19), (0, .nameAndType 20 21), (0, u "grownLength"), (0, u "(IJ)I"), (0, .long 8), (1, .class_ 25), (0, u "com/example/changelane/changelane/ByteArraysGrownLengthPinLaw"), (2, u "law"), (0, u "(IJII)Z")] 3

def k1m0 : Method := { name := "<init>", desc := "()V", sig := { parameters := [], returnType := none }, accessFlags := 2, code := none }
def k1c1 : Code := { maxStack := 6, maxLocals := 16, code := code, exceptionTable := #[], attributes := #[] }
def k1m1 : Method := { name := "law", desc := "(IJII)Z", sig := { parameters := [.int, .long, .int, .int], returnType := some .boolean }, accessFlags := 9, code := some k1c1 }
/-- com/example/changelane/changelane/ByteArraysGrownLengthPinLaw -/
def k1 : Class := { plain "com/example/changelane/changelane/ByteArraysGrownLengthPinLaw" (some 0) with
  accessFlags := 49
  interfaces := #[]
  cf := some (fileOf pool1 24 #[] #[{ accessFlags := 2, nameIndex := 5, descriptorIndex := 6, attributes := #[] }, { accessFlags := 9, nameIndex := 28, descriptorIndex := 29, attributes := #[] }] 49 2 #[] #[])
  fields := #[]
  methods := #[k1m0, k1m1]
  instanceTypes := #[]
  staticTypes := #[]
  resolved := Array.replicate 33 none
  statics := none }

def pool2 : Array CpInfo := pool [(4, .class_ 6), (1, u "java/lang/Object"), (0, u "<init>"), (0, u "()V"), (0, .class_ 10), (0, u "com/example/changelane/changelane/ByteArrays"), (0, .long 2147483639), (10, .long 2), (1, .long 8), (1, .methodref 27 28), (0, .class_ 29), (0, .nameAndType 30 31), (0, u "java/lang/Math"), (0, u "min"), (0, u "(JJ)J"), (0, u "MAX_LENGTH"), (0, u "I"), (4, u "grownLength"), (0, u "(IJ)I")] 18

def k2m0 : Method := { name := "<init>", desc := "()V", sig := { parameters := [], returnType := none }, accessFlags := 2, code := none }
def k2c1 : Code := { maxStack := 6, maxLocals := 5, code := prog_1_method_2_code, exceptionTable := #[], attributes := #[] }
def k2m1 : Method := { name := "grownLength", desc := "(IJ)I", sig := { parameters := [.int, .long], returnType := some .int }, accessFlags := 8, code := some k2c1 }
/-- com/example/changelane/changelane/ByteArrays -/
def k2 : Class := { plain "com/example/changelane/changelane/ByteArrays" (some 0) with
  accessFlags := 48
  interfaces := #[]
  cf := some (fileOf pool2 9 #[] #[{ accessFlags := 2, nameIndex := 7, descriptorIndex := 8, attributes := #[] }, { accessFlags := 8, nameIndex := 38, descriptorIndex := 39, attributes := #[] }] 48 4 #[] #[{ accessFlags := 24, nameIndex := 32, descriptorIndex := 33, attributes := #[] }])
  fields := #[{ name := "MAX_LENGTH", type := .int, accessFlags := 24, slot := 0, constantValue := 0 }]
  methods := #[k2m0, k2m1]
  instanceTypes := #[]
  staticTypes := #[.int]
  resolved := Array.replicate 58 none
  statics := none }

def pool3 : Array CpInfo := pool [(1, .class_ 2), (0, u "java/lang/Math"), (1, .class_ 6), (1, u "java/lang/Object"), (0, u "<init>"), (0, u "()V"), (89, .class_ 100), (1, u "java/lang/Math$RandomNumberGeneratorHolder"), (20, u "(JJ)J"), (50, u "negativeZeroFloatBits"), (0, u "J"), (2, u "negativeZeroDoubleBits"), (24, u "min"), (43, u "$assertionsDisabled"), (0, u "Z"), (91, u "twoToTheDoubleScaleDown"), (0, u "D"), (4, u "twoToTheDoubleScaleUp"), (9, u "E"), (3, u "PI"), (2, u "TAU"), (2, u "DEGREES_TO_RADIANS"), (0, u "RADIANS_TO_DEGREES")] 94

def k3m0 : Method := { name := "<init>", desc := "()V", sig := { parameters := [], returnType := none }, accessFlags := 2, code := none }
def k3c1 : Code := { maxStack := 4, maxLocals := 4, code := jdk_29_method_70_code, exceptionTable := #[], attributes := #[] }
def k3m1 : Method := { name := "min", desc := "(JJ)J", sig := { parameters := [.long, .long], returnType := some .long }, accessFlags := 9, code := some k3c1 }
/-- java/lang/Math -/
def k3 : Class := { plain "java/lang/Math" (some 0) with
  accessFlags := 49
  interfaces := #[]
  cf := some (fileOf pool3 1 #[.nestMembers #[98]] #[{ accessFlags := 2, nameIndex := 7, descriptorIndex := 8, attributes := #[] }, { accessFlags := 9, nameIndex := 201, descriptorIndex := 121, attributes := #[] }] 49 4 #[] #[{ accessFlags := 25, nameIndex := 354, descriptorIndex := 339, attributes := #[] }, { accessFlags := 25, nameIndex := 358, descriptorIndex := 339, attributes := #[] }, { accessFlags := 25, nameIndex := 361, descriptorIndex := 339, attributes := #[] }, { accessFlags := 26, nameIndex := 364, descriptorIndex := 339, attributes := #[] }, { accessFlags := 26, nameIndex := 365, descriptorIndex := 339, attributes := #[] }, { accessFlags := 26, nameIndex := 172, descriptorIndex := 173, attributes := #[] }, { accessFlags := 26, nameIndex := 176, descriptorIndex := 173, attributes := #[] }, { accessFlags := 8, nameIndex := 344, descriptorIndex := 339, attributes := #[] }, { accessFlags := 8, nameIndex := 338, descriptorIndex := 339, attributes := #[] }, { accessFlags := 4120, nameIndex := 245, descriptorIndex := 246, attributes := #[] }])
  fields := #[{ name := "E", type := .double, accessFlags := 25, slot := 0, constantValue := 0 }, { name := "PI", type := .double, accessFlags := 25, slot := 1, constantValue := 0 }, { name := "TAU", type := .double, accessFlags := 25, slot := 2, constantValue := 0 }, { name := "DEGREES_TO_RADIANS", type := .double, accessFlags := 26, slot := 3, constantValue := 0 }, { name := "RADIANS_TO_DEGREES", type := .double, accessFlags := 26, slot := 4, constantValue := 0 }, { name := "negativeZeroFloatBits", type := .long, accessFlags := 26, slot := 5, constantValue := 0 }, { name := "negativeZeroDoubleBits", type := .long, accessFlags := 26, slot := 6, constantValue := 0 }, { name := "twoToTheDoubleScaleUp", type := .double, accessFlags := 8, slot := 7, constantValue := 0 }, { name := "twoToTheDoubleScaleDown", type := .double, accessFlags := 8, slot := 8, constantValue := 0 }, { name := "$assertionsDisabled", type := .boolean, accessFlags := 4120, slot := 9, constantValue := 0 }]
  methods := #[k3m0, k3m1]
  instanceTypes := #[]
  staticTypes := #[.double, .double, .double, .double, .double, .long, .long, .double, .double, .boolean]
  resolved := Array.replicate 460 none
  statics := none }

def pool4 : Array CpInfo := pool [(1, u "java/lang/Cloneable"), (0, .class_ 1), (0, u "java/lang/Object"), (0, .class_ 3)] 3

/-- java/lang/Cloneable -/
def k4 : Class := { plain "java/lang/Cloneable" (some 0) with
  accessFlags := 1537
  interfaces := #[]
  cf := some (fileOf pool4 2 #[] #[] 1537 4 #[] #[])
  fields := #[]
  methods := #[]
  instanceTypes := #[]
  staticTypes := #[]
  resolved := Array.replicate 8 none
  statics := none }

def pool5 : Array CpInfo := pool [(1, u "java/io/Serializable"), (0, .class_ 1), (0, u "java/lang/Object"), (0, .class_ 3)] 3

/-- java/io/Serializable -/
def k5 : Class := { plain "java/io/Serializable" (some 0) with
  accessFlags := 1537
  interfaces := #[]
  cf := some (fileOf pool5 2 #[] #[] 1537 4 #[] #[])
  fields := #[]
  methods := #[]
  instanceTypes := #[]
  staticTypes := #[]
  resolved := Array.replicate 8 none
  statics := none }

/-- the primitive byte -/
def k6 : Class := { plain "byte" none with kind := .primitive 'B', accessFlags := 0x411 }
/-- [B -/
def k7 : Class := { plain "[B" (some 0) with kind := .array 6 .byte, interfaces := #[4, 5], accessFlags := 1041 }

/-- the primitive int -/
def k8 : Class := { plain "int" none with kind := .primitive 'I', accessFlags := 0x411 }
/-- [I -/
def k9 : Class := { plain "[I" (some 0) with kind := .array 8 .int, interfaces := #[4, 5], accessFlags := 1041 }

def heap : Heap := #[]
def classes : Array Class := #[k0, k1, k2, k3, k4, k5, k6, k7, k8, k9]
def interned : List (Array UInt16 × Addr) := []
def slotsUsed : Nat := 0
def theMethod : MethodId := ⟨1, 1⟩
def args0 : Array Value := #[.int 5, .long 300, .int 1, .int 2]
def aboutOver (below : List Frame) : State where
  vm := { classes := classes, interned := interned.toArray }
  heap := heap
  slotsUsed := slotsUsed
  threads := #[{ frames := .invoking theMethod args0 :: below }]
def below0 : List Frame := [.native { method := ⟨0, 0⟩, args := #[] }]
def about1 : State := aboutOver below0
def p0 : Program := .bare "" "" ""
def e0 : Env := launch0.env 0 0 0
theorem w_frames : about1.frames = Frame.invoking theMethod args0 :: below0 := rfl
set_option maxRecDepth 65536 in
theorem w_args : argsFit about1.vm theMethod args0 = true := by decide +kernel
set_option maxRecDepth 65536 in
theorem w_heap : heapFits about1 = true := by decide +kernel
set_option maxRecDepth 65536 in
theorem w_runnable : about1.curStatus? = some .runnable := by decide +kernel
set_option maxRecDepth 65536 in
theorem w_alone : about1.alone = true := by decide +kernel
set_option maxRecDepth 65536 in
theorem w_named : about1.methodNamed? x = some theMethod := by decide +kernel
set_option maxRecDepth 65536 in
theorem w_hears : about1.hears theMethod below0 = true := by decide +kernel
set_option maxRecDepth 65536 in
theorem w_ripe : about1.ripe theMethod args0 below0 = true := by decide +kernel
theorem w_running : about1.status = .running := rfl
set_option maxRecDepth 65536 in
theorem w_room : about1.hasRoom e0.platform room_1 = true :=
  launch0.hasRoom_least _ room_1 (by decide +kernel) (by decide +kernel) (by decide +kernel) (by decide +kernel) (by decide +kernel) (by decide +kernel)
theorem allAtoms_all (ts : List Jvm.Cond) (a : Array Jvm.Value) (st : Jvm.State) : (allAtoms ts).before a st = ts.all (fun c => c.before a st) := by
  induction ts with
  | nil => rfl
  | cons c t ih =>
    show (Jvm.Cond.and c (allAtoms t)).before a st = _
    rw [Jvm.Cond.before_and, ih, List.all_cons]
def words1 : List Jvm.Cond := Jvm.Cond.code x code maxLocals ret :: tables_1
/-- a 'code' word, met by the world's own term for the bytes: nothing is compared byte by byte -/
theorem code_word {y : MethodName} {bytes : ByteArray} {mx : Nat} {rt : Option FieldType} {a : Array Value} {s : State} {m : MethodId} {meth : Method} {c : Code} (h1 : s.methodNamed? y = some m) (h2 : s.vm.method? m = some meth) (h3 : meth.code = some c) (h4 : c.code = bytes)
    (h5 : (c.maxLocals == mx && c.exceptionTable.isEmpty && decide (c.maxStack ≤ mostOperands) && decide (meth.sig.returnType = rt) && !meth.locks && decide (parseMethodDescriptor y.desc = some meth.sig)) = true) : (Jvm.Cond.code y bytes mx rt).before a s = true := by
  simp only [Bool.and_eq_true, beq_iff_eq, Bool.not_eq_true', decide_eq_true_eq] at h5
  obtain ⟨⟨⟨⟨⟨g1, g2⟩, g3⟩, g4⟩, g5⟩, g6⟩ := h5
  simp [Cond.before, Cond.holds, Cond.value, h1, h2, h3, h4, g1, g2, g3, g4, g5, g6]
def isCode : Jvm.Cond → Bool
  | .code _ _ _ _ => true
  | _ => false
theorem all_split {L : List Jvm.Cond} {P : Jvm.Cond → Bool} (h1 : L.all (fun c => isCode c || P c) = true) (h2 : ∀ c ∈ L.filter isCode, P c = true) : L.all P = true := by
  refine List.all_eq_true.mpr fun c hc => ?_
  have h := List.all_eq_true.mp h1 c hc
  rcases Bool.eq_false_or_eq_true (isCode c) with hi | hi
  · exact h2 c (List.mem_filter.mpr ⟨hc, hi⟩)
  · simpa [hi] using h
set_option maxRecDepth 65536 in
theorem w_c0 : (Jvm.Cond.code x code maxLocals ret).before args0 about1 = true := code_word (m := ⟨1, 1⟩) (meth := k1m1) (c := k1c1) (by decide +kernel) rfl rfl rfl (by decide +kernel)
set_option maxRecDepth 65536 in
theorem w_c1 : (Jvm.Cond.code ({ cls := "com/example/changelane/changelane/ByteArrays", name := "grownLength", desc := "(IJ)I" } : Jvm.MethodName) prog_1_method_2_code (5 : Nat) (Option.some Jvm.ClassFile.FieldType.int)).before args0 about1 = true := code_word (m := ⟨2, 1⟩) (meth := k2m1) (c := k2c1) (by decide +kernel) rfl rfl rfl (by decide +kernel)
set_option maxRecDepth 65536 in
theorem w_c2 : (Jvm.Cond.code ({ cls := "java/lang/Math", name := "min", desc := "(JJ)J" } : Jvm.MethodName) jdk_29_method_70_code (4 : Nat) (Option.some Jvm.ClassFile.FieldType.long)).before args0 about1 = true := code_word (m := ⟨3, 1⟩) (meth := k3m1) (c := k3c1) (by decide +kernel) rfl rfl rfl (by decide +kernel)
def codes1 : List Jvm.Cond := [Jvm.Cond.code x code maxLocals ret, Jvm.Cond.code ({ cls := "com/example/changelane/changelane/ByteArrays", name := "grownLength", desc := "(IJ)I" } : Jvm.MethodName) prog_1_method_2_code (5 : Nat) (Option.some Jvm.ClassFile.FieldType.int), Jvm.Cond.code ({ cls := "java/lang/Math", name := "min", desc := "(JJ)J" } : Jvm.MethodName) jdk_29_method_70_code (4 : Nat) (Option.some Jvm.ClassFile.FieldType.long)]
set_option maxRecDepth 65536 in
theorem codes_eq : words1.filter isCode = codes1 := rfl
theorem w_codes : ∀ c ∈ words1.filter isCode, c.before args0 about1 = true := by
  rw [codes_eq]
  intro c hc
  simp only [codes1, List.mem_cons, List.not_mem_nil, or_false] at hc
  rcases hc with rfl | rfl | rfl
  · exact w_c0
  · exact w_c1
  · exact w_c2
set_option maxRecDepth 65536 in
theorem w_t1 : words1.all (fun c => isCode c || c.before args0 about1) = true := by decide +kernel
theorem w_tables : (allAtoms (Jvm.Cond.code x code maxLocals ret :: tables_1)).before args0 about1 = true := by
  rw [allAtoms_all]
  show words1.all (fun c => c.before args0 about1) = true
  refine all_split ?_ w_codes
  rw [w_t1]
set_option maxRecDepth 65536 in
theorem w_case : (Jvm.Cond.and given_1 narrow_1).before args0 about1 = true := by decide +kernel
theorem w_applies : (headSpec (Jvm.Cond.code x code maxLocals ret :: tables_1) room_1).applies x e0.platform about1 = true :=
  (Spec.applies_iff w_frames).mpr ⟨w_running, w_runnable, w_alone, w_named, w_hears, w_ripe, w_room, w_tables⟩
theorem atStart : AtStart classFile x code maxLocals ret World_1 tables_1 room_1 Calls_1 rest_1 Pre_1 launch0 p0 e0 about1 theMethod args0 below0 :=
  ⟨lists_1, trivial, launch0.admits_env _ _ _, launch0.least_env, fairChoices_fair.cas, fairChoices_fair.clock, w_frames, w_args, w_heap, w_applies, trivial, trivial, w_case⟩
end start1
theorem witness_1 : WitnessClaimed_1 := ⟨start1.p0, start1.e0, start1.about1, start1.theMethod, start1.args0, start1.below0, start1.atStart⟩
end Jvm.Pilot.@@N@@
