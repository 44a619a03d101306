import JvmDerived
import JvmDerived.Pilot.@@N@@Statement
import JvmDerived.Pilot.@@N@@Code
set_option linter.unusedVariables false
set_option linter.unusedSimpArgs false
@@BLOCK:NumsL.lean.txt@@
namespace Jvm.Pilot.@@N@@
open Jvm Jvm.ClassFile Sem Op Lib Jvm.Free Jvm.Stand Jvm.LawKit Jvm.RoadKit Bundle Jvm.Pilot.@@N@@.Jvm.D
/-! my own layer: what stands still in a walk (own_Cx, own_Mx), where it stands (own_Sx), what is left of it (own_Fin) -/
abbrev own_Cx : Type := Program × Launch × Env × Room × State × MethodId × Array Value × List Frame × Method × Code
def own_Sx (n0 : Nat) : own_Cx → State → Heap → Nat → Nat → Prop
  | (p, l, e, R, s, m, args, below, meth, c), T, h, cl, sl => ∃ locs, Stand p l e R s m args below meth c T locs cl sl ∧ Fr n0 locs ∧ T.heap = h ∧ n0 ≤ s.heap.size ∧ cl ≤ R.cells ∧ sl ≤ R.slots
def own_Mx (Z : State) (a0 : Array Value) : own_Cx → ByteArray → String → Nat → Option FieldType → Room → Prop
  | (p, l, e, R, s, m, args, below, meth, c), code, own, mx, ret, rm => p.tables.exec = Jvm.exec ∧ c.code = code ∧ c.maxLocals = mx ∧ s.vm.findClass own = some m.cls ∧ meth.sig.returnType = ret ∧ meth.locks = false ∧ Z.Warmed39 s.vm ∧ R = rm ∧ (∀ d ∈ tables_1, d.before a0 Z = true)
def own_Fin (n0 : Nat) : own_Cx → (Option Value → Heap → Prop) → State → Nat → Array Slot → List Value → Prop
  | (p, l, e, R, s, m, args, below, meth, c), P, T, pc, L, S => ∃ s₂ o, Steps p.tables e below (T.setTop (mkF m pc L S)) s₂ ∧ s₂.status = .running ∧ Ended s₂ below o ∧ ∃ v L', o = .returned v ∧ (P v s₂.heap ∧ Fr n0 L') ∧ FrameEnd s o s₂ L' R.cells R.slots
/-- a method's contract: from these arguments and this heap it returns, and P says what and with which heap -/
def own_Met (l : Launch) (Z : State) (n0 : Nat) (y : MethodName) (code : ByteArray) (mx : Nat) (ret : Option FieldType) (rm : Room) (args : Array Value) (h0 : Heap) (P : Option Value → Heap → Prop) : Prop :=
  ∀ ws : List Jvm.Cond, MetFree l y (head1 (Jvm.Cond.code y code mx ret :: ws) rm) (fun a U => a = args ∧ Z.Warmed39 U.vm ∧ U.heap = h0) (fun _ _ _ _ _ => True) (fun _ U o U' => ∃ v L, o = .returned v ∧ (P v U'.heap ∧ Fr n0 L) ∧ FrameEnd U o U' L rm.cells rm.slots)
section OwnLayer
variable {Z : State} {a0 : Array Value} {n0 : Nat} {K : own_Cx} {code : ByteArray} {own : String} {mx : Nat} {ret : Option FieldType} {rm : Room} {P : Option Value → Heap → Prop} {T : State} {h : Heap} {cl sl pc pc' : Nat} {L L' : Array Slot} {S rest : List Value}
theorem own_enter {l : Launch} {y : MethodName} {args : Array Value} {h0 : Heap} (hpl : plainFor y = true) (hw : ∀ d ∈ tables_1, d.before a0 Z = true) (hn : n0 ≤ h0.size) (he : ∀ m, entryFrame m args mx = mkF m 0 L [])
    (body : ∀ (K : own_Cx) (T : State), K.2.2.2.2.2.2.2.2.1.name = y.name → own_Mx Z a0 K code y.cls mx ret rm → own_Sx n0 K T h0 0 0 → own_Fin n0 K P T 0 L []) : own_Met l Z n0 y code mx ret rm args h0 P := by
  intro ws
  refine MetFree.of_bodySF hpl hisR ?_
  intro p e s m args' below meth c s₁ Bd hml0 hP hK
  obtain ⟨rfl, hZ, hh⟩ := hP
  have hown : s.vm.findClass y.cls = some m.cls := findClass_of_methodNamed Bd.named
  have X0 : Stand p l e rm s m args' below meth c s₁ [] 0 0 := Stand.of_body Bd
  have e0 : s₁.heap = h0 := by rw [← hh, Bd.state]; rfl
  obtain ⟨s2, o, st, r⟩ := body (p, l, e, rm, s, m, args', below, meth, c) s₁ (name_of_methodNamed Bd.named Bd.method).1 ⟨Bd.exec, Bd.bytes, hml0, hown, Bd.returns, Bd.notSynchronized, hZ, rfl, hw⟩ ⟨[], X0, Fr.nil n0, e0, by rw [hh]; exact hn, Nat.zero_le _, Nat.zero_le _⟩
  exact ⟨s2, o, castTop (he m) st, r⟩
theorem own_Sx.size (X : own_Sx n0 K T h cl sl) : n0 ≤ h.size := by
  obtain ⟨p, l, e, R, s, m, args, below, meth, c⟩ := K
  obtain ⟨locs, X, -, rfl, hn, -⟩ := X
  exact Nat.le_trans hn X.same.2.1
theorem own_ret {t : FieldType} (M : own_Mx Z a0 K code own mx (some t) rm) (X : own_Sx n0 K T h cl sl) {w w' : Value} {i : Instr} (hd : decode code pc = .ok (i, 1))
    (hst : ∀ {p : Program} {l : Launch} {e : Env} {R : Room} {s : State} {m : MethodId} {args : Array Value} {below : List Frame} {meth : Method} {c : Code} {locs : List Loc} {fs : List Frame}, Stand p l e R s m args below meth c T locs cl sl → p.tables.exec = Jvm.exec → meth.sig.returnType = some t → decode c.code pc = .ok (i, 1) → (∀ (f : JFrame) (acts : List Action), f.method = m → f.locked = none → f.entered = [] → (doReturn e (T.setTop f) acts (some w')).1 = T.setFrames fs) → Steps p.tables e below (T.setTop (mkF m pc L (w :: S))) (T.setFrames fs)) (hP : P (some w') h) : own_Fin n0 K P T pc L (w :: S) := by
  obtain ⟨p, l, e, R, s, m, args, below, meth, c⟩ := K
  obtain ⟨hx, hby, hml, hown, hret, hlk, hZ, rfl, hw⟩ := M
  obtain ⟨locs, X, hN, rfl, hn, hc, hs⟩ := X
  obtain ⟨fs, hr, hrun, hended, hW, hsame⟩ := X.leave (v := some w') (fun q => by rw [hret] at q; cases q) hlk
  exact ⟨_, _, hst X hx hret (hb hby hd) hr, hrun, hended, _, _, rfl, ⟨hP, hN⟩, ⟨_, rfl⟩, hW, hsame.mono hc hs⟩
theorem own_retI (M : own_Mx Z a0 K code own mx (some .int) rm) (X : own_Sx n0 K T h cl sl) {z : Int32} (hd : decode code pc = .ok (.ireturn, 1)) (hP : P (some (.int z)) h) : own_Fin n0 K P T pc L (.int z :: S) :=
  own_ret M X hd (fun X hx hret hd hr => retOut X hx hret rfl (Or.inl ⟨rfl, Or.inl rfl, z, rfl⟩) hd hr) hP
theorem own_retJ (M : own_Mx Z a0 K code own mx (some .long) rm) (X : own_Sx n0 K T h cl sl) {z : Int64} (hd : decode code pc = .ok (.lreturn, 1)) (hP : P (some (.long z)) h) : own_Fin n0 K P T pc L (.long z :: S) :=
  own_ret M X hd (fun X hx hret hd hr => retOut X hx hret rfl (Or.inr (Or.inl ⟨rfl, rfl, z, rfl⟩)) hd hr) hP
theorem own_retA {t : FieldType} (M : own_Mx Z a0 K code own mx (some t) rm) (X : own_Sx n0 K T h cl sl) {a : Addr} (ht : t.isReference = true) (hna : narrow t (.ref a) = .ref a) (hd : decode code pc = .ok (.areturn, 1)) (hP : P (some (.ref a)) h) : own_Fin n0 K P T pc L (.ref a :: S) :=
  own_ret M X hd (fun X hx hret hd hr => retOut X hx hret hna (Or.inr (Or.inr (Or.inr (Or.inr ⟨rfl, ht, rfl⟩)))) hd hr) hP
theorem own_retN {t : FieldType} (M : own_Mx Z a0 K code own mx (some t) rm) (X : own_Sx n0 K T h cl sl) {z z' : Int32} (ht : t = .boolean ∨ t = .byte ∨ t = .char ∨ t = .short) (hd : decode code pc = .ok (.ireturn, 1)) (hz : nar t z = z') (hP : P (some (.int z')) h) : own_Fin n0 K P T pc L (.int z :: S) :=
  own_ret M X hd (fun X hx hret hd hr => retN X hx hret ht hd (by rw [hz]; exact hr)) hP
theorem own_retV (M : own_Mx Z a0 K code own mx none rm) (X : own_Sx n0 K T h cl sl) (hd : decode code pc = .ok (.return_, 1)) (hP : P none h) : own_Fin n0 K P T pc L [] := by
  obtain ⟨p, l, e, R, s, m, args, below, meth, c⟩ := K
  obtain ⟨hx, hby, hml, hown, hret, hlk, hZ, rfl, hw⟩ := M
  obtain ⟨locs, X, hN, rfl, hn, hc, hs⟩ := X
  obtain ⟨fs, hr, hrun, hended, hW, hsame⟩ := X.leave (v := none) (fun _ => rfl) hlk
  exact ⟨_, _, X.returnOut hx hret (hb hby hd) hr, hrun, hended, _, _, rfl, ⟨hP, hN⟩, ⟨_, rfl⟩, hW, hsame.mono hc hs⟩
theorem own_iload (M : own_Mx Z a0 K code own mx ret rm) (X : own_Sx n0 K T h cl sl) {k : Nat} {v : Int32} (hd : decode code pc = .ok (.iload k, 2)) (hl : L[k]? = some (.val (.int v))) (hp : pc + 2 = pc') (hr : own_Fin n0 K P T pc' L (.int v :: S)) : own_Fin n0 K P T pc L (S) := by
  obtain ⟨p, l, e, R, s, m, args, below, meth, c⟩ := K
  obtain ⟨hx, hby, hml, hown, hret, hlk, hZ, rfl, hw⟩ := M
  obtain ⟨locs, X, hN, eT, hn, hcl, hsl⟩ := X
  obtain ⟨s2, o2, st, r⟩ := hr
  subst hp
  exact ⟨s2, o2, XS.iload X.here hx rfl (hb hby hd) hl st, r⟩
theorem own_iloadN (M : own_Mx Z a0 K code own mx ret rm) (X : own_Sx n0 K T h cl sl) {k : Fin 4} {v : Int32} (hd : decode code pc = .ok (.iload_n k, 1)) (hl : L[k.val]? = some (.val (.int v))) (hp : pc + 1 = pc') (hr : own_Fin n0 K P T pc' L (.int v :: S)) : own_Fin n0 K P T pc L (S) := by
  obtain ⟨p, l, e, R, s, m, args, below, meth, c⟩ := K
  obtain ⟨hx, hby, hml, hown, hret, hlk, hZ, rfl, hw⟩ := M
  obtain ⟨locs, X, hN, eT, hn, hcl, hsl⟩ := X
  obtain ⟨s2, o2, st, r⟩ := hr
  subst hp
  exact ⟨s2, o2, XS.iloadN X.here hx rfl (hb hby hd) hl st, r⟩
theorem own_istore (M : own_Mx Z a0 K code own mx ret rm) (X : own_Sx n0 K T h cl sl) {k : Nat} {v : Int32} (hd : decode code pc = .ok (.istore k, 2)) (hl : storeLocals L k (.int v) = some L') (hp : pc + 2 = pc') (hr : own_Fin n0 K P T pc' L' (S)) : own_Fin n0 K P T pc L (.int v :: S) := by
  obtain ⟨p, l, e, R, s, m, args, below, meth, c⟩ := K
  obtain ⟨hx, hby, hml, hown, hret, hlk, hZ, rfl, hw⟩ := M
  obtain ⟨locs, X, hN, eT, hn, hcl, hsl⟩ := X
  obtain ⟨s2, o2, st, r⟩ := hr
  subst hp
  exact ⟨s2, o2, XS.istore X.here hx rfl (hb hby hd) rfl hl st, r⟩
theorem own_istoreN (M : own_Mx Z a0 K code own mx ret rm) (X : own_Sx n0 K T h cl sl) {k : Fin 4} {v : Int32} (hd : decode code pc = .ok (.istore_n k, 1)) (hl : storeLocals L k.val (.int v) = some L') (hp : pc + 1 = pc') (hr : own_Fin n0 K P T pc' L' (S)) : own_Fin n0 K P T pc L (.int v :: S) := by
  obtain ⟨p, l, e, R, s, m, args, below, meth, c⟩ := K
  obtain ⟨hx, hby, hml, hown, hret, hlk, hZ, rfl, hw⟩ := M
  obtain ⟨locs, X, hN, eT, hn, hcl, hsl⟩ := X
  obtain ⟨s2, o2, st, r⟩ := hr
  subst hp
  exact ⟨s2, o2, XS.istoreN X.here hx rfl (hb hby hd) rfl hl st, r⟩
theorem own_lload (M : own_Mx Z a0 K code own mx ret rm) (X : own_Sx n0 K T h cl sl) {k : Nat} {v : Int64} (hd : decode code pc = .ok (.lload k, 2)) (hl : L[k]? = some (.val (.long v))) (hp : pc + 2 = pc') (hr : own_Fin n0 K P T pc' L (.long v :: S)) : own_Fin n0 K P T pc L (S) := by
  obtain ⟨p, l, e, R, s, m, args, below, meth, c⟩ := K
  obtain ⟨hx, hby, hml, hown, hret, hlk, hZ, rfl, hw⟩ := M
  obtain ⟨locs, X, hN, eT, hn, hcl, hsl⟩ := X
  obtain ⟨s2, o2, st, r⟩ := hr
  subst hp
  exact ⟨s2, o2, XS.lload X.here hx rfl (hb hby hd) hl st, r⟩
theorem own_lloadN (M : own_Mx Z a0 K code own mx ret rm) (X : own_Sx n0 K T h cl sl) {k : Fin 4} {v : Int64} (hd : decode code pc = .ok (.lload_n k, 1)) (hl : L[k.val]? = some (.val (.long v))) (hp : pc + 1 = pc') (hr : own_Fin n0 K P T pc' L (.long v :: S)) : own_Fin n0 K P T pc L (S) := by
  obtain ⟨p, l, e, R, s, m, args, below, meth, c⟩ := K
  obtain ⟨hx, hby, hml, hown, hret, hlk, hZ, rfl, hw⟩ := M
  obtain ⟨locs, X, hN, eT, hn, hcl, hsl⟩ := X
  obtain ⟨s2, o2, st, r⟩ := hr
  subst hp
  exact ⟨s2, o2, XS.lloadN X.here hx rfl (hb hby hd) hl st, r⟩
theorem own_lstore (M : own_Mx Z a0 K code own mx ret rm) (X : own_Sx n0 K T h cl sl) {k : Nat} {v : Int64} (hd : decode code pc = .ok (.lstore k, 2)) (hl : storeLocals L k (.long v) = some L') (hp : pc + 2 = pc') (hr : own_Fin n0 K P T pc' L' (S)) : own_Fin n0 K P T pc L (.long v :: S) := by
  obtain ⟨p, l, e, R, s, m, args, below, meth, c⟩ := K
  obtain ⟨hx, hby, hml, hown, hret, hlk, hZ, rfl, hw⟩ := M
  obtain ⟨locs, X, hN, eT, hn, hcl, hsl⟩ := X
  obtain ⟨s2, o2, st, r⟩ := hr
  subst hp
  exact ⟨s2, o2, XS.lstore X.here hx rfl (hb hby hd) rfl hl st, r⟩
theorem own_lstoreN (M : own_Mx Z a0 K code own mx ret rm) (X : own_Sx n0 K T h cl sl) {k : Fin 4} {v : Int64} (hd : decode code pc = .ok (.lstore_n k, 1)) (hl : storeLocals L k.val (.long v) = some L') (hp : pc + 1 = pc') (hr : own_Fin n0 K P T pc' L' (S)) : own_Fin n0 K P T pc L (.long v :: S) := by
  obtain ⟨p, l, e, R, s, m, args, below, meth, c⟩ := K
  obtain ⟨hx, hby, hml, hown, hret, hlk, hZ, rfl, hw⟩ := M
  obtain ⟨locs, X, hN, eT, hn, hcl, hsl⟩ := X
  obtain ⟨s2, o2, st, r⟩ := hr
  subst hp
  exact ⟨s2, o2, XS.lstoreN X.here hx rfl (hb hby hd) rfl hl st, r⟩
theorem own_aload (M : own_Mx Z a0 K code own mx ret rm) (X : own_Sx n0 K T h cl sl) {k : Nat} {v : Value} (hd : decode code pc = .ok (.aload k, 2)) (hl : L[k]? = some (.val v)) (hv : v.isRef = true) (hp : pc + 2 = pc') (hr : own_Fin n0 K P T pc' L (v :: S)) : own_Fin n0 K P T pc L (S) := by
  obtain ⟨p, l, e, R, s, m, args, below, meth, c⟩ := K
  obtain ⟨hx, hby, hml, hown, hret, hlk, hZ, rfl, hw⟩ := M
  obtain ⟨locs, X, hN, eT, hn, hcl, hsl⟩ := X
  obtain ⟨s2, o2, st, r⟩ := hr
  subst hp
  exact ⟨s2, o2, XS.aload X.here hx rfl (hb hby hd) hl hv st, r⟩
theorem own_aloadN (M : own_Mx Z a0 K code own mx ret rm) (X : own_Sx n0 K T h cl sl) {k : Fin 4} {v : Value} (hd : decode code pc = .ok (.aload_n k, 1)) (hl : L[k.val]? = some (.val v)) (hv : v.isRef = true) (hp : pc + 1 = pc') (hr : own_Fin n0 K P T pc' L (v :: S)) : own_Fin n0 K P T pc L (S) := by
  obtain ⟨p, l, e, R, s, m, args, below, meth, c⟩ := K
  obtain ⟨hx, hby, hml, hown, hret, hlk, hZ, rfl, hw⟩ := M
  obtain ⟨locs, X, hN, eT, hn, hcl, hsl⟩ := X
  obtain ⟨s2, o2, st, r⟩ := hr
  subst hp
  exact ⟨s2, o2, XS.aloadN X.here hx rfl (hb hby hd) hl hv st, r⟩
theorem own_astore (M : own_Mx Z a0 K code own mx ret rm) (X : own_Sx n0 K T h cl sl) {k : Nat} {v : Value} (hd : decode code pc = .ok (.astore k, 2)) (hv : v.isRef = true) (hl : storeLocals L k v = some L') (hp : pc + 2 = pc') (hr : own_Fin n0 K P T pc' L' (S)) : own_Fin n0 K P T pc L (v :: S) := by
  obtain ⟨p, l, e, R, s, m, args, below, meth, c⟩ := K
  obtain ⟨hx, hby, hml, hown, hret, hlk, hZ, rfl, hw⟩ := M
  obtain ⟨locs, X, hN, eT, hn, hcl, hsl⟩ := X
  obtain ⟨s2, o2, st, r⟩ := hr
  subst hp
  exact ⟨s2, o2, XS.astore X.here hx rfl (hb hby hd) rfl hv hl st, r⟩
theorem own_astoreN (M : own_Mx Z a0 K code own mx ret rm) (X : own_Sx n0 K T h cl sl) {k : Fin 4} {v : Value} (hd : decode code pc = .ok (.astore_n k, 1)) (hv : v.isRef = true) (hl : storeLocals L k.val v = some L') (hp : pc + 1 = pc') (hr : own_Fin n0 K P T pc' L' (S)) : own_Fin n0 K P T pc L (v :: S) := by
  obtain ⟨p, l, e, R, s, m, args, below, meth, c⟩ := K
  obtain ⟨hx, hby, hml, hown, hret, hlk, hZ, rfl, hw⟩ := M
  obtain ⟨locs, X, hN, eT, hn, hcl, hsl⟩ := X
  obtain ⟨s2, o2, st, r⟩ := hr
  subst hp
  exact ⟨s2, o2, XS.astoreN X.here hx rfl (hb hby hd) rfl hv hl st, r⟩
theorem own_iconst (M : own_Mx Z a0 K code own mx ret rm) (X : own_Sx n0 K T h cl sl) {i : Int} {v : Int32} (hd : decode code pc = .ok (.iconst i, 1)) (hv : Int32.ofInt i = v) (hp : pc + 1 = pc') (hr : own_Fin n0 K P T pc' L (.int v :: S)) : own_Fin n0 K P T pc L (S) := by
  obtain ⟨p, l, e, R, s, m, args, below, meth, c⟩ := K
  obtain ⟨hx, hby, hml, hown, hret, hlk, hZ, rfl, hw⟩ := M
  obtain ⟨locs, X, hN, eT, hn, hcl, hsl⟩ := X
  obtain ⟨s2, o2, st, r⟩ := hr
  subst hp
  subst hv
  exact ⟨s2, o2, XS.iconst X.here hx rfl (hb hby hd) st, r⟩
theorem own_bipush (M : own_Mx Z a0 K code own mx ret rm) (X : own_Sx n0 K T h cl sl) {i : Int} {v : Int32} (hd : decode code pc = .ok (.bipush i, 2)) (hv : (Int8.ofInt i).toInt32 = v) (hp : pc + 2 = pc') (hr : own_Fin n0 K P T pc' L (.int v :: S)) : own_Fin n0 K P T pc L (S) := by
  obtain ⟨p, l, e, R, s, m, args, below, meth, c⟩ := K
  obtain ⟨hx, hby, hml, hown, hret, hlk, hZ, rfl, hw⟩ := M
  obtain ⟨locs, X, hN, eT, hn, hcl, hsl⟩ := X
  obtain ⟨s2, o2, st, r⟩ := hr
  subst hp
  subst hv
  exact ⟨s2, o2, XS.bipush X.here hx rfl (hb hby hd) st, r⟩
theorem own_sipush (M : own_Mx Z a0 K code own mx ret rm) (X : own_Sx n0 K T h cl sl) {i : Int} {v : Int32} (hd : decode code pc = .ok (.sipush i, 3)) (hv : (Int16.ofInt i).toInt32 = v) (hp : pc + 3 = pc') (hr : own_Fin n0 K P T pc' L (.int v :: S)) : own_Fin n0 K P T pc L (S) := by
  obtain ⟨p, l, e, R, s, m, args, below, meth, c⟩ := K
  obtain ⟨hx, hby, hml, hown, hret, hlk, hZ, rfl, hw⟩ := M
  obtain ⟨locs, X, hN, eT, hn, hcl, hsl⟩ := X
  obtain ⟨s2, o2, st, r⟩ := hr
  subst hp
  subst hv
  exact ⟨s2, o2, XS.sipush X.here hx rfl (hb hby hd) st, r⟩
theorem own_lconst (M : own_Mx Z a0 K code own mx ret rm) (X : own_Sx n0 K T h cl sl) {i : Fin 2} {v : Int64} (hd : decode code pc = .ok (.lconst i, 1)) (hv : Int64.ofNat i = v) (hp : pc + 1 = pc') (hr : own_Fin n0 K P T pc' L (.long v :: S)) : own_Fin n0 K P T pc L (S) := by
  obtain ⟨p, l, e, R, s, m, args, below, meth, c⟩ := K
  obtain ⟨hx, hby, hml, hown, hret, hlk, hZ, rfl, hw⟩ := M
  obtain ⟨locs, X, hN, eT, hn, hcl, hsl⟩ := X
  obtain ⟨s2, o2, st, r⟩ := hr
  subst hp
  subst hv
  exact ⟨s2, o2, XS.lconst X.here hx rfl (hb hby hd) st, r⟩
theorem own_aconst_null (M : own_Mx Z a0 K code own mx ret rm) (X : own_Sx n0 K T h cl sl)  (hd : decode code pc = .ok (.aconst_null, 1)) (hp : pc + 1 = pc') (hr : own_Fin n0 K P T pc' L (.null :: S)) : own_Fin n0 K P T pc L (S) := by
  obtain ⟨p, l, e, R, s, m, args, below, meth, c⟩ := K
  obtain ⟨hx, hby, hml, hown, hret, hlk, hZ, rfl, hw⟩ := M
  obtain ⟨locs, X, hN, eT, hn, hcl, hsl⟩ := X
  obtain ⟨s2, o2, st, r⟩ := hr
  subst hp
  exact ⟨s2, o2, XS.aconstNull X.here hx rfl (hb hby hd) st, r⟩
theorem own_iadd (M : own_Mx Z a0 K code own mx ret rm) (X : own_Sx n0 K T h cl sl) {x y : Int32} (hd : decode code pc = .ok (.iadd, 1)) (hp : pc + 1 = pc') (hr : own_Fin n0 K P T pc' L (.int (x + y) :: S)) : own_Fin n0 K P T pc L (.int y :: .int x :: S) := by
  obtain ⟨p, l, e, R, s, m, args, below, meth, c⟩ := K
  obtain ⟨hx, hby, hml, hown, hret, hlk, hZ, rfl, hw⟩ := M
  obtain ⟨locs, X, hN, eT, hn, hcl, hsl⟩ := X
  obtain ⟨s2, o2, st, r⟩ := hr
  subst hp
  exact ⟨s2, o2, XS.iadd X.here hx rfl (hb hby hd) rfl st, r⟩
theorem own_ladd (M : own_Mx Z a0 K code own mx ret rm) (X : own_Sx n0 K T h cl sl) {x y : Int64} (hd : decode code pc = .ok (.ladd, 1)) (hp : pc + 1 = pc') (hr : own_Fin n0 K P T pc' L (.long (x + y) :: S)) : own_Fin n0 K P T pc L (.long y :: .long x :: S) := by
  obtain ⟨p, l, e, R, s, m, args, below, meth, c⟩ := K
  obtain ⟨hx, hby, hml, hown, hret, hlk, hZ, rfl, hw⟩ := M
  obtain ⟨locs, X, hN, eT, hn, hcl, hsl⟩ := X
  obtain ⟨s2, o2, st, r⟩ := hr
  subst hp
  exact ⟨s2, o2, XS.ladd X.here hx rfl (hb hby hd) rfl st, r⟩
theorem own_isub (M : own_Mx Z a0 K code own mx ret rm) (X : own_Sx n0 K T h cl sl) {x y : Int32} (hd : decode code pc = .ok (.isub, 1)) (hp : pc + 1 = pc') (hr : own_Fin n0 K P T pc' L (.int (x - y) :: S)) : own_Fin n0 K P T pc L (.int y :: .int x :: S) := by
  obtain ⟨p, l, e, R, s, m, args, below, meth, c⟩ := K
  obtain ⟨hx, hby, hml, hown, hret, hlk, hZ, rfl, hw⟩ := M
  obtain ⟨locs, X, hN, eT, hn, hcl, hsl⟩ := X
  obtain ⟨s2, o2, st, r⟩ := hr
  subst hp
  exact ⟨s2, o2, XS.isub X.here hx rfl (hb hby hd) rfl st, r⟩
theorem own_lsub (M : own_Mx Z a0 K code own mx ret rm) (X : own_Sx n0 K T h cl sl) {x y : Int64} (hd : decode code pc = .ok (.lsub, 1)) (hp : pc + 1 = pc') (hr : own_Fin n0 K P T pc' L (.long (x - y) :: S)) : own_Fin n0 K P T pc L (.long y :: .long x :: S) := by
  obtain ⟨p, l, e, R, s, m, args, below, meth, c⟩ := K
  obtain ⟨hx, hby, hml, hown, hret, hlk, hZ, rfl, hw⟩ := M
  obtain ⟨locs, X, hN, eT, hn, hcl, hsl⟩ := X
  obtain ⟨s2, o2, st, r⟩ := hr
  subst hp
  exact ⟨s2, o2, XS.lsub X.here hx rfl (hb hby hd) rfl st, r⟩
theorem own_imul (M : own_Mx Z a0 K code own mx ret rm) (X : own_Sx n0 K T h cl sl) {x y : Int32} (hd : decode code pc = .ok (.imul, 1)) (hp : pc + 1 = pc') (hr : own_Fin n0 K P T pc' L (.int (x * y) :: S)) : own_Fin n0 K P T pc L (.int y :: .int x :: S) := by
  obtain ⟨p, l, e, R, s, m, args, below, meth, c⟩ := K
  obtain ⟨hx, hby, hml, hown, hret, hlk, hZ, rfl, hw⟩ := M
  obtain ⟨locs, X, hN, eT, hn, hcl, hsl⟩ := X
  obtain ⟨s2, o2, st, r⟩ := hr
  subst hp
  exact ⟨s2, o2, XS.imul X.here hx rfl (hb hby hd) rfl st, r⟩
theorem own_lmul (M : own_Mx Z a0 K code own mx ret rm) (X : own_Sx n0 K T h cl sl) {x y : Int64} (hd : decode code pc = .ok (.lmul, 1)) (hp : pc + 1 = pc') (hr : own_Fin n0 K P T pc' L (.long (x * y) :: S)) : own_Fin n0 K P T pc L (.long y :: .long x :: S) := by
  obtain ⟨p, l, e, R, s, m, args, below, meth, c⟩ := K
  obtain ⟨hx, hby, hml, hown, hret, hlk, hZ, rfl, hw⟩ := M
  obtain ⟨locs, X, hN, eT, hn, hcl, hsl⟩ := X
  obtain ⟨s2, o2, st, r⟩ := hr
  subst hp
  exact ⟨s2, o2, XS.lmul X.here hx rfl (hb hby hd) rfl st, r⟩
theorem own_iand (M : own_Mx Z a0 K code own mx ret rm) (X : own_Sx n0 K T h cl sl) {x y : Int32} (hd : decode code pc = .ok (.iand, 1)) (hp : pc + 1 = pc') (hr : own_Fin n0 K P T pc' L (.int (x &&& y) :: S)) : own_Fin n0 K P T pc L (.int y :: .int x :: S) := by
  obtain ⟨p, l, e, R, s, m, args, below, meth, c⟩ := K
  obtain ⟨hx, hby, hml, hown, hret, hlk, hZ, rfl, hw⟩ := M
  obtain ⟨locs, X, hN, eT, hn, hcl, hsl⟩ := X
  obtain ⟨s2, o2, st, r⟩ := hr
  subst hp
  exact ⟨s2, o2, XS.iand X.here hx rfl (hb hby hd) rfl st, r⟩
theorem own_land (M : own_Mx Z a0 K code own mx ret rm) (X : own_Sx n0 K T h cl sl) {x y : Int64} (hd : decode code pc = .ok (.land, 1)) (hp : pc + 1 = pc') (hr : own_Fin n0 K P T pc' L (.long (x &&& y) :: S)) : own_Fin n0 K P T pc L (.long y :: .long x :: S) := by
  obtain ⟨p, l, e, R, s, m, args, below, meth, c⟩ := K
  obtain ⟨hx, hby, hml, hown, hret, hlk, hZ, rfl, hw⟩ := M
  obtain ⟨locs, X, hN, eT, hn, hcl, hsl⟩ := X
  obtain ⟨s2, o2, st, r⟩ := hr
  subst hp
  exact ⟨s2, o2, XS.land X.here hx rfl (hb hby hd) rfl st, r⟩
theorem own_ior (M : own_Mx Z a0 K code own mx ret rm) (X : own_Sx n0 K T h cl sl) {x y : Int32} (hd : decode code pc = .ok (.ior, 1)) (hp : pc + 1 = pc') (hr : own_Fin n0 K P T pc' L (.int (x ||| y) :: S)) : own_Fin n0 K P T pc L (.int y :: .int x :: S) := by
  obtain ⟨p, l, e, R, s, m, args, below, meth, c⟩ := K
  obtain ⟨hx, hby, hml, hown, hret, hlk, hZ, rfl, hw⟩ := M
  obtain ⟨locs, X, hN, eT, hn, hcl, hsl⟩ := X
  obtain ⟨s2, o2, st, r⟩ := hr
  subst hp
  exact ⟨s2, o2, XS.ior X.here hx rfl (hb hby hd) rfl st, r⟩
theorem own_lor (M : own_Mx Z a0 K code own mx ret rm) (X : own_Sx n0 K T h cl sl) {x y : Int64} (hd : decode code pc = .ok (.lor, 1)) (hp : pc + 1 = pc') (hr : own_Fin n0 K P T pc' L (.long (x ||| y) :: S)) : own_Fin n0 K P T pc L (.long y :: .long x :: S) := by
  obtain ⟨p, l, e, R, s, m, args, below, meth, c⟩ := K
  obtain ⟨hx, hby, hml, hown, hret, hlk, hZ, rfl, hw⟩ := M
  obtain ⟨locs, X, hN, eT, hn, hcl, hsl⟩ := X
  obtain ⟨s2, o2, st, r⟩ := hr
  subst hp
  exact ⟨s2, o2, XS.lor X.here hx rfl (hb hby hd) rfl st, r⟩
theorem own_ixor (M : own_Mx Z a0 K code own mx ret rm) (X : own_Sx n0 K T h cl sl) {x y : Int32} (hd : decode code pc = .ok (.ixor, 1)) (hp : pc + 1 = pc') (hr : own_Fin n0 K P T pc' L (.int (x ^^^ y) :: S)) : own_Fin n0 K P T pc L (.int y :: .int x :: S) := by
  obtain ⟨p, l, e, R, s, m, args, below, meth, c⟩ := K
  obtain ⟨hx, hby, hml, hown, hret, hlk, hZ, rfl, hw⟩ := M
  obtain ⟨locs, X, hN, eT, hn, hcl, hsl⟩ := X
  obtain ⟨s2, o2, st, r⟩ := hr
  subst hp
  exact ⟨s2, o2, XS.ixor X.here hx rfl (hb hby hd) rfl st, r⟩
theorem own_lxor (M : own_Mx Z a0 K code own mx ret rm) (X : own_Sx n0 K T h cl sl) {x y : Int64} (hd : decode code pc = .ok (.lxor, 1)) (hp : pc + 1 = pc') (hr : own_Fin n0 K P T pc' L (.long (x ^^^ y) :: S)) : own_Fin n0 K P T pc L (.long y :: .long x :: S) := by
  obtain ⟨p, l, e, R, s, m, args, below, meth, c⟩ := K
  obtain ⟨hx, hby, hml, hown, hret, hlk, hZ, rfl, hw⟩ := M
  obtain ⟨locs, X, hN, eT, hn, hcl, hsl⟩ := X
  obtain ⟨s2, o2, st, r⟩ := hr
  subst hp
  exact ⟨s2, o2, XS.lxor X.here hx rfl (hb hby hd) rfl st, r⟩
theorem own_ishl (M : own_Mx Z a0 K code own mx ret rm) (X : own_Sx n0 K T h cl sl) {x y : Int32} (hd : decode code pc = .ok (.ishl, 1)) (hp : pc + 1 = pc') (hr : own_Fin n0 K P T pc' L (.int (x <<< (y &&& 31)) :: S)) : own_Fin n0 K P T pc L (.int y :: .int x :: S) := by
  obtain ⟨p, l, e, R, s, m, args, below, meth, c⟩ := K
  obtain ⟨hx, hby, hml, hown, hret, hlk, hZ, rfl, hw⟩ := M
  obtain ⟨locs, X, hN, eT, hn, hcl, hsl⟩ := X
  obtain ⟨s2, o2, st, r⟩ := hr
  subst hp
  exact ⟨s2, o2, XS.ishl X.here hx rfl (hb hby hd) rfl st, r⟩
theorem own_ishr (M : own_Mx Z a0 K code own mx ret rm) (X : own_Sx n0 K T h cl sl) {x y : Int32} (hd : decode code pc = .ok (.ishr, 1)) (hp : pc + 1 = pc') (hr : own_Fin n0 K P T pc' L (.int (x >>> (y &&& 31)) :: S)) : own_Fin n0 K P T pc L (.int y :: .int x :: S) := by
  obtain ⟨p, l, e, R, s, m, args, below, meth, c⟩ := K
  obtain ⟨hx, hby, hml, hown, hret, hlk, hZ, rfl, hw⟩ := M
  obtain ⟨locs, X, hN, eT, hn, hcl, hsl⟩ := X
  obtain ⟨s2, o2, st, r⟩ := hr
  subst hp
  exact ⟨s2, o2, XS.ishr X.here hx rfl (hb hby hd) rfl st, r⟩
theorem own_iushr (M : own_Mx Z a0 K code own mx ret rm) (X : own_Sx n0 K T h cl sl) {x y : Int32} (hd : decode code pc = .ok (.iushr, 1)) (hp : pc + 1 = pc') (hr : own_Fin n0 K P T pc' L (.int ((x.toUInt32 >>> (y &&& 31).toUInt32).toInt32) :: S)) : own_Fin n0 K P T pc L (.int y :: .int x :: S) := by
  obtain ⟨p, l, e, R, s, m, args, below, meth, c⟩ := K
  obtain ⟨hx, hby, hml, hown, hret, hlk, hZ, rfl, hw⟩ := M
  obtain ⟨locs, X, hN, eT, hn, hcl, hsl⟩ := X
  obtain ⟨s2, o2, st, r⟩ := hr
  subst hp
  exact ⟨s2, o2, XS.iushr X.here hx rfl (hb hby hd) rfl st, r⟩
theorem own_lshl (M : own_Mx Z a0 K code own mx ret rm) (X : own_Sx n0 K T h cl sl) {x : Int64} {y : Int32} (hd : decode code pc = .ok (.lshl, 1)) (hp : pc + 1 = pc') (hr : own_Fin n0 K P T pc' L (.long (x <<< (y &&& 0x3f).toInt64) :: S)) : own_Fin n0 K P T pc L (.int y :: .long x :: S) := by
  obtain ⟨p, l, e, R, s, m, args, below, meth, c⟩ := K
  obtain ⟨hx, hby, hml, hown, hret, hlk, hZ, rfl, hw⟩ := M
  obtain ⟨locs, X, hN, eT, hn, hcl, hsl⟩ := X
  obtain ⟨s2, o2, st, r⟩ := hr
  subst hp
  exact ⟨s2, o2, XS.lshl X.here hx rfl (hb hby hd) rfl st, r⟩
theorem own_lshr (M : own_Mx Z a0 K code own mx ret rm) (X : own_Sx n0 K T h cl sl) {x : Int64} {y : Int32} (hd : decode code pc = .ok (.lshr, 1)) (hp : pc + 1 = pc') (hr : own_Fin n0 K P T pc' L (.long (x >>> (y &&& 0x3f).toInt64) :: S)) : own_Fin n0 K P T pc L (.int y :: .long x :: S) := by
  obtain ⟨p, l, e, R, s, m, args, below, meth, c⟩ := K
  obtain ⟨hx, hby, hml, hown, hret, hlk, hZ, rfl, hw⟩ := M
  obtain ⟨locs, X, hN, eT, hn, hcl, hsl⟩ := X
  obtain ⟨s2, o2, st, r⟩ := hr
  subst hp
  exact ⟨s2, o2, XS.lshr X.here hx rfl (hb hby hd) rfl st, r⟩
theorem own_lushr (M : own_Mx Z a0 K code own mx ret rm) (X : own_Sx n0 K T h cl sl) {x : Int64} {y : Int32} (hd : decode code pc = .ok (.lushr, 1)) (hp : pc + 1 = pc') (hr : own_Fin n0 K P T pc' L (.long ((x.toUInt64 >>> (y &&& 0x3f).toInt64.toUInt64).toInt64) :: S)) : own_Fin n0 K P T pc L (.int y :: .long x :: S) := by
  obtain ⟨p, l, e, R, s, m, args, below, meth, c⟩ := K
  obtain ⟨hx, hby, hml, hown, hret, hlk, hZ, rfl, hw⟩ := M
  obtain ⟨locs, X, hN, eT, hn, hcl, hsl⟩ := X
  obtain ⟨s2, o2, st, r⟩ := hr
  subst hp
  exact ⟨s2, o2, XS.lushr X.here hx rfl (hb hby hd) rfl st, r⟩
theorem own_idiv (M : own_Mx Z a0 K code own mx ret rm) (X : own_Sx n0 K T h cl sl) {x y : Int32} (hd : decode code pc = .ok (.idiv, 1)) (hy : y ≠ 0) (hp : pc + 1 = pc') (hr : own_Fin n0 K P T pc' L (.int (x / y) :: S)) : own_Fin n0 K P T pc L (.int y :: .int x :: S) := by
  obtain ⟨p, l, e, R, s, m, args, below, meth, c⟩ := K
  obtain ⟨hx, hby, hml, hown, hret, hlk, hZ, rfl, hw⟩ := M
  obtain ⟨locs, X, hN, eT, hn, hcl, hsl⟩ := X
  obtain ⟨s2, o2, st, r⟩ := hr
  subst hp
  exact ⟨s2, o2, XS.idiv X.here hx rfl (hb hby hd) rfl hy st, r⟩
theorem own_irem (M : own_Mx Z a0 K code own mx ret rm) (X : own_Sx n0 K T h cl sl) {x y : Int32} (hd : decode code pc = .ok (.irem, 1)) (hy : y ≠ 0) (hp : pc + 1 = pc') (hr : own_Fin n0 K P T pc' L (.int (x % y) :: S)) : own_Fin n0 K P T pc L (.int y :: .int x :: S) := by
  obtain ⟨p, l, e, R, s, m, args, below, meth, c⟩ := K
  obtain ⟨hx, hby, hml, hown, hret, hlk, hZ, rfl, hw⟩ := M
  obtain ⟨locs, X, hN, eT, hn, hcl, hsl⟩ := X
  obtain ⟨s2, o2, st, r⟩ := hr
  subst hp
  exact ⟨s2, o2, iremM X hx rfl (hb hby hd) rfl hy st, r⟩
theorem own_ldiv (M : own_Mx Z a0 K code own mx ret rm) (X : own_Sx n0 K T h cl sl) {x y : Int64} (hd : decode code pc = .ok (.ldiv, 1)) (hy : y ≠ 0) (hp : pc + 1 = pc') (hr : own_Fin n0 K P T pc' L (.long (x / y) :: S)) : own_Fin n0 K P T pc L (.long y :: .long x :: S) := by
  obtain ⟨p, l, e, R, s, m, args, below, meth, c⟩ := K
  obtain ⟨hx, hby, hml, hown, hret, hlk, hZ, rfl, hw⟩ := M
  obtain ⟨locs, X, hN, eT, hn, hcl, hsl⟩ := X
  obtain ⟨s2, o2, st, r⟩ := hr
  subst hp
  exact ⟨s2, o2, XS.ldiv X.here hx rfl (hb hby hd) rfl hy st, r⟩
theorem own_lrem (M : own_Mx Z a0 K code own mx ret rm) (X : own_Sx n0 K T h cl sl) {x y : Int64} (hd : decode code pc = .ok (.lrem, 1)) (hy : y ≠ 0) (hp : pc + 1 = pc') (hr : own_Fin n0 K P T pc' L (.long (x - (x / y) * y) :: S)) : own_Fin n0 K P T pc L (.long y :: .long x :: S) := by
  obtain ⟨p, l, e, R, s, m, args, below, meth, c⟩ := K
  obtain ⟨hx, hby, hml, hown, hret, hlk, hZ, rfl, hw⟩ := M
  obtain ⟨locs, X, hN, eT, hn, hcl, hsl⟩ := X
  obtain ⟨s2, o2, st, r⟩ := hr
  subst hp
  exact ⟨s2, o2, XS.lrem X.here hx rfl (hb hby hd) rfl hy st, r⟩
theorem own_ineg (M : own_Mx Z a0 K code own mx ret rm) (X : own_Sx n0 K T h cl sl) {x : Int32} (hd : decode code pc = .ok (.ineg, 1)) (hp : pc + 1 = pc') (hr : own_Fin n0 K P T pc' L (.int (-x) :: S)) : own_Fin n0 K P T pc L (.int x :: S) := by
  obtain ⟨p, l, e, R, s, m, args, below, meth, c⟩ := K
  obtain ⟨hx, hby, hml, hown, hret, hlk, hZ, rfl, hw⟩ := M
  obtain ⟨locs, X, hN, eT, hn, hcl, hsl⟩ := X
  obtain ⟨s2, o2, st, r⟩ := hr
  subst hp
  exact ⟨s2, o2, XS.ineg X.here hx rfl (hb hby hd) rfl st, r⟩
theorem own_lneg (M : own_Mx Z a0 K code own mx ret rm) (X : own_Sx n0 K T h cl sl) {x : Int64} (hd : decode code pc = .ok (.lneg, 1)) (hp : pc + 1 = pc') (hr : own_Fin n0 K P T pc' L (.long (-x) :: S)) : own_Fin n0 K P T pc L (.long x :: S) := by
  obtain ⟨p, l, e, R, s, m, args, below, meth, c⟩ := K
  obtain ⟨hx, hby, hml, hown, hret, hlk, hZ, rfl, hw⟩ := M
  obtain ⟨locs, X, hN, eT, hn, hcl, hsl⟩ := X
  obtain ⟨s2, o2, st, r⟩ := hr
  subst hp
  exact ⟨s2, o2, XS.lneg X.here hx rfl (hb hby hd) rfl st, r⟩
theorem own_i2l (M : own_Mx Z a0 K code own mx ret rm) (X : own_Sx n0 K T h cl sl) {x : Int32} (hd : decode code pc = .ok (.i2l, 1)) (hp : pc + 1 = pc') (hr : own_Fin n0 K P T pc' L (.long (x.toInt64) :: S)) : own_Fin n0 K P T pc L (.int x :: S) := by
  obtain ⟨p, l, e, R, s, m, args, below, meth, c⟩ := K
  obtain ⟨hx, hby, hml, hown, hret, hlk, hZ, rfl, hw⟩ := M
  obtain ⟨locs, X, hN, eT, hn, hcl, hsl⟩ := X
  obtain ⟨s2, o2, st, r⟩ := hr
  subst hp
  exact ⟨s2, o2, XS.i2l X.here hx rfl (hb hby hd) rfl st, r⟩
theorem own_l2i (M : own_Mx Z a0 K code own mx ret rm) (X : own_Sx n0 K T h cl sl) {x : Int64} (hd : decode code pc = .ok (.l2i, 1)) (hp : pc + 1 = pc') (hr : own_Fin n0 K P T pc' L (.int (x.toInt32) :: S)) : own_Fin n0 K P T pc L (.long x :: S) := by
  obtain ⟨p, l, e, R, s, m, args, below, meth, c⟩ := K
  obtain ⟨hx, hby, hml, hown, hret, hlk, hZ, rfl, hw⟩ := M
  obtain ⟨locs, X, hN, eT, hn, hcl, hsl⟩ := X
  obtain ⟨s2, o2, st, r⟩ := hr
  subst hp
  exact ⟨s2, o2, XS.l2i X.here hx rfl (hb hby hd) rfl st, r⟩
theorem own_i2b (M : own_Mx Z a0 K code own mx ret rm) (X : own_Sx n0 K T h cl sl) {x : Int32} (hd : decode code pc = .ok (.i2b, 1)) (hp : pc + 1 = pc') (hr : own_Fin n0 K P T pc' L (.int (x.toInt8.toInt32) :: S)) : own_Fin n0 K P T pc L (.int x :: S) := by
  obtain ⟨p, l, e, R, s, m, args, below, meth, c⟩ := K
  obtain ⟨hx, hby, hml, hown, hret, hlk, hZ, rfl, hw⟩ := M
  obtain ⟨locs, X, hN, eT, hn, hcl, hsl⟩ := X
  obtain ⟨s2, o2, st, r⟩ := hr
  subst hp
  exact ⟨s2, o2, XS.i2b X.here hx rfl (hb hby hd) rfl st, r⟩
theorem own_i2s (M : own_Mx Z a0 K code own mx ret rm) (X : own_Sx n0 K T h cl sl) {x : Int32} (hd : decode code pc = .ok (.i2s, 1)) (hp : pc + 1 = pc') (hr : own_Fin n0 K P T pc' L (.int (x.toInt16.toInt32) :: S)) : own_Fin n0 K P T pc L (.int x :: S) := by
  obtain ⟨p, l, e, R, s, m, args, below, meth, c⟩ := K
  obtain ⟨hx, hby, hml, hown, hret, hlk, hZ, rfl, hw⟩ := M
  obtain ⟨locs, X, hN, eT, hn, hcl, hsl⟩ := X
  obtain ⟨s2, o2, st, r⟩ := hr
  subst hp
  exact ⟨s2, o2, XS.i2s X.here hx rfl (hb hby hd) rfl st, r⟩
theorem own_i2c (M : own_Mx Z a0 K code own mx ret rm) (X : own_Sx n0 K T h cl sl) {x : Int32} (hd : decode code pc = .ok (.i2c, 1)) (hp : pc + 1 = pc') (hr : own_Fin n0 K P T pc' L (.int (x.toUInt32.toUInt16.toUInt32.toInt32) :: S)) : own_Fin n0 K P T pc L (.int x :: S) := by
  obtain ⟨p, l, e, R, s, m, args, below, meth, c⟩ := K
  obtain ⟨hx, hby, hml, hown, hret, hlk, hZ, rfl, hw⟩ := M
  obtain ⟨locs, X, hN, eT, hn, hcl, hsl⟩ := X
  obtain ⟨s2, o2, st, r⟩ := hr
  subst hp
  exact ⟨s2, o2, XS.i2c X.here hx rfl (hb hby hd) rfl st, r⟩
theorem own_iinc (M : own_Mx Z a0 K code own mx ret rm) (X : own_Sx n0 K T h cl sl) {k : Nat} {i : Int} {x v : Int32} (hd : decode code pc = .ok (.iinc k i, 3)) (hl : L[k]? = some (.val (.int x))) (hv : x + Int32.ofInt i = v) (hl' : storeLocals L k (.int v) = some L') (hp : pc + 3 = pc') (hr : own_Fin n0 K P T pc' L' (S)) : own_Fin n0 K P T pc L (S) := by
  obtain ⟨p, l, e, R, s, m, args, below, meth, c⟩ := K
  obtain ⟨hx, hby, hml, hown, hret, hlk, hZ, rfl, hw⟩ := M
  obtain ⟨locs, X, hN, eT, hn, hcl, hsl⟩ := X
  obtain ⟨s2, o2, st, r⟩ := hr
  subst hp
  subst hv
  exact ⟨s2, o2, XS.iinc X.here hx rfl (hb hby hd) hl hl' st, r⟩
theorem own_dup (M : own_Mx Z a0 K code own mx ret rm) (X : own_Sx n0 K T h cl sl) {v : Value} (hd : decode code pc = .ok (.dup, 1)) (hc : v.category = 1) (hp : pc + 1 = pc') (hr : own_Fin n0 K P T pc' L (v :: v :: S)) : own_Fin n0 K P T pc L (v :: S) := by
  obtain ⟨p, l, e, R, s, m, args, below, meth, c⟩ := K
  obtain ⟨hx, hby, hml, hown, hret, hlk, hZ, rfl, hw⟩ := M
  obtain ⟨locs, X, hN, eT, hn, hcl, hsl⟩ := X
  obtain ⟨s2, o2, st, r⟩ := hr
  subst hp
  exact ⟨s2, o2, XS.dup X.here hx rfl (hb hby hd) rfl hc st, r⟩
theorem own_pop (M : own_Mx Z a0 K code own mx ret rm) (X : own_Sx n0 K T h cl sl) {v : Value} (hd : decode code pc = .ok (.pop, 1)) (hc : v.category = 1) (hp : pc + 1 = pc') (hr : own_Fin n0 K P T pc' L (S)) : own_Fin n0 K P T pc L (v :: S) := by
  obtain ⟨p, l, e, R, s, m, args, below, meth, c⟩ := K
  obtain ⟨hx, hby, hml, hown, hret, hlk, hZ, rfl, hw⟩ := M
  obtain ⟨locs, X, hN, eT, hn, hcl, hsl⟩ := X
  obtain ⟨s2, o2, st, r⟩ := hr
  subst hp
  exact ⟨s2, o2, XS.pop X.here hx rfl (hb hby hd) rfl hc st, r⟩
theorem own_dup_x1 (M : own_Mx Z a0 K code own mx ret rm) (X : own_Sx n0 K T h cl sl) {v w : Value} (hd : decode code pc = .ok (.dup_x1, 1)) (hc : v.category = 1) (hc' : w.category = 1) (hp : pc + 1 = pc') (hr : own_Fin n0 K P T pc' L (v :: w :: v :: S)) : own_Fin n0 K P T pc L (v :: w :: S) := by
  obtain ⟨p, l, e, R, s, m, args, below, meth, c⟩ := K
  obtain ⟨hx, hby, hml, hown, hret, hlk, hZ, rfl, hw⟩ := M
  obtain ⟨locs, X, hN, eT, hn, hcl, hsl⟩ := X
  obtain ⟨s2, o2, st, r⟩ := hr
  subst hp
  exact ⟨s2, o2, XS.dupX1 X.here hx rfl (hb hby hd) rfl hc hc' st, r⟩
theorem own_dup2 (M : own_Mx Z a0 K code own mx ret rm) (X : own_Sx n0 K T h cl sl) {v w : Value} (hd : decode code pc = .ok (.dup2, 1)) (hc : v.category = 1) (hc' : w.category = 1) (hp : pc + 1 = pc') (hr : own_Fin n0 K P T pc' L (v :: w :: v :: w :: S)) : own_Fin n0 K P T pc L (v :: w :: S) := by
  obtain ⟨p, l, e, R, s, m, args, below, meth, c⟩ := K
  obtain ⟨hx, hby, hml, hown, hret, hlk, hZ, rfl, hw⟩ := M
  obtain ⟨locs, X, hN, eT, hn, hcl, hsl⟩ := X
  obtain ⟨s2, o2, st, r⟩ := hr
  subst hp
  exact ⟨s2, o2, XT.dup2 X.here hx rfl (hb hby hd) rfl hc hc' st, r⟩
theorem own_goto (M : own_Mx Z a0 K code own mx ret rm) (X : own_Sx n0 K T h cl sl) {o : Int} (hd : decode code pc = .ok (.goto o, 3)) (ho : 0 ≤ (pc : Int) + o) (hp : ((pc : Int) + o).toNat = pc') (hr : own_Fin n0 K P T pc' L S) : own_Fin n0 K P T pc L S := by
  obtain ⟨p, l, e, R, s, m, args, below, meth, c⟩ := K
  obtain ⟨hx, hby, hml, hown, hret, hlk, hZ, rfl, hw⟩ := M
  obtain ⟨locs, X, hN, eT, hn, hcl, hsl⟩ := X
  obtain ⟨s2, o2, st, r⟩ := hr
  exact ⟨s2, o2, XS.goto X.here hx rfl (pc0 := pc) rfl (hb hby hd) ho hp st, r⟩
theorem own_ldc (M : own_Mx Z a0 K code own mx ret rm) (X : own_Sx n0 K T h cl sl) {k : Nat} {v : Int32} (w : (Jvm.Cond.constant own k v).before a0 Z = true) (hd : decode code pc = .ok (.ldc k, 2)) (hp : pc + 2 = pc') (hr : own_Fin n0 K P T pc' L (.int v :: S)) : own_Fin n0 K P T pc L (S) := by
  obtain ⟨p, l, e, R, s, m, args, below, meth, c⟩ := K
  obtain ⟨hx, hby, hml, hown, hret, hlk, hZ, rfl, hw⟩ := M
  obtain ⟨locs, X, hN, eT, hn, hcl, hsl⟩ := X
  obtain ⟨s2, o2, st, r⟩ := hr
  subst hp
  exact ⟨s2, o2, X.ldcInt hx hown (mvT hZ w) (g := mkF m pc L S) rfl (hb hby hd) _ st, r⟩
theorem own_ldc_w (M : own_Mx Z a0 K code own mx ret rm) (X : own_Sx n0 K T h cl sl) {k : Nat} {v : Int32} (w : (Jvm.Cond.constant own k v).before a0 Z = true) (hd : decode code pc = .ok (.ldc_w k, 3)) (hp : pc + 3 = pc') (hr : own_Fin n0 K P T pc' L (.int v :: S)) : own_Fin n0 K P T pc L (S) := by
  obtain ⟨p, l, e, R, s, m, args, below, meth, c⟩ := K
  obtain ⟨hx, hby, hml, hown, hret, hlk, hZ, rfl, hw⟩ := M
  obtain ⟨locs, X, hN, eT, hn, hcl, hsl⟩ := X
  obtain ⟨s2, o2, st, r⟩ := hr
  subst hp
  exact ⟨s2, o2, X.ldcwInt hx hown (mvT hZ w) (g := mkF m pc L S) rfl (hb hby hd) _ st, r⟩
theorem own_ldc2_w (M : own_Mx Z a0 K code own mx ret rm) (X : own_Sx n0 K T h cl sl) {k : Nat} {v : Int64} (w : (Jvm.Cond.constantLong own k v).before a0 Z = true) (hd : decode code pc = .ok (.ldc2_w k, 3)) (hp : pc + 3 = pc') (hr : own_Fin n0 K P T pc' L (.long v :: S)) : own_Fin n0 K P T pc L (S) := by
  obtain ⟨p, l, e, R, s, m, args, below, meth, c⟩ := K
  obtain ⟨hx, hby, hml, hown, hret, hlk, hZ, rfl, hw⟩ := M
  obtain ⟨locs, X, hN, eT, hn, hcl, hsl⟩ := X
  obtain ⟨s2, o2, st, r⟩ := hr
  subst hp
  exact ⟨s2, o2, X.ldc2Long hx hown (mvT hZ w) (g := mkF m pc L S) rfl (hb hby hd) _ st, r⟩
theorem own_icmp_lt (M : own_Mx Z a0 K code own mx ret rm) (X : own_Sx n0 K T h cl sl) {x y : Int32} {o : Int} {pcY pcN : Nat} (hd : decode code pc = .ok (.if_icmp .lt o, 3)) (ho : 0 ≤ (pc : Int) + o) (hY : ((pc : Int) + o).toNat = pcY) (hpN : pc + 3 = pcN) (yes : x < y → own_Fin n0 K P T pcY L S) (no : ¬ x < y → own_Fin n0 K P T pcN L S) : own_Fin n0 K P T pc L (.int y :: .int x :: S) := by
  obtain ⟨p, l, e, R, s, m, args, below, meth, c⟩ := K
  obtain ⟨hx, hby, hml, hown, hret, hlk, hZ, rfl, hw⟩ := M
  obtain ⟨locs, X, hN, eT, hn, hcl, hsl⟩ := X
  subst hpN
  by_cases q : x < y
  · obtain ⟨s2, o2, st, r⟩ := yes q
    exact ⟨s2, o2, XS.icmpYes X.here hx rfl (pc0 := pc) rfl (hb hby hd) rfl (tlt q).1 ho hY st, r⟩
  · obtain ⟨s2, o2, st, r⟩ := no q
    exact ⟨s2, o2, XS.icmpNo X.here hx rfl (hb hby hd) rfl (flt q).1 st, r⟩
theorem own_if_lt (M : own_Mx Z a0 K code own mx ret rm) (X : own_Sx n0 K T h cl sl) {x : Int32} {o : Int} {pcY pcN : Nat} (hd : decode code pc = .ok (.ifCond .lt o, 3)) (ho : 0 ≤ (pc : Int) + o) (hY : ((pc : Int) + o).toNat = pcY) (hpN : pc + 3 = pcN) (yes : x < 0 → own_Fin n0 K P T pcY L S) (no : ¬ x < 0 → own_Fin n0 K P T pcN L S) : own_Fin n0 K P T pc L (.int x :: S) := by
  obtain ⟨p, l, e, R, s, m, args, below, meth, c⟩ := K
  obtain ⟨hx, hby, hml, hown, hret, hlk, hZ, rfl, hw⟩ := M
  obtain ⟨locs, X, hN, eT, hn, hcl, hsl⟩ := X
  subst hpN
  by_cases q : x < 0
  · obtain ⟨s2, o2, st, r⟩ := yes q
    exact ⟨s2, o2, XS.ifYes X.here hx rfl (pc0 := pc) rfl (hb hby hd) rfl ((if0 _ _).trans (tlt q).1) ho hY st, r⟩
  · obtain ⟨s2, o2, st, r⟩ := no q
    exact ⟨s2, o2, XS.ifNo X.here hx rfl (hb hby hd) rfl ((if0 _ _).trans (flt q).1) st, r⟩
theorem own_lcmp_lt (M : own_Mx Z a0 K code own mx ret rm) (X : own_Sx n0 K T h cl sl) {x y : Int64} {pc1 : Nat} {o : Int} {pcY pcN : Nat} (hdc : decode code pc = .ok (.lcmp, 1)) (h1 : pc + 1 = pc1) (hd : decode code pc1 = .ok (.ifCond .lt o, 3)) (ho : 0 ≤ (pc1 : Int) + o) (hY : ((pc1 : Int) + o).toNat = pcY) (hpN : pc1 + 3 = pcN) (yes : x < y → own_Fin n0 K P T pcY L S) (no : ¬ x < y → own_Fin n0 K P T pcN L S) : own_Fin n0 K P T pc L (.long y :: .long x :: S) := by
  obtain ⟨p, l, e, R, s, m, args, below, meth, c⟩ := K
  obtain ⟨hx, hby, hml, hown, hret, hlk, hZ, rfl, hw⟩ := M
  obtain ⟨locs, X, hN, eT, hn, hcl, hsl⟩ := X
  subst hpN h1
  by_cases q : x < y
  · obtain ⟨s2, o2, st, r⟩ := yes q
    exact ⟨s2, o2, XS.lcmp X.here hx rfl (hb hby hdc) rfl (XS.ifYes (g := mkF m (pc + 1) L (.int (lcmpW x y) :: S)) X.here hx rfl (pc0 := pc + 1) rfl (hb hby hd) rfl ((if0 _ _).trans (tlt ((lw_lt x y).mpr q)).1) ho hY st), r⟩
  · obtain ⟨s2, o2, st, r⟩ := no q
    exact ⟨s2, o2, XS.lcmp X.here hx rfl (hb hby hdc) rfl (XS.ifNo (g := mkF m (pc + 1) L (.int (lcmpW x y) :: S)) X.here hx rfl (hb hby hd) rfl ((if0 _ _).trans (flt (fun z => q ((lw_lt x y).mp z))).1) st), r⟩
theorem own_icmp_ge (M : own_Mx Z a0 K code own mx ret rm) (X : own_Sx n0 K T h cl sl) {x y : Int32} {o : Int} {pcY pcN : Nat} (hd : decode code pc = .ok (.if_icmp .ge o, 3)) (ho : 0 ≤ (pc : Int) + o) (hY : ((pc : Int) + o).toNat = pcY) (hpN : pc + 3 = pcN) (yes : ¬ x < y → own_Fin n0 K P T pcY L S) (no : x < y → own_Fin n0 K P T pcN L S) : own_Fin n0 K P T pc L (.int y :: .int x :: S) := by
  obtain ⟨p, l, e, R, s, m, args, below, meth, c⟩ := K
  obtain ⟨hx, hby, hml, hown, hret, hlk, hZ, rfl, hw⟩ := M
  obtain ⟨locs, X, hN, eT, hn, hcl, hsl⟩ := X
  subst hpN
  by_cases q : x < y
  · obtain ⟨s2, o2, st, r⟩ := no q
    exact ⟨s2, o2, XS.icmpNo X.here hx rfl (hb hby hd) rfl (tlt q).2.1 st, r⟩
  · obtain ⟨s2, o2, st, r⟩ := yes q
    exact ⟨s2, o2, XS.icmpYes X.here hx rfl (pc0 := pc) rfl (hb hby hd) rfl (flt q).2.1 ho hY st, r⟩
theorem own_if_ge (M : own_Mx Z a0 K code own mx ret rm) (X : own_Sx n0 K T h cl sl) {x : Int32} {o : Int} {pcY pcN : Nat} (hd : decode code pc = .ok (.ifCond .ge o, 3)) (ho : 0 ≤ (pc : Int) + o) (hY : ((pc : Int) + o).toNat = pcY) (hpN : pc + 3 = pcN) (yes : ¬ x < 0 → own_Fin n0 K P T pcY L S) (no : x < 0 → own_Fin n0 K P T pcN L S) : own_Fin n0 K P T pc L (.int x :: S) := by
  obtain ⟨p, l, e, R, s, m, args, below, meth, c⟩ := K
  obtain ⟨hx, hby, hml, hown, hret, hlk, hZ, rfl, hw⟩ := M
  obtain ⟨locs, X, hN, eT, hn, hcl, hsl⟩ := X
  subst hpN
  by_cases q : x < 0
  · obtain ⟨s2, o2, st, r⟩ := no q
    exact ⟨s2, o2, XS.ifNo X.here hx rfl (hb hby hd) rfl ((if0 _ _).trans (tlt q).2.1) st, r⟩
  · obtain ⟨s2, o2, st, r⟩ := yes q
    exact ⟨s2, o2, XS.ifYes X.here hx rfl (pc0 := pc) rfl (hb hby hd) rfl ((if0 _ _).trans (flt q).2.1) ho hY st, r⟩
theorem own_lcmp_ge (M : own_Mx Z a0 K code own mx ret rm) (X : own_Sx n0 K T h cl sl) {x y : Int64} {pc1 : Nat} {o : Int} {pcY pcN : Nat} (hdc : decode code pc = .ok (.lcmp, 1)) (h1 : pc + 1 = pc1) (hd : decode code pc1 = .ok (.ifCond .ge o, 3)) (ho : 0 ≤ (pc1 : Int) + o) (hY : ((pc1 : Int) + o).toNat = pcY) (hpN : pc1 + 3 = pcN) (yes : ¬ x < y → own_Fin n0 K P T pcY L S) (no : x < y → own_Fin n0 K P T pcN L S) : own_Fin n0 K P T pc L (.long y :: .long x :: S) := by
  obtain ⟨p, l, e, R, s, m, args, below, meth, c⟩ := K
  obtain ⟨hx, hby, hml, hown, hret, hlk, hZ, rfl, hw⟩ := M
  obtain ⟨locs, X, hN, eT, hn, hcl, hsl⟩ := X
  subst hpN h1
  by_cases q : x < y
  · obtain ⟨s2, o2, st, r⟩ := no q
    exact ⟨s2, o2, XS.lcmp X.here hx rfl (hb hby hdc) rfl (XS.ifNo (g := mkF m (pc + 1) L (.int (lcmpW x y) :: S)) X.here hx rfl (hb hby hd) rfl ((if0 _ _).trans (tlt ((lw_lt x y).mpr q)).2.1) st), r⟩
  · obtain ⟨s2, o2, st, r⟩ := yes q
    exact ⟨s2, o2, XS.lcmp X.here hx rfl (hb hby hdc) rfl (XS.ifYes (g := mkF m (pc + 1) L (.int (lcmpW x y) :: S)) X.here hx rfl (pc0 := pc + 1) rfl (hb hby hd) rfl ((if0 _ _).trans (flt (fun z => q ((lw_lt x y).mp z))).2.1) ho hY st), r⟩
theorem own_icmp_gt (M : own_Mx Z a0 K code own mx ret rm) (X : own_Sx n0 K T h cl sl) {x y : Int32} {o : Int} {pcY pcN : Nat} (hd : decode code pc = .ok (.if_icmp .gt o, 3)) (ho : 0 ≤ (pc : Int) + o) (hY : ((pc : Int) + o).toNat = pcY) (hpN : pc + 3 = pcN) (yes : y < x → own_Fin n0 K P T pcY L S) (no : ¬ y < x → own_Fin n0 K P T pcN L S) : own_Fin n0 K P T pc L (.int y :: .int x :: S) := by
  obtain ⟨p, l, e, R, s, m, args, below, meth, c⟩ := K
  obtain ⟨hx, hby, hml, hown, hret, hlk, hZ, rfl, hw⟩ := M
  obtain ⟨locs, X, hN, eT, hn, hcl, hsl⟩ := X
  subst hpN
  by_cases q : y < x
  · obtain ⟨s2, o2, st, r⟩ := yes q
    exact ⟨s2, o2, XS.icmpYes X.here hx rfl (pc0 := pc) rfl (hb hby hd) rfl (tlt q).2.2.1 ho hY st, r⟩
  · obtain ⟨s2, o2, st, r⟩ := no q
    exact ⟨s2, o2, XS.icmpNo X.here hx rfl (hb hby hd) rfl (flt q).2.2.1 st, r⟩
theorem own_if_gt (M : own_Mx Z a0 K code own mx ret rm) (X : own_Sx n0 K T h cl sl) {x : Int32} {o : Int} {pcY pcN : Nat} (hd : decode code pc = .ok (.ifCond .gt o, 3)) (ho : 0 ≤ (pc : Int) + o) (hY : ((pc : Int) + o).toNat = pcY) (hpN : pc + 3 = pcN) (yes : 0 < x → own_Fin n0 K P T pcY L S) (no : ¬ 0 < x → own_Fin n0 K P T pcN L S) : own_Fin n0 K P T pc L (.int x :: S) := by
  obtain ⟨p, l, e, R, s, m, args, below, meth, c⟩ := K
  obtain ⟨hx, hby, hml, hown, hret, hlk, hZ, rfl, hw⟩ := M
  obtain ⟨locs, X, hN, eT, hn, hcl, hsl⟩ := X
  subst hpN
  by_cases q : 0 < x
  · obtain ⟨s2, o2, st, r⟩ := yes q
    exact ⟨s2, o2, XS.ifYes X.here hx rfl (pc0 := pc) rfl (hb hby hd) rfl ((if0 _ _).trans (tlt q).2.2.1) ho hY st, r⟩
  · obtain ⟨s2, o2, st, r⟩ := no q
    exact ⟨s2, o2, XS.ifNo X.here hx rfl (hb hby hd) rfl ((if0 _ _).trans (flt q).2.2.1) st, r⟩
theorem own_lcmp_gt (M : own_Mx Z a0 K code own mx ret rm) (X : own_Sx n0 K T h cl sl) {x y : Int64} {pc1 : Nat} {o : Int} {pcY pcN : Nat} (hdc : decode code pc = .ok (.lcmp, 1)) (h1 : pc + 1 = pc1) (hd : decode code pc1 = .ok (.ifCond .gt o, 3)) (ho : 0 ≤ (pc1 : Int) + o) (hY : ((pc1 : Int) + o).toNat = pcY) (hpN : pc1 + 3 = pcN) (yes : y < x → own_Fin n0 K P T pcY L S) (no : ¬ y < x → own_Fin n0 K P T pcN L S) : own_Fin n0 K P T pc L (.long y :: .long x :: S) := by
  obtain ⟨p, l, e, R, s, m, args, below, meth, c⟩ := K
  obtain ⟨hx, hby, hml, hown, hret, hlk, hZ, rfl, hw⟩ := M
  obtain ⟨locs, X, hN, eT, hn, hcl, hsl⟩ := X
  subst hpN h1
  by_cases q : y < x
  · obtain ⟨s2, o2, st, r⟩ := yes q
    exact ⟨s2, o2, XS.lcmp X.here hx rfl (hb hby hdc) rfl (XS.ifYes (g := mkF m (pc + 1) L (.int (lcmpW x y) :: S)) X.here hx rfl (pc0 := pc + 1) rfl (hb hby hd) rfl ((if0 _ _).trans (tlt ((lw_gt x y).mpr q)).2.2.1) ho hY st), r⟩
  · obtain ⟨s2, o2, st, r⟩ := no q
    exact ⟨s2, o2, XS.lcmp X.here hx rfl (hb hby hdc) rfl (XS.ifNo (g := mkF m (pc + 1) L (.int (lcmpW x y) :: S)) X.here hx rfl (hb hby hd) rfl ((if0 _ _).trans (flt (fun z => q ((lw_gt x y).mp z))).2.2.1) st), r⟩
theorem own_icmp_le (M : own_Mx Z a0 K code own mx ret rm) (X : own_Sx n0 K T h cl sl) {x y : Int32} {o : Int} {pcY pcN : Nat} (hd : decode code pc = .ok (.if_icmp .le o, 3)) (ho : 0 ≤ (pc : Int) + o) (hY : ((pc : Int) + o).toNat = pcY) (hpN : pc + 3 = pcN) (yes : ¬ y < x → own_Fin n0 K P T pcY L S) (no : y < x → own_Fin n0 K P T pcN L S) : own_Fin n0 K P T pc L (.int y :: .int x :: S) := by
  obtain ⟨p, l, e, R, s, m, args, below, meth, c⟩ := K
  obtain ⟨hx, hby, hml, hown, hret, hlk, hZ, rfl, hw⟩ := M
  obtain ⟨locs, X, hN, eT, hn, hcl, hsl⟩ := X
  subst hpN
  by_cases q : y < x
  · obtain ⟨s2, o2, st, r⟩ := no q
    exact ⟨s2, o2, XS.icmpNo X.here hx rfl (hb hby hd) rfl (tlt q).2.2.2 st, r⟩
  · obtain ⟨s2, o2, st, r⟩ := yes q
    exact ⟨s2, o2, XS.icmpYes X.here hx rfl (pc0 := pc) rfl (hb hby hd) rfl (flt q).2.2.2 ho hY st, r⟩
theorem own_if_le (M : own_Mx Z a0 K code own mx ret rm) (X : own_Sx n0 K T h cl sl) {x : Int32} {o : Int} {pcY pcN : Nat} (hd : decode code pc = .ok (.ifCond .le o, 3)) (ho : 0 ≤ (pc : Int) + o) (hY : ((pc : Int) + o).toNat = pcY) (hpN : pc + 3 = pcN) (yes : ¬ 0 < x → own_Fin n0 K P T pcY L S) (no : 0 < x → own_Fin n0 K P T pcN L S) : own_Fin n0 K P T pc L (.int x :: S) := by
  obtain ⟨p, l, e, R, s, m, args, below, meth, c⟩ := K
  obtain ⟨hx, hby, hml, hown, hret, hlk, hZ, rfl, hw⟩ := M
  obtain ⟨locs, X, hN, eT, hn, hcl, hsl⟩ := X
  subst hpN
  by_cases q : 0 < x
  · obtain ⟨s2, o2, st, r⟩ := no q
    exact ⟨s2, o2, XS.ifNo X.here hx rfl (hb hby hd) rfl ((if0 _ _).trans (tlt q).2.2.2) st, r⟩
  · obtain ⟨s2, o2, st, r⟩ := yes q
    exact ⟨s2, o2, XS.ifYes X.here hx rfl (pc0 := pc) rfl (hb hby hd) rfl ((if0 _ _).trans (flt q).2.2.2) ho hY st, r⟩
theorem own_lcmp_le (M : own_Mx Z a0 K code own mx ret rm) (X : own_Sx n0 K T h cl sl) {x y : Int64} {pc1 : Nat} {o : Int} {pcY pcN : Nat} (hdc : decode code pc = .ok (.lcmp, 1)) (h1 : pc + 1 = pc1) (hd : decode code pc1 = .ok (.ifCond .le o, 3)) (ho : 0 ≤ (pc1 : Int) + o) (hY : ((pc1 : Int) + o).toNat = pcY) (hpN : pc1 + 3 = pcN) (yes : ¬ y < x → own_Fin n0 K P T pcY L S) (no : y < x → own_Fin n0 K P T pcN L S) : own_Fin n0 K P T pc L (.long y :: .long x :: S) := by
  obtain ⟨p, l, e, R, s, m, args, below, meth, c⟩ := K
  obtain ⟨hx, hby, hml, hown, hret, hlk, hZ, rfl, hw⟩ := M
  obtain ⟨locs, X, hN, eT, hn, hcl, hsl⟩ := X
  subst hpN h1
  by_cases q : y < x
  · obtain ⟨s2, o2, st, r⟩ := no q
    exact ⟨s2, o2, XS.lcmp X.here hx rfl (hb hby hdc) rfl (XS.ifNo (g := mkF m (pc + 1) L (.int (lcmpW x y) :: S)) X.here hx rfl (hb hby hd) rfl ((if0 _ _).trans (tlt ((lw_gt x y).mpr q)).2.2.2) st), r⟩
  · obtain ⟨s2, o2, st, r⟩ := yes q
    exact ⟨s2, o2, XS.lcmp X.here hx rfl (hb hby hdc) rfl (XS.ifYes (g := mkF m (pc + 1) L (.int (lcmpW x y) :: S)) X.here hx rfl (pc0 := pc + 1) rfl (hb hby hd) rfl ((if0 _ _).trans (flt (fun z => q ((lw_gt x y).mp z))).2.2.2) ho hY st), r⟩
theorem own_icmp_eq (M : own_Mx Z a0 K code own mx ret rm) (X : own_Sx n0 K T h cl sl) {x y : Int32} {o : Int} {pcY pcN : Nat} (hd : decode code pc = .ok (.if_icmp .eq o, 3)) (ho : 0 ≤ (pc : Int) + o) (hY : ((pc : Int) + o).toNat = pcY) (hpN : pc + 3 = pcN) (yes : x = y → own_Fin n0 K P T pcY L S) (no : ¬ x = y → own_Fin n0 K P T pcN L S) : own_Fin n0 K P T pc L (.int y :: .int x :: S) := by
  obtain ⟨p, l, e, R, s, m, args, below, meth, c⟩ := K
  obtain ⟨hx, hby, hml, hown, hret, hlk, hZ, rfl, hw⟩ := M
  obtain ⟨locs, X, hN, eT, hn, hcl, hsl⟩ := X
  subst hpN
  by_cases q : x = y
  · obtain ⟨s2, o2, st, r⟩ := yes q
    exact ⟨s2, o2, XS.icmpYes X.here hx rfl (pc0 := pc) rfl (hb hby hd) rfl (teq q).1 ho hY st, r⟩
  · obtain ⟨s2, o2, st, r⟩ := no q
    exact ⟨s2, o2, XS.icmpNo X.here hx rfl (hb hby hd) rfl (feq q).1 st, r⟩
theorem own_if_eq (M : own_Mx Z a0 K code own mx ret rm) (X : own_Sx n0 K T h cl sl) {x : Int32} {o : Int} {pcY pcN : Nat} (hd : decode code pc = .ok (.ifCond .eq o, 3)) (ho : 0 ≤ (pc : Int) + o) (hY : ((pc : Int) + o).toNat = pcY) (hpN : pc + 3 = pcN) (yes : x = 0 → own_Fin n0 K P T pcY L S) (no : ¬ x = 0 → own_Fin n0 K P T pcN L S) : own_Fin n0 K P T pc L (.int x :: S) := by
  obtain ⟨p, l, e, R, s, m, args, below, meth, c⟩ := K
  obtain ⟨hx, hby, hml, hown, hret, hlk, hZ, rfl, hw⟩ := M
  obtain ⟨locs, X, hN, eT, hn, hcl, hsl⟩ := X
  subst hpN
  by_cases q : x = 0
  · obtain ⟨s2, o2, st, r⟩ := yes q
    exact ⟨s2, o2, XS.ifYes X.here hx rfl (pc0 := pc) rfl (hb hby hd) rfl ((if0 _ _).trans (teq q).1) ho hY st, r⟩
  · obtain ⟨s2, o2, st, r⟩ := no q
    exact ⟨s2, o2, XS.ifNo X.here hx rfl (hb hby hd) rfl ((if0 _ _).trans (feq q).1) st, r⟩
theorem own_lcmp_eq (M : own_Mx Z a0 K code own mx ret rm) (X : own_Sx n0 K T h cl sl) {x y : Int64} {pc1 : Nat} {o : Int} {pcY pcN : Nat} (hdc : decode code pc = .ok (.lcmp, 1)) (h1 : pc + 1 = pc1) (hd : decode code pc1 = .ok (.ifCond .eq o, 3)) (ho : 0 ≤ (pc1 : Int) + o) (hY : ((pc1 : Int) + o).toNat = pcY) (hpN : pc1 + 3 = pcN) (yes : x = y → own_Fin n0 K P T pcY L S) (no : ¬ x = y → own_Fin n0 K P T pcN L S) : own_Fin n0 K P T pc L (.long y :: .long x :: S) := by
  obtain ⟨p, l, e, R, s, m, args, below, meth, c⟩ := K
  obtain ⟨hx, hby, hml, hown, hret, hlk, hZ, rfl, hw⟩ := M
  obtain ⟨locs, X, hN, eT, hn, hcl, hsl⟩ := X
  subst hpN h1
  by_cases q : x = y
  · obtain ⟨s2, o2, st, r⟩ := yes q
    exact ⟨s2, o2, XS.lcmp X.here hx rfl (hb hby hdc) rfl (XS.ifYes (g := mkF m (pc + 1) L (.int (lcmpW x y) :: S)) X.here hx rfl (pc0 := pc + 1) rfl (hb hby hd) rfl ((if0 _ _).trans (teq ((lw_eq x y).mpr q)).1) ho hY st), r⟩
  · obtain ⟨s2, o2, st, r⟩ := no q
    exact ⟨s2, o2, XS.lcmp X.here hx rfl (hb hby hdc) rfl (XS.ifNo (g := mkF m (pc + 1) L (.int (lcmpW x y) :: S)) X.here hx rfl (hb hby hd) rfl ((if0 _ _).trans (feq (fun z => q ((lw_eq x y).mp z))).1) st), r⟩
theorem own_icmp_ne (M : own_Mx Z a0 K code own mx ret rm) (X : own_Sx n0 K T h cl sl) {x y : Int32} {o : Int} {pcY pcN : Nat} (hd : decode code pc = .ok (.if_icmp .ne o, 3)) (ho : 0 ≤ (pc : Int) + o) (hY : ((pc : Int) + o).toNat = pcY) (hpN : pc + 3 = pcN) (yes : ¬ x = y → own_Fin n0 K P T pcY L S) (no : x = y → own_Fin n0 K P T pcN L S) : own_Fin n0 K P T pc L (.int y :: .int x :: S) := by
  obtain ⟨p, l, e, R, s, m, args, below, meth, c⟩ := K
  obtain ⟨hx, hby, hml, hown, hret, hlk, hZ, rfl, hw⟩ := M
  obtain ⟨locs, X, hN, eT, hn, hcl, hsl⟩ := X
  subst hpN
  by_cases q : x = y
  · obtain ⟨s2, o2, st, r⟩ := no q
    exact ⟨s2, o2, XS.icmpNo X.here hx rfl (hb hby hd) rfl (teq q).2 st, r⟩
  · obtain ⟨s2, o2, st, r⟩ := yes q
    exact ⟨s2, o2, XS.icmpYes X.here hx rfl (pc0 := pc) rfl (hb hby hd) rfl (feq q).2 ho hY st, r⟩
theorem own_if_ne (M : own_Mx Z a0 K code own mx ret rm) (X : own_Sx n0 K T h cl sl) {x : Int32} {o : Int} {pcY pcN : Nat} (hd : decode code pc = .ok (.ifCond .ne o, 3)) (ho : 0 ≤ (pc : Int) + o) (hY : ((pc : Int) + o).toNat = pcY) (hpN : pc + 3 = pcN) (yes : ¬ x = 0 → own_Fin n0 K P T pcY L S) (no : x = 0 → own_Fin n0 K P T pcN L S) : own_Fin n0 K P T pc L (.int x :: S) := by
  obtain ⟨p, l, e, R, s, m, args, below, meth, c⟩ := K
  obtain ⟨hx, hby, hml, hown, hret, hlk, hZ, rfl, hw⟩ := M
  obtain ⟨locs, X, hN, eT, hn, hcl, hsl⟩ := X
  subst hpN
  by_cases q : x = 0
  · obtain ⟨s2, o2, st, r⟩ := no q
    exact ⟨s2, o2, XS.ifNo X.here hx rfl (hb hby hd) rfl ((if0 _ _).trans (teq q).2) st, r⟩
  · obtain ⟨s2, o2, st, r⟩ := yes q
    exact ⟨s2, o2, XS.ifYes X.here hx rfl (pc0 := pc) rfl (hb hby hd) rfl ((if0 _ _).trans (feq q).2) ho hY st, r⟩
theorem own_lcmp_ne (M : own_Mx Z a0 K code own mx ret rm) (X : own_Sx n0 K T h cl sl) {x y : Int64} {pc1 : Nat} {o : Int} {pcY pcN : Nat} (hdc : decode code pc = .ok (.lcmp, 1)) (h1 : pc + 1 = pc1) (hd : decode code pc1 = .ok (.ifCond .ne o, 3)) (ho : 0 ≤ (pc1 : Int) + o) (hY : ((pc1 : Int) + o).toNat = pcY) (hpN : pc1 + 3 = pcN) (yes : ¬ x = y → own_Fin n0 K P T pcY L S) (no : x = y → own_Fin n0 K P T pcN L S) : own_Fin n0 K P T pc L (.long y :: .long x :: S) := by
  obtain ⟨p, l, e, R, s, m, args, below, meth, c⟩ := K
  obtain ⟨hx, hby, hml, hown, hret, hlk, hZ, rfl, hw⟩ := M
  obtain ⟨locs, X, hN, eT, hn, hcl, hsl⟩ := X
  subst hpN h1
  by_cases q : x = y
  · obtain ⟨s2, o2, st, r⟩ := no q
    exact ⟨s2, o2, XS.lcmp X.here hx rfl (hb hby hdc) rfl (XS.ifNo (g := mkF m (pc + 1) L (.int (lcmpW x y) :: S)) X.here hx rfl (hb hby hd) rfl ((if0 _ _).trans (teq ((lw_eq x y).mpr q)).2) st), r⟩
  · obtain ⟨s2, o2, st, r⟩ := yes q
    exact ⟨s2, o2, XS.lcmp X.here hx rfl (hb hby hdc) rfl (XS.ifYes (g := mkF m (pc + 1) L (.int (lcmpW x y) :: S)) X.here hx rfl (pc0 := pc + 1) rfl (hb hby hd) rfl ((if0 _ _).trans (feq (fun z => q ((lw_eq x y).mp z))).2) ho hY st), r⟩
theorem own_callS (M : own_Mx Z a0 K code own mx ret rm) (X : own_Sx n0 K T h cl sl) {y : MethodName} {ycode : ByteArray} {ymx : Nat} {yret : Option FieldType} {yrm : Room} {idx : Nat} {Q : Option Value → Heap → Prop} {ps : List FieldType} {yr : Option FieldType} (argsL : List Value)
    (w1 : (Jvm.Cond.methodLink own idx y).before a0 Z = true) (w2 : (Jvm.Cond.static y).before a0 Z = true) (w3 : (Jvm.Cond.initialized y.cls).before a0 Z = true) (w4 : (Jvm.Cond.code y ycode ymx yret).before a0 Z = true) (hy : y.cls ≠ "java/lang/invoke/MethodHandle" ∧ y.cls ≠ "java/lang/invoke/VarHandle")
    (hM : own_Met K.2.1 Z n0 y ycode ymx yret yrm argsL.toArray h Q) (hL : L.size = mx) (hd : decode code pc = .ok (.invokestatic idx, 3)) (hp : pc + 3 = pc') (hpd : parseMethodDescriptor y.desc = some ⟨ps, yr⟩) (hlen : argsL.length = ps.length) (hS : S = argsL.reverse ++ rest)
    (W : Nat) (hW : (rest.map fun v => v.category).sum ≤ W) (hf : yrm.frames + 1 ≤ rm.frames) (hl : W + (ymx + 11) + yrm.locals ≤ rm.locals) (hc : cl + yrm.cells ≤ rm.cells) (hs : sl + yrm.slots ≤ rm.slots)
    (hr : ∀ T' h' v, own_Sx n0 K T' h' (cl + yrm.cells) (sl + yrm.slots) → Q v h' → own_Fin n0 K P T' pc' L (v.toList ++ rest)) : own_Fin n0 K P T pc L S := by
  obtain ⟨p, l, e, R, s, m, args, below, meth, c⟩ := K
  obtain ⟨hx, hby, hml, hown, hret, hlk, hZ, rfl, hw⟩ := M
  obtain ⟨locs, X, hN, eT, hn, hcl, hsl⟩ := X
  obtain ⟨v, vm1, ⟨T1, L1, k1, n1⟩, -, X1, ⟨Lc, hQ, l1, y1, z1⟩, st⟩ := Jvm.LawKit.callS X hx (y := y) hown (mvT hZ w1) (mvT hZ w2) (mvT hZ w3) (mvT hZ w4) hy (backOf (W := W) (Q := fun v h L => Q v h ∧ Fr n0 L) (hM []) hZ w4 w3 hf hl) (g := mkF m pc L S) rfl (by rw [hml]; exact hL) (argsL := argsL) (rest := rest) (lenOf hpd hlen) hS (by show 2 * 0 + _ ≤ W; omega) (hb hby hd) (fun _ _ => ⟨rfl, eT, hc, hs⟩)
  dsimp only [Pt.U, Pt.locs, Pt.cells, Pt.slots] at X1 l1 y1 z1 st hQ
  subst l1 y1 z1 hp
  obtain ⟨s2, o2, st2, r⟩ := hr T1 _ v ⟨_, X1, Fr.app hN hQ.2, rfl, hn, hc, hs⟩ hQ.1
  exact ⟨s2, o2, st _ st2, r⟩
theorem own_callP (M : own_Mx Z a0 K code own mx ret rm) (X : own_Sx n0 K T h cl sl) {y : MethodName} {ycode : ByteArray} {ymx : Nat} {yret : Option FieldType} {yrm : Room} {idx : Nat} {ps : List FieldType} {yr : Option FieldType} {w : Value} (argsL : List Value)
    (w1 : (Jvm.Cond.methodLink own idx y).before a0 Z = true) (w2 : (Jvm.Cond.static y).before a0 Z = true) (w3 : (Jvm.Cond.initialized y.cls).before a0 Z = true) (w4 : (Jvm.Cond.code y ycode ymx yret).before a0 Z = true) (hy : y.cls ≠ "java/lang/invoke/MethodHandle" ∧ y.cls ≠ "java/lang/invoke/VarHandle")
    (hM : own_Met K.2.1 Z n0 y ycode ymx yret yrm argsL.toArray h (fun v h' => v = some w ∧ h' = h)) (hL : L.size = mx) (hd : decode code pc = .ok (.invokestatic idx, 3)) (hp : pc + 3 = pc') (hpd : parseMethodDescriptor y.desc = some ⟨ps, yr⟩) (hlen : argsL.length = ps.length) (hS : S = argsL.reverse ++ rest)
    (W : Nat) (hW : (rest.map fun v => v.category).sum ≤ W) (hf : yrm.frames + 1 ≤ rm.frames) (hl : W + (ymx + 11) + yrm.locals ≤ rm.locals) (hc0 : yrm.cells = 0) (hs0 : yrm.slots = 0)
    (hr : ∀ T', own_Sx n0 K T' h cl sl → own_Fin n0 K P T' pc' L (w :: rest)) : own_Fin n0 K P T pc L S := by
  have hcs : cl ≤ rm.cells ∧ sl ≤ rm.slots := by
    obtain ⟨p, l, e, R, s, m, args, below, meth, c⟩ := K
    obtain ⟨hx, hby, hml, hown, hret, hlk, hZ, rfl, hw⟩ := M
    obtain ⟨locs, X, hN, eT, hn, hcl, hsl⟩ := X
    exact ⟨hcl, hsl⟩
  refine own_callS M X argsL w1 w2 w3 w4 hy hM hL hd hp hpd hlen hS W hW hf hl (by rw [hc0]; exact hcs.1) (by rw [hs0]; exact hcs.2) ?_
  rintro T' h' v X' ⟨rfl, rfl⟩
  rw [hc0, hs0] at X'
  exact hr T' X'
theorem own_callP0 (M : own_Mx Z a0 K code own mx ret rm) (X : own_Sx n0 K T h cl sl) {y : MethodName} {ycode : ByteArray} {ymx : Nat} {yret : Option FieldType} {yrm : Room} {idx : Nat} {ps : List FieldType} {yr : Option FieldType} (argsL : List Value)
    (w1 : (Jvm.Cond.methodLink own idx y).before a0 Z = true) (w2 : (Jvm.Cond.static y).before a0 Z = true) (w3 : (Jvm.Cond.initialized y.cls).before a0 Z = true) (w4 : (Jvm.Cond.code y ycode ymx yret).before a0 Z = true) (hy : y.cls ≠ "java/lang/invoke/MethodHandle" ∧ y.cls ≠ "java/lang/invoke/VarHandle")
    (hM : own_Met K.2.1 Z n0 y ycode ymx yret yrm argsL.toArray h (fun v h' => v = none ∧ h' = h)) (hL : L.size = mx) (hd : decode code pc = .ok (.invokestatic idx, 3)) (hp : pc + 3 = pc') (hpd : parseMethodDescriptor y.desc = some ⟨ps, yr⟩) (hlen : argsL.length = ps.length) (hS : S = argsL.reverse ++ rest)
    (W : Nat) (hW : (rest.map fun v => v.category).sum ≤ W) (hf : yrm.frames + 1 ≤ rm.frames) (hl : W + (ymx + 11) + yrm.locals ≤ rm.locals) (hc0 : yrm.cells = 0) (hs0 : yrm.slots = 0)
    (hr : ∀ T', own_Sx n0 K T' h cl sl → own_Fin n0 K P T' pc' L (rest)) : own_Fin n0 K P T pc L S := by
  have hcs : cl ≤ rm.cells ∧ sl ≤ rm.slots := by
    obtain ⟨p, l, e, R, s, m, args, below, meth, c⟩ := K
    obtain ⟨hx, hby, hml, hown, hret, hlk, hZ, rfl, hw⟩ := M
    obtain ⟨locs, X, hN, eT, hn, hcl, hsl⟩ := X
    exact ⟨hcl, hsl⟩
  refine own_callS M X argsL w1 w2 w3 w4 hy hM hL hd hp hpd hlen hS W hW hf hl (by rw [hc0]; exact hcs.1) (by rw [hs0]; exact hcs.2) ?_
  rintro T' h' v X' ⟨rfl, rfl⟩
  rw [hc0, hs0] at X'
  exact hr T' X'
/-! arrays: n places, place j holds f j -/
def own_Va (Z : State) (h : Heap) (a : Addr) (ty : FieldType) (n : Nat) (f : Nat → Value) : Prop :=
  ∃ c : Cell, Arr Z h a c ty ∧ c.slots.size = n ∧ n < 2 ^ 31 ∧ (∀ j, j < n → c.slots[j]? = some (f j)) ∧ ∀ j, j < n → fits ty (f j) = true
def own_upd (f : Nat → Value) (i : Nat) (v : Value) : Nat → Value := fun j => if j = i then v else f j
theorem own_Va.lt {a : Addr} {ty : FieldType} {n : Nat} {f : Nat → Value} (V : own_Va Z h a ty n f) : a < h.size := by obtain ⟨c, A, -⟩ := V; exact A.lt
theorem own_Va.small {a : Addr} {ty : FieldType} {n : Nat} {f : Nat → Value} (V : own_Va Z h a ty n f) : n < 2 ^ 31 := by obtain ⟨c, A, -, q, -⟩ := V; exact q
theorem own_Va.ext {h' : Heap} {a : Addr} {ty : FieldType} {n : Nat} {f : Nat → Value} (V : own_Va Z h a ty n f) (E : Ext h h') : own_Va Z h' a ty n f := by obtain ⟨c, A, r⟩ := V; exact ⟨c, A.ext E, r⟩
theorem own_Va.keep {h' : Heap} {ws : List Addr} {a : Addr} {ty : FieldType} {n : Nat} {f : Nat → Value} (V : own_Va Z h a ty n f) (K : Keep h h' ws) (q : a ∉ ws) : own_Va Z h' a ty n f := by obtain ⟨c, A, r⟩ := V; exact ⟨c, ⟨K.2.1 a c A.1 q, A.2⟩, r⟩
theorem own_Va.congr {a : Addr} {ty : FieldType} {n : Nat} {f g : Nat → Value} (V : own_Va Z h a ty n f) (q : ∀ j, j < n → f j = g j) : own_Va Z h a ty n g := by
  obtain ⟨c, A, r1, r2, r3, r4⟩ := V
  exact ⟨c, A, r1, r2, fun j hj => by rw [← q j hj]; exact r3 j hj, fun j hj => by rw [← q j hj]; exact r4 j hj⟩
theorem own_Va.wr {h' : Heap} {a : Addr} {ty : FieldType} {n i : Nat} {f : Nat → Value} {v : Value} (V : own_Va Z h a ty n f) (W : Wr h h' a i v) (hf : fits ty v = true) : own_Va Z h' a ty n (own_upd f i v) := by
  obtain ⟨c, A, r1, r2, r3, r4⟩ := V
  refine ⟨c.setSlot i v, A.same W, by rw [sz_set]; exact r1, r2, fun j hj => ?_, fun j hj => ?_⟩
  · have hj' : j < c.slots.size := by omega
    by_cases q : j = i
    · subst q; simp [Cell.setSlot, own_upd, hj']
    · have q' : ¬ i = j := fun z => q z.symm
      simp only [Cell.setSlot, own_upd, if_neg q, Array.getElem?_setIfInBounds, if_neg q']
      exact r3 j hj
  · by_cases q : j = i
    · simp only [own_upd, if_pos q]; exact hf
    · simp only [own_upd, if_neg q]; exact r4 j hj
theorem own_upd_eq {f : Nat → Value} {i : Nat} {v : Value} : own_upd f i v i = v := if_pos rfl
theorem own_upd_ne {f : Nat → Value} {i j : Nat} {v : Value} (q : j ≠ i) : own_upd f i v j = f j := if_neg q
/-- an array of ints (bytes) by the list of its values; of longs -/
def own_lsi (ws : List Int32) : Nat → Value := fun j => .int (ws.getD j 0)
def own_lsj (ws : List Int64) : Nat → Value := fun j => .long (ws.getD j 0)
theorem own_zeroi {ty : FieldType} (ws : List Int32) (n : Nat) (hw : ws = List.replicate n 0) (hd : defaultValue ty = .int 0 := by rfl) : ∀ j, j < n → (fun _ : Nat => defaultValue ty) j = own_lsi ws j := fun j hj => by
  show defaultValue ty = .int (ws.getD j 0)
  rw [hw, hd]; simp [List.getD, hj]
theorem own_zeroj {ty : FieldType} (ws : List Int64) (n : Nat) (hw : ws = List.replicate n 0) (hd : defaultValue ty = .long 0 := by rfl) : ∀ j, j < n → (fun _ : Nat => defaultValue ty) j = own_lsj ws j := fun j hj => by
  show defaultValue ty = .long (ws.getD j 0)
  rw [hw, hd]; simp [List.getD, hj]
theorem own_seti {ws ws' : List Int32} {i n : Nat} {v : Int32} (hs : ws.set i v = ws') (hi : i < ws.length) : ∀ j, j < n → own_upd (own_lsi ws) i (.int v) j = own_lsi ws' j := fun j hj => by
  subst hs
  by_cases q : j = i
  · subst q; simp [own_upd, own_lsi, List.getD, hi]
  · have q' : ¬ i = j := fun z => q z.symm
    simp [own_upd, own_lsi, List.getD, q, q']
theorem own_setj {ws ws' : List Int64} {i n : Nat} {v : Int64} (hs : ws.set i v = ws') (hi : i < ws.length) : ∀ j, j < n → own_upd (own_lsj ws) i (.long v) j = own_lsj ws' j := fun j hj => by
  subst hs
  by_cases q : j = i
  · subst q; simp [own_upd, own_lsj, List.getD, hi]
  · have q' : ¬ i = j := fun z => q z.symm
    simp [own_upd, own_lsj, List.getD, q, q']
theorem own_nat {j : Int32} {i : Nat} (hi : j.toInt = i) : j.toNatClampNeg = i := by simp [Int32.toNatClampNeg, hi]
theorem own_inb {c : Cell} {n i : Nat} {j : Int32} (hs : c.slots.size = n) (hi : j.toInt = i) (hin : i < n) : ¬ (j < 0 ∨ c.slots.size ≤ j.toNatClampNeg) := by
  rw [own_nat hi, hs, Int32.lt_iff_toInt_lt, hi, Int32.toInt_zero]; omega
theorem own_baload (M : own_Mx Z a0 K code own mx ret rm) (X : own_Sx n0 K T h cl sl) {a : Addr} {n i : Nat} {f : Nat → Value} {j : Int32} {v : Value} (V : own_Va Z h a .byte n f) (hi : j.toInt = i) (hin : i < n) (hv : f i = v) (hd : decode code pc = .ok (.baload, 1)) (hp : pc + 1 = pc') (hr : own_Fin n0 K P T pc' L (v :: S)) : own_Fin n0 K P T pc L (.int j :: .ref a :: S) := by
  obtain ⟨p, l, e, R, s, m, args, below, meth, c⟩ := K
  obtain ⟨hx, hby, hml, hown, hret, hlk, hZ, rfl, hw⟩ := M
  obtain ⟨locs, X, hN, eT, hn, hcl, hsl⟩ := X
  obtain ⟨s2, o2, st, r⟩ := hr
  obtain ⟨cc, A, hs, hlt, hg, -⟩ := V
  subst hp hv
  exact ⟨s2, o2, X.baloadBytes hx (j := j) (v := f i) (by rw [eT]; exact A.1) (State.isArrayOf_alike hZ.alike A.2.1) A.2.2 (own_inb hs hi hin) (by rw [own_nat hi]; exact hg i hin) (g := mkF m pc L (.int j :: .ref a :: S)) rfl rfl (hb hby hd) _ st, r⟩
theorem own_iaload (M : own_Mx Z a0 K code own mx ret rm) (X : own_Sx n0 K T h cl sl) {a : Addr} {n i : Nat} {f : Nat → Value} {j : Int32} {v : Value} (V : own_Va Z h a .int n f) (hi : j.toInt = i) (hin : i < n) (hv : f i = v) (hd : decode code pc = .ok (.iaload, 1)) (hp : pc + 1 = pc') (hr : own_Fin n0 K P T pc' L (v :: S)) : own_Fin n0 K P T pc L (.int j :: .ref a :: S) := by
  obtain ⟨p, l, e, R, s, m, args, below, meth, c⟩ := K
  obtain ⟨hx, hby, hml, hown, hret, hlk, hZ, rfl, hw⟩ := M
  obtain ⟨locs, X, hN, eT, hn, hcl, hsl⟩ := X
  obtain ⟨s2, o2, st, r⟩ := hr
  obtain ⟨cc, A, hs, hlt, hg, -⟩ := V
  subst hp hv
  exact ⟨s2, o2, X.iaload hx (j := j) (v := f i) (by rw [eT]; exact A.1) (State.isArrayOf_alike hZ.alike A.2.1) A.2.2 (own_inb hs hi hin) (by rw [own_nat hi]; exact hg i hin) (g := mkF m pc L (.int j :: .ref a :: S)) rfl rfl (hb hby hd) _ st, r⟩
theorem own_laload (M : own_Mx Z a0 K code own mx ret rm) (X : own_Sx n0 K T h cl sl) {a : Addr} {n i : Nat} {f : Nat → Value} {j : Int32} {v : Value} (V : own_Va Z h a .long n f) (hi : j.toInt = i) (hin : i < n) (hv : f i = v) (hd : decode code pc = .ok (.laload, 1)) (hp : pc + 1 = pc') (hr : own_Fin n0 K P T pc' L (v :: S)) : own_Fin n0 K P T pc L (.int j :: .ref a :: S) := by
  obtain ⟨p, l, e, R, s, m, args, below, meth, c⟩ := K
  obtain ⟨hx, hby, hml, hown, hret, hlk, hZ, rfl, hw⟩ := M
  obtain ⟨locs, X, hN, eT, hn, hcl, hsl⟩ := X
  obtain ⟨s2, o2, st, r⟩ := hr
  obtain ⟨cc, A, hs, hlt, hg, -⟩ := V
  subst hp hv
  exact ⟨s2, o2, X.laload hx (j := j) (v := f i) (by rw [eT]; exact A.1) (State.isArrayOf_alike hZ.alike A.2.1) A.2.2 (own_inb hs hi hin) (by rw [own_nat hi]; exact hg i hin) (g := mkF m pc L (.int j :: .ref a :: S)) rfl rfl (hb hby hd) _ st, r⟩
theorem own_bastore (M : own_Mx Z a0 K code own mx ret rm) (X : own_Sx n0 K T h cl sl) {a : Addr} {n i : Nat} {f : Nat → Value} {j : Int32} {x : Int32} (V : own_Va Z h a .byte n f) (hga : n0 ≤ a) (hi : j.toInt = i) (hin : i < n) (hd : decode code pc = .ok (.bastore, 1)) (hp : pc + 1 = pc') (hr : ∀ T' h', own_Sx n0 K T' h' cl sl → Keep h h' [a] → own_Va Z h' a .byte n (own_upd f i (.int x.toInt8.toInt32)) → own_Fin n0 K P T' pc' L S) : own_Fin n0 K P T pc L (.int x :: .int j :: .ref a :: S) := by
  obtain ⟨p, l, e, R, s, m, args, below, meth, c⟩ := K
  obtain ⟨hx, hby, hml, hown, hret, hlk, hZ, rfl, hw⟩ := M
  obtain ⟨locs, X, hN, eT, hn, hcl, hsl⟩ := X
  have V0 := V
  obtain ⟨cc, A, hs, hlt, hg, -⟩ := V
  obtain ⟨T1, h1, X1, e1, W1, st⟩ := stB X hx hZ eT A (j := j) (own_inb hs hi hin) (g := mkF m pc L (.int x :: .int j :: .ref a :: S)) rfl rfl (hb hby hd)
  rw [own_nat hi] at W1 X1
  subst hp
  obtain ⟨s2, o2, st2, r⟩ := hr T1 h1 ⟨_, X1, Fr.snoc X1 hN hga, e1, hn, hcl, hsl⟩ (Keep.of_wr W1) (V0.wr W1 (fits_nar_byte x))
  exact ⟨s2, o2, st _ st2, r⟩
theorem own_iastore (M : own_Mx Z a0 K code own mx ret rm) (X : own_Sx n0 K T h cl sl) {a : Addr} {n i : Nat} {f : Nat → Value} {j : Int32} {x : Int32} (V : own_Va Z h a .int n f) (hga : n0 ≤ a) (hi : j.toInt = i) (hin : i < n) (hd : decode code pc = .ok (.iastore, 1)) (hp : pc + 1 = pc') (hr : ∀ T' h', own_Sx n0 K T' h' cl sl → Keep h h' [a] → own_Va Z h' a .int n (own_upd f i (.int x)) → own_Fin n0 K P T' pc' L S) : own_Fin n0 K P T pc L (.int x :: .int j :: .ref a :: S) := by
  obtain ⟨p, l, e, R, s, m, args, below, meth, c⟩ := K
  obtain ⟨hx, hby, hml, hown, hret, hlk, hZ, rfl, hw⟩ := M
  obtain ⟨locs, X, hN, eT, hn, hcl, hsl⟩ := X
  have V0 := V
  obtain ⟨cc, A, hs, hlt, hg, -⟩ := V
  obtain ⟨T1, h1, X1, e1, W1, st⟩ := stI X hx hZ eT A (j := j) (own_inb hs hi hin) (g := mkF m pc L (.int x :: .int j :: .ref a :: S)) rfl rfl (hb hby hd)
  rw [own_nat hi] at W1 X1
  subst hp
  obtain ⟨s2, o2, st2, r⟩ := hr T1 h1 ⟨_, X1, Fr.snoc X1 hN hga, e1, hn, hcl, hsl⟩ (Keep.of_wr W1) (V0.wr W1 rfl)
  exact ⟨s2, o2, st _ st2, r⟩
theorem own_lastore (M : own_Mx Z a0 K code own mx ret rm) (X : own_Sx n0 K T h cl sl) {a : Addr} {n i : Nat} {f : Nat → Value} {j : Int32} {x : Int64} (V : own_Va Z h a .long n f) (hga : n0 ≤ a) (hi : j.toInt = i) (hin : i < n) (hd : decode code pc = .ok (.lastore, 1)) (hp : pc + 1 = pc') (hr : ∀ T' h', own_Sx n0 K T' h' cl sl → Keep h h' [a] → own_Va Z h' a .long n (own_upd f i (.long x)) → own_Fin n0 K P T' pc' L S) : own_Fin n0 K P T pc L (.long x :: .int j :: .ref a :: S) := by
  obtain ⟨p, l, e, R, s, m, args, below, meth, c⟩ := K
  obtain ⟨hx, hby, hml, hown, hret, hlk, hZ, rfl, hw⟩ := M
  obtain ⟨locs, X, hN, eT, hn, hcl, hsl⟩ := X
  have V0 := V
  obtain ⟨cc, A, hs, hlt, hg, -⟩ := V
  obtain ⟨T1, h1, X1, e1, W1, st⟩ := stJ X hx hZ eT A (j := j) (own_inb hs hi hin) (g := mkF m pc L (.long x :: .int j :: .ref a :: S)) rfl rfl (hb hby hd)
  rw [own_nat hi] at W1 X1
  subst hp
  obtain ⟨s2, o2, st2, r⟩ := hr T1 h1 ⟨_, X1, Fr.snoc X1 hN hga, e1, hn, hcl, hsl⟩ (Keep.of_wr W1) (V0.wr W1 rfl)
  exact ⟨s2, o2, st _ st2, r⟩
theorem own_arraylength (M : own_Mx Z a0 K code own mx ret rm) (X : own_Sx n0 K T h cl sl) {a : Addr} {ty : FieldType} {n : Nat} {f : Nat → Value} {z : Int32} (V : own_Va Z h a ty n f) (hz : z.toInt = n) (hd : decode code pc = .ok (.arraylength, 1)) (hp : pc + 1 = pc') (hr : own_Fin n0 K P T pc' L (.int z :: S)) : own_Fin n0 K P T pc L (.ref a :: S) := by
  obtain ⟨p, l, e, R, s, m, args, below, meth, c⟩ := K
  obtain ⟨hx, hby, hml, hown, hret, hlk, hZ, rfl, hw⟩ := M
  obtain ⟨locs, X, hN, eT, hn, hcl, hsl⟩ := X
  obtain ⟨s2, o2, st, r⟩ := hr
  obtain ⟨cc, A, hs, hlt, hg, -⟩ := V
  subst hp
  have e : cc.slots.size.toInt32 = z := by rw [hs]; exact Int32.toInt_inj.mp (by rw [len_toInt hlt, hz])
  exact ⟨s2, o2, X.arraylength hx (by rw [eT]; exact A.1) (State.isArrayOf_alike hZ.alike A.2.1) (g := mkF m pc L (.ref a :: S)) rfl rfl (hb hby hd) _ (by rw [e]; exact st), r⟩
theorem own_newarray (M : own_Mx Z a0 K code own mx ret rm) (X : own_Sx n0 K T h cl sl) {aty : ArrayType} {nn : Int32} {n : Nat} (cap : Nat) (w : (Jvm.Cond.arrayClass (newarray.typeOf aty)).before a0 Z = true) (hd : decode code pc = .ok (.newarray aty, 2)) (hp : pc + 2 = pc') (hnn : nn.toInt = n) (hcap : n ≤ cap) (hb8 : cap * 8 ≤ 536870912) (hc : cl + 1 ≤ rm.cells) (hs : sl + cap ≤ rm.slots)
    (hr : ∀ T' h' a, n0 ≤ a → h.size ≤ a → own_Sx n0 K T' h' (cl + 1) (sl + cap) → Ext h h' → own_Va Z h' a (newarray.typeOf aty) n (fun _ => defaultValue (newarray.typeOf aty)) → own_Fin n0 K P T' pc' L (.ref a :: S)) : own_Fin n0 K P T pc L (.int nn :: S) := by
  have hsz := X.size
  obtain ⟨p, l, e, R, s, m, args, below, meth, c⟩ := K
  obtain ⟨hx, hby, hml, hown, hret, hlk, hZ, rfl, hw⟩ := M
  obtain ⟨locs, X, hN, eT, hn, hcl, hsl⟩ := X
  obtain ⟨T1, h1, cA, X1, e1, E1, A1, st⟩ := newP X hx hZ w eT (g := mkF m pc L (.int nn :: S)) rfl (hb hby hd) rfl (by rw [Int32.lt_iff_toInt_lt, hnn, Int32.toInt_zero]; omega) (cap := cap) (by rw [own_nat hnn]; exact hcap) hb8 hc hs
  subst hp
  obtain ⟨s2, o2, st2, r⟩ := hr T1 h1 h.size hsz (Nat.le_refl _) ⟨_, X1, hN, e1, hn, hc, hs⟩ E1 ⟨_, A1, by rw [sz_new, own_nat hnn], by omega, fun j hj => by simp [newA, own_nat hnn, hj], fun j hj => by cases aty <;> rfl⟩
  exact ⟨s2, o2, st _ st2, r⟩
theorem own_new (M : own_Mx Z a0 K code own mx ret rm) (X : own_Sx n0 K T h cl sl) {C : String} {idx k : Nat} (w : (Jvm.Cond.classLink own idx C).before a0 Z = true) (wi : (Jvm.Cond.instantiable C k).before a0 Z = true) (wz : (Jvm.Cond.initialized C).before a0 Z = true) (hd : decode code pc = .ok (.new idx, 3)) (hp : pc + 3 = pc') (hc : cl + 1 ≤ rm.cells) (hs : sl + k ≤ rm.slots)
    (hr : ∀ T' h' a, n0 ≤ a → h.size ≤ a → own_Sx n0 K T' h' (cl + 1) (sl + k) → Ext h h' → Exa Z h' a C → (∀ {O nm d : String} {ty : FieldType}, Laid Z a0 C O nm d → parseFieldDescriptor d = some ty → Fld Z h' a O nm d (defaultValue ty)) → own_Fin n0 K P T' pc' L (.ref a :: S)) : own_Fin n0 K P T pc L S := by
  have hsz := X.size
  obtain ⟨p, l, e, R, s, m, args, below, meth, c⟩ := K
  obtain ⟨hx, hby, hml, hown, hret, hlk, hZ, rfl, hw⟩ := M
  obtain ⟨locs, X, hN, eT, hn, hcl, hsl⟩ := X
  obtain ⟨T1, h1, X1, e1, E1, A1, D1, -, st⟩ := newO X hx hZ hown w wi wz eT (g := mkF m pc L S) rfl (hb hby hd) hc hs
  subst hp
  obtain ⟨s2, o2, st2, r⟩ := hr T1 h1 h.size hsz (Nat.le_refl _) ⟨_, X1, hN, e1, hn, hc, hs⟩ E1 A1 D1
  exact ⟨s2, o2, st _ st2, r⟩
theorem own_getfield (M : own_Mx Z a0 K code own mx ret rm) (X : own_Sx n0 K T h cl sl) {O nm d : String} {idx : Nat} {a : Addr} {v : Value} (w : (Jvm.Cond.fieldLink own idx O nm d).before a0 Z = true) (F : Fld Z h a O nm d v) (hd : decode code pc = .ok (.getfield idx, 3)) (hp : pc + 3 = pc') (hr : ∀ T', own_Sx n0 K T' h cl sl → own_Fin n0 K P T' pc' L (v :: S)) : own_Fin n0 K P T pc L (.ref a :: S) := by
  obtain ⟨p, l, e, R, s, m, args, below, meth, c⟩ := K
  obtain ⟨hx, hby, hml, hown, hret, hlk, hZ, rfl, hw⟩ := M
  obtain ⟨locs, X, hN, eT, hn, hcl, hsl⟩ := X
  obtain ⟨T1, X1, e1, st⟩ := getF X hx hZ hown (host := "") (Or.inl w) Via.refl eT F (g := mkF m pc L (.ref a :: S)) rfl rfl (hb hby hd)
  subst hp
  obtain ⟨s2, o2, st2, r⟩ := hr T1 ⟨_, X1, hN, e1, hn, hcl, hsl⟩
  exact ⟨s2, o2, st _ st2, r⟩
theorem own_putfield (M : own_Mx Z a0 K code own mx ret rm) (X : own_Sx n0 K T h cl sl) {O nm d C : String} {idx k : Nat} {a : Addr} {v old : Value} {ty : FieldType} (w : (Jvm.Cond.fieldLink own idx O nm d).before a0 Z = true) (F : Fld Z h a O nm d old) (E : Exa Z h a C) (hL : (Jvm.Cond.lays C O nm d).before a0 Z = true ∨ ((Jvm.Cond.laysFinal C O nm d).before a0 Z = true ∧ own = O ∧ K.2.2.2.2.2.2.2.2.1.name = "<init>")) (wi : (Jvm.Cond.instantiable C k).before a0 Z = true) (hty : parseFieldDescriptor d = some ty) (hnv : narrow ty v = v) (hf : fits ty v = true) (hga : n0 ≤ a) (hd : decode code pc = .ok (.putfield idx, 3)) (hp : pc + 3 = pc')
    (hr : ∀ T' h', own_Sx n0 K T' h' cl sl → Wr h h' a (Jvm.RoadKit.slotOf Z O nm d) v → own_Fin n0 K P T' pc' L S) : own_Fin n0 K P T pc L (v :: .ref a :: S) := by
  obtain ⟨p, l, e, R, s, m, args, below, meth, c⟩ := K
  obtain ⟨hx, hby, hml, hown, hret, hlk, hZ, rfl, hw⟩ := M
  obtain ⟨locs, X, hN, eT, hn, hcl, hsl⟩ := X
  obtain ⟨T1, h1, X1, e1, W1, st⟩ := putF X hx hZ hown (host := "") (Or.inl w) Via.refl eT F E hL wi hty hnv hf (g := mkF m pc L (v :: .ref a :: S)) rfl rfl (hb hby hd)
  subst hp
  obtain ⟨s2, o2, st2, r⟩ := hr T1 h1 ⟨_, X1, Fr.snoc X1 hN hga, e1, hn, hcl, hsl⟩ W1
  exact ⟨s2, o2, st _ st2, r⟩
theorem own_initO (M : own_Mx Z a0 K code own mx ret rm) (X : own_Sx n0 K T h cl sl) {idx : Nat} {a : Addr} (w1 : (Jvm.Cond.methodLink own idx Lib.objectInit).before a0 Z = true) (w2 : (Jvm.Cond.instanceMethod Lib.objectInit).before a0 Z = true) (w3 : (Jvm.Cond.code Lib.objectInit ⟨#[0xb1]⟩ 1 none).before a0 Z = true) (hL : L.size = mx) (hd : decode code pc = .ok (.invokespecial idx, 3)) (hp : pc + 3 = pc') (hf : 1 ≤ rm.frames) (W : Nat) (hW : (S.map fun v => v.category).sum ≤ W) (hl : W + 12 ≤ rm.locals) (hr : ∀ T', own_Sx n0 K T' h cl sl → own_Fin n0 K P T' pc' L S) : own_Fin n0 K P T pc L (.ref a :: S) := by
  obtain ⟨p, l, e, R, s, m, args, below, meth, c⟩ := K
  obtain ⟨hx, hby, hml, hown, hret, hlk, hZ, rfl, hw⟩ := M
  obtain ⟨locs, X, hN, eT, hn, hcl, hsl⟩ := X
  obtain ⟨T1, X1, e1, st⟩ := initO X hx hZ hown w1 w2 w3 eT (g := mkF m pc L (.ref a :: S)) rfl (by rw [hml]; exact hL) rfl (hb hby hd) hf (W := W) (by show 2 * 0 + _ ≤ W; omega) hl
  subst hp
  obtain ⟨s2, o2, st2, r⟩ := hr T1 ⟨_, X1, hN, e1, hn, hcl, hsl⟩
  exact ⟨s2, o2, st _ st2, r⟩
theorem own_callN (M : own_Mx Z a0 K code own mx ret rm) (X : own_Sx n0 K T h cl sl) {y : MethodName} {ycode : ByteArray} {ymx : Nat} {yret : Option FieldType} {yrm : Room} {idx : Nat} {Q : Option Value → Heap → Prop} {ps : List FieldType} {yr : Option FieldType} {a : Addr} (argsL : List Value)
    (w1 : (Jvm.Cond.methodLink own idx y).before a0 Z = true) (w2 : (Jvm.Cond.instanceMethod y).before a0 Z = true) (w3 : (Jvm.Cond.initialized y.cls).before a0 Z = true) (w4 : (Jvm.Cond.code y ycode ymx yret).before a0 Z = true) (hy : y.cls ≠ "java/lang/invoke/MethodHandle" ∧ y.cls ≠ "java/lang/invoke/VarHandle") (hnm : y.name = "<init>") (hnr : yret = none)
    (hM : own_Met K.2.1 Z n0 y ycode ymx yret yrm (.ref a :: argsL).toArray h Q) (hL : L.size = mx) (hd : decode code pc = .ok (.invokespecial idx, 3)) (hp : pc + 3 = pc') (hpd : parseMethodDescriptor y.desc = some ⟨ps, yr⟩) (hlen : argsL.length = ps.length) (hS : S = argsL.reverse ++ .ref a :: rest)
    (W : Nat) (hW : (rest.map fun v => v.category).sum ≤ W) (hf : yrm.frames + 1 ≤ rm.frames) (hl : W + (ymx + 11) + yrm.locals ≤ rm.locals) (hc : cl + yrm.cells ≤ rm.cells) (hs : sl + yrm.slots ≤ rm.slots)
    (hr : ∀ T' h' v, own_Sx n0 K T' h' (cl + yrm.cells) (sl + yrm.slots) → Q v h' → own_Fin n0 K P T' pc' L (v.toList ++ rest)) : own_Fin n0 K P T pc L S := by
  obtain ⟨p, l, e, R, s, m, args, below, meth, c⟩ := K
  obtain ⟨hx, hby, hml, hown, hret, hlk, hZ, rfl, hw⟩ := M
  obtain ⟨locs, X, hN, eT, hn, hcl, hsl⟩ := X
  subst hnr
  obtain ⟨v, vm1, ⟨T1, L1, k1, n1⟩, -, X1, ⟨Lc, hQ, l1, y1, z1⟩, st⟩ := X.specialBack hx (y := y) hnm hown (mvT hZ w1) (mvT hZ w2) (mvT hZ w4) hy (backOf (W := W) (Q := fun v h L => Q v h ∧ Fr n0 L) (hM []) hZ w4 w3 hf hl) (g := mkF m pc L S) rfl (by rw [hml]; exact hL) (Steps.refl _) (a := a) (argsL := argsL) (rest := rest) (lenOf hpd hlen) hS (by show 2 * 0 + _ ≤ W; omega) (hb hby hd) (fun _ _ => ⟨rfl, eT, hc, hs⟩)
  dsimp only [Pt.U, Pt.locs, Pt.cells, Pt.slots] at X1 l1 y1 z1 st hQ
  subst l1 y1 z1 hp
  obtain ⟨s2, o2, st2, r⟩ := hr T1 _ v ⟨_, X1, Fr.app hN hQ.2, rfl, hn, hc, hs⟩ hQ.1
  exact ⟨s2, o2, st.trans st2, r⟩
theorem own_callV (M : own_Mx Z a0 K code own mx ret rm) (X : own_Sx n0 K T h cl sl) {y : MethodName} {ycode : ByteArray} {ymx : Nat} {yret : Option FieldType} {yrm : Room} {idx : Nat} {Q : Option Value → Heap → Prop} {ps : List FieldType} {yr : Option FieldType} {a : Addr} (argsL : List Value)
    (w1 : (Jvm.Cond.methodLink own idx y).before a0 Z = true) (w2 : (Jvm.Cond.instanceMethod y).before a0 Z = true) (w5 : (Jvm.Cond.declares y).before a0 Z = true) (w6 : (Jvm.Cond.selects y.cls y y).before a0 Z = true) (w3 : (Jvm.Cond.initialized y.cls).before a0 Z = true) (w4 : (Jvm.Cond.code y ycode ymx yret).before a0 Z = true) (hy : y.cls ≠ "java/lang/invoke/MethodHandle" ∧ y.cls ≠ "java/lang/invoke/VarHandle") (E : Exa Z h a y.cls)
    (hM : own_Met K.2.1 Z n0 y ycode ymx yret yrm (.ref a :: argsL).toArray h Q) (hL : L.size = mx) (hd : decode code pc = .ok (.invokevirtual idx, 3)) (hp : pc + 3 = pc') (hpd : parseMethodDescriptor y.desc = some ⟨ps, yr⟩) (hlen : argsL.length = ps.length) (hS : S = argsL.reverse ++ .ref a :: rest)
    (W : Nat) (hW : (rest.map fun v => v.category).sum ≤ W) (hf : yrm.frames + 1 ≤ rm.frames) (hl : W + (ymx + 11) + yrm.locals ≤ rm.locals) (hc : cl + yrm.cells ≤ rm.cells) (hs : sl + yrm.slots ≤ rm.slots)
    (hr : ∀ T' h' v, own_Sx n0 K T' h' (cl + yrm.cells) (sl + yrm.slots) → Q v h' → own_Fin n0 K P T' pc' L (v.toList ++ rest)) : own_Fin n0 K P T pc L S := by
  obtain ⟨p, l, e, R, s, m, args, below, meth, c⟩ := K
  obtain ⟨hx, hby, hml, hown, hret, hlk, hZ, rfl, hw⟩ := M
  obtain ⟨locs, X, hN, eT, hn, hcl, hsl⟩ := X
  obtain ⟨cq, kq, qa, qb, qc⟩ := isOf hZ eT E
  obtain ⟨v, vm1, ⟨T1, L1, k1, n1⟩, -, X1, ⟨Lc, hQ, l1, y1, z1⟩, st⟩ := X.virtualBack hx (y := y) (z := y) hown (mvT hZ w1) (mvT hZ w5) (notFace_of_selects (args := #[]) (mvT hZ w6)) (mvT hZ w6) (mvT hZ w2) hy (backOf (W := W) (Q := fun v h L => Q v h ∧ Fr n0 L) (hM []) hZ w4 w3 hf hl) qa qc (g := mkF m pc L S) rfl (by rw [hml]; exact hL) (Steps.refl _) (argsL := argsL) (rest := rest) (lenOf hpd hlen) hS (by show 2 * 0 + _ ≤ W; omega) (hb hby hd) (fun _ _ => ⟨rfl, eT, hc, hs⟩)
  dsimp only [Pt.U, Pt.locs, Pt.cells, Pt.slots] at X1 l1 y1 z1 st hQ
  subst l1 y1 z1 hp
  obtain ⟨s2, o2, st2, r⟩ := hr T1 _ v ⟨_, X1, Fr.app hN hQ.2, rfl, hn, hc, hs⟩ hQ.1
  exact ⟨s2, o2, st.trans st2, r⟩
theorem own_selPriv {s : State} {args : Array Value} {n : Nat} {y : MethodName} (hins : (Jvm.Cond.instantiable y.cls n).before args s = true) (hpriv : (Jvm.Cond.privateMethod y).before args s = true) (hinst : (Jvm.Cond.instanceMethod y).before args s = true) (hy : y.cls ≠ "java/lang/invoke/MethodHandle" ∧ y.cls ≠ "java/lang/invoke/VarHandle") : (Jvm.Cond.selects y.cls y y).before args s = true := by
  obtain ⟨c, k, hc, hk, -, hniab, -, -⟩ := Cond.instantiable_spec hins
  have hni : k.isInterface = false := (Bool.or_eq_false_iff.mp hniab).1
  obtain ⟨mk, methM, hnamed, hmethM, -, -⟩ := Cond.instanceMethod_spec hinst
  have hfound : s.methodFound? y.cls y.name y.desc = some mk := State.methodFound?_of_named hnamed hy
  have hcls : mk.cls = c := Option.some.inj ((findClass_of_methodNamed hnamed).symm.trans hc)
  have hsel : selectMethod {} s.vm c mk = .method mk := selectMethod_private hmethM (Cond.privateMethod_at hpriv mk methM hnamed hmethM)
  simp only [Cond.before, Cond.holds, Cond.value, hc, hfound, hnamed, hsel, hcls, hk]
  simp; exact hni
theorem own_callPriv (M : own_Mx Z a0 K code own mx ret rm) (X : own_Sx n0 K T h cl sl) {y : MethodName} {ycode : ByteArray} {ymx : Nat} {yret : Option FieldType} {yrm : Room} {idx : Nat} {Q : Option Value → Heap → Prop} {ps : List FieldType} {yr : Option FieldType} {a : Addr} (argsL : List Value)
    (w1 : (Jvm.Cond.methodLink own idx y).before a0 Z = true) (w2 : (Jvm.Cond.instanceMethod y).before a0 Z = true) (w5 : (Jvm.Cond.privateMethod y).before a0 Z = true) {kk : Nat} (w6 : (Jvm.Cond.instantiable y.cls kk).before a0 Z = true) (w3 : (Jvm.Cond.initialized y.cls).before a0 Z = true) (w4 : (Jvm.Cond.code y ycode ymx yret).before a0 Z = true) (hy : y.cls ≠ "java/lang/invoke/MethodHandle" ∧ y.cls ≠ "java/lang/invoke/VarHandle") (E : Exa Z h a y.cls)
    (hM : own_Met K.2.1 Z n0 y ycode ymx yret yrm (.ref a :: argsL).toArray h Q) (hL : L.size = mx) (hd : decode code pc = .ok (.invokevirtual idx, 3)) (hp : pc + 3 = pc') (hpd : parseMethodDescriptor y.desc = some ⟨ps, yr⟩) (hlen : argsL.length = ps.length) (hS : S = argsL.reverse ++ .ref a :: rest)
    (W : Nat) (hW : (rest.map fun v => v.category).sum ≤ W) (hf : yrm.frames + 1 ≤ rm.frames) (hl : W + (ymx + 11) + yrm.locals ≤ rm.locals) (hc : cl + yrm.cells ≤ rm.cells) (hs : sl + yrm.slots ≤ rm.slots)
    (hr : ∀ T' h' v, own_Sx n0 K T' h' (cl + yrm.cells) (sl + yrm.slots) → Q v h' → own_Fin n0 K P T' pc' L (v.toList ++ rest)) : own_Fin n0 K P T pc L S := by
  obtain ⟨p, l, e, R, s, m, args, below, meth, c⟩ := K
  obtain ⟨hx, hby, hml, hown, hret, hlk, hZ, rfl, hw⟩ := M
  obtain ⟨locs, X, hN, eT, hn, hcl, hsl⟩ := X
  obtain ⟨cq, qa, qb⟩ := E.cell
  obtain ⟨v, vm1, ⟨T1, L1, k1, n1⟩, -, X1, ⟨Lc, hQ, l1, y1, z1⟩, st⟩ := X.privateBack hx (y := y) hown (mvT hZ w1) (mvT hZ w2) (own_selPriv (mvT hZ w6) (mvP hZ w5) (mvT hZ w2) hy) (Cond.privateMethod_at (mvP hZ w5 (args := #[]))) (mvT hZ w4) hy (backOf (W := W) (Q := fun v h L => Q v h ∧ Fr n0 L) (hM []) hZ w4 w3 hf hl) (g := mkF m pc L S) rfl (by rw [hml]; exact hL) (Steps.refl _) (a := a) (by rw [eT]; exact qa) qb (argsL := argsL) (rest := rest) (lenOf hpd hlen) hS (by show 2 * 0 + _ ≤ W; omega) (hb hby hd) (fun _ _ => ⟨rfl, eT, hc, hs⟩)
  dsimp only [Pt.U, Pt.locs, Pt.cells, Pt.slots] at X1 l1 y1 z1 st hQ
  subst l1 y1 z1 hp
  obtain ⟨s2, o2, st2, r⟩ := hr T1 _ v ⟨_, X1, Fr.app hN hQ.2, rfl, hn, hc, hs⟩ hQ.1
  exact ⟨s2, o2, st.trans st2, r⟩
theorem own_callNP0 (M : own_Mx Z a0 K code own mx ret rm) (X : own_Sx n0 K T h cl sl) {y : MethodName} {ycode : ByteArray} {ymx : Nat} {yret : Option FieldType} {yrm : Room} {idx : Nat} {ps : List FieldType} {yr : Option FieldType} {a : Addr} (argsL : List Value)
    (w1 : (Jvm.Cond.methodLink own idx y).before a0 Z = true) (w2 : (Jvm.Cond.instanceMethod y).before a0 Z = true) (w3 : (Jvm.Cond.initialized y.cls).before a0 Z = true) (w4 : (Jvm.Cond.code y ycode ymx yret).before a0 Z = true) (hy : y.cls ≠ "java/lang/invoke/MethodHandle" ∧ y.cls ≠ "java/lang/invoke/VarHandle") (hnm : y.name = "<init>") (hnr : yret = none)
    (hM : own_Met K.2.1 Z n0 y ycode ymx yret yrm (.ref a :: argsL).toArray h (fun v h' => v = none ∧ h' = h)) (hL : L.size = mx) (hd : decode code pc = .ok (.invokespecial idx, 3)) (hp : pc + 3 = pc') (hpd : parseMethodDescriptor y.desc = some ⟨ps, yr⟩) (hlen : argsL.length = ps.length) (hS : S = argsL.reverse ++ .ref a :: rest)
    (W : Nat) (hW : (rest.map fun v => v.category).sum ≤ W) (hf : yrm.frames + 1 ≤ rm.frames) (hl : W + (ymx + 11) + yrm.locals ≤ rm.locals) (hc0 : yrm.cells = 0) (hs0 : yrm.slots = 0)
    (hr : ∀ T', own_Sx n0 K T' h cl sl → own_Fin n0 K P T' pc' L (rest)) : own_Fin n0 K P T pc L S := by
  have hcs : cl ≤ rm.cells ∧ sl ≤ rm.slots := by
    obtain ⟨p, l, e, R, s, m, args, below, meth, c⟩ := K
    obtain ⟨hx, hby, hml, hown, hret, hlk, hZ, rfl, hw⟩ := M
    obtain ⟨locs, X, hN, eT, hn, hcl, hsl⟩ := X
    exact ⟨hcl, hsl⟩
  refine own_callN M X argsL w1 w2 w3 w4 hy hnm hnr hM hL hd hp hpd hlen hS W hW hf hl (by rw [hc0]; exact hcs.1) (by rw [hs0]; exact hcs.2) ?_
  rintro T' h' v X' ⟨rfl, rfl⟩
  rw [hc0, hs0] at X'
  exact hr T' X'
theorem own_callVP (M : own_Mx Z a0 K code own mx ret rm) (X : own_Sx n0 K T h cl sl) {y : MethodName} {ycode : ByteArray} {ymx : Nat} {yret : Option FieldType} {yrm : Room} {idx : Nat} {ps : List FieldType} {yr : Option FieldType} {a : Addr} {w : Value} (argsL : List Value)
    (w1 : (Jvm.Cond.methodLink own idx y).before a0 Z = true) (w2 : (Jvm.Cond.instanceMethod y).before a0 Z = true) (w5 : (Jvm.Cond.declares y).before a0 Z = true) (w6 : (Jvm.Cond.selects y.cls y y).before a0 Z = true) (w3 : (Jvm.Cond.initialized y.cls).before a0 Z = true) (w4 : (Jvm.Cond.code y ycode ymx yret).before a0 Z = true) (hy : y.cls ≠ "java/lang/invoke/MethodHandle" ∧ y.cls ≠ "java/lang/invoke/VarHandle") (E : Exa Z h a y.cls)
    (hM : own_Met K.2.1 Z n0 y ycode ymx yret yrm (.ref a :: argsL).toArray h (fun v h' => v = some w ∧ h' = h)) (hL : L.size = mx) (hd : decode code pc = .ok (.invokevirtual idx, 3)) (hp : pc + 3 = pc') (hpd : parseMethodDescriptor y.desc = some ⟨ps, yr⟩) (hlen : argsL.length = ps.length) (hS : S = argsL.reverse ++ .ref a :: rest)
    (W : Nat) (hW : (rest.map fun v => v.category).sum ≤ W) (hf : yrm.frames + 1 ≤ rm.frames) (hl : W + (ymx + 11) + yrm.locals ≤ rm.locals) (hc0 : yrm.cells = 0) (hs0 : yrm.slots = 0)
    (hr : ∀ T', own_Sx n0 K T' h cl sl → own_Fin n0 K P T' pc' L (w :: rest)) : own_Fin n0 K P T pc L S := by
  have hcs : cl ≤ rm.cells ∧ sl ≤ rm.slots := by
    obtain ⟨p, l, e, R, s, m, args, below, meth, c⟩ := K
    obtain ⟨hx, hby, hml, hown, hret, hlk, hZ, rfl, hw⟩ := M
    obtain ⟨locs, X, hN, eT, hn, hcl, hsl⟩ := X
    exact ⟨hcl, hsl⟩
  refine own_callV M X argsL w1 w2 w5 w6 w3 w4 hy E hM hL hd hp hpd hlen hS W hW hf hl (by rw [hc0]; exact hcs.1) (by rw [hs0]; exact hcs.2) ?_
  rintro T' h' v X' ⟨rfl, rfl⟩
  rw [hc0, hs0] at X'
  exact hr T' X'
theorem own_callVP0 (M : own_Mx Z a0 K code own mx ret rm) (X : own_Sx n0 K T h cl sl) {y : MethodName} {ycode : ByteArray} {ymx : Nat} {yret : Option FieldType} {yrm : Room} {idx : Nat} {ps : List FieldType} {yr : Option FieldType} {a : Addr} (argsL : List Value)
    (w1 : (Jvm.Cond.methodLink own idx y).before a0 Z = true) (w2 : (Jvm.Cond.instanceMethod y).before a0 Z = true) (w5 : (Jvm.Cond.declares y).before a0 Z = true) (w6 : (Jvm.Cond.selects y.cls y y).before a0 Z = true) (w3 : (Jvm.Cond.initialized y.cls).before a0 Z = true) (w4 : (Jvm.Cond.code y ycode ymx yret).before a0 Z = true) (hy : y.cls ≠ "java/lang/invoke/MethodHandle" ∧ y.cls ≠ "java/lang/invoke/VarHandle") (E : Exa Z h a y.cls)
    (hM : own_Met K.2.1 Z n0 y ycode ymx yret yrm (.ref a :: argsL).toArray h (fun v h' => v = none ∧ h' = h)) (hL : L.size = mx) (hd : decode code pc = .ok (.invokevirtual idx, 3)) (hp : pc + 3 = pc') (hpd : parseMethodDescriptor y.desc = some ⟨ps, yr⟩) (hlen : argsL.length = ps.length) (hS : S = argsL.reverse ++ .ref a :: rest)
    (W : Nat) (hW : (rest.map fun v => v.category).sum ≤ W) (hf : yrm.frames + 1 ≤ rm.frames) (hl : W + (ymx + 11) + yrm.locals ≤ rm.locals) (hc0 : yrm.cells = 0) (hs0 : yrm.slots = 0)
    (hr : ∀ T', own_Sx n0 K T' h cl sl → own_Fin n0 K P T' pc' L (rest)) : own_Fin n0 K P T pc L S := by
  have hcs : cl ≤ rm.cells ∧ sl ≤ rm.slots := by
    obtain ⟨p, l, e, R, s, m, args, below, meth, c⟩ := K
    obtain ⟨hx, hby, hml, hown, hret, hlk, hZ, rfl, hw⟩ := M
    obtain ⟨locs, X, hN, eT, hn, hcl, hsl⟩ := X
    exact ⟨hcl, hsl⟩
  refine own_callV M X argsL w1 w2 w5 w6 w3 w4 hy E hM hL hd hp hpd hlen hS W hW hf hl (by rw [hc0]; exact hcs.1) (by rw [hs0]; exact hcs.2) ?_
  rintro T' h' v X' ⟨rfl, rfl⟩
  rw [hc0, hs0] at X'
  exact hr T' X'
theorem own_callPrivP (M : own_Mx Z a0 K code own mx ret rm) (X : own_Sx n0 K T h cl sl) {y : MethodName} {ycode : ByteArray} {ymx : Nat} {yret : Option FieldType} {yrm : Room} {idx : Nat} {ps : List FieldType} {yr : Option FieldType} {a : Addr} {w : Value} (argsL : List Value)
    (w1 : (Jvm.Cond.methodLink own idx y).before a0 Z = true) (w2 : (Jvm.Cond.instanceMethod y).before a0 Z = true) (w5 : (Jvm.Cond.privateMethod y).before a0 Z = true) {kk : Nat} (w6 : (Jvm.Cond.instantiable y.cls kk).before a0 Z = true) (w3 : (Jvm.Cond.initialized y.cls).before a0 Z = true) (w4 : (Jvm.Cond.code y ycode ymx yret).before a0 Z = true) (hy : y.cls ≠ "java/lang/invoke/MethodHandle" ∧ y.cls ≠ "java/lang/invoke/VarHandle") (E : Exa Z h a y.cls)
    (hM : own_Met K.2.1 Z n0 y ycode ymx yret yrm (.ref a :: argsL).toArray h (fun v h' => v = some w ∧ h' = h)) (hL : L.size = mx) (hd : decode code pc = .ok (.invokevirtual idx, 3)) (hp : pc + 3 = pc') (hpd : parseMethodDescriptor y.desc = some ⟨ps, yr⟩) (hlen : argsL.length = ps.length) (hS : S = argsL.reverse ++ .ref a :: rest)
    (W : Nat) (hW : (rest.map fun v => v.category).sum ≤ W) (hf : yrm.frames + 1 ≤ rm.frames) (hl : W + (ymx + 11) + yrm.locals ≤ rm.locals) (hc0 : yrm.cells = 0) (hs0 : yrm.slots = 0)
    (hr : ∀ T', own_Sx n0 K T' h cl sl → own_Fin n0 K P T' pc' L (w :: rest)) : own_Fin n0 K P T pc L S := by
  have hcs : cl ≤ rm.cells ∧ sl ≤ rm.slots := by
    obtain ⟨p, l, e, R, s, m, args, below, meth, c⟩ := K
    obtain ⟨hx, hby, hml, hown, hret, hlk, hZ, rfl, hw⟩ := M
    obtain ⟨locs, X, hN, eT, hn, hcl, hsl⟩ := X
    exact ⟨hcl, hsl⟩
  refine own_callPriv M X argsL w1 w2 w5 w6 w3 w4 hy E hM hL hd hp hpd hlen hS W hW hf hl (by rw [hc0]; exact hcs.1) (by rw [hs0]; exact hcs.2) ?_
  rintro T' h' v X' ⟨rfl, rfl⟩
  rw [hc0, hs0] at X'
  exact hr T' X'
theorem own_callPrivP0 (M : own_Mx Z a0 K code own mx ret rm) (X : own_Sx n0 K T h cl sl) {y : MethodName} {ycode : ByteArray} {ymx : Nat} {yret : Option FieldType} {yrm : Room} {idx : Nat} {ps : List FieldType} {yr : Option FieldType} {a : Addr} (argsL : List Value)
    (w1 : (Jvm.Cond.methodLink own idx y).before a0 Z = true) (w2 : (Jvm.Cond.instanceMethod y).before a0 Z = true) (w5 : (Jvm.Cond.privateMethod y).before a0 Z = true) {kk : Nat} (w6 : (Jvm.Cond.instantiable y.cls kk).before a0 Z = true) (w3 : (Jvm.Cond.initialized y.cls).before a0 Z = true) (w4 : (Jvm.Cond.code y ycode ymx yret).before a0 Z = true) (hy : y.cls ≠ "java/lang/invoke/MethodHandle" ∧ y.cls ≠ "java/lang/invoke/VarHandle") (E : Exa Z h a y.cls)
    (hM : own_Met K.2.1 Z n0 y ycode ymx yret yrm (.ref a :: argsL).toArray h (fun v h' => v = none ∧ h' = h)) (hL : L.size = mx) (hd : decode code pc = .ok (.invokevirtual idx, 3)) (hp : pc + 3 = pc') (hpd : parseMethodDescriptor y.desc = some ⟨ps, yr⟩) (hlen : argsL.length = ps.length) (hS : S = argsL.reverse ++ .ref a :: rest)
    (W : Nat) (hW : (rest.map fun v => v.category).sum ≤ W) (hf : yrm.frames + 1 ≤ rm.frames) (hl : W + (ymx + 11) + yrm.locals ≤ rm.locals) (hc0 : yrm.cells = 0) (hs0 : yrm.slots = 0)
    (hr : ∀ T', own_Sx n0 K T' h cl sl → own_Fin n0 K P T' pc' L (rest)) : own_Fin n0 K P T pc L S := by
  have hcs : cl ≤ rm.cells ∧ sl ≤ rm.slots := by
    obtain ⟨p, l, e, R, s, m, args, below, meth, c⟩ := K
    obtain ⟨hx, hby, hml, hown, hret, hlk, hZ, rfl, hw⟩ := M
    obtain ⟨locs, X, hN, eT, hn, hcl, hsl⟩ := X
    exact ⟨hcl, hsl⟩
  refine own_callPriv M X argsL w1 w2 w5 w6 w3 w4 hy E hM hL hd hp hpd hlen hS W hW hf hl (by rw [hc0]; exact hcs.1) (by rw [hs0]; exact hcs.2) ?_
  rintro T' h' v X' ⟨rfl, rfl⟩
  rw [hc0, hs0] at X'
  exact hr T' X'
theorem own_Va.arv {a : Addr} {ty : FieldType} {n : Nat} {f : Nat → Value} (V : own_Va Z h a ty n f) : ∃ k, ∀ dv, Arv Z h a k ty (Int32.ofNat n) ((List.range n).map f) dv := by
  obtain ⟨c, A, r1, r2, r3, r4⟩ := V
  have e : (Int32.ofNat n).toInt = n := Int32.toInt_ofNat_of_lt r2
  have g : ∀ dv j, j < n → ((List.range n).map f).getD j dv = f j := fun dv j hj => by simp [List.getD, hj]
  refine ⟨c.cls, fun dv => ⟨c, A, rfl, by rw [own_nat e]; exact r1, by rw [Int32.lt_iff_toInt_lt, e, Int32.toInt_zero]; omega, fun j hj => ?_, fun j hj => ?_⟩⟩
  · rw [g dv j (by omega)]; exact r3 j (by omega)
  · rw [g dv j (by omega)]; exact r4 j (by omega)
theorem own_Va.of_arv {a : Addr} {ty : FieldType} {n : Nat} {k : ClassId} {z : Int32} {vs : List Value} {dv : Value} {f : Nat → Value} (V : Arv Z h a k ty z vs dv) (hz : z.toInt = n) (hf : ∀ j, j < n → vs.getD j dv = f j) : own_Va Z h a ty n f := by
  obtain ⟨c, A, -, S, -, H, G⟩ := V
  rw [own_nat hz] at S
  exact ⟨c, A, S, by have := z.toInt_lt; omega, fun j hj => by rw [← hf j hj]; exact H j (by omega), fun j hj => by rw [← hf j hj]; exact G j (by omega)⟩
theorem own_cpl {α : Type} (f g : Nat → α) (na nb i j k t : Nat) (h4 : i + k ≤ na) (h5 : j + k ≤ nb) (ht : t < nb) (d : α) :
    (((List.range nb).map g).take j ++ (List.range k).map (fun q => ((List.range na).map f).getD (i + q) d) ++ ((List.range nb).map g).drop (j + k)).getD t d = if j ≤ t ∧ t < j + k then f (i + (t - j)) else g t := by
  have e1 : min j nb = j := by omega
  rw [List.getD_eq_getElem?_getD, List.getElem?_append, List.getElem?_append]
  simp only [List.length_append, List.length_take, List.length_map, List.length_range, e1]
  by_cases q1 : t < j
  · have n1 : ¬ (j ≤ t ∧ t < j + k) := by omega
    have n2 : t < j + k := by omega
    rw [if_neg n1, if_pos n2, if_pos q1, List.getElem?_take, if_pos q1]
    simp [ht]
  · by_cases q2 : t < j + k
    · have n1 : j ≤ t ∧ t < j + k := by omega
      have n2 : t - j < k := by omega
      have n3 : i + (t - j) < na := by omega
      rw [if_pos n1, if_pos q2, if_neg q1]
      simp [n2, n3]
    · have n1 : ¬ (j ≤ t ∧ t < j + k) := by omega
      have n3 : j + k + (t - (j + k)) = t := by omega
      rw [if_neg n1, if_neg q2, List.getElem?_drop, n3]
      simp [ht]
theorem own_arraycopy (M : own_Mx Z a0 K code own mx ret rm) (X : own_Sx n0 K T h cl sl) {idx : Nat} {a b : Addr} {ty : FieldType} {na nb i j k : Nat} {f g : Nat → Value} {sp dp nn : Int32}
    (w1 : (Jvm.Cond.methodLink own idx Jvm.Stand.acN).before a0 Z = true) (w2 : (Jvm.Cond.native Jvm.Stand.acN).before a0 Z = true) (w3 : (Jvm.Cond.static Jvm.Stand.acN).before a0 Z = true) (w4 : (Jvm.Cond.initialized "java/lang/System").before a0 Z = true)
    (A : own_Va Z h a ty na f) (B : own_Va Z h b ty nb g) (hty : refKind ty = false) (hsp : sp.toInt = i) (hdp : dp.toInt = j) (hnn : nn.toInt = k) (h4 : i + k ≤ na) (h5 : j + k ≤ nb) (hgb : n0 ≤ b) (hL : L.size = mx) (hd : decode code pc = .ok (.invokestatic idx, 3)) (hp : pc + 3 = pc')
    (hf : 1 ≤ rm.frames) (W : Nat) (hW : (S.map fun v => v.category).sum ≤ W) (hlo : W + 18 ≤ rm.locals)
    (hr : ∀ T' h', own_Sx n0 K T' h' cl sl → Keep h h' [b] → own_Va Z h' b ty nb (fun t => if j ≤ t ∧ t < j + k then f (i + (t - j)) else g t) → own_Fin n0 K P T' pc' L S) : own_Fin n0 K P T pc L (.int nn :: .int dp :: .ref b :: .int sp :: .ref a :: S) := by
  obtain ⟨p, l, e, R, s, m, args, below, meth, c⟩ := K
  obtain ⟨hx, hby, hml, hown, hret, hlk, hZ, rfl, hw⟩ := M
  obtain ⟨locs, X, hN, eT, hn, hcl, hsl⟩ := X
  have sa := A.small
  have sb := B.small
  obtain ⟨ka, A⟩ := A.arv
  obtain ⟨kb, B⟩ := B.arv
  have ea : (Int32.ofNat na).toInt = na := Int32.toInt_ofNat_of_lt sa
  have eb : (Int32.ofNat nb).toInt = nb := Int32.toInt_ofNat_of_lt sb
  have nneg : ∀ {x : Int32} {q : Nat}, x.toInt = q → ¬ x < 0 := fun {x q} z => by rw [Int32.lt_iff_toInt_lt, z, Int32.toInt_zero]; omega
  obtain ⟨T1, h1, L1, X1, e1, N1, K1, B1, st⟩ := cpA X hx hZ hown w1 w2 w3 w4 eT (A .null) (B .null) (Or.inl ⟨rfl, hty⟩) (nneg hsp) (nneg hdp) (nneg hnn) (by rw [own_nat hsp, own_nat hnn, own_nat ea]; exact h4) (by rw [own_nat hdp, own_nat hnn, own_nat eb]; exact h5) rfl (by simp [own_nat hdp, own_nat hnn]; exact h5) hN hgb (g := mkF m pc L (.int nn :: .int dp :: .ref b :: .int sp :: .ref a :: S)) rfl (by rw [hml]; exact hL) rfl (hb hby hd) hf (W := W) (by show 2 * 0 + _ ≤ W; omega) hlo
  subst hp
  obtain ⟨s2, o2, st2, r⟩ := hr T1 h1 ⟨_, X1, N1, e1, hn, hcl, hsl⟩ K1 (own_Va.of_arv B1 eb (fun t ht => by
    rw [own_nat hsp, own_nat hdp, own_nat hnn]
    exact own_cpl f g na nb i j k t h4 h5 ht .null))
  exact ⟨s2, o2, st _ st2, r⟩
theorem own_newarrayE (M : own_Mx Z a0 K code own mx ret rm) (X : own_Sx n0 K T h cl sl) {aty : ArrayType} {nn : Int32} {n : Nat} (cap : Nat) (w : (Jvm.Cond.arrayClass (newarray.typeOf aty)).before a0 Z = true) (hd : decode code pc = .ok (.newarray aty, 2)) (hp : pc + 2 = pc') (hnn : nn.toInt = n) (hcap : n ≤ cap) (hb8 : cap * 8 ≤ 536870912) (hc : cl + 1 ≤ rm.cells) (hs : sl + cap ≤ rm.slots) {ad : String} (had : "[" ++ (newarray.typeOf aty).toString = ad)
    (hr : ∀ T' h' a, n0 ≤ a → h.size ≤ a → own_Sx n0 K T' h' (cl + 1) (sl + cap) → Ext h h' → own_Va Z h' a (newarray.typeOf aty) n (fun _ => defaultValue (newarray.typeOf aty)) → Exa Z h' a ad → own_Fin n0 K P T' pc' L (.ref a :: S)) : own_Fin n0 K P T pc L (.int nn :: S) := by
  have hsz := X.size
  obtain ⟨p, l, e, R, s, m, args, below, meth, c⟩ := K
  obtain ⟨hx, hby, hml, hown, hret, hlk, hZ, rfl, hw⟩ := M
  obtain ⟨locs, X, hN, eT, hn, hcl, hsl⟩ := X
  obtain ⟨T1, h1, cA, X1, e1, E1, A1, EA1, st⟩ := newPE X hx hZ w eT (g := mkF m pc L (.int nn :: S)) rfl (hb hby hd) rfl (by rw [Int32.lt_iff_toInt_lt, hnn, Int32.toInt_zero]; omega) (cap := cap) (by rw [own_nat hnn]; exact hcap) hb8 hc hs had
  subst hp
  obtain ⟨s2, o2, st2, r⟩ := hr T1 h1 h.size hsz (Nat.le_refl _) ⟨_, X1, hN, e1, hn, hc, hs⟩ E1 ⟨_, A1, by rw [sz_new, own_nat hnn], by omega, fun j hj => by simp [newA, own_nat hnn, hj], fun j hj => by cases aty <;> rfl⟩ EA1
  exact ⟨s2, o2, st _ st2, r⟩
theorem own_checkcast (M : own_Mx Z a0 K code own mx ret rm) (X : own_Sx n0 K T h cl sl) {C : String} {idx : Nat} {a : Addr} (w : (Jvm.Cond.classLink own idx C).before a0 Z = true) (I : Ins Z h a C true) (hd : decode code pc = .ok (.checkcast idx, 3)) (hp : pc + 3 = pc') (hr : ∀ T', own_Sx n0 K T' h cl sl → own_Fin n0 K P T' pc' L (.ref a :: S)) : own_Fin n0 K P T pc L (.ref a :: S) := by
  obtain ⟨p, l, e, R, s, m, args, below, meth, c⟩ := K
  obtain ⟨hx, hby, hml, hown, hret, hlk, hZ, rfl, hw⟩ := M
  obtain ⟨locs, X, hN, eT, hn, hcl, hsl⟩ := X
  obtain ⟨T1, X1, e1, st⟩ := castY X hx hZ hown w eT I (g := mkF m pc L (.ref a :: S)) rfl rfl (hb hby hd)
  subst hp
  obtain ⟨s2, o2, st2, r⟩ := hr T1 ⟨_, X1, hN, e1, hn, hcl, hsl⟩
  exact ⟨s2, o2, st _ st2, r⟩
theorem own_clone (M : own_Mx Z a0 K code own mx ret rm) (X : own_Sx n0 K T h cl sl) {ad : String} {idx n : Nat} {a : Addr} {ty : FieldType} {f : Nat → Value}
    (w1 : (Jvm.Cond.methodLink own idx ⟨ad, "clone", "()Ljava/lang/Object;"⟩).before a0 Z = true) (w2 : (Jvm.Cond.sameMethod ad "java/lang/Object" "clone" "()Ljava/lang/Object;").before a0 Z = true) (w3 : (Jvm.Cond.native ⟨"java/lang/Object", "clone", "()Ljava/lang/Object;"⟩).before a0 Z = true) (w4 : (Jvm.Cond.instanceMethod ⟨"java/lang/Object", "clone", "()Ljava/lang/Object;"⟩).before a0 Z = true) (w5 : (Jvm.Cond.selects ad ⟨ad, "clone", "()Ljava/lang/Object;"⟩ ⟨"java/lang/Object", "clone", "()Ljava/lang/Object;"⟩).before a0 Z = true) (w6 : (Jvm.Cond.castable ad "java/lang/Cloneable").before a0 Z = true)
    (V : own_Va Z h a ty n f) (E : Exa Z h a ad) (hL : L.size = mx) (hd : decode code pc = .ok (.invokevirtual idx, 3)) (hp : pc + 3 = pc') (hf : 1 ≤ rm.frames) (W : Nat) (hW : (S.map fun v => v.category).sum ≤ W) (hlo : W + 14 ≤ rm.locals) (cap : Nat) (hcap : n ≤ cap) (hc : cl + 1 ≤ rm.cells) (hs : sl + cap ≤ rm.slots)
    (hr : ∀ T' h' b, n0 ≤ b → h.size ≤ b → own_Sx n0 K T' h' (cl + 1) (sl + cap) → Ext h h' → own_Va Z h' b ty n f → Exa Z h' b ad → own_Fin n0 K P T' pc' L (.ref b :: S)) : own_Fin n0 K P T pc L (.ref a :: S) := by
  have hsz := X.size
  obtain ⟨p, l, e, R, s, m, args, below, meth, c⟩ := K
  obtain ⟨hx, hby, hml, hown, hret, hlk, hZ, rfl, hw⟩ := M
  obtain ⟨locs, X, hN, eT, hn, hcl, hsl⟩ := X
  have sa := V.small
  obtain ⟨ka, A⟩ := V.arv
  have ea : (Int32.ofNat n).toInt = n := Int32.toInt_ofNat_of_lt sa
  obtain ⟨T1, h1, X1, e1, E1, A1, EA1, st⟩ := cloneH X hx hZ hown w1 w2 w3 w4 w5 w6 eT (A .null).arh E (g := mkF m pc L (.ref a :: S)) rfl (by rw [hml]; exact hL) rfl (hb hby hd) hf (W := W) (cap := cap) (by show 2 * 0 + _ ≤ W; omega) hlo (by rw [own_nat ea]; exact hcap) hc hs
  subst hp
  obtain ⟨s2, o2, st2, r⟩ := hr T1 h1 h.size hsz (Nat.le_refl _) ⟨_, X1, hN, e1, hn, hc, hs⟩ E1 (own_Va.of_arv (dv := .null) (vs := (List.range n).map f) A1 ea (fun j hj => by simp [List.getD, hj])) EA1
  exact ⟨s2, o2, st _ st2, r⟩
end OwnLayer
theorem own_pd0 : parseMethodDescriptor "(II)I" = some ⟨[.int, .int], some .int⟩ := by decide +kernel
theorem own_pd1 : parseMethodDescriptor "([BI)[B" = some ⟨[(.array .byte), .int], some (.array .byte)⟩ := by decide +kernel
theorem own_pd2 : parseMethodDescriptor "(I)V" = some ⟨[.int], none⟩ := by decide +kernel
theorem own_pd3 : parseMethodDescriptor "()V" = some ⟨[], none⟩ := by decide +kernel
theorem own_pd4 : parseMethodDescriptor "()[B" = some ⟨[], some (.array .byte)⟩ := by decide +kernel
theorem own_pd5 : parseMethodDescriptor "([BII)V" = some ⟨[(.array .byte), .int, .int], none⟩ := by decide +kernel
theorem own_pd6 : parseMethodDescriptor "(J)V" = some ⟨[.long], none⟩ := by decide +kernel
theorem d12_0 : decode jdk_29_method_65_code 0 = .ok (.iload_n 0, 1) := by decide +kernel
theorem d12_1 : decode jdk_29_method_65_code 1 = .ok (.iload_n 1, 1) := by decide +kernel
theorem d12_2 : decode jdk_29_method_65_code 2 = .ok (.if_icmp .lt 7, 3) := by decide +kernel
theorem d12_5 : decode jdk_29_method_65_code 5 = .ok (.iload_n 0, 1) := by decide +kernel
theorem d12_6 : decode jdk_29_method_65_code 6 = .ok (.goto 4, 3) := by decide +kernel
theorem d12_9 : decode jdk_29_method_65_code 9 = .ok (.iload_n 1, 1) := by decide +kernel
theorem d12_10 : decode jdk_29_method_65_code 10 = .ok (.ireturn, 1) := by decide +kernel
def F12 (x0 : Int32) (x1 : Int32) : Int32 := (if x0 < x1 then x1 else x0)
set_option maxRecDepth 65536 in
set_option maxHeartbeats 40000000 in
theorem met_12 (l : Launch) (Z : State) (a0 : Array Value) (hw : ∀ d ∈ tables_1, d.before a0 Z = true) (h0 : Heap) (n0 : Nat) (hn : n0 ≤ h0.size) (x0 : Int32) (x1 : Int32) : own_Met l Z n0 (⟨"java/lang/Math", "max", "(II)I"⟩ : MethodName) jdk_29_method_65_code 2 (some .int) ({ frames := 0, cells := 0, slots := 0, locals := 0 } : Room) #[(.int x0), (.int x1)] h0 (fun v h => v = some (.int (F12 x0 x1)) ∧ h = h0) := by
  refine own_enter (L := #[.val (.int x0), .val (.int x1)]) (Jvm.Free.JP.mathPlain rfl (by decide +kernel)) hw hn (fun m => by first | (simp [entryFrame, mkF, argsToLocals, Value.category]; done) | rfl) (fun K T hK M X => ?_)
  refine own_iloadN M X d12_0 rfl rfl ?_
  refine own_iloadN M X d12_1 rfl rfl ?_
  refine own_icmp_lt M X d12_2 (by decide) rfl rfl (fun q1 => ?_) (fun q1 => ?_)
  · skip
    refine own_iloadN M X d12_9 rfl rfl ?_
    exact own_retI M X d12_10 ⟨by rw [F12, if_pos q1], rfl⟩
  · skip
    refine own_iloadN M X d12_5 rfl rfl ?_
    refine own_goto M X d12_6 (by decide) rfl ?_
    exact own_retI M X d12_10 ⟨by rw [F12, if_neg q1], rfl⟩
theorem d5_0 : decode jdk_29_method_69_code 0 = .ok (.iload_n 0, 1) := by decide +kernel
theorem d5_1 : decode jdk_29_method_69_code 1 = .ok (.iload_n 1, 1) := by decide +kernel
theorem d5_2 : decode jdk_29_method_69_code 2 = .ok (.if_icmp .gt 7, 3) := by decide +kernel
theorem d5_5 : decode jdk_29_method_69_code 5 = .ok (.iload_n 0, 1) := by decide +kernel
theorem d5_6 : decode jdk_29_method_69_code 6 = .ok (.goto 4, 3) := by decide +kernel
theorem d5_9 : decode jdk_29_method_69_code 9 = .ok (.iload_n 1, 1) := by decide +kernel
theorem d5_10 : decode jdk_29_method_69_code 10 = .ok (.ireturn, 1) := by decide +kernel
def F5 (x0 : Int32) (x1 : Int32) : Int32 := (if x1 < x0 then x1 else x0)
set_option maxRecDepth 65536 in
set_option maxHeartbeats 40000000 in
theorem met_5 (l : Launch) (Z : State) (a0 : Array Value) (hw : ∀ d ∈ tables_1, d.before a0 Z = true) (h0 : Heap) (n0 : Nat) (hn : n0 ≤ h0.size) (x0 : Int32) (x1 : Int32) : own_Met l Z n0 (⟨"java/lang/Math", "min", "(II)I"⟩ : MethodName) jdk_29_method_69_code 2 (some .int) ({ frames := 0, cells := 0, slots := 0, locals := 0 } : Room) #[(.int x0), (.int x1)] h0 (fun v h => v = some (.int (F5 x0 x1)) ∧ h = h0) := by
  refine own_enter (L := #[.val (.int x0), .val (.int x1)]) (Jvm.Free.JP.mathPlain rfl (by decide +kernel)) hw hn (fun m => by first | (simp [entryFrame, mkF, argsToLocals, Value.category]; done) | rfl) (fun K T hK M X => ?_)
  refine own_iloadN M X d5_0 rfl rfl ?_
  refine own_iloadN M X d5_1 rfl rfl ?_
  refine own_icmp_gt M X d5_2 (by decide) rfl rfl (fun q1 => ?_) (fun q1 => ?_)
  · skip
    refine own_iloadN M X d5_9 rfl rfl ?_
    exact own_retI M X d5_10 ⟨by rw [F5, if_pos q1], rfl⟩
  · skip
    refine own_iloadN M X d5_5 rfl rfl ?_
    refine own_goto M X d5_6 (by decide) rfl ?_
    exact own_retI M X d5_10 ⟨by rw [F5, if_neg q1], rfl⟩
def own_En (Z : State) (h : Heap) (n0 : Nat) (a b : Addr) (n sz : Nat) (f : Nat → Int32) : Prop :=
  Exa Z h a "com/example/london_wall/londonwall/wire/Encoder" ∧ Fld Z h a "com/example/london_wall/londonwall/wire/Encoder" "size" "I" (.int (Int32.ofNat sz)) ∧ Fld Z h a "com/example/london_wall/londonwall/wire/Encoder" "bytes" "[B" (.ref b) ∧ Exa Z h b "[B" ∧ n0 ≤ b ∧ a ≠ b ∧ sz ≤ n ∧ n < 2 ^ 30 ∧ ∃ g : Nat → Int32, own_Va Z h b .byte n (fun j => .int (g j)) ∧ ∀ j, j < sz → g j = f j
theorem own_En.keep {Z : State} {h h' : Heap} {n0 : Nat} {a b : Addr} {n sz : Nat} {f : Nat → Int32} {ws : List Addr} (B : own_En Z h n0 a b n sz f) (K : Keep h h' ws) (qa : a ∉ ws) (qb : b ∉ ws) : own_En Z h' n0 a b n sz f := by
  obtain ⟨h1, h2, h3, h4, h5, h6, h7, h8, g, h9, h10⟩ := B
  exact ⟨h1.keep K, h2.keep K qa, h3.keep K qa, h4.keep K, h5, h6, h7, h8, g, h9.keep K qb, h10⟩
theorem own_En.lt {Z : State} {h : Heap} {n0 : Nat} {a b : Addr} {n sz : Nat} {f : Nat → Int32} (B : own_En Z h n0 a b n sz f) : a < h.size ∧ b < h.size := ⟨B.1.lt, B.2.2.2.1.lt⟩
theorem own_ofn {n : Nat} (h : n < 2 ^ 31) : (Int32.ofNat n).toInt = n := Int32.toInt_ofNat_of_lt h
def own_updI (f : Nat → Int32) (i : Nat) (v : Int32) : Nat → Int32 := fun j => if j = i then v else f j
theorem own_updIV {f : Nat → Int32} {i j : Nat} {v : Int32} : own_upd (fun j => .int (f j)) i (.int v) j = (fun j => .int (own_updI f i v j)) j := by
  by_cases q : j = i <;> simp [own_upd, own_updI, q]
theorem own_updS {f g : Nat → Int32} {sz : Nat} {v : Int32} (h : ∀ j, j < sz → g j = f j) : ∀ j, j < sz + 1 → own_updI g sz v j = own_updI f sz v j := fun j hj => by
  by_cases q : j = sz
  · simp [own_updI, q]
  · simp only [own_updI, if_neg q]; exact h j (by omega)
def own_upW (f e : Nat → Int32) (s k : Nat) : Nat → Int32 := fun t => if s ≤ t ∧ t < s + k then e (t - s) else f t
theorem own_wb {f g e : Nat → Int32} {sz k : Nat} (h : ∀ j, j < sz → g j = f j) : ∀ j, j < sz + k → own_upW g e sz k j = own_upW f e sz k j := fun j hj => by
  by_cases q : sz ≤ j ∧ j < sz + k
  · simp only [own_upW, if_pos q]
  · simp only [own_upW, if_neg q]; exact h j (by omega)
theorem own_tb {f g : Nat → Int32} {sz n : Nat} (h : ∀ j, j < sz → g j = f j) (hl : sz ≤ n) : ∀ t, t < sz → (fun t => if t < n then (fun j => Value.int (g j)) t else .int 0) t = (fun t => Value.int (f t)) t := fun t ht => by
  have q : t < n := by omega
  simp only [if_pos q, h t ht]
theorem own_sum {x y : Int32} {i j : Nat} (hx : x.toInt = i) (hy : y.toInt = j) (h : i + j < 2 ^ 31) : (x + y).toInt = ((i + j : Nat) : Int) := by
  rw [Jvm.Kit.i32_add (by omega) (by omega), hx, hy]; omega
theorem own_sumN {i j : Nat} {y : Int32} (hy : y.toInt = j) (h : i + j < 2 ^ 31) : Int32.ofNat i + y = Int32.ofNat (i + j) :=
  Int32.toInt_inj.mp (by rw [own_sum (own_ofn (by omega)) hy h, own_ofn h])
theorem d4_0 : decode jdk_65_method_121_code 0 = .ok (.iload_n 1, 1) := by decide +kernel
theorem d4_1 : decode jdk_65_method_121_code 1 = .ok (.aload_n 0, 1) := by decide +kernel
theorem d4_2 : decode jdk_65_method_121_code 2 = .ok (.arraylength, 1) := by decide +kernel
theorem d4_3 : decode jdk_65_method_121_code 3 = .ok (.if_icmp .ne 11, 3) := by decide +kernel
theorem d4_6 : decode jdk_65_method_121_code 6 = .ok (.aload_n 0, 1) := by decide +kernel
theorem d4_7 : decode jdk_65_method_121_code 7 = .ok (.invokevirtual 310, 3) := by decide +kernel
theorem d4_10 : decode jdk_65_method_121_code 10 = .ok (.checkcast 311, 3) := by decide +kernel
theorem d4_13 : decode jdk_65_method_121_code 13 = .ok (.areturn, 1) := by decide +kernel
theorem d4_14 : decode jdk_65_method_121_code 14 = .ok (.iload_n 1, 1) := by decide +kernel
theorem d4_15 : decode jdk_65_method_121_code 15 = .ok (.newarray .byte, 2) := by decide +kernel
theorem d4_17 : decode jdk_65_method_121_code 17 = .ok (.astore_n 2, 1) := by decide +kernel
theorem d4_18 : decode jdk_65_method_121_code 18 = .ok (.aload_n 0, 1) := by decide +kernel
theorem d4_19 : decode jdk_65_method_121_code 19 = .ok (.iconst 0, 1) := by decide +kernel
theorem d4_20 : decode jdk_65_method_121_code 20 = .ok (.aload_n 2, 1) := by decide +kernel
theorem d4_21 : decode jdk_65_method_121_code 21 = .ok (.iconst 0, 1) := by decide +kernel
theorem d4_22 : decode jdk_65_method_121_code 22 = .ok (.aload_n 0, 1) := by decide +kernel
theorem d4_23 : decode jdk_65_method_121_code 23 = .ok (.arraylength, 1) := by decide +kernel
theorem d4_24 : decode jdk_65_method_121_code 24 = .ok (.iload_n 1, 1) := by decide +kernel
theorem d4_25 : decode jdk_65_method_121_code 25 = .ok (.invokestatic 304, 3) := by decide +kernel
theorem d4_28 : decode jdk_65_method_121_code 28 = .ok (.invokestatic 150, 3) := by decide +kernel
theorem d4_31 : decode jdk_65_method_121_code 31 = .ok (.aload_n 2, 1) := by decide +kernel
theorem d4_32 : decode jdk_65_method_121_code 32 = .ok (.areturn, 1) := by decide +kernel
theorem own_pn4 : plainName "java/util/Arrays" = true := by first | (simp [plainName, overriddenIn]; done) | decide +kernel
theorem own_min (x y : Int32) {n m : Nat} (hx : x.toInt = n) (hy : y.toInt = m) : (F5 x y).toInt = ((min n m : Nat) : Int) := by
  unfold F5
  simp only [Int32.lt_iff_toInt_lt, hx, hy]
  split <;> omega
set_option maxRecDepth 65536 in
set_option maxHeartbeats 40000000 in
theorem met_4 (l : Launch) (Z : State) (a0 : Array Value) (hw : ∀ d ∈ tables_1, d.before a0 Z = true) (h0 : Heap) (n0 : Nat) (hn : n0 ≤ h0.size) (o0 : Addr) (i1 : Int32) (cap nn mm : Nat) (f : Nat → Value) (V0 : own_Va Z h0 o0 .byte nn f) (E0 : Exa Z h0 o0 "[B") (g1 : i1.toInt = mm) (g3 : mm ≤ cap) (g4 : cap * 8 ≤ 536870912) : own_Met l Z n0 (⟨"java/util/Arrays", "copyOf", "([BI)[B"⟩ : MethodName) jdk_65_method_121_code 3 (some (.array .byte)) ({ frames := 1, cells := 1, slots := cap, locals := 20 } : Room) #[(.ref o0), (.int i1)] h0 (fun v h => ∃ b, v = some (.ref b) ∧ n0 ≤ b ∧ h0.size ≤ b ∧ Keep h0 h [] ∧ Exa Z h b "[B" ∧ own_Va Z h b .byte mm (fun t => if t < nn then f t else .int 0)) := by
  refine own_enter (L := #[.val (.ref o0), .val (.int i1), .unset]) (plainFor_of_name own_pn4) hw hn (fun m => by first | (simp [entryFrame, mkF, argsToLocals, Value.category]; done) | rfl) (fun K T hK M X => ?_)
  refine own_iloadN M X d4_0 rfl rfl ?_
  refine own_aloadN M X d4_1 rfl rfl rfl ?_
  refine own_arraylength M X (z := (Int32.ofNat nn)) V0 (own_ofn V0.small) d4_2 rfl ?_
  refine own_icmp_ne M X d4_3 (by decide) rfl rfl (fun q1 => ?_) (fun q1 => ?_)
  · skip
    refine own_iloadN M X d4_14 rfl rfl ?_
    refine own_newarrayE M X (n := mm) cap (hw _ (List.mem_of_getElem? (i := 0) rfl)) d4_15 rfl g1 g3 (by first | exact g4 | (dsimp only; omega)) (by first | exact g4 | (dsimp only; omega)) (by first | exact g4 | (dsimp only; omega)) (ad := "[B") (by decide) ?_
    intro T2 h3 a4 ge5 gs6 X7 E8 V9 EA10
    have ne11 : o0 ≠ a4 := Nat.ne_of_lt (Nat.lt_of_lt_of_le V0.lt gs6)
    have sz12 : h0.size ≤ a4 := Nat.le_trans (Keep.refl h0 []).1 gs6
    have KK13 := (Keep.refl h0 []).ext E8
    have V14 := V0.ext E8
    have E15 := E0.ext E8
    replace V9 : own_Va Z h3 a4 .byte mm (fun _ => .int 0) := V9
    refine own_astoreN M X7 (L' := #[.val (.ref o0), .val (.int i1), .val (.ref a4)]) d4_17 rfl rfl rfl ?_
    refine own_aloadN M X7 d4_18 rfl rfl rfl ?_
    refine own_iconst M X7 (v := (0 : Int32)) d4_19 rfl rfl ?_
    refine own_aloadN M X7 d4_20 rfl rfl rfl ?_
    refine own_iconst M X7 (v := (0 : Int32)) d4_21 rfl rfl ?_
    refine own_aloadN M X7 d4_22 rfl rfl rfl ?_
    refine own_arraylength M X7 (z := (Int32.ofNat nn)) V14 (own_ofn V0.small) d4_23 rfl ?_
    refine own_iloadN M X7 d4_24 rfl rfl ?_
    refine own_callP M X7 (yrm := ({ frames := 0, cells := 0, slots := 0, locals := 0 } : Room)) [(.int (Int32.ofNat nn)), (.int i1)] (hw _ (List.mem_of_getElem? (i := 23) rfl)) (hw _ (List.mem_of_getElem? (i := 24) rfl)) (hw _ (List.mem_of_getElem? (i := 25) rfl)) (hw _ (List.mem_of_getElem? (i := 26) rfl)) (by decide) (met_5 _ Z a0 hw h3 n0 X7.size (Int32.ofNat nn) i1) rfl d4_25 rfl own_pd0 rfl rfl 4 (Nat.le_of_eq rfl) (by first | exact g4 | (dsimp only; omega)) (by first | exact g4 | (dsimp only; omega)) rfl rfl ?_
    intro T16 X17
    refine own_arraycopy M X17 (i := 0) (j := 0) (k := min nn mm) (hw _ (List.mem_of_getElem? (i := 27) rfl)) (hw _ (List.mem_of_getElem? (i := 30) rfl)) (hw _ (List.mem_of_getElem? (i := 28) rfl)) (hw _ (List.mem_of_getElem? (i := 29) rfl)) V14 V9 rfl (by decide) (by decide) (own_min _ _ (own_ofn V0.small) g1) (by omega) (by omega) ge5 rfl d4_28 rfl (by first | exact g4 | (dsimp only; omega)) 0 (Nat.le_of_eq rfl) (by first | exact g4 | (dsimp only; omega)) ?_
    intro T18 h19 X20 K21 V22
    have KK23 := (KK13).trans K21 (allS (Or.inr sz12) all0)
    have V24 := V14.keep K21 (ninS ne11 nin0)
    have E25 := E15.keep K21
    have E26 := EA10.keep K21
    refine own_aloadN M X20 d4_31 rfl rfl rfl ?_
    exact own_retA M X20 rfl rfl d4_32 ⟨a4, rfl, ge5, sz12, KK23, E26, V22.congr (fun t ht => by by_cases q : t < nn <;> simp [q] <;> omega)⟩
  · skip
    refine own_aloadN M X d4_6 rfl rfl rfl ?_
    refine own_clone M X (hw _ (List.mem_of_getElem? (i := 63) rfl)) (hw _ (List.mem_of_getElem? (i := 64) rfl)) (hw _ (List.mem_of_getElem? (i := 68) rfl)) (hw _ (List.mem_of_getElem? (i := 66) rfl)) (hw _ (List.mem_of_getElem? (i := 67) rfl)) (hw _ (List.mem_of_getElem? (i := 69) rfl)) V0 E0 rfl d4_7 rfl (by first | exact g4 | (dsimp only; omega)) 0 (Nat.le_of_eq rfl) (by first | exact g4 | (dsimp only; omega)) cap (by have e := q1; rw [← Int32.toInt_inj, g1, own_ofn V0.small] at e; omega) (by first | exact g4 | (dsimp only; omega)) (by first | exact g4 | (dsimp only; omega)) ?_
    intro T27 h28 b29 ge30 gs31 X32 E33 V34 EA35
    have sz36 : h0.size ≤ b29 := Nat.le_trans (Keep.refl h0 []).1 gs31
    have ne37 : o0 ≠ b29 := Nat.ne_of_lt (Nat.lt_of_lt_of_le V0.lt gs31)
    have KK38 := (Keep.refl h0 []).ext E33
    have V39 := V0.ext E33
    have E40 := E0.ext E33
    refine own_checkcast M X32 (hw _ (List.mem_of_getElem? (i := 70) rfl)) (Ins.self EA35) d4_10 rfl ?_
    intro T41 X42
    exact own_retA M X42 rfl rfl d4_13 ⟨b29, rfl, ge30, sz36, KK38, EA35, (by obtain rfl : mm = nn := by { have e := q1; rw [← Int32.toInt_inj, g1, own_ofn V0.small] at e; omega }; exact V34.congr (fun t ht => by simp [ht]))⟩
theorem d1_0 : decode prog_43_method_1_code 0 = .ok (.aload_n 0, 1) := by decide +kernel
theorem d1_1 : decode prog_43_method_1_code 1 = .ok (.invokespecial 1, 3) := by decide +kernel
theorem d1_4 : decode prog_43_method_1_code 4 = .ok (.aload_n 0, 1) := by decide +kernel
theorem d1_5 : decode prog_43_method_1_code 5 = .ok (.sipush 256, 3) := by decide +kernel
theorem d1_8 : decode prog_43_method_1_code 8 = .ok (.newarray .byte, 2) := by decide +kernel
theorem d1_10 : decode prog_43_method_1_code 10 = .ok (.putfield 7, 3) := by decide +kernel
theorem d1_13 : decode prog_43_method_1_code 13 = .ok (.return_, 1) := by decide +kernel
theorem own_pn1 : plainName "com/example/london_wall/londonwall/wire/Encoder" = true := by first | (simp [plainName, overriddenIn]; done) | decide +kernel
set_option maxRecDepth 65536 in
set_option maxHeartbeats 40000000 in
theorem met_1 (l : Launch) (Z : State) (a0 : Array Value) (hw : ∀ d ∈ tables_1, d.before a0 Z = true) (h0 : Heap) (n0 : Nat) (hn : n0 ≤ h0.size) (o0 : Addr) (ge0 : n0 ≤ o0) (E0 : Exa Z h0 o0 "com/example/london_wall/londonwall/wire/Encoder") (F0 : Fld Z h0 o0 "com/example/london_wall/londonwall/wire/Encoder" "size" "I" (.int (0 : Int32))) (F1 : Fld Z h0 o0 "com/example/london_wall/londonwall/wire/Encoder" "bytes" "[B" .null) : own_Met l Z n0 (⟨"com/example/london_wall/londonwall/wire/Encoder", "<init>", "()V"⟩ : MethodName) prog_43_method_1_code 1 none ({ frames := 1, cells := 1, slots := 256, locals := 12 } : Room) #[(.ref o0)] h0 (fun v h => v = none ∧ ∃ b, own_En Z h n0 o0 b 256 0 (fun _ => 0) ∧ h0.size ≤ b ∧ Keep h0 h [o0]) := by
  refine own_enter (L := #[.val (.ref o0)]) (plainFor_of_name own_pn1) hw hn (fun m => by first | (simp [entryFrame, mkF, argsToLocals, Value.category]; done) | rfl) (fun K T hK M X => ?_)
  refine own_aloadN M X d1_0 rfl rfl rfl ?_
  refine own_initO M X (hw _ (List.mem_of_getElem? (i := 7) rfl)) (hw _ (List.mem_of_getElem? (i := 8) rfl)) (hw _ (List.mem_of_getElem? (i := 9) rfl)) rfl d1_1 rfl (by decide) 0 (Nat.le_of_eq rfl) (by decide) ?_
  intro T1 X2
  refine own_aloadN M X2 d1_4 rfl rfl rfl ?_
  refine own_sipush M X2 (v := (256 : Int32)) d1_5 rfl rfl ?_
  refine own_newarrayE M X2 (n := 256) 256 (hw _ (List.mem_of_getElem? (i := 0) rfl)) d1_8 rfl (by decide) (by decide) (by decide) (by decide) (by decide) (ad := "[B") (by decide) ?_
  intro T3 h4 a5 ge6 gs7 X8 E9 V10 EA11
  have ne12 : o0 ≠ a5 := Nat.ne_of_lt (Nat.lt_of_lt_of_le E0.lt gs7)
  have sz13 : h0.size ≤ a5 := Nat.le_trans (Keep.refl h0 [o0]).1 gs7
  have KK14 := (Keep.refl h0 [o0]).ext E9
  have E15 := E0.ext E9
  have F16 := F0.ext E9
  have F17 := F1.ext E9
  replace V10 : own_Va Z h4 a5 .byte 256 (fun _ => .int 0) := V10
  refine own_putfield M X8 (hw _ (List.mem_of_getElem? (i := 10) rfl)) F17 E15 (Or.inl (hw _ (List.mem_of_getElem? (i := 11) rfl))) (hw _ (List.mem_of_getElem? (i := 2) rfl)) (ty := (.array .byte)) (by decide) rfl rfl ge0 d1_10 rfl ?_
  intro T18 h19 X20 W21
  have F22 := Fld.same W21 F17
  have KK23 := (KK14).wr W21 (Or.inl (List.mem_of_getElem? (i := 0) rfl))
  have E24 := Exa.wr W21 E15
  have F25 := Fld.other W21 F16 (Or.inr (slot_ne (Or.inl (hw _ (List.mem_of_getElem? (i := 18) rfl))) (Or.inl (hw _ (List.mem_of_getElem? (i := 11) rfl))) (by decide) (t := .int) (t' := (.array .byte)) (by decide) (by decide)))
  have E26 := Exa.wr W21 EA11
  have V27 := V10.keep (Keep.of_wr W21) (ninS (Ne.symm ne12) nin0)
  exact own_retV M X20 d1_13 ⟨rfl, a5, ⟨E24, F25, F22, E26, ge6, ne12, Nat.zero_le _, (by decide), _, V27, fun j hj => absurd hj (Nat.not_lt_zero j)⟩, sz13, KK23⟩
theorem own_maxv {n m : Nat} {y : Int32} (hn : 2 * n < 2 ^ 31) (hy : y.toInt = m) (hm : m < 2 ^ 31) : (F12 ((Int32.ofNat n) * (2 : Int32)) y).toInt = ((max (2 * n) m : Nat) : Int) := by
  have e2 := own_ofn (n := n) (by omega)
  have l2 : (2 : Int32).toInt = 2 := by decide
  have e4 : ((Int32.ofNat n) * (2 : Int32)).toInt = ((2 * n : Nat) : Int) := by rw [Jvm.Kit.i32_mul (by rw [e2, l2]; omega) (by rw [e2, l2]; omega), e2, l2]; omega
  unfold F12
  simp only [Int32.lt_iff_toInt_lt, e4, hy]
  split <;> omega
theorem d7_0 : decode prog_43_method_23_code 0 = .ok (.aload_n 0, 1) := by decide +kernel
theorem d7_1 : decode prog_43_method_23_code 1 = .ok (.getfield 13, 3) := by decide +kernel
theorem d7_4 : decode prog_43_method_23_code 4 = .ok (.iload_n 1, 1) := by decide +kernel
theorem d7_5 : decode prog_43_method_23_code 5 = .ok (.iadd, 1) := by decide +kernel
theorem d7_6 : decode prog_43_method_23_code 6 = .ok (.aload_n 0, 1) := by decide +kernel
theorem d7_7 : decode prog_43_method_23_code 7 = .ok (.getfield 7, 3) := by decide +kernel
theorem d7_10 : decode prog_43_method_23_code 10 = .ok (.arraylength, 1) := by decide +kernel
theorem d7_11 : decode prog_43_method_23_code 11 = .ok (.if_icmp .le 30, 3) := by decide +kernel
theorem d7_14 : decode prog_43_method_23_code 14 = .ok (.aload_n 0, 1) := by decide +kernel
theorem d7_15 : decode prog_43_method_23_code 15 = .ok (.aload_n 0, 1) := by decide +kernel
theorem d7_16 : decode prog_43_method_23_code 16 = .ok (.getfield 7, 3) := by decide +kernel
theorem d7_19 : decode prog_43_method_23_code 19 = .ok (.aload_n 0, 1) := by decide +kernel
theorem d7_20 : decode prog_43_method_23_code 20 = .ok (.getfield 7, 3) := by decide +kernel
theorem d7_23 : decode prog_43_method_23_code 23 = .ok (.arraylength, 1) := by decide +kernel
theorem d7_24 : decode prog_43_method_23_code 24 = .ok (.iconst 2, 1) := by decide +kernel
theorem d7_25 : decode prog_43_method_23_code 25 = .ok (.imul, 1) := by decide +kernel
theorem d7_26 : decode prog_43_method_23_code 26 = .ok (.aload_n 0, 1) := by decide +kernel
theorem d7_27 : decode prog_43_method_23_code 27 = .ok (.getfield 13, 3) := by decide +kernel
theorem d7_30 : decode prog_43_method_23_code 30 = .ok (.iload_n 1, 1) := by decide +kernel
theorem d7_31 : decode prog_43_method_23_code 31 = .ok (.iadd, 1) := by decide +kernel
theorem d7_32 : decode prog_43_method_23_code 32 = .ok (.invokestatic 320, 3) := by decide +kernel
theorem d7_35 : decode prog_43_method_23_code 35 = .ok (.invokestatic 23, 3) := by decide +kernel
theorem d7_38 : decode prog_43_method_23_code 38 = .ok (.putfield 7, 3) := by decide +kernel
theorem d7_41 : decode prog_43_method_23_code 41 = .ok (.return_, 1) := by decide +kernel
theorem own_pn7 : plainName "com/example/london_wall/londonwall/wire/Encoder" = true := by first | (simp [plainName, overriddenIn]; done) | decide +kernel
set_option maxRecDepth 65536 in
set_option maxHeartbeats 40000000 in
theorem met_7 (l : Launch) (Z : State) (a0 : Array Value) (hw : ∀ d ∈ tables_1, d.before a0 Z = true) (h0 : Heap) (n0 : Nat) (hn : n0 ≤ h0.size) (o0 : Addr) (i1 : Int32) (b : Addr) (nn sz k cap : Nat) (f : Nat → Int32) (hB : own_En Z h0 n0 o0 b nn sz f) (ge0 : n0 ≤ o0) (gk : i1.toInt = k) (hk : k < 2 ^ 29) (gc : nn < sz + k → max (2 * nn) (sz + k) ≤ cap) (g4 : cap * 8 ≤ 536870912) : own_Met l Z n0 (⟨"com/example/london_wall/londonwall/wire/Encoder", "ensure", "(I)V"⟩ : MethodName) prog_43_method_23_code 2 none ({ frames := 2, cells := 1, slots := cap, locals := 35 } : Room) #[(.ref o0), (.int i1)] h0 (fun v h => v = none ∧ ∃ b' n', n' ≤ max nn cap ∧ sz + k ≤ n' ∧ own_En Z h n0 o0 b' n' sz f ∧ Keep h0 h [o0] ∧ (b' = b ∨ h0.size ≤ b')) := by
  refine own_enter (L := #[.val (.ref o0), .val (.int i1)]) (plainFor_of_name own_pn7) hw hn (fun m => by first | (simp [entryFrame, mkF, argsToLocals, Value.category]; done) | rfl) (fun K T hK M X => ?_)
  obtain ⟨Eo1, Fs2, Fb3, Eb4, gb5, nb6, lb7, tb8, g9, Vb10, hg11⟩ := hB
  refine own_aloadN M X d7_0 rfl rfl rfl ?_
  refine own_getfield M X (hw _ (List.mem_of_getElem? (i := 17) rfl)) Fs2 d7_1 rfl ?_
  intro T12 X13
  refine own_iloadN M X13 d7_4 rfl rfl ?_
  refine own_iadd M X13 d7_5 rfl ?_
  refine own_aloadN M X13 d7_6 rfl rfl rfl ?_
  refine own_getfield M X13 (hw _ (List.mem_of_getElem? (i := 10) rfl)) Fb3 d7_7 rfl ?_
  intro T14 X15
  refine own_arraylength M X15 (z := (Int32.ofNat nn)) Vb10 (own_ofn (by omega)) d7_10 rfl ?_
  refine own_icmp_le M X15 d7_11 (by decide) rfl rfl (fun q16 => ?_) (fun q16 => ?_)
  · skip
    exact own_retV M X15 d7_41 ⟨rfl, b, nn, (by omega), (by have e := q16; rw [Int32.lt_iff_toInt_lt, own_sum (own_ofn (by omega)) gk (by omega), own_ofn (by omega)] at e; omega), ⟨Eo1, Fs2, Fb3, Eb4, gb5, nb6, lb7, tb8, g9, Vb10, hg11⟩, Keep.refl h0 [o0], Or.inl rfl⟩
  · skip
    refine own_aloadN M X15 d7_14 rfl rfl rfl ?_
    refine own_aloadN M X15 d7_15 rfl rfl rfl ?_
    refine own_getfield M X15 (hw _ (List.mem_of_getElem? (i := 10) rfl)) Fb3 d7_16 rfl ?_
    intro T17 X18
    refine own_aloadN M X18 d7_19 rfl rfl rfl ?_
    refine own_getfield M X18 (hw _ (List.mem_of_getElem? (i := 10) rfl)) Fb3 d7_20 rfl ?_
    intro T19 X20
    refine own_arraylength M X20 (z := (Int32.ofNat nn)) Vb10 (own_ofn (by omega)) d7_23 rfl ?_
    refine own_iconst M X20 (v := (2 : Int32)) d7_24 rfl rfl ?_
    refine own_imul M X20 d7_25 rfl ?_
    refine own_aloadN M X20 d7_26 rfl rfl rfl ?_
    refine own_getfield M X20 (hw _ (List.mem_of_getElem? (i := 17) rfl)) Fs2 d7_27 rfl ?_
    intro T21 X22
    refine own_iloadN M X22 d7_30 rfl rfl ?_
    refine own_iadd M X22 d7_31 rfl ?_
    refine own_callP M X22 (yrm := ({ frames := 0, cells := 0, slots := 0, locals := 0 } : Room)) [(.int ((Int32.ofNat nn) * (2 : Int32))), (.int ((Int32.ofNat sz) + i1))] (hw _ (List.mem_of_getElem? (i := 60) rfl)) (hw _ (List.mem_of_getElem? (i := 61) rfl)) (hw _ (List.mem_of_getElem? (i := 25) rfl)) (hw _ (List.mem_of_getElem? (i := 62) rfl)) (by decide) (met_12 _ Z a0 hw h0 n0 X22.size ((Int32.ofNat nn) * (2 : Int32)) ((Int32.ofNat sz) + i1)) rfl d7_32 rfl own_pd0 rfl rfl 2 (Nat.le_of_eq rfl) (by first | exact g4 | (dsimp only; omega)) (by first | exact g4 | (dsimp only; omega)) rfl rfl ?_
    intro T23 X24
    have eS : (((Int32.ofNat sz) + i1)).toInt = ((sz + k : Nat) : Int) := own_sum (own_ofn (by omega)) gk (by omega)
    have hgr : nn < sz + k := by have e := q16; rw [Int32.lt_iff_toInt_lt, eS, own_ofn (by omega)] at e; omega
    have gc' := gc hgr
    refine own_callS M X24 (yrm := ({ frames := 1, cells := 1, slots := cap, locals := 20 } : Room)) [(.ref b), (.int (F12 ((Int32.ofNat nn) * (2 : Int32)) ((Int32.ofNat sz) + i1)))] (hw _ (List.mem_of_getElem? (i := 19) rfl)) (hw _ (List.mem_of_getElem? (i := 20) rfl)) (hw _ (List.mem_of_getElem? (i := 21) rfl)) (hw _ (List.mem_of_getElem? (i := 22) rfl)) (by decide) (met_4 _ Z a0 hw h0 n0 X24.size b (F12 ((Int32.ofNat nn) * (2 : Int32)) ((Int32.ofNat sz) + i1)) cap nn (max (2 * nn) (sz + k)) _ Vb10 Eb4 (own_maxv (by omega) eS (by omega)) gc' g4) rfl d7_35 rfl own_pd1 rfl rfl 1 (Nat.le_of_eq rfl) (by first | exact g4 | (dsimp only; omega)) (by first | exact g4 | (dsimp only; omega)) (by first | exact g4 | (dsimp only; omega)) (by first | exact g4 | (dsimp only; omega)) ?_
    rintro T31 h32 v33 X34 ⟨b25, rfl, ge26, sz27, K28, EA29, V30⟩
    have sz35 : h0.size ≤ b25 := Nat.le_trans (Keep.refl h0 [o0]).1 sz27
    have ne36 : o0 ≠ b25 := Nat.ne_of_lt (Nat.lt_of_lt_of_le Eo1.lt sz27)
    have ne37 : b ≠ b25 := Nat.ne_of_lt (Nat.lt_of_lt_of_le Eb4.lt sz27)
    have KK38 := (Keep.refl h0 [o0]).trans K28 all0
    have E39 := Eo1.keep K28
    have F40 := Fs2.keep K28 nin0
    have F41 := Fb3.keep K28 nin0
    have E42 := Eb4.keep K28
    have V43 := Vb10.keep K28 nin0
    replace V30 : own_Va Z h32 b25 .byte (max (2 * nn) (sz + k)) (fun j => .int ((fun t => if t < nn then g9 t else 0) j)) := V30.congr (fun t _ => by by_cases q : t < nn <;> simp [q])
    replace X34 : own_Sx n0 K T31 h32 1 (0 + cap) := X34
    show own_Fin n0 K _ T31 38 #[.val (.ref o0), .val (.int i1)] [(.ref b25), (.ref o0)]
    refine own_putfield M X34 (hw _ (List.mem_of_getElem? (i := 10) rfl)) F41 E39 (Or.inl (hw _ (List.mem_of_getElem? (i := 11) rfl))) (hw _ (List.mem_of_getElem? (i := 2) rfl)) (ty := (.array .byte)) (by decide) rfl rfl ge0 d7_38 rfl ?_
    intro T44 h45 X46 W47
    have F48 := Fld.same W47 F41
    have KK49 := (KK38).wr W47 (Or.inl (List.mem_of_getElem? (i := 0) rfl))
    have E50 := Exa.wr W47 E39
    have F51 := Fld.other W47 F40 (Or.inr (slot_ne (Or.inl (hw _ (List.mem_of_getElem? (i := 18) rfl))) (Or.inl (hw _ (List.mem_of_getElem? (i := 11) rfl))) (by decide) (t := .int) (t' := (.array .byte)) (by decide) (by decide)))
    have E52 := Exa.wr W47 E42
    have V53 := V43.keep (Keep.of_wr W47) (ninS (Ne.symm nb6) nin0)
    have V54 := V30.keep (Keep.of_wr W47) (ninS (Ne.symm ne36) nin0)
    have E55 := Exa.wr W47 EA29
    exact own_retV M X46 d7_41 ⟨rfl, b25, _, (by omega), (by omega), ⟨E50, F51, F48, E55, ge26, ne36, (by omega), (by omega), _, V54, fun j hj => (if_pos (by omega)).trans (hg11 j hj)⟩, KK49, Or.inr sz35⟩
theorem d6_0 : decode prog_43_method_9_code 0 = .ok (.aload_n 0, 1) := by decide +kernel
theorem d6_1 : decode prog_43_method_9_code 1 = .ok (.iconst 1, 1) := by decide +kernel
theorem d6_2 : decode prog_43_method_9_code 2 = .ok (.invokevirtual 150, 3) := by decide +kernel
theorem d6_5 : decode prog_43_method_9_code 5 = .ok (.aload_n 0, 1) := by decide +kernel
theorem d6_6 : decode prog_43_method_9_code 6 = .ok (.getfield 7, 3) := by decide +kernel
theorem d6_9 : decode prog_43_method_9_code 9 = .ok (.aload_n 0, 1) := by decide +kernel
theorem d6_10 : decode prog_43_method_9_code 10 = .ok (.dup, 1) := by decide +kernel
theorem d6_11 : decode prog_43_method_9_code 11 = .ok (.getfield 13, 3) := by decide +kernel
theorem d6_14 : decode prog_43_method_9_code 14 = .ok (.dup_x1, 1) := by decide +kernel
theorem d6_15 : decode prog_43_method_9_code 15 = .ok (.iconst 1, 1) := by decide +kernel
theorem d6_16 : decode prog_43_method_9_code 16 = .ok (.iadd, 1) := by decide +kernel
theorem d6_17 : decode prog_43_method_9_code 17 = .ok (.putfield 13, 3) := by decide +kernel
theorem d6_20 : decode prog_43_method_9_code 20 = .ok (.iload_n 1, 1) := by decide +kernel
theorem d6_21 : decode prog_43_method_9_code 21 = .ok (.i2b, 1) := by decide +kernel
theorem d6_22 : decode prog_43_method_9_code 22 = .ok (.bastore, 1) := by decide +kernel
theorem d6_23 : decode prog_43_method_9_code 23 = .ok (.return_, 1) := by decide +kernel
theorem own_pn6 : plainName "com/example/london_wall/londonwall/wire/Encoder" = true := by first | (simp [plainName, overriddenIn]; done) | decide +kernel
set_option maxRecDepth 65536 in
set_option maxHeartbeats 40000000 in
theorem met_6 (l : Launch) (Z : State) (a0 : Array Value) (hw : ∀ d ∈ tables_1, d.before a0 Z = true) (h0 : Heap) (n0 : Nat) (hn : n0 ≤ h0.size) (o0 : Addr) (i1 : Int32) (b : Addr) (nn sz cap : Nat) (f : Nat → Int32) (hB : own_En Z h0 n0 o0 b nn sz f) (ge0 : n0 ≤ o0) (gc : nn < sz + 1 → max (2 * nn) (sz + 1) ≤ cap) (g4 : cap * 8 ≤ 536870912) : own_Met l Z n0 (⟨"com/example/london_wall/londonwall/wire/Encoder", "writeOctet", "(I)V"⟩ : MethodName) prog_43_method_9_code 2 none ({ frames := 3, cells := 1, slots := cap, locals := 48 } : Room) #[(.ref o0), (.int i1)] h0 (fun v h => v = none ∧ ∃ b' n', n' ≤ max nn cap ∧ own_En Z h n0 o0 b' n' (sz + 1) (own_updI f sz ((i1.toInt8.toInt32).toInt8.toInt32)) ∧ Keep h0 h [o0, b] ∧ (b' = b ∨ h0.size ≤ b')) := by
  refine own_enter (L := #[.val (.ref o0), .val (.int i1)]) (plainFor_of_name own_pn6) hw hn (fun m => by first | (simp [entryFrame, mkF, argsToLocals, Value.category]; done) | rfl) (fun K T hK M X => ?_)
  refine own_aloadN M X d6_0 rfl rfl rfl ?_
  refine own_iconst M X (v := (1 : Int32)) d6_1 rfl rfl ?_
  have hB0 := hB
  have lt0 := hB.lt
  have E8 := hB.1
  refine own_callPriv M X (yrm := ({ frames := 2, cells := 1, slots := cap, locals := 35 } : Room)) [(.int (1 : Int32))] (hw _ (List.mem_of_getElem? (i := 36) rfl)) (hw _ (List.mem_of_getElem? (i := 37) rfl)) (hw _ (List.mem_of_getElem? (i := 38) rfl)) (hw _ (List.mem_of_getElem? (i := 2) rfl)) (hw _ (List.mem_of_getElem? (i := 3) rfl)) (hw _ (List.mem_of_getElem? (i := 39) rfl)) (by decide) E8 (met_7 _ Z a0 hw h0 n0 X.size o0 (1 : Int32) b nn sz 1 cap f hB ge0 (by decide) (by decide) gc g4) rfl d6_2 rfl own_pd2 rfl rfl 0 (Nat.le_of_eq rfl) (by first | exact g4 | (dsimp only; omega)) (by first | exact g4 | (dsimp only; omega)) (by first | exact g4 | (dsimp only; omega)) (by first | exact g4 | (dsimp only; omega)) ?_
  rintro T9 h10 v11 X12 ⟨rfl, b1, n2, hle3, hge4, B5, K6, hb7⟩
  replace X12 : own_Sx n0 K T9 h10 1 (0 + cap) := X12
  show own_Fin n0 K _ T9 5 #[.val (.ref o0), .val (.int i1)] []
  obtain ⟨Eo13, Fs14, Fb15, Eb16, gb17, nb18, lb19, tb20, g21, Vb22, hg23⟩ := B5
  have KK24 : Keep h0 h10 [o0, b] := (Keep.refl h0 [o0, b]).trans K6 (fun x hx => Or.inl (by cases List.mem_singleton.mp hx; simp))
  refine own_aloadN M X12 d6_5 rfl rfl rfl ?_
  refine own_getfield M X12 (hw _ (List.mem_of_getElem? (i := 10) rfl)) Fb15 d6_6 rfl ?_
  intro T25 X26
  refine own_aloadN M X26 d6_9 rfl rfl rfl ?_
  refine own_dup M X26 d6_10 rfl rfl ?_
  refine own_getfield M X26 (hw _ (List.mem_of_getElem? (i := 17) rfl)) Fs14 d6_11 rfl ?_
  intro T27 X28
  refine own_dup_x1 M X28 d6_14 rfl rfl rfl ?_
  refine own_iconst M X28 (v := (1 : Int32)) d6_15 rfl rfl ?_
  refine own_iadd M X28 d6_16 rfl ?_
  refine own_putfield M X28 (hw _ (List.mem_of_getElem? (i := 17) rfl)) Fs14 Eo13 (Or.inl (hw _ (List.mem_of_getElem? (i := 18) rfl))) (hw _ (List.mem_of_getElem? (i := 2) rfl)) (ty := .int) (by decide) rfl rfl ge0 d6_17 rfl ?_
  intro T29 h30 X31 W32
  have F33 := Fld.same W32 Fs14
  have KK34 := (KK24).wr W32 (Or.inl (List.mem_of_getElem? (i := 0) rfl))
  have E35 := Exa.wr W32 Eo13
  have F36 := Fld.other W32 Fb15 (Or.inr (slot_ne (Or.inl (hw _ (List.mem_of_getElem? (i := 11) rfl))) (Or.inl (hw _ (List.mem_of_getElem? (i := 18) rfl))) (by decide) (t := (.array .byte)) (t' := .int) (by decide) (by decide)))
  have E37 := Exa.wr W32 Eb16
  have V38 := Vb22.keep (Keep.of_wr W32) (ninS (Ne.symm nb18) nin0)
  have Fs39 : Fld Z h30 o0 "com/example/london_wall/londonwall/wire/Encoder" "size" "I" (.int (Int32.ofNat (sz + 1))) := by rw [← own_sumN (i := sz) (by decide : (1 : Int32).toInt = (1 : Nat)) (by omega)]; exact F33
  refine own_iloadN M X31 d6_20 rfl rfl ?_
  refine own_i2b M X31 d6_21 rfl ?_
  refine own_bastore M X31 V38 gb17 (i := sz) (own_ofn (by omega)) (by omega) d6_22 rfl ?_
  intro T40 h41 X42 K43 V44
  replace V44 : own_Va Z h41 b1 .byte n2 (fun j => .int ((own_updI g21 sz ((i1.toInt8.toInt32).toInt8.toInt32)) j)) := V44.congr (fun j _ => own_updIV)
  have hg45 : ∀ j, j < sz + 1 → (own_updI g21 sz ((i1.toInt8.toInt32).toInt8.toInt32)) j = (own_updI f sz ((i1.toInt8.toInt32).toInt8.toInt32)) j := own_updS hg23
  have KK46 : Keep h0 h41 [o0, b] := KK34.trans K43 (allS (hb7.imp (fun e => by simp [e]) id) all0)
  have E47 := E35.keep K43
  have F48 := Fs39.keep K43 (ninS nb18 nin0)
  have F49 := F36.keep K43 (ninS nb18 nin0)
  have E50 := E37.keep K43
  exact own_retV M X42 d6_23 ⟨rfl, b1, n2, hle3, ⟨E47, F48, F49, E50, gb17, nb18, (by omega), tb20, (own_updI g21 sz ((i1.toInt8.toInt32).toInt8.toInt32)), V44, hg45⟩, KK46, hb7⟩
theorem d8_0 : decode prog_43_method_10_code 0 = .ok (.aload_n 0, 1) := by decide +kernel
theorem d8_1 : decode prog_43_method_10_code 1 = .ok (.iconst 2, 1) := by decide +kernel
theorem d8_2 : decode prog_43_method_10_code 2 = .ok (.invokevirtual 150, 3) := by decide +kernel
theorem d8_5 : decode prog_43_method_10_code 5 = .ok (.aload_n 0, 1) := by decide +kernel
theorem d8_6 : decode prog_43_method_10_code 6 = .ok (.getfield 7, 3) := by decide +kernel
theorem d8_9 : decode prog_43_method_10_code 9 = .ok (.aload_n 0, 1) := by decide +kernel
theorem d8_10 : decode prog_43_method_10_code 10 = .ok (.dup, 1) := by decide +kernel
theorem d8_11 : decode prog_43_method_10_code 11 = .ok (.getfield 13, 3) := by decide +kernel
theorem d8_14 : decode prog_43_method_10_code 14 = .ok (.dup_x1, 1) := by decide +kernel
theorem d8_15 : decode prog_43_method_10_code 15 = .ok (.iconst 1, 1) := by decide +kernel
theorem d8_16 : decode prog_43_method_10_code 16 = .ok (.iadd, 1) := by decide +kernel
theorem d8_17 : decode prog_43_method_10_code 17 = .ok (.putfield 13, 3) := by decide +kernel
theorem d8_20 : decode prog_43_method_10_code 20 = .ok (.iload_n 1, 1) := by decide +kernel
theorem d8_21 : decode prog_43_method_10_code 21 = .ok (.bipush 8, 2) := by decide +kernel
theorem d8_23 : decode prog_43_method_10_code 23 = .ok (.iushr, 1) := by decide +kernel
theorem d8_24 : decode prog_43_method_10_code 24 = .ok (.i2b, 1) := by decide +kernel
theorem d8_25 : decode prog_43_method_10_code 25 = .ok (.bastore, 1) := by decide +kernel
theorem d8_26 : decode prog_43_method_10_code 26 = .ok (.aload_n 0, 1) := by decide +kernel
theorem d8_27 : decode prog_43_method_10_code 27 = .ok (.getfield 7, 3) := by decide +kernel
theorem d8_30 : decode prog_43_method_10_code 30 = .ok (.aload_n 0, 1) := by decide +kernel
theorem d8_31 : decode prog_43_method_10_code 31 = .ok (.dup, 1) := by decide +kernel
theorem d8_32 : decode prog_43_method_10_code 32 = .ok (.getfield 13, 3) := by decide +kernel
theorem d8_35 : decode prog_43_method_10_code 35 = .ok (.dup_x1, 1) := by decide +kernel
theorem d8_36 : decode prog_43_method_10_code 36 = .ok (.iconst 1, 1) := by decide +kernel
theorem d8_37 : decode prog_43_method_10_code 37 = .ok (.iadd, 1) := by decide +kernel
theorem d8_38 : decode prog_43_method_10_code 38 = .ok (.putfield 13, 3) := by decide +kernel
theorem d8_41 : decode prog_43_method_10_code 41 = .ok (.iload_n 1, 1) := by decide +kernel
theorem d8_42 : decode prog_43_method_10_code 42 = .ok (.i2b, 1) := by decide +kernel
theorem d8_43 : decode prog_43_method_10_code 43 = .ok (.bastore, 1) := by decide +kernel
theorem d8_44 : decode prog_43_method_10_code 44 = .ok (.return_, 1) := by decide +kernel
theorem own_pn8 : plainName "com/example/london_wall/londonwall/wire/Encoder" = true := by first | (simp [plainName, overriddenIn]; done) | decide +kernel
set_option maxRecDepth 65536 in
set_option maxHeartbeats 40000000 in
theorem met_8 (l : Launch) (Z : State) (a0 : Array Value) (hw : ∀ d ∈ tables_1, d.before a0 Z = true) (h0 : Heap) (n0 : Nat) (hn : n0 ≤ h0.size) (o0 : Addr) (i1 : Int32) (b : Addr) (nn sz cap : Nat) (f : Nat → Int32) (hB : own_En Z h0 n0 o0 b nn sz f) (ge0 : n0 ≤ o0) (gc : nn < sz + 2 → max (2 * nn) (sz + 2) ≤ cap) (g4 : cap * 8 ≤ 536870912) : own_Met l Z n0 (⟨"com/example/london_wall/londonwall/wire/Encoder", "writeShort", "(I)V"⟩ : MethodName) prog_43_method_10_code 2 none ({ frames := 3, cells := 1, slots := cap, locals := 48 } : Room) #[(.ref o0), (.int i1)] h0 (fun v h => v = none ∧ ∃ b' n', n' ≤ max nn cap ∧ own_En Z h n0 o0 b' n' (sz + 2) (own_updI (own_updI f sz ((((i1.toUInt32 >>> ((8 : Int32) &&& 31).toUInt32).toInt32).toInt8.toInt32).toInt8.toInt32)) (sz + 1) ((i1.toInt8.toInt32).toInt8.toInt32)) ∧ Keep h0 h [o0, b] ∧ (b' = b ∨ h0.size ≤ b')) := by
  refine own_enter (L := #[.val (.ref o0), .val (.int i1)]) (plainFor_of_name own_pn8) hw hn (fun m => by first | (simp [entryFrame, mkF, argsToLocals, Value.category]; done) | rfl) (fun K T hK M X => ?_)
  refine own_aloadN M X d8_0 rfl rfl rfl ?_
  refine own_iconst M X (v := (2 : Int32)) d8_1 rfl rfl ?_
  have hB0 := hB
  have lt0 := hB.lt
  have E8 := hB.1
  refine own_callPriv M X (yrm := ({ frames := 2, cells := 1, slots := cap, locals := 35 } : Room)) [(.int (2 : Int32))] (hw _ (List.mem_of_getElem? (i := 36) rfl)) (hw _ (List.mem_of_getElem? (i := 37) rfl)) (hw _ (List.mem_of_getElem? (i := 38) rfl)) (hw _ (List.mem_of_getElem? (i := 2) rfl)) (hw _ (List.mem_of_getElem? (i := 3) rfl)) (hw _ (List.mem_of_getElem? (i := 39) rfl)) (by decide) E8 (met_7 _ Z a0 hw h0 n0 X.size o0 (2 : Int32) b nn sz 2 cap f hB ge0 (by decide) (by decide) gc g4) rfl d8_2 rfl own_pd2 rfl rfl 0 (Nat.le_of_eq rfl) (by first | exact g4 | (dsimp only; omega)) (by first | exact g4 | (dsimp only; omega)) (by first | exact g4 | (dsimp only; omega)) (by first | exact g4 | (dsimp only; omega)) ?_
  rintro T9 h10 v11 X12 ⟨rfl, b1, n2, hle3, hge4, B5, K6, hb7⟩
  replace X12 : own_Sx n0 K T9 h10 1 (0 + cap) := X12
  show own_Fin n0 K _ T9 5 #[.val (.ref o0), .val (.int i1)] []
  obtain ⟨Eo13, Fs14, Fb15, Eb16, gb17, nb18, lb19, tb20, g21, Vb22, hg23⟩ := B5
  have KK24 : Keep h0 h10 [o0, b] := (Keep.refl h0 [o0, b]).trans K6 (fun x hx => Or.inl (by cases List.mem_singleton.mp hx; simp))
  refine own_aloadN M X12 d8_5 rfl rfl rfl ?_
  refine own_getfield M X12 (hw _ (List.mem_of_getElem? (i := 10) rfl)) Fb15 d8_6 rfl ?_
  intro T25 X26
  refine own_aloadN M X26 d8_9 rfl rfl rfl ?_
  refine own_dup M X26 d8_10 rfl rfl ?_
  refine own_getfield M X26 (hw _ (List.mem_of_getElem? (i := 17) rfl)) Fs14 d8_11 rfl ?_
  intro T27 X28
  refine own_dup_x1 M X28 d8_14 rfl rfl rfl ?_
  refine own_iconst M X28 (v := (1 : Int32)) d8_15 rfl rfl ?_
  refine own_iadd M X28 d8_16 rfl ?_
  refine own_putfield M X28 (hw _ (List.mem_of_getElem? (i := 17) rfl)) Fs14 Eo13 (Or.inl (hw _ (List.mem_of_getElem? (i := 18) rfl))) (hw _ (List.mem_of_getElem? (i := 2) rfl)) (ty := .int) (by decide) rfl rfl ge0 d8_17 rfl ?_
  intro T29 h30 X31 W32
  have F33 := Fld.same W32 Fs14
  have KK34 := (KK24).wr W32 (Or.inl (List.mem_of_getElem? (i := 0) rfl))
  have E35 := Exa.wr W32 Eo13
  have F36 := Fld.other W32 Fb15 (Or.inr (slot_ne (Or.inl (hw _ (List.mem_of_getElem? (i := 11) rfl))) (Or.inl (hw _ (List.mem_of_getElem? (i := 18) rfl))) (by decide) (t := (.array .byte)) (t' := .int) (by decide) (by decide)))
  have E37 := Exa.wr W32 Eb16
  have V38 := Vb22.keep (Keep.of_wr W32) (ninS (Ne.symm nb18) nin0)
  have Fs39 : Fld Z h30 o0 "com/example/london_wall/londonwall/wire/Encoder" "size" "I" (.int (Int32.ofNat (sz + 1))) := by rw [← own_sumN (i := sz) (by decide : (1 : Int32).toInt = (1 : Nat)) (by omega)]; exact F33
  refine own_iloadN M X31 d8_20 rfl rfl ?_
  refine own_bipush M X31 (v := (8 : Int32)) d8_21 rfl rfl ?_
  refine own_iushr M X31 d8_23 rfl ?_
  refine own_i2b M X31 d8_24 rfl ?_
  refine own_bastore M X31 V38 gb17 (i := sz) (own_ofn (by omega)) (by omega) d8_25 rfl ?_
  intro T40 h41 X42 K43 V44
  replace V44 : own_Va Z h41 b1 .byte n2 (fun j => .int ((own_updI g21 sz ((((i1.toUInt32 >>> ((8 : Int32) &&& 31).toUInt32).toInt32).toInt8.toInt32).toInt8.toInt32)) j)) := V44.congr (fun j _ => own_updIV)
  have hg45 : ∀ j, j < sz + 1 → (own_updI g21 sz ((((i1.toUInt32 >>> ((8 : Int32) &&& 31).toUInt32).toInt32).toInt8.toInt32).toInt8.toInt32)) j = (own_updI f sz ((((i1.toUInt32 >>> ((8 : Int32) &&& 31).toUInt32).toInt32).toInt8.toInt32).toInt8.toInt32)) j := own_updS hg23
  have KK46 : Keep h0 h41 [o0, b] := KK34.trans K43 (allS (hb7.imp (fun e => by simp [e]) id) all0)
  have E47 := E35.keep K43
  have F48 := Fs39.keep K43 (ninS nb18 nin0)
  have F49 := F36.keep K43 (ninS nb18 nin0)
  have E50 := E37.keep K43
  refine own_aloadN M X42 d8_26 rfl rfl rfl ?_
  refine own_getfield M X42 (hw _ (List.mem_of_getElem? (i := 10) rfl)) F49 d8_27 rfl ?_
  intro T51 X52
  refine own_aloadN M X52 d8_30 rfl rfl rfl ?_
  refine own_dup M X52 d8_31 rfl rfl ?_
  refine own_getfield M X52 (hw _ (List.mem_of_getElem? (i := 17) rfl)) F48 d8_32 rfl ?_
  intro T53 X54
  refine own_dup_x1 M X54 d8_35 rfl rfl rfl ?_
  refine own_iconst M X54 (v := (1 : Int32)) d8_36 rfl rfl ?_
  refine own_iadd M X54 d8_37 rfl ?_
  refine own_putfield M X54 (hw _ (List.mem_of_getElem? (i := 17) rfl)) F48 E47 (Or.inl (hw _ (List.mem_of_getElem? (i := 18) rfl))) (hw _ (List.mem_of_getElem? (i := 2) rfl)) (ty := .int) (by decide) rfl rfl ge0 d8_38 rfl ?_
  intro T55 h56 X57 W58
  have F59 := Fld.same W58 F48
  have KK60 := (KK46).wr W58 (Or.inl (List.mem_of_getElem? (i := 0) rfl))
  have E61 := Exa.wr W58 E47
  have F62 := Fld.other W58 F49 (Or.inr (slot_ne (Or.inl (hw _ (List.mem_of_getElem? (i := 11) rfl))) (Or.inl (hw _ (List.mem_of_getElem? (i := 18) rfl))) (by decide) (t := (.array .byte)) (t' := .int) (by decide) (by decide)))
  have E63 := Exa.wr W58 E50
  have V64 := V44.keep (Keep.of_wr W58) (ninS (Ne.symm nb18) nin0)
  have Fs65 : Fld Z h56 o0 "com/example/london_wall/londonwall/wire/Encoder" "size" "I" (.int (Int32.ofNat (sz + 2))) := by rw [← own_sumN (i := (sz + 1)) (by decide : (1 : Int32).toInt = (1 : Nat)) (by omega)]; exact F59
  refine own_iloadN M X57 d8_41 rfl rfl ?_
  refine own_i2b M X57 d8_42 rfl ?_
  refine own_bastore M X57 V64 gb17 (i := (sz + 1)) (own_ofn (by omega)) (by omega) d8_43 rfl ?_
  intro T66 h67 X68 K69 V70
  replace V70 : own_Va Z h67 b1 .byte n2 (fun j => .int ((own_updI (own_updI g21 sz ((((i1.toUInt32 >>> ((8 : Int32) &&& 31).toUInt32).toInt32).toInt8.toInt32).toInt8.toInt32)) (sz + 1) ((i1.toInt8.toInt32).toInt8.toInt32)) j)) := V70.congr (fun j _ => own_updIV)
  have hg71 : ∀ j, j < (sz + 1) + 1 → (own_updI (own_updI g21 sz ((((i1.toUInt32 >>> ((8 : Int32) &&& 31).toUInt32).toInt32).toInt8.toInt32).toInt8.toInt32)) (sz + 1) ((i1.toInt8.toInt32).toInt8.toInt32)) j = (own_updI (own_updI f sz ((((i1.toUInt32 >>> ((8 : Int32) &&& 31).toUInt32).toInt32).toInt8.toInt32).toInt8.toInt32)) (sz + 1) ((i1.toInt8.toInt32).toInt8.toInt32)) j := own_updS hg45
  have KK72 : Keep h0 h67 [o0, b] := KK60.trans K69 (allS (hb7.imp (fun e => by simp [e]) id) all0)
  have E73 := E61.keep K69
  have F74 := Fs65.keep K69 (ninS nb18 nin0)
  have F75 := F62.keep K69 (ninS nb18 nin0)
  have E76 := E63.keep K69
  exact own_retV M X68 d8_44 ⟨rfl, b1, n2, hle3, ⟨E73, F74, F75, E76, gb17, nb18, (by omega), tb20, (own_updI (own_updI g21 sz ((((i1.toUInt32 >>> ((8 : Int32) &&& 31).toUInt32).toInt32).toInt8.toInt32).toInt8.toInt32)) (sz + 1) ((i1.toInt8.toInt32).toInt8.toInt32)), V70, hg71⟩, KK72, hb7⟩
theorem d11_0 : decode prog_43_method_12_code 0 = .ok (.aload_n 0, 1) := by decide +kernel
theorem d11_1 : decode prog_43_method_12_code 1 = .ok (.iconst 4, 1) := by decide +kernel
theorem d11_2 : decode prog_43_method_12_code 2 = .ok (.invokevirtual 150, 3) := by decide +kernel
theorem d11_5 : decode prog_43_method_12_code 5 = .ok (.aload_n 0, 1) := by decide +kernel
theorem d11_6 : decode prog_43_method_12_code 6 = .ok (.getfield 7, 3) := by decide +kernel
theorem d11_9 : decode prog_43_method_12_code 9 = .ok (.aload_n 0, 1) := by decide +kernel
theorem d11_10 : decode prog_43_method_12_code 10 = .ok (.dup, 1) := by decide +kernel
theorem d11_11 : decode prog_43_method_12_code 11 = .ok (.getfield 13, 3) := by decide +kernel
theorem d11_14 : decode prog_43_method_12_code 14 = .ok (.dup_x1, 1) := by decide +kernel
theorem d11_15 : decode prog_43_method_12_code 15 = .ok (.iconst 1, 1) := by decide +kernel
theorem d11_16 : decode prog_43_method_12_code 16 = .ok (.iadd, 1) := by decide +kernel
theorem d11_17 : decode prog_43_method_12_code 17 = .ok (.putfield 13, 3) := by decide +kernel
theorem d11_20 : decode prog_43_method_12_code 20 = .ok (.iload_n 1, 1) := by decide +kernel
theorem d11_21 : decode prog_43_method_12_code 21 = .ok (.bipush 24, 2) := by decide +kernel
theorem d11_23 : decode prog_43_method_12_code 23 = .ok (.iushr, 1) := by decide +kernel
theorem d11_24 : decode prog_43_method_12_code 24 = .ok (.i2b, 1) := by decide +kernel
theorem d11_25 : decode prog_43_method_12_code 25 = .ok (.bastore, 1) := by decide +kernel
theorem d11_26 : decode prog_43_method_12_code 26 = .ok (.aload_n 0, 1) := by decide +kernel
theorem d11_27 : decode prog_43_method_12_code 27 = .ok (.getfield 7, 3) := by decide +kernel
theorem d11_30 : decode prog_43_method_12_code 30 = .ok (.aload_n 0, 1) := by decide +kernel
theorem d11_31 : decode prog_43_method_12_code 31 = .ok (.dup, 1) := by decide +kernel
theorem d11_32 : decode prog_43_method_12_code 32 = .ok (.getfield 13, 3) := by decide +kernel
theorem d11_35 : decode prog_43_method_12_code 35 = .ok (.dup_x1, 1) := by decide +kernel
theorem d11_36 : decode prog_43_method_12_code 36 = .ok (.iconst 1, 1) := by decide +kernel
theorem d11_37 : decode prog_43_method_12_code 37 = .ok (.iadd, 1) := by decide +kernel
theorem d11_38 : decode prog_43_method_12_code 38 = .ok (.putfield 13, 3) := by decide +kernel
theorem d11_41 : decode prog_43_method_12_code 41 = .ok (.iload_n 1, 1) := by decide +kernel
theorem d11_42 : decode prog_43_method_12_code 42 = .ok (.bipush 16, 2) := by decide +kernel
theorem d11_44 : decode prog_43_method_12_code 44 = .ok (.iushr, 1) := by decide +kernel
theorem d11_45 : decode prog_43_method_12_code 45 = .ok (.i2b, 1) := by decide +kernel
theorem d11_46 : decode prog_43_method_12_code 46 = .ok (.bastore, 1) := by decide +kernel
theorem d11_47 : decode prog_43_method_12_code 47 = .ok (.aload_n 0, 1) := by decide +kernel
theorem d11_48 : decode prog_43_method_12_code 48 = .ok (.getfield 7, 3) := by decide +kernel
theorem d11_51 : decode prog_43_method_12_code 51 = .ok (.aload_n 0, 1) := by decide +kernel
theorem d11_52 : decode prog_43_method_12_code 52 = .ok (.dup, 1) := by decide +kernel
theorem d11_53 : decode prog_43_method_12_code 53 = .ok (.getfield 13, 3) := by decide +kernel
theorem d11_56 : decode prog_43_method_12_code 56 = .ok (.dup_x1, 1) := by decide +kernel
theorem d11_57 : decode prog_43_method_12_code 57 = .ok (.iconst 1, 1) := by decide +kernel
theorem d11_58 : decode prog_43_method_12_code 58 = .ok (.iadd, 1) := by decide +kernel
theorem d11_59 : decode prog_43_method_12_code 59 = .ok (.putfield 13, 3) := by decide +kernel
theorem d11_62 : decode prog_43_method_12_code 62 = .ok (.iload_n 1, 1) := by decide +kernel
theorem d11_63 : decode prog_43_method_12_code 63 = .ok (.bipush 8, 2) := by decide +kernel
theorem d11_65 : decode prog_43_method_12_code 65 = .ok (.iushr, 1) := by decide +kernel
theorem d11_66 : decode prog_43_method_12_code 66 = .ok (.i2b, 1) := by decide +kernel
theorem d11_67 : decode prog_43_method_12_code 67 = .ok (.bastore, 1) := by decide +kernel
theorem d11_68 : decode prog_43_method_12_code 68 = .ok (.aload_n 0, 1) := by decide +kernel
theorem d11_69 : decode prog_43_method_12_code 69 = .ok (.getfield 7, 3) := by decide +kernel
theorem d11_72 : decode prog_43_method_12_code 72 = .ok (.aload_n 0, 1) := by decide +kernel
theorem d11_73 : decode prog_43_method_12_code 73 = .ok (.dup, 1) := by decide +kernel
theorem d11_74 : decode prog_43_method_12_code 74 = .ok (.getfield 13, 3) := by decide +kernel
theorem d11_77 : decode prog_43_method_12_code 77 = .ok (.dup_x1, 1) := by decide +kernel
theorem d11_78 : decode prog_43_method_12_code 78 = .ok (.iconst 1, 1) := by decide +kernel
theorem d11_79 : decode prog_43_method_12_code 79 = .ok (.iadd, 1) := by decide +kernel
theorem d11_80 : decode prog_43_method_12_code 80 = .ok (.putfield 13, 3) := by decide +kernel
theorem d11_83 : decode prog_43_method_12_code 83 = .ok (.iload_n 1, 1) := by decide +kernel
theorem d11_84 : decode prog_43_method_12_code 84 = .ok (.i2b, 1) := by decide +kernel
theorem d11_85 : decode prog_43_method_12_code 85 = .ok (.bastore, 1) := by decide +kernel
theorem d11_86 : decode prog_43_method_12_code 86 = .ok (.return_, 1) := by decide +kernel
theorem own_pn11 : plainName "com/example/london_wall/londonwall/wire/Encoder" = true := by first | (simp [plainName, overriddenIn]; done) | decide +kernel
set_option maxRecDepth 65536 in
set_option maxHeartbeats 40000000 in
theorem met_11 (l : Launch) (Z : State) (a0 : Array Value) (hw : ∀ d ∈ tables_1, d.before a0 Z = true) (h0 : Heap) (n0 : Nat) (hn : n0 ≤ h0.size) (o0 : Addr) (i1 : Int32) (b : Addr) (nn sz cap : Nat) (f : Nat → Int32) (hB : own_En Z h0 n0 o0 b nn sz f) (ge0 : n0 ≤ o0) (gc : nn < sz + 4 → max (2 * nn) (sz + 4) ≤ cap) (g4 : cap * 8 ≤ 536870912) : own_Met l Z n0 (⟨"com/example/london_wall/londonwall/wire/Encoder", "writeInt", "(I)V"⟩ : MethodName) prog_43_method_12_code 2 none ({ frames := 3, cells := 1, slots := cap, locals := 48 } : Room) #[(.ref o0), (.int i1)] h0 (fun v h => v = none ∧ ∃ b' n', n' ≤ max nn cap ∧ own_En Z h n0 o0 b' n' (sz + 4) (own_updI (own_updI (own_updI (own_updI f sz ((((i1.toUInt32 >>> ((24 : Int32) &&& 31).toUInt32).toInt32).toInt8.toInt32).toInt8.toInt32)) (sz + 1) ((((i1.toUInt32 >>> ((16 : Int32) &&& 31).toUInt32).toInt32).toInt8.toInt32).toInt8.toInt32)) (sz + 2) ((((i1.toUInt32 >>> ((8 : Int32) &&& 31).toUInt32).toInt32).toInt8.toInt32).toInt8.toInt32)) (sz + 3) ((i1.toInt8.toInt32).toInt8.toInt32)) ∧ Keep h0 h [o0, b] ∧ (b' = b ∨ h0.size ≤ b')) := by
  refine own_enter (L := #[.val (.ref o0), .val (.int i1)]) (plainFor_of_name own_pn11) hw hn (fun m => by first | (simp [entryFrame, mkF, argsToLocals, Value.category]; done) | rfl) (fun K T hK M X => ?_)
  refine own_aloadN M X d11_0 rfl rfl rfl ?_
  refine own_iconst M X (v := (4 : Int32)) d11_1 rfl rfl ?_
  have hB0 := hB
  have lt0 := hB.lt
  have E8 := hB.1
  refine own_callPriv M X (yrm := ({ frames := 2, cells := 1, slots := cap, locals := 35 } : Room)) [(.int (4 : Int32))] (hw _ (List.mem_of_getElem? (i := 36) rfl)) (hw _ (List.mem_of_getElem? (i := 37) rfl)) (hw _ (List.mem_of_getElem? (i := 38) rfl)) (hw _ (List.mem_of_getElem? (i := 2) rfl)) (hw _ (List.mem_of_getElem? (i := 3) rfl)) (hw _ (List.mem_of_getElem? (i := 39) rfl)) (by decide) E8 (met_7 _ Z a0 hw h0 n0 X.size o0 (4 : Int32) b nn sz 4 cap f hB ge0 (by decide) (by decide) gc g4) rfl d11_2 rfl own_pd2 rfl rfl 0 (Nat.le_of_eq rfl) (by first | exact g4 | (dsimp only; omega)) (by first | exact g4 | (dsimp only; omega)) (by first | exact g4 | (dsimp only; omega)) (by first | exact g4 | (dsimp only; omega)) ?_
  rintro T9 h10 v11 X12 ⟨rfl, b1, n2, hle3, hge4, B5, K6, hb7⟩
  replace X12 : own_Sx n0 K T9 h10 1 (0 + cap) := X12
  show own_Fin n0 K _ T9 5 #[.val (.ref o0), .val (.int i1)] []
  obtain ⟨Eo13, Fs14, Fb15, Eb16, gb17, nb18, lb19, tb20, g21, Vb22, hg23⟩ := B5
  have KK24 : Keep h0 h10 [o0, b] := (Keep.refl h0 [o0, b]).trans K6 (fun x hx => Or.inl (by cases List.mem_singleton.mp hx; simp))
  refine own_aloadN M X12 d11_5 rfl rfl rfl ?_
  refine own_getfield M X12 (hw _ (List.mem_of_getElem? (i := 10) rfl)) Fb15 d11_6 rfl ?_
  intro T25 X26
  refine own_aloadN M X26 d11_9 rfl rfl rfl ?_
  refine own_dup M X26 d11_10 rfl rfl ?_
  refine own_getfield M X26 (hw _ (List.mem_of_getElem? (i := 17) rfl)) Fs14 d11_11 rfl ?_
  intro T27 X28
  refine own_dup_x1 M X28 d11_14 rfl rfl rfl ?_
  refine own_iconst M X28 (v := (1 : Int32)) d11_15 rfl rfl ?_
  refine own_iadd M X28 d11_16 rfl ?_
  refine own_putfield M X28 (hw _ (List.mem_of_getElem? (i := 17) rfl)) Fs14 Eo13 (Or.inl (hw _ (List.mem_of_getElem? (i := 18) rfl))) (hw _ (List.mem_of_getElem? (i := 2) rfl)) (ty := .int) (by decide) rfl rfl ge0 d11_17 rfl ?_
  intro T29 h30 X31 W32
  have F33 := Fld.same W32 Fs14
  have KK34 := (KK24).wr W32 (Or.inl (List.mem_of_getElem? (i := 0) rfl))
  have E35 := Exa.wr W32 Eo13
  have F36 := Fld.other W32 Fb15 (Or.inr (slot_ne (Or.inl (hw _ (List.mem_of_getElem? (i := 11) rfl))) (Or.inl (hw _ (List.mem_of_getElem? (i := 18) rfl))) (by decide) (t := (.array .byte)) (t' := .int) (by decide) (by decide)))
  have E37 := Exa.wr W32 Eb16
  have V38 := Vb22.keep (Keep.of_wr W32) (ninS (Ne.symm nb18) nin0)
  have Fs39 : Fld Z h30 o0 "com/example/london_wall/londonwall/wire/Encoder" "size" "I" (.int (Int32.ofNat (sz + 1))) := by rw [← own_sumN (i := sz) (by decide : (1 : Int32).toInt = (1 : Nat)) (by omega)]; exact F33
  refine own_iloadN M X31 d11_20 rfl rfl ?_
  refine own_bipush M X31 (v := (24 : Int32)) d11_21 rfl rfl ?_
  refine own_iushr M X31 d11_23 rfl ?_
  refine own_i2b M X31 d11_24 rfl ?_
  refine own_bastore M X31 V38 gb17 (i := sz) (own_ofn (by omega)) (by omega) d11_25 rfl ?_
  intro T40 h41 X42 K43 V44
  replace V44 : own_Va Z h41 b1 .byte n2 (fun j => .int ((own_updI g21 sz ((((i1.toUInt32 >>> ((24 : Int32) &&& 31).toUInt32).toInt32).toInt8.toInt32).toInt8.toInt32)) j)) := V44.congr (fun j _ => own_updIV)
  have hg45 : ∀ j, j < sz + 1 → (own_updI g21 sz ((((i1.toUInt32 >>> ((24 : Int32) &&& 31).toUInt32).toInt32).toInt8.toInt32).toInt8.toInt32)) j = (own_updI f sz ((((i1.toUInt32 >>> ((24 : Int32) &&& 31).toUInt32).toInt32).toInt8.toInt32).toInt8.toInt32)) j := own_updS hg23
  have KK46 : Keep h0 h41 [o0, b] := KK34.trans K43 (allS (hb7.imp (fun e => by simp [e]) id) all0)
  have E47 := E35.keep K43
  have F48 := Fs39.keep K43 (ninS nb18 nin0)
  have F49 := F36.keep K43 (ninS nb18 nin0)
  have E50 := E37.keep K43
  refine own_aloadN M X42 d11_26 rfl rfl rfl ?_
  refine own_getfield M X42 (hw _ (List.mem_of_getElem? (i := 10) rfl)) F49 d11_27 rfl ?_
  intro T51 X52
  refine own_aloadN M X52 d11_30 rfl rfl rfl ?_
  refine own_dup M X52 d11_31 rfl rfl ?_
  refine own_getfield M X52 (hw _ (List.mem_of_getElem? (i := 17) rfl)) F48 d11_32 rfl ?_
  intro T53 X54
  refine own_dup_x1 M X54 d11_35 rfl rfl rfl ?_
  refine own_iconst M X54 (v := (1 : Int32)) d11_36 rfl rfl ?_
  refine own_iadd M X54 d11_37 rfl ?_
  refine own_putfield M X54 (hw _ (List.mem_of_getElem? (i := 17) rfl)) F48 E47 (Or.inl (hw _ (List.mem_of_getElem? (i := 18) rfl))) (hw _ (List.mem_of_getElem? (i := 2) rfl)) (ty := .int) (by decide) rfl rfl ge0 d11_38 rfl ?_
  intro T55 h56 X57 W58
  have F59 := Fld.same W58 F48
  have KK60 := (KK46).wr W58 (Or.inl (List.mem_of_getElem? (i := 0) rfl))
  have E61 := Exa.wr W58 E47
  have F62 := Fld.other W58 F49 (Or.inr (slot_ne (Or.inl (hw _ (List.mem_of_getElem? (i := 11) rfl))) (Or.inl (hw _ (List.mem_of_getElem? (i := 18) rfl))) (by decide) (t := (.array .byte)) (t' := .int) (by decide) (by decide)))
  have E63 := Exa.wr W58 E50
  have V64 := V44.keep (Keep.of_wr W58) (ninS (Ne.symm nb18) nin0)
  have Fs65 : Fld Z h56 o0 "com/example/london_wall/londonwall/wire/Encoder" "size" "I" (.int (Int32.ofNat (sz + 2))) := by rw [← own_sumN (i := (sz + 1)) (by decide : (1 : Int32).toInt = (1 : Nat)) (by omega)]; exact F59
  refine own_iloadN M X57 d11_41 rfl rfl ?_
  refine own_bipush M X57 (v := (16 : Int32)) d11_42 rfl rfl ?_
  refine own_iushr M X57 d11_44 rfl ?_
  refine own_i2b M X57 d11_45 rfl ?_
  refine own_bastore M X57 V64 gb17 (i := (sz + 1)) (own_ofn (by omega)) (by omega) d11_46 rfl ?_
  intro T66 h67 X68 K69 V70
  replace V70 : own_Va Z h67 b1 .byte n2 (fun j => .int ((own_updI (own_updI g21 sz ((((i1.toUInt32 >>> ((24 : Int32) &&& 31).toUInt32).toInt32).toInt8.toInt32).toInt8.toInt32)) (sz + 1) ((((i1.toUInt32 >>> ((16 : Int32) &&& 31).toUInt32).toInt32).toInt8.toInt32).toInt8.toInt32)) j)) := V70.congr (fun j _ => own_updIV)
  have hg71 : ∀ j, j < (sz + 1) + 1 → (own_updI (own_updI g21 sz ((((i1.toUInt32 >>> ((24 : Int32) &&& 31).toUInt32).toInt32).toInt8.toInt32).toInt8.toInt32)) (sz + 1) ((((i1.toUInt32 >>> ((16 : Int32) &&& 31).toUInt32).toInt32).toInt8.toInt32).toInt8.toInt32)) j = (own_updI (own_updI f sz ((((i1.toUInt32 >>> ((24 : Int32) &&& 31).toUInt32).toInt32).toInt8.toInt32).toInt8.toInt32)) (sz + 1) ((((i1.toUInt32 >>> ((16 : Int32) &&& 31).toUInt32).toInt32).toInt8.toInt32).toInt8.toInt32)) j := own_updS hg45
  have KK72 : Keep h0 h67 [o0, b] := KK60.trans K69 (allS (hb7.imp (fun e => by simp [e]) id) all0)
  have E73 := E61.keep K69
  have F74 := Fs65.keep K69 (ninS nb18 nin0)
  have F75 := F62.keep K69 (ninS nb18 nin0)
  have E76 := E63.keep K69
  refine own_aloadN M X68 d11_47 rfl rfl rfl ?_
  refine own_getfield M X68 (hw _ (List.mem_of_getElem? (i := 10) rfl)) F75 d11_48 rfl ?_
  intro T77 X78
  refine own_aloadN M X78 d11_51 rfl rfl rfl ?_
  refine own_dup M X78 d11_52 rfl rfl ?_
  refine own_getfield M X78 (hw _ (List.mem_of_getElem? (i := 17) rfl)) F74 d11_53 rfl ?_
  intro T79 X80
  refine own_dup_x1 M X80 d11_56 rfl rfl rfl ?_
  refine own_iconst M X80 (v := (1 : Int32)) d11_57 rfl rfl ?_
  refine own_iadd M X80 d11_58 rfl ?_
  refine own_putfield M X80 (hw _ (List.mem_of_getElem? (i := 17) rfl)) F74 E73 (Or.inl (hw _ (List.mem_of_getElem? (i := 18) rfl))) (hw _ (List.mem_of_getElem? (i := 2) rfl)) (ty := .int) (by decide) rfl rfl ge0 d11_59 rfl ?_
  intro T81 h82 X83 W84
  have F85 := Fld.same W84 F74
  have KK86 := (KK72).wr W84 (Or.inl (List.mem_of_getElem? (i := 0) rfl))
  have E87 := Exa.wr W84 E73
  have F88 := Fld.other W84 F75 (Or.inr (slot_ne (Or.inl (hw _ (List.mem_of_getElem? (i := 11) rfl))) (Or.inl (hw _ (List.mem_of_getElem? (i := 18) rfl))) (by decide) (t := (.array .byte)) (t' := .int) (by decide) (by decide)))
  have E89 := Exa.wr W84 E76
  have V90 := V70.keep (Keep.of_wr W84) (ninS (Ne.symm nb18) nin0)
  have Fs91 : Fld Z h82 o0 "com/example/london_wall/londonwall/wire/Encoder" "size" "I" (.int (Int32.ofNat (sz + 3))) := by rw [← own_sumN (i := (sz + 2)) (by decide : (1 : Int32).toInt = (1 : Nat)) (by omega)]; exact F85
  refine own_iloadN M X83 d11_62 rfl rfl ?_
  refine own_bipush M X83 (v := (8 : Int32)) d11_63 rfl rfl ?_
  refine own_iushr M X83 d11_65 rfl ?_
  refine own_i2b M X83 d11_66 rfl ?_
  refine own_bastore M X83 V90 gb17 (i := (sz + 2)) (own_ofn (by omega)) (by omega) d11_67 rfl ?_
  intro T92 h93 X94 K95 V96
  replace V96 : own_Va Z h93 b1 .byte n2 (fun j => .int ((own_updI (own_updI (own_updI g21 sz ((((i1.toUInt32 >>> ((24 : Int32) &&& 31).toUInt32).toInt32).toInt8.toInt32).toInt8.toInt32)) (sz + 1) ((((i1.toUInt32 >>> ((16 : Int32) &&& 31).toUInt32).toInt32).toInt8.toInt32).toInt8.toInt32)) (sz + 2) ((((i1.toUInt32 >>> ((8 : Int32) &&& 31).toUInt32).toInt32).toInt8.toInt32).toInt8.toInt32)) j)) := V96.congr (fun j _ => own_updIV)
  have hg97 : ∀ j, j < (sz + 2) + 1 → (own_updI (own_updI (own_updI g21 sz ((((i1.toUInt32 >>> ((24 : Int32) &&& 31).toUInt32).toInt32).toInt8.toInt32).toInt8.toInt32)) (sz + 1) ((((i1.toUInt32 >>> ((16 : Int32) &&& 31).toUInt32).toInt32).toInt8.toInt32).toInt8.toInt32)) (sz + 2) ((((i1.toUInt32 >>> ((8 : Int32) &&& 31).toUInt32).toInt32).toInt8.toInt32).toInt8.toInt32)) j = (own_updI (own_updI (own_updI f sz ((((i1.toUInt32 >>> ((24 : Int32) &&& 31).toUInt32).toInt32).toInt8.toInt32).toInt8.toInt32)) (sz + 1) ((((i1.toUInt32 >>> ((16 : Int32) &&& 31).toUInt32).toInt32).toInt8.toInt32).toInt8.toInt32)) (sz + 2) ((((i1.toUInt32 >>> ((8 : Int32) &&& 31).toUInt32).toInt32).toInt8.toInt32).toInt8.toInt32)) j := own_updS hg71
  have KK98 : Keep h0 h93 [o0, b] := KK86.trans K95 (allS (hb7.imp (fun e => by simp [e]) id) all0)
  have E99 := E87.keep K95
  have F100 := Fs91.keep K95 (ninS nb18 nin0)
  have F101 := F88.keep K95 (ninS nb18 nin0)
  have E102 := E89.keep K95
  refine own_aloadN M X94 d11_68 rfl rfl rfl ?_
  refine own_getfield M X94 (hw _ (List.mem_of_getElem? (i := 10) rfl)) F101 d11_69 rfl ?_
  intro T103 X104
  refine own_aloadN M X104 d11_72 rfl rfl rfl ?_
  refine own_dup M X104 d11_73 rfl rfl ?_
  refine own_getfield M X104 (hw _ (List.mem_of_getElem? (i := 17) rfl)) F100 d11_74 rfl ?_
  intro T105 X106
  refine own_dup_x1 M X106 d11_77 rfl rfl rfl ?_
  refine own_iconst M X106 (v := (1 : Int32)) d11_78 rfl rfl ?_
  refine own_iadd M X106 d11_79 rfl ?_
  refine own_putfield M X106 (hw _ (List.mem_of_getElem? (i := 17) rfl)) F100 E99 (Or.inl (hw _ (List.mem_of_getElem? (i := 18) rfl))) (hw _ (List.mem_of_getElem? (i := 2) rfl)) (ty := .int) (by decide) rfl rfl ge0 d11_80 rfl ?_
  intro T107 h108 X109 W110
  have F111 := Fld.same W110 F100
  have KK112 := (KK98).wr W110 (Or.inl (List.mem_of_getElem? (i := 0) rfl))
  have E113 := Exa.wr W110 E99
  have F114 := Fld.other W110 F101 (Or.inr (slot_ne (Or.inl (hw _ (List.mem_of_getElem? (i := 11) rfl))) (Or.inl (hw _ (List.mem_of_getElem? (i := 18) rfl))) (by decide) (t := (.array .byte)) (t' := .int) (by decide) (by decide)))
  have E115 := Exa.wr W110 E102
  have V116 := V96.keep (Keep.of_wr W110) (ninS (Ne.symm nb18) nin0)
  have Fs117 : Fld Z h108 o0 "com/example/london_wall/londonwall/wire/Encoder" "size" "I" (.int (Int32.ofNat (sz + 4))) := by rw [← own_sumN (i := (sz + 3)) (by decide : (1 : Int32).toInt = (1 : Nat)) (by omega)]; exact F111
  refine own_iloadN M X109 d11_83 rfl rfl ?_
  refine own_i2b M X109 d11_84 rfl ?_
  refine own_bastore M X109 V116 gb17 (i := (sz + 3)) (own_ofn (by omega)) (by omega) d11_85 rfl ?_
  intro T118 h119 X120 K121 V122
  replace V122 : own_Va Z h119 b1 .byte n2 (fun j => .int ((own_updI (own_updI (own_updI (own_updI g21 sz ((((i1.toUInt32 >>> ((24 : Int32) &&& 31).toUInt32).toInt32).toInt8.toInt32).toInt8.toInt32)) (sz + 1) ((((i1.toUInt32 >>> ((16 : Int32) &&& 31).toUInt32).toInt32).toInt8.toInt32).toInt8.toInt32)) (sz + 2) ((((i1.toUInt32 >>> ((8 : Int32) &&& 31).toUInt32).toInt32).toInt8.toInt32).toInt8.toInt32)) (sz + 3) ((i1.toInt8.toInt32).toInt8.toInt32)) j)) := V122.congr (fun j _ => own_updIV)
  have hg123 : ∀ j, j < (sz + 3) + 1 → (own_updI (own_updI (own_updI (own_updI g21 sz ((((i1.toUInt32 >>> ((24 : Int32) &&& 31).toUInt32).toInt32).toInt8.toInt32).toInt8.toInt32)) (sz + 1) ((((i1.toUInt32 >>> ((16 : Int32) &&& 31).toUInt32).toInt32).toInt8.toInt32).toInt8.toInt32)) (sz + 2) ((((i1.toUInt32 >>> ((8 : Int32) &&& 31).toUInt32).toInt32).toInt8.toInt32).toInt8.toInt32)) (sz + 3) ((i1.toInt8.toInt32).toInt8.toInt32)) j = (own_updI (own_updI (own_updI (own_updI f sz ((((i1.toUInt32 >>> ((24 : Int32) &&& 31).toUInt32).toInt32).toInt8.toInt32).toInt8.toInt32)) (sz + 1) ((((i1.toUInt32 >>> ((16 : Int32) &&& 31).toUInt32).toInt32).toInt8.toInt32).toInt8.toInt32)) (sz + 2) ((((i1.toUInt32 >>> ((8 : Int32) &&& 31).toUInt32).toInt32).toInt8.toInt32).toInt8.toInt32)) (sz + 3) ((i1.toInt8.toInt32).toInt8.toInt32)) j := own_updS hg97
  have KK124 : Keep h0 h119 [o0, b] := KK112.trans K121 (allS (hb7.imp (fun e => by simp [e]) id) all0)
  have E125 := E113.keep K121
  have F126 := Fs117.keep K121 (ninS nb18 nin0)
  have F127 := F114.keep K121 (ninS nb18 nin0)
  have E128 := E115.keep K121
  exact own_retV M X120 d11_86 ⟨rfl, b1, n2, hle3, ⟨E125, F126, F127, E128, gb17, nb18, (by omega), tb20, (own_updI (own_updI (own_updI (own_updI g21 sz ((((i1.toUInt32 >>> ((24 : Int32) &&& 31).toUInt32).toInt32).toInt8.toInt32).toInt8.toInt32)) (sz + 1) ((((i1.toUInt32 >>> ((16 : Int32) &&& 31).toUInt32).toInt32).toInt8.toInt32).toInt8.toInt32)) (sz + 2) ((((i1.toUInt32 >>> ((8 : Int32) &&& 31).toUInt32).toInt32).toInt8.toInt32).toInt8.toInt32)) (sz + 3) ((i1.toInt8.toInt32).toInt8.toInt32)), V122, hg123⟩, KK124, hb7⟩
theorem d10_0 : decode prog_43_method_13_code 0 = .ok (.aload_n 0, 1) := by decide +kernel
theorem d10_1 : decode prog_43_method_13_code 1 = .ok (.lload_n 1, 1) := by decide +kernel
theorem d10_2 : decode prog_43_method_13_code 2 = .ok (.bipush 32, 2) := by decide +kernel
theorem d10_4 : decode prog_43_method_13_code 4 = .ok (.lushr, 1) := by decide +kernel
theorem d10_5 : decode prog_43_method_13_code 5 = .ok (.l2i, 1) := by decide +kernel
theorem d10_6 : decode prog_43_method_13_code 6 = .ok (.invokevirtual 158, 3) := by decide +kernel
theorem d10_9 : decode prog_43_method_13_code 9 = .ok (.aload_n 0, 1) := by decide +kernel
theorem d10_10 : decode prog_43_method_13_code 10 = .ok (.lload_n 1, 1) := by decide +kernel
theorem d10_11 : decode prog_43_method_13_code 11 = .ok (.l2i, 1) := by decide +kernel
theorem d10_12 : decode prog_43_method_13_code 12 = .ok (.invokevirtual 158, 3) := by decide +kernel
theorem d10_15 : decode prog_43_method_13_code 15 = .ok (.return_, 1) := by decide +kernel
theorem own_pn10 : plainName "com/example/london_wall/londonwall/wire/Encoder" = true := by first | (simp [plainName, overriddenIn]; done) | decide +kernel
set_option maxRecDepth 65536 in
set_option maxHeartbeats 40000000 in
theorem met_10 (l : Launch) (Z : State) (a0 : Array Value) (hw : ∀ d ∈ tables_1, d.before a0 Z = true) (h0 : Heap) (n0 : Nat) (hn : n0 ≤ h0.size) (o0 : Addr) (l1 : Int64) (b : Addr) (nn sz cap : Nat) (f : Nat → Int32) (hB : own_En Z h0 n0 o0 b nn sz f) (ge0 : n0 ≤ o0) (gA : nn < sz + 4 → max (2 * nn) (sz + 4) ≤ cap) (gB : ∀ n, n ≤ max nn cap → n < sz + 4 + 4 → max (2 * n) (sz + 4 + 4) ≤ cap) (g4 : cap * 8 ≤ 536870912) : own_Met l Z n0 (⟨"com/example/london_wall/londonwall/wire/Encoder", "writeLongLong", "(J)V"⟩ : MethodName) prog_43_method_13_code 3 none ({ frames := 4, cells := 2, slots := cap + cap, locals := 61 } : Room) #[(.ref o0), (.long l1)] h0 (fun v h => v = none ∧ ∃ b' n', n' ≤ max nn cap ∧ own_En Z h n0 o0 b' n' (sz + 4 + 4) (own_updI (own_updI (own_updI (own_updI (own_updI (own_updI (own_updI (own_updI f sz (((((((l1.toUInt64 >>> ((32 : Int32) &&& 0x3f).toInt64.toUInt64).toInt64).toInt32).toUInt32 >>> ((24 : Int32) &&& 31).toUInt32).toInt32).toInt8.toInt32).toInt8.toInt32)) (sz + 1) (((((((l1.toUInt64 >>> ((32 : Int32) &&& 0x3f).toInt64.toUInt64).toInt64).toInt32).toUInt32 >>> ((16 : Int32) &&& 31).toUInt32).toInt32).toInt8.toInt32).toInt8.toInt32)) (sz + 2) (((((((l1.toUInt64 >>> ((32 : Int32) &&& 0x3f).toInt64.toUInt64).toInt64).toInt32).toUInt32 >>> ((8 : Int32) &&& 31).toUInt32).toInt32).toInt8.toInt32).toInt8.toInt32)) (sz + 3) (((((l1.toUInt64 >>> ((32 : Int32) &&& 0x3f).toInt64.toUInt64).toInt64).toInt32).toInt8.toInt32).toInt8.toInt32)) (sz + 4) (((((l1.toInt32).toUInt32 >>> ((24 : Int32) &&& 31).toUInt32).toInt32).toInt8.toInt32).toInt8.toInt32)) ((sz + 4) + 1) (((((l1.toInt32).toUInt32 >>> ((16 : Int32) &&& 31).toUInt32).toInt32).toInt8.toInt32).toInt8.toInt32)) ((sz + 4) + 2) (((((l1.toInt32).toUInt32 >>> ((8 : Int32) &&& 31).toUInt32).toInt32).toInt8.toInt32).toInt8.toInt32)) ((sz + 4) + 3) (((l1.toInt32).toInt8.toInt32).toInt8.toInt32)) ∧ Keep h0 h [o0, b] ∧ (b' = b ∨ h0.size ≤ b')) := by
  refine own_enter (L := #[.val (.ref o0), .val (.long l1), .second]) (plainFor_of_name own_pn10) hw hn (fun m => by first | (simp [entryFrame, mkF, argsToLocals, Value.category]; done) | rfl) (fun K T hK M X => ?_)
  refine own_aloadN M X d10_0 rfl rfl rfl ?_
  refine own_lloadN M X d10_1 rfl rfl ?_
  refine own_bipush M X (v := (32 : Int32)) d10_2 rfl rfl ?_
  refine own_lushr M X d10_4 rfl ?_
  refine own_l2i M X d10_5 rfl ?_
  have E7 := hB.1
  refine own_callPriv M X (yrm := ({ frames := 3, cells := 1, slots := cap, locals := 48 } : Room)) [(.int (((l1.toUInt64 >>> ((32 : Int32) &&& 0x3f).toInt64.toUInt64).toInt64).toInt32))] (hw _ (List.mem_of_getElem? (i := 56) rfl)) (hw _ (List.mem_of_getElem? (i := 57) rfl)) (hw _ (List.mem_of_getElem? (i := 58) rfl)) (hw _ (List.mem_of_getElem? (i := 2) rfl)) (hw _ (List.mem_of_getElem? (i := 3) rfl)) (hw _ (List.mem_of_getElem? (i := 59) rfl)) (by decide) E7 (met_11 _ Z a0 hw h0 n0 X.size o0 (((l1.toUInt64 >>> ((32 : Int32) &&& 0x3f).toInt64.toUInt64).toInt64).toInt32) b nn sz cap f hB ge0 gA g4) rfl d10_6 rfl own_pd2 rfl rfl 0 (Nat.le_of_eq rfl) (by first | exact g4 | (dsimp only; omega)) (by first | exact g4 | (dsimp only; omega)) (by first | exact g4 | (dsimp only; omega)) (by first | exact g4 | (dsimp only; omega)) ?_
  rintro T8 h9 v10 X11 ⟨rfl, b1, n2, hn3, B4, K5, hb6⟩
  replace X11 : own_Sx n0 K T8 h9 1 (0 + cap) := X11
  show own_Fin n0 K _ T8 9 #[.val (.ref o0), .val (.long l1), .second] []
  refine own_aloadN M X11 d10_9 rfl rfl rfl ?_
  refine own_lloadN M X11 d10_10 rfl rfl ?_
  refine own_l2i M X11 d10_11 rfl ?_
  have E18 := B4.1
  refine own_callPriv M X11 (yrm := ({ frames := 3, cells := 1, slots := cap, locals := 48 } : Room)) [(.int (l1.toInt32))] (hw _ (List.mem_of_getElem? (i := 56) rfl)) (hw _ (List.mem_of_getElem? (i := 57) rfl)) (hw _ (List.mem_of_getElem? (i := 58) rfl)) (hw _ (List.mem_of_getElem? (i := 2) rfl)) (hw _ (List.mem_of_getElem? (i := 3) rfl)) (hw _ (List.mem_of_getElem? (i := 59) rfl)) (by decide) E18 (met_11 _ Z a0 hw h9 n0 X11.size o0 (l1.toInt32) b1 n2 (sz + 4) cap (own_updI (own_updI (own_updI (own_updI f sz (((((((l1.toUInt64 >>> ((32 : Int32) &&& 0x3f).toInt64.toUInt64).toInt64).toInt32).toUInt32 >>> ((24 : Int32) &&& 31).toUInt32).toInt32).toInt8.toInt32).toInt8.toInt32)) (sz + 1) (((((((l1.toUInt64 >>> ((32 : Int32) &&& 0x3f).toInt64.toUInt64).toInt64).toInt32).toUInt32 >>> ((16 : Int32) &&& 31).toUInt32).toInt32).toInt8.toInt32).toInt8.toInt32)) (sz + 2) (((((((l1.toUInt64 >>> ((32 : Int32) &&& 0x3f).toInt64.toUInt64).toInt64).toInt32).toUInt32 >>> ((8 : Int32) &&& 31).toUInt32).toInt32).toInt8.toInt32).toInt8.toInt32)) (sz + 3) (((((l1.toUInt64 >>> ((32 : Int32) &&& 0x3f).toInt64.toUInt64).toInt64).toInt32).toInt8.toInt32).toInt8.toInt32)) B4 ge0 (gB _ hn3) g4) rfl d10_12 rfl own_pd2 rfl rfl 0 (Nat.le_of_eq rfl) (by first | exact g4 | (dsimp only; omega)) (by first | exact g4 | (dsimp only; omega)) (by first | exact g4 | (dsimp only; omega)) (by first | exact g4 | (dsimp only; omega)) ?_
  rintro T19 h20 v21 X22 ⟨rfl, b12, n13, hn14, B15, K16, hb17⟩
  have KK23 : Keep h0 h20 [o0, b] := K5.trans K16 (allS (Or.inl (List.mem_of_getElem? (i := 0) rfl)) (allS (hb6.imp (fun e => by simp [e]) id) all0))
  have hb24 : b12 = b ∨ h0.size ≤ b12 := hb17.elim (fun e => e ▸ hb6) (fun e => Or.inr (Nat.le_trans K5.1 e))
  have hn25 : n13 ≤ max nn cap := by omega
  replace X22 : own_Sx n0 K T19 h20 2 ((0 + cap) + cap) := X22
  show own_Fin n0 K _ T19 15 #[.val (.ref o0), .val (.long l1), .second] []
  exact own_retV M X22 d10_15 ⟨rfl, b12, n13, hn25, B15, KK23, hb24⟩
theorem d9_0 : decode prog_43_method_16_code 0 = .ok (.aload_n 0, 1) := by decide +kernel
theorem d9_1 : decode prog_43_method_16_code 1 = .ok (.iload_n 3, 1) := by decide +kernel
theorem d9_2 : decode prog_43_method_16_code 2 = .ok (.invokevirtual 150, 3) := by decide +kernel
theorem d9_5 : decode prog_43_method_16_code 5 = .ok (.aload_n 1, 1) := by decide +kernel
theorem d9_6 : decode prog_43_method_16_code 6 = .ok (.iload_n 2, 1) := by decide +kernel
theorem d9_7 : decode prog_43_method_16_code 7 = .ok (.aload_n 0, 1) := by decide +kernel
theorem d9_8 : decode prog_43_method_16_code 8 = .ok (.getfield 7, 3) := by decide +kernel
theorem d9_11 : decode prog_43_method_16_code 11 = .ok (.aload_n 0, 1) := by decide +kernel
theorem d9_12 : decode prog_43_method_16_code 12 = .ok (.getfield 13, 3) := by decide +kernel
theorem d9_15 : decode prog_43_method_16_code 15 = .ok (.iload_n 3, 1) := by decide +kernel
theorem d9_16 : decode prog_43_method_16_code 16 = .ok (.invokestatic 165, 3) := by decide +kernel
theorem d9_19 : decode prog_43_method_16_code 19 = .ok (.aload_n 0, 1) := by decide +kernel
theorem d9_20 : decode prog_43_method_16_code 20 = .ok (.dup, 1) := by decide +kernel
theorem d9_21 : decode prog_43_method_16_code 21 = .ok (.getfield 13, 3) := by decide +kernel
theorem d9_24 : decode prog_43_method_16_code 24 = .ok (.iload_n 3, 1) := by decide +kernel
theorem d9_25 : decode prog_43_method_16_code 25 = .ok (.iadd, 1) := by decide +kernel
theorem d9_26 : decode prog_43_method_16_code 26 = .ok (.putfield 13, 3) := by decide +kernel
theorem d9_29 : decode prog_43_method_16_code 29 = .ok (.return_, 1) := by decide +kernel
theorem own_pn9 : plainName "com/example/london_wall/londonwall/wire/Encoder" = true := by first | (simp [plainName, overriddenIn]; done) | decide +kernel
set_option maxRecDepth 65536 in
set_option maxHeartbeats 40000000 in
theorem met_9 (l : Launch) (Z : State) (a0 : Array Value) (hw : ∀ d ∈ tables_1, d.before a0 Z = true) (h0 : Heap) (n0 : Nat) (hn : n0 ≤ h0.size) (o0 o1 : Addr) (i2 i3 : Int32) (b : Addr) (nn sz k m cap : Nat) (f e : Nat → Int32) (hB : own_En Z h0 n0 o0 b nn sz f) (ge0 : n0 ≤ o0) (V1 : own_Va Z h0 o1 .byte m (fun j => .int (e j))) (nq1 : o1 ≠ o0) (nq2 : o1 ≠ b) (g2 : i2.toInt = (0 : Nat)) (g3 : i3.toInt = k) (hkm : k ≤ m) (hk : k < 2 ^ 29) (gc : nn < sz + k → max (2 * nn) (sz + k) ≤ cap) (g4 : cap * 8 ≤ 536870912) : own_Met l Z n0 (⟨"com/example/london_wall/londonwall/wire/Encoder", "writeBytes", "([BII)V"⟩ : MethodName) prog_43_method_16_code 4 none ({ frames := 3, cells := 1, slots := cap, locals := 48 } : Room) #[(.ref o0), (.ref o1), (.int i2), (.int i3)] h0 (fun v h => v = none ∧ ∃ b' n', n' ≤ max nn cap ∧ own_En Z h n0 o0 b' n' (sz + k) (own_upW f e sz k) ∧ Keep h0 h [o0, b] ∧ (b' = b ∨ h0.size ≤ b')) := by
  refine own_enter (L := #[.val (.ref o0), .val (.ref o1), .val (.int i2), .val (.int i3)]) (plainFor_of_name own_pn9) hw hn (fun m => by first | (simp [entryFrame, mkF, argsToLocals, Value.category]; done) | rfl) (fun K T hK M X => ?_)
  refine own_aloadN M X d9_0 rfl rfl rfl ?_
  refine own_iloadN M X d9_1 rfl rfl ?_
  have lt1 := V1.lt
  have hB0 := hB
  have lt0 := hB.lt
  have E8 := hB.1
  refine own_callPriv M X (yrm := ({ frames := 2, cells := 1, slots := cap, locals := 35 } : Room)) [(.int i3)] (hw _ (List.mem_of_getElem? (i := 36) rfl)) (hw _ (List.mem_of_getElem? (i := 37) rfl)) (hw _ (List.mem_of_getElem? (i := 38) rfl)) (hw _ (List.mem_of_getElem? (i := 2) rfl)) (hw _ (List.mem_of_getElem? (i := 3) rfl)) (hw _ (List.mem_of_getElem? (i := 39) rfl)) (by decide) E8 (met_7 _ Z a0 hw h0 n0 X.size o0 i3 b nn sz k cap f hB ge0 g3 (by omega) gc g4) rfl d9_2 rfl own_pd2 rfl rfl 0 (Nat.le_of_eq rfl) (by first | exact g4 | (dsimp only; omega)) (by first | exact g4 | (dsimp only; omega)) (by first | exact g4 | (dsimp only; omega)) (by first | exact g4 | (dsimp only; omega)) ?_
  rintro T9 h10 v11 X12 ⟨rfl, b1, n2, hle3, hge4, B5, K6, hb7⟩
  have V13 := V1.keep K6 (ninS nq1 nin0)
  have ne14 : o1 ≠ b1 := hb7.elim (fun e => e ▸ nq2) (fun e => Nat.ne_of_lt (Nat.lt_of_lt_of_le lt1 e))
  replace X12 : own_Sx n0 K T9 h10 1 (0 + cap) := X12
  show own_Fin n0 K _ T9 5 #[.val (.ref o0), .val (.ref o1), .val (.int i2), .val (.int i3)] []
  obtain ⟨Eo15, Fs16, Fb17, Eb18, gb19, nb20, lb21, tb22, g23, Vb24, hg25⟩ := B5
  have KK26 : Keep h0 h10 [o0, b] := (Keep.refl h0 [o0, b]).trans K6 (fun x hx => Or.inl (by cases List.mem_singleton.mp hx; simp))
  refine own_aloadN M X12 d9_5 rfl rfl rfl ?_
  refine own_iloadN M X12 d9_6 rfl rfl ?_
  refine own_aloadN M X12 d9_7 rfl rfl rfl ?_
  refine own_getfield M X12 (hw _ (List.mem_of_getElem? (i := 10) rfl)) Fb17 d9_8 rfl ?_
  intro T27 X28
  refine own_aloadN M X28 d9_11 rfl rfl rfl ?_
  refine own_getfield M X28 (hw _ (List.mem_of_getElem? (i := 17) rfl)) Fs16 d9_12 rfl ?_
  intro T29 X30
  refine own_iloadN M X30 d9_15 rfl rfl ?_
  refine own_arraycopy M X30 (i := 0) (j := sz) (k := k) (hw _ (List.mem_of_getElem? (i := 50) rfl)) (hw _ (List.mem_of_getElem? (i := 30) rfl)) (hw _ (List.mem_of_getElem? (i := 28) rfl)) (hw _ (List.mem_of_getElem? (i := 29) rfl)) V13 Vb24 rfl g2 (own_ofn (by omega)) g3 (by omega) (by omega) gb19 rfl d9_16 rfl (by first | exact g4 | (dsimp only; omega)) 0 (Nat.le_of_eq rfl) (by first | exact g4 | (dsimp only; omega)) ?_
  intro T31 h32 X33 K34 V35
  replace V35 : own_Va Z h32 b1 .byte n2 (fun j => .int ((own_upW g23 e sz k) j)) := V35.congr (fun t _ => by by_cases q : sz ≤ t ∧ t < sz + k <;> simp [own_upW, q])
  have hg36 : ∀ j, j < sz + k → (own_upW g23 e sz k) j = (own_upW f e sz k) j := own_wb hg25
  have KK37 : Keep h0 h32 [o0, b] := KK26.trans K34 (allS (hb7.imp (fun e => by simp [e]) id) all0)
  have V38 := V13.keep K34 (ninS ne14 nin0)
  have E39 := Eo15.keep K34
  have F40 := Fs16.keep K34 (ninS nb20 nin0)
  have F41 := Fb17.keep K34 (ninS nb20 nin0)
  have E42 := Eb18.keep K34
  refine own_aloadN M X33 d9_19 rfl rfl rfl ?_
  refine own_dup M X33 d9_20 rfl rfl ?_
  refine own_getfield M X33 (hw _ (List.mem_of_getElem? (i := 17) rfl)) F40 d9_21 rfl ?_
  intro T43 X44
  refine own_iloadN M X44 d9_24 rfl rfl ?_
  refine own_iadd M X44 d9_25 rfl ?_
  refine own_putfield M X44 (hw _ (List.mem_of_getElem? (i := 17) rfl)) F40 E39 (Or.inl (hw _ (List.mem_of_getElem? (i := 18) rfl))) (hw _ (List.mem_of_getElem? (i := 2) rfl)) (ty := .int) (by decide) rfl rfl ge0 d9_26 rfl ?_
  intro T45 h46 X47 W48
  have F49 := Fld.same W48 F40
  have KK50 := (KK37).wr W48 (Or.inl (List.mem_of_getElem? (i := 0) rfl))
  have V51 := V38.keep (Keep.of_wr W48) (ninS nq1 nin0)
  have E52 := Exa.wr W48 E39
  have F53 := Fld.other W48 F41 (Or.inr (slot_ne (Or.inl (hw _ (List.mem_of_getElem? (i := 11) rfl))) (Or.inl (hw _ (List.mem_of_getElem? (i := 18) rfl))) (by decide) (t := (.array .byte)) (t' := .int) (by decide) (by decide)))
  have E54 := Exa.wr W48 E42
  have V55 := V35.keep (Keep.of_wr W48) (ninS (Ne.symm nb20) nin0)
  have Fs56 : Fld Z h46 o0 "com/example/london_wall/londonwall/wire/Encoder" "size" "I" (.int (Int32.ofNat (sz + k))) := by rw [← own_sumN g3 (by omega)]; exact F49
  exact own_retV M X47 d9_29 ⟨rfl, b1, n2, hle3, ⟨E52, Fs56, F53, E54, gb19, nb20, (by omega), tb22, (own_upW g23 e sz k), V55, hg36⟩, KK50, hb7⟩
theorem d3_0 : decode prog_43_method_5_code 0 = .ok (.aload_n 0, 1) := by decide +kernel
theorem d3_1 : decode prog_43_method_5_code 1 = .ok (.getfield 7, 3) := by decide +kernel
theorem d3_4 : decode prog_43_method_5_code 4 = .ok (.aload_n 0, 1) := by decide +kernel
theorem d3_5 : decode prog_43_method_5_code 5 = .ok (.getfield 13, 3) := by decide +kernel
theorem d3_8 : decode prog_43_method_5_code 8 = .ok (.invokestatic 23, 3) := by decide +kernel
theorem d3_11 : decode prog_43_method_5_code 11 = .ok (.areturn, 1) := by decide +kernel
theorem own_pn3 : plainName "com/example/london_wall/londonwall/wire/Encoder" = true := by first | (simp [plainName, overriddenIn]; done) | decide +kernel
set_option maxRecDepth 65536 in
set_option maxHeartbeats 40000000 in
theorem met_3 (l : Launch) (Z : State) (a0 : Array Value) (hw : ∀ d ∈ tables_1, d.before a0 Z = true) (h0 : Heap) (n0 : Nat) (hn : n0 ≤ h0.size) (o0 b : Addr) (nn sz cap : Nat) (f : Nat → Int32) (hB : own_En Z h0 n0 o0 b nn sz f) (g3 : sz ≤ cap) (g4 : cap * 8 ≤ 536870912) : own_Met l Z n0 (⟨"com/example/london_wall/londonwall/wire/Encoder", "toByteArray", "()[B"⟩ : MethodName) prog_43_method_5_code 1 (some (.array .byte)) ({ frames := 2, cells := 1, slots := cap, locals := 34 } : Room) #[(.ref o0)] h0 (fun v h => ∃ r, v = some (.ref r) ∧ n0 ≤ r ∧ h0.size ≤ r ∧ Keep h0 h [] ∧ own_Va Z h r .byte sz (fun t => .int (f t))) := by
  refine own_enter (L := #[.val (.ref o0)]) (plainFor_of_name own_pn3) hw hn (fun m => by first | (simp [entryFrame, mkF, argsToLocals, Value.category]; done) | rfl) (fun K T hK M X => ?_)
  obtain ⟨Eo1, Fs2, Fb3, Eb4, gb5, nb6, lb7, tb8, g9, Vb10, hg11⟩ := hB
  refine own_aloadN M X d3_0 rfl rfl rfl ?_
  refine own_getfield M X (hw _ (List.mem_of_getElem? (i := 10) rfl)) Fb3 d3_1 rfl ?_
  intro T12 X13
  refine own_aloadN M X13 d3_4 rfl rfl rfl ?_
  refine own_getfield M X13 (hw _ (List.mem_of_getElem? (i := 17) rfl)) Fs2 d3_5 rfl ?_
  intro T14 X15
  refine own_callS M X15 (yrm := ({ frames := 1, cells := 1, slots := cap, locals := 20 } : Room)) [(.ref b), (.int (Int32.ofNat sz))] (hw _ (List.mem_of_getElem? (i := 19) rfl)) (hw _ (List.mem_of_getElem? (i := 20) rfl)) (hw _ (List.mem_of_getElem? (i := 21) rfl)) (hw _ (List.mem_of_getElem? (i := 22) rfl)) (by decide) (met_4 _ Z a0 hw h0 n0 X15.size b (Int32.ofNat sz) cap nn sz _ Vb10 Eb4 (own_ofn (by omega)) g3 g4) rfl d3_8 rfl own_pd1 rfl rfl 0 (Nat.le_of_eq rfl) (by first | exact g4 | (dsimp only; omega)) (by first | exact g4 | (dsimp only; omega)) (by first | exact g4 | (dsimp only; omega)) (by first | exact g4 | (dsimp only; omega)) ?_
  rintro T22 h23 v24 X25 ⟨r16, rfl, ge17, sz18, K19, EA20, V21⟩
  replace X25 : own_Sx n0 K T22 h23 1 (0 + cap) := X25
  show own_Fin n0 K _ T22 11 #[.val (.ref o0)] [(.ref r16)]
  exact own_retA M X25 rfl rfl d3_11 ⟨r16, rfl, ge17, sz18, K19, V21.congr (own_tb hg11 lb7)⟩
theorem own_ushr (x : Int32) {n : UInt32} {k : Nat} (hn : n.toNat = k) (h1 : 0 < k) (hk : k < 32) : ((x.toUInt32 >>> n).toInt32).toInt = (x.toInt % 4294967296) / 2 ^ k := by
  have hb := x.toBitVec.isLt
  have e2 : ((x.toUInt32 >>> n).toInt32).toBitVec.toNat = x.toBitVec.toNat / 2 ^ k := by
    simp only [UInt32.toBitVec_toInt32, UInt32.toBitVec_shiftRight, Int32.toBitVec_toUInt32]
    simp [BitVec.toNat_ushiftRight, Nat.shiftRight_eq_div_pow, hn, Nat.mod_eq_of_lt hk]
  have hp : 2 ≤ 2 ^ k := Nat.le_trans (show 2 ≤ 2 ^ 1 from Nat.le_refl _) (Nat.pow_le_pow_right (by decide) h1)
  have hle : x.toBitVec.toNat / 2 ^ k ≤ x.toBitVec.toNat / 2 := Nat.div_le_div_left hp (by decide)
  have e3 : ((x.toUInt32 >>> n).toInt32).toInt = ((x.toBitVec.toNat / 2 ^ k : Nat) : Int) := by
    have : ((x.toUInt32 >>> n).toInt32).toInt = ((x.toUInt32 >>> n).toInt32).toBitVec.toInt := rfl
    rw [this, BitVec.toInt_eq_toNat_cond, e2, if_pos (by omega)]
  have e4 : x.toInt % 4294967296 = (x.toBitVec.toNat : Int) := by
    have : x.toInt = x.toBitVec.toInt := rfl
    rw [this, BitVec.toInt_eq_toNat_cond]
    split <;> omega
  rw [e3, e4, Int.natCast_ediv, Int.natCast_pow]
  rfl
theorem own_bb (x : Int32) : (x.toInt8.toInt32).toInt8.toInt32 = x.toInt8.toInt32 := by rw [Int8.toInt8_toInt32]
theorem own_updI_at {f : Nat → Int32} {i j : Nat} {v : Int32} (h : j = i) : own_updI f i v j = v := if_pos h
theorem own_updI_ne {f : Nat → Int32} {i j : Nat} {v : Int32} (h : ¬ j = i) : own_updI f i v j = f j := if_neg h
theorem own_W_at {e f : Nat → Int32} {s k j i : Nat} (h : s ≤ j ∧ j < s + k) (hi : j - s = i) : own_upW f e s k j = e i := by subst hi; exact if_pos h
theorem own_W_ne {e f : Nat → Int32} {s k j : Nat} (h : ¬ (s ≤ j ∧ j < s + k)) : own_upW f e s k j = f j := if_neg h
theorem own_ushrL (x : Int64) {n : UInt64} {k : Nat} (hn : n.toNat = k) (h1 : 0 < k) (hk : k < 64) : ((x.toUInt64 >>> n).toInt64).toInt = (x.toInt % 18446744073709551616) / 2 ^ k := by
  have hb := x.toBitVec.isLt
  have e2 : ((x.toUInt64 >>> n).toInt64).toBitVec.toNat = x.toBitVec.toNat / 2 ^ k := by
    simp only [UInt64.toBitVec_toInt64, UInt64.toBitVec_shiftRight, Int64.toBitVec_toUInt64]
    simp [BitVec.toNat_ushiftRight, Nat.shiftRight_eq_div_pow, hn, Nat.mod_eq_of_lt hk]
  have hp : 2 ≤ 2 ^ k := Nat.le_trans (show 2 ≤ 2 ^ 1 from Nat.le_refl _) (Nat.pow_le_pow_right (by decide) h1)
  have hle : x.toBitVec.toNat / 2 ^ k ≤ x.toBitVec.toNat / 2 := Nat.div_le_div_left hp (by decide)
  have e3 : ((x.toUInt64 >>> n).toInt64).toInt = ((x.toBitVec.toNat / 2 ^ k : Nat) : Int) := by
    have : ((x.toUInt64 >>> n).toInt64).toInt = ((x.toUInt64 >>> n).toInt64).toBitVec.toInt := rfl
    rw [this, BitVec.toInt_eq_toNat_cond, e2, if_pos (by omega)]
  have e4 : x.toInt % 18446744073709551616 = (x.toBitVec.toNat : Int) := by
    have : x.toInt = x.toBitVec.toInt := rfl
    rw [this, BitVec.toInt_eq_toNat_cond]
    split <;> omega
  rw [e3, e4, Int.natCast_ediv, Int.natCast_pow]
  rfl
theorem own_b8 {y z : Int32} (h : y.toInt % 256 = z.toInt % 256) : (y.toInt8.toInt32).toInt8.toInt32 = z.toInt8.toInt32 := by
  rw [own_bb]
  refine congrArg Int8.toInt32 (Int8.toInt_inj.mp ?_)
  rw [Int32.toInt_toInt8, Int32.toInt_toInt8]
  have h1 := Int.bmod_emod (x := y.toInt) (m := 2 ^ 8)
  have h2 := Int.bmod_emod (x := z.toInt) (m := 2 ^ 8)
  have h3 := Int.le_bmod (x := y.toInt) (m := 2 ^ 8) (by decide)
  have h4 := Int.bmod_lt (x := y.toInt) (m := 2 ^ 8) (by decide)
  have h5 := Int.le_bmod (x := z.toInt) (m := 2 ^ 8) (by decide)
  have h6 := Int.bmod_lt (x := z.toInt) (m := 2 ^ 8) (by decide)
  omega
theorem own_i64lo (x : Int64) : x.toInt32.toInt % 4294967296 = x.toInt % 4294967296 := by
  rw [Int64.toInt_toInt32]
  have := Int.bmod_emod (x := x.toInt) (m := 2 ^ 32)
  omega
theorem own_k (x : Int32) : ∃ k : Nat, (x &&& (511 : Int32)).toInt = k ∧ k ≤ 511 := by
  have e1 : (x &&& 511).toInt = x.toInt % 2 ^ 9 := Jvm.Kit.i32_mask x 511 (k := 9) (by decide) (by decide)
  exact ⟨(x &&& (511 : Int32)).toInt.toNat, by omega, by omega⟩
theorem own_n11 {x : Int32} {k : Nat} (hk : x.toInt = k) (h : k ≤ 511) : Int32.ofNat (0 + 1 + 2 + k + 8) = (11 : Int32) + x := by
  have l : (11 : Int32).toInt = (11 : Nat) := by decide
  refine Int32.toInt_inj.mp ?_
  rw [own_ofn (by omega), own_sum l hk (by omega)]; omega
theorem own_pred {x : Int32} {k : Nat} (hk : x.toInt = k) (h : 1 ≤ k) (h2 : k ≤ 511) : (x - (1 : Int32)).toInt = ((k - 1 : Nat) : Int) := by
  have l : (1 : Int32).toInt = 1 := by decide
  rw [Jvm.Kit.i32_sub (by omega) (by omega), hk, l]; omega
theorem own_half {x : Int32} {k : Nat} (hk : x.toInt = k) : (x / (2 : Int32)).toInt = ((k / 2 : Nat) : Int) := by
  have l : (2 : Int32).toInt = 2 := by decide
  rw [Jvm.Kit.i32_div (by omega), hk, l]
  rfl
theorem own_k4 {x : Int32} {k : Nat} (hk : x.toInt = k) : (k = 0 ∧ x < (2 : Int32) ∧ x < (1 : Int32) ∧ x < (3 : Int32)) ∨ (k = 1 ∧ x < (2 : Int32) ∧ ¬ x < (1 : Int32) ∧ x < (3 : Int32)) ∨ (k = 2 ∧ ¬ x < (2 : Int32) ∧ ¬ x < (1 : Int32) ∧ x < (3 : Int32)) ∨ (3 ≤ k ∧ ¬ x < (2 : Int32) ∧ ¬ x < (1 : Int32) ∧ ¬ x < (3 : Int32)) := by
  have l1 : (1 : Int32).toInt = 1 := by decide
  have l2 : (2 : Int32).toInt = 2 := by decide
  have l3 : (3 : Int32).toInt = 3 := by decide
  simp only [Int32.lt_iff_toInt_lt, l1, l2, l3, hk]
  omega
theorem own_L56 (c : Int64) : (((((((c.toUInt64 >>> ((32 : Int32) &&& 0x3f).toInt64.toUInt64).toInt64).toInt32).toUInt32 >>> ((24 : Int32) &&& 31).toUInt32).toInt32).toInt8.toInt32).toInt8.toInt32) = ((((c.toUInt64 >>> ((56 : Int32) &&& 0x3f).toInt64.toUInt64).toInt64).toInt32).toInt8.toInt32) := by
  refine own_b8 ?_
  have e1 := own_ushrL c (n := ((32 : Int32) &&& 0x3f).toInt64.toUInt64) (k := 32) (by decide) (by decide) (by decide)
  have e2 := own_i64lo ((c.toUInt64 >>> ((32 : Int32) &&& 0x3f).toInt64.toUInt64).toInt64)
  have e3 := own_ushr (((c.toUInt64 >>> ((32 : Int32) &&& 0x3f).toInt64.toUInt64).toInt64).toInt32) (n := ((24 : Int32) &&& 31).toUInt32) (k := 24) (by decide) (by decide) (by decide)
  have e4 := own_ushrL c (n := ((56 : Int32) &&& 0x3f).toInt64.toUInt64) (k := 56) (by decide) (by decide) (by decide)
  have e5 := own_i64lo ((c.toUInt64 >>> ((56 : Int32) &&& 0x3f).toInt64.toUInt64).toInt64)
  omega
theorem own_L48 (c : Int64) : (((((((c.toUInt64 >>> ((32 : Int32) &&& 0x3f).toInt64.toUInt64).toInt64).toInt32).toUInt32 >>> ((16 : Int32) &&& 31).toUInt32).toInt32).toInt8.toInt32).toInt8.toInt32) = ((((c.toUInt64 >>> ((48 : Int32) &&& 0x3f).toInt64.toUInt64).toInt64).toInt32).toInt8.toInt32) := by
  refine own_b8 ?_
  have e1 := own_ushrL c (n := ((32 : Int32) &&& 0x3f).toInt64.toUInt64) (k := 32) (by decide) (by decide) (by decide)
  have e2 := own_i64lo ((c.toUInt64 >>> ((32 : Int32) &&& 0x3f).toInt64.toUInt64).toInt64)
  have e3 := own_ushr (((c.toUInt64 >>> ((32 : Int32) &&& 0x3f).toInt64.toUInt64).toInt64).toInt32) (n := ((16 : Int32) &&& 31).toUInt32) (k := 16) (by decide) (by decide) (by decide)
  have e4 := own_ushrL c (n := ((48 : Int32) &&& 0x3f).toInt64.toUInt64) (k := 48) (by decide) (by decide) (by decide)
  have e5 := own_i64lo ((c.toUInt64 >>> ((48 : Int32) &&& 0x3f).toInt64.toUInt64).toInt64)
  omega
theorem own_L40 (c : Int64) : (((((((c.toUInt64 >>> ((32 : Int32) &&& 0x3f).toInt64.toUInt64).toInt64).toInt32).toUInt32 >>> ((8 : Int32) &&& 31).toUInt32).toInt32).toInt8.toInt32).toInt8.toInt32) = ((((c.toUInt64 >>> ((40 : Int32) &&& 0x3f).toInt64.toUInt64).toInt64).toInt32).toInt8.toInt32) := by
  refine own_b8 ?_
  have e1 := own_ushrL c (n := ((32 : Int32) &&& 0x3f).toInt64.toUInt64) (k := 32) (by decide) (by decide) (by decide)
  have e2 := own_i64lo ((c.toUInt64 >>> ((32 : Int32) &&& 0x3f).toInt64.toUInt64).toInt64)
  have e3 := own_ushr (((c.toUInt64 >>> ((32 : Int32) &&& 0x3f).toInt64.toUInt64).toInt64).toInt32) (n := ((8 : Int32) &&& 31).toUInt32) (k := 8) (by decide) (by decide) (by decide)
  have e4 := own_ushrL c (n := ((40 : Int32) &&& 0x3f).toInt64.toUInt64) (k := 40) (by decide) (by decide) (by decide)
  have e5 := own_i64lo ((c.toUInt64 >>> ((40 : Int32) &&& 0x3f).toInt64.toUInt64).toInt64)
  omega
theorem own_L32 (c : Int64) : (((((c.toUInt64 >>> ((32 : Int32) &&& 0x3f).toInt64.toUInt64).toInt64).toInt32).toInt8.toInt32).toInt8.toInt32) = ((((c.toUInt64 >>> ((32 : Int32) &&& 0x3f).toInt64.toUInt64).toInt64).toInt32).toInt8.toInt32) := by
  refine own_b8 ?_
  have e1 := own_ushrL c (n := ((32 : Int32) &&& 0x3f).toInt64.toUInt64) (k := 32) (by decide) (by decide) (by decide)
  have e2 := own_i64lo ((c.toUInt64 >>> ((32 : Int32) &&& 0x3f).toInt64.toUInt64).toInt64)
  omega
theorem own_L24 (c : Int64) : (((((c.toInt32).toUInt32 >>> ((24 : Int32) &&& 31).toUInt32).toInt32).toInt8.toInt32).toInt8.toInt32) = ((((c.toUInt64 >>> ((24 : Int32) &&& 0x3f).toInt64.toUInt64).toInt64).toInt32).toInt8.toInt32) := by
  refine own_b8 ?_
  have e2 := own_i64lo c
  have e3 := own_ushr (c.toInt32) (n := ((24 : Int32) &&& 31).toUInt32) (k := 24) (by decide) (by decide) (by decide)
  have e4 := own_ushrL c (n := ((24 : Int32) &&& 0x3f).toInt64.toUInt64) (k := 24) (by decide) (by decide) (by decide)
  have e5 := own_i64lo ((c.toUInt64 >>> ((24 : Int32) &&& 0x3f).toInt64.toUInt64).toInt64)
  omega
theorem own_L16 (c : Int64) : (((((c.toInt32).toUInt32 >>> ((16 : Int32) &&& 31).toUInt32).toInt32).toInt8.toInt32).toInt8.toInt32) = ((((c.toUInt64 >>> ((16 : Int32) &&& 0x3f).toInt64.toUInt64).toInt64).toInt32).toInt8.toInt32) := by
  refine own_b8 ?_
  have e2 := own_i64lo c
  have e3 := own_ushr (c.toInt32) (n := ((16 : Int32) &&& 31).toUInt32) (k := 16) (by decide) (by decide) (by decide)
  have e4 := own_ushrL c (n := ((16 : Int32) &&& 0x3f).toInt64.toUInt64) (k := 16) (by decide) (by decide) (by decide)
  have e5 := own_i64lo ((c.toUInt64 >>> ((16 : Int32) &&& 0x3f).toInt64.toUInt64).toInt64)
  omega
theorem own_L8 (c : Int64) : (((((c.toInt32).toUInt32 >>> ((8 : Int32) &&& 31).toUInt32).toInt32).toInt8.toInt32).toInt8.toInt32) = ((((c.toUInt64 >>> ((8 : Int32) &&& 0x3f).toInt64.toUInt64).toInt64).toInt32).toInt8.toInt32) := by
  refine own_b8 ?_
  have e2 := own_i64lo c
  have e3 := own_ushr (c.toInt32) (n := ((8 : Int32) &&& 31).toUInt32) (k := 8) (by decide) (by decide) (by decide)
  have e4 := own_ushrL c (n := ((8 : Int32) &&& 0x3f).toInt64.toUInt64) (k := 8) (by decide) (by decide) (by decide)
  have e5 := own_i64lo ((c.toUInt64 >>> ((8 : Int32) &&& 0x3f).toInt64.toUInt64).toInt64)
  omega
theorem own_L0 (c : Int64) : (((c.toInt32).toInt8.toInt32).toInt8.toInt32) = ((c.toInt32).toInt8.toInt32) := by
  refine own_b8 ?_
  have e2 := own_i64lo c
  omega
theorem own_pn0 : plainName "com/example/london_wall/londonwall/wire/EncoderToByteArrayPinLaw" = true := by first | (simp [plainName, overriddenIn]; done) | decide +kernel
set_option maxRecDepth 65536 in
set_option maxHeartbeats 40000000 in
theorem met_0 (l : Launch) (Z : State) (a0 : Array Value) (hw : ∀ d ∈ tables_1, d.before a0 Z = true) (h0 : Heap) (n0 : Nat) (hn : n0 ≤ h0.size) (x0 : Int32) (x1 : Int32) (x2 : Int64) (x3 : Int32) : own_Met l Z n0 x code maxLocals ret room_1 #[(.int x0), (.int x1), (.long x2), (.int x3)] h0 (fun v h => v = some (.int 1)) := by
  refine own_enter (L := #[.val (.int x0), .val (.int x1), .val (.long x2), .second, .val (.int x3), .unset, .unset, .unset, .unset, .unset, .unset, .unset, .unset, .unset, .unset]) (plainFor_of_name own_pn0) hw hn (fun m => by first | (simp [entryFrame, mkF, argsToLocals, Value.category, maxLocals]; done) | rfl) (fun K T hK M X => ?_)
  obtain ⟨k, hk, hk2⟩ := own_k x3
  refine own_iload M X at_0 rfl rfl ?_
  refine own_sipush M X (v := (511 : Int32)) at_2 rfl rfl ?_
  refine own_iand M X at_5 rfl ?_
  refine own_istore M X (L' := #[.val (.int x0), .val (.int x1), .val (.long x2), .second, .val (.int x3), .val (.int (x3 &&& (511 : Int32))), .unset, .unset, .unset, .unset, .unset, .unset, .unset, .unset, .unset]) at_6 rfl rfl ?_
  refine own_iload M X at_8 rfl rfl ?_
  refine own_newarray M X (n := k) 511 (hw _ (List.mem_of_getElem? (i := 0) rfl)) at_10 rfl hk hk2 (by decide) (by decide) (by decide) ?_
  intro T1 h2 a3 ge4 gs5 X6 E7 V8
  replace V8 : own_Va Z h2 a3 .byte k (fun _ => .int 0) := V8
  refine own_astore M X6 (L' := #[.val (.int x0), .val (.int x1), .val (.long x2), .second, .val (.int x3), .val (.int (x3 &&& (511 : Int32))), .val (.ref a3), .unset, .unset, .unset, .unset, .unset, .unset, .unset, .unset]) at_12 rfl rfl rfl ?_
  refine own_iloadN M X6 at_14 rfl rfl ?_
  refine own_bipush M X6 (v := (16 : Int32)) at_15 rfl rfl ?_
  refine own_iushr M X6 at_17 rfl ?_
  refine own_i2b M X6 at_18 rfl ?_
  refine own_istore M X6 (L' := #[.val (.int x0), .val (.int x1), .val (.long x2), .second, .val (.int x3), .val (.int (x3 &&& (511 : Int32))), .val (.ref a3), .val (.int (((x1.toUInt32 >>> ((16 : Int32) &&& 31).toUInt32).toInt32).toInt8.toInt32)), .unset, .unset, .unset, .unset, .unset, .unset, .unset]) at_19 rfl rfl ?_
  refine own_iloadN M X6 at_21 rfl rfl ?_
  refine own_bipush M X6 (v := (8 : Int32)) at_22 rfl rfl ?_
  refine own_iushr M X6 at_24 rfl ?_
  refine own_i2b M X6 at_25 rfl ?_
  refine own_istore M X6 (L' := #[.val (.int x0), .val (.int x1), .val (.long x2), .second, .val (.int x3), .val (.int (x3 &&& (511 : Int32))), .val (.ref a3), .val (.int (((x1.toUInt32 >>> ((16 : Int32) &&& 31).toUInt32).toInt32).toInt8.toInt32)), .val (.int (((x0.toUInt32 >>> ((8 : Int32) &&& 31).toUInt32).toInt32).toInt8.toInt32)), .unset, .unset, .unset, .unset, .unset, .unset]) at_26 rfl rfl ?_
  refine own_iload M X6 at_28 rfl rfl ?_
  rcases own_k4 hk with ⟨ek, c2, c1, c3⟩ | ⟨ek, c2, c1, c3⟩ | ⟨ek, c2, c1, c3⟩ | ⟨ek, c2, c1, c3⟩
  · skip
    refine own_iconst M X6 (v := (2 : Int32)) at_30 rfl rfl ?_
    refine own_icmp_lt M X6 at_31 (by decide) rfl rfl (fun q9 => ?_) (fun q9 => ?_)
    · skip
      refine own_iload M X6 at_40 rfl rfl ?_
      refine own_iconst M X6 (v := (1 : Int32)) at_42 rfl rfl ?_
      refine own_icmp_lt M X6 at_43 (by decide) rfl rfl (fun q10 => ?_) (fun q10 => ?_)
      · skip
        refine own_new M X6 (hw _ (List.mem_of_getElem? (i := 1) rfl)) (hw _ (List.mem_of_getElem? (i := 2) rfl)) (hw _ (List.mem_of_getElem? (i := 3) rfl)) at_55 rfl (by decide) (by decide) ?_
        intro T11 h12 a13 ge14 gs15 X16 E17 A18 D19
        have ne20 : a3 ≠ a13 := Nat.ne_of_lt (Nat.lt_of_lt_of_le V8.lt gs15)
        have V21 := V8.ext E17
        have F22 : Fld Z h12 a13 "com/example/london_wall/londonwall/wire/Encoder" "bytes" "[B" .null := D19 (Or.inl (hw _ (List.mem_of_getElem? (i := 11) rfl))) (ty := (.array .byte)) (by decide)
        have F23 : Fld Z h12 a13 "com/example/london_wall/londonwall/wire/Encoder" "size" "I" (.int (0 : Int32)) := D19 (Or.inl (hw _ (List.mem_of_getElem? (i := 18) rfl))) (ty := .int) (by decide)
        refine own_dup M X16 at_58 rfl rfl ?_
        refine own_callN M X16 (yrm := ({ frames := 1, cells := 1, slots := 256, locals := 12 } : Room)) [] (hw _ (List.mem_of_getElem? (i := 4) rfl)) (hw _ (List.mem_of_getElem? (i := 5) rfl)) (hw _ (List.mem_of_getElem? (i := 3) rfl)) (hw _ (List.mem_of_getElem? (i := 6) rfl)) (by decide) rfl rfl (met_1 _ Z a0 hw h12 n0 X16.size a13 ge14 A18 F23 F22) rfl at_59 rfl own_pd3 rfl rfl 1 (Nat.le_of_eq rfl) (by decide) (by decide) (by decide) (by decide) ?_
        rintro T28 h29 v30 X31 ⟨rfl, b24, B25, sz26, K27⟩
        have ne32 : a3 ≠ b24 := Nat.ne_of_lt (Nat.lt_of_lt_of_le V21.lt sz26)
        have V33 := V21.keep K27 (ninS ne20 nin0)
        have E34 := B25.1
        replace X31 : own_Sx n0 K T28 h29 3 769 := X31
        show own_Fin n0 K _ T28 62 #[.val (.int x0), .val (.int x1), .val (.long x2), .second, .val (.int x3), .val (.int (x3 &&& (511 : Int32))), .val (.ref a3), .val (.int (((x1.toUInt32 >>> ((16 : Int32) &&& 31).toUInt32).toInt32).toInt8.toInt32)), .val (.int (((x0.toUInt32 >>> ((8 : Int32) &&& 31).toUInt32).toInt32).toInt8.toInt32)), .unset, .unset, .unset, .unset, .unset, .unset] [(.ref a13)]
        refine own_astore M X31 (L' := #[.val (.int x0), .val (.int x1), .val (.long x2), .second, .val (.int x3), .val (.int (x3 &&& (511 : Int32))), .val (.ref a3), .val (.int (((x1.toUInt32 >>> ((16 : Int32) &&& 31).toUInt32).toInt32).toInt8.toInt32)), .val (.int (((x0.toUInt32 >>> ((8 : Int32) &&& 31).toUInt32).toInt32).toInt8.toInt32)), .val (.ref a13), .unset, .unset, .unset, .unset, .unset]) at_62 rfl rfl rfl ?_
        refine own_aload M X31 at_64 rfl rfl rfl ?_
        have ltB := B25.lt
        refine own_callV M X31 (yrm := ({ frames := 2, cells := 1, slots := 0, locals := 34 } : Room)) [] (hw _ (List.mem_of_getElem? (i := 12) rfl)) (hw _ (List.mem_of_getElem? (i := 14) rfl)) (hw _ (List.mem_of_getElem? (i := 13) rfl)) (hw _ (List.mem_of_getElem? (i := 15) rfl)) (hw _ (List.mem_of_getElem? (i := 3) rfl)) (hw _ (List.mem_of_getElem? (i := 16) rfl)) (by decide) E34 (met_3 _ Z a0 hw h29 n0 X31.size a13 b24 256 0 0 (fun _ => 0) B25 (by omega) (by decide)) rfl at_66 rfl own_pd4 rfl rfl 0 (Nat.le_of_eq rfl) (by decide) (by decide) (by decide) (by decide) ?_
        rintro T40 h41 v42 X43 ⟨r35, rfl, ge36, sz37, K38, V39⟩
        have ne44 : a3 ≠ r35 := Nat.ne_of_lt (Nat.lt_of_lt_of_le V33.lt sz37)
        have V45 := V33.keep K38 nin0
        have ne46 : a13 ≠ r35 := Nat.ne_of_lt (Nat.lt_of_lt_of_le ltB.1 sz37)
        have ne47 : b24 ≠ r35 := Nat.ne_of_lt (Nat.lt_of_lt_of_le ltB.2 sz37)
        have B48 := B25.keep K38 nin0 nin0
        have E49 := B48.1
        replace X43 : own_Sx n0 K T40 h41 4 769 := X43
        show own_Fin n0 K _ T40 69 #[.val (.int x0), .val (.int x1), .val (.long x2), .second, .val (.int x3), .val (.int (x3 &&& (511 : Int32))), .val (.ref a3), .val (.int (((x1.toUInt32 >>> ((16 : Int32) &&& 31).toUInt32).toInt32).toInt8.toInt32)), .val (.int (((x0.toUInt32 >>> ((8 : Int32) &&& 31).toUInt32).toInt32).toInt8.toInt32)), .val (.ref a13), .unset, .unset, .unset, .unset, .unset] [(.ref r35)]
        refine own_astore M X43 (L' := #[.val (.int x0), .val (.int x1), .val (.long x2), .second, .val (.int x3), .val (.int (x3 &&& (511 : Int32))), .val (.ref a3), .val (.int (((x1.toUInt32 >>> ((16 : Int32) &&& 31).toUInt32).toInt32).toInt8.toInt32)), .val (.int (((x0.toUInt32 >>> ((8 : Int32) &&& 31).toUInt32).toInt32).toInt8.toInt32)), .val (.ref a13), .val (.ref r35), .unset, .unset, .unset, .unset]) at_69 rfl rfl rfl ?_
        refine own_aload M X43 at_71 rfl rfl rfl ?_
        refine own_arraylength M X43 (z := (0 : Int32)) V39 (by decide) at_73 rfl ?_
        refine own_if_eq M X43 at_74 (by decide) rfl rfl (fun q50 => ?_) (fun q50 => ?_)
        · skip
          refine own_aload M X43 at_79 rfl rfl rfl ?_
          refine own_iloadN M X43 at_81 rfl rfl ?_
          refine own_callV M X43 (yrm := ({ frames := 3, cells := 1, slots := 0, locals := 48 } : Room)) [(.int x0)] (hw _ (List.mem_of_getElem? (i := 31) rfl)) (hw _ (List.mem_of_getElem? (i := 33) rfl)) (hw _ (List.mem_of_getElem? (i := 32) rfl)) (hw _ (List.mem_of_getElem? (i := 34) rfl)) (hw _ (List.mem_of_getElem? (i := 3) rfl)) (hw _ (List.mem_of_getElem? (i := 35) rfl)) (by decide) E49 (met_6 _ Z a0 hw h41 n0 X43.size a13 x0 b24 256 0 0 (fun _ => 0) B48 ge14 (by omega) (by decide)) rfl at_82 rfl own_pd2 rfl rfl 0 (Nat.le_of_eq rfl) (by decide) (by decide) (by decide) (by decide) ?_
          rintro T57 h58 v59 X60 ⟨rfl, b51, n52, hn53, B54, K55, hb56⟩
          have ne61 : a3 ≠ b51 := hb56.elim (fun e => e ▸ ne32) (fun e => Nat.ne_of_lt (Nat.lt_of_lt_of_le V45.lt e))
          have V62 := V45.keep K55 (ninS ne20 (ninS ne32 nin0))
          replace hn53 : n52 ≤ 256 := by have := hn53; omega
          have E63 := B54.1
          replace X60 : own_Sx n0 K T57 h58 5 769 := X60
          show own_Fin n0 K _ T57 85 #[.val (.int x0), .val (.int x1), .val (.long x2), .second, .val (.int x3), .val (.int (x3 &&& (511 : Int32))), .val (.ref a3), .val (.int (((x1.toUInt32 >>> ((16 : Int32) &&& 31).toUInt32).toInt32).toInt8.toInt32)), .val (.int (((x0.toUInt32 >>> ((8 : Int32) &&& 31).toUInt32).toInt32).toInt8.toInt32)), .val (.ref a13), .val (.ref r35), .unset, .unset, .unset, .unset] []
          refine own_aload M X60 at_85 rfl rfl rfl ?_
          refine own_iloadN M X60 at_87 rfl rfl ?_
          refine own_callV M X60 (yrm := ({ frames := 3, cells := 1, slots := 4, locals := 48 } : Room)) [(.int x1)] (hw _ (List.mem_of_getElem? (i := 40) rfl)) (hw _ (List.mem_of_getElem? (i := 42) rfl)) (hw _ (List.mem_of_getElem? (i := 41) rfl)) (hw _ (List.mem_of_getElem? (i := 43) rfl)) (hw _ (List.mem_of_getElem? (i := 3) rfl)) (hw _ (List.mem_of_getElem? (i := 44) rfl)) (by decide) E63 (met_8 _ Z a0 hw h58 n0 X60.size a13 x1 b51 n52 (0 + 1) 4 (own_updI (fun _ => 0) 0 ((x0.toInt8.toInt32).toInt8.toInt32)) B54 ge14 (by omega) (by decide)) rfl at_88 rfl own_pd2 rfl rfl 0 (Nat.le_of_eq rfl) (by decide) (by decide) (by decide) (by decide) ?_
          rintro T70 h71 v72 X73 ⟨rfl, b64, n65, hn66, B67, K68, hb69⟩
          have ne74 : a3 ≠ b64 := hb69.elim (fun e => e ▸ ne61) (fun e => Nat.ne_of_lt (Nat.lt_of_lt_of_le V62.lt e))
          have V75 := V62.keep K68 (ninS ne20 (ninS ne61 nin0))
          replace hn66 : n65 ≤ 256 := by have := hn66; omega
          have E76 := B67.1
          replace X73 : own_Sx n0 K T70 h71 6 773 := X73
          show own_Fin n0 K _ T70 91 #[.val (.int x0), .val (.int x1), .val (.long x2), .second, .val (.int x3), .val (.int (x3 &&& (511 : Int32))), .val (.ref a3), .val (.int (((x1.toUInt32 >>> ((16 : Int32) &&& 31).toUInt32).toInt32).toInt8.toInt32)), .val (.int (((x0.toUInt32 >>> ((8 : Int32) &&& 31).toUInt32).toInt32).toInt8.toInt32)), .val (.ref a13), .val (.ref r35), .unset, .unset, .unset, .unset] []
          refine own_aload M X73 at_91 rfl rfl rfl ?_
          refine own_aload M X73 at_93 rfl rfl rfl ?_
          refine own_iconst M X73 (v := (0 : Int32)) at_95 rfl rfl ?_
          refine own_iload M X73 at_96 rfl rfl ?_
          refine own_callV M X73 (yrm := ({ frames := 3, cells := 1, slots := 514, locals := 48 } : Room)) [(.ref a3), (.int (0 : Int32)), (.int (x3 &&& (511 : Int32)))] (hw _ (List.mem_of_getElem? (i := 45) rfl)) (hw _ (List.mem_of_getElem? (i := 47) rfl)) (hw _ (List.mem_of_getElem? (i := 46) rfl)) (hw _ (List.mem_of_getElem? (i := 48) rfl)) (hw _ (List.mem_of_getElem? (i := 3) rfl)) (hw _ (List.mem_of_getElem? (i := 49) rfl)) (by decide) E76 (met_9 _ Z a0 hw h71 n0 X73.size a13 a3 0 (x3 &&& (511 : Int32)) b64 n65 ((0 + 1) + 2) k k 514 (own_updI (own_updI (own_updI (fun _ => 0) 0 ((x0.toInt8.toInt32).toInt8.toInt32)) (0 + 1) ((((x1.toUInt32 >>> ((8 : Int32) &&& 31).toUInt32).toInt32).toInt8.toInt32).toInt8.toInt32)) ((0 + 1) + 1) ((x1.toInt8.toInt32).toInt8.toInt32)) (fun _ => 0) B67 ge14 V75 ne20 ne74 (by decide) hk (by omega) (by omega) (by omega) (by decide)) rfl at_98 rfl own_pd5 rfl rfl 0 (Nat.le_of_eq rfl) (by decide) (by decide) (by decide) (by decide) ?_
          rintro T83 h84 v85 X86 ⟨rfl, b77, n78, hn79, B80, K81, hb82⟩
          have ne87 : a3 ≠ b77 := hb82.elim (fun e => e ▸ ne74) (fun e => Nat.ne_of_lt (Nat.lt_of_lt_of_le V75.lt e))
          have V88 := V75.keep K81 (ninS ne20 (ninS ne74 nin0))
          replace hn79 : n78 ≤ 514 := by have := hn79; omega
          have E89 := B80.1
          replace X86 : own_Sx n0 K T83 h84 7 1287 := X86
          show own_Fin n0 K _ T83 101 #[.val (.int x0), .val (.int x1), .val (.long x2), .second, .val (.int x3), .val (.int (x3 &&& (511 : Int32))), .val (.ref a3), .val (.int (((x1.toUInt32 >>> ((16 : Int32) &&& 31).toUInt32).toInt32).toInt8.toInt32)), .val (.int (((x0.toUInt32 >>> ((8 : Int32) &&& 31).toUInt32).toInt32).toInt8.toInt32)), .val (.ref a13), .val (.ref r35), .unset, .unset, .unset, .unset] []
          refine own_aload M X86 at_101 rfl rfl rfl ?_
          refine own_lloadN M X86 at_103 rfl rfl ?_
          refine own_callV M X86 (yrm := ({ frames := 4, cells := 2, slots := 1044 + 1044, locals := 61 } : Room)) [(.long x2)] (hw _ (List.mem_of_getElem? (i := 51) rfl)) (hw _ (List.mem_of_getElem? (i := 53) rfl)) (hw _ (List.mem_of_getElem? (i := 52) rfl)) (hw _ (List.mem_of_getElem? (i := 54) rfl)) (hw _ (List.mem_of_getElem? (i := 3) rfl)) (hw _ (List.mem_of_getElem? (i := 55) rfl)) (by decide) E89 (met_10 _ Z a0 hw h84 n0 X86.size a13 x2 b77 n78 (((0 + 1) + 2) + k) 1044 (own_upW (own_updI (own_updI (own_updI (fun _ => 0) 0 ((x0.toInt8.toInt32).toInt8.toInt32)) (0 + 1) ((((x1.toUInt32 >>> ((8 : Int32) &&& 31).toUInt32).toInt32).toInt8.toInt32).toInt8.toInt32)) ((0 + 1) + 1) ((x1.toInt8.toInt32).toInt8.toInt32)) (fun _ => 0) ((0 + 1) + 2) k) B80 ge14 (by omega) (fun n h1 h2 => by omega) (by decide)) rfl at_104 rfl own_pd6 rfl rfl 0 (Nat.le_of_eq rfl) (by decide) (by decide) (by decide) (by decide) ?_
          rintro T96 h97 v98 X99 ⟨rfl, b90, n91, hn92, B93, K94, hb95⟩
          replace hn92 : n91 ≤ 1044 := by have := hn92; omega
          have E100 := B93.1
          replace X99 : own_Sx n0 K T96 h97 9 3375 := X99
          show own_Fin n0 K _ T96 107 #[.val (.int x0), .val (.int x1), .val (.long x2), .second, .val (.int x3), .val (.int (x3 &&& (511 : Int32))), .val (.ref a3), .val (.int (((x1.toUInt32 >>> ((16 : Int32) &&& 31).toUInt32).toInt32).toInt8.toInt32)), .val (.int (((x0.toUInt32 >>> ((8 : Int32) &&& 31).toUInt32).toInt32).toInt8.toInt32)), .val (.ref a13), .val (.ref r35), .unset, .unset, .unset, .unset] []
          refine own_aload M X99 at_107 rfl rfl rfl ?_
          have ltB := B93.lt
          refine own_callV M X99 (yrm := ({ frames := 2, cells := 1, slots := 522, locals := 34 } : Room)) [] (hw _ (List.mem_of_getElem? (i := 12) rfl)) (hw _ (List.mem_of_getElem? (i := 14) rfl)) (hw _ (List.mem_of_getElem? (i := 13) rfl)) (hw _ (List.mem_of_getElem? (i := 15) rfl)) (hw _ (List.mem_of_getElem? (i := 3) rfl)) (hw _ (List.mem_of_getElem? (i := 16) rfl)) (by decide) E100 (met_3 _ Z a0 hw h97 n0 X99.size a13 b90 n91 ((((0 + 1) + 2) + k) + 4 + 4) 522 (own_updI (own_updI (own_updI (own_updI (own_updI (own_updI (own_updI (own_updI (own_upW (own_updI (own_updI (own_updI (fun _ => 0) 0 ((x0.toInt8.toInt32).toInt8.toInt32)) (0 + 1) ((((x1.toUInt32 >>> ((8 : Int32) &&& 31).toUInt32).toInt32).toInt8.toInt32).toInt8.toInt32)) ((0 + 1) + 1) ((x1.toInt8.toInt32).toInt8.toInt32)) (fun _ => 0) ((0 + 1) + 2) k) (((0 + 1) + 2) + k) (((((((x2.toUInt64 >>> ((32 : Int32) &&& 0x3f).toInt64.toUInt64).toInt64).toInt32).toUInt32 >>> ((24 : Int32) &&& 31).toUInt32).toInt32).toInt8.toInt32).toInt8.toInt32)) ((((0 + 1) + 2) + k) + 1) (((((((x2.toUInt64 >>> ((32 : Int32) &&& 0x3f).toInt64.toUInt64).toInt64).toInt32).toUInt32 >>> ((16 : Int32) &&& 31).toUInt32).toInt32).toInt8.toInt32).toInt8.toInt32)) ((((0 + 1) + 2) + k) + 2) (((((((x2.toUInt64 >>> ((32 : Int32) &&& 0x3f).toInt64.toUInt64).toInt64).toInt32).toUInt32 >>> ((8 : Int32) &&& 31).toUInt32).toInt32).toInt8.toInt32).toInt8.toInt32)) ((((0 + 1) + 2) + k) + 3) (((((x2.toUInt64 >>> ((32 : Int32) &&& 0x3f).toInt64.toUInt64).toInt64).toInt32).toInt8.toInt32).toInt8.toInt32)) ((((0 + 1) + 2) + k) + 4) (((((x2.toInt32).toUInt32 >>> ((24 : Int32) &&& 31).toUInt32).toInt32).toInt8.toInt32).toInt8.toInt32)) (((((0 + 1) + 2) + k) + 4) + 1) (((((x2.toInt32).toUInt32 >>> ((16 : Int32) &&& 31).toUInt32).toInt32).toInt8.toInt32).toInt8.toInt32)) (((((0 + 1) + 2) + k) + 4) + 2) (((((x2.toInt32).toUInt32 >>> ((8 : Int32) &&& 31).toUInt32).toInt32).toInt8.toInt32).toInt8.toInt32)) (((((0 + 1) + 2) + k) + 4) + 3) (((x2.toInt32).toInt8.toInt32).toInt8.toInt32)) B93 (by omega) (by decide)) rfl at_109 rfl own_pd4 rfl rfl 0 (Nat.le_of_eq rfl) (by decide) (by decide) (by decide) (by decide) ?_
          rintro T106 h107 v108 X109 ⟨r101, rfl, ge102, sz103, K104, V105⟩
          have ne110 : a13 ≠ r101 := Nat.ne_of_lt (Nat.lt_of_lt_of_le ltB.1 sz103)
          have ne111 : b90 ≠ r101 := Nat.ne_of_lt (Nat.lt_of_lt_of_le ltB.2 sz103)
          have B112 := B93.keep K104 nin0 nin0
          have E113 := B112.1
          replace X109 : own_Sx n0 K T106 h107 10 3897 := X109
          show own_Fin n0 K _ T106 112 #[.val (.int x0), .val (.int x1), .val (.long x2), .second, .val (.int x3), .val (.int (x3 &&& (511 : Int32))), .val (.ref a3), .val (.int (((x1.toUInt32 >>> ((16 : Int32) &&& 31).toUInt32).toInt32).toInt8.toInt32)), .val (.int (((x0.toUInt32 >>> ((8 : Int32) &&& 31).toUInt32).toInt32).toInt8.toInt32)), .val (.ref a13), .val (.ref r35), .unset, .unset, .unset, .unset] [(.ref r101)]
          refine own_astore M X109 (L' := #[.val (.int x0), .val (.int x1), .val (.long x2), .second, .val (.int x3), .val (.int (x3 &&& (511 : Int32))), .val (.ref a3), .val (.int (((x1.toUInt32 >>> ((16 : Int32) &&& 31).toUInt32).toInt32).toInt8.toInt32)), .val (.int (((x0.toUInt32 >>> ((8 : Int32) &&& 31).toUInt32).toInt32).toInt8.toInt32)), .val (.ref a13), .val (.ref r35), .val (.ref r101), .unset, .unset, .unset]) at_112 rfl rfl rfl ?_
          refine own_aload M X109 at_114 rfl rfl rfl ?_
          refine own_arraylength M X109 (z := (Int32.ofNat (0 + 1 + 2 + k + 8))) V105 ((own_ofn (by omega)).trans (by omega)) at_116 rfl ?_
          refine own_bipush M X109 (v := (11 : Int32)) at_117 rfl rfl ?_
          refine own_iload M X109 at_119 rfl rfl ?_
          refine own_iadd M X109 at_121 rfl ?_
          refine own_icmp_eq M X109 at_122 (by decide) rfl rfl (fun q114 => ?_) (fun q114 => ?_)
          · skip
            refine own_aload M X109 at_127 rfl rfl rfl ?_
            refine own_iconst M X109 (v := (0 : Int32)) at_129 rfl rfl ?_
            refine own_baload M X109 V105 (i := 0) (by decide) (by omega) (congrArg Value.int ((own_updI_ne (by omega)).trans ((own_updI_ne (by omega)).trans ((own_updI_ne (by omega)).trans ((own_updI_ne (by omega)).trans ((own_updI_ne (by omega)).trans ((own_updI_ne (by omega)).trans ((own_updI_ne (by omega)).trans ((own_updI_ne (by omega)).trans ((own_W_ne (by omega)).trans ((own_updI_ne (by omega)).trans ((own_updI_ne (by omega)).trans ((own_updI_at (by omega)).trans (own_bb _)))))))))))))) at_130 rfl ?_
            refine own_iloadN M X109 at_131 rfl rfl ?_
            refine own_i2b M X109 at_132 rfl ?_
            refine own_icmp_ne M X109 at_133 (by decide) rfl rfl (fun q115 => ?_) (fun q115 => ?_)
            · exact absurd rfl q115
            · skip
              refine own_aload M X109 at_136 rfl rfl rfl ?_
              refine own_iconst M X109 (v := (1 : Int32)) at_138 rfl rfl ?_
              refine own_baload M X109 V105 (i := 1) (by decide) (by omega) (congrArg Value.int ((own_updI_ne (by omega)).trans ((own_updI_ne (by omega)).trans ((own_updI_ne (by omega)).trans ((own_updI_ne (by omega)).trans ((own_updI_ne (by omega)).trans ((own_updI_ne (by omega)).trans ((own_updI_ne (by omega)).trans ((own_updI_ne (by omega)).trans ((own_W_ne (by omega)).trans ((own_updI_ne (by omega)).trans ((own_updI_at (by omega)).trans (own_bb _))))))))))))) at_139 rfl ?_
              refine own_iloadN M X109 at_140 rfl rfl ?_
              refine own_bipush M X109 (v := (8 : Int32)) at_141 rfl rfl ?_
              refine own_iushr M X109 at_143 rfl ?_
              refine own_i2b M X109 at_144 rfl ?_
              refine own_icmp_ne M X109 at_145 (by decide) rfl rfl (fun q116 => ?_) (fun q116 => ?_)
              · exact absurd rfl q116
              · skip
                refine own_aload M X109 at_148 rfl rfl rfl ?_
                refine own_iconst M X109 (v := (2 : Int32)) at_150 rfl rfl ?_
                refine own_baload M X109 V105 (i := 2) (by decide) (by omega) (congrArg Value.int ((own_updI_ne (by omega)).trans ((own_updI_ne (by omega)).trans ((own_updI_ne (by omega)).trans ((own_updI_ne (by omega)).trans ((own_updI_ne (by omega)).trans ((own_updI_ne (by omega)).trans ((own_updI_ne (by omega)).trans ((own_updI_ne (by omega)).trans ((own_W_ne (by omega)).trans ((own_updI_at (by omega)).trans (own_bb _)))))))))))) at_151 rfl ?_
                refine own_iloadN M X109 at_152 rfl rfl ?_
                refine own_i2b M X109 at_153 rfl ?_
                refine own_icmp_ne M X109 at_154 (by decide) rfl rfl (fun q117 => ?_) (fun q117 => ?_)
                · exact absurd rfl q117
                · skip
                  refine own_iconst M X109 (v := (1 : Int32)) at_157 rfl rfl ?_
                  refine own_goto M X109 at_158 (by decide) rfl ?_
                  refine own_istore M X109 (L' := #[.val (.int x0), .val (.int x1), .val (.long x2), .second, .val (.int x3), .val (.int (x3 &&& (511 : Int32))), .val (.ref a3), .val (.int (((x1.toUInt32 >>> ((16 : Int32) &&& 31).toUInt32).toInt32).toInt8.toInt32)), .val (.int (((x0.toUInt32 >>> ((8 : Int32) &&& 31).toUInt32).toInt32).toInt8.toInt32)), .val (.ref a13), .val (.ref r35), .val (.ref r101), .val (.int (1 : Int32)), .unset, .unset]) at_162 rfl rfl ?_
                  refine own_iload M X109 at_164 rfl rfl ?_
                  refine own_iconst M X109 (v := (2 : Int32)) at_166 rfl rfl ?_
                  refine own_icmp_lt M X109 at_167 (by decide) rfl rfl (fun q118 => ?_) (fun q118 => ?_)
                  · skip
                    refine own_iload M X109 at_191 rfl rfl ?_
                    refine own_iconst M X109 (v := (1 : Int32)) at_193 rfl rfl ?_
                    refine own_icmp_lt M X109 at_194 (by decide) rfl rfl (fun q119 => ?_) (fun q119 => ?_)
                    · skip
                      refine own_iload M X109 at_221 rfl rfl ?_
                      refine own_iconst M X109 (v := (3 : Int32)) at_223 rfl rfl ?_
                      refine own_icmp_lt M X109 at_224 (by decide) rfl rfl (fun q120 => ?_) (fun q120 => ?_)
                      · skip
                        refine own_iconst M X109 (v := (3 : Int32)) at_251 rfl rfl ?_
                        refine own_iload M X109 at_252 rfl rfl ?_
                        refine own_iadd M X109 at_254 rfl ?_
                        refine own_istore M X109 (L' := #[.val (.int x0), .val (.int x1), .val (.long x2), .second, .val (.int x3), .val (.int (x3 &&& (511 : Int32))), .val (.ref a3), .val (.int (((x1.toUInt32 >>> ((16 : Int32) &&& 31).toUInt32).toInt32).toInt8.toInt32)), .val (.int (((x0.toUInt32 >>> ((8 : Int32) &&& 31).toUInt32).toInt32).toInt8.toInt32)), .val (.ref a13), .val (.ref r35), .val (.ref r101), .val (.int (1 : Int32)), .val (.int ((3 : Int32) + (x3 &&& (511 : Int32)))), .unset]) at_255 rfl rfl ?_
                        refine own_iload M X109 at_257 rfl rfl ?_
                        refine own_if_eq M X109 at_259 (by decide) rfl rfl (fun q121 => ?_) (fun q121 => ?_)
                        · exact absurd q121 (by decide)
                        · skip
                          refine own_aload M X109 at_262 rfl rfl rfl ?_
                          refine own_iload M X109 at_264 rfl rfl ?_
                          refine own_baload M X109 V105 (i := (3 + k)) (own_sum (by decide : (3 : Int32).toInt = (3 : Nat)) hk (by omega)) (by omega) (congrArg Value.int ((own_updI_ne (by omega)).trans ((own_updI_ne (by omega)).trans ((own_updI_ne (by omega)).trans ((own_updI_ne (by omega)).trans ((own_updI_ne (by omega)).trans ((own_updI_ne (by omega)).trans ((own_updI_ne (by omega)).trans ((own_updI_at (by omega)).trans (own_L56 x2)))))))))) at_266 rfl ?_
                          refine own_lloadN M X109 at_267 rfl rfl ?_
                          refine own_bipush M X109 (v := (56 : Int32)) at_268 rfl rfl ?_
                          refine own_lushr M X109 at_270 rfl ?_
                          refine own_l2i M X109 at_271 rfl ?_
                          refine own_i2b M X109 at_272 rfl ?_
                          refine own_icmp_ne M X109 at_273 (by decide) rfl rfl (fun q122 => ?_) (fun q122 => ?_)
                          · exact absurd rfl q122
                          · skip
                            refine own_aload M X109 at_276 rfl rfl rfl ?_
                            refine own_iload M X109 at_278 rfl rfl ?_
                            refine own_iconst M X109 (v := (1 : Int32)) at_280 rfl rfl ?_
                            refine own_iadd M X109 at_281 rfl ?_
                            refine own_baload M X109 V105 (i := (3 + k + 1)) (own_sum (own_sum (by decide : (3 : Int32).toInt = (3 : Nat)) hk (by omega)) (by decide : (1 : Int32).toInt = (1 : Nat)) (by omega)) (by omega) (congrArg Value.int ((own_updI_ne (by omega)).trans ((own_updI_ne (by omega)).trans ((own_updI_ne (by omega)).trans ((own_updI_ne (by omega)).trans ((own_updI_ne (by omega)).trans ((own_updI_ne (by omega)).trans ((own_updI_at (by omega)).trans (own_L48 x2))))))))) at_282 rfl ?_
                            refine own_lloadN M X109 at_283 rfl rfl ?_
                            refine own_bipush M X109 (v := (48 : Int32)) at_284 rfl rfl ?_
                            refine own_lushr M X109 at_286 rfl ?_
                            refine own_l2i M X109 at_287 rfl ?_
                            refine own_i2b M X109 at_288 rfl ?_
                            refine own_icmp_ne M X109 at_289 (by decide) rfl rfl (fun q123 => ?_) (fun q123 => ?_)
                            · exact absurd rfl q123
                            · skip
                              refine own_aload M X109 at_292 rfl rfl rfl ?_
                              refine own_iload M X109 at_294 rfl rfl ?_
                              refine own_iconst M X109 (v := (2 : Int32)) at_296 rfl rfl ?_
                              refine own_iadd M X109 at_297 rfl ?_
                              refine own_baload M X109 V105 (i := (3 + k + 2)) (own_sum (own_sum (by decide : (3 : Int32).toInt = (3 : Nat)) hk (by omega)) (by decide : (2 : Int32).toInt = (2 : Nat)) (by omega)) (by omega) (congrArg Value.int ((own_updI_ne (by omega)).trans ((own_updI_ne (by omega)).trans ((own_updI_ne (by omega)).trans ((own_updI_ne (by omega)).trans ((own_updI_ne (by omega)).trans ((own_updI_at (by omega)).trans (own_L40 x2)))))))) at_298 rfl ?_
                              refine own_lloadN M X109 at_299 rfl rfl ?_
                              refine own_bipush M X109 (v := (40 : Int32)) at_300 rfl rfl ?_
                              refine own_lushr M X109 at_302 rfl ?_
                              refine own_l2i M X109 at_303 rfl ?_
                              refine own_i2b M X109 at_304 rfl ?_
                              refine own_icmp_ne M X109 at_305 (by decide) rfl rfl (fun q124 => ?_) (fun q124 => ?_)
                              · exact absurd rfl q124
                              · skip
                                refine own_aload M X109 at_308 rfl rfl rfl ?_
                                refine own_iload M X109 at_310 rfl rfl ?_
                                refine own_iconst M X109 (v := (3 : Int32)) at_312 rfl rfl ?_
                                refine own_iadd M X109 at_313 rfl ?_
                                refine own_baload M X109 V105 (i := (3 + k + 3)) (own_sum (own_sum (by decide : (3 : Int32).toInt = (3 : Nat)) hk (by omega)) (by decide : (3 : Int32).toInt = (3 : Nat)) (by omega)) (by omega) (congrArg Value.int ((own_updI_ne (by omega)).trans ((own_updI_ne (by omega)).trans ((own_updI_ne (by omega)).trans ((own_updI_ne (by omega)).trans ((own_updI_at (by omega)).trans (own_L32 x2))))))) at_314 rfl ?_
                                refine own_lloadN M X109 at_315 rfl rfl ?_
                                refine own_bipush M X109 (v := (32 : Int32)) at_316 rfl rfl ?_
                                refine own_lushr M X109 at_318 rfl ?_
                                refine own_l2i M X109 at_319 rfl ?_
                                refine own_i2b M X109 at_320 rfl ?_
                                refine own_icmp_ne M X109 at_321 (by decide) rfl rfl (fun q125 => ?_) (fun q125 => ?_)
                                · exact absurd rfl q125
                                · skip
                                  refine own_aload M X109 at_324 rfl rfl rfl ?_
                                  refine own_iload M X109 at_326 rfl rfl ?_
                                  refine own_iconst M X109 (v := (4 : Int32)) at_328 rfl rfl ?_
                                  refine own_iadd M X109 at_329 rfl ?_
                                  refine own_baload M X109 V105 (i := (3 + k + 4)) (own_sum (own_sum (by decide : (3 : Int32).toInt = (3 : Nat)) hk (by omega)) (by decide : (4 : Int32).toInt = (4 : Nat)) (by omega)) (by omega) (congrArg Value.int ((own_updI_ne (by omega)).trans ((own_updI_ne (by omega)).trans ((own_updI_ne (by omega)).trans ((own_updI_at (by omega)).trans (own_L24 x2)))))) at_330 rfl ?_
                                  refine own_lloadN M X109 at_331 rfl rfl ?_
                                  refine own_bipush M X109 (v := (24 : Int32)) at_332 rfl rfl ?_
                                  refine own_lushr M X109 at_334 rfl ?_
                                  refine own_l2i M X109 at_335 rfl ?_
                                  refine own_i2b M X109 at_336 rfl ?_
                                  refine own_icmp_ne M X109 at_337 (by decide) rfl rfl (fun q126 => ?_) (fun q126 => ?_)
                                  · exact absurd rfl q126
                                  · skip
                                    refine own_aload M X109 at_340 rfl rfl rfl ?_
                                    refine own_iload M X109 at_342 rfl rfl ?_
                                    refine own_iconst M X109 (v := (5 : Int32)) at_344 rfl rfl ?_
                                    refine own_iadd M X109 at_345 rfl ?_
                                    refine own_baload M X109 V105 (i := (3 + k + 5)) (own_sum (own_sum (by decide : (3 : Int32).toInt = (3 : Nat)) hk (by omega)) (by decide : (5 : Int32).toInt = (5 : Nat)) (by omega)) (by omega) (congrArg Value.int ((own_updI_ne (by omega)).trans ((own_updI_ne (by omega)).trans ((own_updI_at (by omega)).trans (own_L16 x2))))) at_346 rfl ?_
                                    refine own_lloadN M X109 at_347 rfl rfl ?_
                                    refine own_bipush M X109 (v := (16 : Int32)) at_348 rfl rfl ?_
                                    refine own_lushr M X109 at_350 rfl ?_
                                    refine own_l2i M X109 at_351 rfl ?_
                                    refine own_i2b M X109 at_352 rfl ?_
                                    refine own_icmp_ne M X109 at_353 (by decide) rfl rfl (fun q127 => ?_) (fun q127 => ?_)
                                    · exact absurd rfl q127
                                    · skip
                                      refine own_aload M X109 at_356 rfl rfl rfl ?_
                                      refine own_iload M X109 at_358 rfl rfl ?_
                                      refine own_bipush M X109 (v := (6 : Int32)) at_360 rfl rfl ?_
                                      refine own_iadd M X109 at_362 rfl ?_
                                      refine own_baload M X109 V105 (i := (3 + k + 6)) (own_sum (own_sum (by decide : (3 : Int32).toInt = (3 : Nat)) hk (by omega)) (by decide : (6 : Int32).toInt = (6 : Nat)) (by omega)) (by omega) (congrArg Value.int ((own_updI_ne (by omega)).trans ((own_updI_at (by omega)).trans (own_L8 x2)))) at_363 rfl ?_
                                      refine own_lloadN M X109 at_364 rfl rfl ?_
                                      refine own_bipush M X109 (v := (8 : Int32)) at_365 rfl rfl ?_
                                      refine own_lushr M X109 at_367 rfl ?_
                                      refine own_l2i M X109 at_368 rfl ?_
                                      refine own_i2b M X109 at_369 rfl ?_
                                      refine own_icmp_ne M X109 at_370 (by decide) rfl rfl (fun q128 => ?_) (fun q128 => ?_)
                                      · exact absurd rfl q128
                                      · skip
                                        refine own_aload M X109 at_373 rfl rfl rfl ?_
                                        refine own_iload M X109 at_375 rfl rfl ?_
                                        refine own_bipush M X109 (v := (7 : Int32)) at_377 rfl rfl ?_
                                        refine own_iadd M X109 at_379 rfl ?_
                                        refine own_baload M X109 V105 (i := (3 + k + 7)) (own_sum (own_sum (by decide : (3 : Int32).toInt = (3 : Nat)) hk (by omega)) (by decide : (7 : Int32).toInt = (7 : Nat)) (by omega)) (by omega) (congrArg Value.int ((own_updI_at (by omega)).trans (own_L0 x2))) at_380 rfl ?_
                                        refine own_lloadN M X109 at_381 rfl rfl ?_
                                        refine own_l2i M X109 at_382 rfl ?_
                                        refine own_i2b M X109 at_383 rfl ?_
                                        refine own_icmp_ne M X109 at_384 (by decide) rfl rfl (fun q129 => ?_) (fun q129 => ?_)
                                        · exact absurd rfl q129
                                        · skip
                                          refine own_iconst M X109 (v := (1 : Int32)) at_387 rfl rfl ?_
                                          refine own_goto M X109 at_388 (by decide) rfl ?_
                                          refine own_istore M X109 (L' := #[.val (.int x0), .val (.int x1), .val (.long x2), .second, .val (.int x3), .val (.int (x3 &&& (511 : Int32))), .val (.ref a3), .val (.int (((x1.toUInt32 >>> ((16 : Int32) &&& 31).toUInt32).toInt32).toInt8.toInt32)), .val (.int (((x0.toUInt32 >>> ((8 : Int32) &&& 31).toUInt32).toInt32).toInt8.toInt32)), .val (.ref a13), .val (.ref r35), .val (.ref r101), .val (.int (1 : Int32)), .val (.int ((3 : Int32) + (x3 &&& (511 : Int32)))), .unset]) at_392 rfl rfl ?_
                                          refine own_aload M X109 at_394 rfl rfl rfl ?_
                                          refine own_iconst M X109 (v := (0 : Int32)) at_396 rfl rfl ?_
                                          refine own_aload M X109 at_397 rfl rfl rfl ?_
                                          refine own_iconst M X109 (v := (0 : Int32)) at_399 rfl rfl ?_
                                          refine own_baload M X109 V105 (i := 0) (by decide) (by omega) (congrArg Value.int ((own_updI_ne (by omega)).trans ((own_updI_ne (by omega)).trans ((own_updI_ne (by omega)).trans ((own_updI_ne (by omega)).trans ((own_updI_ne (by omega)).trans ((own_updI_ne (by omega)).trans ((own_updI_ne (by omega)).trans ((own_updI_ne (by omega)).trans ((own_W_ne (by omega)).trans ((own_updI_ne (by omega)).trans ((own_updI_ne (by omega)).trans ((own_updI_at (by omega)).trans (own_bb _)))))))))))))) at_400 rfl ?_
                                          refine own_iconst M X109 (v := (-1 : Int32)) at_401 rfl rfl ?_
                                          refine own_ixor M X109 at_402 rfl ?_
                                          refine own_i2b M X109 at_403 rfl ?_
                                          refine own_bastore M X109 V105 ge102 (i := 0) (by decide) (by omega) at_404 rfl ?_
                                          intro T130 h131 X132 K133 V134
                                          replace V134 : own_Va Z h131 r101 .byte ((((0 + 1) + 2) + k) + 4 + 4) (fun j => .int ((own_updI (own_updI (own_updI (own_updI (own_updI (own_updI (own_updI (own_updI (own_updI (own_upW (own_updI (own_updI (own_updI (fun _ => 0) 0 ((x0.toInt8.toInt32).toInt8.toInt32)) (0 + 1) ((((x1.toUInt32 >>> ((8 : Int32) &&& 31).toUInt32).toInt32).toInt8.toInt32).toInt8.toInt32)) ((0 + 1) + 1) ((x1.toInt8.toInt32).toInt8.toInt32)) (fun _ => 0) ((0 + 1) + 2) k) (((0 + 1) + 2) + k) (((((((x2.toUInt64 >>> ((32 : Int32) &&& 0x3f).toInt64.toUInt64).toInt64).toInt32).toUInt32 >>> ((24 : Int32) &&& 31).toUInt32).toInt32).toInt8.toInt32).toInt8.toInt32)) ((((0 + 1) + 2) + k) + 1) (((((((x2.toUInt64 >>> ((32 : Int32) &&& 0x3f).toInt64.toUInt64).toInt64).toInt32).toUInt32 >>> ((16 : Int32) &&& 31).toUInt32).toInt32).toInt8.toInt32).toInt8.toInt32)) ((((0 + 1) + 2) + k) + 2) (((((((x2.toUInt64 >>> ((32 : Int32) &&& 0x3f).toInt64.toUInt64).toInt64).toInt32).toUInt32 >>> ((8 : Int32) &&& 31).toUInt32).toInt32).toInt8.toInt32).toInt8.toInt32)) ((((0 + 1) + 2) + k) + 3) (((((x2.toUInt64 >>> ((32 : Int32) &&& 0x3f).toInt64.toUInt64).toInt64).toInt32).toInt8.toInt32).toInt8.toInt32)) ((((0 + 1) + 2) + k) + 4) (((((x2.toInt32).toUInt32 >>> ((24 : Int32) &&& 31).toUInt32).toInt32).toInt8.toInt32).toInt8.toInt32)) (((((0 + 1) + 2) + k) + 4) + 1) (((((x2.toInt32).toUInt32 >>> ((16 : Int32) &&& 31).toUInt32).toInt32).toInt8.toInt32).toInt8.toInt32)) (((((0 + 1) + 2) + k) + 4) + 2) (((((x2.toInt32).toUInt32 >>> ((8 : Int32) &&& 31).toUInt32).toInt32).toInt8.toInt32).toInt8.toInt32)) (((((0 + 1) + 2) + k) + 4) + 3) (((x2.toInt32).toInt8.toInt32).toInt8.toInt32)) 0 ((((x0.toInt8.toInt32) ^^^ (-1 : Int32)).toInt8.toInt32).toInt8.toInt32)) j)) := V134.congr (fun j _ => own_updIV (f := (own_updI (own_updI (own_updI (own_updI (own_updI (own_updI (own_updI (own_updI (own_upW (own_updI (own_updI (own_updI (fun _ => 0) 0 ((x0.toInt8.toInt32).toInt8.toInt32)) (0 + 1) ((((x1.toUInt32 >>> ((8 : Int32) &&& 31).toUInt32).toInt32).toInt8.toInt32).toInt8.toInt32)) ((0 + 1) + 1) ((x1.toInt8.toInt32).toInt8.toInt32)) (fun _ => 0) ((0 + 1) + 2) k) (((0 + 1) + 2) + k) (((((((x2.toUInt64 >>> ((32 : Int32) &&& 0x3f).toInt64.toUInt64).toInt64).toInt32).toUInt32 >>> ((24 : Int32) &&& 31).toUInt32).toInt32).toInt8.toInt32).toInt8.toInt32)) ((((0 + 1) + 2) + k) + 1) (((((((x2.toUInt64 >>> ((32 : Int32) &&& 0x3f).toInt64.toUInt64).toInt64).toInt32).toUInt32 >>> ((16 : Int32) &&& 31).toUInt32).toInt32).toInt8.toInt32).toInt8.toInt32)) ((((0 + 1) + 2) + k) + 2) (((((((x2.toUInt64 >>> ((32 : Int32) &&& 0x3f).toInt64.toUInt64).toInt64).toInt32).toUInt32 >>> ((8 : Int32) &&& 31).toUInt32).toInt32).toInt8.toInt32).toInt8.toInt32)) ((((0 + 1) + 2) + k) + 3) (((((x2.toUInt64 >>> ((32 : Int32) &&& 0x3f).toInt64.toUInt64).toInt64).toInt32).toInt8.toInt32).toInt8.toInt32)) ((((0 + 1) + 2) + k) + 4) (((((x2.toInt32).toUInt32 >>> ((24 : Int32) &&& 31).toUInt32).toInt32).toInt8.toInt32).toInt8.toInt32)) (((((0 + 1) + 2) + k) + 4) + 1) (((((x2.toInt32).toUInt32 >>> ((16 : Int32) &&& 31).toUInt32).toInt32).toInt8.toInt32).toInt8.toInt32)) (((((0 + 1) + 2) + k) + 4) + 2) (((((x2.toInt32).toUInt32 >>> ((8 : Int32) &&& 31).toUInt32).toInt32).toInt8.toInt32).toInt8.toInt32)) (((((0 + 1) + 2) + k) + 4) + 3) (((x2.toInt32).toInt8.toInt32).toInt8.toInt32))))
                                          have E135 := E113.keep K133
                                          have B136 := B112.keep K133 (ninS ne110 nin0) (ninS ne111 nin0)
                                          refine own_aload M X132 at_405 rfl rfl rfl ?_
                                          refine own_iload M X132 at_407 rfl rfl ?_
                                          refine own_bipush M X132 (v := (7 : Int32)) at_409 rfl rfl ?_
                                          refine own_iadd M X132 at_411 rfl ?_
                                          refine own_aload M X132 at_412 rfl rfl rfl ?_
                                          refine own_iload M X132 at_414 rfl rfl ?_
                                          refine own_bipush M X132 (v := (7 : Int32)) at_416 rfl rfl ?_
                                          refine own_iadd M X132 at_418 rfl ?_
                                          refine own_baload M X132 V134 (i := (3 + k + 7)) (own_sum (own_sum (by decide : (3 : Int32).toInt = (3 : Nat)) hk (by omega)) (by decide : (7 : Int32).toInt = (7 : Nat)) (by omega)) (by omega) (congrArg Value.int ((own_updI_ne (by omega)).trans ((own_updI_at (by omega)).trans (own_L0 x2)))) at_419 rfl ?_
                                          refine own_iconst M X132 (v := (1 : Int32)) at_420 rfl rfl ?_
                                          refine own_ixor M X132 at_421 rfl ?_
                                          refine own_i2b M X132 at_422 rfl ?_
                                          refine own_bastore M X132 V134 ge102 (i := (3 + k + 7)) (own_sum (own_sum (by decide : (3 : Int32).toInt = (3 : Nat)) hk (by omega)) (by decide : (7 : Int32).toInt = (7 : Nat)) (by omega)) (by omega) at_423 rfl ?_
                                          intro T137 h138 X139 K140 V141
                                          replace V141 : own_Va Z h138 r101 .byte ((((0 + 1) + 2) + k) + 4 + 4) (fun j => .int ((own_updI (own_updI (own_updI (own_updI (own_updI (own_updI (own_updI (own_updI (own_updI (own_updI (own_upW (own_updI (own_updI (own_updI (fun _ => 0) 0 ((x0.toInt8.toInt32).toInt8.toInt32)) (0 + 1) ((((x1.toUInt32 >>> ((8 : Int32) &&& 31).toUInt32).toInt32).toInt8.toInt32).toInt8.toInt32)) ((0 + 1) + 1) ((x1.toInt8.toInt32).toInt8.toInt32)) (fun _ => 0) ((0 + 1) + 2) k) (((0 + 1) + 2) + k) (((((((x2.toUInt64 >>> ((32 : Int32) &&& 0x3f).toInt64.toUInt64).toInt64).toInt32).toUInt32 >>> ((24 : Int32) &&& 31).toUInt32).toInt32).toInt8.toInt32).toInt8.toInt32)) ((((0 + 1) + 2) + k) + 1) (((((((x2.toUInt64 >>> ((32 : Int32) &&& 0x3f).toInt64.toUInt64).toInt64).toInt32).toUInt32 >>> ((16 : Int32) &&& 31).toUInt32).toInt32).toInt8.toInt32).toInt8.toInt32)) ((((0 + 1) + 2) + k) + 2) (((((((x2.toUInt64 >>> ((32 : Int32) &&& 0x3f).toInt64.toUInt64).toInt64).toInt32).toUInt32 >>> ((8 : Int32) &&& 31).toUInt32).toInt32).toInt8.toInt32).toInt8.toInt32)) ((((0 + 1) + 2) + k) + 3) (((((x2.toUInt64 >>> ((32 : Int32) &&& 0x3f).toInt64.toUInt64).toInt64).toInt32).toInt8.toInt32).toInt8.toInt32)) ((((0 + 1) + 2) + k) + 4) (((((x2.toInt32).toUInt32 >>> ((24 : Int32) &&& 31).toUInt32).toInt32).toInt8.toInt32).toInt8.toInt32)) (((((0 + 1) + 2) + k) + 4) + 1) (((((x2.toInt32).toUInt32 >>> ((16 : Int32) &&& 31).toUInt32).toInt32).toInt8.toInt32).toInt8.toInt32)) (((((0 + 1) + 2) + k) + 4) + 2) (((((x2.toInt32).toUInt32 >>> ((8 : Int32) &&& 31).toUInt32).toInt32).toInt8.toInt32).toInt8.toInt32)) (((((0 + 1) + 2) + k) + 4) + 3) (((x2.toInt32).toInt8.toInt32).toInt8.toInt32)) 0 ((((x0.toInt8.toInt32) ^^^ (-1 : Int32)).toInt8.toInt32).toInt8.toInt32)) (3 + k + 7) (((((x2.toInt32).toInt8.toInt32) ^^^ (1 : Int32)).toInt8.toInt32).toInt8.toInt32)) j)) := V141.congr (fun j _ => own_updIV (f := (own_updI (own_updI (own_updI (own_updI (own_updI (own_updI (own_updI (own_updI (own_updI (own_upW (own_updI (own_updI (own_updI (fun _ => 0) 0 ((x0.toInt8.toInt32).toInt8.toInt32)) (0 + 1) ((((x1.toUInt32 >>> ((8 : Int32) &&& 31).toUInt32).toInt32).toInt8.toInt32).toInt8.toInt32)) ((0 + 1) + 1) ((x1.toInt8.toInt32).toInt8.toInt32)) (fun _ => 0) ((0 + 1) + 2) k) (((0 + 1) + 2) + k) (((((((x2.toUInt64 >>> ((32 : Int32) &&& 0x3f).toInt64.toUInt64).toInt64).toInt32).toUInt32 >>> ((24 : Int32) &&& 31).toUInt32).toInt32).toInt8.toInt32).toInt8.toInt32)) ((((0 + 1) + 2) + k) + 1) (((((((x2.toUInt64 >>> ((32 : Int32) &&& 0x3f).toInt64.toUInt64).toInt64).toInt32).toUInt32 >>> ((16 : Int32) &&& 31).toUInt32).toInt32).toInt8.toInt32).toInt8.toInt32)) ((((0 + 1) + 2) + k) + 2) (((((((x2.toUInt64 >>> ((32 : Int32) &&& 0x3f).toInt64.toUInt64).toInt64).toInt32).toUInt32 >>> ((8 : Int32) &&& 31).toUInt32).toInt32).toInt8.toInt32).toInt8.toInt32)) ((((0 + 1) + 2) + k) + 3) (((((x2.toUInt64 >>> ((32 : Int32) &&& 0x3f).toInt64.toUInt64).toInt64).toInt32).toInt8.toInt32).toInt8.toInt32)) ((((0 + 1) + 2) + k) + 4) (((((x2.toInt32).toUInt32 >>> ((24 : Int32) &&& 31).toUInt32).toInt32).toInt8.toInt32).toInt8.toInt32)) (((((0 + 1) + 2) + k) + 4) + 1) (((((x2.toInt32).toUInt32 >>> ((16 : Int32) &&& 31).toUInt32).toInt32).toInt8.toInt32).toInt8.toInt32)) (((((0 + 1) + 2) + k) + 4) + 2) (((((x2.toInt32).toUInt32 >>> ((8 : Int32) &&& 31).toUInt32).toInt32).toInt8.toInt32).toInt8.toInt32)) (((((0 + 1) + 2) + k) + 4) + 3) (((x2.toInt32).toInt8.toInt32).toInt8.toInt32)) 0 ((((x0.toInt8.toInt32) ^^^ (-1 : Int32)).toInt8.toInt32).toInt8.toInt32))))
                                          have E142 := E135.keep K140
                                          have B143 := B136.keep K140 (ninS ne110 nin0) (ninS ne111 nin0)
                                          refine own_aload M X139 at_424 rfl rfl rfl ?_
                                          have ltB := B143.lt
                                          refine own_callV M X139 (yrm := ({ frames := 2, cells := 1, slots := 522, locals := 34 } : Room)) [] (hw _ (List.mem_of_getElem? (i := 12) rfl)) (hw _ (List.mem_of_getElem? (i := 14) rfl)) (hw _ (List.mem_of_getElem? (i := 13) rfl)) (hw _ (List.mem_of_getElem? (i := 15) rfl)) (hw _ (List.mem_of_getElem? (i := 3) rfl)) (hw _ (List.mem_of_getElem? (i := 16) rfl)) (by decide) E142 (met_3 _ Z a0 hw h138 n0 X139.size a13 b90 n91 ((((0 + 1) + 2) + k) + 4 + 4) 522 (own_updI (own_updI (own_updI (own_updI (own_updI (own_updI (own_updI (own_updI (own_upW (own_updI (own_updI (own_updI (fun _ => 0) 0 ((x0.toInt8.toInt32).toInt8.toInt32)) (0 + 1) ((((x1.toUInt32 >>> ((8 : Int32) &&& 31).toUInt32).toInt32).toInt8.toInt32).toInt8.toInt32)) ((0 + 1) + 1) ((x1.toInt8.toInt32).toInt8.toInt32)) (fun _ => 0) ((0 + 1) + 2) k) (((0 + 1) + 2) + k) (((((((x2.toUInt64 >>> ((32 : Int32) &&& 0x3f).toInt64.toUInt64).toInt64).toInt32).toUInt32 >>> ((24 : Int32) &&& 31).toUInt32).toInt32).toInt8.toInt32).toInt8.toInt32)) ((((0 + 1) + 2) + k) + 1) (((((((x2.toUInt64 >>> ((32 : Int32) &&& 0x3f).toInt64.toUInt64).toInt64).toInt32).toUInt32 >>> ((16 : Int32) &&& 31).toUInt32).toInt32).toInt8.toInt32).toInt8.toInt32)) ((((0 + 1) + 2) + k) + 2) (((((((x2.toUInt64 >>> ((32 : Int32) &&& 0x3f).toInt64.toUInt64).toInt64).toInt32).toUInt32 >>> ((8 : Int32) &&& 31).toUInt32).toInt32).toInt8.toInt32).toInt8.toInt32)) ((((0 + 1) + 2) + k) + 3) (((((x2.toUInt64 >>> ((32 : Int32) &&& 0x3f).toInt64.toUInt64).toInt64).toInt32).toInt8.toInt32).toInt8.toInt32)) ((((0 + 1) + 2) + k) + 4) (((((x2.toInt32).toUInt32 >>> ((24 : Int32) &&& 31).toUInt32).toInt32).toInt8.toInt32).toInt8.toInt32)) (((((0 + 1) + 2) + k) + 4) + 1) (((((x2.toInt32).toUInt32 >>> ((16 : Int32) &&& 31).toUInt32).toInt32).toInt8.toInt32).toInt8.toInt32)) (((((0 + 1) + 2) + k) + 4) + 2) (((((x2.toInt32).toUInt32 >>> ((8 : Int32) &&& 31).toUInt32).toInt32).toInt8.toInt32).toInt8.toInt32)) (((((0 + 1) + 2) + k) + 4) + 3) (((x2.toInt32).toInt8.toInt32).toInt8.toInt32)) B143 (by omega) (by decide)) rfl at_426 rfl own_pd4 rfl rfl 0 (Nat.le_of_eq rfl) (by decide) (by decide) (by decide) (by decide) ?_
                                          rintro T149 h150 v151 X152 ⟨r144, rfl, ge145, sz146, K147, V148⟩
                                          have ne153 : r101 ≠ r144 := Nat.ne_of_lt (Nat.lt_of_lt_of_le V141.lt sz146)
                                          have V154 := V141.keep K147 nin0
                                          have ne155 : a13 ≠ r144 := Nat.ne_of_lt (Nat.lt_of_lt_of_le ltB.1 sz146)
                                          have ne156 : b90 ≠ r144 := Nat.ne_of_lt (Nat.lt_of_lt_of_le ltB.2 sz146)
                                          have B157 := B143.keep K147 nin0 nin0
                                          have E158 := B157.1
                                          replace X152 : own_Sx n0 K T149 h150 11 4419 := X152
                                          show own_Fin n0 K _ T149 429 #[.val (.int x0), .val (.int x1), .val (.long x2), .second, .val (.int x3), .val (.int (x3 &&& (511 : Int32))), .val (.ref a3), .val (.int (((x1.toUInt32 >>> ((16 : Int32) &&& 31).toUInt32).toInt32).toInt8.toInt32)), .val (.int (((x0.toUInt32 >>> ((8 : Int32) &&& 31).toUInt32).toInt32).toInt8.toInt32)), .val (.ref a13), .val (.ref r35), .val (.ref r101), .val (.int (1 : Int32)), .val (.int ((3 : Int32) + (x3 &&& (511 : Int32)))), .unset] [(.ref r144)]
                                          refine own_astore M X152 (L' := #[.val (.int x0), .val (.int x1), .val (.long x2), .second, .val (.int x3), .val (.int (x3 &&& (511 : Int32))), .val (.ref a3), .val (.int (((x1.toUInt32 >>> ((16 : Int32) &&& 31).toUInt32).toInt32).toInt8.toInt32)), .val (.int (((x0.toUInt32 >>> ((8 : Int32) &&& 31).toUInt32).toInt32).toInt8.toInt32)), .val (.ref a13), .val (.ref r35), .val (.ref r101), .val (.int (1 : Int32)), .val (.int ((3 : Int32) + (x3 &&& (511 : Int32)))), .val (.ref r144)]) at_429 rfl rfl rfl ?_
                                          refine own_iload M X152 at_431 rfl rfl ?_
                                          refine own_if_eq M X152 at_433 (by decide) rfl rfl (fun q159 => ?_) (fun q159 => ?_)
                                          · exact absurd q159 (by decide)
                                          · skip
                                            refine own_aload M X152 at_436 rfl rfl rfl ?_
                                            refine own_arraylength M X152 (z := (Int32.ofNat (0 + 1 + 2 + k + 8))) V148 ((own_ofn (by omega)).trans (by omega)) at_438 rfl ?_
                                            refine own_bipush M X152 (v := (11 : Int32)) at_439 rfl rfl ?_
                                            refine own_iload M X152 at_441 rfl rfl ?_
                                            refine own_iadd M X152 at_443 rfl ?_
                                            refine own_icmp_ne M X152 at_444 (by decide) rfl rfl (fun q160 => ?_) (fun q160 => ?_)
                                            · exact absurd q114 q160
                                            · skip
                                              refine own_aload M X152 at_447 rfl rfl rfl ?_
                                              refine own_iconst M X152 (v := (0 : Int32)) at_449 rfl rfl ?_
                                              refine own_baload M X152 V148 (i := 0) (by decide) (by omega) (congrArg Value.int ((own_updI_ne (by omega)).trans ((own_updI_ne (by omega)).trans ((own_updI_ne (by omega)).trans ((own_updI_ne (by omega)).trans ((own_updI_ne (by omega)).trans ((own_updI_ne (by omega)).trans ((own_updI_ne (by omega)).trans ((own_updI_ne (by omega)).trans ((own_W_ne (by omega)).trans ((own_updI_ne (by omega)).trans ((own_updI_ne (by omega)).trans ((own_updI_at (by omega)).trans (own_bb _)))))))))))))) at_450 rfl ?_
                                              refine own_iloadN M X152 at_451 rfl rfl ?_
                                              refine own_i2b M X152 at_452 rfl ?_
                                              refine own_icmp_ne M X152 at_453 (by decide) rfl rfl (fun q161 => ?_) (fun q161 => ?_)
                                              · exact absurd rfl q161
                                              · skip
                                                refine own_aload M X152 at_456 rfl rfl rfl ?_
                                                refine own_iload M X152 at_458 rfl rfl ?_
                                                refine own_bipush M X152 (v := (7 : Int32)) at_460 rfl rfl ?_
                                                refine own_iadd M X152 at_462 rfl ?_
                                                refine own_baload M X152 V148 (i := (3 + k + 7)) (own_sum (own_sum (by decide : (3 : Int32).toInt = (3 : Nat)) hk (by omega)) (by decide : (7 : Int32).toInt = (7 : Nat)) (by omega)) (by omega) (congrArg Value.int ((own_updI_at (by omega)).trans (own_L0 x2))) at_463 rfl ?_
                                                refine own_lloadN M X152 at_464 rfl rfl ?_
                                                refine own_l2i M X152 at_465 rfl ?_
                                                refine own_i2b M X152 at_466 rfl ?_
                                                refine own_icmp_ne M X152 at_467 (by decide) rfl rfl (fun q162 => ?_) (fun q162 => ?_)
                                                · exact absurd rfl q162
                                                · skip
                                                  refine own_iconst M X152 (v := (1 : Int32)) at_470 rfl rfl ?_
                                                  refine own_goto M X152 at_471 (by decide) rfl ?_
                                                  refine own_istore M X152 (L' := #[.val (.int x0), .val (.int x1), .val (.long x2), .second, .val (.int x3), .val (.int (x3 &&& (511 : Int32))), .val (.ref a3), .val (.int (((x1.toUInt32 >>> ((16 : Int32) &&& 31).toUInt32).toInt32).toInt8.toInt32)), .val (.int (((x0.toUInt32 >>> ((8 : Int32) &&& 31).toUInt32).toInt32).toInt8.toInt32)), .val (.ref a13), .val (.ref r35), .val (.ref r101), .val (.int (1 : Int32)), .val (.int ((3 : Int32) + (x3 &&& (511 : Int32)))), .val (.ref r144)]) at_475 rfl rfl ?_
                                                  refine own_iload M X152 at_477 rfl rfl ?_
                                                  exact own_retN M X152 (z' := (1 : Int32)) (by simp) at_479 rfl rfl
                      · exact absurd c3 q120
                    · exact absurd c1 q119
                  · exact absurd c2 q118
          · skip
            exact absurd (own_n11 hk hk2) q114
        · exact absurd (by decide) q50
      · exact absurd c1 q10
    · exact absurd c2 q9
  · skip
    refine own_iconst M X6 (v := (2 : Int32)) at_30 rfl rfl ?_
    refine own_icmp_lt M X6 at_31 (by decide) rfl rfl (fun q163 => ?_) (fun q163 => ?_)
    · skip
      refine own_iload M X6 at_40 rfl rfl ?_
      refine own_iconst M X6 (v := (1 : Int32)) at_42 rfl rfl ?_
      refine own_icmp_lt M X6 at_43 (by decide) rfl rfl (fun q164 => ?_) (fun q164 => ?_)
      · exact absurd q164 c1
      · skip
        refine own_aload M X6 at_46 rfl rfl rfl ?_
        refine own_iload M X6 at_48 rfl rfl ?_
        refine own_iconst M X6 (v := (1 : Int32)) at_50 rfl rfl ?_
        refine own_isub M X6 at_51 rfl ?_
        refine own_iload M X6 at_52 rfl rfl ?_
        refine own_bastore M X6 V8 ge4 (i := (k - 1)) (own_pred hk (by omega) hk2) (by omega) at_54 rfl ?_
        intro T165 h166 X167 K168 V169
        replace V169 : own_Va Z h166 a3 .byte k (fun j => .int ((own_updI (fun _ => 0) (k - 1) ((((x0.toUInt32 >>> ((8 : Int32) &&& 31).toUInt32).toInt32).toInt8.toInt32).toInt8.toInt32)) j)) := V169.congr (fun j _ => own_updIV (f := (fun _ => 0)))
        refine own_new M X167 (hw _ (List.mem_of_getElem? (i := 1) rfl)) (hw _ (List.mem_of_getElem? (i := 2) rfl)) (hw _ (List.mem_of_getElem? (i := 3) rfl)) at_55 rfl (by decide) (by decide) ?_
        intro T170 h171 a172 ge173 gs174 X175 E176 A177 D178
        have ne179 : a3 ≠ a172 := Nat.ne_of_lt (Nat.lt_of_lt_of_le V169.lt gs174)
        have V180 := V169.ext E176
        have F181 : Fld Z h171 a172 "com/example/london_wall/londonwall/wire/Encoder" "bytes" "[B" .null := D178 (Or.inl (hw _ (List.mem_of_getElem? (i := 11) rfl))) (ty := (.array .byte)) (by decide)
        have F182 : Fld Z h171 a172 "com/example/london_wall/londonwall/wire/Encoder" "size" "I" (.int (0 : Int32)) := D178 (Or.inl (hw _ (List.mem_of_getElem? (i := 18) rfl))) (ty := .int) (by decide)
        refine own_dup M X175 at_58 rfl rfl ?_
        refine own_callN M X175 (yrm := ({ frames := 1, cells := 1, slots := 256, locals := 12 } : Room)) [] (hw _ (List.mem_of_getElem? (i := 4) rfl)) (hw _ (List.mem_of_getElem? (i := 5) rfl)) (hw _ (List.mem_of_getElem? (i := 3) rfl)) (hw _ (List.mem_of_getElem? (i := 6) rfl)) (by decide) rfl rfl (met_1 _ Z a0 hw h171 n0 X175.size a172 ge173 A177 F182 F181) rfl at_59 rfl own_pd3 rfl rfl 1 (Nat.le_of_eq rfl) (by decide) (by decide) (by decide) (by decide) ?_
        rintro T187 h188 v189 X190 ⟨rfl, b183, B184, sz185, K186⟩
        have ne191 : a3 ≠ b183 := Nat.ne_of_lt (Nat.lt_of_lt_of_le V180.lt sz185)
        have V192 := V180.keep K186 (ninS ne179 nin0)
        have E193 := B184.1
        replace X190 : own_Sx n0 K T187 h188 3 769 := X190
        show own_Fin n0 K _ T187 62 #[.val (.int x0), .val (.int x1), .val (.long x2), .second, .val (.int x3), .val (.int (x3 &&& (511 : Int32))), .val (.ref a3), .val (.int (((x1.toUInt32 >>> ((16 : Int32) &&& 31).toUInt32).toInt32).toInt8.toInt32)), .val (.int (((x0.toUInt32 >>> ((8 : Int32) &&& 31).toUInt32).toInt32).toInt8.toInt32)), .unset, .unset, .unset, .unset, .unset, .unset] [(.ref a172)]
        refine own_astore M X190 (L' := #[.val (.int x0), .val (.int x1), .val (.long x2), .second, .val (.int x3), .val (.int (x3 &&& (511 : Int32))), .val (.ref a3), .val (.int (((x1.toUInt32 >>> ((16 : Int32) &&& 31).toUInt32).toInt32).toInt8.toInt32)), .val (.int (((x0.toUInt32 >>> ((8 : Int32) &&& 31).toUInt32).toInt32).toInt8.toInt32)), .val (.ref a172), .unset, .unset, .unset, .unset, .unset]) at_62 rfl rfl rfl ?_
        refine own_aload M X190 at_64 rfl rfl rfl ?_
        have ltB := B184.lt
        refine own_callV M X190 (yrm := ({ frames := 2, cells := 1, slots := 0, locals := 34 } : Room)) [] (hw _ (List.mem_of_getElem? (i := 12) rfl)) (hw _ (List.mem_of_getElem? (i := 14) rfl)) (hw _ (List.mem_of_getElem? (i := 13) rfl)) (hw _ (List.mem_of_getElem? (i := 15) rfl)) (hw _ (List.mem_of_getElem? (i := 3) rfl)) (hw _ (List.mem_of_getElem? (i := 16) rfl)) (by decide) E193 (met_3 _ Z a0 hw h188 n0 X190.size a172 b183 256 0 0 (fun _ => 0) B184 (by omega) (by decide)) rfl at_66 rfl own_pd4 rfl rfl 0 (Nat.le_of_eq rfl) (by decide) (by decide) (by decide) (by decide) ?_
        rintro T199 h200 v201 X202 ⟨r194, rfl, ge195, sz196, K197, V198⟩
        have ne203 : a3 ≠ r194 := Nat.ne_of_lt (Nat.lt_of_lt_of_le V192.lt sz196)
        have V204 := V192.keep K197 nin0
        have ne205 : a172 ≠ r194 := Nat.ne_of_lt (Nat.lt_of_lt_of_le ltB.1 sz196)
        have ne206 : b183 ≠ r194 := Nat.ne_of_lt (Nat.lt_of_lt_of_le ltB.2 sz196)
        have B207 := B184.keep K197 nin0 nin0
        have E208 := B207.1
        replace X202 : own_Sx n0 K T199 h200 4 769 := X202
        show own_Fin n0 K _ T199 69 #[.val (.int x0), .val (.int x1), .val (.long x2), .second, .val (.int x3), .val (.int (x3 &&& (511 : Int32))), .val (.ref a3), .val (.int (((x1.toUInt32 >>> ((16 : Int32) &&& 31).toUInt32).toInt32).toInt8.toInt32)), .val (.int (((x0.toUInt32 >>> ((8 : Int32) &&& 31).toUInt32).toInt32).toInt8.toInt32)), .val (.ref a172), .unset, .unset, .unset, .unset, .unset] [(.ref r194)]
        refine own_astore M X202 (L' := #[.val (.int x0), .val (.int x1), .val (.long x2), .second, .val (.int x3), .val (.int (x3 &&& (511 : Int32))), .val (.ref a3), .val (.int (((x1.toUInt32 >>> ((16 : Int32) &&& 31).toUInt32).toInt32).toInt8.toInt32)), .val (.int (((x0.toUInt32 >>> ((8 : Int32) &&& 31).toUInt32).toInt32).toInt8.toInt32)), .val (.ref a172), .val (.ref r194), .unset, .unset, .unset, .unset]) at_69 rfl rfl rfl ?_
        refine own_aload M X202 at_71 rfl rfl rfl ?_
        refine own_arraylength M X202 (z := (0 : Int32)) V198 (by decide) at_73 rfl ?_
        refine own_if_eq M X202 at_74 (by decide) rfl rfl (fun q209 => ?_) (fun q209 => ?_)
        · skip
          refine own_aload M X202 at_79 rfl rfl rfl ?_
          refine own_iloadN M X202 at_81 rfl rfl ?_
          refine own_callV M X202 (yrm := ({ frames := 3, cells := 1, slots := 0, locals := 48 } : Room)) [(.int x0)] (hw _ (List.mem_of_getElem? (i := 31) rfl)) (hw _ (List.mem_of_getElem? (i := 33) rfl)) (hw _ (List.mem_of_getElem? (i := 32) rfl)) (hw _ (List.mem_of_getElem? (i := 34) rfl)) (hw _ (List.mem_of_getElem? (i := 3) rfl)) (hw _ (List.mem_of_getElem? (i := 35) rfl)) (by decide) E208 (met_6 _ Z a0 hw h200 n0 X202.size a172 x0 b183 256 0 0 (fun _ => 0) B207 ge173 (by omega) (by decide)) rfl at_82 rfl own_pd2 rfl rfl 0 (Nat.le_of_eq rfl) (by decide) (by decide) (by decide) (by decide) ?_
          rintro T216 h217 v218 X219 ⟨rfl, b210, n211, hn212, B213, K214, hb215⟩
          have ne220 : a3 ≠ b210 := hb215.elim (fun e => e ▸ ne191) (fun e => Nat.ne_of_lt (Nat.lt_of_lt_of_le V204.lt e))
          have V221 := V204.keep K214 (ninS ne179 (ninS ne191 nin0))
          replace hn212 : n211 ≤ 256 := by have := hn212; omega
          have E222 := B213.1
          replace X219 : own_Sx n0 K T216 h217 5 769 := X219
          show own_Fin n0 K _ T216 85 #[.val (.int x0), .val (.int x1), .val (.long x2), .second, .val (.int x3), .val (.int (x3 &&& (511 : Int32))), .val (.ref a3), .val (.int (((x1.toUInt32 >>> ((16 : Int32) &&& 31).toUInt32).toInt32).toInt8.toInt32)), .val (.int (((x0.toUInt32 >>> ((8 : Int32) &&& 31).toUInt32).toInt32).toInt8.toInt32)), .val (.ref a172), .val (.ref r194), .unset, .unset, .unset, .unset] []
          refine own_aload M X219 at_85 rfl rfl rfl ?_
          refine own_iloadN M X219 at_87 rfl rfl ?_
          refine own_callV M X219 (yrm := ({ frames := 3, cells := 1, slots := 4, locals := 48 } : Room)) [(.int x1)] (hw _ (List.mem_of_getElem? (i := 40) rfl)) (hw _ (List.mem_of_getElem? (i := 42) rfl)) (hw _ (List.mem_of_getElem? (i := 41) rfl)) (hw _ (List.mem_of_getElem? (i := 43) rfl)) (hw _ (List.mem_of_getElem? (i := 3) rfl)) (hw _ (List.mem_of_getElem? (i := 44) rfl)) (by decide) E222 (met_8 _ Z a0 hw h217 n0 X219.size a172 x1 b210 n211 (0 + 1) 4 (own_updI (fun _ => 0) 0 ((x0.toInt8.toInt32).toInt8.toInt32)) B213 ge173 (by omega) (by decide)) rfl at_88 rfl own_pd2 rfl rfl 0 (Nat.le_of_eq rfl) (by decide) (by decide) (by decide) (by decide) ?_
          rintro T229 h230 v231 X232 ⟨rfl, b223, n224, hn225, B226, K227, hb228⟩
          have ne233 : a3 ≠ b223 := hb228.elim (fun e => e ▸ ne220) (fun e => Nat.ne_of_lt (Nat.lt_of_lt_of_le V221.lt e))
          have V234 := V221.keep K227 (ninS ne179 (ninS ne220 nin0))
          replace hn225 : n224 ≤ 256 := by have := hn225; omega
          have E235 := B226.1
          replace X232 : own_Sx n0 K T229 h230 6 773 := X232
          show own_Fin n0 K _ T229 91 #[.val (.int x0), .val (.int x1), .val (.long x2), .second, .val (.int x3), .val (.int (x3 &&& (511 : Int32))), .val (.ref a3), .val (.int (((x1.toUInt32 >>> ((16 : Int32) &&& 31).toUInt32).toInt32).toInt8.toInt32)), .val (.int (((x0.toUInt32 >>> ((8 : Int32) &&& 31).toUInt32).toInt32).toInt8.toInt32)), .val (.ref a172), .val (.ref r194), .unset, .unset, .unset, .unset] []
          refine own_aload M X232 at_91 rfl rfl rfl ?_
          refine own_aload M X232 at_93 rfl rfl rfl ?_
          refine own_iconst M X232 (v := (0 : Int32)) at_95 rfl rfl ?_
          refine own_iload M X232 at_96 rfl rfl ?_
          refine own_callV M X232 (yrm := ({ frames := 3, cells := 1, slots := 514, locals := 48 } : Room)) [(.ref a3), (.int (0 : Int32)), (.int (x3 &&& (511 : Int32)))] (hw _ (List.mem_of_getElem? (i := 45) rfl)) (hw _ (List.mem_of_getElem? (i := 47) rfl)) (hw _ (List.mem_of_getElem? (i := 46) rfl)) (hw _ (List.mem_of_getElem? (i := 48) rfl)) (hw _ (List.mem_of_getElem? (i := 3) rfl)) (hw _ (List.mem_of_getElem? (i := 49) rfl)) (by decide) E235 (met_9 _ Z a0 hw h230 n0 X232.size a172 a3 0 (x3 &&& (511 : Int32)) b223 n224 ((0 + 1) + 2) k k 514 (own_updI (own_updI (own_updI (fun _ => 0) 0 ((x0.toInt8.toInt32).toInt8.toInt32)) (0 + 1) ((((x1.toUInt32 >>> ((8 : Int32) &&& 31).toUInt32).toInt32).toInt8.toInt32).toInt8.toInt32)) ((0 + 1) + 1) ((x1.toInt8.toInt32).toInt8.toInt32)) (own_updI (fun _ => 0) (k - 1) ((((x0.toUInt32 >>> ((8 : Int32) &&& 31).toUInt32).toInt32).toInt8.toInt32).toInt8.toInt32)) B226 ge173 V234 ne179 ne233 (by decide) hk (by omega) (by omega) (by omega) (by decide)) rfl at_98 rfl own_pd5 rfl rfl 0 (Nat.le_of_eq rfl) (by decide) (by decide) (by decide) (by decide) ?_
          rintro T242 h243 v244 X245 ⟨rfl, b236, n237, hn238, B239, K240, hb241⟩
          have ne246 : a3 ≠ b236 := hb241.elim (fun e => e ▸ ne233) (fun e => Nat.ne_of_lt (Nat.lt_of_lt_of_le V234.lt e))
          have V247 := V234.keep K240 (ninS ne179 (ninS ne233 nin0))
          replace hn238 : n237 ≤ 514 := by have := hn238; omega
          have E248 := B239.1
          replace X245 : own_Sx n0 K T242 h243 7 1287 := X245
          show own_Fin n0 K _ T242 101 #[.val (.int x0), .val (.int x1), .val (.long x2), .second, .val (.int x3), .val (.int (x3 &&& (511 : Int32))), .val (.ref a3), .val (.int (((x1.toUInt32 >>> ((16 : Int32) &&& 31).toUInt32).toInt32).toInt8.toInt32)), .val (.int (((x0.toUInt32 >>> ((8 : Int32) &&& 31).toUInt32).toInt32).toInt8.toInt32)), .val (.ref a172), .val (.ref r194), .unset, .unset, .unset, .unset] []
          refine own_aload M X245 at_101 rfl rfl rfl ?_
          refine own_lloadN M X245 at_103 rfl rfl ?_
          refine own_callV M X245 (yrm := ({ frames := 4, cells := 2, slots := 1044 + 1044, locals := 61 } : Room)) [(.long x2)] (hw _ (List.mem_of_getElem? (i := 51) rfl)) (hw _ (List.mem_of_getElem? (i := 53) rfl)) (hw _ (List.mem_of_getElem? (i := 52) rfl)) (hw _ (List.mem_of_getElem? (i := 54) rfl)) (hw _ (List.mem_of_getElem? (i := 3) rfl)) (hw _ (List.mem_of_getElem? (i := 55) rfl)) (by decide) E248 (met_10 _ Z a0 hw h243 n0 X245.size a172 x2 b236 n237 (((0 + 1) + 2) + k) 1044 (own_upW (own_updI (own_updI (own_updI (fun _ => 0) 0 ((x0.toInt8.toInt32).toInt8.toInt32)) (0 + 1) ((((x1.toUInt32 >>> ((8 : Int32) &&& 31).toUInt32).toInt32).toInt8.toInt32).toInt8.toInt32)) ((0 + 1) + 1) ((x1.toInt8.toInt32).toInt8.toInt32)) (own_updI (fun _ => 0) (k - 1) ((((x0.toUInt32 >>> ((8 : Int32) &&& 31).toUInt32).toInt32).toInt8.toInt32).toInt8.toInt32)) ((0 + 1) + 2) k) B239 ge173 (by omega) (fun n h1 h2 => by omega) (by decide)) rfl at_104 rfl own_pd6 rfl rfl 0 (Nat.le_of_eq rfl) (by decide) (by decide) (by decide) (by decide) ?_
          rintro T255 h256 v257 X258 ⟨rfl, b249, n250, hn251, B252, K253, hb254⟩
          replace hn251 : n250 ≤ 1044 := by have := hn251; omega
          have E259 := B252.1
          replace X258 : own_Sx n0 K T255 h256 9 3375 := X258
          show own_Fin n0 K _ T255 107 #[.val (.int x0), .val (.int x1), .val (.long x2), .second, .val (.int x3), .val (.int (x3 &&& (511 : Int32))), .val (.ref a3), .val (.int (((x1.toUInt32 >>> ((16 : Int32) &&& 31).toUInt32).toInt32).toInt8.toInt32)), .val (.int (((x0.toUInt32 >>> ((8 : Int32) &&& 31).toUInt32).toInt32).toInt8.toInt32)), .val (.ref a172), .val (.ref r194), .unset, .unset, .unset, .unset] []
          refine own_aload M X258 at_107 rfl rfl rfl ?_
          have ltB := B252.lt
          refine own_callV M X258 (yrm := ({ frames := 2, cells := 1, slots := 522, locals := 34 } : Room)) [] (hw _ (List.mem_of_getElem? (i := 12) rfl)) (hw _ (List.mem_of_getElem? (i := 14) rfl)) (hw _ (List.mem_of_getElem? (i := 13) rfl)) (hw _ (List.mem_of_getElem? (i := 15) rfl)) (hw _ (List.mem_of_getElem? (i := 3) rfl)) (hw _ (List.mem_of_getElem? (i := 16) rfl)) (by decide) E259 (met_3 _ Z a0 hw h256 n0 X258.size a172 b249 n250 ((((0 + 1) + 2) + k) + 4 + 4) 522 (own_updI (own_updI (own_updI (own_updI (own_updI (own_updI (own_updI (own_updI (own_upW (own_updI (own_updI (own_updI (fun _ => 0) 0 ((x0.toInt8.toInt32).toInt8.toInt32)) (0 + 1) ((((x1.toUInt32 >>> ((8 : Int32) &&& 31).toUInt32).toInt32).toInt8.toInt32).toInt8.toInt32)) ((0 + 1) + 1) ((x1.toInt8.toInt32).toInt8.toInt32)) (own_updI (fun _ => 0) (k - 1) ((((x0.toUInt32 >>> ((8 : Int32) &&& 31).toUInt32).toInt32).toInt8.toInt32).toInt8.toInt32)) ((0 + 1) + 2) k) (((0 + 1) + 2) + k) (((((((x2.toUInt64 >>> ((32 : Int32) &&& 0x3f).toInt64.toUInt64).toInt64).toInt32).toUInt32 >>> ((24 : Int32) &&& 31).toUInt32).toInt32).toInt8.toInt32).toInt8.toInt32)) ((((0 + 1) + 2) + k) + 1) (((((((x2.toUInt64 >>> ((32 : Int32) &&& 0x3f).toInt64.toUInt64).toInt64).toInt32).toUInt32 >>> ((16 : Int32) &&& 31).toUInt32).toInt32).toInt8.toInt32).toInt8.toInt32)) ((((0 + 1) + 2) + k) + 2) (((((((x2.toUInt64 >>> ((32 : Int32) &&& 0x3f).toInt64.toUInt64).toInt64).toInt32).toUInt32 >>> ((8 : Int32) &&& 31).toUInt32).toInt32).toInt8.toInt32).toInt8.toInt32)) ((((0 + 1) + 2) + k) + 3) (((((x2.toUInt64 >>> ((32 : Int32) &&& 0x3f).toInt64.toUInt64).toInt64).toInt32).toInt8.toInt32).toInt8.toInt32)) ((((0 + 1) + 2) + k) + 4) (((((x2.toInt32).toUInt32 >>> ((24 : Int32) &&& 31).toUInt32).toInt32).toInt8.toInt32).toInt8.toInt32)) (((((0 + 1) + 2) + k) + 4) + 1) (((((x2.toInt32).toUInt32 >>> ((16 : Int32) &&& 31).toUInt32).toInt32).toInt8.toInt32).toInt8.toInt32)) (((((0 + 1) + 2) + k) + 4) + 2) (((((x2.toInt32).toUInt32 >>> ((8 : Int32) &&& 31).toUInt32).toInt32).toInt8.toInt32).toInt8.toInt32)) (((((0 + 1) + 2) + k) + 4) + 3) (((x2.toInt32).toInt8.toInt32).toInt8.toInt32)) B252 (by omega) (by decide)) rfl at_109 rfl own_pd4 rfl rfl 0 (Nat.le_of_eq rfl) (by decide) (by decide) (by decide) (by decide) ?_
          rintro T265 h266 v267 X268 ⟨r260, rfl, ge261, sz262, K263, V264⟩
          have ne269 : a172 ≠ r260 := Nat.ne_of_lt (Nat.lt_of_lt_of_le ltB.1 sz262)
          have ne270 : b249 ≠ r260 := Nat.ne_of_lt (Nat.lt_of_lt_of_le ltB.2 sz262)
          have B271 := B252.keep K263 nin0 nin0
          have E272 := B271.1
          replace X268 : own_Sx n0 K T265 h266 10 3897 := X268
          show own_Fin n0 K _ T265 112 #[.val (.int x0), .val (.int x1), .val (.long x2), .second, .val (.int x3), .val (.int (x3 &&& (511 : Int32))), .val (.ref a3), .val (.int (((x1.toUInt32 >>> ((16 : Int32) &&& 31).toUInt32).toInt32).toInt8.toInt32)), .val (.int (((x0.toUInt32 >>> ((8 : Int32) &&& 31).toUInt32).toInt32).toInt8.toInt32)), .val (.ref a172), .val (.ref r194), .unset, .unset, .unset, .unset] [(.ref r260)]
          refine own_astore M X268 (L' := #[.val (.int x0), .val (.int x1), .val (.long x2), .second, .val (.int x3), .val (.int (x3 &&& (511 : Int32))), .val (.ref a3), .val (.int (((x1.toUInt32 >>> ((16 : Int32) &&& 31).toUInt32).toInt32).toInt8.toInt32)), .val (.int (((x0.toUInt32 >>> ((8 : Int32) &&& 31).toUInt32).toInt32).toInt8.toInt32)), .val (.ref a172), .val (.ref r194), .val (.ref r260), .unset, .unset, .unset]) at_112 rfl rfl rfl ?_
          refine own_aload M X268 at_114 rfl rfl rfl ?_
          refine own_arraylength M X268 (z := (Int32.ofNat (0 + 1 + 2 + k + 8))) V264 ((own_ofn (by omega)).trans (by omega)) at_116 rfl ?_
          refine own_bipush M X268 (v := (11 : Int32)) at_117 rfl rfl ?_
          refine own_iload M X268 at_119 rfl rfl ?_
          refine own_iadd M X268 at_121 rfl ?_
          refine own_icmp_eq M X268 at_122 (by decide) rfl rfl (fun q273 => ?_) (fun q273 => ?_)
          · skip
            refine own_aload M X268 at_127 rfl rfl rfl ?_
            refine own_iconst M X268 (v := (0 : Int32)) at_129 rfl rfl ?_
            refine own_baload M X268 V264 (i := 0) (by decide) (by omega) (congrArg Value.int ((own_updI_ne (by omega)).trans ((own_updI_ne (by omega)).trans ((own_updI_ne (by omega)).trans ((own_updI_ne (by omega)).trans ((own_updI_ne (by omega)).trans ((own_updI_ne (by omega)).trans ((own_updI_ne (by omega)).trans ((own_updI_ne (by omega)).trans ((own_W_ne (by omega)).trans ((own_updI_ne (by omega)).trans ((own_updI_ne (by omega)).trans ((own_updI_at (by omega)).trans (own_bb _)))))))))))))) at_130 rfl ?_
            refine own_iloadN M X268 at_131 rfl rfl ?_
            refine own_i2b M X268 at_132 rfl ?_
            refine own_icmp_ne M X268 at_133 (by decide) rfl rfl (fun q274 => ?_) (fun q274 => ?_)
            · exact absurd rfl q274
            · skip
              refine own_aload M X268 at_136 rfl rfl rfl ?_
              refine own_iconst M X268 (v := (1 : Int32)) at_138 rfl rfl ?_
              refine own_baload M X268 V264 (i := 1) (by decide) (by omega) (congrArg Value.int ((own_updI_ne (by omega)).trans ((own_updI_ne (by omega)).trans ((own_updI_ne (by omega)).trans ((own_updI_ne (by omega)).trans ((own_updI_ne (by omega)).trans ((own_updI_ne (by omega)).trans ((own_updI_ne (by omega)).trans ((own_updI_ne (by omega)).trans ((own_W_ne (by omega)).trans ((own_updI_ne (by omega)).trans ((own_updI_at (by omega)).trans (own_bb _))))))))))))) at_139 rfl ?_
              refine own_iloadN M X268 at_140 rfl rfl ?_
              refine own_bipush M X268 (v := (8 : Int32)) at_141 rfl rfl ?_
              refine own_iushr M X268 at_143 rfl ?_
              refine own_i2b M X268 at_144 rfl ?_
              refine own_icmp_ne M X268 at_145 (by decide) rfl rfl (fun q275 => ?_) (fun q275 => ?_)
              · exact absurd rfl q275
              · skip
                refine own_aload M X268 at_148 rfl rfl rfl ?_
                refine own_iconst M X268 (v := (2 : Int32)) at_150 rfl rfl ?_
                refine own_baload M X268 V264 (i := 2) (by decide) (by omega) (congrArg Value.int ((own_updI_ne (by omega)).trans ((own_updI_ne (by omega)).trans ((own_updI_ne (by omega)).trans ((own_updI_ne (by omega)).trans ((own_updI_ne (by omega)).trans ((own_updI_ne (by omega)).trans ((own_updI_ne (by omega)).trans ((own_updI_ne (by omega)).trans ((own_W_ne (by omega)).trans ((own_updI_at (by omega)).trans (own_bb _)))))))))))) at_151 rfl ?_
                refine own_iloadN M X268 at_152 rfl rfl ?_
                refine own_i2b M X268 at_153 rfl ?_
                refine own_icmp_ne M X268 at_154 (by decide) rfl rfl (fun q276 => ?_) (fun q276 => ?_)
                · exact absurd rfl q276
                · skip
                  refine own_iconst M X268 (v := (1 : Int32)) at_157 rfl rfl ?_
                  refine own_goto M X268 at_158 (by decide) rfl ?_
                  refine own_istore M X268 (L' := #[.val (.int x0), .val (.int x1), .val (.long x2), .second, .val (.int x3), .val (.int (x3 &&& (511 : Int32))), .val (.ref a3), .val (.int (((x1.toUInt32 >>> ((16 : Int32) &&& 31).toUInt32).toInt32).toInt8.toInt32)), .val (.int (((x0.toUInt32 >>> ((8 : Int32) &&& 31).toUInt32).toInt32).toInt8.toInt32)), .val (.ref a172), .val (.ref r194), .val (.ref r260), .val (.int (1 : Int32)), .unset, .unset]) at_162 rfl rfl ?_
                  refine own_iload M X268 at_164 rfl rfl ?_
                  refine own_iconst M X268 (v := (2 : Int32)) at_166 rfl rfl ?_
                  refine own_icmp_lt M X268 at_167 (by decide) rfl rfl (fun q277 => ?_) (fun q277 => ?_)
                  · skip
                    refine own_iload M X268 at_191 rfl rfl ?_
                    refine own_iconst M X268 (v := (1 : Int32)) at_193 rfl rfl ?_
                    refine own_icmp_lt M X268 at_194 (by decide) rfl rfl (fun q278 => ?_) (fun q278 => ?_)
                    · exact absurd q278 c1
                    · skip
                      refine own_iload M X268 at_197 rfl rfl ?_
                      refine own_if_eq M X268 at_199 (by decide) rfl rfl (fun q279 => ?_) (fun q279 => ?_)
                      · exact absurd q279 (by decide)
                      · skip
                        refine own_aload M X268 at_202 rfl rfl rfl ?_
                        refine own_iconst M X268 (v := (2 : Int32)) at_204 rfl rfl ?_
                        refine own_iload M X268 at_205 rfl rfl ?_
                        refine own_iadd M X268 at_207 rfl ?_
                        refine own_baload M X268 V264 (i := (2 + k)) (own_sum (by decide : (2 : Int32).toInt = (2 : Nat)) hk (by omega)) (by omega) (congrArg Value.int ((own_updI_ne (by omega)).trans ((own_updI_ne (by omega)).trans ((own_updI_ne (by omega)).trans ((own_updI_ne (by omega)).trans ((own_updI_ne (by omega)).trans ((own_updI_ne (by omega)).trans ((own_updI_ne (by omega)).trans ((own_updI_ne (by omega)).trans ((own_W_at (i := (k - 1)) (by omega) (by omega)).trans ((own_updI_at rfl).trans (own_bb _)))))))))))) at_208 rfl ?_
                        refine own_iload M X268 at_209 rfl rfl ?_
                        refine own_icmp_ne M X268 at_211 (by decide) rfl rfl (fun q280 => ?_) (fun q280 => ?_)
                        · exact absurd rfl q280
                        · skip
                          refine own_iconst M X268 (v := (1 : Int32)) at_214 rfl rfl ?_
                          refine own_goto M X268 at_215 (by decide) rfl ?_
                          refine own_istore M X268 (L' := #[.val (.int x0), .val (.int x1), .val (.long x2), .second, .val (.int x3), .val (.int (x3 &&& (511 : Int32))), .val (.ref a3), .val (.int (((x1.toUInt32 >>> ((16 : Int32) &&& 31).toUInt32).toInt32).toInt8.toInt32)), .val (.int (((x0.toUInt32 >>> ((8 : Int32) &&& 31).toUInt32).toInt32).toInt8.toInt32)), .val (.ref a172), .val (.ref r194), .val (.ref r260), .val (.int (1 : Int32)), .unset, .unset]) at_219 rfl rfl ?_
                          refine own_iload M X268 at_221 rfl rfl ?_
                          refine own_iconst M X268 (v := (3 : Int32)) at_223 rfl rfl ?_
                          refine own_icmp_lt M X268 at_224 (by decide) rfl rfl (fun q281 => ?_) (fun q281 => ?_)
                          · skip
                            refine own_iconst M X268 (v := (3 : Int32)) at_251 rfl rfl ?_
                            refine own_iload M X268 at_252 rfl rfl ?_
                            refine own_iadd M X268 at_254 rfl ?_
                            refine own_istore M X268 (L' := #[.val (.int x0), .val (.int x1), .val (.long x2), .second, .val (.int x3), .val (.int (x3 &&& (511 : Int32))), .val (.ref a3), .val (.int (((x1.toUInt32 >>> ((16 : Int32) &&& 31).toUInt32).toInt32).toInt8.toInt32)), .val (.int (((x0.toUInt32 >>> ((8 : Int32) &&& 31).toUInt32).toInt32).toInt8.toInt32)), .val (.ref a172), .val (.ref r194), .val (.ref r260), .val (.int (1 : Int32)), .val (.int ((3 : Int32) + (x3 &&& (511 : Int32)))), .unset]) at_255 rfl rfl ?_
                            refine own_iload M X268 at_257 rfl rfl ?_
                            refine own_if_eq M X268 at_259 (by decide) rfl rfl (fun q282 => ?_) (fun q282 => ?_)
                            · exact absurd q282 (by decide)
                            · skip
                              refine own_aload M X268 at_262 rfl rfl rfl ?_
                              refine own_iload M X268 at_264 rfl rfl ?_
                              refine own_baload M X268 V264 (i := (3 + k)) (own_sum (by decide : (3 : Int32).toInt = (3 : Nat)) hk (by omega)) (by omega) (congrArg Value.int ((own_updI_ne (by omega)).trans ((own_updI_ne (by omega)).trans ((own_updI_ne (by omega)).trans ((own_updI_ne (by omega)).trans ((own_updI_ne (by omega)).trans ((own_updI_ne (by omega)).trans ((own_updI_ne (by omega)).trans ((own_updI_at (by omega)).trans (own_L56 x2)))))))))) at_266 rfl ?_
                              refine own_lloadN M X268 at_267 rfl rfl ?_
                              refine own_bipush M X268 (v := (56 : Int32)) at_268 rfl rfl ?_
                              refine own_lushr M X268 at_270 rfl ?_
                              refine own_l2i M X268 at_271 rfl ?_
                              refine own_i2b M X268 at_272 rfl ?_
                              refine own_icmp_ne M X268 at_273 (by decide) rfl rfl (fun q283 => ?_) (fun q283 => ?_)
                              · exact absurd rfl q283
                              · skip
                                refine own_aload M X268 at_276 rfl rfl rfl ?_
                                refine own_iload M X268 at_278 rfl rfl ?_
                                refine own_iconst M X268 (v := (1 : Int32)) at_280 rfl rfl ?_
                                refine own_iadd M X268 at_281 rfl ?_
                                refine own_baload M X268 V264 (i := (3 + k + 1)) (own_sum (own_sum (by decide : (3 : Int32).toInt = (3 : Nat)) hk (by omega)) (by decide : (1 : Int32).toInt = (1 : Nat)) (by omega)) (by omega) (congrArg Value.int ((own_updI_ne (by omega)).trans ((own_updI_ne (by omega)).trans ((own_updI_ne (by omega)).trans ((own_updI_ne (by omega)).trans ((own_updI_ne (by omega)).trans ((own_updI_ne (by omega)).trans ((own_updI_at (by omega)).trans (own_L48 x2))))))))) at_282 rfl ?_
                                refine own_lloadN M X268 at_283 rfl rfl ?_
                                refine own_bipush M X268 (v := (48 : Int32)) at_284 rfl rfl ?_
                                refine own_lushr M X268 at_286 rfl ?_
                                refine own_l2i M X268 at_287 rfl ?_
                                refine own_i2b M X268 at_288 rfl ?_
                                refine own_icmp_ne M X268 at_289 (by decide) rfl rfl (fun q284 => ?_) (fun q284 => ?_)
                                · exact absurd rfl q284
                                · skip
                                  refine own_aload M X268 at_292 rfl rfl rfl ?_
                                  refine own_iload M X268 at_294 rfl rfl ?_
                                  refine own_iconst M X268 (v := (2 : Int32)) at_296 rfl rfl ?_
                                  refine own_iadd M X268 at_297 rfl ?_
                                  refine own_baload M X268 V264 (i := (3 + k + 2)) (own_sum (own_sum (by decide : (3 : Int32).toInt = (3 : Nat)) hk (by omega)) (by decide : (2 : Int32).toInt = (2 : Nat)) (by omega)) (by omega) (congrArg Value.int ((own_updI_ne (by omega)).trans ((own_updI_ne (by omega)).trans ((own_updI_ne (by omega)).trans ((own_updI_ne (by omega)).trans ((own_updI_ne (by omega)).trans ((own_updI_at (by omega)).trans (own_L40 x2)))))))) at_298 rfl ?_
                                  refine own_lloadN M X268 at_299 rfl rfl ?_
                                  refine own_bipush M X268 (v := (40 : Int32)) at_300 rfl rfl ?_
                                  refine own_lushr M X268 at_302 rfl ?_
                                  refine own_l2i M X268 at_303 rfl ?_
                                  refine own_i2b M X268 at_304 rfl ?_
                                  refine own_icmp_ne M X268 at_305 (by decide) rfl rfl (fun q285 => ?_) (fun q285 => ?_)
                                  · exact absurd rfl q285
                                  · skip
                                    refine own_aload M X268 at_308 rfl rfl rfl ?_
                                    refine own_iload M X268 at_310 rfl rfl ?_
                                    refine own_iconst M X268 (v := (3 : Int32)) at_312 rfl rfl ?_
                                    refine own_iadd M X268 at_313 rfl ?_
                                    refine own_baload M X268 V264 (i := (3 + k + 3)) (own_sum (own_sum (by decide : (3 : Int32).toInt = (3 : Nat)) hk (by omega)) (by decide : (3 : Int32).toInt = (3 : Nat)) (by omega)) (by omega) (congrArg Value.int ((own_updI_ne (by omega)).trans ((own_updI_ne (by omega)).trans ((own_updI_ne (by omega)).trans ((own_updI_ne (by omega)).trans ((own_updI_at (by omega)).trans (own_L32 x2))))))) at_314 rfl ?_
                                    refine own_lloadN M X268 at_315 rfl rfl ?_
                                    refine own_bipush M X268 (v := (32 : Int32)) at_316 rfl rfl ?_
                                    refine own_lushr M X268 at_318 rfl ?_
                                    refine own_l2i M X268 at_319 rfl ?_
                                    refine own_i2b M X268 at_320 rfl ?_
                                    refine own_icmp_ne M X268 at_321 (by decide) rfl rfl (fun q286 => ?_) (fun q286 => ?_)
                                    · exact absurd rfl q286
                                    · skip
                                      refine own_aload M X268 at_324 rfl rfl rfl ?_
                                      refine own_iload M X268 at_326 rfl rfl ?_
                                      refine own_iconst M X268 (v := (4 : Int32)) at_328 rfl rfl ?_
                                      refine own_iadd M X268 at_329 rfl ?_
                                      refine own_baload M X268 V264 (i := (3 + k + 4)) (own_sum (own_sum (by decide : (3 : Int32).toInt = (3 : Nat)) hk (by omega)) (by decide : (4 : Int32).toInt = (4 : Nat)) (by omega)) (by omega) (congrArg Value.int ((own_updI_ne (by omega)).trans ((own_updI_ne (by omega)).trans ((own_updI_ne (by omega)).trans ((own_updI_at (by omega)).trans (own_L24 x2)))))) at_330 rfl ?_
                                      refine own_lloadN M X268 at_331 rfl rfl ?_
                                      refine own_bipush M X268 (v := (24 : Int32)) at_332 rfl rfl ?_
                                      refine own_lushr M X268 at_334 rfl ?_
                                      refine own_l2i M X268 at_335 rfl ?_
                                      refine own_i2b M X268 at_336 rfl ?_
                                      refine own_icmp_ne M X268 at_337 (by decide) rfl rfl (fun q287 => ?_) (fun q287 => ?_)
                                      · exact absurd rfl q287
                                      · skip
                                        refine own_aload M X268 at_340 rfl rfl rfl ?_
                                        refine own_iload M X268 at_342 rfl rfl ?_
                                        refine own_iconst M X268 (v := (5 : Int32)) at_344 rfl rfl ?_
                                        refine own_iadd M X268 at_345 rfl ?_
                                        refine own_baload M X268 V264 (i := (3 + k + 5)) (own_sum (own_sum (by decide : (3 : Int32).toInt = (3 : Nat)) hk (by omega)) (by decide : (5 : Int32).toInt = (5 : Nat)) (by omega)) (by omega) (congrArg Value.int ((own_updI_ne (by omega)).trans ((own_updI_ne (by omega)).trans ((own_updI_at (by omega)).trans (own_L16 x2))))) at_346 rfl ?_
                                        refine own_lloadN M X268 at_347 rfl rfl ?_
                                        refine own_bipush M X268 (v := (16 : Int32)) at_348 rfl rfl ?_
                                        refine own_lushr M X268 at_350 rfl ?_
                                        refine own_l2i M X268 at_351 rfl ?_
                                        refine own_i2b M X268 at_352 rfl ?_
                                        refine own_icmp_ne M X268 at_353 (by decide) rfl rfl (fun q288 => ?_) (fun q288 => ?_)
                                        · exact absurd rfl q288
                                        · skip
                                          refine own_aload M X268 at_356 rfl rfl rfl ?_
                                          refine own_iload M X268 at_358 rfl rfl ?_
                                          refine own_bipush M X268 (v := (6 : Int32)) at_360 rfl rfl ?_
                                          refine own_iadd M X268 at_362 rfl ?_
                                          refine own_baload M X268 V264 (i := (3 + k + 6)) (own_sum (own_sum (by decide : (3 : Int32).toInt = (3 : Nat)) hk (by omega)) (by decide : (6 : Int32).toInt = (6 : Nat)) (by omega)) (by omega) (congrArg Value.int ((own_updI_ne (by omega)).trans ((own_updI_at (by omega)).trans (own_L8 x2)))) at_363 rfl ?_
                                          refine own_lloadN M X268 at_364 rfl rfl ?_
                                          refine own_bipush M X268 (v := (8 : Int32)) at_365 rfl rfl ?_
                                          refine own_lushr M X268 at_367 rfl ?_
                                          refine own_l2i M X268 at_368 rfl ?_
                                          refine own_i2b M X268 at_369 rfl ?_
                                          refine own_icmp_ne M X268 at_370 (by decide) rfl rfl (fun q289 => ?_) (fun q289 => ?_)
                                          · exact absurd rfl q289
                                          · skip
                                            refine own_aload M X268 at_373 rfl rfl rfl ?_
                                            refine own_iload M X268 at_375 rfl rfl ?_
                                            refine own_bipush M X268 (v := (7 : Int32)) at_377 rfl rfl ?_
                                            refine own_iadd M X268 at_379 rfl ?_
                                            refine own_baload M X268 V264 (i := (3 + k + 7)) (own_sum (own_sum (by decide : (3 : Int32).toInt = (3 : Nat)) hk (by omega)) (by decide : (7 : Int32).toInt = (7 : Nat)) (by omega)) (by omega) (congrArg Value.int ((own_updI_at (by omega)).trans (own_L0 x2))) at_380 rfl ?_
                                            refine own_lloadN M X268 at_381 rfl rfl ?_
                                            refine own_l2i M X268 at_382 rfl ?_
                                            refine own_i2b M X268 at_383 rfl ?_
                                            refine own_icmp_ne M X268 at_384 (by decide) rfl rfl (fun q290 => ?_) (fun q290 => ?_)
                                            · exact absurd rfl q290
                                            · skip
                                              refine own_iconst M X268 (v := (1 : Int32)) at_387 rfl rfl ?_
                                              refine own_goto M X268 at_388 (by decide) rfl ?_
                                              refine own_istore M X268 (L' := #[.val (.int x0), .val (.int x1), .val (.long x2), .second, .val (.int x3), .val (.int (x3 &&& (511 : Int32))), .val (.ref a3), .val (.int (((x1.toUInt32 >>> ((16 : Int32) &&& 31).toUInt32).toInt32).toInt8.toInt32)), .val (.int (((x0.toUInt32 >>> ((8 : Int32) &&& 31).toUInt32).toInt32).toInt8.toInt32)), .val (.ref a172), .val (.ref r194), .val (.ref r260), .val (.int (1 : Int32)), .val (.int ((3 : Int32) + (x3 &&& (511 : Int32)))), .unset]) at_392 rfl rfl ?_
                                              refine own_aload M X268 at_394 rfl rfl rfl ?_
                                              refine own_iconst M X268 (v := (0 : Int32)) at_396 rfl rfl ?_
                                              refine own_aload M X268 at_397 rfl rfl rfl ?_
                                              refine own_iconst M X268 (v := (0 : Int32)) at_399 rfl rfl ?_
                                              refine own_baload M X268 V264 (i := 0) (by decide) (by omega) (congrArg Value.int ((own_updI_ne (by omega)).trans ((own_updI_ne (by omega)).trans ((own_updI_ne (by omega)).trans ((own_updI_ne (by omega)).trans ((own_updI_ne (by omega)).trans ((own_updI_ne (by omega)).trans ((own_updI_ne (by omega)).trans ((own_updI_ne (by omega)).trans ((own_W_ne (by omega)).trans ((own_updI_ne (by omega)).trans ((own_updI_ne (by omega)).trans ((own_updI_at (by omega)).trans (own_bb _)))))))))))))) at_400 rfl ?_
                                              refine own_iconst M X268 (v := (-1 : Int32)) at_401 rfl rfl ?_
                                              refine own_ixor M X268 at_402 rfl ?_
                                              refine own_i2b M X268 at_403 rfl ?_
                                              refine own_bastore M X268 V264 ge261 (i := 0) (by decide) (by omega) at_404 rfl ?_
                                              intro T291 h292 X293 K294 V295
                                              replace V295 : own_Va Z h292 r260 .byte ((((0 + 1) + 2) + k) + 4 + 4) (fun j => .int ((own_updI (own_updI (own_updI (own_updI (own_updI (own_updI (own_updI (own_updI (own_updI (own_upW (own_updI (own_updI (own_updI (fun _ => 0) 0 ((x0.toInt8.toInt32).toInt8.toInt32)) (0 + 1) ((((x1.toUInt32 >>> ((8 : Int32) &&& 31).toUInt32).toInt32).toInt8.toInt32).toInt8.toInt32)) ((0 + 1) + 1) ((x1.toInt8.toInt32).toInt8.toInt32)) (own_updI (fun _ => 0) (k - 1) ((((x0.toUInt32 >>> ((8 : Int32) &&& 31).toUInt32).toInt32).toInt8.toInt32).toInt8.toInt32)) ((0 + 1) + 2) k) (((0 + 1) + 2) + k) (((((((x2.toUInt64 >>> ((32 : Int32) &&& 0x3f).toInt64.toUInt64).toInt64).toInt32).toUInt32 >>> ((24 : Int32) &&& 31).toUInt32).toInt32).toInt8.toInt32).toInt8.toInt32)) ((((0 + 1) + 2) + k) + 1) (((((((x2.toUInt64 >>> ((32 : Int32) &&& 0x3f).toInt64.toUInt64).toInt64).toInt32).toUInt32 >>> ((16 : Int32) &&& 31).toUInt32).toInt32).toInt8.toInt32).toInt8.toInt32)) ((((0 + 1) + 2) + k) + 2) (((((((x2.toUInt64 >>> ((32 : Int32) &&& 0x3f).toInt64.toUInt64).toInt64).toInt32).toUInt32 >>> ((8 : Int32) &&& 31).toUInt32).toInt32).toInt8.toInt32).toInt8.toInt32)) ((((0 + 1) + 2) + k) + 3) (((((x2.toUInt64 >>> ((32 : Int32) &&& 0x3f).toInt64.toUInt64).toInt64).toInt32).toInt8.toInt32).toInt8.toInt32)) ((((0 + 1) + 2) + k) + 4) (((((x2.toInt32).toUInt32 >>> ((24 : Int32) &&& 31).toUInt32).toInt32).toInt8.toInt32).toInt8.toInt32)) (((((0 + 1) + 2) + k) + 4) + 1) (((((x2.toInt32).toUInt32 >>> ((16 : Int32) &&& 31).toUInt32).toInt32).toInt8.toInt32).toInt8.toInt32)) (((((0 + 1) + 2) + k) + 4) + 2) (((((x2.toInt32).toUInt32 >>> ((8 : Int32) &&& 31).toUInt32).toInt32).toInt8.toInt32).toInt8.toInt32)) (((((0 + 1) + 2) + k) + 4) + 3) (((x2.toInt32).toInt8.toInt32).toInt8.toInt32)) 0 ((((x0.toInt8.toInt32) ^^^ (-1 : Int32)).toInt8.toInt32).toInt8.toInt32)) j)) := V295.congr (fun j _ => own_updIV (f := (own_updI (own_updI (own_updI (own_updI (own_updI (own_updI (own_updI (own_updI (own_upW (own_updI (own_updI (own_updI (fun _ => 0) 0 ((x0.toInt8.toInt32).toInt8.toInt32)) (0 + 1) ((((x1.toUInt32 >>> ((8 : Int32) &&& 31).toUInt32).toInt32).toInt8.toInt32).toInt8.toInt32)) ((0 + 1) + 1) ((x1.toInt8.toInt32).toInt8.toInt32)) (own_updI (fun _ => 0) (k - 1) ((((x0.toUInt32 >>> ((8 : Int32) &&& 31).toUInt32).toInt32).toInt8.toInt32).toInt8.toInt32)) ((0 + 1) + 2) k) (((0 + 1) + 2) + k) (((((((x2.toUInt64 >>> ((32 : Int32) &&& 0x3f).toInt64.toUInt64).toInt64).toInt32).toUInt32 >>> ((24 : Int32) &&& 31).toUInt32).toInt32).toInt8.toInt32).toInt8.toInt32)) ((((0 + 1) + 2) + k) + 1) (((((((x2.toUInt64 >>> ((32 : Int32) &&& 0x3f).toInt64.toUInt64).toInt64).toInt32).toUInt32 >>> ((16 : Int32) &&& 31).toUInt32).toInt32).toInt8.toInt32).toInt8.toInt32)) ((((0 + 1) + 2) + k) + 2) (((((((x2.toUInt64 >>> ((32 : Int32) &&& 0x3f).toInt64.toUInt64).toInt64).toInt32).toUInt32 >>> ((8 : Int32) &&& 31).toUInt32).toInt32).toInt8.toInt32).toInt8.toInt32)) ((((0 + 1) + 2) + k) + 3) (((((x2.toUInt64 >>> ((32 : Int32) &&& 0x3f).toInt64.toUInt64).toInt64).toInt32).toInt8.toInt32).toInt8.toInt32)) ((((0 + 1) + 2) + k) + 4) (((((x2.toInt32).toUInt32 >>> ((24 : Int32) &&& 31).toUInt32).toInt32).toInt8.toInt32).toInt8.toInt32)) (((((0 + 1) + 2) + k) + 4) + 1) (((((x2.toInt32).toUInt32 >>> ((16 : Int32) &&& 31).toUInt32).toInt32).toInt8.toInt32).toInt8.toInt32)) (((((0 + 1) + 2) + k) + 4) + 2) (((((x2.toInt32).toUInt32 >>> ((8 : Int32) &&& 31).toUInt32).toInt32).toInt8.toInt32).toInt8.toInt32)) (((((0 + 1) + 2) + k) + 4) + 3) (((x2.toInt32).toInt8.toInt32).toInt8.toInt32))))
                                              have E296 := E272.keep K294
                                              have B297 := B271.keep K294 (ninS ne269 nin0) (ninS ne270 nin0)
                                              refine own_aload M X293 at_405 rfl rfl rfl ?_
                                              refine own_iload M X293 at_407 rfl rfl ?_
                                              refine own_bipush M X293 (v := (7 : Int32)) at_409 rfl rfl ?_
                                              refine own_iadd M X293 at_411 rfl ?_
                                              refine own_aload M X293 at_412 rfl rfl rfl ?_
                                              refine own_iload M X293 at_414 rfl rfl ?_
                                              refine own_bipush M X293 (v := (7 : Int32)) at_416 rfl rfl ?_
                                              refine own_iadd M X293 at_418 rfl ?_
                                              refine own_baload M X293 V295 (i := (3 + k + 7)) (own_sum (own_sum (by decide : (3 : Int32).toInt = (3 : Nat)) hk (by omega)) (by decide : (7 : Int32).toInt = (7 : Nat)) (by omega)) (by omega) (congrArg Value.int ((own_updI_ne (by omega)).trans ((own_updI_at (by omega)).trans (own_L0 x2)))) at_419 rfl ?_
                                              refine own_iconst M X293 (v := (1 : Int32)) at_420 rfl rfl ?_
                                              refine own_ixor M X293 at_421 rfl ?_
                                              refine own_i2b M X293 at_422 rfl ?_
                                              refine own_bastore M X293 V295 ge261 (i := (3 + k + 7)) (own_sum (own_sum (by decide : (3 : Int32).toInt = (3 : Nat)) hk (by omega)) (by decide : (7 : Int32).toInt = (7 : Nat)) (by omega)) (by omega) at_423 rfl ?_
                                              intro T298 h299 X300 K301 V302
                                              replace V302 : own_Va Z h299 r260 .byte ((((0 + 1) + 2) + k) + 4 + 4) (fun j => .int ((own_updI (own_updI (own_updI (own_updI (own_updI (own_updI (own_updI (own_updI (own_updI (own_updI (own_upW (own_updI (own_updI (own_updI (fun _ => 0) 0 ((x0.toInt8.toInt32).toInt8.toInt32)) (0 + 1) ((((x1.toUInt32 >>> ((8 : Int32) &&& 31).toUInt32).toInt32).toInt8.toInt32).toInt8.toInt32)) ((0 + 1) + 1) ((x1.toInt8.toInt32).toInt8.toInt32)) (own_updI (fun _ => 0) (k - 1) ((((x0.toUInt32 >>> ((8 : Int32) &&& 31).toUInt32).toInt32).toInt8.toInt32).toInt8.toInt32)) ((0 + 1) + 2) k) (((0 + 1) + 2) + k) (((((((x2.toUInt64 >>> ((32 : Int32) &&& 0x3f).toInt64.toUInt64).toInt64).toInt32).toUInt32 >>> ((24 : Int32) &&& 31).toUInt32).toInt32).toInt8.toInt32).toInt8.toInt32)) ((((0 + 1) + 2) + k) + 1) (((((((x2.toUInt64 >>> ((32 : Int32) &&& 0x3f).toInt64.toUInt64).toInt64).toInt32).toUInt32 >>> ((16 : Int32) &&& 31).toUInt32).toInt32).toInt8.toInt32).toInt8.toInt32)) ((((0 + 1) + 2) + k) + 2) (((((((x2.toUInt64 >>> ((32 : Int32) &&& 0x3f).toInt64.toUInt64).toInt64).toInt32).toUInt32 >>> ((8 : Int32) &&& 31).toUInt32).toInt32).toInt8.toInt32).toInt8.toInt32)) ((((0 + 1) + 2) + k) + 3) (((((x2.toUInt64 >>> ((32 : Int32) &&& 0x3f).toInt64.toUInt64).toInt64).toInt32).toInt8.toInt32).toInt8.toInt32)) ((((0 + 1) + 2) + k) + 4) (((((x2.toInt32).toUInt32 >>> ((24 : Int32) &&& 31).toUInt32).toInt32).toInt8.toInt32).toInt8.toInt32)) (((((0 + 1) + 2) + k) + 4) + 1) (((((x2.toInt32).toUInt32 >>> ((16 : Int32) &&& 31).toUInt32).toInt32).toInt8.toInt32).toInt8.toInt32)) (((((0 + 1) + 2) + k) + 4) + 2) (((((x2.toInt32).toUInt32 >>> ((8 : Int32) &&& 31).toUInt32).toInt32).toInt8.toInt32).toInt8.toInt32)) (((((0 + 1) + 2) + k) + 4) + 3) (((x2.toInt32).toInt8.toInt32).toInt8.toInt32)) 0 ((((x0.toInt8.toInt32) ^^^ (-1 : Int32)).toInt8.toInt32).toInt8.toInt32)) (3 + k + 7) (((((x2.toInt32).toInt8.toInt32) ^^^ (1 : Int32)).toInt8.toInt32).toInt8.toInt32)) j)) := V302.congr (fun j _ => own_updIV (f := (own_updI (own_updI (own_updI (own_updI (own_updI (own_updI (own_updI (own_updI (own_updI (own_upW (own_updI (own_updI (own_updI (fun _ => 0) 0 ((x0.toInt8.toInt32).toInt8.toInt32)) (0 + 1) ((((x1.toUInt32 >>> ((8 : Int32) &&& 31).toUInt32).toInt32).toInt8.toInt32).toInt8.toInt32)) ((0 + 1) + 1) ((x1.toInt8.toInt32).toInt8.toInt32)) (own_updI (fun _ => 0) (k - 1) ((((x0.toUInt32 >>> ((8 : Int32) &&& 31).toUInt32).toInt32).toInt8.toInt32).toInt8.toInt32)) ((0 + 1) + 2) k) (((0 + 1) + 2) + k) (((((((x2.toUInt64 >>> ((32 : Int32) &&& 0x3f).toInt64.toUInt64).toInt64).toInt32).toUInt32 >>> ((24 : Int32) &&& 31).toUInt32).toInt32).toInt8.toInt32).toInt8.toInt32)) ((((0 + 1) + 2) + k) + 1) (((((((x2.toUInt64 >>> ((32 : Int32) &&& 0x3f).toInt64.toUInt64).toInt64).toInt32).toUInt32 >>> ((16 : Int32) &&& 31).toUInt32).toInt32).toInt8.toInt32).toInt8.toInt32)) ((((0 + 1) + 2) + k) + 2) (((((((x2.toUInt64 >>> ((32 : Int32) &&& 0x3f).toInt64.toUInt64).toInt64).toInt32).toUInt32 >>> ((8 : Int32) &&& 31).toUInt32).toInt32).toInt8.toInt32).toInt8.toInt32)) ((((0 + 1) + 2) + k) + 3) (((((x2.toUInt64 >>> ((32 : Int32) &&& 0x3f).toInt64.toUInt64).toInt64).toInt32).toInt8.toInt32).toInt8.toInt32)) ((((0 + 1) + 2) + k) + 4) (((((x2.toInt32).toUInt32 >>> ((24 : Int32) &&& 31).toUInt32).toInt32).toInt8.toInt32).toInt8.toInt32)) (((((0 + 1) + 2) + k) + 4) + 1) (((((x2.toInt32).toUInt32 >>> ((16 : Int32) &&& 31).toUInt32).toInt32).toInt8.toInt32).toInt8.toInt32)) (((((0 + 1) + 2) + k) + 4) + 2) (((((x2.toInt32).toUInt32 >>> ((8 : Int32) &&& 31).toUInt32).toInt32).toInt8.toInt32).toInt8.toInt32)) (((((0 + 1) + 2) + k) + 4) + 3) (((x2.toInt32).toInt8.toInt32).toInt8.toInt32)) 0 ((((x0.toInt8.toInt32) ^^^ (-1 : Int32)).toInt8.toInt32).toInt8.toInt32))))
                                              have E303 := E296.keep K301
                                              have B304 := B297.keep K301 (ninS ne269 nin0) (ninS ne270 nin0)
                                              refine own_aload M X300 at_424 rfl rfl rfl ?_
                                              have ltB := B304.lt
                                              refine own_callV M X300 (yrm := ({ frames := 2, cells := 1, slots := 522, locals := 34 } : Room)) [] (hw _ (List.mem_of_getElem? (i := 12) rfl)) (hw _ (List.mem_of_getElem? (i := 14) rfl)) (hw _ (List.mem_of_getElem? (i := 13) rfl)) (hw _ (List.mem_of_getElem? (i := 15) rfl)) (hw _ (List.mem_of_getElem? (i := 3) rfl)) (hw _ (List.mem_of_getElem? (i := 16) rfl)) (by decide) E303 (met_3 _ Z a0 hw h299 n0 X300.size a172 b249 n250 ((((0 + 1) + 2) + k) + 4 + 4) 522 (own_updI (own_updI (own_updI (own_updI (own_updI (own_updI (own_updI (own_updI (own_upW (own_updI (own_updI (own_updI (fun _ => 0) 0 ((x0.toInt8.toInt32).toInt8.toInt32)) (0 + 1) ((((x1.toUInt32 >>> ((8 : Int32) &&& 31).toUInt32).toInt32).toInt8.toInt32).toInt8.toInt32)) ((0 + 1) + 1) ((x1.toInt8.toInt32).toInt8.toInt32)) (own_updI (fun _ => 0) (k - 1) ((((x0.toUInt32 >>> ((8 : Int32) &&& 31).toUInt32).toInt32).toInt8.toInt32).toInt8.toInt32)) ((0 + 1) + 2) k) (((0 + 1) + 2) + k) (((((((x2.toUInt64 >>> ((32 : Int32) &&& 0x3f).toInt64.toUInt64).toInt64).toInt32).toUInt32 >>> ((24 : Int32) &&& 31).toUInt32).toInt32).toInt8.toInt32).toInt8.toInt32)) ((((0 + 1) + 2) + k) + 1) (((((((x2.toUInt64 >>> ((32 : Int32) &&& 0x3f).toInt64.toUInt64).toInt64).toInt32).toUInt32 >>> ((16 : Int32) &&& 31).toUInt32).toInt32).toInt8.toInt32).toInt8.toInt32)) ((((0 + 1) + 2) + k) + 2) (((((((x2.toUInt64 >>> ((32 : Int32) &&& 0x3f).toInt64.toUInt64).toInt64).toInt32).toUInt32 >>> ((8 : Int32) &&& 31).toUInt32).toInt32).toInt8.toInt32).toInt8.toInt32)) ((((0 + 1) + 2) + k) + 3) (((((x2.toUInt64 >>> ((32 : Int32) &&& 0x3f).toInt64.toUInt64).toInt64).toInt32).toInt8.toInt32).toInt8.toInt32)) ((((0 + 1) + 2) + k) + 4) (((((x2.toInt32).toUInt32 >>> ((24 : Int32) &&& 31).toUInt32).toInt32).toInt8.toInt32).toInt8.toInt32)) (((((0 + 1) + 2) + k) + 4) + 1) (((((x2.toInt32).toUInt32 >>> ((16 : Int32) &&& 31).toUInt32).toInt32).toInt8.toInt32).toInt8.toInt32)) (((((0 + 1) + 2) + k) + 4) + 2) (((((x2.toInt32).toUInt32 >>> ((8 : Int32) &&& 31).toUInt32).toInt32).toInt8.toInt32).toInt8.toInt32)) (((((0 + 1) + 2) + k) + 4) + 3) (((x2.toInt32).toInt8.toInt32).toInt8.toInt32)) B304 (by omega) (by decide)) rfl at_426 rfl own_pd4 rfl rfl 0 (Nat.le_of_eq rfl) (by decide) (by decide) (by decide) (by decide) ?_
                                              rintro T310 h311 v312 X313 ⟨r305, rfl, ge306, sz307, K308, V309⟩
                                              have ne314 : r260 ≠ r305 := Nat.ne_of_lt (Nat.lt_of_lt_of_le V302.lt sz307)
                                              have V315 := V302.keep K308 nin0
                                              have ne316 : a172 ≠ r305 := Nat.ne_of_lt (Nat.lt_of_lt_of_le ltB.1 sz307)
                                              have ne317 : b249 ≠ r305 := Nat.ne_of_lt (Nat.lt_of_lt_of_le ltB.2 sz307)
                                              have B318 := B304.keep K308 nin0 nin0
                                              have E319 := B318.1
                                              replace X313 : own_Sx n0 K T310 h311 11 4419 := X313
                                              show own_Fin n0 K _ T310 429 #[.val (.int x0), .val (.int x1), .val (.long x2), .second, .val (.int x3), .val (.int (x3 &&& (511 : Int32))), .val (.ref a3), .val (.int (((x1.toUInt32 >>> ((16 : Int32) &&& 31).toUInt32).toInt32).toInt8.toInt32)), .val (.int (((x0.toUInt32 >>> ((8 : Int32) &&& 31).toUInt32).toInt32).toInt8.toInt32)), .val (.ref a172), .val (.ref r194), .val (.ref r260), .val (.int (1 : Int32)), .val (.int ((3 : Int32) + (x3 &&& (511 : Int32)))), .unset] [(.ref r305)]
                                              refine own_astore M X313 (L' := #[.val (.int x0), .val (.int x1), .val (.long x2), .second, .val (.int x3), .val (.int (x3 &&& (511 : Int32))), .val (.ref a3), .val (.int (((x1.toUInt32 >>> ((16 : Int32) &&& 31).toUInt32).toInt32).toInt8.toInt32)), .val (.int (((x0.toUInt32 >>> ((8 : Int32) &&& 31).toUInt32).toInt32).toInt8.toInt32)), .val (.ref a172), .val (.ref r194), .val (.ref r260), .val (.int (1 : Int32)), .val (.int ((3 : Int32) + (x3 &&& (511 : Int32)))), .val (.ref r305)]) at_429 rfl rfl rfl ?_
                                              refine own_iload M X313 at_431 rfl rfl ?_
                                              refine own_if_eq M X313 at_433 (by decide) rfl rfl (fun q320 => ?_) (fun q320 => ?_)
                                              · exact absurd q320 (by decide)
                                              · skip
                                                refine own_aload M X313 at_436 rfl rfl rfl ?_
                                                refine own_arraylength M X313 (z := (Int32.ofNat (0 + 1 + 2 + k + 8))) V309 ((own_ofn (by omega)).trans (by omega)) at_438 rfl ?_
                                                refine own_bipush M X313 (v := (11 : Int32)) at_439 rfl rfl ?_
                                                refine own_iload M X313 at_441 rfl rfl ?_
                                                refine own_iadd M X313 at_443 rfl ?_
                                                refine own_icmp_ne M X313 at_444 (by decide) rfl rfl (fun q321 => ?_) (fun q321 => ?_)
                                                · exact absurd q273 q321
                                                · skip
                                                  refine own_aload M X313 at_447 rfl rfl rfl ?_
                                                  refine own_iconst M X313 (v := (0 : Int32)) at_449 rfl rfl ?_
                                                  refine own_baload M X313 V309 (i := 0) (by decide) (by omega) (congrArg Value.int ((own_updI_ne (by omega)).trans ((own_updI_ne (by omega)).trans ((own_updI_ne (by omega)).trans ((own_updI_ne (by omega)).trans ((own_updI_ne (by omega)).trans ((own_updI_ne (by omega)).trans ((own_updI_ne (by omega)).trans ((own_updI_ne (by omega)).trans ((own_W_ne (by omega)).trans ((own_updI_ne (by omega)).trans ((own_updI_ne (by omega)).trans ((own_updI_at (by omega)).trans (own_bb _)))))))))))))) at_450 rfl ?_
                                                  refine own_iloadN M X313 at_451 rfl rfl ?_
                                                  refine own_i2b M X313 at_452 rfl ?_
                                                  refine own_icmp_ne M X313 at_453 (by decide) rfl rfl (fun q322 => ?_) (fun q322 => ?_)
                                                  · exact absurd rfl q322
                                                  · skip
                                                    refine own_aload M X313 at_456 rfl rfl rfl ?_
                                                    refine own_iload M X313 at_458 rfl rfl ?_
                                                    refine own_bipush M X313 (v := (7 : Int32)) at_460 rfl rfl ?_
                                                    refine own_iadd M X313 at_462 rfl ?_
                                                    refine own_baload M X313 V309 (i := (3 + k + 7)) (own_sum (own_sum (by decide : (3 : Int32).toInt = (3 : Nat)) hk (by omega)) (by decide : (7 : Int32).toInt = (7 : Nat)) (by omega)) (by omega) (congrArg Value.int ((own_updI_at (by omega)).trans (own_L0 x2))) at_463 rfl ?_
                                                    refine own_lloadN M X313 at_464 rfl rfl ?_
                                                    refine own_l2i M X313 at_465 rfl ?_
                                                    refine own_i2b M X313 at_466 rfl ?_
                                                    refine own_icmp_ne M X313 at_467 (by decide) rfl rfl (fun q323 => ?_) (fun q323 => ?_)
                                                    · exact absurd rfl q323
                                                    · skip
                                                      refine own_iconst M X313 (v := (1 : Int32)) at_470 rfl rfl ?_
                                                      refine own_goto M X313 at_471 (by decide) rfl ?_
                                                      refine own_istore M X313 (L' := #[.val (.int x0), .val (.int x1), .val (.long x2), .second, .val (.int x3), .val (.int (x3 &&& (511 : Int32))), .val (.ref a3), .val (.int (((x1.toUInt32 >>> ((16 : Int32) &&& 31).toUInt32).toInt32).toInt8.toInt32)), .val (.int (((x0.toUInt32 >>> ((8 : Int32) &&& 31).toUInt32).toInt32).toInt8.toInt32)), .val (.ref a172), .val (.ref r194), .val (.ref r260), .val (.int (1 : Int32)), .val (.int ((3 : Int32) + (x3 &&& (511 : Int32)))), .val (.ref r305)]) at_475 rfl rfl ?_
                                                      refine own_iload M X313 at_477 rfl rfl ?_
                                                      exact own_retN M X313 (z' := (1 : Int32)) (by simp) at_479 rfl rfl
                          · exact absurd c3 q281
                  · exact absurd c2 q277
          · skip
            exact absurd (own_n11 hk hk2) q273
        · exact absurd (by decide) q209
    · exact absurd c2 q163
  · skip
    refine own_iconst M X6 (v := (2 : Int32)) at_30 rfl rfl ?_
    refine own_icmp_lt M X6 at_31 (by decide) rfl rfl (fun q324 => ?_) (fun q324 => ?_)
    · exact absurd q324 c2
    · skip
      refine own_aload M X6 at_34 rfl rfl rfl ?_
      refine own_iconst M X6 (v := (0 : Int32)) at_36 rfl rfl ?_
      refine own_iload M X6 at_37 rfl rfl ?_
      refine own_bastore M X6 V8 ge4 (i := 0) (by decide) (by omega) at_39 rfl ?_
      intro T325 h326 X327 K328 V329
      replace V329 : own_Va Z h326 a3 .byte k (fun j => .int ((own_updI (fun _ => 0) 0 ((((x1.toUInt32 >>> ((16 : Int32) &&& 31).toUInt32).toInt32).toInt8.toInt32).toInt8.toInt32)) j)) := V329.congr (fun j _ => own_updIV (f := (fun _ => 0)))
      refine own_iload M X327 at_40 rfl rfl ?_
      refine own_iconst M X327 (v := (1 : Int32)) at_42 rfl rfl ?_
      refine own_icmp_lt M X327 at_43 (by decide) rfl rfl (fun q330 => ?_) (fun q330 => ?_)
      · exact absurd q330 c1
      · skip
        refine own_aload M X327 at_46 rfl rfl rfl ?_
        refine own_iload M X327 at_48 rfl rfl ?_
        refine own_iconst M X327 (v := (1 : Int32)) at_50 rfl rfl ?_
        refine own_isub M X327 at_51 rfl ?_
        refine own_iload M X327 at_52 rfl rfl ?_
        refine own_bastore M X327 V329 ge4 (i := (k - 1)) (own_pred hk (by omega) hk2) (by omega) at_54 rfl ?_
        intro T331 h332 X333 K334 V335
        replace V335 : own_Va Z h332 a3 .byte k (fun j => .int ((own_updI (own_updI (fun _ => 0) 0 ((((x1.toUInt32 >>> ((16 : Int32) &&& 31).toUInt32).toInt32).toInt8.toInt32).toInt8.toInt32)) (k - 1) ((((x0.toUInt32 >>> ((8 : Int32) &&& 31).toUInt32).toInt32).toInt8.toInt32).toInt8.toInt32)) j)) := V335.congr (fun j _ => own_updIV (f := (own_updI (fun _ => 0) 0 ((((x1.toUInt32 >>> ((16 : Int32) &&& 31).toUInt32).toInt32).toInt8.toInt32).toInt8.toInt32))))
        refine own_new M X333 (hw _ (List.mem_of_getElem? (i := 1) rfl)) (hw _ (List.mem_of_getElem? (i := 2) rfl)) (hw _ (List.mem_of_getElem? (i := 3) rfl)) at_55 rfl (by decide) (by decide) ?_
        intro T336 h337 a338 ge339 gs340 X341 E342 A343 D344
        have ne345 : a3 ≠ a338 := Nat.ne_of_lt (Nat.lt_of_lt_of_le V335.lt gs340)
        have V346 := V335.ext E342
        have F347 : Fld Z h337 a338 "com/example/london_wall/londonwall/wire/Encoder" "bytes" "[B" .null := D344 (Or.inl (hw _ (List.mem_of_getElem? (i := 11) rfl))) (ty := (.array .byte)) (by decide)
        have F348 : Fld Z h337 a338 "com/example/london_wall/londonwall/wire/Encoder" "size" "I" (.int (0 : Int32)) := D344 (Or.inl (hw _ (List.mem_of_getElem? (i := 18) rfl))) (ty := .int) (by decide)
        refine own_dup M X341 at_58 rfl rfl ?_
        refine own_callN M X341 (yrm := ({ frames := 1, cells := 1, slots := 256, locals := 12 } : Room)) [] (hw _ (List.mem_of_getElem? (i := 4) rfl)) (hw _ (List.mem_of_getElem? (i := 5) rfl)) (hw _ (List.mem_of_getElem? (i := 3) rfl)) (hw _ (List.mem_of_getElem? (i := 6) rfl)) (by decide) rfl rfl (met_1 _ Z a0 hw h337 n0 X341.size a338 ge339 A343 F348 F347) rfl at_59 rfl own_pd3 rfl rfl 1 (Nat.le_of_eq rfl) (by decide) (by decide) (by decide) (by decide) ?_
        rintro T353 h354 v355 X356 ⟨rfl, b349, B350, sz351, K352⟩
        have ne357 : a3 ≠ b349 := Nat.ne_of_lt (Nat.lt_of_lt_of_le V346.lt sz351)
        have V358 := V346.keep K352 (ninS ne345 nin0)
        have E359 := B350.1
        replace X356 : own_Sx n0 K T353 h354 3 769 := X356
        show own_Fin n0 K _ T353 62 #[.val (.int x0), .val (.int x1), .val (.long x2), .second, .val (.int x3), .val (.int (x3 &&& (511 : Int32))), .val (.ref a3), .val (.int (((x1.toUInt32 >>> ((16 : Int32) &&& 31).toUInt32).toInt32).toInt8.toInt32)), .val (.int (((x0.toUInt32 >>> ((8 : Int32) &&& 31).toUInt32).toInt32).toInt8.toInt32)), .unset, .unset, .unset, .unset, .unset, .unset] [(.ref a338)]
        refine own_astore M X356 (L' := #[.val (.int x0), .val (.int x1), .val (.long x2), .second, .val (.int x3), .val (.int (x3 &&& (511 : Int32))), .val (.ref a3), .val (.int (((x1.toUInt32 >>> ((16 : Int32) &&& 31).toUInt32).toInt32).toInt8.toInt32)), .val (.int (((x0.toUInt32 >>> ((8 : Int32) &&& 31).toUInt32).toInt32).toInt8.toInt32)), .val (.ref a338), .unset, .unset, .unset, .unset, .unset]) at_62 rfl rfl rfl ?_
        refine own_aload M X356 at_64 rfl rfl rfl ?_
        have ltB := B350.lt
        refine own_callV M X356 (yrm := ({ frames := 2, cells := 1, slots := 0, locals := 34 } : Room)) [] (hw _ (List.mem_of_getElem? (i := 12) rfl)) (hw _ (List.mem_of_getElem? (i := 14) rfl)) (hw _ (List.mem_of_getElem? (i := 13) rfl)) (hw _ (List.mem_of_getElem? (i := 15) rfl)) (hw _ (List.mem_of_getElem? (i := 3) rfl)) (hw _ (List.mem_of_getElem? (i := 16) rfl)) (by decide) E359 (met_3 _ Z a0 hw h354 n0 X356.size a338 b349 256 0 0 (fun _ => 0) B350 (by omega) (by decide)) rfl at_66 rfl own_pd4 rfl rfl 0 (Nat.le_of_eq rfl) (by decide) (by decide) (by decide) (by decide) ?_
        rintro T365 h366 v367 X368 ⟨r360, rfl, ge361, sz362, K363, V364⟩
        have ne369 : a3 ≠ r360 := Nat.ne_of_lt (Nat.lt_of_lt_of_le V358.lt sz362)
        have V370 := V358.keep K363 nin0
        have ne371 : a338 ≠ r360 := Nat.ne_of_lt (Nat.lt_of_lt_of_le ltB.1 sz362)
        have ne372 : b349 ≠ r360 := Nat.ne_of_lt (Nat.lt_of_lt_of_le ltB.2 sz362)
        have B373 := B350.keep K363 nin0 nin0
        have E374 := B373.1
        replace X368 : own_Sx n0 K T365 h366 4 769 := X368
        show own_Fin n0 K _ T365 69 #[.val (.int x0), .val (.int x1), .val (.long x2), .second, .val (.int x3), .val (.int (x3 &&& (511 : Int32))), .val (.ref a3), .val (.int (((x1.toUInt32 >>> ((16 : Int32) &&& 31).toUInt32).toInt32).toInt8.toInt32)), .val (.int (((x0.toUInt32 >>> ((8 : Int32) &&& 31).toUInt32).toInt32).toInt8.toInt32)), .val (.ref a338), .unset, .unset, .unset, .unset, .unset] [(.ref r360)]
        refine own_astore M X368 (L' := #[.val (.int x0), .val (.int x1), .val (.long x2), .second, .val (.int x3), .val (.int (x3 &&& (511 : Int32))), .val (.ref a3), .val (.int (((x1.toUInt32 >>> ((16 : Int32) &&& 31).toUInt32).toInt32).toInt8.toInt32)), .val (.int (((x0.toUInt32 >>> ((8 : Int32) &&& 31).toUInt32).toInt32).toInt8.toInt32)), .val (.ref a338), .val (.ref r360), .unset, .unset, .unset, .unset]) at_69 rfl rfl rfl ?_
        refine own_aload M X368 at_71 rfl rfl rfl ?_
        refine own_arraylength M X368 (z := (0 : Int32)) V364 (by decide) at_73 rfl ?_
        refine own_if_eq M X368 at_74 (by decide) rfl rfl (fun q375 => ?_) (fun q375 => ?_)
        · skip
          refine own_aload M X368 at_79 rfl rfl rfl ?_
          refine own_iloadN M X368 at_81 rfl rfl ?_
          refine own_callV M X368 (yrm := ({ frames := 3, cells := 1, slots := 0, locals := 48 } : Room)) [(.int x0)] (hw _ (List.mem_of_getElem? (i := 31) rfl)) (hw _ (List.mem_of_getElem? (i := 33) rfl)) (hw _ (List.mem_of_getElem? (i := 32) rfl)) (hw _ (List.mem_of_getElem? (i := 34) rfl)) (hw _ (List.mem_of_getElem? (i := 3) rfl)) (hw _ (List.mem_of_getElem? (i := 35) rfl)) (by decide) E374 (met_6 _ Z a0 hw h366 n0 X368.size a338 x0 b349 256 0 0 (fun _ => 0) B373 ge339 (by omega) (by decide)) rfl at_82 rfl own_pd2 rfl rfl 0 (Nat.le_of_eq rfl) (by decide) (by decide) (by decide) (by decide) ?_
          rintro T382 h383 v384 X385 ⟨rfl, b376, n377, hn378, B379, K380, hb381⟩
          have ne386 : a3 ≠ b376 := hb381.elim (fun e => e ▸ ne357) (fun e => Nat.ne_of_lt (Nat.lt_of_lt_of_le V370.lt e))
          have V387 := V370.keep K380 (ninS ne345 (ninS ne357 nin0))
          replace hn378 : n377 ≤ 256 := by have := hn378; omega
          have E388 := B379.1
          replace X385 : own_Sx n0 K T382 h383 5 769 := X385
          show own_Fin n0 K _ T382 85 #[.val (.int x0), .val (.int x1), .val (.long x2), .second, .val (.int x3), .val (.int (x3 &&& (511 : Int32))), .val (.ref a3), .val (.int (((x1.toUInt32 >>> ((16 : Int32) &&& 31).toUInt32).toInt32).toInt8.toInt32)), .val (.int (((x0.toUInt32 >>> ((8 : Int32) &&& 31).toUInt32).toInt32).toInt8.toInt32)), .val (.ref a338), .val (.ref r360), .unset, .unset, .unset, .unset] []
          refine own_aload M X385 at_85 rfl rfl rfl ?_
          refine own_iloadN M X385 at_87 rfl rfl ?_
          refine own_callV M X385 (yrm := ({ frames := 3, cells := 1, slots := 4, locals := 48 } : Room)) [(.int x1)] (hw _ (List.mem_of_getElem? (i := 40) rfl)) (hw _ (List.mem_of_getElem? (i := 42) rfl)) (hw _ (List.mem_of_getElem? (i := 41) rfl)) (hw _ (List.mem_of_getElem? (i := 43) rfl)) (hw _ (List.mem_of_getElem? (i := 3) rfl)) (hw _ (List.mem_of_getElem? (i := 44) rfl)) (by decide) E388 (met_8 _ Z a0 hw h383 n0 X385.size a338 x1 b376 n377 (0 + 1) 4 (own_updI (fun _ => 0) 0 ((x0.toInt8.toInt32).toInt8.toInt32)) B379 ge339 (by omega) (by decide)) rfl at_88 rfl own_pd2 rfl rfl 0 (Nat.le_of_eq rfl) (by decide) (by decide) (by decide) (by decide) ?_
          rintro T395 h396 v397 X398 ⟨rfl, b389, n390, hn391, B392, K393, hb394⟩
          have ne399 : a3 ≠ b389 := hb394.elim (fun e => e ▸ ne386) (fun e => Nat.ne_of_lt (Nat.lt_of_lt_of_le V387.lt e))
          have V400 := V387.keep K393 (ninS ne345 (ninS ne386 nin0))
          replace hn391 : n390 ≤ 256 := by have := hn391; omega
          have E401 := B392.1
          replace X398 : own_Sx n0 K T395 h396 6 773 := X398
          show own_Fin n0 K _ T395 91 #[.val (.int x0), .val (.int x1), .val (.long x2), .second, .val (.int x3), .val (.int (x3 &&& (511 : Int32))), .val (.ref a3), .val (.int (((x1.toUInt32 >>> ((16 : Int32) &&& 31).toUInt32).toInt32).toInt8.toInt32)), .val (.int (((x0.toUInt32 >>> ((8 : Int32) &&& 31).toUInt32).toInt32).toInt8.toInt32)), .val (.ref a338), .val (.ref r360), .unset, .unset, .unset, .unset] []
          refine own_aload M X398 at_91 rfl rfl rfl ?_
          refine own_aload M X398 at_93 rfl rfl rfl ?_
          refine own_iconst M X398 (v := (0 : Int32)) at_95 rfl rfl ?_
          refine own_iload M X398 at_96 rfl rfl ?_
          refine own_callV M X398 (yrm := ({ frames := 3, cells := 1, slots := 514, locals := 48 } : Room)) [(.ref a3), (.int (0 : Int32)), (.int (x3 &&& (511 : Int32)))] (hw _ (List.mem_of_getElem? (i := 45) rfl)) (hw _ (List.mem_of_getElem? (i := 47) rfl)) (hw _ (List.mem_of_getElem? (i := 46) rfl)) (hw _ (List.mem_of_getElem? (i := 48) rfl)) (hw _ (List.mem_of_getElem? (i := 3) rfl)) (hw _ (List.mem_of_getElem? (i := 49) rfl)) (by decide) E401 (met_9 _ Z a0 hw h396 n0 X398.size a338 a3 0 (x3 &&& (511 : Int32)) b389 n390 ((0 + 1) + 2) k k 514 (own_updI (own_updI (own_updI (fun _ => 0) 0 ((x0.toInt8.toInt32).toInt8.toInt32)) (0 + 1) ((((x1.toUInt32 >>> ((8 : Int32) &&& 31).toUInt32).toInt32).toInt8.toInt32).toInt8.toInt32)) ((0 + 1) + 1) ((x1.toInt8.toInt32).toInt8.toInt32)) (own_updI (own_updI (fun _ => 0) 0 ((((x1.toUInt32 >>> ((16 : Int32) &&& 31).toUInt32).toInt32).toInt8.toInt32).toInt8.toInt32)) (k - 1) ((((x0.toUInt32 >>> ((8 : Int32) &&& 31).toUInt32).toInt32).toInt8.toInt32).toInt8.toInt32)) B392 ge339 V400 ne345 ne399 (by decide) hk (by omega) (by omega) (by omega) (by decide)) rfl at_98 rfl own_pd5 rfl rfl 0 (Nat.le_of_eq rfl) (by decide) (by decide) (by decide) (by decide) ?_
          rintro T408 h409 v410 X411 ⟨rfl, b402, n403, hn404, B405, K406, hb407⟩
          have ne412 : a3 ≠ b402 := hb407.elim (fun e => e ▸ ne399) (fun e => Nat.ne_of_lt (Nat.lt_of_lt_of_le V400.lt e))
          have V413 := V400.keep K406 (ninS ne345 (ninS ne399 nin0))
          replace hn404 : n403 ≤ 514 := by have := hn404; omega
          have E414 := B405.1
          replace X411 : own_Sx n0 K T408 h409 7 1287 := X411
          show own_Fin n0 K _ T408 101 #[.val (.int x0), .val (.int x1), .val (.long x2), .second, .val (.int x3), .val (.int (x3 &&& (511 : Int32))), .val (.ref a3), .val (.int (((x1.toUInt32 >>> ((16 : Int32) &&& 31).toUInt32).toInt32).toInt8.toInt32)), .val (.int (((x0.toUInt32 >>> ((8 : Int32) &&& 31).toUInt32).toInt32).toInt8.toInt32)), .val (.ref a338), .val (.ref r360), .unset, .unset, .unset, .unset] []
          refine own_aload M X411 at_101 rfl rfl rfl ?_
          refine own_lloadN M X411 at_103 rfl rfl ?_
          refine own_callV M X411 (yrm := ({ frames := 4, cells := 2, slots := 1044 + 1044, locals := 61 } : Room)) [(.long x2)] (hw _ (List.mem_of_getElem? (i := 51) rfl)) (hw _ (List.mem_of_getElem? (i := 53) rfl)) (hw _ (List.mem_of_getElem? (i := 52) rfl)) (hw _ (List.mem_of_getElem? (i := 54) rfl)) (hw _ (List.mem_of_getElem? (i := 3) rfl)) (hw _ (List.mem_of_getElem? (i := 55) rfl)) (by decide) E414 (met_10 _ Z a0 hw h409 n0 X411.size a338 x2 b402 n403 (((0 + 1) + 2) + k) 1044 (own_upW (own_updI (own_updI (own_updI (fun _ => 0) 0 ((x0.toInt8.toInt32).toInt8.toInt32)) (0 + 1) ((((x1.toUInt32 >>> ((8 : Int32) &&& 31).toUInt32).toInt32).toInt8.toInt32).toInt8.toInt32)) ((0 + 1) + 1) ((x1.toInt8.toInt32).toInt8.toInt32)) (own_updI (own_updI (fun _ => 0) 0 ((((x1.toUInt32 >>> ((16 : Int32) &&& 31).toUInt32).toInt32).toInt8.toInt32).toInt8.toInt32)) (k - 1) ((((x0.toUInt32 >>> ((8 : Int32) &&& 31).toUInt32).toInt32).toInt8.toInt32).toInt8.toInt32)) ((0 + 1) + 2) k) B405 ge339 (by omega) (fun n h1 h2 => by omega) (by decide)) rfl at_104 rfl own_pd6 rfl rfl 0 (Nat.le_of_eq rfl) (by decide) (by decide) (by decide) (by decide) ?_
          rintro T421 h422 v423 X424 ⟨rfl, b415, n416, hn417, B418, K419, hb420⟩
          replace hn417 : n416 ≤ 1044 := by have := hn417; omega
          have E425 := B418.1
          replace X424 : own_Sx n0 K T421 h422 9 3375 := X424
          show own_Fin n0 K _ T421 107 #[.val (.int x0), .val (.int x1), .val (.long x2), .second, .val (.int x3), .val (.int (x3 &&& (511 : Int32))), .val (.ref a3), .val (.int (((x1.toUInt32 >>> ((16 : Int32) &&& 31).toUInt32).toInt32).toInt8.toInt32)), .val (.int (((x0.toUInt32 >>> ((8 : Int32) &&& 31).toUInt32).toInt32).toInt8.toInt32)), .val (.ref a338), .val (.ref r360), .unset, .unset, .unset, .unset] []
          refine own_aload M X424 at_107 rfl rfl rfl ?_
          have ltB := B418.lt
          refine own_callV M X424 (yrm := ({ frames := 2, cells := 1, slots := 522, locals := 34 } : Room)) [] (hw _ (List.mem_of_getElem? (i := 12) rfl)) (hw _ (List.mem_of_getElem? (i := 14) rfl)) (hw _ (List.mem_of_getElem? (i := 13) rfl)) (hw _ (List.mem_of_getElem? (i := 15) rfl)) (hw _ (List.mem_of_getElem? (i := 3) rfl)) (hw _ (List.mem_of_getElem? (i := 16) rfl)) (by decide) E425 (met_3 _ Z a0 hw h422 n0 X424.size a338 b415 n416 ((((0 + 1) + 2) + k) + 4 + 4) 522 (own_updI (own_updI (own_updI (own_updI (own_updI (own_updI (own_updI (own_updI (own_upW (own_updI (own_updI (own_updI (fun _ => 0) 0 ((x0.toInt8.toInt32).toInt8.toInt32)) (0 + 1) ((((x1.toUInt32 >>> ((8 : Int32) &&& 31).toUInt32).toInt32).toInt8.toInt32).toInt8.toInt32)) ((0 + 1) + 1) ((x1.toInt8.toInt32).toInt8.toInt32)) (own_updI (own_updI (fun _ => 0) 0 ((((x1.toUInt32 >>> ((16 : Int32) &&& 31).toUInt32).toInt32).toInt8.toInt32).toInt8.toInt32)) (k - 1) ((((x0.toUInt32 >>> ((8 : Int32) &&& 31).toUInt32).toInt32).toInt8.toInt32).toInt8.toInt32)) ((0 + 1) + 2) k) (((0 + 1) + 2) + k) (((((((x2.toUInt64 >>> ((32 : Int32) &&& 0x3f).toInt64.toUInt64).toInt64).toInt32).toUInt32 >>> ((24 : Int32) &&& 31).toUInt32).toInt32).toInt8.toInt32).toInt8.toInt32)) ((((0 + 1) + 2) + k) + 1) (((((((x2.toUInt64 >>> ((32 : Int32) &&& 0x3f).toInt64.toUInt64).toInt64).toInt32).toUInt32 >>> ((16 : Int32) &&& 31).toUInt32).toInt32).toInt8.toInt32).toInt8.toInt32)) ((((0 + 1) + 2) + k) + 2) (((((((x2.toUInt64 >>> ((32 : Int32) &&& 0x3f).toInt64.toUInt64).toInt64).toInt32).toUInt32 >>> ((8 : Int32) &&& 31).toUInt32).toInt32).toInt8.toInt32).toInt8.toInt32)) ((((0 + 1) + 2) + k) + 3) (((((x2.toUInt64 >>> ((32 : Int32) &&& 0x3f).toInt64.toUInt64).toInt64).toInt32).toInt8.toInt32).toInt8.toInt32)) ((((0 + 1) + 2) + k) + 4) (((((x2.toInt32).toUInt32 >>> ((24 : Int32) &&& 31).toUInt32).toInt32).toInt8.toInt32).toInt8.toInt32)) (((((0 + 1) + 2) + k) + 4) + 1) (((((x2.toInt32).toUInt32 >>> ((16 : Int32) &&& 31).toUInt32).toInt32).toInt8.toInt32).toInt8.toInt32)) (((((0 + 1) + 2) + k) + 4) + 2) (((((x2.toInt32).toUInt32 >>> ((8 : Int32) &&& 31).toUInt32).toInt32).toInt8.toInt32).toInt8.toInt32)) (((((0 + 1) + 2) + k) + 4) + 3) (((x2.toInt32).toInt8.toInt32).toInt8.toInt32)) B418 (by omega) (by decide)) rfl at_109 rfl own_pd4 rfl rfl 0 (Nat.le_of_eq rfl) (by decide) (by decide) (by decide) (by decide) ?_
          rintro T431 h432 v433 X434 ⟨r426, rfl, ge427, sz428, K429, V430⟩
          have ne435 : a338 ≠ r426 := Nat.ne_of_lt (Nat.lt_of_lt_of_le ltB.1 sz428)
          have ne436 : b415 ≠ r426 := Nat.ne_of_lt (Nat.lt_of_lt_of_le ltB.2 sz428)
          have B437 := B418.keep K429 nin0 nin0
          have E438 := B437.1
          replace X434 : own_Sx n0 K T431 h432 10 3897 := X434
          show own_Fin n0 K _ T431 112 #[.val (.int x0), .val (.int x1), .val (.long x2), .second, .val (.int x3), .val (.int (x3 &&& (511 : Int32))), .val (.ref a3), .val (.int (((x1.toUInt32 >>> ((16 : Int32) &&& 31).toUInt32).toInt32).toInt8.toInt32)), .val (.int (((x0.toUInt32 >>> ((8 : Int32) &&& 31).toUInt32).toInt32).toInt8.toInt32)), .val (.ref a338), .val (.ref r360), .unset, .unset, .unset, .unset] [(.ref r426)]
          refine own_astore M X434 (L' := #[.val (.int x0), .val (.int x1), .val (.long x2), .second, .val (.int x3), .val (.int (x3 &&& (511 : Int32))), .val (.ref a3), .val (.int (((x1.toUInt32 >>> ((16 : Int32) &&& 31).toUInt32).toInt32).toInt8.toInt32)), .val (.int (((x0.toUInt32 >>> ((8 : Int32) &&& 31).toUInt32).toInt32).toInt8.toInt32)), .val (.ref a338), .val (.ref r360), .val (.ref r426), .unset, .unset, .unset]) at_112 rfl rfl rfl ?_
          refine own_aload M X434 at_114 rfl rfl rfl ?_
          refine own_arraylength M X434 (z := (Int32.ofNat (0 + 1 + 2 + k + 8))) V430 ((own_ofn (by omega)).trans (by omega)) at_116 rfl ?_
          refine own_bipush M X434 (v := (11 : Int32)) at_117 rfl rfl ?_
          refine own_iload M X434 at_119 rfl rfl ?_
          refine own_iadd M X434 at_121 rfl ?_
          refine own_icmp_eq M X434 at_122 (by decide) rfl rfl (fun q439 => ?_) (fun q439 => ?_)
          · skip
            refine own_aload M X434 at_127 rfl rfl rfl ?_
            refine own_iconst M X434 (v := (0 : Int32)) at_129 rfl rfl ?_
            refine own_baload M X434 V430 (i := 0) (by decide) (by omega) (congrArg Value.int ((own_updI_ne (by omega)).trans ((own_updI_ne (by omega)).trans ((own_updI_ne (by omega)).trans ((own_updI_ne (by omega)).trans ((own_updI_ne (by omega)).trans ((own_updI_ne (by omega)).trans ((own_updI_ne (by omega)).trans ((own_updI_ne (by omega)).trans ((own_W_ne (by omega)).trans ((own_updI_ne (by omega)).trans ((own_updI_ne (by omega)).trans ((own_updI_at (by omega)).trans (own_bb _)))))))))))))) at_130 rfl ?_
            refine own_iloadN M X434 at_131 rfl rfl ?_
            refine own_i2b M X434 at_132 rfl ?_
            refine own_icmp_ne M X434 at_133 (by decide) rfl rfl (fun q440 => ?_) (fun q440 => ?_)
            · exact absurd rfl q440
            · skip
              refine own_aload M X434 at_136 rfl rfl rfl ?_
              refine own_iconst M X434 (v := (1 : Int32)) at_138 rfl rfl ?_
              refine own_baload M X434 V430 (i := 1) (by decide) (by omega) (congrArg Value.int ((own_updI_ne (by omega)).trans ((own_updI_ne (by omega)).trans ((own_updI_ne (by omega)).trans ((own_updI_ne (by omega)).trans ((own_updI_ne (by omega)).trans ((own_updI_ne (by omega)).trans ((own_updI_ne (by omega)).trans ((own_updI_ne (by omega)).trans ((own_W_ne (by omega)).trans ((own_updI_ne (by omega)).trans ((own_updI_at (by omega)).trans (own_bb _))))))))))))) at_139 rfl ?_
              refine own_iloadN M X434 at_140 rfl rfl ?_
              refine own_bipush M X434 (v := (8 : Int32)) at_141 rfl rfl ?_
              refine own_iushr M X434 at_143 rfl ?_
              refine own_i2b M X434 at_144 rfl ?_
              refine own_icmp_ne M X434 at_145 (by decide) rfl rfl (fun q441 => ?_) (fun q441 => ?_)
              · exact absurd rfl q441
              · skip
                refine own_aload M X434 at_148 rfl rfl rfl ?_
                refine own_iconst M X434 (v := (2 : Int32)) at_150 rfl rfl ?_
                refine own_baload M X434 V430 (i := 2) (by decide) (by omega) (congrArg Value.int ((own_updI_ne (by omega)).trans ((own_updI_ne (by omega)).trans ((own_updI_ne (by omega)).trans ((own_updI_ne (by omega)).trans ((own_updI_ne (by omega)).trans ((own_updI_ne (by omega)).trans ((own_updI_ne (by omega)).trans ((own_updI_ne (by omega)).trans ((own_W_ne (by omega)).trans ((own_updI_at (by omega)).trans (own_bb _)))))))))))) at_151 rfl ?_
                refine own_iloadN M X434 at_152 rfl rfl ?_
                refine own_i2b M X434 at_153 rfl ?_
                refine own_icmp_ne M X434 at_154 (by decide) rfl rfl (fun q442 => ?_) (fun q442 => ?_)
                · exact absurd rfl q442
                · skip
                  refine own_iconst M X434 (v := (1 : Int32)) at_157 rfl rfl ?_
                  refine own_goto M X434 at_158 (by decide) rfl ?_
                  refine own_istore M X434 (L' := #[.val (.int x0), .val (.int x1), .val (.long x2), .second, .val (.int x3), .val (.int (x3 &&& (511 : Int32))), .val (.ref a3), .val (.int (((x1.toUInt32 >>> ((16 : Int32) &&& 31).toUInt32).toInt32).toInt8.toInt32)), .val (.int (((x0.toUInt32 >>> ((8 : Int32) &&& 31).toUInt32).toInt32).toInt8.toInt32)), .val (.ref a338), .val (.ref r360), .val (.ref r426), .val (.int (1 : Int32)), .unset, .unset]) at_162 rfl rfl ?_
                  refine own_iload M X434 at_164 rfl rfl ?_
                  refine own_iconst M X434 (v := (2 : Int32)) at_166 rfl rfl ?_
                  refine own_icmp_lt M X434 at_167 (by decide) rfl rfl (fun q443 => ?_) (fun q443 => ?_)
                  · exact absurd q443 c2
                  · skip
                    refine own_iload M X434 at_170 rfl rfl ?_
                    refine own_if_eq M X434 at_172 (by decide) rfl rfl (fun q444 => ?_) (fun q444 => ?_)
                    · exact absurd q444 (by decide)
                    · skip
                      refine own_aload M X434 at_175 rfl rfl rfl ?_
                      refine own_iconst M X434 (v := (3 : Int32)) at_177 rfl rfl ?_
                      refine own_baload M X434 V430 (i := 3) (by decide) (by omega) (congrArg Value.int ((own_updI_ne (by omega)).trans ((own_updI_ne (by omega)).trans ((own_updI_ne (by omega)).trans ((own_updI_ne (by omega)).trans ((own_updI_ne (by omega)).trans ((own_updI_ne (by omega)).trans ((own_updI_ne (by omega)).trans ((own_updI_ne (by omega)).trans ((own_W_at (i := 0) (by omega) (by omega)).trans ((own_updI_ne (by omega)).trans ((own_updI_at rfl).trans (own_bb _))))))))))))) at_178 rfl ?_
                      refine own_iload M X434 at_179 rfl rfl ?_
                      refine own_icmp_ne M X434 at_181 (by decide) rfl rfl (fun q445 => ?_) (fun q445 => ?_)
                      · exact absurd rfl q445
                      · skip
                        refine own_iconst M X434 (v := (1 : Int32)) at_184 rfl rfl ?_
                        refine own_goto M X434 at_185 (by decide) rfl ?_
                        refine own_istore M X434 (L' := #[.val (.int x0), .val (.int x1), .val (.long x2), .second, .val (.int x3), .val (.int (x3 &&& (511 : Int32))), .val (.ref a3), .val (.int (((x1.toUInt32 >>> ((16 : Int32) &&& 31).toUInt32).toInt32).toInt8.toInt32)), .val (.int (((x0.toUInt32 >>> ((8 : Int32) &&& 31).toUInt32).toInt32).toInt8.toInt32)), .val (.ref a338), .val (.ref r360), .val (.ref r426), .val (.int (1 : Int32)), .unset, .unset]) at_189 rfl rfl ?_
                        refine own_iload M X434 at_191 rfl rfl ?_
                        refine own_iconst M X434 (v := (1 : Int32)) at_193 rfl rfl ?_
                        refine own_icmp_lt M X434 at_194 (by decide) rfl rfl (fun q446 => ?_) (fun q446 => ?_)
                        · exact absurd q446 c1
                        · skip
                          refine own_iload M X434 at_197 rfl rfl ?_
                          refine own_if_eq M X434 at_199 (by decide) rfl rfl (fun q447 => ?_) (fun q447 => ?_)
                          · exact absurd q447 (by decide)
                          · skip
                            refine own_aload M X434 at_202 rfl rfl rfl ?_
                            refine own_iconst M X434 (v := (2 : Int32)) at_204 rfl rfl ?_
                            refine own_iload M X434 at_205 rfl rfl ?_
                            refine own_iadd M X434 at_207 rfl ?_
                            refine own_baload M X434 V430 (i := (2 + k)) (own_sum (by decide : (2 : Int32).toInt = (2 : Nat)) hk (by omega)) (by omega) (congrArg Value.int ((own_updI_ne (by omega)).trans ((own_updI_ne (by omega)).trans ((own_updI_ne (by omega)).trans ((own_updI_ne (by omega)).trans ((own_updI_ne (by omega)).trans ((own_updI_ne (by omega)).trans ((own_updI_ne (by omega)).trans ((own_updI_ne (by omega)).trans ((own_W_at (i := (k - 1)) (by omega) (by omega)).trans ((own_updI_at rfl).trans (own_bb _)))))))))))) at_208 rfl ?_
                            refine own_iload M X434 at_209 rfl rfl ?_
                            refine own_icmp_ne M X434 at_211 (by decide) rfl rfl (fun q448 => ?_) (fun q448 => ?_)
                            · exact absurd rfl q448
                            · skip
                              refine own_iconst M X434 (v := (1 : Int32)) at_214 rfl rfl ?_
                              refine own_goto M X434 at_215 (by decide) rfl ?_
                              refine own_istore M X434 (L' := #[.val (.int x0), .val (.int x1), .val (.long x2), .second, .val (.int x3), .val (.int (x3 &&& (511 : Int32))), .val (.ref a3), .val (.int (((x1.toUInt32 >>> ((16 : Int32) &&& 31).toUInt32).toInt32).toInt8.toInt32)), .val (.int (((x0.toUInt32 >>> ((8 : Int32) &&& 31).toUInt32).toInt32).toInt8.toInt32)), .val (.ref a338), .val (.ref r360), .val (.ref r426), .val (.int (1 : Int32)), .unset, .unset]) at_219 rfl rfl ?_
                              refine own_iload M X434 at_221 rfl rfl ?_
                              refine own_iconst M X434 (v := (3 : Int32)) at_223 rfl rfl ?_
                              refine own_icmp_lt M X434 at_224 (by decide) rfl rfl (fun q449 => ?_) (fun q449 => ?_)
                              · skip
                                refine own_iconst M X434 (v := (3 : Int32)) at_251 rfl rfl ?_
                                refine own_iload M X434 at_252 rfl rfl ?_
                                refine own_iadd M X434 at_254 rfl ?_
                                refine own_istore M X434 (L' := #[.val (.int x0), .val (.int x1), .val (.long x2), .second, .val (.int x3), .val (.int (x3 &&& (511 : Int32))), .val (.ref a3), .val (.int (((x1.toUInt32 >>> ((16 : Int32) &&& 31).toUInt32).toInt32).toInt8.toInt32)), .val (.int (((x0.toUInt32 >>> ((8 : Int32) &&& 31).toUInt32).toInt32).toInt8.toInt32)), .val (.ref a338), .val (.ref r360), .val (.ref r426), .val (.int (1 : Int32)), .val (.int ((3 : Int32) + (x3 &&& (511 : Int32)))), .unset]) at_255 rfl rfl ?_
                                refine own_iload M X434 at_257 rfl rfl ?_
                                refine own_if_eq M X434 at_259 (by decide) rfl rfl (fun q450 => ?_) (fun q450 => ?_)
                                · exact absurd q450 (by decide)
                                · skip
                                  refine own_aload M X434 at_262 rfl rfl rfl ?_
                                  refine own_iload M X434 at_264 rfl rfl ?_
                                  refine own_baload M X434 V430 (i := (3 + k)) (own_sum (by decide : (3 : Int32).toInt = (3 : Nat)) hk (by omega)) (by omega) (congrArg Value.int ((own_updI_ne (by omega)).trans ((own_updI_ne (by omega)).trans ((own_updI_ne (by omega)).trans ((own_updI_ne (by omega)).trans ((own_updI_ne (by omega)).trans ((own_updI_ne (by omega)).trans ((own_updI_ne (by omega)).trans ((own_updI_at (by omega)).trans (own_L56 x2)))))))))) at_266 rfl ?_
                                  refine own_lloadN M X434 at_267 rfl rfl ?_
                                  refine own_bipush M X434 (v := (56 : Int32)) at_268 rfl rfl ?_
                                  refine own_lushr M X434 at_270 rfl ?_
                                  refine own_l2i M X434 at_271 rfl ?_
                                  refine own_i2b M X434 at_272 rfl ?_
                                  refine own_icmp_ne M X434 at_273 (by decide) rfl rfl (fun q451 => ?_) (fun q451 => ?_)
                                  · exact absurd rfl q451
                                  · skip
                                    refine own_aload M X434 at_276 rfl rfl rfl ?_
                                    refine own_iload M X434 at_278 rfl rfl ?_
                                    refine own_iconst M X434 (v := (1 : Int32)) at_280 rfl rfl ?_
                                    refine own_iadd M X434 at_281 rfl ?_
                                    refine own_baload M X434 V430 (i := (3 + k + 1)) (own_sum (own_sum (by decide : (3 : Int32).toInt = (3 : Nat)) hk (by omega)) (by decide : (1 : Int32).toInt = (1 : Nat)) (by omega)) (by omega) (congrArg Value.int ((own_updI_ne (by omega)).trans ((own_updI_ne (by omega)).trans ((own_updI_ne (by omega)).trans ((own_updI_ne (by omega)).trans ((own_updI_ne (by omega)).trans ((own_updI_ne (by omega)).trans ((own_updI_at (by omega)).trans (own_L48 x2))))))))) at_282 rfl ?_
                                    refine own_lloadN M X434 at_283 rfl rfl ?_
                                    refine own_bipush M X434 (v := (48 : Int32)) at_284 rfl rfl ?_
                                    refine own_lushr M X434 at_286 rfl ?_
                                    refine own_l2i M X434 at_287 rfl ?_
                                    refine own_i2b M X434 at_288 rfl ?_
                                    refine own_icmp_ne M X434 at_289 (by decide) rfl rfl (fun q452 => ?_) (fun q452 => ?_)
                                    · exact absurd rfl q452
                                    · skip
                                      refine own_aload M X434 at_292 rfl rfl rfl ?_
                                      refine own_iload M X434 at_294 rfl rfl ?_
                                      refine own_iconst M X434 (v := (2 : Int32)) at_296 rfl rfl ?_
                                      refine own_iadd M X434 at_297 rfl ?_
                                      refine own_baload M X434 V430 (i := (3 + k + 2)) (own_sum (own_sum (by decide : (3 : Int32).toInt = (3 : Nat)) hk (by omega)) (by decide : (2 : Int32).toInt = (2 : Nat)) (by omega)) (by omega) (congrArg Value.int ((own_updI_ne (by omega)).trans ((own_updI_ne (by omega)).trans ((own_updI_ne (by omega)).trans ((own_updI_ne (by omega)).trans ((own_updI_ne (by omega)).trans ((own_updI_at (by omega)).trans (own_L40 x2)))))))) at_298 rfl ?_
                                      refine own_lloadN M X434 at_299 rfl rfl ?_
                                      refine own_bipush M X434 (v := (40 : Int32)) at_300 rfl rfl ?_
                                      refine own_lushr M X434 at_302 rfl ?_
                                      refine own_l2i M X434 at_303 rfl ?_
                                      refine own_i2b M X434 at_304 rfl ?_
                                      refine own_icmp_ne M X434 at_305 (by decide) rfl rfl (fun q453 => ?_) (fun q453 => ?_)
                                      · exact absurd rfl q453
                                      · skip
                                        refine own_aload M X434 at_308 rfl rfl rfl ?_
                                        refine own_iload M X434 at_310 rfl rfl ?_
                                        refine own_iconst M X434 (v := (3 : Int32)) at_312 rfl rfl ?_
                                        refine own_iadd M X434 at_313 rfl ?_
                                        refine own_baload M X434 V430 (i := (3 + k + 3)) (own_sum (own_sum (by decide : (3 : Int32).toInt = (3 : Nat)) hk (by omega)) (by decide : (3 : Int32).toInt = (3 : Nat)) (by omega)) (by omega) (congrArg Value.int ((own_updI_ne (by omega)).trans ((own_updI_ne (by omega)).trans ((own_updI_ne (by omega)).trans ((own_updI_ne (by omega)).trans ((own_updI_at (by omega)).trans (own_L32 x2))))))) at_314 rfl ?_
                                        refine own_lloadN M X434 at_315 rfl rfl ?_
                                        refine own_bipush M X434 (v := (32 : Int32)) at_316 rfl rfl ?_
                                        refine own_lushr M X434 at_318 rfl ?_
                                        refine own_l2i M X434 at_319 rfl ?_
                                        refine own_i2b M X434 at_320 rfl ?_
                                        refine own_icmp_ne M X434 at_321 (by decide) rfl rfl (fun q454 => ?_) (fun q454 => ?_)
                                        · exact absurd rfl q454
                                        · skip
                                          refine own_aload M X434 at_324 rfl rfl rfl ?_
                                          refine own_iload M X434 at_326 rfl rfl ?_
                                          refine own_iconst M X434 (v := (4 : Int32)) at_328 rfl rfl ?_
                                          refine own_iadd M X434 at_329 rfl ?_
                                          refine own_baload M X434 V430 (i := (3 + k + 4)) (own_sum (own_sum (by decide : (3 : Int32).toInt = (3 : Nat)) hk (by omega)) (by decide : (4 : Int32).toInt = (4 : Nat)) (by omega)) (by omega) (congrArg Value.int ((own_updI_ne (by omega)).trans ((own_updI_ne (by omega)).trans ((own_updI_ne (by omega)).trans ((own_updI_at (by omega)).trans (own_L24 x2)))))) at_330 rfl ?_
                                          refine own_lloadN M X434 at_331 rfl rfl ?_
                                          refine own_bipush M X434 (v := (24 : Int32)) at_332 rfl rfl ?_
                                          refine own_lushr M X434 at_334 rfl ?_
                                          refine own_l2i M X434 at_335 rfl ?_
                                          refine own_i2b M X434 at_336 rfl ?_
                                          refine own_icmp_ne M X434 at_337 (by decide) rfl rfl (fun q455 => ?_) (fun q455 => ?_)
                                          · exact absurd rfl q455
                                          · skip
                                            refine own_aload M X434 at_340 rfl rfl rfl ?_
                                            refine own_iload M X434 at_342 rfl rfl ?_
                                            refine own_iconst M X434 (v := (5 : Int32)) at_344 rfl rfl ?_
                                            refine own_iadd M X434 at_345 rfl ?_
                                            refine own_baload M X434 V430 (i := (3 + k + 5)) (own_sum (own_sum (by decide : (3 : Int32).toInt = (3 : Nat)) hk (by omega)) (by decide : (5 : Int32).toInt = (5 : Nat)) (by omega)) (by omega) (congrArg Value.int ((own_updI_ne (by omega)).trans ((own_updI_ne (by omega)).trans ((own_updI_at (by omega)).trans (own_L16 x2))))) at_346 rfl ?_
                                            refine own_lloadN M X434 at_347 rfl rfl ?_
                                            refine own_bipush M X434 (v := (16 : Int32)) at_348 rfl rfl ?_
                                            refine own_lushr M X434 at_350 rfl ?_
                                            refine own_l2i M X434 at_351 rfl ?_
                                            refine own_i2b M X434 at_352 rfl ?_
                                            refine own_icmp_ne M X434 at_353 (by decide) rfl rfl (fun q456 => ?_) (fun q456 => ?_)
                                            · exact absurd rfl q456
                                            · skip
                                              refine own_aload M X434 at_356 rfl rfl rfl ?_
                                              refine own_iload M X434 at_358 rfl rfl ?_
                                              refine own_bipush M X434 (v := (6 : Int32)) at_360 rfl rfl ?_
                                              refine own_iadd M X434 at_362 rfl ?_
                                              refine own_baload M X434 V430 (i := (3 + k + 6)) (own_sum (own_sum (by decide : (3 : Int32).toInt = (3 : Nat)) hk (by omega)) (by decide : (6 : Int32).toInt = (6 : Nat)) (by omega)) (by omega) (congrArg Value.int ((own_updI_ne (by omega)).trans ((own_updI_at (by omega)).trans (own_L8 x2)))) at_363 rfl ?_
                                              refine own_lloadN M X434 at_364 rfl rfl ?_
                                              refine own_bipush M X434 (v := (8 : Int32)) at_365 rfl rfl ?_
                                              refine own_lushr M X434 at_367 rfl ?_
                                              refine own_l2i M X434 at_368 rfl ?_
                                              refine own_i2b M X434 at_369 rfl ?_
                                              refine own_icmp_ne M X434 at_370 (by decide) rfl rfl (fun q457 => ?_) (fun q457 => ?_)
                                              · exact absurd rfl q457
                                              · skip
                                                refine own_aload M X434 at_373 rfl rfl rfl ?_
                                                refine own_iload M X434 at_375 rfl rfl ?_
                                                refine own_bipush M X434 (v := (7 : Int32)) at_377 rfl rfl ?_
                                                refine own_iadd M X434 at_379 rfl ?_
                                                refine own_baload M X434 V430 (i := (3 + k + 7)) (own_sum (own_sum (by decide : (3 : Int32).toInt = (3 : Nat)) hk (by omega)) (by decide : (7 : Int32).toInt = (7 : Nat)) (by omega)) (by omega) (congrArg Value.int ((own_updI_at (by omega)).trans (own_L0 x2))) at_380 rfl ?_
                                                refine own_lloadN M X434 at_381 rfl rfl ?_
                                                refine own_l2i M X434 at_382 rfl ?_
                                                refine own_i2b M X434 at_383 rfl ?_
                                                refine own_icmp_ne M X434 at_384 (by decide) rfl rfl (fun q458 => ?_) (fun q458 => ?_)
                                                · exact absurd rfl q458
                                                · skip
                                                  refine own_iconst M X434 (v := (1 : Int32)) at_387 rfl rfl ?_
                                                  refine own_goto M X434 at_388 (by decide) rfl ?_
                                                  refine own_istore M X434 (L' := #[.val (.int x0), .val (.int x1), .val (.long x2), .second, .val (.int x3), .val (.int (x3 &&& (511 : Int32))), .val (.ref a3), .val (.int (((x1.toUInt32 >>> ((16 : Int32) &&& 31).toUInt32).toInt32).toInt8.toInt32)), .val (.int (((x0.toUInt32 >>> ((8 : Int32) &&& 31).toUInt32).toInt32).toInt8.toInt32)), .val (.ref a338), .val (.ref r360), .val (.ref r426), .val (.int (1 : Int32)), .val (.int ((3 : Int32) + (x3 &&& (511 : Int32)))), .unset]) at_392 rfl rfl ?_
                                                  refine own_aload M X434 at_394 rfl rfl rfl ?_
                                                  refine own_iconst M X434 (v := (0 : Int32)) at_396 rfl rfl ?_
                                                  refine own_aload M X434 at_397 rfl rfl rfl ?_
                                                  refine own_iconst M X434 (v := (0 : Int32)) at_399 rfl rfl ?_
                                                  refine own_baload M X434 V430 (i := 0) (by decide) (by omega) (congrArg Value.int ((own_updI_ne (by omega)).trans ((own_updI_ne (by omega)).trans ((own_updI_ne (by omega)).trans ((own_updI_ne (by omega)).trans ((own_updI_ne (by omega)).trans ((own_updI_ne (by omega)).trans ((own_updI_ne (by omega)).trans ((own_updI_ne (by omega)).trans ((own_W_ne (by omega)).trans ((own_updI_ne (by omega)).trans ((own_updI_ne (by omega)).trans ((own_updI_at (by omega)).trans (own_bb _)))))))))))))) at_400 rfl ?_
                                                  refine own_iconst M X434 (v := (-1 : Int32)) at_401 rfl rfl ?_
                                                  refine own_ixor M X434 at_402 rfl ?_
                                                  refine own_i2b M X434 at_403 rfl ?_
                                                  refine own_bastore M X434 V430 ge427 (i := 0) (by decide) (by omega) at_404 rfl ?_
                                                  intro T459 h460 X461 K462 V463
                                                  replace V463 : own_Va Z h460 r426 .byte ((((0 + 1) + 2) + k) + 4 + 4) (fun j => .int ((own_updI (own_updI (own_updI (own_updI (own_updI (own_updI (own_updI (own_updI (own_updI (own_upW (own_updI (own_updI (own_updI (fun _ => 0) 0 ((x0.toInt8.toInt32).toInt8.toInt32)) (0 + 1) ((((x1.toUInt32 >>> ((8 : Int32) &&& 31).toUInt32).toInt32).toInt8.toInt32).toInt8.toInt32)) ((0 + 1) + 1) ((x1.toInt8.toInt32).toInt8.toInt32)) (own_updI (own_updI (fun _ => 0) 0 ((((x1.toUInt32 >>> ((16 : Int32) &&& 31).toUInt32).toInt32).toInt8.toInt32).toInt8.toInt32)) (k - 1) ((((x0.toUInt32 >>> ((8 : Int32) &&& 31).toUInt32).toInt32).toInt8.toInt32).toInt8.toInt32)) ((0 + 1) + 2) k) (((0 + 1) + 2) + k) (((((((x2.toUInt64 >>> ((32 : Int32) &&& 0x3f).toInt64.toUInt64).toInt64).toInt32).toUInt32 >>> ((24 : Int32) &&& 31).toUInt32).toInt32).toInt8.toInt32).toInt8.toInt32)) ((((0 + 1) + 2) + k) + 1) (((((((x2.toUInt64 >>> ((32 : Int32) &&& 0x3f).toInt64.toUInt64).toInt64).toInt32).toUInt32 >>> ((16 : Int32) &&& 31).toUInt32).toInt32).toInt8.toInt32).toInt8.toInt32)) ((((0 + 1) + 2) + k) + 2) (((((((x2.toUInt64 >>> ((32 : Int32) &&& 0x3f).toInt64.toUInt64).toInt64).toInt32).toUInt32 >>> ((8 : Int32) &&& 31).toUInt32).toInt32).toInt8.toInt32).toInt8.toInt32)) ((((0 + 1) + 2) + k) + 3) (((((x2.toUInt64 >>> ((32 : Int32) &&& 0x3f).toInt64.toUInt64).toInt64).toInt32).toInt8.toInt32).toInt8.toInt32)) ((((0 + 1) + 2) + k) + 4) (((((x2.toInt32).toUInt32 >>> ((24 : Int32) &&& 31).toUInt32).toInt32).toInt8.toInt32).toInt8.toInt32)) (((((0 + 1) + 2) + k) + 4) + 1) (((((x2.toInt32).toUInt32 >>> ((16 : Int32) &&& 31).toUInt32).toInt32).toInt8.toInt32).toInt8.toInt32)) (((((0 + 1) + 2) + k) + 4) + 2) (((((x2.toInt32).toUInt32 >>> ((8 : Int32) &&& 31).toUInt32).toInt32).toInt8.toInt32).toInt8.toInt32)) (((((0 + 1) + 2) + k) + 4) + 3) (((x2.toInt32).toInt8.toInt32).toInt8.toInt32)) 0 ((((x0.toInt8.toInt32) ^^^ (-1 : Int32)).toInt8.toInt32).toInt8.toInt32)) j)) := V463.congr (fun j _ => own_updIV (f := (own_updI (own_updI (own_updI (own_updI (own_updI (own_updI (own_updI (own_updI (own_upW (own_updI (own_updI (own_updI (fun _ => 0) 0 ((x0.toInt8.toInt32).toInt8.toInt32)) (0 + 1) ((((x1.toUInt32 >>> ((8 : Int32) &&& 31).toUInt32).toInt32).toInt8.toInt32).toInt8.toInt32)) ((0 + 1) + 1) ((x1.toInt8.toInt32).toInt8.toInt32)) (own_updI (own_updI (fun _ => 0) 0 ((((x1.toUInt32 >>> ((16 : Int32) &&& 31).toUInt32).toInt32).toInt8.toInt32).toInt8.toInt32)) (k - 1) ((((x0.toUInt32 >>> ((8 : Int32) &&& 31).toUInt32).toInt32).toInt8.toInt32).toInt8.toInt32)) ((0 + 1) + 2) k) (((0 + 1) + 2) + k) (((((((x2.toUInt64 >>> ((32 : Int32) &&& 0x3f).toInt64.toUInt64).toInt64).toInt32).toUInt32 >>> ((24 : Int32) &&& 31).toUInt32).toInt32).toInt8.toInt32).toInt8.toInt32)) ((((0 + 1) + 2) + k) + 1) (((((((x2.toUInt64 >>> ((32 : Int32) &&& 0x3f).toInt64.toUInt64).toInt64).toInt32).toUInt32 >>> ((16 : Int32) &&& 31).toUInt32).toInt32).toInt8.toInt32).toInt8.toInt32)) ((((0 + 1) + 2) + k) + 2) (((((((x2.toUInt64 >>> ((32 : Int32) &&& 0x3f).toInt64.toUInt64).toInt64).toInt32).toUInt32 >>> ((8 : Int32) &&& 31).toUInt32).toInt32).toInt8.toInt32).toInt8.toInt32)) ((((0 + 1) + 2) + k) + 3) (((((x2.toUInt64 >>> ((32 : Int32) &&& 0x3f).toInt64.toUInt64).toInt64).toInt32).toInt8.toInt32).toInt8.toInt32)) ((((0 + 1) + 2) + k) + 4) (((((x2.toInt32).toUInt32 >>> ((24 : Int32) &&& 31).toUInt32).toInt32).toInt8.toInt32).toInt8.toInt32)) (((((0 + 1) + 2) + k) + 4) + 1) (((((x2.toInt32).toUInt32 >>> ((16 : Int32) &&& 31).toUInt32).toInt32).toInt8.toInt32).toInt8.toInt32)) (((((0 + 1) + 2) + k) + 4) + 2) (((((x2.toInt32).toUInt32 >>> ((8 : Int32) &&& 31).toUInt32).toInt32).toInt8.toInt32).toInt8.toInt32)) (((((0 + 1) + 2) + k) + 4) + 3) (((x2.toInt32).toInt8.toInt32).toInt8.toInt32))))
                                                  have E464 := E438.keep K462
                                                  have B465 := B437.keep K462 (ninS ne435 nin0) (ninS ne436 nin0)
                                                  refine own_aload M X461 at_405 rfl rfl rfl ?_
                                                  refine own_iload M X461 at_407 rfl rfl ?_
                                                  refine own_bipush M X461 (v := (7 : Int32)) at_409 rfl rfl ?_
                                                  refine own_iadd M X461 at_411 rfl ?_
                                                  refine own_aload M X461 at_412 rfl rfl rfl ?_
                                                  refine own_iload M X461 at_414 rfl rfl ?_
                                                  refine own_bipush M X461 (v := (7 : Int32)) at_416 rfl rfl ?_
                                                  refine own_iadd M X461 at_418 rfl ?_
                                                  refine own_baload M X461 V463 (i := (3 + k + 7)) (own_sum (own_sum (by decide : (3 : Int32).toInt = (3 : Nat)) hk (by omega)) (by decide : (7 : Int32).toInt = (7 : Nat)) (by omega)) (by omega) (congrArg Value.int ((own_updI_ne (by omega)).trans ((own_updI_at (by omega)).trans (own_L0 x2)))) at_419 rfl ?_
                                                  refine own_iconst M X461 (v := (1 : Int32)) at_420 rfl rfl ?_
                                                  refine own_ixor M X461 at_421 rfl ?_
                                                  refine own_i2b M X461 at_422 rfl ?_
                                                  refine own_bastore M X461 V463 ge427 (i := (3 + k + 7)) (own_sum (own_sum (by decide : (3 : Int32).toInt = (3 : Nat)) hk (by omega)) (by decide : (7 : Int32).toInt = (7 : Nat)) (by omega)) (by omega) at_423 rfl ?_
                                                  intro T466 h467 X468 K469 V470
                                                  replace V470 : own_Va Z h467 r426 .byte ((((0 + 1) + 2) + k) + 4 + 4) (fun j => .int ((own_updI (own_updI (own_updI (own_updI (own_updI (own_updI (own_updI (own_updI (own_updI (own_updI (own_upW (own_updI (own_updI (own_updI (fun _ => 0) 0 ((x0.toInt8.toInt32).toInt8.toInt32)) (0 + 1) ((((x1.toUInt32 >>> ((8 : Int32) &&& 31).toUInt32).toInt32).toInt8.toInt32).toInt8.toInt32)) ((0 + 1) + 1) ((x1.toInt8.toInt32).toInt8.toInt32)) (own_updI (own_updI (fun _ => 0) 0 ((((x1.toUInt32 >>> ((16 : Int32) &&& 31).toUInt32).toInt32).toInt8.toInt32).toInt8.toInt32)) (k - 1) ((((x0.toUInt32 >>> ((8 : Int32) &&& 31).toUInt32).toInt32).toInt8.toInt32).toInt8.toInt32)) ((0 + 1) + 2) k) (((0 + 1) + 2) + k) (((((((x2.toUInt64 >>> ((32 : Int32) &&& 0x3f).toInt64.toUInt64).toInt64).toInt32).toUInt32 >>> ((24 : Int32) &&& 31).toUInt32).toInt32).toInt8.toInt32).toInt8.toInt32)) ((((0 + 1) + 2) + k) + 1) (((((((x2.toUInt64 >>> ((32 : Int32) &&& 0x3f).toInt64.toUInt64).toInt64).toInt32).toUInt32 >>> ((16 : Int32) &&& 31).toUInt32).toInt32).toInt8.toInt32).toInt8.toInt32)) ((((0 + 1) + 2) + k) + 2) (((((((x2.toUInt64 >>> ((32 : Int32) &&& 0x3f).toInt64.toUInt64).toInt64).toInt32).toUInt32 >>> ((8 : Int32) &&& 31).toUInt32).toInt32).toInt8.toInt32).toInt8.toInt32)) ((((0 + 1) + 2) + k) + 3) (((((x2.toUInt64 >>> ((32 : Int32) &&& 0x3f).toInt64.toUInt64).toInt64).toInt32).toInt8.toInt32).toInt8.toInt32)) ((((0 + 1) + 2) + k) + 4) (((((x2.toInt32).toUInt32 >>> ((24 : Int32) &&& 31).toUInt32).toInt32).toInt8.toInt32).toInt8.toInt32)) (((((0 + 1) + 2) + k) + 4) + 1) (((((x2.toInt32).toUInt32 >>> ((16 : Int32) &&& 31).toUInt32).toInt32).toInt8.toInt32).toInt8.toInt32)) (((((0 + 1) + 2) + k) + 4) + 2) (((((x2.toInt32).toUInt32 >>> ((8 : Int32) &&& 31).toUInt32).toInt32).toInt8.toInt32).toInt8.toInt32)) (((((0 + 1) + 2) + k) + 4) + 3) (((x2.toInt32).toInt8.toInt32).toInt8.toInt32)) 0 ((((x0.toInt8.toInt32) ^^^ (-1 : Int32)).toInt8.toInt32).toInt8.toInt32)) (3 + k + 7) (((((x2.toInt32).toInt8.toInt32) ^^^ (1 : Int32)).toInt8.toInt32).toInt8.toInt32)) j)) := V470.congr (fun j _ => own_updIV (f := (own_updI (own_updI (own_updI (own_updI (own_updI (own_updI (own_updI (own_updI (own_updI (own_upW (own_updI (own_updI (own_updI (fun _ => 0) 0 ((x0.toInt8.toInt32).toInt8.toInt32)) (0 + 1) ((((x1.toUInt32 >>> ((8 : Int32) &&& 31).toUInt32).toInt32).toInt8.toInt32).toInt8.toInt32)) ((0 + 1) + 1) ((x1.toInt8.toInt32).toInt8.toInt32)) (own_updI (own_updI (fun _ => 0) 0 ((((x1.toUInt32 >>> ((16 : Int32) &&& 31).toUInt32).toInt32).toInt8.toInt32).toInt8.toInt32)) (k - 1) ((((x0.toUInt32 >>> ((8 : Int32) &&& 31).toUInt32).toInt32).toInt8.toInt32).toInt8.toInt32)) ((0 + 1) + 2) k) (((0 + 1) + 2) + k) (((((((x2.toUInt64 >>> ((32 : Int32) &&& 0x3f).toInt64.toUInt64).toInt64).toInt32).toUInt32 >>> ((24 : Int32) &&& 31).toUInt32).toInt32).toInt8.toInt32).toInt8.toInt32)) ((((0 + 1) + 2) + k) + 1) (((((((x2.toUInt64 >>> ((32 : Int32) &&& 0x3f).toInt64.toUInt64).toInt64).toInt32).toUInt32 >>> ((16 : Int32) &&& 31).toUInt32).toInt32).toInt8.toInt32).toInt8.toInt32)) ((((0 + 1) + 2) + k) + 2) (((((((x2.toUInt64 >>> ((32 : Int32) &&& 0x3f).toInt64.toUInt64).toInt64).toInt32).toUInt32 >>> ((8 : Int32) &&& 31).toUInt32).toInt32).toInt8.toInt32).toInt8.toInt32)) ((((0 + 1) + 2) + k) + 3) (((((x2.toUInt64 >>> ((32 : Int32) &&& 0x3f).toInt64.toUInt64).toInt64).toInt32).toInt8.toInt32).toInt8.toInt32)) ((((0 + 1) + 2) + k) + 4) (((((x2.toInt32).toUInt32 >>> ((24 : Int32) &&& 31).toUInt32).toInt32).toInt8.toInt32).toInt8.toInt32)) (((((0 + 1) + 2) + k) + 4) + 1) (((((x2.toInt32).toUInt32 >>> ((16 : Int32) &&& 31).toUInt32).toInt32).toInt8.toInt32).toInt8.toInt32)) (((((0 + 1) + 2) + k) + 4) + 2) (((((x2.toInt32).toUInt32 >>> ((8 : Int32) &&& 31).toUInt32).toInt32).toInt8.toInt32).toInt8.toInt32)) (((((0 + 1) + 2) + k) + 4) + 3) (((x2.toInt32).toInt8.toInt32).toInt8.toInt32)) 0 ((((x0.toInt8.toInt32) ^^^ (-1 : Int32)).toInt8.toInt32).toInt8.toInt32))))
                                                  have E471 := E464.keep K469
                                                  have B472 := B465.keep K469 (ninS ne435 nin0) (ninS ne436 nin0)
                                                  refine own_aload M X468 at_424 rfl rfl rfl ?_
                                                  have ltB := B472.lt
                                                  refine own_callV M X468 (yrm := ({ frames := 2, cells := 1, slots := 522, locals := 34 } : Room)) [] (hw _ (List.mem_of_getElem? (i := 12) rfl)) (hw _ (List.mem_of_getElem? (i := 14) rfl)) (hw _ (List.mem_of_getElem? (i := 13) rfl)) (hw _ (List.mem_of_getElem? (i := 15) rfl)) (hw _ (List.mem_of_getElem? (i := 3) rfl)) (hw _ (List.mem_of_getElem? (i := 16) rfl)) (by decide) E471 (met_3 _ Z a0 hw h467 n0 X468.size a338 b415 n416 ((((0 + 1) + 2) + k) + 4 + 4) 522 (own_updI (own_updI (own_updI (own_updI (own_updI (own_updI (own_updI (own_updI (own_upW (own_updI (own_updI (own_updI (fun _ => 0) 0 ((x0.toInt8.toInt32).toInt8.toInt32)) (0 + 1) ((((x1.toUInt32 >>> ((8 : Int32) &&& 31).toUInt32).toInt32).toInt8.toInt32).toInt8.toInt32)) ((0 + 1) + 1) ((x1.toInt8.toInt32).toInt8.toInt32)) (own_updI (own_updI (fun _ => 0) 0 ((((x1.toUInt32 >>> ((16 : Int32) &&& 31).toUInt32).toInt32).toInt8.toInt32).toInt8.toInt32)) (k - 1) ((((x0.toUInt32 >>> ((8 : Int32) &&& 31).toUInt32).toInt32).toInt8.toInt32).toInt8.toInt32)) ((0 + 1) + 2) k) (((0 + 1) + 2) + k) (((((((x2.toUInt64 >>> ((32 : Int32) &&& 0x3f).toInt64.toUInt64).toInt64).toInt32).toUInt32 >>> ((24 : Int32) &&& 31).toUInt32).toInt32).toInt8.toInt32).toInt8.toInt32)) ((((0 + 1) + 2) + k) + 1) (((((((x2.toUInt64 >>> ((32 : Int32) &&& 0x3f).toInt64.toUInt64).toInt64).toInt32).toUInt32 >>> ((16 : Int32) &&& 31).toUInt32).toInt32).toInt8.toInt32).toInt8.toInt32)) ((((0 + 1) + 2) + k) + 2) (((((((x2.toUInt64 >>> ((32 : Int32) &&& 0x3f).toInt64.toUInt64).toInt64).toInt32).toUInt32 >>> ((8 : Int32) &&& 31).toUInt32).toInt32).toInt8.toInt32).toInt8.toInt32)) ((((0 + 1) + 2) + k) + 3) (((((x2.toUInt64 >>> ((32 : Int32) &&& 0x3f).toInt64.toUInt64).toInt64).toInt32).toInt8.toInt32).toInt8.toInt32)) ((((0 + 1) + 2) + k) + 4) (((((x2.toInt32).toUInt32 >>> ((24 : Int32) &&& 31).toUInt32).toInt32).toInt8.toInt32).toInt8.toInt32)) (((((0 + 1) + 2) + k) + 4) + 1) (((((x2.toInt32).toUInt32 >>> ((16 : Int32) &&& 31).toUInt32).toInt32).toInt8.toInt32).toInt8.toInt32)) (((((0 + 1) + 2) + k) + 4) + 2) (((((x2.toInt32).toUInt32 >>> ((8 : Int32) &&& 31).toUInt32).toInt32).toInt8.toInt32).toInt8.toInt32)) (((((0 + 1) + 2) + k) + 4) + 3) (((x2.toInt32).toInt8.toInt32).toInt8.toInt32)) B472 (by omega) (by decide)) rfl at_426 rfl own_pd4 rfl rfl 0 (Nat.le_of_eq rfl) (by decide) (by decide) (by decide) (by decide) ?_
                                                  rintro T478 h479 v480 X481 ⟨r473, rfl, ge474, sz475, K476, V477⟩
                                                  have ne482 : r426 ≠ r473 := Nat.ne_of_lt (Nat.lt_of_lt_of_le V470.lt sz475)
                                                  have V483 := V470.keep K476 nin0
                                                  have ne484 : a338 ≠ r473 := Nat.ne_of_lt (Nat.lt_of_lt_of_le ltB.1 sz475)
                                                  have ne485 : b415 ≠ r473 := Nat.ne_of_lt (Nat.lt_of_lt_of_le ltB.2 sz475)
                                                  have B486 := B472.keep K476 nin0 nin0
                                                  have E487 := B486.1
                                                  replace X481 : own_Sx n0 K T478 h479 11 4419 := X481
                                                  show own_Fin n0 K _ T478 429 #[.val (.int x0), .val (.int x1), .val (.long x2), .second, .val (.int x3), .val (.int (x3 &&& (511 : Int32))), .val (.ref a3), .val (.int (((x1.toUInt32 >>> ((16 : Int32) &&& 31).toUInt32).toInt32).toInt8.toInt32)), .val (.int (((x0.toUInt32 >>> ((8 : Int32) &&& 31).toUInt32).toInt32).toInt8.toInt32)), .val (.ref a338), .val (.ref r360), .val (.ref r426), .val (.int (1 : Int32)), .val (.int ((3 : Int32) + (x3 &&& (511 : Int32)))), .unset] [(.ref r473)]
                                                  refine own_astore M X481 (L' := #[.val (.int x0), .val (.int x1), .val (.long x2), .second, .val (.int x3), .val (.int (x3 &&& (511 : Int32))), .val (.ref a3), .val (.int (((x1.toUInt32 >>> ((16 : Int32) &&& 31).toUInt32).toInt32).toInt8.toInt32)), .val (.int (((x0.toUInt32 >>> ((8 : Int32) &&& 31).toUInt32).toInt32).toInt8.toInt32)), .val (.ref a338), .val (.ref r360), .val (.ref r426), .val (.int (1 : Int32)), .val (.int ((3 : Int32) + (x3 &&& (511 : Int32)))), .val (.ref r473)]) at_429 rfl rfl rfl ?_
                                                  refine own_iload M X481 at_431 rfl rfl ?_
                                                  refine own_if_eq M X481 at_433 (by decide) rfl rfl (fun q488 => ?_) (fun q488 => ?_)
                                                  · exact absurd q488 (by decide)
                                                  · skip
                                                    refine own_aload M X481 at_436 rfl rfl rfl ?_
                                                    refine own_arraylength M X481 (z := (Int32.ofNat (0 + 1 + 2 + k + 8))) V477 ((own_ofn (by omega)).trans (by omega)) at_438 rfl ?_
                                                    refine own_bipush M X481 (v := (11 : Int32)) at_439 rfl rfl ?_
                                                    refine own_iload M X481 at_441 rfl rfl ?_
                                                    refine own_iadd M X481 at_443 rfl ?_
                                                    refine own_icmp_ne M X481 at_444 (by decide) rfl rfl (fun q489 => ?_) (fun q489 => ?_)
                                                    · exact absurd q439 q489
                                                    · skip
                                                      refine own_aload M X481 at_447 rfl rfl rfl ?_
                                                      refine own_iconst M X481 (v := (0 : Int32)) at_449 rfl rfl ?_
                                                      refine own_baload M X481 V477 (i := 0) (by decide) (by omega) (congrArg Value.int ((own_updI_ne (by omega)).trans ((own_updI_ne (by omega)).trans ((own_updI_ne (by omega)).trans ((own_updI_ne (by omega)).trans ((own_updI_ne (by omega)).trans ((own_updI_ne (by omega)).trans ((own_updI_ne (by omega)).trans ((own_updI_ne (by omega)).trans ((own_W_ne (by omega)).trans ((own_updI_ne (by omega)).trans ((own_updI_ne (by omega)).trans ((own_updI_at (by omega)).trans (own_bb _)))))))))))))) at_450 rfl ?_
                                                      refine own_iloadN M X481 at_451 rfl rfl ?_
                                                      refine own_i2b M X481 at_452 rfl ?_
                                                      refine own_icmp_ne M X481 at_453 (by decide) rfl rfl (fun q490 => ?_) (fun q490 => ?_)
                                                      · exact absurd rfl q490
                                                      · skip
                                                        refine own_aload M X481 at_456 rfl rfl rfl ?_
                                                        refine own_iload M X481 at_458 rfl rfl ?_
                                                        refine own_bipush M X481 (v := (7 : Int32)) at_460 rfl rfl ?_
                                                        refine own_iadd M X481 at_462 rfl ?_
                                                        refine own_baload M X481 V477 (i := (3 + k + 7)) (own_sum (own_sum (by decide : (3 : Int32).toInt = (3 : Nat)) hk (by omega)) (by decide : (7 : Int32).toInt = (7 : Nat)) (by omega)) (by omega) (congrArg Value.int ((own_updI_at (by omega)).trans (own_L0 x2))) at_463 rfl ?_
                                                        refine own_lloadN M X481 at_464 rfl rfl ?_
                                                        refine own_l2i M X481 at_465 rfl ?_
                                                        refine own_i2b M X481 at_466 rfl ?_
                                                        refine own_icmp_ne M X481 at_467 (by decide) rfl rfl (fun q491 => ?_) (fun q491 => ?_)
                                                        · exact absurd rfl q491
                                                        · skip
                                                          refine own_iconst M X481 (v := (1 : Int32)) at_470 rfl rfl ?_
                                                          refine own_goto M X481 at_471 (by decide) rfl ?_
                                                          refine own_istore M X481 (L' := #[.val (.int x0), .val (.int x1), .val (.long x2), .second, .val (.int x3), .val (.int (x3 &&& (511 : Int32))), .val (.ref a3), .val (.int (((x1.toUInt32 >>> ((16 : Int32) &&& 31).toUInt32).toInt32).toInt8.toInt32)), .val (.int (((x0.toUInt32 >>> ((8 : Int32) &&& 31).toUInt32).toInt32).toInt8.toInt32)), .val (.ref a338), .val (.ref r360), .val (.ref r426), .val (.int (1 : Int32)), .val (.int ((3 : Int32) + (x3 &&& (511 : Int32)))), .val (.ref r473)]) at_475 rfl rfl ?_
                                                          refine own_iload M X481 at_477 rfl rfl ?_
                                                          exact own_retN M X481 (z' := (1 : Int32)) (by simp) at_479 rfl rfl
                              · exact absurd c3 q449
          · skip
            exact absurd (own_n11 hk hk2) q439
        · exact absurd (by decide) q375
  · skip
    refine own_iconst M X6 (v := (2 : Int32)) at_30 rfl rfl ?_
    refine own_icmp_lt M X6 at_31 (by decide) rfl rfl (fun q492 => ?_) (fun q492 => ?_)
    · exact absurd q492 c2
    · skip
      refine own_aload M X6 at_34 rfl rfl rfl ?_
      refine own_iconst M X6 (v := (0 : Int32)) at_36 rfl rfl ?_
      refine own_iload M X6 at_37 rfl rfl ?_
      refine own_bastore M X6 V8 ge4 (i := 0) (by decide) (by omega) at_39 rfl ?_
      intro T493 h494 X495 K496 V497
      replace V497 : own_Va Z h494 a3 .byte k (fun j => .int ((own_updI (fun _ => 0) 0 ((((x1.toUInt32 >>> ((16 : Int32) &&& 31).toUInt32).toInt32).toInt8.toInt32).toInt8.toInt32)) j)) := V497.congr (fun j _ => own_updIV (f := (fun _ => 0)))
      refine own_iload M X495 at_40 rfl rfl ?_
      refine own_iconst M X495 (v := (1 : Int32)) at_42 rfl rfl ?_
      refine own_icmp_lt M X495 at_43 (by decide) rfl rfl (fun q498 => ?_) (fun q498 => ?_)
      · exact absurd q498 c1
      · skip
        refine own_aload M X495 at_46 rfl rfl rfl ?_
        refine own_iload M X495 at_48 rfl rfl ?_
        refine own_iconst M X495 (v := (1 : Int32)) at_50 rfl rfl ?_
        refine own_isub M X495 at_51 rfl ?_
        refine own_iload M X495 at_52 rfl rfl ?_
        refine own_bastore M X495 V497 ge4 (i := (k - 1)) (own_pred hk (by omega) hk2) (by omega) at_54 rfl ?_
        intro T499 h500 X501 K502 V503
        replace V503 : own_Va Z h500 a3 .byte k (fun j => .int ((own_updI (own_updI (fun _ => 0) 0 ((((x1.toUInt32 >>> ((16 : Int32) &&& 31).toUInt32).toInt32).toInt8.toInt32).toInt8.toInt32)) (k - 1) ((((x0.toUInt32 >>> ((8 : Int32) &&& 31).toUInt32).toInt32).toInt8.toInt32).toInt8.toInt32)) j)) := V503.congr (fun j _ => own_updIV (f := (own_updI (fun _ => 0) 0 ((((x1.toUInt32 >>> ((16 : Int32) &&& 31).toUInt32).toInt32).toInt8.toInt32).toInt8.toInt32))))
        refine own_new M X501 (hw _ (List.mem_of_getElem? (i := 1) rfl)) (hw _ (List.mem_of_getElem? (i := 2) rfl)) (hw _ (List.mem_of_getElem? (i := 3) rfl)) at_55 rfl (by decide) (by decide) ?_
        intro T504 h505 a506 ge507 gs508 X509 E510 A511 D512
        have ne513 : a3 ≠ a506 := Nat.ne_of_lt (Nat.lt_of_lt_of_le V503.lt gs508)
        have V514 := V503.ext E510
        have F515 : Fld Z h505 a506 "com/example/london_wall/londonwall/wire/Encoder" "bytes" "[B" .null := D512 (Or.inl (hw _ (List.mem_of_getElem? (i := 11) rfl))) (ty := (.array .byte)) (by decide)
        have F516 : Fld Z h505 a506 "com/example/london_wall/londonwall/wire/Encoder" "size" "I" (.int (0 : Int32)) := D512 (Or.inl (hw _ (List.mem_of_getElem? (i := 18) rfl))) (ty := .int) (by decide)
        refine own_dup M X509 at_58 rfl rfl ?_
        refine own_callN M X509 (yrm := ({ frames := 1, cells := 1, slots := 256, locals := 12 } : Room)) [] (hw _ (List.mem_of_getElem? (i := 4) rfl)) (hw _ (List.mem_of_getElem? (i := 5) rfl)) (hw _ (List.mem_of_getElem? (i := 3) rfl)) (hw _ (List.mem_of_getElem? (i := 6) rfl)) (by decide) rfl rfl (met_1 _ Z a0 hw h505 n0 X509.size a506 ge507 A511 F516 F515) rfl at_59 rfl own_pd3 rfl rfl 1 (Nat.le_of_eq rfl) (by decide) (by decide) (by decide) (by decide) ?_
        rintro T521 h522 v523 X524 ⟨rfl, b517, B518, sz519, K520⟩
        have ne525 : a3 ≠ b517 := Nat.ne_of_lt (Nat.lt_of_lt_of_le V514.lt sz519)
        have V526 := V514.keep K520 (ninS ne513 nin0)
        have E527 := B518.1
        replace X524 : own_Sx n0 K T521 h522 3 769 := X524
        show own_Fin n0 K _ T521 62 #[.val (.int x0), .val (.int x1), .val (.long x2), .second, .val (.int x3), .val (.int (x3 &&& (511 : Int32))), .val (.ref a3), .val (.int (((x1.toUInt32 >>> ((16 : Int32) &&& 31).toUInt32).toInt32).toInt8.toInt32)), .val (.int (((x0.toUInt32 >>> ((8 : Int32) &&& 31).toUInt32).toInt32).toInt8.toInt32)), .unset, .unset, .unset, .unset, .unset, .unset] [(.ref a506)]
        refine own_astore M X524 (L' := #[.val (.int x0), .val (.int x1), .val (.long x2), .second, .val (.int x3), .val (.int (x3 &&& (511 : Int32))), .val (.ref a3), .val (.int (((x1.toUInt32 >>> ((16 : Int32) &&& 31).toUInt32).toInt32).toInt8.toInt32)), .val (.int (((x0.toUInt32 >>> ((8 : Int32) &&& 31).toUInt32).toInt32).toInt8.toInt32)), .val (.ref a506), .unset, .unset, .unset, .unset, .unset]) at_62 rfl rfl rfl ?_
        refine own_aload M X524 at_64 rfl rfl rfl ?_
        have ltB := B518.lt
        refine own_callV M X524 (yrm := ({ frames := 2, cells := 1, slots := 0, locals := 34 } : Room)) [] (hw _ (List.mem_of_getElem? (i := 12) rfl)) (hw _ (List.mem_of_getElem? (i := 14) rfl)) (hw _ (List.mem_of_getElem? (i := 13) rfl)) (hw _ (List.mem_of_getElem? (i := 15) rfl)) (hw _ (List.mem_of_getElem? (i := 3) rfl)) (hw _ (List.mem_of_getElem? (i := 16) rfl)) (by decide) E527 (met_3 _ Z a0 hw h522 n0 X524.size a506 b517 256 0 0 (fun _ => 0) B518 (by omega) (by decide)) rfl at_66 rfl own_pd4 rfl rfl 0 (Nat.le_of_eq rfl) (by decide) (by decide) (by decide) (by decide) ?_
        rintro T533 h534 v535 X536 ⟨r528, rfl, ge529, sz530, K531, V532⟩
        have ne537 : a3 ≠ r528 := Nat.ne_of_lt (Nat.lt_of_lt_of_le V526.lt sz530)
        have V538 := V526.keep K531 nin0
        have ne539 : a506 ≠ r528 := Nat.ne_of_lt (Nat.lt_of_lt_of_le ltB.1 sz530)
        have ne540 : b517 ≠ r528 := Nat.ne_of_lt (Nat.lt_of_lt_of_le ltB.2 sz530)
        have B541 := B518.keep K531 nin0 nin0
        have E542 := B541.1
        replace X536 : own_Sx n0 K T533 h534 4 769 := X536
        show own_Fin n0 K _ T533 69 #[.val (.int x0), .val (.int x1), .val (.long x2), .second, .val (.int x3), .val (.int (x3 &&& (511 : Int32))), .val (.ref a3), .val (.int (((x1.toUInt32 >>> ((16 : Int32) &&& 31).toUInt32).toInt32).toInt8.toInt32)), .val (.int (((x0.toUInt32 >>> ((8 : Int32) &&& 31).toUInt32).toInt32).toInt8.toInt32)), .val (.ref a506), .unset, .unset, .unset, .unset, .unset] [(.ref r528)]
        refine own_astore M X536 (L' := #[.val (.int x0), .val (.int x1), .val (.long x2), .second, .val (.int x3), .val (.int (x3 &&& (511 : Int32))), .val (.ref a3), .val (.int (((x1.toUInt32 >>> ((16 : Int32) &&& 31).toUInt32).toInt32).toInt8.toInt32)), .val (.int (((x0.toUInt32 >>> ((8 : Int32) &&& 31).toUInt32).toInt32).toInt8.toInt32)), .val (.ref a506), .val (.ref r528), .unset, .unset, .unset, .unset]) at_69 rfl rfl rfl ?_
        refine own_aload M X536 at_71 rfl rfl rfl ?_
        refine own_arraylength M X536 (z := (0 : Int32)) V532 (by decide) at_73 rfl ?_
        refine own_if_eq M X536 at_74 (by decide) rfl rfl (fun q543 => ?_) (fun q543 => ?_)
        · skip
          refine own_aload M X536 at_79 rfl rfl rfl ?_
          refine own_iloadN M X536 at_81 rfl rfl ?_
          refine own_callV M X536 (yrm := ({ frames := 3, cells := 1, slots := 0, locals := 48 } : Room)) [(.int x0)] (hw _ (List.mem_of_getElem? (i := 31) rfl)) (hw _ (List.mem_of_getElem? (i := 33) rfl)) (hw _ (List.mem_of_getElem? (i := 32) rfl)) (hw _ (List.mem_of_getElem? (i := 34) rfl)) (hw _ (List.mem_of_getElem? (i := 3) rfl)) (hw _ (List.mem_of_getElem? (i := 35) rfl)) (by decide) E542 (met_6 _ Z a0 hw h534 n0 X536.size a506 x0 b517 256 0 0 (fun _ => 0) B541 ge507 (by omega) (by decide)) rfl at_82 rfl own_pd2 rfl rfl 0 (Nat.le_of_eq rfl) (by decide) (by decide) (by decide) (by decide) ?_
          rintro T550 h551 v552 X553 ⟨rfl, b544, n545, hn546, B547, K548, hb549⟩
          have ne554 : a3 ≠ b544 := hb549.elim (fun e => e ▸ ne525) (fun e => Nat.ne_of_lt (Nat.lt_of_lt_of_le V538.lt e))
          have V555 := V538.keep K548 (ninS ne513 (ninS ne525 nin0))
          replace hn546 : n545 ≤ 256 := by have := hn546; omega
          have E556 := B547.1
          replace X553 : own_Sx n0 K T550 h551 5 769 := X553
          show own_Fin n0 K _ T550 85 #[.val (.int x0), .val (.int x1), .val (.long x2), .second, .val (.int x3), .val (.int (x3 &&& (511 : Int32))), .val (.ref a3), .val (.int (((x1.toUInt32 >>> ((16 : Int32) &&& 31).toUInt32).toInt32).toInt8.toInt32)), .val (.int (((x0.toUInt32 >>> ((8 : Int32) &&& 31).toUInt32).toInt32).toInt8.toInt32)), .val (.ref a506), .val (.ref r528), .unset, .unset, .unset, .unset] []
          refine own_aload M X553 at_85 rfl rfl rfl ?_
          refine own_iloadN M X553 at_87 rfl rfl ?_
          refine own_callV M X553 (yrm := ({ frames := 3, cells := 1, slots := 4, locals := 48 } : Room)) [(.int x1)] (hw _ (List.mem_of_getElem? (i := 40) rfl)) (hw _ (List.mem_of_getElem? (i := 42) rfl)) (hw _ (List.mem_of_getElem? (i := 41) rfl)) (hw _ (List.mem_of_getElem? (i := 43) rfl)) (hw _ (List.mem_of_getElem? (i := 3) rfl)) (hw _ (List.mem_of_getElem? (i := 44) rfl)) (by decide) E556 (met_8 _ Z a0 hw h551 n0 X553.size a506 x1 b544 n545 (0 + 1) 4 (own_updI (fun _ => 0) 0 ((x0.toInt8.toInt32).toInt8.toInt32)) B547 ge507 (by omega) (by decide)) rfl at_88 rfl own_pd2 rfl rfl 0 (Nat.le_of_eq rfl) (by decide) (by decide) (by decide) (by decide) ?_
          rintro T563 h564 v565 X566 ⟨rfl, b557, n558, hn559, B560, K561, hb562⟩
          have ne567 : a3 ≠ b557 := hb562.elim (fun e => e ▸ ne554) (fun e => Nat.ne_of_lt (Nat.lt_of_lt_of_le V555.lt e))
          have V568 := V555.keep K561 (ninS ne513 (ninS ne554 nin0))
          replace hn559 : n558 ≤ 256 := by have := hn559; omega
          have E569 := B560.1
          replace X566 : own_Sx n0 K T563 h564 6 773 := X566
          show own_Fin n0 K _ T563 91 #[.val (.int x0), .val (.int x1), .val (.long x2), .second, .val (.int x3), .val (.int (x3 &&& (511 : Int32))), .val (.ref a3), .val (.int (((x1.toUInt32 >>> ((16 : Int32) &&& 31).toUInt32).toInt32).toInt8.toInt32)), .val (.int (((x0.toUInt32 >>> ((8 : Int32) &&& 31).toUInt32).toInt32).toInt8.toInt32)), .val (.ref a506), .val (.ref r528), .unset, .unset, .unset, .unset] []
          refine own_aload M X566 at_91 rfl rfl rfl ?_
          refine own_aload M X566 at_93 rfl rfl rfl ?_
          refine own_iconst M X566 (v := (0 : Int32)) at_95 rfl rfl ?_
          refine own_iload M X566 at_96 rfl rfl ?_
          refine own_callV M X566 (yrm := ({ frames := 3, cells := 1, slots := 514, locals := 48 } : Room)) [(.ref a3), (.int (0 : Int32)), (.int (x3 &&& (511 : Int32)))] (hw _ (List.mem_of_getElem? (i := 45) rfl)) (hw _ (List.mem_of_getElem? (i := 47) rfl)) (hw _ (List.mem_of_getElem? (i := 46) rfl)) (hw _ (List.mem_of_getElem? (i := 48) rfl)) (hw _ (List.mem_of_getElem? (i := 3) rfl)) (hw _ (List.mem_of_getElem? (i := 49) rfl)) (by decide) E569 (met_9 _ Z a0 hw h564 n0 X566.size a506 a3 0 (x3 &&& (511 : Int32)) b557 n558 ((0 + 1) + 2) k k 514 (own_updI (own_updI (own_updI (fun _ => 0) 0 ((x0.toInt8.toInt32).toInt8.toInt32)) (0 + 1) ((((x1.toUInt32 >>> ((8 : Int32) &&& 31).toUInt32).toInt32).toInt8.toInt32).toInt8.toInt32)) ((0 + 1) + 1) ((x1.toInt8.toInt32).toInt8.toInt32)) (own_updI (own_updI (fun _ => 0) 0 ((((x1.toUInt32 >>> ((16 : Int32) &&& 31).toUInt32).toInt32).toInt8.toInt32).toInt8.toInt32)) (k - 1) ((((x0.toUInt32 >>> ((8 : Int32) &&& 31).toUInt32).toInt32).toInt8.toInt32).toInt8.toInt32)) B560 ge507 V568 ne513 ne567 (by decide) hk (by omega) (by omega) (by omega) (by decide)) rfl at_98 rfl own_pd5 rfl rfl 0 (Nat.le_of_eq rfl) (by decide) (by decide) (by decide) (by decide) ?_
          rintro T576 h577 v578 X579 ⟨rfl, b570, n571, hn572, B573, K574, hb575⟩
          have ne580 : a3 ≠ b570 := hb575.elim (fun e => e ▸ ne567) (fun e => Nat.ne_of_lt (Nat.lt_of_lt_of_le V568.lt e))
          have V581 := V568.keep K574 (ninS ne513 (ninS ne567 nin0))
          replace hn572 : n571 ≤ 514 := by have := hn572; omega
          have E582 := B573.1
          replace X579 : own_Sx n0 K T576 h577 7 1287 := X579
          show own_Fin n0 K _ T576 101 #[.val (.int x0), .val (.int x1), .val (.long x2), .second, .val (.int x3), .val (.int (x3 &&& (511 : Int32))), .val (.ref a3), .val (.int (((x1.toUInt32 >>> ((16 : Int32) &&& 31).toUInt32).toInt32).toInt8.toInt32)), .val (.int (((x0.toUInt32 >>> ((8 : Int32) &&& 31).toUInt32).toInt32).toInt8.toInt32)), .val (.ref a506), .val (.ref r528), .unset, .unset, .unset, .unset] []
          refine own_aload M X579 at_101 rfl rfl rfl ?_
          refine own_lloadN M X579 at_103 rfl rfl ?_
          refine own_callV M X579 (yrm := ({ frames := 4, cells := 2, slots := 1044 + 1044, locals := 61 } : Room)) [(.long x2)] (hw _ (List.mem_of_getElem? (i := 51) rfl)) (hw _ (List.mem_of_getElem? (i := 53) rfl)) (hw _ (List.mem_of_getElem? (i := 52) rfl)) (hw _ (List.mem_of_getElem? (i := 54) rfl)) (hw _ (List.mem_of_getElem? (i := 3) rfl)) (hw _ (List.mem_of_getElem? (i := 55) rfl)) (by decide) E582 (met_10 _ Z a0 hw h577 n0 X579.size a506 x2 b570 n571 (((0 + 1) + 2) + k) 1044 (own_upW (own_updI (own_updI (own_updI (fun _ => 0) 0 ((x0.toInt8.toInt32).toInt8.toInt32)) (0 + 1) ((((x1.toUInt32 >>> ((8 : Int32) &&& 31).toUInt32).toInt32).toInt8.toInt32).toInt8.toInt32)) ((0 + 1) + 1) ((x1.toInt8.toInt32).toInt8.toInt32)) (own_updI (own_updI (fun _ => 0) 0 ((((x1.toUInt32 >>> ((16 : Int32) &&& 31).toUInt32).toInt32).toInt8.toInt32).toInt8.toInt32)) (k - 1) ((((x0.toUInt32 >>> ((8 : Int32) &&& 31).toUInt32).toInt32).toInt8.toInt32).toInt8.toInt32)) ((0 + 1) + 2) k) B573 ge507 (by omega) (fun n h1 h2 => by omega) (by decide)) rfl at_104 rfl own_pd6 rfl rfl 0 (Nat.le_of_eq rfl) (by decide) (by decide) (by decide) (by decide) ?_
          rintro T589 h590 v591 X592 ⟨rfl, b583, n584, hn585, B586, K587, hb588⟩
          replace hn585 : n584 ≤ 1044 := by have := hn585; omega
          have E593 := B586.1
          replace X592 : own_Sx n0 K T589 h590 9 3375 := X592
          show own_Fin n0 K _ T589 107 #[.val (.int x0), .val (.int x1), .val (.long x2), .second, .val (.int x3), .val (.int (x3 &&& (511 : Int32))), .val (.ref a3), .val (.int (((x1.toUInt32 >>> ((16 : Int32) &&& 31).toUInt32).toInt32).toInt8.toInt32)), .val (.int (((x0.toUInt32 >>> ((8 : Int32) &&& 31).toUInt32).toInt32).toInt8.toInt32)), .val (.ref a506), .val (.ref r528), .unset, .unset, .unset, .unset] []
          refine own_aload M X592 at_107 rfl rfl rfl ?_
          have ltB := B586.lt
          refine own_callV M X592 (yrm := ({ frames := 2, cells := 1, slots := 522, locals := 34 } : Room)) [] (hw _ (List.mem_of_getElem? (i := 12) rfl)) (hw _ (List.mem_of_getElem? (i := 14) rfl)) (hw _ (List.mem_of_getElem? (i := 13) rfl)) (hw _ (List.mem_of_getElem? (i := 15) rfl)) (hw _ (List.mem_of_getElem? (i := 3) rfl)) (hw _ (List.mem_of_getElem? (i := 16) rfl)) (by decide) E593 (met_3 _ Z a0 hw h590 n0 X592.size a506 b583 n584 ((((0 + 1) + 2) + k) + 4 + 4) 522 (own_updI (own_updI (own_updI (own_updI (own_updI (own_updI (own_updI (own_updI (own_upW (own_updI (own_updI (own_updI (fun _ => 0) 0 ((x0.toInt8.toInt32).toInt8.toInt32)) (0 + 1) ((((x1.toUInt32 >>> ((8 : Int32) &&& 31).toUInt32).toInt32).toInt8.toInt32).toInt8.toInt32)) ((0 + 1) + 1) ((x1.toInt8.toInt32).toInt8.toInt32)) (own_updI (own_updI (fun _ => 0) 0 ((((x1.toUInt32 >>> ((16 : Int32) &&& 31).toUInt32).toInt32).toInt8.toInt32).toInt8.toInt32)) (k - 1) ((((x0.toUInt32 >>> ((8 : Int32) &&& 31).toUInt32).toInt32).toInt8.toInt32).toInt8.toInt32)) ((0 + 1) + 2) k) (((0 + 1) + 2) + k) (((((((x2.toUInt64 >>> ((32 : Int32) &&& 0x3f).toInt64.toUInt64).toInt64).toInt32).toUInt32 >>> ((24 : Int32) &&& 31).toUInt32).toInt32).toInt8.toInt32).toInt8.toInt32)) ((((0 + 1) + 2) + k) + 1) (((((((x2.toUInt64 >>> ((32 : Int32) &&& 0x3f).toInt64.toUInt64).toInt64).toInt32).toUInt32 >>> ((16 : Int32) &&& 31).toUInt32).toInt32).toInt8.toInt32).toInt8.toInt32)) ((((0 + 1) + 2) + k) + 2) (((((((x2.toUInt64 >>> ((32 : Int32) &&& 0x3f).toInt64.toUInt64).toInt64).toInt32).toUInt32 >>> ((8 : Int32) &&& 31).toUInt32).toInt32).toInt8.toInt32).toInt8.toInt32)) ((((0 + 1) + 2) + k) + 3) (((((x2.toUInt64 >>> ((32 : Int32) &&& 0x3f).toInt64.toUInt64).toInt64).toInt32).toInt8.toInt32).toInt8.toInt32)) ((((0 + 1) + 2) + k) + 4) (((((x2.toInt32).toUInt32 >>> ((24 : Int32) &&& 31).toUInt32).toInt32).toInt8.toInt32).toInt8.toInt32)) (((((0 + 1) + 2) + k) + 4) + 1) (((((x2.toInt32).toUInt32 >>> ((16 : Int32) &&& 31).toUInt32).toInt32).toInt8.toInt32).toInt8.toInt32)) (((((0 + 1) + 2) + k) + 4) + 2) (((((x2.toInt32).toUInt32 >>> ((8 : Int32) &&& 31).toUInt32).toInt32).toInt8.toInt32).toInt8.toInt32)) (((((0 + 1) + 2) + k) + 4) + 3) (((x2.toInt32).toInt8.toInt32).toInt8.toInt32)) B586 (by omega) (by decide)) rfl at_109 rfl own_pd4 rfl rfl 0 (Nat.le_of_eq rfl) (by decide) (by decide) (by decide) (by decide) ?_
          rintro T599 h600 v601 X602 ⟨r594, rfl, ge595, sz596, K597, V598⟩
          have ne603 : a506 ≠ r594 := Nat.ne_of_lt (Nat.lt_of_lt_of_le ltB.1 sz596)
          have ne604 : b583 ≠ r594 := Nat.ne_of_lt (Nat.lt_of_lt_of_le ltB.2 sz596)
          have B605 := B586.keep K597 nin0 nin0
          have E606 := B605.1
          replace X602 : own_Sx n0 K T599 h600 10 3897 := X602
          show own_Fin n0 K _ T599 112 #[.val (.int x0), .val (.int x1), .val (.long x2), .second, .val (.int x3), .val (.int (x3 &&& (511 : Int32))), .val (.ref a3), .val (.int (((x1.toUInt32 >>> ((16 : Int32) &&& 31).toUInt32).toInt32).toInt8.toInt32)), .val (.int (((x0.toUInt32 >>> ((8 : Int32) &&& 31).toUInt32).toInt32).toInt8.toInt32)), .val (.ref a506), .val (.ref r528), .unset, .unset, .unset, .unset] [(.ref r594)]
          refine own_astore M X602 (L' := #[.val (.int x0), .val (.int x1), .val (.long x2), .second, .val (.int x3), .val (.int (x3 &&& (511 : Int32))), .val (.ref a3), .val (.int (((x1.toUInt32 >>> ((16 : Int32) &&& 31).toUInt32).toInt32).toInt8.toInt32)), .val (.int (((x0.toUInt32 >>> ((8 : Int32) &&& 31).toUInt32).toInt32).toInt8.toInt32)), .val (.ref a506), .val (.ref r528), .val (.ref r594), .unset, .unset, .unset]) at_112 rfl rfl rfl ?_
          refine own_aload M X602 at_114 rfl rfl rfl ?_
          refine own_arraylength M X602 (z := (Int32.ofNat (0 + 1 + 2 + k + 8))) V598 ((own_ofn (by omega)).trans (by omega)) at_116 rfl ?_
          refine own_bipush M X602 (v := (11 : Int32)) at_117 rfl rfl ?_
          refine own_iload M X602 at_119 rfl rfl ?_
          refine own_iadd M X602 at_121 rfl ?_
          refine own_icmp_eq M X602 at_122 (by decide) rfl rfl (fun q607 => ?_) (fun q607 => ?_)
          · skip
            refine own_aload M X602 at_127 rfl rfl rfl ?_
            refine own_iconst M X602 (v := (0 : Int32)) at_129 rfl rfl ?_
            refine own_baload M X602 V598 (i := 0) (by decide) (by omega) (congrArg Value.int ((own_updI_ne (by omega)).trans ((own_updI_ne (by omega)).trans ((own_updI_ne (by omega)).trans ((own_updI_ne (by omega)).trans ((own_updI_ne (by omega)).trans ((own_updI_ne (by omega)).trans ((own_updI_ne (by omega)).trans ((own_updI_ne (by omega)).trans ((own_W_ne (by omega)).trans ((own_updI_ne (by omega)).trans ((own_updI_ne (by omega)).trans ((own_updI_at (by omega)).trans (own_bb _)))))))))))))) at_130 rfl ?_
            refine own_iloadN M X602 at_131 rfl rfl ?_
            refine own_i2b M X602 at_132 rfl ?_
            refine own_icmp_ne M X602 at_133 (by decide) rfl rfl (fun q608 => ?_) (fun q608 => ?_)
            · exact absurd rfl q608
            · skip
              refine own_aload M X602 at_136 rfl rfl rfl ?_
              refine own_iconst M X602 (v := (1 : Int32)) at_138 rfl rfl ?_
              refine own_baload M X602 V598 (i := 1) (by decide) (by omega) (congrArg Value.int ((own_updI_ne (by omega)).trans ((own_updI_ne (by omega)).trans ((own_updI_ne (by omega)).trans ((own_updI_ne (by omega)).trans ((own_updI_ne (by omega)).trans ((own_updI_ne (by omega)).trans ((own_updI_ne (by omega)).trans ((own_updI_ne (by omega)).trans ((own_W_ne (by omega)).trans ((own_updI_ne (by omega)).trans ((own_updI_at (by omega)).trans (own_bb _))))))))))))) at_139 rfl ?_
              refine own_iloadN M X602 at_140 rfl rfl ?_
              refine own_bipush M X602 (v := (8 : Int32)) at_141 rfl rfl ?_
              refine own_iushr M X602 at_143 rfl ?_
              refine own_i2b M X602 at_144 rfl ?_
              refine own_icmp_ne M X602 at_145 (by decide) rfl rfl (fun q609 => ?_) (fun q609 => ?_)
              · exact absurd rfl q609
              · skip
                refine own_aload M X602 at_148 rfl rfl rfl ?_
                refine own_iconst M X602 (v := (2 : Int32)) at_150 rfl rfl ?_
                refine own_baload M X602 V598 (i := 2) (by decide) (by omega) (congrArg Value.int ((own_updI_ne (by omega)).trans ((own_updI_ne (by omega)).trans ((own_updI_ne (by omega)).trans ((own_updI_ne (by omega)).trans ((own_updI_ne (by omega)).trans ((own_updI_ne (by omega)).trans ((own_updI_ne (by omega)).trans ((own_updI_ne (by omega)).trans ((own_W_ne (by omega)).trans ((own_updI_at (by omega)).trans (own_bb _)))))))))))) at_151 rfl ?_
                refine own_iloadN M X602 at_152 rfl rfl ?_
                refine own_i2b M X602 at_153 rfl ?_
                refine own_icmp_ne M X602 at_154 (by decide) rfl rfl (fun q610 => ?_) (fun q610 => ?_)
                · exact absurd rfl q610
                · skip
                  refine own_iconst M X602 (v := (1 : Int32)) at_157 rfl rfl ?_
                  refine own_goto M X602 at_158 (by decide) rfl ?_
                  refine own_istore M X602 (L' := #[.val (.int x0), .val (.int x1), .val (.long x2), .second, .val (.int x3), .val (.int (x3 &&& (511 : Int32))), .val (.ref a3), .val (.int (((x1.toUInt32 >>> ((16 : Int32) &&& 31).toUInt32).toInt32).toInt8.toInt32)), .val (.int (((x0.toUInt32 >>> ((8 : Int32) &&& 31).toUInt32).toInt32).toInt8.toInt32)), .val (.ref a506), .val (.ref r528), .val (.ref r594), .val (.int (1 : Int32)), .unset, .unset]) at_162 rfl rfl ?_
                  refine own_iload M X602 at_164 rfl rfl ?_
                  refine own_iconst M X602 (v := (2 : Int32)) at_166 rfl rfl ?_
                  refine own_icmp_lt M X602 at_167 (by decide) rfl rfl (fun q611 => ?_) (fun q611 => ?_)
                  · exact absurd q611 c2
                  · skip
                    refine own_iload M X602 at_170 rfl rfl ?_
                    refine own_if_eq M X602 at_172 (by decide) rfl rfl (fun q612 => ?_) (fun q612 => ?_)
                    · exact absurd q612 (by decide)
                    · skip
                      refine own_aload M X602 at_175 rfl rfl rfl ?_
                      refine own_iconst M X602 (v := (3 : Int32)) at_177 rfl rfl ?_
                      refine own_baload M X602 V598 (i := 3) (by decide) (by omega) (congrArg Value.int ((own_updI_ne (by omega)).trans ((own_updI_ne (by omega)).trans ((own_updI_ne (by omega)).trans ((own_updI_ne (by omega)).trans ((own_updI_ne (by omega)).trans ((own_updI_ne (by omega)).trans ((own_updI_ne (by omega)).trans ((own_updI_ne (by omega)).trans ((own_W_at (i := 0) (by omega) (by omega)).trans ((own_updI_ne (by omega)).trans ((own_updI_at rfl).trans (own_bb _))))))))))))) at_178 rfl ?_
                      refine own_iload M X602 at_179 rfl rfl ?_
                      refine own_icmp_ne M X602 at_181 (by decide) rfl rfl (fun q613 => ?_) (fun q613 => ?_)
                      · exact absurd rfl q613
                      · skip
                        refine own_iconst M X602 (v := (1 : Int32)) at_184 rfl rfl ?_
                        refine own_goto M X602 at_185 (by decide) rfl ?_
                        refine own_istore M X602 (L' := #[.val (.int x0), .val (.int x1), .val (.long x2), .second, .val (.int x3), .val (.int (x3 &&& (511 : Int32))), .val (.ref a3), .val (.int (((x1.toUInt32 >>> ((16 : Int32) &&& 31).toUInt32).toInt32).toInt8.toInt32)), .val (.int (((x0.toUInt32 >>> ((8 : Int32) &&& 31).toUInt32).toInt32).toInt8.toInt32)), .val (.ref a506), .val (.ref r528), .val (.ref r594), .val (.int (1 : Int32)), .unset, .unset]) at_189 rfl rfl ?_
                        refine own_iload M X602 at_191 rfl rfl ?_
                        refine own_iconst M X602 (v := (1 : Int32)) at_193 rfl rfl ?_
                        refine own_icmp_lt M X602 at_194 (by decide) rfl rfl (fun q614 => ?_) (fun q614 => ?_)
                        · exact absurd q614 c1
                        · skip
                          refine own_iload M X602 at_197 rfl rfl ?_
                          refine own_if_eq M X602 at_199 (by decide) rfl rfl (fun q615 => ?_) (fun q615 => ?_)
                          · exact absurd q615 (by decide)
                          · skip
                            refine own_aload M X602 at_202 rfl rfl rfl ?_
                            refine own_iconst M X602 (v := (2 : Int32)) at_204 rfl rfl ?_
                            refine own_iload M X602 at_205 rfl rfl ?_
                            refine own_iadd M X602 at_207 rfl ?_
                            refine own_baload M X602 V598 (i := (2 + k)) (own_sum (by decide : (2 : Int32).toInt = (2 : Nat)) hk (by omega)) (by omega) (congrArg Value.int ((own_updI_ne (by omega)).trans ((own_updI_ne (by omega)).trans ((own_updI_ne (by omega)).trans ((own_updI_ne (by omega)).trans ((own_updI_ne (by omega)).trans ((own_updI_ne (by omega)).trans ((own_updI_ne (by omega)).trans ((own_updI_ne (by omega)).trans ((own_W_at (i := (k - 1)) (by omega) (by omega)).trans ((own_updI_at rfl).trans (own_bb _)))))))))))) at_208 rfl ?_
                            refine own_iload M X602 at_209 rfl rfl ?_
                            refine own_icmp_ne M X602 at_211 (by decide) rfl rfl (fun q616 => ?_) (fun q616 => ?_)
                            · exact absurd rfl q616
                            · skip
                              refine own_iconst M X602 (v := (1 : Int32)) at_214 rfl rfl ?_
                              refine own_goto M X602 at_215 (by decide) rfl ?_
                              refine own_istore M X602 (L' := #[.val (.int x0), .val (.int x1), .val (.long x2), .second, .val (.int x3), .val (.int (x3 &&& (511 : Int32))), .val (.ref a3), .val (.int (((x1.toUInt32 >>> ((16 : Int32) &&& 31).toUInt32).toInt32).toInt8.toInt32)), .val (.int (((x0.toUInt32 >>> ((8 : Int32) &&& 31).toUInt32).toInt32).toInt8.toInt32)), .val (.ref a506), .val (.ref r528), .val (.ref r594), .val (.int (1 : Int32)), .unset, .unset]) at_219 rfl rfl ?_
                              refine own_iload M X602 at_221 rfl rfl ?_
                              refine own_iconst M X602 (v := (3 : Int32)) at_223 rfl rfl ?_
                              refine own_icmp_lt M X602 at_224 (by decide) rfl rfl (fun q617 => ?_) (fun q617 => ?_)
                              · exact absurd q617 c3
                              · skip
                                refine own_iload M X602 at_227 rfl rfl ?_
                                refine own_if_eq M X602 at_229 (by decide) rfl rfl (fun q618 => ?_) (fun q618 => ?_)
                                · exact absurd q618 (by decide)
                                · skip
                                  refine own_aload M X602 at_232 rfl rfl rfl ?_
                                  refine own_iconst M X602 (v := (3 : Int32)) at_234 rfl rfl ?_
                                  refine own_iload M X602 at_235 rfl rfl ?_
                                  refine own_iconst M X602 (v := (2 : Int32)) at_237 rfl rfl ?_
                                  refine own_idiv M X602 at_238 (by decide) rfl ?_
                                  refine own_iadd M X602 at_239 rfl ?_
                                  refine own_baload M X602 V598 (i := (3 + k / 2)) (own_sum (by decide : (3 : Int32).toInt = (3 : Nat)) (own_half hk) (by omega)) (by omega) (congrArg Value.int ((own_updI_ne (by omega)).trans ((own_updI_ne (by omega)).trans ((own_updI_ne (by omega)).trans ((own_updI_ne (by omega)).trans ((own_updI_ne (by omega)).trans ((own_updI_ne (by omega)).trans ((own_updI_ne (by omega)).trans ((own_updI_ne (by omega)).trans ((own_W_at (i := (k / 2)) (by omega) (by omega)).trans ((own_updI_ne (by omega)).trans ((own_updI_ne (by omega)).trans (rfl))))))))))))) at_240 rfl ?_
                                  refine own_if_ne M X602 at_241 (by decide) rfl rfl (fun q619 => ?_) (fun q619 => ?_)
                                  · exact absurd (by decide) q619
                                  · skip
                                    refine own_iconst M X602 (v := (1 : Int32)) at_244 rfl rfl ?_
                                    refine own_goto M X602 at_245 (by decide) rfl ?_
                                    refine own_istore M X602 (L' := #[.val (.int x0), .val (.int x1), .val (.long x2), .second, .val (.int x3), .val (.int (x3 &&& (511 : Int32))), .val (.ref a3), .val (.int (((x1.toUInt32 >>> ((16 : Int32) &&& 31).toUInt32).toInt32).toInt8.toInt32)), .val (.int (((x0.toUInt32 >>> ((8 : Int32) &&& 31).toUInt32).toInt32).toInt8.toInt32)), .val (.ref a506), .val (.ref r528), .val (.ref r594), .val (.int (1 : Int32)), .unset, .unset]) at_249 rfl rfl ?_
                                    refine own_iconst M X602 (v := (3 : Int32)) at_251 rfl rfl ?_
                                    refine own_iload M X602 at_252 rfl rfl ?_
                                    refine own_iadd M X602 at_254 rfl ?_
                                    refine own_istore M X602 (L' := #[.val (.int x0), .val (.int x1), .val (.long x2), .second, .val (.int x3), .val (.int (x3 &&& (511 : Int32))), .val (.ref a3), .val (.int (((x1.toUInt32 >>> ((16 : Int32) &&& 31).toUInt32).toInt32).toInt8.toInt32)), .val (.int (((x0.toUInt32 >>> ((8 : Int32) &&& 31).toUInt32).toInt32).toInt8.toInt32)), .val (.ref a506), .val (.ref r528), .val (.ref r594), .val (.int (1 : Int32)), .val (.int ((3 : Int32) + (x3 &&& (511 : Int32)))), .unset]) at_255 rfl rfl ?_
                                    refine own_iload M X602 at_257 rfl rfl ?_
                                    refine own_if_eq M X602 at_259 (by decide) rfl rfl (fun q620 => ?_) (fun q620 => ?_)
                                    · exact absurd q620 (by decide)
                                    · skip
                                      refine own_aload M X602 at_262 rfl rfl rfl ?_
                                      refine own_iload M X602 at_264 rfl rfl ?_
                                      refine own_baload M X602 V598 (i := (3 + k)) (own_sum (by decide : (3 : Int32).toInt = (3 : Nat)) hk (by omega)) (by omega) (congrArg Value.int ((own_updI_ne (by omega)).trans ((own_updI_ne (by omega)).trans ((own_updI_ne (by omega)).trans ((own_updI_ne (by omega)).trans ((own_updI_ne (by omega)).trans ((own_updI_ne (by omega)).trans ((own_updI_ne (by omega)).trans ((own_updI_at (by omega)).trans (own_L56 x2)))))))))) at_266 rfl ?_
                                      refine own_lloadN M X602 at_267 rfl rfl ?_
                                      refine own_bipush M X602 (v := (56 : Int32)) at_268 rfl rfl ?_
                                      refine own_lushr M X602 at_270 rfl ?_
                                      refine own_l2i M X602 at_271 rfl ?_
                                      refine own_i2b M X602 at_272 rfl ?_
                                      refine own_icmp_ne M X602 at_273 (by decide) rfl rfl (fun q621 => ?_) (fun q621 => ?_)
                                      · exact absurd rfl q621
                                      · skip
                                        refine own_aload M X602 at_276 rfl rfl rfl ?_
                                        refine own_iload M X602 at_278 rfl rfl ?_
                                        refine own_iconst M X602 (v := (1 : Int32)) at_280 rfl rfl ?_
                                        refine own_iadd M X602 at_281 rfl ?_
                                        refine own_baload M X602 V598 (i := (3 + k + 1)) (own_sum (own_sum (by decide : (3 : Int32).toInt = (3 : Nat)) hk (by omega)) (by decide : (1 : Int32).toInt = (1 : Nat)) (by omega)) (by omega) (congrArg Value.int ((own_updI_ne (by omega)).trans ((own_updI_ne (by omega)).trans ((own_updI_ne (by omega)).trans ((own_updI_ne (by omega)).trans ((own_updI_ne (by omega)).trans ((own_updI_ne (by omega)).trans ((own_updI_at (by omega)).trans (own_L48 x2))))))))) at_282 rfl ?_
                                        refine own_lloadN M X602 at_283 rfl rfl ?_
                                        refine own_bipush M X602 (v := (48 : Int32)) at_284 rfl rfl ?_
                                        refine own_lushr M X602 at_286 rfl ?_
                                        refine own_l2i M X602 at_287 rfl ?_
                                        refine own_i2b M X602 at_288 rfl ?_
                                        refine own_icmp_ne M X602 at_289 (by decide) rfl rfl (fun q622 => ?_) (fun q622 => ?_)
                                        · exact absurd rfl q622
                                        · skip
                                          refine own_aload M X602 at_292 rfl rfl rfl ?_
                                          refine own_iload M X602 at_294 rfl rfl ?_
                                          refine own_iconst M X602 (v := (2 : Int32)) at_296 rfl rfl ?_
                                          refine own_iadd M X602 at_297 rfl ?_
                                          refine own_baload M X602 V598 (i := (3 + k + 2)) (own_sum (own_sum (by decide : (3 : Int32).toInt = (3 : Nat)) hk (by omega)) (by decide : (2 : Int32).toInt = (2 : Nat)) (by omega)) (by omega) (congrArg Value.int ((own_updI_ne (by omega)).trans ((own_updI_ne (by omega)).trans ((own_updI_ne (by omega)).trans ((own_updI_ne (by omega)).trans ((own_updI_ne (by omega)).trans ((own_updI_at (by omega)).trans (own_L40 x2)))))))) at_298 rfl ?_
                                          refine own_lloadN M X602 at_299 rfl rfl ?_
                                          refine own_bipush M X602 (v := (40 : Int32)) at_300 rfl rfl ?_
                                          refine own_lushr M X602 at_302 rfl ?_
                                          refine own_l2i M X602 at_303 rfl ?_
                                          refine own_i2b M X602 at_304 rfl ?_
                                          refine own_icmp_ne M X602 at_305 (by decide) rfl rfl (fun q623 => ?_) (fun q623 => ?_)
                                          · exact absurd rfl q623
                                          · skip
                                            refine own_aload M X602 at_308 rfl rfl rfl ?_
                                            refine own_iload M X602 at_310 rfl rfl ?_
                                            refine own_iconst M X602 (v := (3 : Int32)) at_312 rfl rfl ?_
                                            refine own_iadd M X602 at_313 rfl ?_
                                            refine own_baload M X602 V598 (i := (3 + k + 3)) (own_sum (own_sum (by decide : (3 : Int32).toInt = (3 : Nat)) hk (by omega)) (by decide : (3 : Int32).toInt = (3 : Nat)) (by omega)) (by omega) (congrArg Value.int ((own_updI_ne (by omega)).trans ((own_updI_ne (by omega)).trans ((own_updI_ne (by omega)).trans ((own_updI_ne (by omega)).trans ((own_updI_at (by omega)).trans (own_L32 x2))))))) at_314 rfl ?_
                                            refine own_lloadN M X602 at_315 rfl rfl ?_
                                            refine own_bipush M X602 (v := (32 : Int32)) at_316 rfl rfl ?_
                                            refine own_lushr M X602 at_318 rfl ?_
                                            refine own_l2i M X602 at_319 rfl ?_
                                            refine own_i2b M X602 at_320 rfl ?_
                                            refine own_icmp_ne M X602 at_321 (by decide) rfl rfl (fun q624 => ?_) (fun q624 => ?_)
                                            · exact absurd rfl q624
                                            · skip
                                              refine own_aload M X602 at_324 rfl rfl rfl ?_
                                              refine own_iload M X602 at_326 rfl rfl ?_
                                              refine own_iconst M X602 (v := (4 : Int32)) at_328 rfl rfl ?_
                                              refine own_iadd M X602 at_329 rfl ?_
                                              refine own_baload M X602 V598 (i := (3 + k + 4)) (own_sum (own_sum (by decide : (3 : Int32).toInt = (3 : Nat)) hk (by omega)) (by decide : (4 : Int32).toInt = (4 : Nat)) (by omega)) (by omega) (congrArg Value.int ((own_updI_ne (by omega)).trans ((own_updI_ne (by omega)).trans ((own_updI_ne (by omega)).trans ((own_updI_at (by omega)).trans (own_L24 x2)))))) at_330 rfl ?_
                                              refine own_lloadN M X602 at_331 rfl rfl ?_
                                              refine own_bipush M X602 (v := (24 : Int32)) at_332 rfl rfl ?_
                                              refine own_lushr M X602 at_334 rfl ?_
                                              refine own_l2i M X602 at_335 rfl ?_
                                              refine own_i2b M X602 at_336 rfl ?_
                                              refine own_icmp_ne M X602 at_337 (by decide) rfl rfl (fun q625 => ?_) (fun q625 => ?_)
                                              · exact absurd rfl q625
                                              · skip
                                                refine own_aload M X602 at_340 rfl rfl rfl ?_
                                                refine own_iload M X602 at_342 rfl rfl ?_
                                                refine own_iconst M X602 (v := (5 : Int32)) at_344 rfl rfl ?_
                                                refine own_iadd M X602 at_345 rfl ?_
                                                refine own_baload M X602 V598 (i := (3 + k + 5)) (own_sum (own_sum (by decide : (3 : Int32).toInt = (3 : Nat)) hk (by omega)) (by decide : (5 : Int32).toInt = (5 : Nat)) (by omega)) (by omega) (congrArg Value.int ((own_updI_ne (by omega)).trans ((own_updI_ne (by omega)).trans ((own_updI_at (by omega)).trans (own_L16 x2))))) at_346 rfl ?_
                                                refine own_lloadN M X602 at_347 rfl rfl ?_
                                                refine own_bipush M X602 (v := (16 : Int32)) at_348 rfl rfl ?_
                                                refine own_lushr M X602 at_350 rfl ?_
                                                refine own_l2i M X602 at_351 rfl ?_
                                                refine own_i2b M X602 at_352 rfl ?_
                                                refine own_icmp_ne M X602 at_353 (by decide) rfl rfl (fun q626 => ?_) (fun q626 => ?_)
                                                · exact absurd rfl q626
                                                · skip
                                                  refine own_aload M X602 at_356 rfl rfl rfl ?_
                                                  refine own_iload M X602 at_358 rfl rfl ?_
                                                  refine own_bipush M X602 (v := (6 : Int32)) at_360 rfl rfl ?_
                                                  refine own_iadd M X602 at_362 rfl ?_
                                                  refine own_baload M X602 V598 (i := (3 + k + 6)) (own_sum (own_sum (by decide : (3 : Int32).toInt = (3 : Nat)) hk (by omega)) (by decide : (6 : Int32).toInt = (6 : Nat)) (by omega)) (by omega) (congrArg Value.int ((own_updI_ne (by omega)).trans ((own_updI_at (by omega)).trans (own_L8 x2)))) at_363 rfl ?_
                                                  refine own_lloadN M X602 at_364 rfl rfl ?_
                                                  refine own_bipush M X602 (v := (8 : Int32)) at_365 rfl rfl ?_
                                                  refine own_lushr M X602 at_367 rfl ?_
                                                  refine own_l2i M X602 at_368 rfl ?_
                                                  refine own_i2b M X602 at_369 rfl ?_
                                                  refine own_icmp_ne M X602 at_370 (by decide) rfl rfl (fun q627 => ?_) (fun q627 => ?_)
                                                  · exact absurd rfl q627
                                                  · skip
                                                    refine own_aload M X602 at_373 rfl rfl rfl ?_
                                                    refine own_iload M X602 at_375 rfl rfl ?_
                                                    refine own_bipush M X602 (v := (7 : Int32)) at_377 rfl rfl ?_
                                                    refine own_iadd M X602 at_379 rfl ?_
                                                    refine own_baload M X602 V598 (i := (3 + k + 7)) (own_sum (own_sum (by decide : (3 : Int32).toInt = (3 : Nat)) hk (by omega)) (by decide : (7 : Int32).toInt = (7 : Nat)) (by omega)) (by omega) (congrArg Value.int ((own_updI_at (by omega)).trans (own_L0 x2))) at_380 rfl ?_
                                                    refine own_lloadN M X602 at_381 rfl rfl ?_
                                                    refine own_l2i M X602 at_382 rfl ?_
                                                    refine own_i2b M X602 at_383 rfl ?_
                                                    refine own_icmp_ne M X602 at_384 (by decide) rfl rfl (fun q628 => ?_) (fun q628 => ?_)
                                                    · exact absurd rfl q628
                                                    · skip
                                                      refine own_iconst M X602 (v := (1 : Int32)) at_387 rfl rfl ?_
                                                      refine own_goto M X602 at_388 (by decide) rfl ?_
                                                      refine own_istore M X602 (L' := #[.val (.int x0), .val (.int x1), .val (.long x2), .second, .val (.int x3), .val (.int (x3 &&& (511 : Int32))), .val (.ref a3), .val (.int (((x1.toUInt32 >>> ((16 : Int32) &&& 31).toUInt32).toInt32).toInt8.toInt32)), .val (.int (((x0.toUInt32 >>> ((8 : Int32) &&& 31).toUInt32).toInt32).toInt8.toInt32)), .val (.ref a506), .val (.ref r528), .val (.ref r594), .val (.int (1 : Int32)), .val (.int ((3 : Int32) + (x3 &&& (511 : Int32)))), .unset]) at_392 rfl rfl ?_
                                                      refine own_aload M X602 at_394 rfl rfl rfl ?_
                                                      refine own_iconst M X602 (v := (0 : Int32)) at_396 rfl rfl ?_
                                                      refine own_aload M X602 at_397 rfl rfl rfl ?_
                                                      refine own_iconst M X602 (v := (0 : Int32)) at_399 rfl rfl ?_
                                                      refine own_baload M X602 V598 (i := 0) (by decide) (by omega) (congrArg Value.int ((own_updI_ne (by omega)).trans ((own_updI_ne (by omega)).trans ((own_updI_ne (by omega)).trans ((own_updI_ne (by omega)).trans ((own_updI_ne (by omega)).trans ((own_updI_ne (by omega)).trans ((own_updI_ne (by omega)).trans ((own_updI_ne (by omega)).trans ((own_W_ne (by omega)).trans ((own_updI_ne (by omega)).trans ((own_updI_ne (by omega)).trans ((own_updI_at (by omega)).trans (own_bb _)))))))))))))) at_400 rfl ?_
                                                      refine own_iconst M X602 (v := (-1 : Int32)) at_401 rfl rfl ?_
                                                      refine own_ixor M X602 at_402 rfl ?_
                                                      refine own_i2b M X602 at_403 rfl ?_
                                                      refine own_bastore M X602 V598 ge595 (i := 0) (by decide) (by omega) at_404 rfl ?_
                                                      intro T629 h630 X631 K632 V633
                                                      replace V633 : own_Va Z h630 r594 .byte ((((0 + 1) + 2) + k) + 4 + 4) (fun j => .int ((own_updI (own_updI (own_updI (own_updI (own_updI (own_updI (own_updI (own_updI (own_updI (own_upW (own_updI (own_updI (own_updI (fun _ => 0) 0 ((x0.toInt8.toInt32).toInt8.toInt32)) (0 + 1) ((((x1.toUInt32 >>> ((8 : Int32) &&& 31).toUInt32).toInt32).toInt8.toInt32).toInt8.toInt32)) ((0 + 1) + 1) ((x1.toInt8.toInt32).toInt8.toInt32)) (own_updI (own_updI (fun _ => 0) 0 ((((x1.toUInt32 >>> ((16 : Int32) &&& 31).toUInt32).toInt32).toInt8.toInt32).toInt8.toInt32)) (k - 1) ((((x0.toUInt32 >>> ((8 : Int32) &&& 31).toUInt32).toInt32).toInt8.toInt32).toInt8.toInt32)) ((0 + 1) + 2) k) (((0 + 1) + 2) + k) (((((((x2.toUInt64 >>> ((32 : Int32) &&& 0x3f).toInt64.toUInt64).toInt64).toInt32).toUInt32 >>> ((24 : Int32) &&& 31).toUInt32).toInt32).toInt8.toInt32).toInt8.toInt32)) ((((0 + 1) + 2) + k) + 1) (((((((x2.toUInt64 >>> ((32 : Int32) &&& 0x3f).toInt64.toUInt64).toInt64).toInt32).toUInt32 >>> ((16 : Int32) &&& 31).toUInt32).toInt32).toInt8.toInt32).toInt8.toInt32)) ((((0 + 1) + 2) + k) + 2) (((((((x2.toUInt64 >>> ((32 : Int32) &&& 0x3f).toInt64.toUInt64).toInt64).toInt32).toUInt32 >>> ((8 : Int32) &&& 31).toUInt32).toInt32).toInt8.toInt32).toInt8.toInt32)) ((((0 + 1) + 2) + k) + 3) (((((x2.toUInt64 >>> ((32 : Int32) &&& 0x3f).toInt64.toUInt64).toInt64).toInt32).toInt8.toInt32).toInt8.toInt32)) ((((0 + 1) + 2) + k) + 4) (((((x2.toInt32).toUInt32 >>> ((24 : Int32) &&& 31).toUInt32).toInt32).toInt8.toInt32).toInt8.toInt32)) (((((0 + 1) + 2) + k) + 4) + 1) (((((x2.toInt32).toUInt32 >>> ((16 : Int32) &&& 31).toUInt32).toInt32).toInt8.toInt32).toInt8.toInt32)) (((((0 + 1) + 2) + k) + 4) + 2) (((((x2.toInt32).toUInt32 >>> ((8 : Int32) &&& 31).toUInt32).toInt32).toInt8.toInt32).toInt8.toInt32)) (((((0 + 1) + 2) + k) + 4) + 3) (((x2.toInt32).toInt8.toInt32).toInt8.toInt32)) 0 ((((x0.toInt8.toInt32) ^^^ (-1 : Int32)).toInt8.toInt32).toInt8.toInt32)) j)) := V633.congr (fun j _ => own_updIV (f := (own_updI (own_updI (own_updI (own_updI (own_updI (own_updI (own_updI (own_updI (own_upW (own_updI (own_updI (own_updI (fun _ => 0) 0 ((x0.toInt8.toInt32).toInt8.toInt32)) (0 + 1) ((((x1.toUInt32 >>> ((8 : Int32) &&& 31).toUInt32).toInt32).toInt8.toInt32).toInt8.toInt32)) ((0 + 1) + 1) ((x1.toInt8.toInt32).toInt8.toInt32)) (own_updI (own_updI (fun _ => 0) 0 ((((x1.toUInt32 >>> ((16 : Int32) &&& 31).toUInt32).toInt32).toInt8.toInt32).toInt8.toInt32)) (k - 1) ((((x0.toUInt32 >>> ((8 : Int32) &&& 31).toUInt32).toInt32).toInt8.toInt32).toInt8.toInt32)) ((0 + 1) + 2) k) (((0 + 1) + 2) + k) (((((((x2.toUInt64 >>> ((32 : Int32) &&& 0x3f).toInt64.toUInt64).toInt64).toInt32).toUInt32 >>> ((24 : Int32) &&& 31).toUInt32).toInt32).toInt8.toInt32).toInt8.toInt32)) ((((0 + 1) + 2) + k) + 1) (((((((x2.toUInt64 >>> ((32 : Int32) &&& 0x3f).toInt64.toUInt64).toInt64).toInt32).toUInt32 >>> ((16 : Int32) &&& 31).toUInt32).toInt32).toInt8.toInt32).toInt8.toInt32)) ((((0 + 1) + 2) + k) + 2) (((((((x2.toUInt64 >>> ((32 : Int32) &&& 0x3f).toInt64.toUInt64).toInt64).toInt32).toUInt32 >>> ((8 : Int32) &&& 31).toUInt32).toInt32).toInt8.toInt32).toInt8.toInt32)) ((((0 + 1) + 2) + k) + 3) (((((x2.toUInt64 >>> ((32 : Int32) &&& 0x3f).toInt64.toUInt64).toInt64).toInt32).toInt8.toInt32).toInt8.toInt32)) ((((0 + 1) + 2) + k) + 4) (((((x2.toInt32).toUInt32 >>> ((24 : Int32) &&& 31).toUInt32).toInt32).toInt8.toInt32).toInt8.toInt32)) (((((0 + 1) + 2) + k) + 4) + 1) (((((x2.toInt32).toUInt32 >>> ((16 : Int32) &&& 31).toUInt32).toInt32).toInt8.toInt32).toInt8.toInt32)) (((((0 + 1) + 2) + k) + 4) + 2) (((((x2.toInt32).toUInt32 >>> ((8 : Int32) &&& 31).toUInt32).toInt32).toInt8.toInt32).toInt8.toInt32)) (((((0 + 1) + 2) + k) + 4) + 3) (((x2.toInt32).toInt8.toInt32).toInt8.toInt32))))
                                                      have E634 := E606.keep K632
                                                      have B635 := B605.keep K632 (ninS ne603 nin0) (ninS ne604 nin0)
                                                      refine own_aload M X631 at_405 rfl rfl rfl ?_
                                                      refine own_iload M X631 at_407 rfl rfl ?_
                                                      refine own_bipush M X631 (v := (7 : Int32)) at_409 rfl rfl ?_
                                                      refine own_iadd M X631 at_411 rfl ?_
                                                      refine own_aload M X631 at_412 rfl rfl rfl ?_
                                                      refine own_iload M X631 at_414 rfl rfl ?_
                                                      refine own_bipush M X631 (v := (7 : Int32)) at_416 rfl rfl ?_
                                                      refine own_iadd M X631 at_418 rfl ?_
                                                      refine own_baload M X631 V633 (i := (3 + k + 7)) (own_sum (own_sum (by decide : (3 : Int32).toInt = (3 : Nat)) hk (by omega)) (by decide : (7 : Int32).toInt = (7 : Nat)) (by omega)) (by omega) (congrArg Value.int ((own_updI_ne (by omega)).trans ((own_updI_at (by omega)).trans (own_L0 x2)))) at_419 rfl ?_
                                                      refine own_iconst M X631 (v := (1 : Int32)) at_420 rfl rfl ?_
                                                      refine own_ixor M X631 at_421 rfl ?_
                                                      refine own_i2b M X631 at_422 rfl ?_
                                                      refine own_bastore M X631 V633 ge595 (i := (3 + k + 7)) (own_sum (own_sum (by decide : (3 : Int32).toInt = (3 : Nat)) hk (by omega)) (by decide : (7 : Int32).toInt = (7 : Nat)) (by omega)) (by omega) at_423 rfl ?_
                                                      intro T636 h637 X638 K639 V640
                                                      replace V640 : own_Va Z h637 r594 .byte ((((0 + 1) + 2) + k) + 4 + 4) (fun j => .int ((own_updI (own_updI (own_updI (own_updI (own_updI (own_updI (own_updI (own_updI (own_updI (own_updI (own_upW (own_updI (own_updI (own_updI (fun _ => 0) 0 ((x0.toInt8.toInt32).toInt8.toInt32)) (0 + 1) ((((x1.toUInt32 >>> ((8 : Int32) &&& 31).toUInt32).toInt32).toInt8.toInt32).toInt8.toInt32)) ((0 + 1) + 1) ((x1.toInt8.toInt32).toInt8.toInt32)) (own_updI (own_updI (fun _ => 0) 0 ((((x1.toUInt32 >>> ((16 : Int32) &&& 31).toUInt32).toInt32).toInt8.toInt32).toInt8.toInt32)) (k - 1) ((((x0.toUInt32 >>> ((8 : Int32) &&& 31).toUInt32).toInt32).toInt8.toInt32).toInt8.toInt32)) ((0 + 1) + 2) k) (((0 + 1) + 2) + k) (((((((x2.toUInt64 >>> ((32 : Int32) &&& 0x3f).toInt64.toUInt64).toInt64).toInt32).toUInt32 >>> ((24 : Int32) &&& 31).toUInt32).toInt32).toInt8.toInt32).toInt8.toInt32)) ((((0 + 1) + 2) + k) + 1) (((((((x2.toUInt64 >>> ((32 : Int32) &&& 0x3f).toInt64.toUInt64).toInt64).toInt32).toUInt32 >>> ((16 : Int32) &&& 31).toUInt32).toInt32).toInt8.toInt32).toInt8.toInt32)) ((((0 + 1) + 2) + k) + 2) (((((((x2.toUInt64 >>> ((32 : Int32) &&& 0x3f).toInt64.toUInt64).toInt64).toInt32).toUInt32 >>> ((8 : Int32) &&& 31).toUInt32).toInt32).toInt8.toInt32).toInt8.toInt32)) ((((0 + 1) + 2) + k) + 3) (((((x2.toUInt64 >>> ((32 : Int32) &&& 0x3f).toInt64.toUInt64).toInt64).toInt32).toInt8.toInt32).toInt8.toInt32)) ((((0 + 1) + 2) + k) + 4) (((((x2.toInt32).toUInt32 >>> ((24 : Int32) &&& 31).toUInt32).toInt32).toInt8.toInt32).toInt8.toInt32)) (((((0 + 1) + 2) + k) + 4) + 1) (((((x2.toInt32).toUInt32 >>> ((16 : Int32) &&& 31).toUInt32).toInt32).toInt8.toInt32).toInt8.toInt32)) (((((0 + 1) + 2) + k) + 4) + 2) (((((x2.toInt32).toUInt32 >>> ((8 : Int32) &&& 31).toUInt32).toInt32).toInt8.toInt32).toInt8.toInt32)) (((((0 + 1) + 2) + k) + 4) + 3) (((x2.toInt32).toInt8.toInt32).toInt8.toInt32)) 0 ((((x0.toInt8.toInt32) ^^^ (-1 : Int32)).toInt8.toInt32).toInt8.toInt32)) (3 + k + 7) (((((x2.toInt32).toInt8.toInt32) ^^^ (1 : Int32)).toInt8.toInt32).toInt8.toInt32)) j)) := V640.congr (fun j _ => own_updIV (f := (own_updI (own_updI (own_updI (own_updI (own_updI (own_updI (own_updI (own_updI (own_updI (own_upW (own_updI (own_updI (own_updI (fun _ => 0) 0 ((x0.toInt8.toInt32).toInt8.toInt32)) (0 + 1) ((((x1.toUInt32 >>> ((8 : Int32) &&& 31).toUInt32).toInt32).toInt8.toInt32).toInt8.toInt32)) ((0 + 1) + 1) ((x1.toInt8.toInt32).toInt8.toInt32)) (own_updI (own_updI (fun _ => 0) 0 ((((x1.toUInt32 >>> ((16 : Int32) &&& 31).toUInt32).toInt32).toInt8.toInt32).toInt8.toInt32)) (k - 1) ((((x0.toUInt32 >>> ((8 : Int32) &&& 31).toUInt32).toInt32).toInt8.toInt32).toInt8.toInt32)) ((0 + 1) + 2) k) (((0 + 1) + 2) + k) (((((((x2.toUInt64 >>> ((32 : Int32) &&& 0x3f).toInt64.toUInt64).toInt64).toInt32).toUInt32 >>> ((24 : Int32) &&& 31).toUInt32).toInt32).toInt8.toInt32).toInt8.toInt32)) ((((0 + 1) + 2) + k) + 1) (((((((x2.toUInt64 >>> ((32 : Int32) &&& 0x3f).toInt64.toUInt64).toInt64).toInt32).toUInt32 >>> ((16 : Int32) &&& 31).toUInt32).toInt32).toInt8.toInt32).toInt8.toInt32)) ((((0 + 1) + 2) + k) + 2) (((((((x2.toUInt64 >>> ((32 : Int32) &&& 0x3f).toInt64.toUInt64).toInt64).toInt32).toUInt32 >>> ((8 : Int32) &&& 31).toUInt32).toInt32).toInt8.toInt32).toInt8.toInt32)) ((((0 + 1) + 2) + k) + 3) (((((x2.toUInt64 >>> ((32 : Int32) &&& 0x3f).toInt64.toUInt64).toInt64).toInt32).toInt8.toInt32).toInt8.toInt32)) ((((0 + 1) + 2) + k) + 4) (((((x2.toInt32).toUInt32 >>> ((24 : Int32) &&& 31).toUInt32).toInt32).toInt8.toInt32).toInt8.toInt32)) (((((0 + 1) + 2) + k) + 4) + 1) (((((x2.toInt32).toUInt32 >>> ((16 : Int32) &&& 31).toUInt32).toInt32).toInt8.toInt32).toInt8.toInt32)) (((((0 + 1) + 2) + k) + 4) + 2) (((((x2.toInt32).toUInt32 >>> ((8 : Int32) &&& 31).toUInt32).toInt32).toInt8.toInt32).toInt8.toInt32)) (((((0 + 1) + 2) + k) + 4) + 3) (((x2.toInt32).toInt8.toInt32).toInt8.toInt32)) 0 ((((x0.toInt8.toInt32) ^^^ (-1 : Int32)).toInt8.toInt32).toInt8.toInt32))))
                                                      have E641 := E634.keep K639
                                                      have B642 := B635.keep K639 (ninS ne603 nin0) (ninS ne604 nin0)
                                                      refine own_aload M X638 at_424 rfl rfl rfl ?_
                                                      have ltB := B642.lt
                                                      refine own_callV M X638 (yrm := ({ frames := 2, cells := 1, slots := 522, locals := 34 } : Room)) [] (hw _ (List.mem_of_getElem? (i := 12) rfl)) (hw _ (List.mem_of_getElem? (i := 14) rfl)) (hw _ (List.mem_of_getElem? (i := 13) rfl)) (hw _ (List.mem_of_getElem? (i := 15) rfl)) (hw _ (List.mem_of_getElem? (i := 3) rfl)) (hw _ (List.mem_of_getElem? (i := 16) rfl)) (by decide) E641 (met_3 _ Z a0 hw h637 n0 X638.size a506 b583 n584 ((((0 + 1) + 2) + k) + 4 + 4) 522 (own_updI (own_updI (own_updI (own_updI (own_updI (own_updI (own_updI (own_updI (own_upW (own_updI (own_updI (own_updI (fun _ => 0) 0 ((x0.toInt8.toInt32).toInt8.toInt32)) (0 + 1) ((((x1.toUInt32 >>> ((8 : Int32) &&& 31).toUInt32).toInt32).toInt8.toInt32).toInt8.toInt32)) ((0 + 1) + 1) ((x1.toInt8.toInt32).toInt8.toInt32)) (own_updI (own_updI (fun _ => 0) 0 ((((x1.toUInt32 >>> ((16 : Int32) &&& 31).toUInt32).toInt32).toInt8.toInt32).toInt8.toInt32)) (k - 1) ((((x0.toUInt32 >>> ((8 : Int32) &&& 31).toUInt32).toInt32).toInt8.toInt32).toInt8.toInt32)) ((0 + 1) + 2) k) (((0 + 1) + 2) + k) (((((((x2.toUInt64 >>> ((32 : Int32) &&& 0x3f).toInt64.toUInt64).toInt64).toInt32).toUInt32 >>> ((24 : Int32) &&& 31).toUInt32).toInt32).toInt8.toInt32).toInt8.toInt32)) ((((0 + 1) + 2) + k) + 1) (((((((x2.toUInt64 >>> ((32 : Int32) &&& 0x3f).toInt64.toUInt64).toInt64).toInt32).toUInt32 >>> ((16 : Int32) &&& 31).toUInt32).toInt32).toInt8.toInt32).toInt8.toInt32)) ((((0 + 1) + 2) + k) + 2) (((((((x2.toUInt64 >>> ((32 : Int32) &&& 0x3f).toInt64.toUInt64).toInt64).toInt32).toUInt32 >>> ((8 : Int32) &&& 31).toUInt32).toInt32).toInt8.toInt32).toInt8.toInt32)) ((((0 + 1) + 2) + k) + 3) (((((x2.toUInt64 >>> ((32 : Int32) &&& 0x3f).toInt64.toUInt64).toInt64).toInt32).toInt8.toInt32).toInt8.toInt32)) ((((0 + 1) + 2) + k) + 4) (((((x2.toInt32).toUInt32 >>> ((24 : Int32) &&& 31).toUInt32).toInt32).toInt8.toInt32).toInt8.toInt32)) (((((0 + 1) + 2) + k) + 4) + 1) (((((x2.toInt32).toUInt32 >>> ((16 : Int32) &&& 31).toUInt32).toInt32).toInt8.toInt32).toInt8.toInt32)) (((((0 + 1) + 2) + k) + 4) + 2) (((((x2.toInt32).toUInt32 >>> ((8 : Int32) &&& 31).toUInt32).toInt32).toInt8.toInt32).toInt8.toInt32)) (((((0 + 1) + 2) + k) + 4) + 3) (((x2.toInt32).toInt8.toInt32).toInt8.toInt32)) B642 (by omega) (by decide)) rfl at_426 rfl own_pd4 rfl rfl 0 (Nat.le_of_eq rfl) (by decide) (by decide) (by decide) (by decide) ?_
                                                      rintro T648 h649 v650 X651 ⟨r643, rfl, ge644, sz645, K646, V647⟩
                                                      have ne652 : r594 ≠ r643 := Nat.ne_of_lt (Nat.lt_of_lt_of_le V640.lt sz645)
                                                      have V653 := V640.keep K646 nin0
                                                      have ne654 : a506 ≠ r643 := Nat.ne_of_lt (Nat.lt_of_lt_of_le ltB.1 sz645)
                                                      have ne655 : b583 ≠ r643 := Nat.ne_of_lt (Nat.lt_of_lt_of_le ltB.2 sz645)
                                                      have B656 := B642.keep K646 nin0 nin0
                                                      have E657 := B656.1
                                                      replace X651 : own_Sx n0 K T648 h649 11 4419 := X651
                                                      show own_Fin n0 K _ T648 429 #[.val (.int x0), .val (.int x1), .val (.long x2), .second, .val (.int x3), .val (.int (x3 &&& (511 : Int32))), .val (.ref a3), .val (.int (((x1.toUInt32 >>> ((16 : Int32) &&& 31).toUInt32).toInt32).toInt8.toInt32)), .val (.int (((x0.toUInt32 >>> ((8 : Int32) &&& 31).toUInt32).toInt32).toInt8.toInt32)), .val (.ref a506), .val (.ref r528), .val (.ref r594), .val (.int (1 : Int32)), .val (.int ((3 : Int32) + (x3 &&& (511 : Int32)))), .unset] [(.ref r643)]
                                                      refine own_astore M X651 (L' := #[.val (.int x0), .val (.int x1), .val (.long x2), .second, .val (.int x3), .val (.int (x3 &&& (511 : Int32))), .val (.ref a3), .val (.int (((x1.toUInt32 >>> ((16 : Int32) &&& 31).toUInt32).toInt32).toInt8.toInt32)), .val (.int (((x0.toUInt32 >>> ((8 : Int32) &&& 31).toUInt32).toInt32).toInt8.toInt32)), .val (.ref a506), .val (.ref r528), .val (.ref r594), .val (.int (1 : Int32)), .val (.int ((3 : Int32) + (x3 &&& (511 : Int32)))), .val (.ref r643)]) at_429 rfl rfl rfl ?_
                                                      refine own_iload M X651 at_431 rfl rfl ?_
                                                      refine own_if_eq M X651 at_433 (by decide) rfl rfl (fun q658 => ?_) (fun q658 => ?_)
                                                      · exact absurd q658 (by decide)
                                                      · skip
                                                        refine own_aload M X651 at_436 rfl rfl rfl ?_
                                                        refine own_arraylength M X651 (z := (Int32.ofNat (0 + 1 + 2 + k + 8))) V647 ((own_ofn (by omega)).trans (by omega)) at_438 rfl ?_
                                                        refine own_bipush M X651 (v := (11 : Int32)) at_439 rfl rfl ?_
                                                        refine own_iload M X651 at_441 rfl rfl ?_
                                                        refine own_iadd M X651 at_443 rfl ?_
                                                        refine own_icmp_ne M X651 at_444 (by decide) rfl rfl (fun q659 => ?_) (fun q659 => ?_)
                                                        · exact absurd q607 q659
                                                        · skip
                                                          refine own_aload M X651 at_447 rfl rfl rfl ?_
                                                          refine own_iconst M X651 (v := (0 : Int32)) at_449 rfl rfl ?_
                                                          refine own_baload M X651 V647 (i := 0) (by decide) (by omega) (congrArg Value.int ((own_updI_ne (by omega)).trans ((own_updI_ne (by omega)).trans ((own_updI_ne (by omega)).trans ((own_updI_ne (by omega)).trans ((own_updI_ne (by omega)).trans ((own_updI_ne (by omega)).trans ((own_updI_ne (by omega)).trans ((own_updI_ne (by omega)).trans ((own_W_ne (by omega)).trans ((own_updI_ne (by omega)).trans ((own_updI_ne (by omega)).trans ((own_updI_at (by omega)).trans (own_bb _)))))))))))))) at_450 rfl ?_
                                                          refine own_iloadN M X651 at_451 rfl rfl ?_
                                                          refine own_i2b M X651 at_452 rfl ?_
                                                          refine own_icmp_ne M X651 at_453 (by decide) rfl rfl (fun q660 => ?_) (fun q660 => ?_)
                                                          · exact absurd rfl q660
                                                          · skip
                                                            refine own_aload M X651 at_456 rfl rfl rfl ?_
                                                            refine own_iload M X651 at_458 rfl rfl ?_
                                                            refine own_bipush M X651 (v := (7 : Int32)) at_460 rfl rfl ?_
                                                            refine own_iadd M X651 at_462 rfl ?_
                                                            refine own_baload M X651 V647 (i := (3 + k + 7)) (own_sum (own_sum (by decide : (3 : Int32).toInt = (3 : Nat)) hk (by omega)) (by decide : (7 : Int32).toInt = (7 : Nat)) (by omega)) (by omega) (congrArg Value.int ((own_updI_at (by omega)).trans (own_L0 x2))) at_463 rfl ?_
                                                            refine own_lloadN M X651 at_464 rfl rfl ?_
                                                            refine own_l2i M X651 at_465 rfl ?_
                                                            refine own_i2b M X651 at_466 rfl ?_
                                                            refine own_icmp_ne M X651 at_467 (by decide) rfl rfl (fun q661 => ?_) (fun q661 => ?_)
                                                            · exact absurd rfl q661
                                                            · skip
                                                              refine own_iconst M X651 (v := (1 : Int32)) at_470 rfl rfl ?_
                                                              refine own_goto M X651 at_471 (by decide) rfl ?_
                                                              refine own_istore M X651 (L' := #[.val (.int x0), .val (.int x1), .val (.long x2), .second, .val (.int x3), .val (.int (x3 &&& (511 : Int32))), .val (.ref a3), .val (.int (((x1.toUInt32 >>> ((16 : Int32) &&& 31).toUInt32).toInt32).toInt8.toInt32)), .val (.int (((x0.toUInt32 >>> ((8 : Int32) &&& 31).toUInt32).toInt32).toInt8.toInt32)), .val (.ref a506), .val (.ref r528), .val (.ref r594), .val (.int (1 : Int32)), .val (.int ((3 : Int32) + (x3 &&& (511 : Int32)))), .val (.ref r643)]) at_475 rfl rfl ?_
                                                              refine own_iload M X651 at_477 rfl rfl ?_
                                                              exact own_retN M X651 (z' := (1 : Int32)) (by simp) at_479 rfl rfl
          · skip
            exact absurd (own_n11 hk hk2) q607
        · exact absurd (by decide) q543
theorem own_result (x0 : Int32) (x1 : Int32) (x2 : Int64) (x3 : Int32) {v : Option Value} (hv : v = some (.int 1)) : v = some (.int 1) := hv
set_option maxRecDepth 65536 in
set_option maxHeartbeats 40000000 in
theorem comes_1 {Post : Tables → Env → Array Value → State → Outcome → State → Prop} (hpost : ∀ tb e args s v u, (limb_1_1.after args s (.returned v) u = true ∧ limb_1_2.after args s (.returned v) u = true ∧ True) → FrameEnd s (.returned v) u (Jvm.fieldLocs frame_1_writes args s ++ Jvm.arrayLocs frame_1_arrays args s ++ Jvm.staticLocs frame_1_statics s) 24 6784 → Post tb e args s (.returned v) u) :
    ArmFor flags0 classFile x code maxLocals ret World_1 tables_1 room_1 Calls_1 rest_1 Pre_1 Post := by
  intro l hfl _ _ p e ha hc hk s m args below hf hA hF happ hP
  obtain ⟨hcalls, hrest, hpre⟩ := hP
  obtain ⟨-, -, -, hnamed, -, -, -, hat⟩ := (Spec.applies_iff hf).mp happ
  obtain ⟨hg, hn⟩ := and_e (Cond.before_iff.mp (show (Jvm.Cond.and given_1 narrow_1).before args s = true from hpre))
  obtain ⟨g1, g2⟩ := and_e hg
  obtain ⟨g3, g4⟩ := and_e g2
  obtain ⟨g5, g6⟩ := and_e g4
  obtain ⟨g7, g8⟩ := and_e g6
  obtain ⟨w0, w1, w2, w3, rfl⟩ : ∃ w0 w1 w2 w3 : Value, args = #[w0, w1, w2, w3] := by
    have hs : args.size = 4 := by simpa [Cond.value, given_1] using g1
    obtain ⟨L⟩ := args
    match L, hs with
    | [w0, w1, w2, w3], _ => exact ⟨w0, w1, w2, w3, rfl⟩
  have hw := fun d (hd : d ∈ tables_1) => atoms_spec (ws := Jvm.Cond.code x code maxLocals ret :: tables_1) hat d (List.mem_cons_of_mem _ hd)
  obtain ⟨i0, ei0⟩ := is_v g3
  obtain rfl : w0 = (.int i0) := Option.some.inj ei0
  obtain ⟨i1, ei1⟩ := is_v g5
  obtain rfl : w1 = (.int i1) := Option.some.inj ei1
  obtain ⟨i2, ei2⟩ := isL_v g7
  obtain rfl : w2 = (.long i2) := Option.some.inj ei2
  obtain ⟨i3, ei3⟩ := is_v g8
  obtain rfl : w3 = (.int i3) := Option.some.inj ei3
  obtain ⟨n, o, h1, h2, h3, v, L, rfl, ⟨hv, N⟩, hq⟩ := met_0 l s _ hw s.heap s.heap.size (Nat.le_refl _) i0 i1 i2 i3 tables_1 p e ha hc hk s m _ below hf ((Spec.applies_iff_loose hf).mp happ).1 ⟨rfl, State.Warmed39.refl s, rfl⟩ trivial
  obtain rfl : v = some (.int 1) := own_result i0 i1 i2 i3 hv
  refine ⟨n, _, h1, h2, h3, hpost _ _ _ _ _ _ ⟨Cond.after_iff.mpr rfl, Cond.after_iff.mpr (eq_i res_at (Term.int_eval (1)) rfl), trivial⟩ ⟨hq.1, hq.2.1, (hq.2.2.sift fun y hy => Or.inr (N y hy)).mono (by decide) (by decide)⟩⟩
theorem main_1_1 : Claimed_1_1 := comes_1 fun _ _ _ _ _ _ h hF => ⟨h.1, hF⟩
theorem main_1_2 : Claimed_1_2 := comes_1 fun _ _ _ _ _ _ h hF => ⟨h.2.1, hF⟩
end Jvm.Pilot.@@N@@
namespace Jvm.Pilot.@@N@@
open Jvm Jvm.ClassFile Sem Op Lib Jvm.Free Jvm.Stand Jvm.Pilot.@@N@@.Jvm.D
/-! MADE BY PROGRAM (witnessworld.py) out of the Statement's table words and the real class files: 12 classes; the members and pool entries that the words name. The judged class is class 1, her method 1. -/
namespace start1
open Jvm.ClassFile
def u (s : String) : CpInfo := .utf8 (stringToUtf16 s)
/-- a pool by its gaps: so many unusable entries, then the entry; so many at the end -/
def gap : Nat → List CpInfo → List CpInfo
  | 0, r => r
  | n + 1, r => .unusable :: gap n r
def poolList (es : List (Nat × CpInfo)) (last : Nat) : List CpInfo := es.foldr (fun e r => gap e.1 (e.2 :: r)) (gap last [])
def pool (es : List (Nat × CpInfo)) (last : Nat) : Array CpInfo := ⟨poolList es last⟩
def fileOf (pool : Array CpInfo) (this : Nat) (attrs : Array Attribute := #[]) (ms : Array MethodInfo := #[]) (fl : Nat := 33) (sup : Nat := 0) (ifs : Array Nat := #[]) (fds : Array FieldInfo := #[]) : ClassFile where
  minorVersion := 0
  majorVersion := 65
  constantPool := pool
  accessFlags := fl
  thisClass := this
  superClass := sup
  interfaces := ifs
  fields := fds
  methods := ms
  attributes := attrs
def plain (name : String) (sup : Option ClassId) : Class where
  name := name
  kind := .ordinary
  loader := none
  accessFlags := 33
  super := sup
  interfaces := #[]
  cf := none
  fields := #[]
  methods := #[]
  instanceTypes := #[]
  staticTypes := #[]
  resolved := #[]
  callSites := []
  init := .initialized
  statics := none
  mirror := none

def pool0 : Array CpInfo := pool [(5, u "<init>"), (0, u "()V"), (1, .class_ 10), (1, u "java/lang/Object"), (85, u "clone"), (0, u "()Ljava/lang/Object;")] 26

def k0c0 : Code := { maxStack := 0, maxLocals := 1, code := object_method_1_code, exceptionTable := #[], attributes := #[] }
def k0m0 : Method := { name := "<init>", desc := "()V", sig := { parameters := [], returnType := none }, accessFlags := 1, code := some k0c0 }
def k0m1 : Method := { name := "clone", desc := "()Ljava/lang/Object;", sig := { parameters := [], returnType := some (.object "java/lang/Object") }, accessFlags := 260, code := none }
/-- java/lang/Object -/
def k0 : Class := { plain "java/lang/Object" none with
  accessFlags := 33
  interfaces := #[]
  cf := some (fileOf pool0 8 #[] #[{ accessFlags := 1, nameIndex := 5, descriptorIndex := 6, attributes := #[] }, { accessFlags := 260, nameIndex := 96, descriptorIndex := 97, attributes := #[] }] 33 0 #[] #[])
  fields := #[]
  methods := #[k0m0, k0m1]
  instanceTypes := #[]
  staticTypes := #[]
  resolved := Array.replicate 124 none
  statics := none }

def pool1 : Array CpInfo := pool [(2, .class_ 4), (0, .nameAndType 5 6), (0, u "java/lang/Object"), (0, u "<init>"), (0, u "()V"), (0, .class_ 8), (0, u "com/example/london_wall/londonwall/wire/Encoder"), (0, .methodref 7 3), (0, .methodref 7 11), (0, .nameAndType 12 13), (0, u "toByteArray"), (0, u "()[B"), (0, .methodref 7 15), (0, .nameAndType 16 17), (0, u "writeOctet"), (0, u "(I)V"), (0, .methodref 7 19), (0, .nameAndType 20 17), (0, u "writeShort"), (0, .methodref 7 22), (0, .nameAndType 23 24), (0, u "writeBytes"), (0, u "([BII)V"), (0, .methodref 7 26), (0, .nameAndType 27 28), (0, u "writeLongLong"), (0, u "(J)V"), (0, .class_ 30), (0, u "com/example/london_wall/londonwall/wire/EncoderToByteArrayPinLaw"), (2, u "law"), (0, u "(IIJI)Z")] 5

def k1m0 : Method := { name := "<init>", desc := "()V", sig := { parameters := [], returnType := none }, accessFlags := 1, code := none }
def k1c1 : Code := { maxStack := 5, maxLocals := 15, code := code, exceptionTable := #[], attributes := #[] }
def k1m1 : Method := { name := "law", desc := "(IIJI)Z", sig := { parameters := [.int, .int, .long, .int], returnType := some .boolean }, accessFlags := 9, code := some k1c1 }
/-- com/example/london_wall/londonwall/wire/EncoderToByteArrayPinLaw -/
def k1 : Class := { plain "com/example/london_wall/londonwall/wire/EncoderToByteArrayPinLaw" (some 0) with
  accessFlags := 49
  interfaces := #[]
  cf := some (fileOf pool1 29 #[] #[{ accessFlags := 1, nameIndex := 5, descriptorIndex := 6, attributes := #[] }, { accessFlags := 9, nameIndex := 33, descriptorIndex := 34, attributes := #[] }] 49 2 #[] #[])
  fields := #[]
  methods := #[k1m0, k1m1]
  instanceTypes := #[]
  staticTypes := #[]
  resolved := Array.replicate 40 none
  statics := none }

def pool2 : Array CpInfo := pool [(1, .methodref 2 3), (0, .class_ 4), (0, .nameAndType 5 6), (0, u "java/lang/Object"), (0, u "<init>"), (0, u "()V"), (0, .fieldref 8 9), (0, .class_ 10), (0, .nameAndType 11 12), (0, u "com/example/london_wall/londonwall/wire/Encoder"), (0, u "bytes"), (0, u "[B"), (0, .fieldref 8 14), (0, .nameAndType 15 16), (0, u "size"), (0, u "I"), (5, u "([BII)V"), (0, .methodref 24 25), (0, .class_ 26), (0, .nameAndType 27 28), (0, u "java/util/Arrays"), (0, u "copyOf"), (0, u "([BI)[B"), (31, u "writeShort"), (0, u "(I)V"), (21, u "writeOctet"), (5, .class_ 91), (1, u "com/example/london_wall/londonwall/wire/Encoder$1"), (22, u "(J)V"), (2, u "writeLongLong"), (32, .methodref 8 151), (0, .nameAndType 152 61), (0, u "ensure"), (5, .methodref 8 159), (0, .nameAndType 160 61), (0, u "writeInt"), (3, u "writeBytes"), (0, .methodref 166 167), (0, .class_ 168), (0, .nameAndType 169 170), (0, u "java/lang/System"), (0, u "arraycopy"), (0, u "(Ljava/lang/Object;ILjava/lang/Object;II)V"), (117, u "()[B"), (31, .methodref 321 322), (0, .class_ 323), (0, .nameAndType 324 325), (0, u "java/lang/Math"), (0, u "max"), (0, u "(II)I"), (10, u "SHORT_STRING_MAX"), (10, u "toByteArray")] 38

def k2c0 : Code := { maxStack := 2, maxLocals := 1, code := prog_43_method_1_code, exceptionTable := #[], attributes := #[] }
def k2m0 : Method := { name := "<init>", desc := "()V", sig := { parameters := [], returnType := none }, accessFlags := 1, code := some k2c0 }
def k2c1 : Code := { maxStack := 2, maxLocals := 1, code := prog_43_method_5_code, exceptionTable := #[], attributes := #[] }
def k2m1 : Method := { name := "toByteArray", desc := "()[B", sig := { parameters := [], returnType := some (.array .byte) }, accessFlags := 1, code := some k2c1 }
def k2c2 : Code := { maxStack := 5, maxLocals := 2, code := prog_43_method_9_code, exceptionTable := #[], attributes := #[] }
def k2m2 : Method := { name := "writeOctet", desc := "(I)V", sig := { parameters := [.int], returnType := none }, accessFlags := 1, code := some k2c2 }
def k2c3 : Code := { maxStack := 5, maxLocals := 2, code := prog_43_method_10_code, exceptionTable := #[], attributes := #[] }
def k2m3 : Method := { name := "writeShort", desc := "(I)V", sig := { parameters := [.int], returnType := none }, accessFlags := 1, code := some k2c3 }
def k2c4 : Code := { maxStack := 5, maxLocals := 2, code := prog_43_method_12_code, exceptionTable := #[], attributes := #[] }
def k2m4 : Method := { name := "writeInt", desc := "(I)V", sig := { parameters := [.int], returnType := none }, accessFlags := 2, code := some k2c4 }
def k2c5 : Code := { maxStack := 4, maxLocals := 3, code := prog_43_method_13_code, exceptionTable := #[], attributes := #[] }
def k2m5 : Method := { name := "writeLongLong", desc := "(J)V", sig := { parameters := [.long], returnType := none }, accessFlags := 1, code := some k2c5 }
def k2c6 : Code := { maxStack := 5, maxLocals := 4, code := prog_43_method_16_code, exceptionTable := #[], attributes := #[] }
def k2m6 : Method := { name := "writeBytes", desc := "([BII)V", sig := { parameters := [(.array .byte), .int, .int], returnType := none }, accessFlags := 1, code := some k2c6 }
def k2c7 : Code := { maxStack := 5, maxLocals := 2, code := prog_43_method_23_code, exceptionTable := #[], attributes := #[] }
def k2m7 : Method := { name := "ensure", desc := "(I)V", sig := { parameters := [.int], returnType := none }, accessFlags := 2, code := some k2c7 }
/-- com/example/london_wall/londonwall/wire/Encoder -/
def k2 : Class := { plain "com/example/london_wall/londonwall/wire/Encoder" (some 0) with
  accessFlags := 33
  interfaces := #[]
  cf := some (fileOf pool2 8 #[.nestMembers #[89]] #[{ accessFlags := 1, nameIndex := 5, descriptorIndex := 6, attributes := #[] }, { accessFlags := 1, nameIndex := 347, descriptorIndex := 288, attributes := #[] }, { accessFlags := 1, nameIndex := 83, descriptorIndex := 61, attributes := #[] }, { accessFlags := 1, nameIndex := 60, descriptorIndex := 61, attributes := #[] }, { accessFlags := 2, nameIndex := 160, descriptorIndex := 61, attributes := #[] }, { accessFlags := 1, nameIndex := 117, descriptorIndex := 114, attributes := #[] }, { accessFlags := 1, nameIndex := 164, descriptorIndex := 22, attributes := #[] }, { accessFlags := 2, nameIndex := 152, descriptorIndex := 61, attributes := #[] }] 33 2 #[] #[{ accessFlags := 24, nameIndex := 336, descriptorIndex := 16, attributes := #[] }, { accessFlags := 2, nameIndex := 11, descriptorIndex := 12, attributes := #[] }, { accessFlags := 2, nameIndex := 15, descriptorIndex := 16, attributes := #[] }])
  fields := #[{ name := "SHORT_STRING_MAX", type := .int, accessFlags := 24, slot := 0, constantValue := 0 }, { name := "bytes", type := (.array .byte), accessFlags := 2, slot := 0, constantValue := 0 }, { name := "size", type := .int, accessFlags := 2, slot := 1, constantValue := 0 }]
  methods := #[k2m0, k2m1, k2m2, k2m3, k2m4, k2m5, k2m6, k2m7]
  instanceTypes := #[(.array .byte), .int]
  staticTypes := #[.int]
  resolved := Array.replicate 386 none
  statics := none }

def pool3 : Array CpInfo := pool [(2, .class_ 4), (1, u "java/lang/Object"), (0, u "<init>"), (0, u "()V"), (7, .class_ 16), (1, u "java/util/Arrays"), (57, .class_ 76), (1, u "java/util/Arrays$NaturalOrder"), (32, u "()Ljava/lang/Object;"), (3, .class_ 115), (1, u "java/util/Arrays$LegacyMergeSort"), (1, u "Z"), (10, .nameAndType 129 109), (0, u "clone"), (20, .methodref 151 152), (0, .class_ 153), (0, .nameAndType 154 155), (0, u "java/lang/System"), (0, u "arraycopy"), (0, u "(Ljava/lang/Object;ILjava/lang/Object;II)V"), (146, u "copyOf"), (1, .methodref 305 306), (0, .class_ 307), (0, .nameAndType 308 309), (0, u "java/lang/Math"), (0, u "min"), (0, u "(II)I"), (0, .methodref 311 128), (0, .class_ 312), (0, u "[B"), (62, .class_ 376), (0, u "java/util/Arrays$ArrayList"), (68, u "$assertionsDisabled"), (269, u "MIN_ARRAY_SORT_GRAN"), (0, u "I"), (2, u "INSERTIONSORT_THRESHOLD"), (149, u "([BI)[B"), (105, .class_ 976), (0, u "java/util/Arrays$ArrayItr")] 52

def k3m0 : Method := { name := "<init>", desc := "()V", sig := { parameters := [], returnType := none }, accessFlags := 2, code := none }
def k3c1 : Code := { maxStack := 6, maxLocals := 3, code := jdk_65_method_121_code, exceptionTable := #[], attributes := #[] }
def k3m1 : Method := { name := "copyOf", desc := "([BI)[B", sig := { parameters := [(.array .byte), .int], returnType := some (.array .byte) }, accessFlags := 9, code := some k3c1 }
/-- java/util/Arrays -/
def k3 : Class := { plain "java/util/Arrays" (some 0) with
  accessFlags := 49
  interfaces := #[]
  cf := some (fileOf pool3 14 #[.nestMembers #[975, 375, 113, 74]] #[{ accessFlags := 2, nameIndex := 5, descriptorIndex := 6, attributes := #[] }, { accessFlags := 9, nameIndex := 302, descriptorIndex := 869, attributes := #[] }] 49 2 #[] #[{ accessFlags := 26, nameIndex := 715, descriptorIndex := 716, attributes := #[] }, { accessFlags := 26, nameIndex := 719, descriptorIndex := 716, attributes := #[] }, { accessFlags := 4120, nameIndex := 445, descriptorIndex := 117, attributes := #[] }])
  fields := #[{ name := "MIN_ARRAY_SORT_GRAN", type := .int, accessFlags := 26, slot := 0, constantValue := 0 }, { name := "INSERTIONSORT_THRESHOLD", type := .int, accessFlags := 26, slot := 1, constantValue := 0 }, { name := "$assertionsDisabled", type := .boolean, accessFlags := 4120, slot := 2, constantValue := 0 }]
  methods := #[k3m0, k3m1]
  instanceTypes := #[]
  staticTypes := #[.int, .int, .boolean]
  resolved := Array.replicate 1029 none
  statics := none }

def pool4 : Array CpInfo := pool [(1, .class_ 2), (0, u "java/lang/Math"), (1, .class_ 6), (1, u "java/lang/Object"), (0, u "<init>"), (0, u "()V"), (89, .class_ 100), (1, u "java/lang/Math$RandomNumberGeneratorHolder"), (71, u "negativeZeroFloatBits"), (0, u "J"), (2, u "negativeZeroDoubleBits"), (21, u "max"), (2, u "min"), (43, u "$assertionsDisabled"), (0, u "Z"), (88, u "(II)I"), (2, u "twoToTheDoubleScaleDown"), (0, u "D"), (4, u "twoToTheDoubleScaleUp"), (9, u "E"), (3, u "PI"), (2, u "TAU"), (2, u "DEGREES_TO_RADIANS"), (0, u "RADIANS_TO_DEGREES")] 94

def k4m0 : Method := { name := "<init>", desc := "()V", sig := { parameters := [], returnType := none }, accessFlags := 2, code := none }
def k4c1 : Code := { maxStack := 2, maxLocals := 2, code := jdk_29_method_65_code, exceptionTable := #[], attributes := #[] }
def k4m1 : Method := { name := "max", desc := "(II)I", sig := { parameters := [.int, .int], returnType := some .int }, accessFlags := 9, code := some k4c1 }
def k4c2 : Code := { maxStack := 2, maxLocals := 2, code := jdk_29_method_69_code, exceptionTable := #[], attributes := #[] }
def k4m2 : Method := { name := "min", desc := "(II)I", sig := { parameters := [.int, .int], returnType := some .int }, accessFlags := 9, code := some k4c2 }
/-- java/lang/Math -/
def k4 : Class := { plain "java/lang/Math" (some 0) with
  accessFlags := 49
  interfaces := #[]
  cf := some (fileOf pool4 1 #[.nestMembers #[98]] #[{ accessFlags := 2, nameIndex := 7, descriptorIndex := 8, attributes := #[] }, { accessFlags := 9, nameIndex := 198, descriptorIndex := 335, attributes := #[] }, { accessFlags := 9, nameIndex := 201, descriptorIndex := 335, attributes := #[] }] 49 4 #[] #[{ accessFlags := 25, nameIndex := 354, descriptorIndex := 339, attributes := #[] }, { accessFlags := 25, nameIndex := 358, descriptorIndex := 339, attributes := #[] }, { accessFlags := 25, nameIndex := 361, descriptorIndex := 339, attributes := #[] }, { accessFlags := 26, nameIndex := 364, descriptorIndex := 339, attributes := #[] }, { accessFlags := 26, nameIndex := 365, descriptorIndex := 339, attributes := #[] }, { accessFlags := 26, nameIndex := 172, descriptorIndex := 173, attributes := #[] }, { accessFlags := 26, nameIndex := 176, descriptorIndex := 173, attributes := #[] }, { accessFlags := 8, nameIndex := 344, descriptorIndex := 339, attributes := #[] }, { accessFlags := 8, nameIndex := 338, descriptorIndex := 339, attributes := #[] }, { accessFlags := 4120, nameIndex := 245, descriptorIndex := 246, attributes := #[] }])
  fields := #[{ name := "E", type := .double, accessFlags := 25, slot := 0, constantValue := 0 }, { name := "PI", type := .double, accessFlags := 25, slot := 1, constantValue := 0 }, { name := "TAU", type := .double, accessFlags := 25, slot := 2, constantValue := 0 }, { name := "DEGREES_TO_RADIANS", type := .double, accessFlags := 26, slot := 3, constantValue := 0 }, { name := "RADIANS_TO_DEGREES", type := .double, accessFlags := 26, slot := 4, constantValue := 0 }, { name := "negativeZeroFloatBits", type := .long, accessFlags := 26, slot := 5, constantValue := 0 }, { name := "negativeZeroDoubleBits", type := .long, accessFlags := 26, slot := 6, constantValue := 0 }, { name := "twoToTheDoubleScaleUp", type := .double, accessFlags := 8, slot := 7, constantValue := 0 }, { name := "twoToTheDoubleScaleDown", type := .double, accessFlags := 8, slot := 8, constantValue := 0 }, { name := "$assertionsDisabled", type := .boolean, accessFlags := 4120, slot := 9, constantValue := 0 }]
  methods := #[k4m0, k4m1, k4m2]
  instanceTypes := #[]
  staticTypes := #[.double, .double, .double, .double, .double, .long, .long, .double, .double, .boolean]
  resolved := Array.replicate 460 none
  statics := none }

def pool5 : Array CpInfo := pool [(2, .class_ 4), (1, u "java/lang/Object"), (0, u "<init>"), (0, u "()V"), (1, .class_ 10), (1, u "java/lang/System"), (0, u "allowSecurityManager"), (0, u "I"), (16, u "cons"), (0, u "Ljava/io/Console;"), (77, .class_ 110), (1, u "java/lang/System$CallersHolder"), (43, u "initialErrStream"), (0, u "Ljava/io/PrintStream;"), (19, u "security"), (0, u "Ljava/lang/SecurityManager;"), (31, .class_ 209), (0, u "java/lang/System$1"), (7, u "props"), (0, u "Ljava/util/Properties;"), (2, u "lineSeparator"), (0, u "Ljava/lang/String;"), (96, .class_ 321), (1, u "java/lang/System$LoggerFinder"), (5, .class_ 328), (0, u "java/lang/System$Logger"), (67, u "err"), (2, u "out"), (91, u "notSupportedJnuEncoding"), (15, u "in"), (17, u "initialIn"), (0, u "Ljava/io/InputStream;"), (35, u "bootLayer"), (0, u "Ljava/lang/ModuleLayer;"), (99, .class_ 664), (0, u "java/lang/System$2"), (9, u "NEVER"), (2, u "MAYBE"), (49, u "arraycopy"), (0, u "(Ljava/lang/Object;ILjava/lang/Object;II)V"), (72, .class_ 802), (0, u "java/lang/System$Logger$Level")] 31

def k5m0 : Method := { name := "<init>", desc := "()V", sig := { parameters := [], returnType := none }, accessFlags := 2, code := none }
def k5m1 : Method := { name := "arraycopy", desc := "(Ljava/lang/Object;ILjava/lang/Object;II)V", sig := { parameters := [(.object "java/lang/Object"), .int, (.object "java/lang/Object"), .int, .int], returnType := none }, accessFlags := 265, code := none }
/-- java/lang/System -/
def k5 : Class := { plain "java/lang/System" (some 0) with
  accessFlags := 49
  interfaces := #[]
  cf := some (fileOf pool5 8 #[.nestMembers #[319, 327, 801, 108, 663, 208]] #[{ accessFlags := 2, nameIndex := 5, descriptorIndex := 6, attributes := #[] }, { accessFlags := 265, nameIndex := 727, descriptorIndex := 728, attributes := #[] }] 49 2 #[] #[{ accessFlags := 25, nameIndex := 507, descriptorIndex := 526, attributes := #[] }, { accessFlags := 25, nameIndex := 399, descriptorIndex := 155, attributes := #[] }, { accessFlags := 25, nameIndex := 396, descriptorIndex := 155, attributes := #[] }, { accessFlags := 10, nameIndex := 525, descriptorIndex := 526, attributes := #[] }, { accessFlags := 26, nameIndex := 674, descriptorIndex := 12, attributes := #[] }, { accessFlags := 26, nameIndex := 677, descriptorIndex := 12, attributes := #[] }, { accessFlags := 10, nameIndex := 11, descriptorIndex := 12, attributes := #[] }, { accessFlags := 74, nameIndex := 175, descriptorIndex := 176, attributes := #[] }, { accessFlags := 10, nameIndex := 491, descriptorIndex := 222, attributes := #[] }, { accessFlags := 74, nameIndex := 29, descriptorIndex := 30, attributes := #[] }, { accessFlags := 74, nameIndex := 154, descriptorIndex := 155, attributes := #[] }, { accessFlags := 10, nameIndex := 217, descriptorIndex := 218, attributes := #[] }, { accessFlags := 10, nameIndex := 221, descriptorIndex := 222, attributes := #[] }, { accessFlags := 8, nameIndex := 562, descriptorIndex := 563, attributes := #[] }])
  fields := #[{ name := "in", type := (.object "java/io/InputStream"), accessFlags := 25, slot := 0, constantValue := 0 }, { name := "out", type := (.object "java/io/PrintStream"), accessFlags := 25, slot := 1, constantValue := 0 }, { name := "err", type := (.object "java/io/PrintStream"), accessFlags := 25, slot := 2, constantValue := 0 }, { name := "initialIn", type := (.object "java/io/InputStream"), accessFlags := 10, slot := 3, constantValue := 0 }, { name := "NEVER", type := .int, accessFlags := 26, slot := 4, constantValue := 0 }, { name := "MAYBE", type := .int, accessFlags := 26, slot := 5, constantValue := 0 }, { name := "allowSecurityManager", type := .int, accessFlags := 10, slot := 6, constantValue := 0 }, { name := "security", type := (.object "java/lang/SecurityManager"), accessFlags := 74, slot := 7, constantValue := 0 }, { name := "notSupportedJnuEncoding", type := (.object "java/lang/String"), accessFlags := 10, slot := 8, constantValue := 0 }, { name := "cons", type := (.object "java/io/Console"), accessFlags := 74, slot := 9, constantValue := 0 }, { name := "initialErrStream", type := (.object "java/io/PrintStream"), accessFlags := 74, slot := 10, constantValue := 0 }, { name := "props", type := (.object "java/util/Properties"), accessFlags := 10, slot := 11, constantValue := 0 }, { name := "lineSeparator", type := (.object "java/lang/String"), accessFlags := 10, slot := 12, constantValue := 0 }, { name := "bootLayer", type := (.object "java/lang/ModuleLayer"), accessFlags := 8, slot := 13, constantValue := 0 }]
  methods := #[k5m0, k5m1]
  instanceTypes := #[]
  staticTypes := #[(.object "java/io/InputStream"), (.object "java/io/PrintStream"), (.object "java/io/PrintStream"), (.object "java/io/InputStream"), .int, .int, .int, (.object "java/lang/SecurityManager"), (.object "java/lang/String"), (.object "java/io/Console"), (.object "java/io/PrintStream"), (.object "java/util/Properties"), (.object "java/lang/String"), (.object "java/lang/ModuleLayer")]
  resolved := Array.replicate 834 none
  statics := none }

def pool6 : Array CpInfo := pool [(1, .class_ 2), (0, u "java/lang/Cloneable"), (0, .class_ 4), (0, u "java/lang/Object")] 2

/-- java/lang/Cloneable -/
def k6 : Class := { plain "java/lang/Cloneable" (some 0) with
  accessFlags := 1537
  interfaces := #[]
  cf := some (fileOf pool6 1 #[] #[] 1537 3 #[] #[])
  fields := #[]
  methods := #[]
  instanceTypes := #[]
  staticTypes := #[]
  resolved := Array.replicate 7 none
  statics := none }

def pool7 : Array CpInfo := pool [(1, u "java/io/Serializable"), (0, .class_ 1), (0, u "java/lang/Object"), (0, .class_ 3)] 3

/-- java/io/Serializable -/
def k7 : Class := { plain "java/io/Serializable" (some 0) with
  accessFlags := 1537
  interfaces := #[]
  cf := some (fileOf pool7 2 #[] #[] 1537 4 #[] #[])
  fields := #[]
  methods := #[]
  instanceTypes := #[]
  staticTypes := #[]
  resolved := Array.replicate 8 none
  statics := none }

/-- the primitive byte -/
def k8 : Class := { plain "byte" none with kind := .primitive 'B', accessFlags := 0x411 }
/-- [B -/
def k9 : Class := { plain "[B" (some 0) with kind := .array 8 .byte, interfaces := #[6, 7], accessFlags := 1041 }

/-- the primitive int -/
def k10 : Class := { plain "int" none with kind := .primitive 'I', accessFlags := 0x411 }
/-- [I -/
def k11 : Class := { plain "[I" (some 0) with kind := .array 10 .int, interfaces := #[6, 7], accessFlags := 1041 }

def heap : Heap := #[]
def classes : Array Class := #[k0, k1, k2, k3, k4, k5, k6, k7, k8, k9, k10, k11]
def interned : List (Array UInt16 × Addr) := []
def slotsUsed : Nat := 0
def theMethod : MethodId := ⟨1, 1⟩
def args0 : Array Value := #[.int 5, .int 7, .long 9, .int 9]
def aboutOver (below : List Frame) : State where
  vm := { classes := classes, interned := interned.toArray }
  heap := heap
  slotsUsed := slotsUsed
  threads := #[{ frames := .invoking theMethod args0 :: below }]
def below0 : List Frame := [.native { method := ⟨0, 0⟩, args := #[] }]
def about1 : State := aboutOver below0
def p0 : Program := .bare "" "" ""
def e0 : Env := launch0.env 0 0 0
theorem w_frames : about1.frames = Frame.invoking theMethod args0 :: below0 := rfl
set_option maxRecDepth 65536 in
theorem w_args : argsFit about1.vm theMethod args0 = true := by decide +kernel
set_option maxRecDepth 65536 in
theorem w_heap : heapFits about1 = true := by decide +kernel
set_option maxRecDepth 65536 in
theorem w_runnable : about1.curStatus? = some .runnable := by decide +kernel
set_option maxRecDepth 65536 in
theorem w_alone : about1.alone = true := by decide +kernel
set_option maxRecDepth 65536 in
theorem w_named : about1.methodNamed? x = some theMethod := by decide +kernel
set_option maxRecDepth 65536 in
theorem w_hears : about1.hears theMethod below0 = true := by decide +kernel
set_option maxRecDepth 65536 in
theorem w_ripe : about1.ripe theMethod args0 below0 = true := by decide +kernel
theorem w_running : about1.status = .running := rfl
set_option maxRecDepth 65536 in
theorem w_room : about1.hasRoom e0.platform room_1 = true :=
  launch0.hasRoom_least _ room_1 (by decide +kernel) (by decide +kernel) (by decide +kernel) (by decide +kernel) (by decide +kernel) (by decide +kernel)
theorem allAtoms_all (ts : List Jvm.Cond) (a : Array Jvm.Value) (st : Jvm.State) : (allAtoms ts).before a st = ts.all (fun c => c.before a st) := by
  induction ts with
  | nil => rfl
  | cons c t ih =>
    show (Jvm.Cond.and c (allAtoms t)).before a st = _
    rw [Jvm.Cond.before_and, ih, List.all_cons]
def words1 : List Jvm.Cond := Jvm.Cond.code x code maxLocals ret :: tables_1
/-- a 'code' word, met by the world's own term for the bytes: nothing is compared byte by byte -/
theorem code_word {y : MethodName} {bytes : ByteArray} {mx : Nat} {rt : Option FieldType} {a : Array Value} {s : State} {m : MethodId} {meth : Method} {c : Code} (h1 : s.methodNamed? y = some m) (h2 : s.vm.method? m = some meth) (h3 : meth.code = some c) (h4 : c.code = bytes)
    (h5 : (c.maxLocals == mx && c.exceptionTable.isEmpty && decide (c.maxStack ≤ mostOperands) && decide (meth.sig.returnType = rt) && !meth.locks && decide (parseMethodDescriptor y.desc = some meth.sig)) = true) : (Jvm.Cond.code y bytes mx rt).before a s = true := by
  simp only [Bool.and_eq_true, beq_iff_eq, Bool.not_eq_true', decide_eq_true_eq] at h5
  obtain ⟨⟨⟨⟨⟨g1, g2⟩, g3⟩, g4⟩, g5⟩, g6⟩ := h5
  simp [Cond.before, Cond.holds, Cond.value, h1, h2, h3, h4, g1, g2, g3, g4, g5, g6]
def isCode : Jvm.Cond → Bool
  | .code _ _ _ _ => true
  | _ => false
theorem all_split {L : List Jvm.Cond} {P : Jvm.Cond → Bool} (h1 : L.all (fun c => isCode c || P c) = true) (h2 : ∀ c ∈ L.filter isCode, P c = true) : L.all P = true := by
  refine List.all_eq_true.mpr fun c hc => ?_
  have h := List.all_eq_true.mp h1 c hc
  rcases Bool.eq_false_or_eq_true (isCode c) with hi | hi
  · exact h2 c (List.mem_filter.mpr ⟨hc, hi⟩)
  · simpa [hi] using h
set_option maxRecDepth 65536 in
theorem w_c0 : (Jvm.Cond.code x code maxLocals ret).before args0 about1 = true := code_word (m := ⟨1, 1⟩) (meth := k1m1) (c := k1c1) (by decide +kernel) rfl rfl rfl (by decide +kernel)
set_option maxRecDepth 65536 in
theorem w_c1 : (Jvm.Cond.code ({ cls := "com/example/london_wall/londonwall/wire/Encoder", name := "<init>", desc := "()V" } : Jvm.MethodName) prog_43_method_1_code (1 : Nat) (Option.none : Option Jvm.ClassFile.FieldType)).before args0 about1 = true := code_word (m := ⟨2, 0⟩) (meth := k2m0) (c := k2c0) (by decide +kernel) rfl rfl rfl (by decide +kernel)
set_option maxRecDepth 65536 in
theorem w_c2 : (Jvm.Cond.code ({ cls := "java/lang/Object", name := "<init>", desc := "()V" } : Jvm.MethodName) object_method_1_code (1 : Nat) (Option.none : Option Jvm.ClassFile.FieldType)).before args0 about1 = true := code_word (m := ⟨0, 0⟩) (meth := k0m0) (c := k0c0) (by decide +kernel) rfl rfl rfl (by decide +kernel)
set_option maxRecDepth 65536 in
theorem w_c3 : (Jvm.Cond.code ({ cls := "com/example/london_wall/londonwall/wire/Encoder", name := "toByteArray", desc := "()[B" } : Jvm.MethodName) prog_43_method_5_code (1 : Nat) (Option.some (Jvm.ClassFile.FieldType.array Jvm.ClassFile.FieldType.byte))).before args0 about1 = true := code_word (m := ⟨2, 1⟩) (meth := k2m1) (c := k2c1) (by decide +kernel) rfl rfl rfl (by decide +kernel)
set_option maxRecDepth 65536 in
theorem w_c4 : (Jvm.Cond.code ({ cls := "java/util/Arrays", name := "copyOf", desc := "([BI)[B" } : Jvm.MethodName) jdk_65_method_121_code (3 : Nat) (Option.some (Jvm.ClassFile.FieldType.array Jvm.ClassFile.FieldType.byte))).before args0 about1 = true := code_word (m := ⟨3, 1⟩) (meth := k3m1) (c := k3c1) (by decide +kernel) rfl rfl rfl (by decide +kernel)
set_option maxRecDepth 65536 in
theorem w_c5 : (Jvm.Cond.code ({ cls := "java/lang/Math", name := "min", desc := "(II)I" } : Jvm.MethodName) jdk_29_method_69_code (2 : Nat) (Option.some Jvm.ClassFile.FieldType.int)).before args0 about1 = true := code_word (m := ⟨4, 2⟩) (meth := k4m2) (c := k4c2) (by decide +kernel) rfl rfl rfl (by decide +kernel)
set_option maxRecDepth 65536 in
theorem w_c6 : (Jvm.Cond.code ({ cls := "com/example/london_wall/londonwall/wire/Encoder", name := "writeOctet", desc := "(I)V" } : Jvm.MethodName) prog_43_method_9_code (2 : Nat) (Option.none : Option Jvm.ClassFile.FieldType)).before args0 about1 = true := code_word (m := ⟨2, 2⟩) (meth := k2m2) (c := k2c2) (by decide +kernel) rfl rfl rfl (by decide +kernel)
set_option maxRecDepth 65536 in
theorem w_c7 : (Jvm.Cond.code ({ cls := "com/example/london_wall/londonwall/wire/Encoder", name := "ensure", desc := "(I)V" } : Jvm.MethodName) prog_43_method_23_code (2 : Nat) (Option.none : Option Jvm.ClassFile.FieldType)).before args0 about1 = true := code_word (m := ⟨2, 7⟩) (meth := k2m7) (c := k2c7) (by decide +kernel) rfl rfl rfl (by decide +kernel)
set_option maxRecDepth 65536 in
theorem w_c8 : (Jvm.Cond.code ({ cls := "com/example/london_wall/londonwall/wire/Encoder", name := "writeShort", desc := "(I)V" } : Jvm.MethodName) prog_43_method_10_code (2 : Nat) (Option.none : Option Jvm.ClassFile.FieldType)).before args0 about1 = true := code_word (m := ⟨2, 3⟩) (meth := k2m3) (c := k2c3) (by decide +kernel) rfl rfl rfl (by decide +kernel)
set_option maxRecDepth 65536 in
theorem w_c9 : (Jvm.Cond.code ({ cls := "com/example/london_wall/londonwall/wire/Encoder", name := "writeBytes", desc := "([BII)V" } : Jvm.MethodName) prog_43_method_16_code (4 : Nat) (Option.none : Option Jvm.ClassFile.FieldType)).before args0 about1 = true := code_word (m := ⟨2, 6⟩) (meth := k2m6) (c := k2c6) (by decide +kernel) rfl rfl rfl (by decide +kernel)
set_option maxRecDepth 65536 in
theorem w_c10 : (Jvm.Cond.code ({ cls := "com/example/london_wall/londonwall/wire/Encoder", name := "writeLongLong", desc := "(J)V" } : Jvm.MethodName) prog_43_method_13_code (3 : Nat) (Option.none : Option Jvm.ClassFile.FieldType)).before args0 about1 = true := code_word (m := ⟨2, 5⟩) (meth := k2m5) (c := k2c5) (by decide +kernel) rfl rfl rfl (by decide +kernel)
set_option maxRecDepth 65536 in
theorem w_c11 : (Jvm.Cond.code ({ cls := "com/example/london_wall/londonwall/wire/Encoder", name := "writeInt", desc := "(I)V" } : Jvm.MethodName) prog_43_method_12_code (2 : Nat) (Option.none : Option Jvm.ClassFile.FieldType)).before args0 about1 = true := code_word (m := ⟨2, 4⟩) (meth := k2m4) (c := k2c4) (by decide +kernel) rfl rfl rfl (by decide +kernel)
set_option maxRecDepth 65536 in
theorem w_c12 : (Jvm.Cond.code ({ cls := "java/lang/Math", name := "max", desc := "(II)I" } : Jvm.MethodName) jdk_29_method_65_code (2 : Nat) (Option.some Jvm.ClassFile.FieldType.int)).before args0 about1 = true := code_word (m := ⟨4, 1⟩) (meth := k4m1) (c := k4c1) (by decide +kernel) rfl rfl rfl (by decide +kernel)
def codes1 : List Jvm.Cond := [Jvm.Cond.code x code maxLocals ret, Jvm.Cond.code ({ cls := "com/example/london_wall/londonwall/wire/Encoder", name := "<init>", desc := "()V" } : Jvm.MethodName) prog_43_method_1_code (1 : Nat) (Option.none : Option Jvm.ClassFile.FieldType), Jvm.Cond.code ({ cls := "java/lang/Object", name := "<init>", desc := "()V" } : Jvm.MethodName) object_method_1_code (1 : Nat) (Option.none : Option Jvm.ClassFile.FieldType), Jvm.Cond.code ({ cls := "com/example/london_wall/londonwall/wire/Encoder", name := "toByteArray", desc := "()[B" } : Jvm.MethodName) prog_43_method_5_code (1 : Nat) (Option.some (Jvm.ClassFile.FieldType.array Jvm.ClassFile.FieldType.byte)), Jvm.Cond.code ({ cls := "java/util/Arrays", name := "copyOf", desc := "([BI)[B" } : Jvm.MethodName) jdk_65_method_121_code (3 : Nat) (Option.some (Jvm.ClassFile.FieldType.array Jvm.ClassFile.FieldType.byte)), Jvm.Cond.code ({ cls := "java/lang/Math", name := "min", desc := "(II)I" } : Jvm.MethodName) jdk_29_method_69_code (2 : Nat) (Option.some Jvm.ClassFile.FieldType.int), Jvm.Cond.code ({ cls := "com/example/london_wall/londonwall/wire/Encoder", name := "writeOctet", desc := "(I)V" } : Jvm.MethodName) prog_43_method_9_code (2 : Nat) (Option.none : Option Jvm.ClassFile.FieldType), Jvm.Cond.code ({ cls := "com/example/london_wall/londonwall/wire/Encoder", name := "ensure", desc := "(I)V" } : Jvm.MethodName) prog_43_method_23_code (2 : Nat) (Option.none : Option Jvm.ClassFile.FieldType), Jvm.Cond.code ({ cls := "com/example/london_wall/londonwall/wire/Encoder", name := "writeShort", desc := "(I)V" } : Jvm.MethodName) prog_43_method_10_code (2 : Nat) (Option.none : Option Jvm.ClassFile.FieldType), Jvm.Cond.code ({ cls := "com/example/london_wall/londonwall/wire/Encoder", name := "writeBytes", desc := "([BII)V" } : Jvm.MethodName) prog_43_method_16_code (4 : Nat) (Option.none : Option Jvm.ClassFile.FieldType), Jvm.Cond.code ({ cls := "com/example/london_wall/londonwall/wire/Encoder", name := "writeLongLong", desc := "(J)V" } : Jvm.MethodName) prog_43_method_13_code (3 : Nat) (Option.none : Option Jvm.ClassFile.FieldType), Jvm.Cond.code ({ cls := "com/example/london_wall/londonwall/wire/Encoder", name := "writeInt", desc := "(I)V" } : Jvm.MethodName) prog_43_method_12_code (2 : Nat) (Option.none : Option Jvm.ClassFile.FieldType), Jvm.Cond.code ({ cls := "java/lang/Math", name := "max", desc := "(II)I" } : Jvm.MethodName) jdk_29_method_65_code (2 : Nat) (Option.some Jvm.ClassFile.FieldType.int)]
set_option maxRecDepth 65536 in
theorem codes_eq : words1.filter isCode = codes1 := rfl
theorem w_codes : ∀ c ∈ words1.filter isCode, c.before args0 about1 = true := by
  rw [codes_eq]
  intro c hc
  simp only [codes1, List.mem_cons, List.not_mem_nil, or_false] at hc
  rcases hc with rfl | rfl | rfl | rfl | rfl | rfl | rfl | rfl | rfl | rfl | rfl | rfl | rfl
  · exact w_c0
  · exact w_c1
  · exact w_c2
  · exact w_c3
  · exact w_c4
  · exact w_c5
  · exact w_c6
  · exact w_c7
  · exact w_c8
  · exact w_c9
  · exact w_c10
  · exact w_c11
  · exact w_c12
set_option maxRecDepth 65536 in
theorem w_t1 : (words1.take 24).all (fun c => isCode c || c.before args0 about1) = true := by decide +kernel
set_option maxRecDepth 65536 in
theorem w_t2 : ((words1.drop 24).take 24).all (fun c => isCode c || c.before args0 about1) = true := by decide +kernel
set_option maxRecDepth 65536 in
theorem w_t3 : (((words1.drop 24).drop 24).take 24).all (fun c => isCode c || c.before args0 about1) = true := by decide +kernel
set_option maxRecDepth 65536 in
theorem w_t4 : (((words1.drop 24).drop 24).drop 24).all (fun c => isCode c || c.before args0 about1) = true := by decide +kernel
theorem w_tables : (allAtoms (Jvm.Cond.code x code maxLocals ret :: tables_1)).before args0 about1 = true := by
  rw [allAtoms_all]
  show words1.all (fun c => c.before args0 about1) = true
  refine all_split ?_ w_codes
  rw [← List.take_append_drop 24 words1, List.all_append, w_t1, ← List.take_append_drop 24 (words1.drop 24), List.all_append, w_t2, ← List.take_append_drop 24 ((words1.drop 24).drop 24), List.all_append, w_t3, w_t4]
  rfl
set_option maxRecDepth 65536 in
theorem w_case : (Jvm.Cond.and given_1 narrow_1).before args0 about1 = true := by decide +kernel
theorem w_applies : (headSpec (Jvm.Cond.code x code maxLocals ret :: tables_1) room_1).applies x e0.platform about1 = true :=
  (Spec.applies_iff w_frames).mpr ⟨w_running, w_runnable, w_alone, w_named, w_hears, w_ripe, w_room, w_tables⟩
theorem atStart : AtStart classFile x code maxLocals ret World_1 tables_1 room_1 Calls_1 rest_1 Pre_1 launch0 p0 e0 about1 theMethod args0 below0 :=
  ⟨lists_1, trivial, launch0.admits_env _ _ _, launch0.least_env, fairChoices_fair.cas, fairChoices_fair.clock, w_frames, w_args, w_heap, w_applies, trivial, trivial, w_case⟩
end start1
theorem witness_1 : WitnessClaimed_1 := ⟨start1.p0, start1.e0, start1.about1, start1.theMethod, start1.args0, start1.below0, start1.atStart⟩
end Jvm.Pilot.@@N@@
