import JvmDerived
import JvmDerived.Pilot.@@N@@Statement
import JvmDerived.Pilot.@@N@@Code
set_option linter.unusedVariables false
set_option linter.unusedSimpArgs false
@@BLOCK:NumsL.lean.txt@@
namespace Jvm.Pilot.@@N@@
open Jvm Jvm.ClassFile Sem Op Lib Jvm.Free Jvm.Stand Jvm.LawKit Jvm.RoadKit Bundle Jvm.Pilot.@@N@@.Jvm.D
/-! my own layer: what stands still in a walk (own_Cx, own_Mx), where it stands (own_Sx), what is left of it (own_Fin) -/
abbrev own_Cx : Type := Program × Launch × Env × Room × State × MethodId × Array Value × List Frame × Method × Code
def own_Sx (n0 : Nat) : own_Cx → State → Heap → Nat → Nat → Prop
  | (p, l, e, R, s, m, args, below, meth, c), T, h, cl, sl => ∃ locs, Stand p l e R s m args below meth c T locs cl sl ∧ Fr n0 locs ∧ T.heap = h ∧ n0 ≤ s.heap.size ∧ cl ≤ R.cells ∧ sl ≤ R.slots
def own_Mx (Z : State) (a0 : Array Value) : own_Cx → ByteArray → String → Nat → Option FieldType → Room → Prop
  | (p, l, e, R, s, m, args, below, meth, c), code, own, mx, ret, rm => p.tables.exec = Jvm.exec ∧ c.code = code ∧ c.maxLocals = mx ∧ s.vm.findClass own = some m.cls ∧ meth.sig.returnType = ret ∧ meth.locks = false ∧ Z.Warmed39 s.vm ∧ R = rm ∧ (∀ d ∈ tables_1, d.before a0 Z = true)
def own_Fin (n0 : Nat) : own_Cx → (Option Value → Heap → Prop) → State → Nat → Array Slot → List Value → Prop
  | (p, l, e, R, s, m, args, below, meth, c), P, T, pc, L, S => ∃ s₂ o, Steps p.tables e below (T.setTop (mkF m pc L S)) s₂ ∧ s₂.status = .running ∧ Ended s₂ below o ∧ ∃ v L', o = .returned v ∧ (P v s₂.heap ∧ Fr n0 L') ∧ FrameEnd s o s₂ L' R.cells R.slots
/-- a method's contract: from these arguments and this heap it returns, and P says what and with which heap -/
def own_Met (l : Launch) (Z : State) (n0 : Nat) (y : MethodName) (code : ByteArray) (mx : Nat) (ret : Option FieldType) (rm : Room) (args : Array Value) (h0 : Heap) (P : Option Value → Heap → Prop) : Prop :=
  ∀ ws : List Jvm.Cond, MetFree l y (head1 (Jvm.Cond.code y code mx ret :: ws) rm) (fun a U => a = args ∧ Z.Warmed39 U.vm ∧ U.heap = h0) (fun _ _ _ _ _ => True) (fun _ U o U' => ∃ v L, o = .returned v ∧ (P v U'.heap ∧ Fr n0 L) ∧ FrameEnd U o U' L rm.cells rm.slots)
section OwnLayer
variable {Z : State} {a0 : Array Value} {n0 : Nat} {K : own_Cx} {code : ByteArray} {own : String} {mx : Nat} {ret : Option FieldType} {rm : Room} {P : Option Value → Heap → Prop} {T : State} {h : Heap} {cl sl pc pc' : Nat} {L L' : Array Slot} {S rest : List Value}
theorem own_enter {l : Launch} {y : MethodName} {args : Array Value} {h0 : Heap} (hpl : plainFor y = true) (hw : ∀ d ∈ tables_1, d.before a0 Z = true) (hn : n0 ≤ h0.size) (he : ∀ m, entryFrame m args mx = mkF m 0 L [])
    (body : ∀ (K : own_Cx) (T : State), K.2.2.2.2.2.2.2.2.1.name = y.name → own_Mx Z a0 K code y.cls mx ret rm → own_Sx n0 K T h0 0 0 → own_Fin n0 K P T 0 L []) : own_Met l Z n0 y code mx ret rm args h0 P := by
  intro ws
  refine MetFree.of_bodySF hpl hisR ?_
  intro p e s m args' below meth c s₁ Bd hml0 hP hK
  obtain ⟨rfl, hZ, hh⟩ := hP
  have hown : s.vm.findClass y.cls = some m.cls := findClass_of_methodNamed Bd.named
  have X0 : Stand p l e rm s m args' below meth c s₁ [] 0 0 := Stand.of_body Bd
  have e0 : s₁.heap = h0 := by rw [← hh, Bd.state]; rfl
  obtain ⟨s2, o, st, r⟩ := body (p, l, e, rm, s, m, args', below, meth, c) s₁ (name_of_methodNamed Bd.named Bd.method).1 ⟨Bd.exec, Bd.bytes, hml0, hown, Bd.returns, Bd.notSynchronized, hZ, rfl, hw⟩ ⟨[], X0, Fr.nil n0, e0, by rw [hh]; exact hn, Nat.zero_le _, Nat.zero_le _⟩
  exact ⟨s2, o, castTop (he m) st, r⟩
theorem own_Sx.size (X : own_Sx n0 K T h cl sl) : n0 ≤ h.size := by
  obtain ⟨p, l, e, R, s, m, args, below, meth, c⟩ := K
  obtain ⟨locs, X, -, rfl, hn, -⟩ := X
  exact Nat.le_trans hn X.same.2.1
theorem own_ret {t : FieldType} (M : own_Mx Z a0 K code own mx (some t) rm) (X : own_Sx n0 K T h cl sl) {w w' : Value} {i : Instr} (hd : decode code pc = .ok (i, 1))
    (hst : ∀ {p : Program} {l : Launch} {e : Env} {R : Room} {s : State} {m : MethodId} {args : Array Value} {below : List Frame} {meth : Method} {c : Code} {locs : List Loc} {fs : List Frame}, Stand p l e R s m args below meth c T locs cl sl → p.tables.exec = Jvm.exec → meth.sig.returnType = some t → decode c.code pc = .ok (i, 1) → (∀ (f : JFrame) (acts : List Action), f.method = m → f.locked = none → f.entered = [] → (doReturn e (T.setTop f) acts (some w')).1 = T.setFrames fs) → Steps p.tables e below (T.setTop (mkF m pc L (w :: S))) (T.setFrames fs)) (hP : P (some w') h) : own_Fin n0 K P T pc L (w :: S) := by
  obtain ⟨p, l, e, R, s, m, args, below, meth, c⟩ := K
  obtain ⟨hx, hby, hml, hown, hret, hlk, hZ, rfl, hw⟩ := M
  obtain ⟨locs, X, hN, rfl, hn, hc, hs⟩ := X
  obtain ⟨fs, hr, hrun, hended, hW, hsame⟩ := X.leave (v := some w') (fun q => by rw [hret] at q; cases q) hlk
  exact ⟨_, _, hst X hx hret (hb hby hd) hr, hrun, hended, _, _, rfl, ⟨hP, hN⟩, ⟨_, rfl⟩, hW, hsame.mono hc hs⟩
theorem own_retI (M : own_Mx Z a0 K code own mx (some .int) rm) (X : own_Sx n0 K T h cl sl) {z : Int32} (hd : decode code pc = .ok (.ireturn, 1)) (hP : P (some (.int z)) h) : own_Fin n0 K P T pc L (.int z :: S) :=
  own_ret M X hd (fun X hx hret hd hr => retOut X hx hret rfl (Or.inl ⟨rfl, Or.inl rfl, z, rfl⟩) hd hr) hP
theorem own_retJ (M : own_Mx Z a0 K code own mx (some .long) rm) (X : own_Sx n0 K T h cl sl) {z : Int64} (hd : decode code pc = .ok (.lreturn, 1)) (hP : P (some (.long z)) h) : own_Fin n0 K P T pc L (.long z :: S) :=
  own_ret M X hd (fun X hx hret hd hr => retOut X hx hret rfl (Or.inr (Or.inl ⟨rfl, rfl, z, rfl⟩)) hd hr) hP
theorem own_retA {t : FieldType} (M : own_Mx Z a0 K code own mx (some t) rm) (X : own_Sx n0 K T h cl sl) {a : Addr} (ht : t.isReference = true) (hna : narrow t (.ref a) = .ref a) (hd : decode code pc = .ok (.areturn, 1)) (hP : P (some (.ref a)) h) : own_Fin n0 K P T pc L (.ref a :: S) :=
  own_ret M X hd (fun X hx hret hd hr => retOut X hx hret hna (Or.inr (Or.inr (Or.inr (Or.inr ⟨rfl, ht, rfl⟩)))) hd hr) hP
theorem own_retN {t : FieldType} (M : own_Mx Z a0 K code own mx (some t) rm) (X : own_Sx n0 K T h cl sl) {z z' : Int32} (ht : t = .boolean ∨ t = .byte ∨ t = .char ∨ t = .short) (hd : decode code pc = .ok (.ireturn, 1)) (hz : nar t z = z') (hP : P (some (.int z')) h) : own_Fin n0 K P T pc L (.int z :: S) :=
  own_ret M X hd (fun X hx hret hd hr => retN X hx hret ht hd (by rw [hz]; exact hr)) hP
theorem own_retV (M : own_Mx Z a0 K code own mx none rm) (X : own_Sx n0 K T h cl sl) (hd : decode code pc = .ok (.return_, 1)) (hP : P none h) : own_Fin n0 K P T pc L [] := by
  obtain ⟨p, l, e, R, s, m, args, below, meth, c⟩ := K
  obtain ⟨hx, hby, hml, hown, hret, hlk, hZ, rfl, hw⟩ := M
  obtain ⟨locs, X, hN, rfl, hn, hc, hs⟩ := X
  obtain ⟨fs, hr, hrun, hended, hW, hsame⟩ := X.leave (v := none) (fun _ => rfl) hlk
  exact ⟨_, _, X.returnOut hx hret (hb hby hd) hr, hrun, hended, _, _, rfl, ⟨hP, hN⟩, ⟨_, rfl⟩, hW, hsame.mono hc hs⟩
theorem own_iload (M : own_Mx Z a0 K code own mx ret rm) (X : own_Sx n0 K T h cl sl) {k : Nat} {v : Int32} (hd : decode code pc = .ok (.iload k, 2)) (hl : L[k]? = some (.val (.int v))) (hp : pc + 2 = pc') (hr : own_Fin n0 K P T pc' L (.int v :: S)) : own_Fin n0 K P T pc L (S) := by
  obtain ⟨p, l, e, R, s, m, args, below, meth, c⟩ := K
  obtain ⟨hx, hby, hml, hown, hret, hlk, hZ, rfl, hw⟩ := M
  obtain ⟨locs, X, hN, eT, hn, hcl, hsl⟩ := X
  obtain ⟨s2, o2, st, r⟩ := hr
  subst hp
  exact ⟨s2, o2, XS.iload X.here hx rfl (hb hby hd) hl st, r⟩
theorem own_iloadN (M : own_Mx Z a0 K code own mx ret rm) (X : own_Sx n0 K T h cl sl) {k : Fin 4} {v : Int32} (hd : decode code pc = .ok (.iload_n k, 1)) (hl : L[k.val]? = some (.val (.int v))) (hp : pc + 1 = pc') (hr : own_Fin n0 K P T pc' L (.int v :: S)) : own_Fin n0 K P T pc L (S) := by
  obtain ⟨p, l, e, R, s, m, args, below, meth, c⟩ := K
  obtain ⟨hx, hby, hml, hown, hret, hlk, hZ, rfl, hw⟩ := M
  obtain ⟨locs, X, hN, eT, hn, hcl, hsl⟩ := X
  obtain ⟨s2, o2, st, r⟩ := hr
  subst hp
  exact ⟨s2, o2, XS.iloadN X.here hx rfl (hb hby hd) hl st, r⟩
theorem own_istore (M : own_Mx Z a0 K code own mx ret rm) (X : own_Sx n0 K T h cl sl) {k : Nat} {v : Int32} (hd : decode code pc = .ok (.istore k, 2)) (hl : storeLocals L k (.int v) = some L') (hp : pc + 2 = pc') (hr : own_Fin n0 K P T pc' L' (S)) : own_Fin n0 K P T pc L (.int v :: S) := by
  obtain ⟨p, l, e, R, s, m, args, below, meth, c⟩ := K
  obtain ⟨hx, hby, hml, hown, hret, hlk, hZ, rfl, hw⟩ := M
  obtain ⟨locs, X, hN, eT, hn, hcl, hsl⟩ := X
  obtain ⟨s2, o2, st, r⟩ := hr
  subst hp
  exact ⟨s2, o2, XS.istore X.here hx rfl (hb hby hd) rfl hl st, r⟩
theorem own_istoreN (M : own_Mx Z a0 K code own mx ret rm) (X : own_Sx n0 K T h cl sl) {k : Fin 4} {v : Int32} (hd : decode code pc = .ok (.istore_n k, 1)) (hl : storeLocals L k.val (.int v) = some L') (hp : pc + 1 = pc') (hr : own_Fin n0 K P T pc' L' (S)) : own_Fin n0 K P T pc L (.int v :: S) := by
  obtain ⟨p, l, e, R, s, m, args, below, meth, c⟩ := K
  obtain ⟨hx, hby, hml, hown, hret, hlk, hZ, rfl, hw⟩ := M
  obtain ⟨locs, X, hN, eT, hn, hcl, hsl⟩ := X
  obtain ⟨s2, o2, st, r⟩ := hr
  subst hp
  exact ⟨s2, o2, XS.istoreN X.here hx rfl (hb hby hd) rfl hl st, r⟩
theorem own_lload (M : own_Mx Z a0 K code own mx ret rm) (X : own_Sx n0 K T h cl sl) {k : Nat} {v : Int64} (hd : decode code pc = .ok (.lload k, 2)) (hl : L[k]? = some (.val (.long v))) (hp : pc + 2 = pc') (hr : own_Fin n0 K P T pc' L (.long v :: S)) : own_Fin n0 K P T pc L (S) := by
  obtain ⟨p, l, e, R, s, m, args, below, meth, c⟩ := K
  obtain ⟨hx, hby, hml, hown, hret, hlk, hZ, rfl, hw⟩ := M
  obtain ⟨locs, X, hN, eT, hn, hcl, hsl⟩ := X
  obtain ⟨s2, o2, st, r⟩ := hr
  subst hp
  exact ⟨s2, o2, XS.lload X.here hx rfl (hb hby hd) hl st, r⟩
theorem own_lloadN (M : own_Mx Z a0 K code own mx ret rm) (X : own_Sx n0 K T h cl sl) {k : Fin 4} {v : Int64} (hd : decode code pc = .ok (.lload_n k, 1)) (hl : L[k.val]? = some (.val (.long v))) (hp : pc + 1 = pc') (hr : own_Fin n0 K P T pc' L (.long v :: S)) : own_Fin n0 K P T pc L (S) := by
  obtain ⟨p, l, e, R, s, m, args, below, meth, c⟩ := K
  obtain ⟨hx, hby, hml, hown, hret, hlk, hZ, rfl, hw⟩ := M
  obtain ⟨locs, X, hN, eT, hn, hcl, hsl⟩ := X
  obtain ⟨s2, o2, st, r⟩ := hr
  subst hp
  exact ⟨s2, o2, XS.lloadN X.here hx rfl (hb hby hd) hl st, r⟩
theorem own_lstore (M : own_Mx Z a0 K code own mx ret rm) (X : own_Sx n0 K T h cl sl) {k : Nat} {v : Int64} (hd : decode code pc = .ok (.lstore k, 2)) (hl : storeLocals L k (.long v) = some L') (hp : pc + 2 = pc') (hr : own_Fin n0 K P T pc' L' (S)) : own_Fin n0 K P T pc L (.long v :: S) := by
  obtain ⟨p, l, e, R, s, m, args, below, meth, c⟩ := K
  obtain ⟨hx, hby, hml, hown, hret, hlk, hZ, rfl, hw⟩ := M
  obtain ⟨locs, X, hN, eT, hn, hcl, hsl⟩ := X
  obtain ⟨s2, o2, st, r⟩ := hr
  subst hp
  exact ⟨s2, o2, XS.lstore X.here hx rfl (hb hby hd) rfl hl st, r⟩
theorem own_lstoreN (M : own_Mx Z a0 K code own mx ret rm) (X : own_Sx n0 K T h cl sl) {k : Fin 4} {v : Int64} (hd : decode code pc = .ok (.lstore_n k, 1)) (hl : storeLocals L k.val (.long v) = some L') (hp : pc + 1 = pc') (hr : own_Fin n0 K P T pc' L' (S)) : own_Fin n0 K P T pc L (.long v :: S) := by
  obtain ⟨p, l, e, R, s, m, args, below, meth, c⟩ := K
  obtain ⟨hx, hby, hml, hown, hret, hlk, hZ, rfl, hw⟩ := M
  obtain ⟨locs, X, hN, eT, hn, hcl, hsl⟩ := X
  obtain ⟨s2, o2, st, r⟩ := hr
  subst hp
  exact ⟨s2, o2, XS.lstoreN X.here hx rfl (hb hby hd) rfl hl st, r⟩
theorem own_aload (M : own_Mx Z a0 K code own mx ret rm) (X : own_Sx n0 K T h cl sl) {k : Nat} {v : Value} (hd : decode code pc = .ok (.aload k, 2)) (hl : L[k]? = some (.val v)) (hv : v.isRef = true) (hp : pc + 2 = pc') (hr : own_Fin n0 K P T pc' L (v :: S)) : own_Fin n0 K P T pc L (S) := by
  obtain ⟨p, l, e, R, s, m, args, below, meth, c⟩ := K
  obtain ⟨hx, hby, hml, hown, hret, hlk, hZ, rfl, hw⟩ := M
  obtain ⟨locs, X, hN, eT, hn, hcl, hsl⟩ := X
  obtain ⟨s2, o2, st, r⟩ := hr
  subst hp
  exact ⟨s2, o2, XS.aload X.here hx rfl (hb hby hd) hl hv st, r⟩
theorem own_aloadN (M : own_Mx Z a0 K code own mx ret rm) (X : own_Sx n0 K T h cl sl) {k : Fin 4} {v : Value} (hd : decode code pc = .ok (.aload_n k, 1)) (hl : L[k.val]? = some (.val v)) (hv : v.isRef = true) (hp : pc + 1 = pc') (hr : own_Fin n0 K P T pc' L (v :: S)) : own_Fin n0 K P T pc L (S) := by
  obtain ⟨p, l, e, R, s, m, args, below, meth, c⟩ := K
  obtain ⟨hx, hby, hml, hown, hret, hlk, hZ, rfl, hw⟩ := M
  obtain ⟨locs, X, hN, eT, hn, hcl, hsl⟩ := X
  obtain ⟨s2, o2, st, r⟩ := hr
  subst hp
  exact ⟨s2, o2, XS.aloadN X.here hx rfl (hb hby hd) hl hv st, r⟩
theorem own_astore (M : own_Mx Z a0 K code own mx ret rm) (X : own_Sx n0 K T h cl sl) {k : Nat} {v : Value} (hd : decode code pc = .ok (.astore k, 2)) (hv : v.isRef = true) (hl : storeLocals L k v = some L') (hp : pc + 2 = pc') (hr : own_Fin n0 K P T pc' L' (S)) : own_Fin n0 K P T pc L (v :: S) := by
  obtain ⟨p, l, e, R, s, m, args, below, meth, c⟩ := K
  obtain ⟨hx, hby, hml, hown, hret, hlk, hZ, rfl, hw⟩ := M
  obtain ⟨locs, X, hN, eT, hn, hcl, hsl⟩ := X
  obtain ⟨s2, o2, st, r⟩ := hr
  subst hp
  exact ⟨s2, o2, XS.astore X.here hx rfl (hb hby hd) rfl hv hl st, r⟩
theorem own_astoreN (M : own_Mx Z a0 K code own mx ret rm) (X : own_Sx n0 K T h cl sl) {k : Fin 4} {v : Value} (hd : decode code pc = .ok (.astore_n k, 1)) (hv : v.isRef = true) (hl : storeLocals L k.val v = some L') (hp : pc + 1 = pc') (hr : own_Fin n0 K P T pc' L' (S)) : own_Fin n0 K P T pc L (v :: S) := by
  obtain ⟨p, l, e, R, s, m, args, below, meth, c⟩ := K
  obtain ⟨hx, hby, hml, hown, hret, hlk, hZ, rfl, hw⟩ := M
  obtain ⟨locs, X, hN, eT, hn, hcl, hsl⟩ := X
  obtain ⟨s2, o2, st, r⟩ := hr
  subst hp
  exact ⟨s2, o2, XS.astoreN X.here hx rfl (hb hby hd) rfl hv hl st, r⟩
theorem own_iconst (M : own_Mx Z a0 K code own mx ret rm) (X : own_Sx n0 K T h cl sl) {i : Int} {v : Int32} (hd : decode code pc = .ok (.iconst i, 1)) (hv : Int32.ofInt i = v) (hp : pc + 1 = pc') (hr : own_Fin n0 K P T pc' L (.int v :: S)) : own_Fin n0 K P T pc L (S) := by
  obtain ⟨p, l, e, R, s, m, args, below, meth, c⟩ := K
  obtain ⟨hx, hby, hml, hown, hret, hlk, hZ, rfl, hw⟩ := M
  obtain ⟨locs, X, hN, eT, hn, hcl, hsl⟩ := X
  obtain ⟨s2, o2, st, r⟩ := hr
  subst hp
  subst hv
  exact ⟨s2, o2, XS.iconst X.here hx rfl (hb hby hd) st, r⟩
theorem own_bipush (M : own_Mx Z a0 K code own mx ret rm) (X : own_Sx n0 K T h cl sl) {i : Int} {v : Int32} (hd : decode code pc = .ok (.bipush i, 2)) (hv : (Int8.ofInt i).toInt32 = v) (hp : pc + 2 = pc') (hr : own_Fin n0 K P T pc' L (.int v :: S)) : own_Fin n0 K P T pc L (S) := by
  obtain ⟨p, l, e, R, s, m, args, below, meth, c⟩ := K
  obtain ⟨hx, hby, hml, hown, hret, hlk, hZ, rfl, hw⟩ := M
  obtain ⟨locs, X, hN, eT, hn, hcl, hsl⟩ := X
  obtain ⟨s2, o2, st, r⟩ := hr
  subst hp
  subst hv
  exact ⟨s2, o2, XS.bipush X.here hx rfl (hb hby hd) st, r⟩
theorem own_sipush (M : own_Mx Z a0 K code own mx ret rm) (X : own_Sx n0 K T h cl sl) {i : Int} {v : Int32} (hd : decode code pc = .ok (.sipush i, 3)) (hv : (Int16.ofInt i).toInt32 = v) (hp : pc + 3 = pc') (hr : own_Fin n0 K P T pc' L (.int v :: S)) : own_Fin n0 K P T pc L (S) := by
  obtain ⟨p, l, e, R, s, m, args, below, meth, c⟩ := K
  obtain ⟨hx, hby, hml, hown, hret, hlk, hZ, rfl, hw⟩ := M
  obtain ⟨locs, X, hN, eT, hn, hcl, hsl⟩ := X
  obtain ⟨s2, o2, st, r⟩ := hr
  subst hp
  subst hv
  exact ⟨s2, o2, XS.sipush X.here hx rfl (hb hby hd) st, r⟩
theorem own_lconst (M : own_Mx Z a0 K code own mx ret rm) (X : own_Sx n0 K T h cl sl) {i : Fin 2} {v : Int64} (hd : decode code pc = .ok (.lconst i, 1)) (hv : Int64.ofNat i = v) (hp : pc + 1 = pc') (hr : own_Fin n0 K P T pc' L (.long v :: S)) : own_Fin n0 K P T pc L (S) := by
  obtain ⟨p, l, e, R, s, m, args, below, meth, c⟩ := K
  obtain ⟨hx, hby, hml, hown, hret, hlk, hZ, rfl, hw⟩ := M
  obtain ⟨locs, X, hN, eT, hn, hcl, hsl⟩ := X
  obtain ⟨s2, o2, st, r⟩ := hr
  subst hp
  subst hv
  exact ⟨s2, o2, XS.lconst X.here hx rfl (hb hby hd) st, r⟩
theorem own_aconst_null (M : own_Mx Z a0 K code own mx ret rm) (X : own_Sx n0 K T h cl sl)  (hd : decode code pc = .ok (.aconst_null, 1)) (hp : pc + 1 = pc') (hr : own_Fin n0 K P T pc' L (.null :: S)) : own_Fin n0 K P T pc L (S) := by
  obtain ⟨p, l, e, R, s, m, args, below, meth, c⟩ := K
  obtain ⟨hx, hby, hml, hown, hret, hlk, hZ, rfl, hw⟩ := M
  obtain ⟨locs, X, hN, eT, hn, hcl, hsl⟩ := X
  obtain ⟨s2, o2, st, r⟩ := hr
  subst hp
  exact ⟨s2, o2, XS.aconstNull X.here hx rfl (hb hby hd) st, r⟩
theorem own_iadd (M : own_Mx Z a0 K code own mx ret rm) (X : own_Sx n0 K T h cl sl) {x y : Int32} (hd : decode code pc = .ok (.iadd, 1)) (hp : pc + 1 = pc') (hr : own_Fin n0 K P T pc' L (.int (x + y) :: S)) : own_Fin n0 K P T pc L (.int y :: .int x :: S) := by
  obtain ⟨p, l, e, R, s, m, args, below, meth, c⟩ := K
  obtain ⟨hx, hby, hml, hown, hret, hlk, hZ, rfl, hw⟩ := M
  obtain ⟨locs, X, hN, eT, hn, hcl, hsl⟩ := X
  obtain ⟨s2, o2, st, r⟩ := hr
  subst hp
  exact ⟨s2, o2, XS.iadd X.here hx rfl (hb hby hd) rfl st, r⟩
theorem own_ladd (M : own_Mx Z a0 K code own mx ret rm) (X : own_Sx n0 K T h cl sl) {x y : Int64} (hd : decode code pc = .ok (.ladd, 1)) (hp : pc + 1 = pc') (hr : own_Fin n0 K P T pc' L (.long (x + y) :: S)) : own_Fin n0 K P T pc L (.long y :: .long x :: S) := by
  obtain ⟨p, l, e, R, s, m, args, below, meth, c⟩ := K
  obtain ⟨hx, hby, hml, hown, hret, hlk, hZ, rfl, hw⟩ := M
  obtain ⟨locs, X, hN, eT, hn, hcl, hsl⟩ := X
  obtain ⟨s2, o2, st, r⟩ := hr
  subst hp
  exact ⟨s2, o2, XS.ladd X.here hx rfl (hb hby hd) rfl st, r⟩
theorem own_isub (M : own_Mx Z a0 K code own mx ret rm) (X : own_Sx n0 K T h cl sl) {x y : Int32} (hd : decode code pc = .ok (.isub, 1)) (hp : pc + 1 = pc') (hr : own_Fin n0 K P T pc' L (.int (x - y) :: S)) : own_Fin n0 K P T pc L (.int y :: .int x :: S) := by
  obtain ⟨p, l, e, R, s, m, args, below, meth, c⟩ := K
  obtain ⟨hx, hby, hml, hown, hret, hlk, hZ, rfl, hw⟩ := M
  obtain ⟨locs, X, hN, eT, hn, hcl, hsl⟩ := X
  obtain ⟨s2, o2, st, r⟩ := hr
  subst hp
  exact ⟨s2, o2, XS.isub X.here hx rfl (hb hby hd) rfl st, r⟩
theorem own_lsub (M : own_Mx Z a0 K code own mx ret rm) (X : own_Sx n0 K T h cl sl) {x y : Int64} (hd : decode code pc = .ok (.lsub, 1)) (hp : pc + 1 = pc') (hr : own_Fin n0 K P T pc' L (.long (x - y) :: S)) : own_Fin n0 K P T pc L (.long y :: .long x :: S) := by
  obtain ⟨p, l, e, R, s, m, args, below, meth, c⟩ := K
  obtain ⟨hx, hby, hml, hown, hret, hlk, hZ, rfl, hw⟩ := M
  obtain ⟨locs, X, hN, eT, hn, hcl, hsl⟩ := X
  obtain ⟨s2, o2, st, r⟩ := hr
  subst hp
  exact ⟨s2, o2, XS.lsub X.here hx rfl (hb hby hd) rfl st, r⟩
theorem own_imul (M : own_Mx Z a0 K code own mx ret rm) (X : own_Sx n0 K T h cl sl) {x y : Int32} (hd : decode code pc = .ok (.imul, 1)) (hp : pc + 1 = pc') (hr : own_Fin n0 K P T pc' L (.int (x * y) :: S)) : own_Fin n0 K P T pc L (.int y :: .int x :: S) := by
  obtain ⟨p, l, e, R, s, m, args, below, meth, c⟩ := K
  obtain ⟨hx, hby, hml, hown, hret, hlk, hZ, rfl, hw⟩ := M
  obtain ⟨locs, X, hN, eT, hn, hcl, hsl⟩ := X
  obtain ⟨s2, o2, st, r⟩ := hr
  subst hp
  exact ⟨s2, o2, XS.imul X.here hx rfl (hb hby hd) rfl st, r⟩
theorem own_lmul (M : own_Mx Z a0 K code own mx ret rm) (X : own_Sx n0 K T h cl sl) {x y : Int64} (hd : decode code pc = .ok (.lmul, 1)) (hp : pc + 1 = pc') (hr : own_Fin n0 K P T pc' L (.long (x * y) :: S)) : own_Fin n0 K P T pc L (.long y :: .long x :: S) := by
  obtain ⟨p, l, e, R, s, m, args, below, meth, c⟩ := K
  obtain ⟨hx, hby, hml, hown, hret, hlk, hZ, rfl, hw⟩ := M
  obtain ⟨locs, X, hN, eT, hn, hcl, hsl⟩ := X
  obtain ⟨s2, o2, st, r⟩ := hr
  subst hp
  exact ⟨s2, o2, XS.lmul X.here hx rfl (hb hby hd) rfl st, r⟩
theorem own_iand (M : own_Mx Z a0 K code own mx ret rm) (X : own_Sx n0 K T h cl sl) {x y : Int32} (hd : decode code pc = .ok (.iand, 1)) (hp : pc + 1 = pc') (hr : own_Fin n0 K P T pc' L (.int (x &&& y) :: S)) : own_Fin n0 K P T pc L (.int y :: .int x :: S) := by
  obtain ⟨p, l, e, R, s, m, args, below, meth, c⟩ := K
  obtain ⟨hx, hby, hml, hown, hret, hlk, hZ, rfl, hw⟩ := M
  obtain ⟨locs, X, hN, eT, hn, hcl, hsl⟩ := X
  obtain ⟨s2, o2, st, r⟩ := hr
  subst hp
  exact ⟨s2, o2, XS.iand X.here hx rfl (hb hby hd) rfl st, r⟩
theorem own_land (M : own_Mx Z a0 K code own mx ret rm) (X : own_Sx n0 K T h cl sl) {x y : Int64} (hd : decode code pc = .ok (.land, 1)) (hp : pc + 1 = pc') (hr : own_Fin n0 K P T pc' L (.long (x &&& y) :: S)) : own_Fin n0 K P T pc L (.long y :: .long x :: S) := by
  obtain ⟨p, l, e, R, s, m, args, below, meth, c⟩ := K
  obtain ⟨hx, hby, hml, hown, hret, hlk, hZ, rfl, hw⟩ := M
  obtain ⟨locs, X, hN, eT, hn, hcl, hsl⟩ := X
  obtain ⟨s2, o2, st, r⟩ := hr
  subst hp
  exact ⟨s2, o2, XS.land X.here hx rfl (hb hby hd) rfl st, r⟩
theorem own_ior (M : own_Mx Z a0 K code own mx ret rm) (X : own_Sx n0 K T h cl sl) {x y : Int32} (hd : decode code pc = .ok (.ior, 1)) (hp : pc + 1 = pc') (hr : own_Fin n0 K P T pc' L (.int (x ||| y) :: S)) : own_Fin n0 K P T pc L (.int y :: .int x :: S) := by
  obtain ⟨p, l, e, R, s, m, args, below, meth, c⟩ := K
  obtain ⟨hx, hby, hml, hown, hret, hlk, hZ, rfl, hw⟩ := M
  obtain ⟨locs, X, hN, eT, hn, hcl, hsl⟩ := X
  obtain ⟨s2, o2, st, r⟩ := hr
  subst hp
  exact ⟨s2, o2, XS.ior X.here hx rfl (hb hby hd) rfl st, r⟩
theorem own_lor (M : own_Mx Z a0 K code own mx ret rm) (X : own_Sx n0 K T h cl sl) {x y : Int64} (hd : decode code pc = .ok (.lor, 1)) (hp : pc + 1 = pc') (hr : own_Fin n0 K P T pc' L (.long (x ||| y) :: S)) : own_Fin n0 K P T pc L (.long y :: .long x :: S) := by
  obtain ⟨p, l, e, R, s, m, args, below, meth, c⟩ := K
  obtain ⟨hx, hby, hml, hown, hret, hlk, hZ, rfl, hw⟩ := M
  obtain ⟨locs, X, hN, eT, hn, hcl, hsl⟩ := X
  obtain ⟨s2, o2, st, r⟩ := hr
  subst hp
  exact ⟨s2, o2, XS.lor X.here hx rfl (hb hby hd) rfl st, r⟩
theorem own_ixor (M : own_Mx Z a0 K code own mx ret rm) (X : own_Sx n0 K T h cl sl) {x y : Int32} (hd : decode code pc = .ok (.ixor, 1)) (hp : pc + 1 = pc') (hr : own_Fin n0 K P T pc' L (.int (x ^^^ y) :: S)) : own_Fin n0 K P T pc L (.int y :: .int x :: S) := by
  obtain ⟨p, l, e, R, s, m, args, below, meth, c⟩ := K
  obtain ⟨hx, hby, hml, hown, hret, hlk, hZ, rfl, hw⟩ := M
  obtain ⟨locs, X, hN, eT, hn, hcl, hsl⟩ := X
  obtain ⟨s2, o2, st, r⟩ := hr
  subst hp
  exact ⟨s2, o2, XS.ixor X.here hx rfl (hb hby hd) rfl st, r⟩
theorem own_lxor (M : own_Mx Z a0 K code own mx ret rm) (X : own_Sx n0 K T h cl sl) {x y : Int64} (hd : decode code pc = .ok (.lxor, 1)) (hp : pc + 1 = pc') (hr : own_Fin n0 K P T pc' L (.long (x ^^^ y) :: S)) : own_Fin n0 K P T pc L (.long y :: .long x :: S) := by
  obtain ⟨p, l, e, R, s, m, args, below, meth, c⟩ := K
  obtain ⟨hx, hby, hml, hown, hret, hlk, hZ, rfl, hw⟩ := M
  obtain ⟨locs, X, hN, eT, hn, hcl, hsl⟩ := X
  obtain ⟨s2, o2, st, r⟩ := hr
  subst hp
  exact ⟨s2, o2, XS.lxor X.here hx rfl (hb hby hd) rfl st, r⟩
theorem own_ishl (M : own_Mx Z a0 K code own mx ret rm) (X : own_Sx n0 K T h cl sl) {x y : Int32} (hd : decode code pc = .ok (.ishl, 1)) (hp : pc + 1 = pc') (hr : own_Fin n0 K P T pc' L (.int (x <<< (y &&& 31)) :: S)) : own_Fin n0 K P T pc L (.int y :: .int x :: S) := by
  obtain ⟨p, l, e, R, s, m, args, below, meth, c⟩ := K
  obtain ⟨hx, hby, hml, hown, hret, hlk, hZ, rfl, hw⟩ := M
  obtain ⟨locs, X, hN, eT, hn, hcl, hsl⟩ := X
  obtain ⟨s2, o2, st, r⟩ := hr
  subst hp
  exact ⟨s2, o2, XS.ishl X.here hx rfl (hb hby hd) rfl st, r⟩
theorem own_ishr (M : own_Mx Z a0 K code own mx ret rm) (X : own_Sx n0 K T h cl sl) {x y : Int32} (hd : decode code pc = .ok (.ishr, 1)) (hp : pc + 1 = pc') (hr : own_Fin n0 K P T pc' L (.int (x >>> (y &&& 31)) :: S)) : own_Fin n0 K P T pc L (.int y :: .int x :: S) := by
  obtain ⟨p, l, e, R, s, m, args, below, meth, c⟩ := K
  obtain ⟨hx, hby, hml, hown, hret, hlk, hZ, rfl, hw⟩ := M
  obtain ⟨locs, X, hN, eT, hn, hcl, hsl⟩ := X
  obtain ⟨s2, o2, st, r⟩ := hr
  subst hp
  exact ⟨s2, o2, XS.ishr X.here hx rfl (hb hby hd) rfl st, r⟩
theorem own_iushr (M : own_Mx Z a0 K code own mx ret rm) (X : own_Sx n0 K T h cl sl) {x y : Int32} (hd : decode code pc = .ok (.iushr, 1)) (hp : pc + 1 = pc') (hr : own_Fin n0 K P T pc' L (.int ((x.toUInt32 >>> (y &&& 31).toUInt32).toInt32) :: S)) : own_Fin n0 K P T pc L (.int y :: .int x :: S) := by
  obtain ⟨p, l, e, R, s, m, args, below, meth, c⟩ := K
  obtain ⟨hx, hby, hml, hown, hret, hlk, hZ, rfl, hw⟩ := M
  obtain ⟨locs, X, hN, eT, hn, hcl, hsl⟩ := X
  obtain ⟨s2, o2, st, r⟩ := hr
  subst hp
  exact ⟨s2, o2, XS.iushr X.here hx rfl (hb hby hd) rfl st, r⟩
theorem own_lshl (M : own_Mx Z a0 K code own mx ret rm) (X : own_Sx n0 K T h cl sl) {x : Int64} {y : Int32} (hd : decode code pc = .ok (.lshl, 1)) (hp : pc + 1 = pc') (hr : own_Fin n0 K P T pc' L (.long (x <<< (y &&& 0x3f).toInt64) :: S)) : own_Fin n0 K P T pc L (.int y :: .long x :: S) := by
  obtain ⟨p, l, e, R, s, m, args, below, meth, c⟩ := K
  obtain ⟨hx, hby, hml, hown, hret, hlk, hZ, rfl, hw⟩ := M
  obtain ⟨locs, X, hN, eT, hn, hcl, hsl⟩ := X
  obtain ⟨s2, o2, st, r⟩ := hr
  subst hp
  exact ⟨s2, o2, XS.lshl X.here hx rfl (hb hby hd) rfl st, r⟩
theorem own_lshr (M : own_Mx Z a0 K code own mx ret rm) (X : own_Sx n0 K T h cl sl) {x : Int64} {y : Int32} (hd : decode code pc = .ok (.lshr, 1)) (hp : pc + 1 = pc') (hr : own_Fin n0 K P T pc' L (.long (x >>> (y &&& 0x3f).toInt64) :: S)) : own_Fin n0 K P T pc L (.int y :: .long x :: S) := by
  obtain ⟨p, l, e, R, s, m, args, below, meth, c⟩ := K
  obtain ⟨hx, hby, hml, hown, hret, hlk, hZ, rfl, hw⟩ := M
  obtain ⟨locs, X, hN, eT, hn, hcl, hsl⟩ := X
  obtain ⟨s2, o2, st, r⟩ := hr
  subst hp
  exact ⟨s2, o2, XS.lshr X.here hx rfl (hb hby hd) rfl st, r⟩
theorem own_lushr (M : own_Mx Z a0 K code own mx ret rm) (X : own_Sx n0 K T h cl sl) {x : Int64} {y : Int32} (hd : decode code pc = .ok (.lushr, 1)) (hp : pc + 1 = pc') (hr : own_Fin n0 K P T pc' L (.long ((x.toUInt64 >>> (y &&& 0x3f).toInt64.toUInt64).toInt64) :: S)) : own_Fin n0 K P T pc L (.int y :: .long x :: S) := by
  obtain ⟨p, l, e, R, s, m, args, below, meth, c⟩ := K
  obtain ⟨hx, hby, hml, hown, hret, hlk, hZ, rfl, hw⟩ := M
  obtain ⟨locs, X, hN, eT, hn, hcl, hsl⟩ := X
  obtain ⟨s2, o2, st, r⟩ := hr
  subst hp
  exact ⟨s2, o2, XS.lushr X.here hx rfl (hb hby hd) rfl st, r⟩
theorem own_idiv (M : own_Mx Z a0 K code own mx ret rm) (X : own_Sx n0 K T h cl sl) {x y : Int32} (hd : decode code pc = .ok (.idiv, 1)) (hy : y ≠ 0) (hp : pc + 1 = pc') (hr : own_Fin n0 K P T pc' L (.int (x / y) :: S)) : own_Fin n0 K P T pc L (.int y :: .int x :: S) := by
  obtain ⟨p, l, e, R, s, m, args, below, meth, c⟩ := K
  obtain ⟨hx, hby, hml, hown, hret, hlk, hZ, rfl, hw⟩ := M
  obtain ⟨locs, X, hN, eT, hn, hcl, hsl⟩ := X
  obtain ⟨s2, o2, st, r⟩ := hr
  subst hp
  exact ⟨s2, o2, XS.idiv X.here hx rfl (hb hby hd) rfl hy st, r⟩
theorem own_irem (M : own_Mx Z a0 K code own mx ret rm) (X : own_Sx n0 K T h cl sl) {x y : Int32} (hd : decode code pc = .ok (.irem, 1)) (hy : y ≠ 0) (hp : pc + 1 = pc') (hr : own_Fin n0 K P T pc' L (.int (x % y) :: S)) : own_Fin n0 K P T pc L (.int y :: .int x :: S) := by
  obtain ⟨p, l, e, R, s, m, args, below, meth, c⟩ := K
  obtain ⟨hx, hby, hml, hown, hret, hlk, hZ, rfl, hw⟩ := M
  obtain ⟨locs, X, hN, eT, hn, hcl, hsl⟩ := X
  obtain ⟨s2, o2, st, r⟩ := hr
  subst hp
  exact ⟨s2, o2, iremM X hx rfl (hb hby hd) rfl hy st, r⟩
theorem own_ldiv (M : own_Mx Z a0 K code own mx ret rm) (X : own_Sx n0 K T h cl sl) {x y : Int64} (hd : decode code pc = .ok (.ldiv, 1)) (hy : y ≠ 0) (hp : pc + 1 = pc') (hr : own_Fin n0 K P T pc' L (.long (x / y) :: S)) : own_Fin n0 K P T pc L (.long y :: .long x :: S) := by
  obtain ⟨p, l, e, R, s, m, args, below, meth, c⟩ := K
  obtain ⟨hx, hby, hml, hown, hret, hlk, hZ, rfl, hw⟩ := M
  obtain ⟨locs, X, hN, eT, hn, hcl, hsl⟩ := X
  obtain ⟨s2, o2, st, r⟩ := hr
  subst hp
  exact ⟨s2, o2, XS.ldiv X.here hx rfl (hb hby hd) rfl hy st, r⟩
theorem own_lrem (M : own_Mx Z a0 K code own mx ret rm) (X : own_Sx n0 K T h cl sl) {x y : Int64} (hd : decode code pc = .ok (.lrem, 1)) (hy : y ≠ 0) (hp : pc + 1 = pc') (hr : own_Fin n0 K P T pc' L (.long (x - (x / y) * y) :: S)) : own_Fin n0 K P T pc L (.long y :: .long x :: S) := by
  obtain ⟨p, l, e, R, s, m, args, below, meth, c⟩ := K
  obtain ⟨hx, hby, hml, hown, hret, hlk, hZ, rfl, hw⟩ := M
  obtain ⟨locs, X, hN, eT, hn, hcl, hsl⟩ := X
  obtain ⟨s2, o2, st, r⟩ := hr
  subst hp
  exact ⟨s2, o2, XS.lrem X.here hx rfl (hb hby hd) rfl hy st, r⟩
theorem own_ineg (M : own_Mx Z a0 K code own mx ret rm) (X : own_Sx n0 K T h cl sl) {x : Int32} (hd : decode code pc = .ok (.ineg, 1)) (hp : pc + 1 = pc') (hr : own_Fin n0 K P T pc' L (.int (-x) :: S)) : own_Fin n0 K P T pc L (.int x :: S) := by
  obtain ⟨p, l, e, R, s, m, args, below, meth, c⟩ := K
  obtain ⟨hx, hby, hml, hown, hret, hlk, hZ, rfl, hw⟩ := M
  obtain ⟨locs, X, hN, eT, hn, hcl, hsl⟩ := X
  obtain ⟨s2, o2, st, r⟩ := hr
  subst hp
  exact ⟨s2, o2, XS.ineg X.here hx rfl (hb hby hd) rfl st, r⟩
theorem own_lneg (M : own_Mx Z a0 K code own mx ret rm) (X : own_Sx n0 K T h cl sl) {x : Int64} (hd : decode code pc = .ok (.lneg, 1)) (hp : pc + 1 = pc') (hr : own_Fin n0 K P T pc' L (.long (-x) :: S)) : own_Fin n0 K P T pc L (.long x :: S) := by
  obtain ⟨p, l, e, R, s, m, args, below, meth, c⟩ := K
  obtain ⟨hx, hby, hml, hown, hret, hlk, hZ, rfl, hw⟩ := M
  obtain ⟨locs, X, hN, eT, hn, hcl, hsl⟩ := X
  obtain ⟨s2, o2, st, r⟩ := hr
  subst hp
  exact ⟨s2, o2, XS.lneg X.here hx rfl (hb hby hd) rfl st, r⟩
theorem own_i2l (M : own_Mx Z a0 K code own mx ret rm) (X : own_Sx n0 K T h cl sl) {x : Int32} (hd : decode code pc = .ok (.i2l, 1)) (hp : pc + 1 = pc') (hr : own_Fin n0 K P T pc' L (.long (x.toInt64) :: S)) : own_Fin n0 K P T pc L (.int x :: S) := by
  obtain ⟨p, l, e, R, s, m, args, below, meth, c⟩ := K
  obtain ⟨hx, hby, hml, hown, hret, hlk, hZ, rfl, hw⟩ := M
  obtain ⟨locs, X, hN, eT, hn, hcl, hsl⟩ := X
  obtain ⟨s2, o2, st, r⟩ := hr
  subst hp
  exact ⟨s2, o2, XS.i2l X.here hx rfl (hb hby hd) rfl st, r⟩
theorem own_l2i (M : own_Mx Z a0 K code own mx ret rm) (X : own_Sx n0 K T h cl sl) {x : Int64} (hd : decode code pc = .ok (.l2i, 1)) (hp : pc + 1 = pc') (hr : own_Fin n0 K P T pc' L (.int (x.toInt32) :: S)) : own_Fin n0 K P T pc L (.long x :: S) := by
  obtain ⟨p, l, e, R, s, m, args, below, meth, c⟩ := K
  obtain ⟨hx, hby, hml, hown, hret, hlk, hZ, rfl, hw⟩ := M
  obtain ⟨locs, X, hN, eT, hn, hcl, hsl⟩ := X
  obtain ⟨s2, o2, st, r⟩ := hr
  subst hp
  exact ⟨s2, o2, XS.l2i X.here hx rfl (hb hby hd) rfl st, r⟩
theorem own_i2b (M : own_Mx Z a0 K code own mx ret rm) (X : own_Sx n0 K T h cl sl) {x : Int32} (hd : decode code pc = .ok (.i2b, 1)) (hp : pc + 1 = pc') (hr : own_Fin n0 K P T pc' L (.int (x.toInt8.toInt32) :: S)) : own_Fin n0 K P T pc L (.int x :: S) := by
  obtain ⟨p, l, e, R, s, m, args, below, meth, c⟩ := K
  obtain ⟨hx, hby, hml, hown, hret, hlk, hZ, rfl, hw⟩ := M
  obtain ⟨locs, X, hN, eT, hn, hcl, hsl⟩ := X
  obtain ⟨s2, o2, st, r⟩ := hr
  subst hp
  exact ⟨s2, o2, XS.i2b X.here hx rfl (hb hby hd) rfl st, r⟩
theorem own_i2s (M : own_Mx Z a0 K code own mx ret rm) (X : own_Sx n0 K T h cl sl) {x : Int32} (hd : decode code pc = .ok (.i2s, 1)) (hp : pc + 1 = pc') (hr : own_Fin n0 K P T pc' L (.int (x.toInt16.toInt32) :: S)) : own_Fin n0 K P T pc L (.int x :: S) := by
  obtain ⟨p, l, e, R, s, m, args, below, meth, c⟩ := K
  obtain ⟨hx, hby, hml, hown, hret, hlk, hZ, rfl, hw⟩ := M
  obtain ⟨locs, X, hN, eT, hn, hcl, hsl⟩ := X
  obtain ⟨s2, o2, st, r⟩ := hr
  subst hp
  exact ⟨s2, o2, XS.i2s X.here hx rfl (hb hby hd) rfl st, r⟩
theorem own_i2c (M : own_Mx Z a0 K code own mx ret rm) (X : own_Sx n0 K T h cl sl) {x : Int32} (hd : decode code pc = .ok (.i2c, 1)) (hp : pc + 1 = pc') (hr : own_Fin n0 K P T pc' L (.int (x.toUInt32.toUInt16.toUInt32.toInt32) :: S)) : own_Fin n0 K P T pc L (.int x :: S) := by
  obtain ⟨p, l, e, R, s, m, args, below, meth, c⟩ := K
  obtain ⟨hx, hby, hml, hown, hret, hlk, hZ, rfl, hw⟩ := M
  obtain ⟨locs, X, hN, eT, hn, hcl, hsl⟩ := X
  obtain ⟨s2, o2, st, r⟩ := hr
  subst hp
  exact ⟨s2, o2, XS.i2c X.here hx rfl (hb hby hd) rfl st, r⟩
theorem own_iinc (M : own_Mx Z a0 K code own mx ret rm) (X : own_Sx n0 K T h cl sl) {k : Nat} {i : Int} {x v : Int32} (hd : decode code pc = .ok (.iinc k i, 3)) (hl : L[k]? = some (.val (.int x))) (hv : x + Int32.ofInt i = v) (hl' : storeLocals L k (.int v) = some L') (hp : pc + 3 = pc') (hr : own_Fin n0 K P T pc' L' (S)) : own_Fin n0 K P T pc L (S) := by
  obtain ⟨p, l, e, R, s, m, args, below, meth, c⟩ := K
  obtain ⟨hx, hby, hml, hown, hret, hlk, hZ, rfl, hw⟩ := M
  obtain ⟨locs, X, hN, eT, hn, hcl, hsl⟩ := X
  obtain ⟨s2, o2, st, r⟩ := hr
  subst hp
  subst hv
  exact ⟨s2, o2, XS.iinc X.here hx rfl (hb hby hd) hl hl' st, r⟩
theorem own_dup (M : own_Mx Z a0 K code own mx ret rm) (X : own_Sx n0 K T h cl sl) {v : Value} (hd : decode code pc = .ok (.dup, 1)) (hc : v.category = 1) (hp : pc + 1 = pc') (hr : own_Fin n0 K P T pc' L (v :: v :: S)) : own_Fin n0 K P T pc L (v :: S) := by
  obtain ⟨p, l, e, R, s, m, args, below, meth, c⟩ := K
  obtain ⟨hx, hby, hml, hown, hret, hlk, hZ, rfl, hw⟩ := M
  obtain ⟨locs, X, hN, eT, hn, hcl, hsl⟩ := X
  obtain ⟨s2, o2, st, r⟩ := hr
  subst hp
  exact ⟨s2, o2, XS.dup X.here hx rfl (hb hby hd) rfl hc st, r⟩
theorem own_pop (M : own_Mx Z a0 K code own mx ret rm) (X : own_Sx n0 K T h cl sl) {v : Value} (hd : decode code pc = .ok (.pop, 1)) (hc : v.category = 1) (hp : pc + 1 = pc') (hr : own_Fin n0 K P T pc' L (S)) : own_Fin n0 K P T pc L (v :: S) := by
  obtain ⟨p, l, e, R, s, m, args, below, meth, c⟩ := K
  obtain ⟨hx, hby, hml, hown, hret, hlk, hZ, rfl, hw⟩ := M
  obtain ⟨locs, X, hN, eT, hn, hcl, hsl⟩ := X
  obtain ⟨s2, o2, st, r⟩ := hr
  subst hp
  exact ⟨s2, o2, XS.pop X.here hx rfl (hb hby hd) rfl hc st, r⟩
theorem own_dup_x1 (M : own_Mx Z a0 K code own mx ret rm) (X : own_Sx n0 K T h cl sl) {v w : Value} (hd : decode code pc = .ok (.dup_x1, 1)) (hc : v.category = 1) (hc' : w.category = 1) (hp : pc + 1 = pc') (hr : own_Fin n0 K P T pc' L (v :: w :: v :: S)) : own_Fin n0 K P T pc L (v :: w :: S) := by
  obtain ⟨p, l, e, R, s, m, args, below, meth, c⟩ := K
  obtain ⟨hx, hby, hml, hown, hret, hlk, hZ, rfl, hw⟩ := M
  obtain ⟨locs, X, hN, eT, hn, hcl, hsl⟩ := X
  obtain ⟨s2, o2, st, r⟩ := hr
  subst hp
  exact ⟨s2, o2, XS.dupX1 X.here hx rfl (hb hby hd) rfl hc hc' st, r⟩
theorem own_dup2 (M : own_Mx Z a0 K code own mx ret rm) (X : own_Sx n0 K T h cl sl) {v w : Value} (hd : decode code pc = .ok (.dup2, 1)) (hc : v.category = 1) (hc' : w.category = 1) (hp : pc + 1 = pc') (hr : own_Fin n0 K P T pc' L (v :: w :: v :: w :: S)) : own_Fin n0 K P T pc L (v :: w :: S) := by
  obtain ⟨p, l, e, R, s, m, args, below, meth, c⟩ := K
  obtain ⟨hx, hby, hml, hown, hret, hlk, hZ, rfl, hw⟩ := M
  obtain ⟨locs, X, hN, eT, hn, hcl, hsl⟩ := X
  obtain ⟨s2, o2, st, r⟩ := hr
  subst hp
  exact ⟨s2, o2, XT.dup2 X.here hx rfl (hb hby hd) rfl hc hc' st, r⟩
theorem own_goto (M : own_Mx Z a0 K code own mx ret rm) (X : own_Sx n0 K T h cl sl) {o : Int} (hd : decode code pc = .ok (.goto o, 3)) (ho : 0 ≤ (pc : Int) + o) (hp : ((pc : Int) + o).toNat = pc') (hr : own_Fin n0 K P T pc' L S) : own_Fin n0 K P T pc L S := by
  obtain ⟨p, l, e, R, s, m, args, below, meth, c⟩ := K
  obtain ⟨hx, hby, hml, hown, hret, hlk, hZ, rfl, hw⟩ := M
  obtain ⟨locs, X, hN, eT, hn, hcl, hsl⟩ := X
  obtain ⟨s2, o2, st, r⟩ := hr
  exact ⟨s2, o2, XS.goto X.here hx rfl (pc0 := pc) rfl (hb hby hd) ho hp st, r⟩
theorem own_ldc (M : own_Mx Z a0 K code own mx ret rm) (X : own_Sx n0 K T h cl sl) {k : Nat} {v : Int32} (w : (Jvm.Cond.constant own k v).before a0 Z = true) (hd : decode code pc = .ok (.ldc k, 2)) (hp : pc + 2 = pc') (hr : own_Fin n0 K P T pc' L (.int v :: S)) : own_Fin n0 K P T pc L (S) := by
  obtain ⟨p, l, e, R, s, m, args, below, meth, c⟩ := K
  obtain ⟨hx, hby, hml, hown, hret, hlk, hZ, rfl, hw⟩ := M
  obtain ⟨locs, X, hN, eT, hn, hcl, hsl⟩ := X
  obtain ⟨s2, o2, st, r⟩ := hr
  subst hp
  exact ⟨s2, o2, X.ldcInt hx hown (mvT hZ w) (g := mkF m pc L S) rfl (hb hby hd) _ st, r⟩
theorem own_ldc_w (M : own_Mx Z a0 K code own mx ret rm) (X : own_Sx n0 K T h cl sl) {k : Nat} {v : Int32} (w : (Jvm.Cond.constant own k v).before a0 Z = true) (hd : decode code pc = .ok (.ldc_w k, 3)) (hp : pc + 3 = pc') (hr : own_Fin n0 K P T pc' L (.int v :: S)) : own_Fin n0 K P T pc L (S) := by
  obtain ⟨p, l, e, R, s, m, args, below, meth, c⟩ := K
  obtain ⟨hx, hby, hml, hown, hret, hlk, hZ, rfl, hw⟩ := M
  obtain ⟨locs, X, hN, eT, hn, hcl, hsl⟩ := X
  obtain ⟨s2, o2, st, r⟩ := hr
  subst hp
  exact ⟨s2, o2, X.ldcwInt hx hown (mvT hZ w) (g := mkF m pc L S) rfl (hb hby hd) _ st, r⟩
theorem own_ldc2_w (M : own_Mx Z a0 K code own mx ret rm) (X : own_Sx n0 K T h cl sl) {k : Nat} {v : Int64} (w : (Jvm.Cond.constantLong own k v).before a0 Z = true) (hd : decode code pc = .ok (.ldc2_w k, 3)) (hp : pc + 3 = pc') (hr : own_Fin n0 K P T pc' L (.long v :: S)) : own_Fin n0 K P T pc L (S) := by
  obtain ⟨p, l, e, R, s, m, args, below, meth, c⟩ := K
  obtain ⟨hx, hby, hml, hown, hret, hlk, hZ, rfl, hw⟩ := M
  obtain ⟨locs, X, hN, eT, hn, hcl, hsl⟩ := X
  obtain ⟨s2, o2, st, r⟩ := hr
  subst hp
  exact ⟨s2, o2, X.ldc2Long hx hown (mvT hZ w) (g := mkF m pc L S) rfl (hb hby hd) _ st, r⟩
theorem own_icmp_lt (M : own_Mx Z a0 K code own mx ret rm) (X : own_Sx n0 K T h cl sl) {x y : Int32} {o : Int} {pcY pcN : Nat} (hd : decode code pc = .ok (.if_icmp .lt o, 3)) (ho : 0 ≤ (pc : Int) + o) (hY : ((pc : Int) + o).toNat = pcY) (hpN : pc + 3 = pcN) (yes : x < y → own_Fin n0 K P T pcY L S) (no : ¬ x < y → own_Fin n0 K P T pcN L S) : own_Fin n0 K P T pc L (.int y :: .int x :: S) := by
  obtain ⟨p, l, e, R, s, m, args, below, meth, c⟩ := K
  obtain ⟨hx, hby, hml, hown, hret, hlk, hZ, rfl, hw⟩ := M
  obtain ⟨locs, X, hN, eT, hn, hcl, hsl⟩ := X
  subst hpN
  by_cases q : x < y
  · obtain ⟨s2, o2, st, r⟩ := yes q
    exact ⟨s2, o2, XS.icmpYes X.here hx rfl (pc0 := pc) rfl (hb hby hd) rfl (tlt q).1 ho hY st, r⟩
  · obtain ⟨s2, o2, st, r⟩ := no q
    exact ⟨s2, o2, XS.icmpNo X.here hx rfl (hb hby hd) rfl (flt q).1 st, r⟩
theorem own_if_lt (M : own_Mx Z a0 K code own mx ret rm) (X : own_Sx n0 K T h cl sl) {x : Int32} {o : Int} {pcY pcN : Nat} (hd : decode code pc = .ok (.ifCond .lt o, 3)) (ho : 0 ≤ (pc : Int) + o) (hY : ((pc : Int) + o).toNat = pcY) (hpN : pc + 3 = pcN) (yes : x < 0 → own_Fin n0 K P T pcY L S) (no : ¬ x < 0 → own_Fin n0 K P T pcN L S) : own_Fin n0 K P T pc L (.int x :: S) := by
  obtain ⟨p, l, e, R, s, m, args, below, meth, c⟩ := K
  obtain ⟨hx, hby, hml, hown, hret, hlk, hZ, rfl, hw⟩ := M
  obtain ⟨locs, X, hN, eT, hn, hcl, hsl⟩ := X
  subst hpN
  by_cases q : x < 0
  · obtain ⟨s2, o2, st, r⟩ := yes q
    exact ⟨s2, o2, XS.ifYes X.here hx rfl (pc0 := pc) rfl (hb hby hd) rfl ((if0 _ _).trans (tlt q).1) ho hY st, r⟩
  · obtain ⟨s2, o2, st, r⟩ := no q
    exact ⟨s2, o2, XS.ifNo X.here hx rfl (hb hby hd) rfl ((if0 _ _).trans (flt q).1) st, r⟩
theorem own_lcmp_lt (M : own_Mx Z a0 K code own mx ret rm) (X : own_Sx n0 K T h cl sl) {x y : Int64} {pc1 : Nat} {o : Int} {pcY pcN : Nat} (hdc : decode code pc = .ok (.lcmp, 1)) (h1 : pc + 1 = pc1) (hd : decode code pc1 = .ok (.ifCond .lt o, 3)) (ho : 0 ≤ (pc1 : Int) + o) (hY : ((pc1 : Int) + o).toNat = pcY) (hpN : pc1 + 3 = pcN) (yes : x < y → own_Fin n0 K P T pcY L S) (no : ¬ x < y → own_Fin n0 K P T pcN L S) : own_Fin n0 K P T pc L (.long y :: .long x :: S) := by
  obtain ⟨p, l, e, R, s, m, args, below, meth, c⟩ := K
  obtain ⟨hx, hby, hml, hown, hret, hlk, hZ, rfl, hw⟩ := M
  obtain ⟨locs, X, hN, eT, hn, hcl, hsl⟩ := X
  subst hpN h1
  by_cases q : x < y
  · obtain ⟨s2, o2, st, r⟩ := yes q
    exact ⟨s2, o2, XS.lcmp X.here hx rfl (hb hby hdc) rfl (XS.ifYes (g := mkF m (pc + 1) L (.int (lcmpW x y) :: S)) X.here hx rfl (pc0 := pc + 1) rfl (hb hby hd) rfl ((if0 _ _).trans (tlt ((lw_lt x y).mpr q)).1) ho hY st), r⟩
  · obtain ⟨s2, o2, st, r⟩ := no q
    exact ⟨s2, o2, XS.lcmp X.here hx rfl (hb hby hdc) rfl (XS.ifNo (g := mkF m (pc + 1) L (.int (lcmpW x y) :: S)) X.here hx rfl (hb hby hd) rfl ((if0 _ _).trans (flt (fun z => q ((lw_lt x y).mp z))).1) st), r⟩
theorem own_icmp_ge (M : own_Mx Z a0 K code own mx ret rm) (X : own_Sx n0 K T h cl sl) {x y : Int32} {o : Int} {pcY pcN : Nat} (hd : decode code pc = .ok (.if_icmp .ge o, 3)) (ho : 0 ≤ (pc : Int) + o) (hY : ((pc : Int) + o).toNat = pcY) (hpN : pc + 3 = pcN) (yes : ¬ x < y → own_Fin n0 K P T pcY L S) (no : x < y → own_Fin n0 K P T pcN L S) : own_Fin n0 K P T pc L (.int y :: .int x :: S) := by
  obtain ⟨p, l, e, R, s, m, args, below, meth, c⟩ := K
  obtain ⟨hx, hby, hml, hown, hret, hlk, hZ, rfl, hw⟩ := M
  obtain ⟨locs, X, hN, eT, hn, hcl, hsl⟩ := X
  subst hpN
  by_cases q : x < y
  · obtain ⟨s2, o2, st, r⟩ := no q
    exact ⟨s2, o2, XS.icmpNo X.here hx rfl (hb hby hd) rfl (tlt q).2.1 st, r⟩
  · obtain ⟨s2, o2, st, r⟩ := yes q
    exact ⟨s2, o2, XS.icmpYes X.here hx rfl (pc0 := pc) rfl (hb hby hd) rfl (flt q).2.1 ho hY st, r⟩
theorem own_if_ge (M : own_Mx Z a0 K code own mx ret rm) (X : own_Sx n0 K T h cl sl) {x : Int32} {o : Int} {pcY pcN : Nat} (hd : decode code pc = .ok (.ifCond .ge o, 3)) (ho : 0 ≤ (pc : Int) + o) (hY : ((pc : Int) + o).toNat = pcY) (hpN : pc + 3 = pcN) (yes : ¬ x < 0 → own_Fin n0 K P T pcY L S) (no : x < 0 → own_Fin n0 K P T pcN L S) : own_Fin n0 K P T pc L (.int x :: S) := by
  obtain ⟨p, l, e, R, s, m, args, below, meth, c⟩ := K
  obtain ⟨hx, hby, hml, hown, hret, hlk, hZ, rfl, hw⟩ := M
  obtain ⟨locs, X, hN, eT, hn, hcl, hsl⟩ := X
  subst hpN
  by_cases q : x < 0
  · obtain ⟨s2, o2, st, r⟩ := no q
    exact ⟨s2, o2, XS.ifNo X.here hx rfl (hb hby hd) rfl ((if0 _ _).trans (tlt q).2.1) st, r⟩
  · obtain ⟨s2, o2, st, r⟩ := yes q
    exact ⟨s2, o2, XS.ifYes X.here hx rfl (pc0 := pc) rfl (hb hby hd) rfl ((if0 _ _).trans (flt q).2.1) ho hY st, r⟩
theorem own_lcmp_ge (M : own_Mx Z a0 K code own mx ret rm) (X : own_Sx n0 K T h cl sl) {x y : Int64} {pc1 : Nat} {o : Int} {pcY pcN : Nat} (hdc : decode code pc = .ok (.lcmp, 1)) (h1 : pc + 1 = pc1) (hd : decode code pc1 = .ok (.ifCond .ge o, 3)) (ho : 0 ≤ (pc1 : Int) + o) (hY : ((pc1 : Int) + o).toNat = pcY) (hpN : pc1 + 3 = pcN) (yes : ¬ x < y → own_Fin n0 K P T pcY L S) (no : x < y → own_Fin n0 K P T pcN L S) : own_Fin n0 K P T pc L (.long y :: .long x :: S) := by
  obtain ⟨p, l, e, R, s, m, args, below, meth, c⟩ := K
  obtain ⟨hx, hby, hml, hown, hret, hlk, hZ, rfl, hw⟩ := M
  obtain ⟨locs, X, hN, eT, hn, hcl, hsl⟩ := X
  subst hpN h1
  by_cases q : x < y
  · obtain ⟨s2, o2, st, r⟩ := no q
    exact ⟨s2, o2, XS.lcmp X.here hx rfl (hb hby hdc) rfl (XS.ifNo (g := mkF m (pc + 1) L (.int (lcmpW x y) :: S)) X.here hx rfl (hb hby hd) rfl ((if0 _ _).trans (tlt ((lw_lt x y).mpr q)).2.1) st), r⟩
  · obtain ⟨s2, o2, st, r⟩ := yes q
    exact ⟨s2, o2, XS.lcmp X.here hx rfl (hb hby hdc) rfl (XS.ifYes (g := mkF m (pc + 1) L (.int (lcmpW x y) :: S)) X.here hx rfl (pc0 := pc + 1) rfl (hb hby hd) rfl ((if0 _ _).trans (flt (fun z => q ((lw_lt x y).mp z))).2.1) ho hY st), r⟩
theorem own_icmp_gt (M : own_Mx Z a0 K code own mx ret rm) (X : own_Sx n0 K T h cl sl) {x y : Int32} {o : Int} {pcY pcN : Nat} (hd : decode code pc = .ok (.if_icmp .gt o, 3)) (ho : 0 ≤ (pc : Int) + o) (hY : ((pc : Int) + o).toNat = pcY) (hpN : pc + 3 = pcN) (yes : y < x → own_Fin n0 K P T pcY L S) (no : ¬ y < x → own_Fin n0 K P T pcN L S) : own_Fin n0 K P T pc L (.int y :: .int x :: S) := by
  obtain ⟨p, l, e, R, s, m, args, below, meth, c⟩ := K
  obtain ⟨hx, hby, hml, hown, hret, hlk, hZ, rfl, hw⟩ := M
  obtain ⟨locs, X, hN, eT, hn, hcl, hsl⟩ := X
  subst hpN
  by_cases q : y < x
  · obtain ⟨s2, o2, st, r⟩ := yes q
    exact ⟨s2, o2, XS.icmpYes X.here hx rfl (pc0 := pc) rfl (hb hby hd) rfl (tlt q).2.2.1 ho hY st, r⟩
  · obtain ⟨s2, o2, st, r⟩ := no q
    exact ⟨s2, o2, XS.icmpNo X.here hx rfl (hb hby hd) rfl (flt q).2.2.1 st, r⟩
theorem own_if_gt (M : own_Mx Z a0 K code own mx ret rm) (X : own_Sx n0 K T h cl sl) {x : Int32} {o : Int} {pcY pcN : Nat} (hd : decode code pc = .ok (.ifCond .gt o, 3)) (ho : 0 ≤ (pc : Int) + o) (hY : ((pc : Int) + o).toNat = pcY) (hpN : pc + 3 = pcN) (yes : 0 < x → own_Fin n0 K P T pcY L S) (no : ¬ 0 < x → own_Fin n0 K P T pcN L S) : own_Fin n0 K P T pc L (.int x :: S) := by
  obtain ⟨p, l, e, R, s, m, args, below, meth, c⟩ := K
  obtain ⟨hx, hby, hml, hown, hret, hlk, hZ, rfl, hw⟩ := M
  obtain ⟨locs, X, hN, eT, hn, hcl, hsl⟩ := X
  subst hpN
  by_cases q : 0 < x
  · obtain ⟨s2, o2, st, r⟩ := yes q
    exact ⟨s2, o2, XS.ifYes X.here hx rfl (pc0 := pc) rfl (hb hby hd) rfl ((if0 _ _).trans (tlt q).2.2.1) ho hY st, r⟩
  · obtain ⟨s2, o2, st, r⟩ := no q
    exact ⟨s2, o2, XS.ifNo X.here hx rfl (hb hby hd) rfl ((if0 _ _).trans (flt q).2.2.1) st, r⟩
theorem own_lcmp_gt (M : own_Mx Z a0 K code own mx ret rm) (X : own_Sx n0 K T h cl sl) {x y : Int64} {pc1 : Nat} {o : Int} {pcY pcN : Nat} (hdc : decode code pc = .ok (.lcmp, 1)) (h1 : pc + 1 = pc1) (hd : decode code pc1 = .ok (.ifCond .gt o, 3)) (ho : 0 ≤ (pc1 : Int) + o) (hY : ((pc1 : Int) + o).toNat = pcY) (hpN : pc1 + 3 = pcN) (yes : y < x → own_Fin n0 K P T pcY L S) (no : ¬ y < x → own_Fin n0 K P T pcN L S) : own_Fin n0 K P T pc L (.long y :: .long x :: S) := by
  obtain ⟨p, l, e, R, s, m, args, below, meth, c⟩ := K
  obtain ⟨hx, hby, hml, hown, hret, hlk, hZ, rfl, hw⟩ := M
  obtain ⟨locs, X, hN, eT, hn, hcl, hsl⟩ := X
  subst hpN h1
  by_cases q : y < x
  · obtain ⟨s2, o2, st, r⟩ := yes q
    exact ⟨s2, o2, XS.lcmp X.here hx rfl (hb hby hdc) rfl (XS.ifYes (g := mkF m (pc + 1) L (.int (lcmpW x y) :: S)) X.here hx rfl (pc0 := pc + 1) rfl (hb hby hd) rfl ((if0 _ _).trans (tlt ((lw_gt x y).mpr q)).2.2.1) ho hY st), r⟩
  · obtain ⟨s2, o2, st, r⟩ := no q
    exact ⟨s2, o2, XS.lcmp X.here hx rfl (hb hby hdc) rfl (XS.ifNo (g := mkF m (pc + 1) L (.int (lcmpW x y) :: S)) X.here hx rfl (hb hby hd) rfl ((if0 _ _).trans (flt (fun z => q ((lw_gt x y).mp z))).2.2.1) st), r⟩
theorem own_icmp_le (M : own_Mx Z a0 K code own mx ret rm) (X : own_Sx n0 K T h cl sl) {x y : Int32} {o : Int} {pcY pcN : Nat} (hd : decode code pc = .ok (.if_icmp .le o, 3)) (ho : 0 ≤ (pc : Int) + o) (hY : ((pc : Int) + o).toNat = pcY) (hpN : pc + 3 = pcN) (yes : ¬ y < x → own_Fin n0 K P T pcY L S) (no : y < x → own_Fin n0 K P T pcN L S) : own_Fin n0 K P T pc L (.int y :: .int x :: S) := by
  obtain ⟨p, l, e, R, s, m, args, below, meth, c⟩ := K
  obtain ⟨hx, hby, hml, hown, hret, hlk, hZ, rfl, hw⟩ := M
  obtain ⟨locs, X, hN, eT, hn, hcl, hsl⟩ := X
  subst hpN
  by_cases q : y < x
  · obtain ⟨s2, o2, st, r⟩ := no q
    exact ⟨s2, o2, XS.icmpNo X.here hx rfl (hb hby hd) rfl (tlt q).2.2.2 st, r⟩
  · obtain ⟨s2, o2, st, r⟩ := yes q
    exact ⟨s2, o2, XS.icmpYes X.here hx rfl (pc0 := pc) rfl (hb hby hd) rfl (flt q).2.2.2 ho hY st, r⟩
theorem own_if_le (M : own_Mx Z a0 K code own mx ret rm) (X : own_Sx n0 K T h cl sl) {x : Int32} {o : Int} {pcY pcN : Nat} (hd : decode code pc = .ok (.ifCond .le o, 3)) (ho : 0 ≤ (pc : Int) + o) (hY : ((pc : Int) + o).toNat = pcY) (hpN : pc + 3 = pcN) (yes : ¬ 0 < x → own_Fin n0 K P T pcY L S) (no : 0 < x → own_Fin n0 K P T pcN L S) : own_Fin n0 K P T pc L (.int x :: S) := by
  obtain ⟨p, l, e, R, s, m, args, below, meth, c⟩ := K
  obtain ⟨hx, hby, hml, hown, hret, hlk, hZ, rfl, hw⟩ := M
  obtain ⟨locs, X, hN, eT, hn, hcl, hsl⟩ := X
  subst hpN
  by_cases q : 0 < x
  · obtain ⟨s2, o2, st, r⟩ := no q
    exact ⟨s2, o2, XS.ifNo X.here hx rfl (hb hby hd) rfl ((if0 _ _).trans (tlt q).2.2.2) st, r⟩
  · obtain ⟨s2, o2, st, r⟩ := yes q
    exact ⟨s2, o2, XS.ifYes X.here hx rfl (pc0 := pc) rfl (hb hby hd) rfl ((if0 _ _).trans (flt q).2.2.2) ho hY st, r⟩
theorem own_lcmp_le (M : own_Mx Z a0 K code own mx ret rm) (X : own_Sx n0 K T h cl sl) {x y : Int64} {pc1 : Nat} {o : Int} {pcY pcN : Nat} (hdc : decode code pc = .ok (.lcmp, 1)) (h1 : pc + 1 = pc1) (hd : decode code pc1 = .ok (.ifCond .le o, 3)) (ho : 0 ≤ (pc1 : Int) + o) (hY : ((pc1 : Int) + o).toNat = pcY) (hpN : pc1 + 3 = pcN) (yes : ¬ y < x → own_Fin n0 K P T pcY L S) (no : y < x → own_Fin n0 K P T pcN L S) : own_Fin n0 K P T pc L (.long y :: .long x :: S) := by
  obtain ⟨p, l, e, R, s, m, args, below, meth, c⟩ := K
  obtain ⟨hx, hby, hml, hown, hret, hlk, hZ, rfl, hw⟩ := M
  obtain ⟨locs, X, hN, eT, hn, hcl, hsl⟩ := X
  subst hpN h1
  by_cases q : y < x
  · obtain ⟨s2, o2, st, r⟩ := no q
    exact ⟨s2, o2, XS.lcmp X.here hx rfl (hb hby hdc) rfl (XS.ifNo (g := mkF m (pc + 1) L (.int (lcmpW x y) :: S)) X.here hx rfl (hb hby hd) rfl ((if0 _ _).trans (tlt ((lw_gt x y).mpr q)).2.2.2) st), r⟩
  · obtain ⟨s2, o2, st, r⟩ := yes q
    exact ⟨s2, o2, XS.lcmp X.here hx rfl (hb hby hdc) rfl (XS.ifYes (g := mkF m (pc + 1) L (.int (lcmpW x y) :: S)) X.here hx rfl (pc0 := pc + 1) rfl (hb hby hd) rfl ((if0 _ _).trans (flt (fun z => q ((lw_gt x y).mp z))).2.2.2) ho hY st), r⟩
theorem own_icmp_eq (M : own_Mx Z a0 K code own mx ret rm) (X : own_Sx n0 K T h cl sl) {x y : Int32} {o : Int} {pcY pcN : Nat} (hd : decode code pc = .ok (.if_icmp .eq o, 3)) (ho : 0 ≤ (pc : Int) + o) (hY : ((pc : Int) + o).toNat = pcY) (hpN : pc + 3 = pcN) (yes : x = y → own_Fin n0 K P T pcY L S) (no : ¬ x = y → own_Fin n0 K P T pcN L S) : own_Fin n0 K P T pc L (.int y :: .int x :: S) := by
  obtain ⟨p, l, e, R, s, m, args, below, meth, c⟩ := K
  obtain ⟨hx, hby, hml, hown, hret, hlk, hZ, rfl, hw⟩ := M
  obtain ⟨locs, X, hN, eT, hn, hcl, hsl⟩ := X
  subst hpN
  by_cases q : x = y
  · obtain ⟨s2, o2, st, r⟩ := yes q
    exact ⟨s2, o2, XS.icmpYes X.here hx rfl (pc0 := pc) rfl (hb hby hd) rfl (teq q).1 ho hY st, r⟩
  · obtain ⟨s2, o2, st, r⟩ := no q
    exact ⟨s2, o2, XS.icmpNo X.here hx rfl (hb hby hd) rfl (feq q).1 st, r⟩
theorem own_if_eq (M : own_Mx Z a0 K code own mx ret rm) (X : own_Sx n0 K T h cl sl) {x : Int32} {o : Int} {pcY pcN : Nat} (hd : decode code pc = .ok (.ifCond .eq o, 3)) (ho : 0 ≤ (pc : Int) + o) (hY : ((pc : Int) + o).toNat = pcY) (hpN : pc + 3 = pcN) (yes : x = 0 → own_Fin n0 K P T pcY L S) (no : ¬ x = 0 → own_Fin n0 K P T pcN L S) : own_Fin n0 K P T pc L (.int x :: S) := by
  obtain ⟨p, l, e, R, s, m, args, below, meth, c⟩ := K
  obtain ⟨hx, hby, hml, hown, hret, hlk, hZ, rfl, hw⟩ := M
  obtain ⟨locs, X, hN, eT, hn, hcl, hsl⟩ := X
  subst hpN
  by_cases q : x = 0
  · obtain ⟨s2, o2, st, r⟩ := yes q
    exact ⟨s2, o2, XS.ifYes X.here hx rfl (pc0 := pc) rfl (hb hby hd) rfl ((if0 _ _).trans (teq q).1) ho hY st, r⟩
  · obtain ⟨s2, o2, st, r⟩ := no q
    exact ⟨s2, o2, XS.ifNo X.here hx rfl (hb hby hd) rfl ((if0 _ _).trans (feq q).1) st, r⟩
theorem own_lcmp_eq (M : own_Mx Z a0 K code own mx ret rm) (X : own_Sx n0 K T h cl sl) {x y : Int64} {pc1 : Nat} {o : Int} {pcY pcN : Nat} (hdc : decode code pc = .ok (.lcmp, 1)) (h1 : pc + 1 = pc1) (hd : decode code pc1 = .ok (.ifCond .eq o, 3)) (ho : 0 ≤ (pc1 : Int) + o) (hY : ((pc1 : Int) + o).toNat = pcY) (hpN : pc1 + 3 = pcN) (yes : x = y → own_Fin n0 K P T pcY L S) (no : ¬ x = y → own_Fin n0 K P T pcN L S) : own_Fin n0 K P T pc L (.long y :: .long x :: S) := by
  obtain ⟨p, l, e, R, s, m, args, below, meth, c⟩ := K
  obtain ⟨hx, hby, hml, hown, hret, hlk, hZ, rfl, hw⟩ := M
  obtain ⟨locs, X, hN, eT, hn, hcl, hsl⟩ := X
  subst hpN h1
  by_cases q : x = y
  · obtain ⟨s2, o2, st, r⟩ := yes q
    exact ⟨s2, o2, XS.lcmp X.here hx rfl (hb hby hdc) rfl (XS.ifYes (g := mkF m (pc + 1) L (.int (lcmpW x y) :: S)) X.here hx rfl (pc0 := pc + 1) rfl (hb hby hd) rfl ((if0 _ _).trans (teq ((lw_eq x y).mpr q)).1) ho hY st), r⟩
  · obtain ⟨s2, o2, st, r⟩ := no q
    exact ⟨s2, o2, XS.lcmp X.here hx rfl (hb hby hdc) rfl (XS.ifNo (g := mkF m (pc + 1) L (.int (lcmpW x y) :: S)) X.here hx rfl (hb hby hd) rfl ((if0 _ _).trans (feq (fun z => q ((lw_eq x y).mp z))).1) st), r⟩
theorem own_icmp_ne (M : own_Mx Z a0 K code own mx ret rm) (X : own_Sx n0 K T h cl sl) {x y : Int32} {o : Int} {pcY pcN : Nat} (hd : decode code pc = .ok (.if_icmp .ne o, 3)) (ho : 0 ≤ (pc : Int) + o) (hY : ((pc : Int) + o).toNat = pcY) (hpN : pc + 3 = pcN) (yes : ¬ x = y → own_Fin n0 K P T pcY L S) (no : x = y → own_Fin n0 K P T pcN L S) : own_Fin n0 K P T pc L (.int y :: .int x :: S) := by
  obtain ⟨p, l, e, R, s, m, args, below, meth, c⟩ := K
  obtain ⟨hx, hby, hml, hown, hret, hlk, hZ, rfl, hw⟩ := M
  obtain ⟨locs, X, hN, eT, hn, hcl, hsl⟩ := X
  subst hpN
  by_cases q : x = y
  · obtain ⟨s2, o2, st, r⟩ := no q
    exact ⟨s2, o2, XS.icmpNo X.here hx rfl (hb hby hd) rfl (teq q).2 st, r⟩
  · obtain ⟨s2, o2, st, r⟩ := yes q
    exact ⟨s2, o2, XS.icmpYes X.here hx rfl (pc0 := pc) rfl (hb hby hd) rfl (feq q).2 ho hY st, r⟩
theorem own_if_ne (M : own_Mx Z a0 K code own mx ret rm) (X : own_Sx n0 K T h cl sl) {x : Int32} {o : Int} {pcY pcN : Nat} (hd : decode code pc = .ok (.ifCond .ne o, 3)) (ho : 0 ≤ (pc : Int) + o) (hY : ((pc : Int) + o).toNat = pcY) (hpN : pc + 3 = pcN) (yes : ¬ x = 0 → own_Fin n0 K P T pcY L S) (no : x = 0 → own_Fin n0 K P T pcN L S) : own_Fin n0 K P T pc L (.int x :: S) := by
  obtain ⟨p, l, e, R, s, m, args, below, meth, c⟩ := K
  obtain ⟨hx, hby, hml, hown, hret, hlk, hZ, rfl, hw⟩ := M
  obtain ⟨locs, X, hN, eT, hn, hcl, hsl⟩ := X
  subst hpN
  by_cases q : x = 0
  · obtain ⟨s2, o2, st, r⟩ := no q
    exact ⟨s2, o2, XS.ifNo X.here hx rfl (hb hby hd) rfl ((if0 _ _).trans (teq q).2) st, r⟩
  · obtain ⟨s2, o2, st, r⟩ := yes q
    exact ⟨s2, o2, XS.ifYes X.here hx rfl (pc0 := pc) rfl (hb hby hd) rfl ((if0 _ _).trans (feq q).2) ho hY st, r⟩
theorem own_lcmp_ne (M : own_Mx Z a0 K code own mx ret rm) (X : own_Sx n0 K T h cl sl) {x y : Int64} {pc1 : Nat} {o : Int} {pcY pcN : Nat} (hdc : decode code pc = .ok (.lcmp, 1)) (h1 : pc + 1 = pc1) (hd : decode code pc1 = .ok (.ifCond .ne o, 3)) (ho : 0 ≤ (pc1 : Int) + o) (hY : ((pc1 : Int) + o).toNat = pcY) (hpN : pc1 + 3 = pcN) (yes : ¬ x = y → own_Fin n0 K P T pcY L S) (no : x = y → own_Fin n0 K P T pcN L S) : own_Fin n0 K P T pc L (.long y :: .long x :: S) := by
  obtain ⟨p, l, e, R, s, m, args, below, meth, c⟩ := K
  obtain ⟨hx, hby, hml, hown, hret, hlk, hZ, rfl, hw⟩ := M
  obtain ⟨locs, X, hN, eT, hn, hcl, hsl⟩ := X
  subst hpN h1
  by_cases q : x = y
  · obtain ⟨s2, o2, st, r⟩ := no q
    exact ⟨s2, o2, XS.lcmp X.here hx rfl (hb hby hdc) rfl (XS.ifNo (g := mkF m (pc + 1) L (.int (lcmpW x y) :: S)) X.here hx rfl (hb hby hd) rfl ((if0 _ _).trans (teq ((lw_eq x y).mpr q)).2) st), r⟩
  · obtain ⟨s2, o2, st, r⟩ := yes q
    exact ⟨s2, o2, XS.lcmp X.here hx rfl (hb hby hdc) rfl (XS.ifYes (g := mkF m (pc + 1) L (.int (lcmpW x y) :: S)) X.here hx rfl (pc0 := pc + 1) rfl (hb hby hd) rfl ((if0 _ _).trans (feq (fun z => q ((lw_eq x y).mp z))).2) ho hY st), r⟩
theorem own_callS (M : own_Mx Z a0 K code own mx ret rm) (X : own_Sx n0 K T h cl sl) {y : MethodName} {ycode : ByteArray} {ymx : Nat} {yret : Option FieldType} {yrm : Room} {idx : Nat} {Q : Option Value → Heap → Prop} {ps : List FieldType} {yr : Option FieldType} (argsL : List Value)
    (w1 : (Jvm.Cond.methodLink own idx y).before a0 Z = true) (w2 : (Jvm.Cond.static y).before a0 Z = true) (w3 : (Jvm.Cond.initialized y.cls).before a0 Z = true) (w4 : (Jvm.Cond.code y ycode ymx yret).before a0 Z = true) (hy : y.cls ≠ "java/lang/invoke/MethodHandle" ∧ y.cls ≠ "java/lang/invoke/VarHandle")
    (hM : own_Met K.2.1 Z n0 y ycode ymx yret yrm argsL.toArray h Q) (hL : L.size = mx) (hd : decode code pc = .ok (.invokestatic idx, 3)) (hp : pc + 3 = pc') (hpd : parseMethodDescriptor y.desc = some ⟨ps, yr⟩) (hlen : argsL.length = ps.length) (hS : S = argsL.reverse ++ rest)
    (W : Nat) (hW : (rest.map fun v => v.category).sum ≤ W) (hf : yrm.frames + 1 ≤ rm.frames) (hl : W + (ymx + 11) + yrm.locals ≤ rm.locals) (hc : cl + yrm.cells ≤ rm.cells) (hs : sl + yrm.slots ≤ rm.slots)
    (hr : ∀ T' h' v, own_Sx n0 K T' h' (cl + yrm.cells) (sl + yrm.slots) → Q v h' → own_Fin n0 K P T' pc' L (v.toList ++ rest)) : own_Fin n0 K P T pc L S := by
  obtain ⟨p, l, e, R, s, m, args, below, meth, c⟩ := K
  obtain ⟨hx, hby, hml, hown, hret, hlk, hZ, rfl, hw⟩ := M
  obtain ⟨locs, X, hN, eT, hn, hcl, hsl⟩ := X
  obtain ⟨v, vm1, ⟨T1, L1, k1, n1⟩, -, X1, ⟨Lc, hQ, l1, y1, z1⟩, st⟩ := Jvm.LawKit.callS X hx (y := y) hown (mvT hZ w1) (mvT hZ w2) (mvT hZ w3) (mvT hZ w4) hy (backOf (W := W) (Q := fun v h L => Q v h ∧ Fr n0 L) (hM []) hZ w4 w3 hf hl) (g := mkF m pc L S) rfl (by rw [hml]; exact hL) (argsL := argsL) (rest := rest) (lenOf hpd hlen) hS (by show 2 * 0 + _ ≤ W; omega) (hb hby hd) (fun _ _ => ⟨rfl, eT, hc, hs⟩)
  dsimp only [Pt.U, Pt.locs, Pt.cells, Pt.slots] at X1 l1 y1 z1 st hQ
  subst l1 y1 z1 hp
  obtain ⟨s2, o2, st2, r⟩ := hr T1 _ v ⟨_, X1, Fr.app hN hQ.2, rfl, hn, hc, hs⟩ hQ.1
  exact ⟨s2, o2, st _ st2, r⟩
theorem own_callP (M : own_Mx Z a0 K code own mx ret rm) (X : own_Sx n0 K T h cl sl) {y : MethodName} {ycode : ByteArray} {ymx : Nat} {yret : Option FieldType} {yrm : Room} {idx : Nat} {ps : List FieldType} {yr : Option FieldType} {w : Value} (argsL : List Value)
    (w1 : (Jvm.Cond.methodLink own idx y).before a0 Z = true) (w2 : (Jvm.Cond.static y).before a0 Z = true) (w3 : (Jvm.Cond.initialized y.cls).before a0 Z = true) (w4 : (Jvm.Cond.code y ycode ymx yret).before a0 Z = true) (hy : y.cls ≠ "java/lang/invoke/MethodHandle" ∧ y.cls ≠ "java/lang/invoke/VarHandle")
    (hM : own_Met K.2.1 Z n0 y ycode ymx yret yrm argsL.toArray h (fun v h' => v = some w ∧ h' = h)) (hL : L.size = mx) (hd : decode code pc = .ok (.invokestatic idx, 3)) (hp : pc + 3 = pc') (hpd : parseMethodDescriptor y.desc = some ⟨ps, yr⟩) (hlen : argsL.length = ps.length) (hS : S = argsL.reverse ++ rest)
    (W : Nat) (hW : (rest.map fun v => v.category).sum ≤ W) (hf : yrm.frames + 1 ≤ rm.frames) (hl : W + (ymx + 11) + yrm.locals ≤ rm.locals) (hc0 : yrm.cells = 0) (hs0 : yrm.slots = 0)
    (hr : ∀ T', own_Sx n0 K T' h cl sl → own_Fin n0 K P T' pc' L (w :: rest)) : own_Fin n0 K P T pc L S := by
  have hcs : cl ≤ rm.cells ∧ sl ≤ rm.slots := by
    obtain ⟨p, l, e, R, s, m, args, below, meth, c⟩ := K
    obtain ⟨hx, hby, hml, hown, hret, hlk, hZ, rfl, hw⟩ := M
    obtain ⟨locs, X, hN, eT, hn, hcl, hsl⟩ := X
    exact ⟨hcl, hsl⟩
  refine own_callS M X argsL w1 w2 w3 w4 hy hM hL hd hp hpd hlen hS W hW hf hl (by rw [hc0]; exact hcs.1) (by rw [hs0]; exact hcs.2) ?_
  rintro T' h' v X' ⟨rfl, rfl⟩
  rw [hc0, hs0] at X'
  exact hr T' X'
theorem own_callP0 (M : own_Mx Z a0 K code own mx ret rm) (X : own_Sx n0 K T h cl sl) {y : MethodName} {ycode : ByteArray} {ymx : Nat} {yret : Option FieldType} {yrm : Room} {idx : Nat} {ps : List FieldType} {yr : Option FieldType} (argsL : List Value)
    (w1 : (Jvm.Cond.methodLink own idx y).before a0 Z = true) (w2 : (Jvm.Cond.static y).before a0 Z = true) (w3 : (Jvm.Cond.initialized y.cls).before a0 Z = true) (w4 : (Jvm.Cond.code y ycode ymx yret).before a0 Z = true) (hy : y.cls ≠ "java/lang/invoke/MethodHandle" ∧ y.cls ≠ "java/lang/invoke/VarHandle")
    (hM : own_Met K.2.1 Z n0 y ycode ymx yret yrm argsL.toArray h (fun v h' => v = none ∧ h' = h)) (hL : L.size = mx) (hd : decode code pc = .ok (.invokestatic idx, 3)) (hp : pc + 3 = pc') (hpd : parseMethodDescriptor y.desc = some ⟨ps, yr⟩) (hlen : argsL.length = ps.length) (hS : S = argsL.reverse ++ rest)
    (W : Nat) (hW : (rest.map fun v => v.category).sum ≤ W) (hf : yrm.frames + 1 ≤ rm.frames) (hl : W + (ymx + 11) + yrm.locals ≤ rm.locals) (hc0 : yrm.cells = 0) (hs0 : yrm.slots = 0)
    (hr : ∀ T', own_Sx n0 K T' h cl sl → own_Fin n0 K P T' pc' L (rest)) : own_Fin n0 K P T pc L S := by
  have hcs : cl ≤ rm.cells ∧ sl ≤ rm.slots := by
    obtain ⟨p, l, e, R, s, m, args, below, meth, c⟩ := K
    obtain ⟨hx, hby, hml, hown, hret, hlk, hZ, rfl, hw⟩ := M
    obtain ⟨locs, X, hN, eT, hn, hcl, hsl⟩ := X
    exact ⟨hcl, hsl⟩
  refine own_callS M X argsL w1 w2 w3 w4 hy hM hL hd hp hpd hlen hS W hW hf hl (by rw [hc0]; exact hcs.1) (by rw [hs0]; exact hcs.2) ?_
  rintro T' h' v X' ⟨rfl, rfl⟩
  rw [hc0, hs0] at X'
  exact hr T' X'
end OwnLayer
theorem own_pd0 : parseMethodDescriptor "(I)Z" = some ⟨[.int], some .boolean⟩ := by decide +kernel
theorem d1_0 : decode prog_102_method_2_code 0 = .ok (.iload_n 0, 1) := by decide +kernel
theorem d1_1 : decode prog_102_method_2_code 1 = .ok (.sipush 4096, 3) := by decide +kernel
theorem d1_4 : decode prog_102_method_2_code 4 = .ok (.if_icmp .lt 13, 3) := by decide +kernel
theorem d1_7 : decode prog_102_method_2_code 7 = .ok (.iload_n 0, 1) := by decide +kernel
theorem d1_8 : decode prog_102_method_2_code 8 = .ok (.ldc 18, 2) := by decide +kernel
theorem d1_10 : decode prog_102_method_2_code 10 = .ok (.if_icmp .gt 7, 3) := by decide +kernel
theorem d1_13 : decode prog_102_method_2_code 13 = .ok (.iconst 1, 1) := by decide +kernel
theorem d1_14 : decode prog_102_method_2_code 14 = .ok (.goto 4, 3) := by decide +kernel
theorem d1_17 : decode prog_102_method_2_code 17 = .ok (.iconst 0, 1) := by decide +kernel
theorem d1_18 : decode prog_102_method_2_code 18 = .ok (.ireturn, 1) := by decide +kernel
def F1 (x0 : Int32) : Int32 := (if x0 < (4096 : Int32) then (0 : Int32) else (if (69632 : Int32) < x0 then (0 : Int32) else (1 : Int32)))
theorem own_pn1 : plainName "com/example/stubsmith/stubsmith/runtime/SpareArray" = true := by first | (simp [plainName, overriddenIn]; done) | decide +kernel
set_option maxRecDepth 65536 in
set_option maxHeartbeats 40000000 in
theorem met_1 (l : Launch) (Z : State) (a0 : Array Value) (hw : ∀ d ∈ tables_1, d.before a0 Z = true) (h0 : Heap) (n0 : Nat) (hn : n0 ≤ h0.size) (x0 : Int32) : own_Met l Z n0 (⟨"com/example/stubsmith/stubsmith/runtime/SpareArray", "keeps", "(I)Z"⟩ : MethodName) prog_102_method_2_code 1 (some .boolean) ({ frames := 0, cells := 0, slots := 0, locals := 0 } : Room) #[(.int x0)] h0 (fun v h => v = some (.int (F1 x0)) ∧ h = h0) := by
  refine own_enter (L := #[.val (.int x0)]) (plainFor_of_name own_pn1) hw hn (fun m => by first | (simp [entryFrame, mkF, argsToLocals, Value.category]; done) | rfl) (fun K T hK M X => ?_)
  refine own_iloadN M X d1_0 rfl rfl ?_
  refine own_sipush M X (v := (4096 : Int32)) d1_1 rfl rfl ?_
  refine own_icmp_lt M X d1_4 (by decide) rfl rfl (fun q1 => ?_) (fun q1 => ?_)
  · skip
    refine own_iconst M X (v := (0 : Int32)) d1_17 rfl rfl ?_
    exact own_retN M X (z' := (0 : Int32)) (by simp) d1_18 rfl ⟨by rw [F1, if_pos q1], rfl⟩
  · skip
    refine own_iloadN M X d1_7 rfl rfl ?_
    refine own_ldc M X (hw _ (List.mem_of_getElem? (i := 4) rfl)) d1_8 rfl ?_
    refine own_icmp_gt M X d1_10 (by decide) rfl rfl (fun q2 => ?_) (fun q2 => ?_)
    · skip
      refine own_iconst M X (v := (0 : Int32)) d1_17 rfl rfl ?_
      exact own_retN M X (z' := (0 : Int32)) (by simp) d1_18 rfl ⟨by rw [F1, if_neg q1, if_pos q2], rfl⟩
    · skip
      refine own_iconst M X (v := (1 : Int32)) d1_13 rfl rfl ?_
      refine own_goto M X d1_14 (by decide) rfl ?_
      exact own_retN M X (z' := (1 : Int32)) (by simp) d1_18 rfl ⟨by rw [F1, if_neg q1, if_neg q2], rfl⟩
def g0_0_s0  : Int32 := (if (F1 (4096 : Int32)) = (0 : Int32) then (0 : Int32) else (if (F1 (4095 : Int32)) = (0 : Int32) then (if (F1 (69632 : Int32)) = (0 : Int32) then (0 : Int32) else (if (F1 (69633 : Int32)) = (0 : Int32) then (1 : Int32) else (0 : Int32))) else (0 : Int32)))
set_option maxRecDepth 65536 in
set_option maxHeartbeats 40000000 in
theorem sg0_0 (l : Launch) (Z : State) (a0 : Array Value) (hw : ∀ d ∈ tables_1, d.before a0 Z = true) {n0 : Nat} {K : own_Cx} {P : Option Value → Heap → Prop} {T : State} {h : Heap} {cl sl : Nat} (M : own_Mx Z a0 K code "com/example/stubsmith/stubsmith/runtime/SpareArrayKeepsPinLaw" maxLocals ret room_1) (X : own_Sx n0 K T h cl sl) (u0 : Int32) (u1 : Int32) (u2 : Int32)
    (hr : ∀ T', own_Sx n0 K T' h cl sl → own_Fin n0 K P T' 39 #[.val (.int u0), .val (.int u1), .val (.int u2), .unset, .unset] [(.int (g0_0_s0))]) : own_Fin n0 K P T 0 #[.val (.int u0), .val (.int u1), .val (.int u2), .unset, .unset] [] := by
  refine own_sipush M X (v := (4096 : Int32)) at_0 rfl rfl ?_
  refine own_callP M X (yrm := ({ frames := 0, cells := 0, slots := 0, locals := 0 } : Room)) [(.int (4096 : Int32))] (hw _ (List.mem_of_getElem? (i := 0) rfl)) (hw _ (List.mem_of_getElem? (i := 1) rfl)) (hw _ (List.mem_of_getElem? (i := 2) rfl)) (hw _ (List.mem_of_getElem? (i := 3) rfl)) (by decide) (met_1 _ Z a0 hw h n0 X.size (4096 : Int32)) rfl at_3 rfl own_pd0 rfl rfl 0 (Nat.le_of_eq rfl) (by decide) (by decide) rfl rfl ?_
  intro T1 X2
  refine own_if_eq M X2 at_6 (by decide) rfl rfl (fun q3 => ?_) (fun q3 => ?_)
  · skip
    refine own_iconst M X2 (v := (0 : Int32)) at_38 rfl rfl ?_
    have hr1 := hr T1 X2
    rw [g0_0_s0, if_pos q3] at hr1
    exact hr1
  · skip
    refine own_sipush M X2 (v := (4095 : Int32)) at_9 rfl rfl ?_
    refine own_callP M X2 (yrm := ({ frames := 0, cells := 0, slots := 0, locals := 0 } : Room)) [(.int (4095 : Int32))] (hw _ (List.mem_of_getElem? (i := 0) rfl)) (hw _ (List.mem_of_getElem? (i := 1) rfl)) (hw _ (List.mem_of_getElem? (i := 2) rfl)) (hw _ (List.mem_of_getElem? (i := 3) rfl)) (by decide) (met_1 _ Z a0 hw h n0 X2.size (4095 : Int32)) rfl at_12 rfl own_pd0 rfl rfl 0 (Nat.le_of_eq rfl) (by decide) (by decide) rfl rfl ?_
    intro T4 X5
    refine own_if_ne M X5 at_15 (by decide) rfl rfl (fun q6 => ?_) (fun q6 => ?_)
    · skip
      refine own_iconst M X5 (v := (0 : Int32)) at_38 rfl rfl ?_
      have hr1 := hr T4 X5
      rw [g0_0_s0, if_neg q3, if_neg q6] at hr1
      exact hr1
    · skip
      refine own_ldc M X5 (hw _ (List.mem_of_getElem? (i := 5) rfl)) at_18 rfl ?_
      refine own_callP M X5 (yrm := ({ frames := 0, cells := 0, slots := 0, locals := 0 } : Room)) [(.int (69632 : Int32))] (hw _ (List.mem_of_getElem? (i := 0) rfl)) (hw _ (List.mem_of_getElem? (i := 1) rfl)) (hw _ (List.mem_of_getElem? (i := 2) rfl)) (hw _ (List.mem_of_getElem? (i := 3) rfl)) (by decide) (met_1 _ Z a0 hw h n0 X5.size (69632 : Int32)) rfl at_20 rfl own_pd0 rfl rfl 0 (Nat.le_of_eq rfl) (by decide) (by decide) rfl rfl ?_
      intro T7 X8
      refine own_if_eq M X8 at_23 (by decide) rfl rfl (fun q9 => ?_) (fun q9 => ?_)
      · skip
        refine own_iconst M X8 (v := (0 : Int32)) at_38 rfl rfl ?_
        have hr1 := hr T7 X8
        rw [g0_0_s0, if_neg q3, if_pos q6, if_pos q9] at hr1
        exact hr1
      · skip
        refine own_ldc M X8 (hw _ (List.mem_of_getElem? (i := 6) rfl)) at_26 rfl ?_
        refine own_callP M X8 (yrm := ({ frames := 0, cells := 0, slots := 0, locals := 0 } : Room)) [(.int (69633 : Int32))] (hw _ (List.mem_of_getElem? (i := 0) rfl)) (hw _ (List.mem_of_getElem? (i := 1) rfl)) (hw _ (List.mem_of_getElem? (i := 2) rfl)) (hw _ (List.mem_of_getElem? (i := 3) rfl)) (by decide) (met_1 _ Z a0 hw h n0 X8.size (69633 : Int32)) rfl at_28 rfl own_pd0 rfl rfl 0 (Nat.le_of_eq rfl) (by decide) (by decide) rfl rfl ?_
        intro T10 X11
        refine own_if_ne M X11 at_31 (by decide) rfl rfl (fun q12 => ?_) (fun q12 => ?_)
        · skip
          refine own_iconst M X11 (v := (0 : Int32)) at_38 rfl rfl ?_
          have hr1 := hr T10 X11
          rw [g0_0_s0, if_neg q3, if_pos q6, if_neg q9, if_neg q12] at hr1
          exact hr1
        · skip
          refine own_iconst M X11 (v := (1 : Int32)) at_34 rfl rfl ?_
          refine own_goto M X11 at_35 (by decide) rfl ?_
          have hr1 := hr T10 X11
          rw [g0_0_s0, if_neg q3, if_pos q6, if_neg q9, if_pos q12] at hr1
          exact hr1
def g0_43_l4 (u0 : Int32) (u1 : Int32) (u2 : Int32) (u4 : Int32) : Int32 := (if (F1 u0) = (0 : Int32) then u4 else (if (F1 u1) = (0 : Int32) then u4 else (if u2 < u0 then u4 else (if u1 < u2 then u4 else (F1 u2)))))
set_option maxRecDepth 65536 in
set_option maxHeartbeats 40000000 in
theorem sg0_43 (l : Launch) (Z : State) (a0 : Array Value) (hw : ∀ d ∈ tables_1, d.before a0 Z = true) {n0 : Nat} {K : own_Cx} {P : Option Value → Heap → Prop} {T : State} {h : Heap} {cl sl : Nat} (M : own_Mx Z a0 K code "com/example/stubsmith/stubsmith/runtime/SpareArrayKeepsPinLaw" maxLocals ret room_1) (X : own_Sx n0 K T h cl sl) (u0 : Int32) (u1 : Int32) (u2 : Int32) (u3 : Int32) (u4 : Int32)
    (hr : ∀ T', own_Sx n0 K T' h cl sl → own_Fin n0 K P T' 73 #[.val (.int u0), .val (.int u1), .val (.int u2), .val (.int u3), .val (.int (g0_43_l4 u0 u1 u2 u4))] []) : own_Fin n0 K P T 43 #[.val (.int u0), .val (.int u1), .val (.int u2), .val (.int u3), .val (.int u4)] [] := by
  refine own_iloadN M X at_43 rfl rfl ?_
  refine own_callP M X (yrm := ({ frames := 0, cells := 0, slots := 0, locals := 0 } : Room)) [(.int u0)] (hw _ (List.mem_of_getElem? (i := 0) rfl)) (hw _ (List.mem_of_getElem? (i := 1) rfl)) (hw _ (List.mem_of_getElem? (i := 2) rfl)) (hw _ (List.mem_of_getElem? (i := 3) rfl)) (by decide) (met_1 _ Z a0 hw h n0 X.size u0) rfl at_44 rfl own_pd0 rfl rfl 0 (Nat.le_of_eq rfl) (by decide) (by decide) rfl rfl ?_
  intro T1 X2
  refine own_if_eq M X2 at_47 (by decide) rfl rfl (fun q3 => ?_) (fun q3 => ?_)
  · skip
    have hr1 := hr T1 X2
    rw [g0_43_l4, if_pos q3] at hr1
    exact hr1
  · skip
    refine own_iloadN M X2 at_50 rfl rfl ?_
    refine own_callP M X2 (yrm := ({ frames := 0, cells := 0, slots := 0, locals := 0 } : Room)) [(.int u1)] (hw _ (List.mem_of_getElem? (i := 0) rfl)) (hw _ (List.mem_of_getElem? (i := 1) rfl)) (hw _ (List.mem_of_getElem? (i := 2) rfl)) (hw _ (List.mem_of_getElem? (i := 3) rfl)) (by decide) (met_1 _ Z a0 hw h n0 X2.size u1) rfl at_51 rfl own_pd0 rfl rfl 0 (Nat.le_of_eq rfl) (by decide) (by decide) rfl rfl ?_
    intro T4 X5
    refine own_if_eq M X5 at_54 (by decide) rfl rfl (fun q6 => ?_) (fun q6 => ?_)
    · skip
      have hr1 := hr T4 X5
      rw [g0_43_l4, if_neg q3, if_pos q6] at hr1
      exact hr1
    · skip
      refine own_iloadN M X5 at_57 rfl rfl ?_
      refine own_iloadN M X5 at_58 rfl rfl ?_
      refine own_icmp_gt M X5 at_59 (by decide) rfl rfl (fun q7 => ?_) (fun q7 => ?_)
      · skip
        have hr1 := hr T4 X5
        rw [g0_43_l4, if_neg q3, if_neg q6, if_pos q7] at hr1
        exact hr1
      · skip
        refine own_iloadN M X5 at_62 rfl rfl ?_
        refine own_iloadN M X5 at_63 rfl rfl ?_
        refine own_icmp_gt M X5 at_64 (by decide) rfl rfl (fun q8 => ?_) (fun q8 => ?_)
        · skip
          have hr1 := hr T4 X5
          rw [g0_43_l4, if_neg q3, if_neg q6, if_neg q7, if_pos q8] at hr1
          exact hr1
        · skip
          refine own_iloadN M X5 at_67 rfl rfl ?_
          refine own_callP M X5 (yrm := ({ frames := 0, cells := 0, slots := 0, locals := 0 } : Room)) [(.int u2)] (hw _ (List.mem_of_getElem? (i := 0) rfl)) (hw _ (List.mem_of_getElem? (i := 1) rfl)) (hw _ (List.mem_of_getElem? (i := 2) rfl)) (hw _ (List.mem_of_getElem? (i := 3) rfl)) (by decide) (met_1 _ Z a0 hw h n0 X5.size u2) rfl at_68 rfl own_pd0 rfl rfl 0 (Nat.le_of_eq rfl) (by decide) (by decide) rfl rfl ?_
          intro T9 X10
          refine own_istore M X10 (L' := #[.val (.int u0), .val (.int u1), .val (.int u2), .val (.int u3), .val (.int (F1 u2))]) at_71 rfl rfl ?_
          have hr1 := hr T9 X10
          rw [g0_43_l4, if_neg q3, if_neg q6, if_neg q7, if_neg q8] at hr1
          exact hr1
def F0 (x0 : Int32) (x1 : Int32) (x2 : Int32) : Int32 := (if (g0_0_s0) = (0 : Int32) then (0 : Int32) else (if (g0_43_l4 x0 x1 x2 (1 : Int32)) = (0 : Int32) then (0 : Int32) else (1 : Int32)))
theorem own_pn0 : plainName "com/example/stubsmith/stubsmith/runtime/SpareArrayKeepsPinLaw" = true := by first | (simp [plainName, overriddenIn]; done) | decide +kernel
set_option maxRecDepth 65536 in
set_option maxHeartbeats 40000000 in
theorem met_0 (l : Launch) (Z : State) (a0 : Array Value) (hw : ∀ d ∈ tables_1, d.before a0 Z = true) (h0 : Heap) (n0 : Nat) (hn : n0 ≤ h0.size) (x0 : Int32) (x1 : Int32) (x2 : Int32) : own_Met l Z n0 x code maxLocals ret room_1 #[(.int x0), (.int x1), (.int x2)] h0 (fun v h => v = some (.int (F0 x0 x1 x2)) ∧ h = h0) := by
  refine own_enter (L := #[.val (.int x0), .val (.int x1), .val (.int x2), .unset, .unset]) (plainFor_of_name own_pn0) hw hn (fun m => by first | (simp [entryFrame, mkF, argsToLocals, Value.category, maxLocals]; done) | rfl) (fun K T hK M X => ?_)
  refine sg0_0 l Z a0 hw M X x0 x1 x2 (fun T1 X2 => ?_)
  refine own_istoreN M X2 (L' := #[.val (.int x0), .val (.int x1), .val (.int x2), .val (.int (g0_0_s0)), .unset]) at_39 rfl rfl ?_
  refine own_iconst M X2 (v := (1 : Int32)) at_40 rfl rfl ?_
  refine own_istore M X2 (L' := #[.val (.int x0), .val (.int x1), .val (.int x2), .val (.int (g0_0_s0)), .val (.int (1 : Int32))]) at_41 rfl rfl ?_
  refine sg0_43 l Z a0 hw M X2 x0 x1 x2 (g0_0_s0) (1 : Int32) (fun T3 X4 => ?_)
  refine own_iloadN M X4 at_73 rfl rfl ?_
  refine own_if_eq M X4 at_74 (by decide) rfl rfl (fun q5 => ?_) (fun q5 => ?_)
  · skip
    refine own_iconst M X4 (v := (0 : Int32)) at_86 rfl rfl ?_
    exact own_retN M X4 (z' := (0 : Int32)) (by simp) at_87 rfl ⟨by rw [F0, if_pos q5], rfl⟩
  · skip
    refine own_iload M X4 at_77 rfl rfl ?_
    refine own_if_eq M X4 at_79 (by decide) rfl rfl (fun q6 => ?_) (fun q6 => ?_)
    · skip
      refine own_iconst M X4 (v := (0 : Int32)) at_86 rfl rfl ?_
      exact own_retN M X4 (z' := (0 : Int32)) (by simp) at_87 rfl ⟨by rw [F0, if_neg q5, if_pos q6], rfl⟩
    · skip
      refine own_iconst M X4 (v := (1 : Int32)) at_82 rfl rfl ?_
      refine own_goto M X4 at_83 (by decide) rfl ?_
      exact own_retN M X4 (z' := (1 : Int32)) (by simp) at_87 rfl ⟨by rw [F0, if_neg q5, if_neg q6], rfl⟩
theorem own_law (x0 x1 x2 : Int32) : F0 x0 x1 x2 = 1 := by
  have e1 : (4096 : Int32).toInt = 4096 := rfl
  have e2 : (69632 : Int32).toInt = 69632 := rfl
  have hF : ∀ x : Int32, F1 x = if 4096 ≤ x.toInt ∧ x.toInt ≤ 69632 then 1 else 0 := fun x => by
    unfold F1; simp only [Int32.lt_iff_toInt_lt, e1, e2]
    repeat' split
    all_goals first | rfl | omega
  have g : g0_0_s0 = 1 := by decide +kernel
  unfold F0; rw [g]
  unfold g0_43_l4
  simp only [hF, Int32.lt_iff_toInt_lt]
  repeat' split
  all_goals first | rfl | contradiction | (simp_all; done) | (exfalso; omega) | (simp_all; omega)
theorem own_result (x0 : Int32) (x1 : Int32) (x2 : Int32) {v : Option Value} {h h0 : Heap} (hv : v = some (.int (F0 x0 x1 x2)) ∧ h = h0) : v = some (.int 1) := by rw [hv.1, own_law x0 x1 x2]
set_option maxRecDepth 65536 in
set_option maxHeartbeats 40000000 in
theorem comes_1 {Post : Tables → Env → Array Value → State → Outcome → State → Prop} (hpost : ∀ tb e args s v u, (limb_1_1.after args s (.returned v) u = true ∧ limb_1_2.after args s (.returned v) u = true ∧ True) → FrameEnd s (.returned v) u (Jvm.fieldLocs frame_1_writes args s ++ Jvm.arrayLocs frame_1_arrays args s ++ Jvm.staticLocs frame_1_statics s) 0 0 → Post tb e args s (.returned v) u) :
    ArmFor flags0 classFile x code maxLocals ret World_1 tables_1 room_1 Calls_1 rest_1 Pre_1 Post := by
  intro l hfl _ _ p e ha hc hk s m args below hf hA hF happ hP
  obtain ⟨hcalls, hrest, hpre⟩ := hP
  obtain ⟨-, -, -, hnamed, -, -, -, hat⟩ := (Spec.applies_iff hf).mp happ
  obtain ⟨hg, hn⟩ := and_e (Cond.before_iff.mp (show (Jvm.Cond.and given_1 narrow_1).before args s = true from hpre))
  obtain ⟨g1, g2⟩ := and_e hg
  obtain ⟨g3, g4⟩ := and_e g2
  obtain ⟨g5, g6⟩ := and_e g4
  obtain ⟨w0, w1, w2, rfl⟩ : ∃ w0 w1 w2 : Value, args = #[w0, w1, w2] := by
    have hs : args.size = 3 := by simpa [Cond.value, given_1] using g1
    obtain ⟨L⟩ := args
    match L, hs with
    | [w0, w1, w2], _ => exact ⟨w0, w1, w2, rfl⟩
  have hw := fun d (hd : d ∈ tables_1) => atoms_spec (ws := Jvm.Cond.code x code maxLocals ret :: tables_1) hat d (List.mem_cons_of_mem _ hd)
  obtain ⟨i0, ei0⟩ := is_v g3
  obtain rfl : w0 = (.int i0) := Option.some.inj ei0
  obtain ⟨i1, ei1⟩ := is_v g5
  obtain rfl : w1 = (.int i1) := Option.some.inj ei1
  obtain ⟨i2, ei2⟩ := is_v g6
  obtain rfl : w2 = (.int i2) := Option.some.inj ei2
  obtain ⟨n, o, h1, h2, h3, v, L, rfl, ⟨hv, N⟩, hq⟩ := met_0 l s _ hw s.heap s.heap.size (Nat.le_refl _) i0 i1 i2 tables_1 p e ha hc hk s m _ below hf ((Spec.applies_iff_loose hf).mp happ).1 ⟨rfl, State.Warmed39.refl s, rfl⟩ trivial
  obtain rfl : v = some (.int 1) := own_result i0 i1 i2 hv
  refine ⟨n, _, h1, h2, h3, hpost _ _ _ _ _ _ ⟨Cond.after_iff.mpr rfl, Cond.after_iff.mpr (eq_i res_at (Term.int_eval (1)) rfl), trivial⟩ ⟨hq.1, hq.2.1, (hq.2.2.sift fun y hy => Or.inr (N y hy)).mono (by decide) (by decide)⟩⟩
theorem main_1_1 : Claimed_1_1 := comes_1 fun _ _ _ _ _ _ h hF => ⟨h.1, hF⟩
theorem main_1_2 : Claimed_1_2 := comes_1 fun _ _ _ _ _ _ h hF => ⟨h.2.1, hF⟩
end Jvm.Pilot.@@N@@
namespace Jvm.Pilot.@@N@@
open Jvm Jvm.ClassFile Sem Op Lib Jvm.Free Jvm.Stand Jvm.Pilot.@@N@@.Jvm.D
/-! MADE BY PROGRAM (witnessworld.py) out of the Statement's table words and the real class files: 9 classes; the members and pool entries that the words name. The judged class is class 1, her method 1. -/
namespace start1
open Jvm.ClassFile
def u (s : String) : CpInfo := .utf8 (stringToUtf16 s)
/-- a pool by its gaps: so many unusable entries, then the entry; so many at the end -/
def gap : Nat → List CpInfo → List CpInfo
  | 0, r => r
  | n + 1, r => .unusable :: gap n r
def poolList (es : List (Nat × CpInfo)) (last : Nat) : List CpInfo := es.foldr (fun e r => gap e.1 (e.2 :: r)) (gap last [])
def pool (es : List (Nat × CpInfo)) (last : Nat) : Array CpInfo := ⟨poolList es last⟩
def fileOf (pool : Array CpInfo) (this : Nat) (attrs : Array Attribute := #[]) (ms : Array MethodInfo := #[]) (fl : Nat := 33) (sup : Nat := 0) (ifs : Array Nat := #[]) (fds : Array FieldInfo := #[]) : ClassFile where
  minorVersion := 0
  majorVersion := 65
  constantPool := pool
  accessFlags := fl
  thisClass := this
  superClass := sup
  interfaces := ifs
  fields := fds
  methods := ms
  attributes := attrs
def plain (name : String) (sup : Option ClassId) : Class where
  name := name
  kind := .ordinary
  loader := none
  accessFlags := 33
  super := sup
  interfaces := #[]
  cf := none
  fields := #[]
  methods := #[]
  instanceTypes := #[]
  staticTypes := #[]
  resolved := #[]
  callSites := []
  init := .initialized
  statics := none
  mirror := none

def pool0 : Array CpInfo := pool [(5, u "<init>"), (0, u "()V"), (1, .class_ 10), (1, u "java/lang/Object")] 113

def k0m0 : Method := { name := "<init>", desc := "()V", sig := { parameters := [], returnType := none }, accessFlags := 1, code := none }
/-- java/lang/Object -/
def k0 : Class := { plain "java/lang/Object" none with
  accessFlags := 33
  interfaces := #[]
  cf := some (fileOf pool0 8 #[] #[{ accessFlags := 1, nameIndex := 5, descriptorIndex := 6, attributes := #[] }] 33 0 #[] #[])
  fields := #[]
  methods := #[k0m0]
  instanceTypes := #[]
  staticTypes := #[]
  resolved := Array.replicate 124 none
  statics := none }

def pool1 : Array CpInfo := pool [(2, .class_ 4), (1, u "java/lang/Object"), (0, u "<init>"), (0, u "()V"), (0, .methodref 8 9), (0, .class_ 10), (0, .nameAndType 11 12), (0, u "com/example/stubsmith/stubsmith/runtime/SpareArray"), (0, u "keeps"), (0, u "(I)Z"), (0, .integer 69632), (0, .integer 69633), (0, .class_ 16), (0, u "com/example/stubsmith/stubsmith/runtime/SpareArrayKeepsPinLaw"), (2, u "law"), (0, u "(III)Z")] 3

def k1m0 : Method := { name := "<init>", desc := "()V", sig := { parameters := [], returnType := none }, accessFlags := 1, code := none }
def k1c1 : Code := { maxStack := 2, maxLocals := 5, code := code, exceptionTable := #[], attributes := #[] }
def k1m1 : Method := { name := "law", desc := "(III)Z", sig := { parameters := [.int, .int, .int], returnType := some .boolean }, accessFlags := 9, code := some k1c1 }
/-- com/example/stubsmith/stubsmith/runtime/SpareArrayKeepsPinLaw -/
def k1 : Class := { plain "com/example/stubsmith/stubsmith/runtime/SpareArrayKeepsPinLaw" (some 0) with
  accessFlags := 49
  interfaces := #[]
  cf := some (fileOf pool1 15 #[] #[{ accessFlags := 1, nameIndex := 5, descriptorIndex := 6, attributes := #[] }, { accessFlags := 9, nameIndex := 19, descriptorIndex := 20, attributes := #[] }] 49 2 #[] #[])
  fields := #[]
  methods := #[k1m0, k1m1]
  instanceTypes := #[]
  staticTypes := #[]
  resolved := Array.replicate 24 none
  statics := none }

def pool2 : Array CpInfo := pool [(4, .class_ 6), (1, u "java/lang/Object"), (0, u "<init>"), (0, u "()V"), (4, .class_ 15), (1, u "com/example/stubsmith/stubsmith/runtime/SpareArray"), (0, u "spare"), (0, u "Ljava/util/concurrent/atomic/AtomicReference;"), (0, .integer 69632), (2, u "expected"), (0, u "I"), (12, u "keeps"), (0, u "(I)Z"), (2, u "last"), (4, u "SHORTEST"), (2, u "LONGEST")] 12

def k2m0 : Method := { name := "<init>", desc := "()V", sig := { parameters := [], returnType := none }, accessFlags := 0, code := none }
def k2c1 : Code := { maxStack := 2, maxLocals := 1, code := prog_102_method_2_code, exceptionTable := #[], attributes := #[] }
def k2m1 : Method := { name := "keeps", desc := "(I)Z", sig := { parameters := [.int], returnType := some .boolean }, accessFlags := 8, code := some k2c1 }
/-- com/example/stubsmith/stubsmith/runtime/SpareArray -/
def k2 : Class := { plain "com/example/stubsmith/stubsmith/runtime/SpareArray" (some 0) with
  accessFlags := 48
  interfaces := #[]
  cf := some (fileOf pool2 13 #[] #[{ accessFlags := 0, nameIndex := 7, descriptorIndex := 8, attributes := #[] }, { accessFlags := 8, nameIndex := 35, descriptorIndex := 36, attributes := #[] }] 48 4 #[] #[{ accessFlags := 24, nameIndex := 44, descriptorIndex := 22, attributes := #[] }, { accessFlags := 24, nameIndex := 47, descriptorIndex := 22, attributes := #[] }, { accessFlags := 18, nameIndex := 16, descriptorIndex := 17, attributes := #[] }, { accessFlags := 66, nameIndex := 39, descriptorIndex := 22, attributes := #[] }, { accessFlags := 66, nameIndex := 21, descriptorIndex := 22, attributes := #[] }])
  fields := #[{ name := "SHORTEST", type := .int, accessFlags := 24, slot := 0, constantValue := 0 }, { name := "LONGEST", type := .int, accessFlags := 24, slot := 1, constantValue := 0 }, { name := "spare", type := (.object "java/util/concurrent/atomic/AtomicReference"), accessFlags := 18, slot := 0, constantValue := 0 }, { name := "last", type := .int, accessFlags := 66, slot := 1, constantValue := 0 }, { name := "expected", type := .int, accessFlags := 66, slot := 2, constantValue := 0 }]
  methods := #[k2m0, k2m1]
  instanceTypes := #[(.object "java/util/concurrent/atomic/AtomicReference"), .int, .int]
  staticTypes := #[.int, .int]
  resolved := Array.replicate 60 none
  statics := none }

def pool3 : Array CpInfo := pool [(1, u "java/lang/Cloneable"), (0, .class_ 1), (0, u "java/lang/Object"), (0, .class_ 3)] 3

/-- java/lang/Cloneable -/
def k3 : Class := { plain "java/lang/Cloneable" (some 0) with
  accessFlags := 1537
  interfaces := #[]
  cf := some (fileOf pool3 2 #[] #[] 1537 4 #[] #[])
  fields := #[]
  methods := #[]
  instanceTypes := #[]
  staticTypes := #[]
  resolved := Array.replicate 8 none
  statics := none }

def pool4 : Array CpInfo := pool [(1, u "java/io/Serializable"), (0, .class_ 1), (0, u "java/lang/Object"), (0, .class_ 3)] 3

/-- java/io/Serializable -/
def k4 : Class := { plain "java/io/Serializable" (some 0) with
  accessFlags := 1537
  interfaces := #[]
  cf := some (fileOf pool4 2 #[] #[] 1537 4 #[] #[])
  fields := #[]
  methods := #[]
  instanceTypes := #[]
  staticTypes := #[]
  resolved := Array.replicate 8 none
  statics := none }

/-- the primitive byte -/
def k5 : Class := { plain "byte" none with kind := .primitive 'B', accessFlags := 0x411 }
/-- [B -/
def k6 : Class := { plain "[B" (some 0) with kind := .array 5 .byte, interfaces := #[3, 4], accessFlags := 1041 }

/-- the primitive int -/
def k7 : Class := { plain "int" none with kind := .primitive 'I', accessFlags := 0x411 }
/-- [I -/
def k8 : Class := { plain "[I" (some 0) with kind := .array 7 .int, interfaces := #[3, 4], accessFlags := 1041 }

def heap : Heap := #[]
def classes : Array Class := #[k0, k1, k2, k3, k4, k5, k6, k7, k8]
def interned : List (Array UInt16 × Addr) := []
def slotsUsed : Nat := 0
def theMethod : MethodId := ⟨1, 1⟩
def args0 : Array Value := #[.int 5, .int 7, .int 9]
def aboutOver (below : List Frame) : State where
  vm := { classes := classes, interned := interned.toArray }
  heap := heap
  slotsUsed := slotsUsed
  threads := #[{ frames := .invoking theMethod args0 :: below }]
def below0 : List Frame := [.native { method := ⟨0, 0⟩, args := #[] }]
def about1 : State := aboutOver below0
def p0 : Program := .bare "" "" ""
def e0 : Env := launch0.env 0 0 0
theorem w_frames : about1.frames = Frame.invoking theMethod args0 :: below0 := rfl
set_option maxRecDepth 65536 in
theorem w_args : argsFit about1.vm theMethod args0 = true := by decide +kernel
set_option maxRecDepth 65536 in
theorem w_heap : heapFits about1 = true := by decide +kernel
set_option maxRecDepth 65536 in
theorem w_runnable : about1.curStatus? = some .runnable := by decide +kernel
set_option maxRecDepth 65536 in
theorem w_alone : about1.alone = true := by decide +kernel
set_option maxRecDepth 65536 in
theorem w_named : about1.methodNamed? x = some theMethod := by decide +kernel
set_option maxRecDepth 65536 in
theorem w_hears : about1.hears theMethod below0 = true := by decide +kernel
set_option maxRecDepth 65536 in
theorem w_ripe : about1.ripe theMethod args0 below0 = true := by decide +kernel
theorem w_running : about1.status = .running := rfl
set_option maxRecDepth 65536 in
theorem w_room : about1.hasRoom e0.platform room_1 = true :=
  launch0.hasRoom_least _ room_1 (by decide +kernel) (by decide +kernel) (by decide +kernel) (by decide +kernel) (by decide +kernel) (by decide +kernel)
theorem allAtoms_all (ts : List Jvm.Cond) (a : Array Jvm.Value) (st : Jvm.State) : (allAtoms ts).before a st = ts.all (fun c => c.before a st) := by
  induction ts with
  | nil => rfl
  | cons c t ih =>
    show (Jvm.Cond.and c (allAtoms t)).before a st = _
    rw [Jvm.Cond.before_and, ih, List.all_cons]
def words1 : List Jvm.Cond := Jvm.Cond.code x code maxLocals ret :: tables_1
/-- a 'code' word, met by the world's own term for the bytes: nothing is compared byte by byte -/
theorem code_word {y : MethodName} {bytes : ByteArray} {mx : Nat} {rt : Option FieldType} {a : Array Value} {s : State} {m : MethodId} {meth : Method} {c : Code} (h1 : s.methodNamed? y = some m) (h2 : s.vm.method? m = some meth) (h3 : meth.code = some c) (h4 : c.code = bytes)
    (h5 : (c.maxLocals == mx && c.exceptionTable.isEmpty && decide (c.maxStack ≤ mostOperands) && decide (meth.sig.returnType = rt) && !meth.locks && decide (parseMethodDescriptor y.desc = some meth.sig)) = true) : (Jvm.Cond.code y bytes mx rt).before a s = true := by
  simp only [Bool.and_eq_true, beq_iff_eq, Bool.not_eq_true', decide_eq_true_eq] at h5
  obtain ⟨⟨⟨⟨⟨g1, g2⟩, g3⟩, g4⟩, g5⟩, g6⟩ := h5
  simp [Cond.before, Cond.holds, Cond.value, h1, h2, h3, h4, g1, g2, g3, g4, g5, g6]
def isCode : Jvm.Cond → Bool
  | .code _ _ _ _ => true
  | _ => false
theorem all_split {L : List Jvm.Cond} {P : Jvm.Cond → Bool} (h1 : L.all (fun c => isCode c || P c) = true) (h2 : ∀ c ∈ L.filter isCode, P c = true) : L.all P = true := by
  refine List.all_eq_true.mpr fun c hc => ?_
  have h := List.all_eq_true.mp h1 c hc
  rcases Bool.eq_false_or_eq_true (isCode c) with hi | hi
  · exact h2 c (List.mem_filter.mpr ⟨hc, hi⟩)
  · simpa [hi] using h
set_option maxRecDepth 65536 in
theorem w_c0 : (Jvm.Cond.code x code maxLocals ret).before args0 about1 = true := code_word (m := ⟨1, 1⟩) (meth := k1m1) (c := k1c1) (by decide +kernel) rfl rfl rfl (by decide +kernel)
set_option maxRecDepth 65536 in
theorem w_c1 : (Jvm.Cond.code ({ cls := "com/example/stubsmith/stubsmith/runtime/SpareArray", name := "keeps", desc := "(I)Z" } : Jvm.MethodName) prog_102_method_2_code (1 : Nat) (Option.some Jvm.ClassFile.FieldType.boolean)).before args0 about1 = true := code_word (m := ⟨2, 1⟩) (meth := k2m1) (c := k2c1) (by decide +kernel) rfl rfl rfl (by decide +kernel)
def codes1 : List Jvm.Cond := [Jvm.Cond.code x code maxLocals ret, Jvm.Cond.code ({ cls := "com/example/stubsmith/stubsmith/runtime/SpareArray", name := "keeps", desc := "(I)Z" } : Jvm.MethodName) prog_102_method_2_code (1 : Nat) (Option.some Jvm.ClassFile.FieldType.boolean)]
set_option maxRecDepth 65536 in
theorem codes_eq : words1.filter isCode = codes1 := rfl
theorem w_codes : ∀ c ∈ words1.filter isCode, c.before args0 about1 = true := by
  rw [codes_eq]
  intro c hc
  simp only [codes1, List.mem_cons, List.not_mem_nil, or_false] at hc
  rcases hc with rfl | rfl
  · exact w_c0
  · exact w_c1
set_option maxRecDepth 65536 in
theorem w_t1 : words1.all (fun c => isCode c || c.before args0 about1) = true := by decide +kernel
theorem w_tables : (allAtoms (Jvm.Cond.code x code maxLocals ret :: tables_1)).before args0 about1 = true := by
  rw [allAtoms_all]
  show words1.all (fun c => c.before args0 about1) = true
  refine all_split ?_ w_codes
  rw [w_t1]
set_option maxRecDepth 65536 in
theorem w_case : (Jvm.Cond.and given_1 narrow_1).before args0 about1 = true := by decide +kernel
theorem w_applies : (headSpec (Jvm.Cond.code x code maxLocals ret :: tables_1) room_1).applies x e0.platform about1 = true :=
  (Spec.applies_iff w_frames).mpr ⟨w_running, w_runnable, w_alone, w_named, w_hears, w_ripe, w_room, w_tables⟩
theorem atStart : AtStart classFile x code maxLocals ret World_1 tables_1 room_1 Calls_1 rest_1 Pre_1 launch0 p0 e0 about1 theMethod args0 below0 :=
  ⟨lists_1, trivial, launch0.admits_env _ _ _, launch0.least_env, fairChoices_fair.cas, fairChoices_fair.clock, w_frames, w_args, w_heap, w_applies, trivial, trivial, w_case⟩
end start1
theorem witness_1 : WitnessClaimed_1 := ⟨start1.p0, start1.e0, start1.about1, start1.theMethod, start1.args0, start1.below0, start1.atStart⟩
end Jvm.Pilot.@@N@@
